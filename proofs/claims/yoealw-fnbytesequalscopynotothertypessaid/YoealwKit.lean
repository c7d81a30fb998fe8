/-
  Contracts over the loaded program that the four statements share: zzClone (8), bytes.Equal (17), Bytes.Equals (10).
-/
import Derived.Test.YoealwRows
import Derived.WalkKit
import Derived.WalkLawsBesides
import Derived.Laws.BytesArg
import Derived.Deep.QuietTactic
import Derived.BigQuiet
import Derived.OwnWalk
import Derived.OpenShut
import Derived.Below
namespace Go.Proofs.Yoealw.Kit
open Go.RowKit

theorem info5 : (Ealg.prog.info? 5).map (fun i => (i.zero, i.size, i.bytes)) = some (some (.int .u8 0), 1, 1) := by kernel_rfl

/-- The shells' word for a slice of integers that came in. -/
def IsRow (k : IntKind) (w : World) (a : Option Addr) (len cap : Nat) (zs : List Int) : Prop :=
  (a = none ∧ len = 0 ∧ cap = 0 ∧ zs = []) ∨
  ∃ x, a = some x ∧ len ≤ cap ∧ cap ≤ maxLen ∧ zs.length = cap ∧ (∀ i, i < zs.length → w.cell? (x.add i) = some (.int k (zs.getD i 0))) ∧ ∀ n ∈ zs, (Lit.int k n).wf = true

theorem cell_lt {w : World} {p : Addr} {v : Value} (h : w.cell? p = some v) : p.block < w.heap.size := by
  rcases Nat.lt_or_ge p.block w.heap.size with hn | hn
  · exact hn
  · have e : w.heap[p.block]? = none := Array.getElem?_eq_none (by omega)
    simp [World.cell?, e] at h

/-- An argument reads the same where nothing old has turned. -/
theorem IsRow.below {k : IntKind} {w w' : World} {a : Option Addr} {len cap : Nat} {zs : List Int} (h : IsRow k w a len cap zs) (hb : Below w.heap.size w w') : IsRow k w' a len cap zs := by
  rcases h with h | ⟨x, h1, h2, h3, h4, h5, h6⟩
  · exact .inl h
  · exact .inr ⟨x, h1, h2, h3, h4, fun i hi => (hb.cell (cell_lt (h5 i hi))).trans (h5 i hi), h6⟩

/-- The elements of an argument are bytes. -/
theorem IsRow.bytes {w : World} {a : Option Addr} {len cap : Nat} {zs : List Int} (h : IsRow .u8 w a len cap zs) : ∀ n ∈ zs.take len, 0 ≤ n ∧ n ≤ 255 := by
  intro n hn
  have hm : n ∈ zs := List.mem_of_mem_take hn
  rcases h with ⟨_, _, _, rfl⟩ | ⟨x, _, _, _, _, _, h6⟩
  · simp at hm
  · exact bounds_u8 (h6 n hm)

theorem IsRow.len {k : IntKind} {w : World} {a : Option Addr} {len cap : Nat} {zs : List Int} (h : IsRow k w a len cap zs) : (zs.take len).length = len ∧ len ≤ maxLen := by
  rcases h with ⟨_, rfl, _, rfl⟩ | ⟨x, _, h2, h3, h4, _, _⟩
  · exact ⟨rfl, Nat.zero_le _⟩
  · exact ⟨by simp; omega, by omega⟩

/-- A slice value with 'len' elements that are the numbers zs: nil, or at the head of a block. -/
def Row (w : World) (a : Option Addr) (len : Nat) (zs : List Int) : Prop :=
  zs.length = len ∧ ((a = none ∧ len = 0) ∨ ∃ b, a = some ⟨b, 0, none⟩ ∧ b < w.heap.size ∧ ∀ i, i < len → w.cell? ⟨b, i, none⟩ = some (.int .u8 (zs.getD i 0)))

theorem Row.below {w w' : World} {a : Option Addr} {len : Nat} {zs : List Int} (h : Row w a len zs) (hb : Below w.heap.size w w') : Row w' a len zs := by
  refine ⟨h.1, ?_⟩
  rcases h.2 with h2 | ⟨b, ha, hlt, hc⟩
  · exact .inl h2
  · exact .inr ⟨b, ha, Nat.lt_of_lt_of_le hlt hb.size, fun i hi => (hb.cell (p := ⟨b, i, none⟩) hlt).trans (hc i hi)⟩

theorem Row.drewN {w : World} {a : Option Addr} {len : Nat} {zs : List Int} (h : Row w a len zs) (n : Nat) : Row (w.drewN n) a len zs :=
  h.below (below_drewN (Below.refl _ _) n)

theorem Row.alloc {w : World} {a : Option Addr} {len : Nat} {zs : List Int} (h : Row w a len zs) (o : Obj) : Row (w.alloc o) a len zs :=
  h.below ((Below.refl _ _).alloc (Nat.le_refl _) o)

theorem Row.conv {w : World} {a : Option Addr} {len : Nat} {zs : List Int} (h : Row w a len zs) (cap : Nat) :
    (convert 22 9 (.slice a len cap)).run Ealg.prog w = .ok (.string (strOfNums zs)) w := by
  rcases h.2 with ⟨ha, hl⟩ | ⟨b, ha, hlt, hc⟩
  · have hz : zs = [] := List.eq_nil_of_length_eq_zero (by rw [h.1, hl])
    subst hz; subst ha
    exact run_convert_bytes_nil w 22 5 Ealg.underlying22 Ealg.underlying5 len cap 9 Ealg.underlying9
  · subst ha
    exact run_convert_bytes_arg w 22 5 Ealg.underlying22 Ealg.underlying5 b 0 len cap zs h.1 (fun i hi => by rw [Nat.zero_add]; exact hc i hi) 9 Ealg.underlying9

/-- Where there is an element the slice lies at the head of a block. -/
theorem Row.first {w : World} {a : Option Addr} {len : Nat} {zs : List Int} (h : Row w a len zs) (hl : 0 < len) : ∃ b, a = some ⟨b, 0, none⟩ := by
  rcases h.2 with ⟨_, h0⟩ | ⟨b, ha, _⟩
  · omega
  · exact ⟨b, ha⟩

theorem Row.cell {w : World} {b len : Nat} {zs : List Int} (h : Row w (some ⟨b, 0, none⟩) len zs) (i : Nat) (hi : i < len) : w.cell? ⟨b, i, none⟩ = some (.int .u8 (zs.getD i 0)) := by
  rcases h.2 with ⟨h0, _⟩ | ⟨b', ha, _, hc⟩
  · cases h0
  · injection ha with ha
    injection ha with ha
    subst ha
    exact hc i hi

/-- The two lists' bytes are the same. -/
def eqB (xs ys : List Int) : Bool := (strOfNums xs).toList == (strOfNums ys).toList

theorem strOfNums_toList (xs : List Int) : (strOfNums xs).toList = xs.map fun n => UInt8.ofNat n.toNat := by
  rw [ByteArray.toList_eq]; rfl

theorem byte_inj {m n : Int} (hm : 0 ≤ m ∧ m ≤ 255) (hn : 0 ≤ n ∧ n ≤ 255) (h : UInt8.ofNat m.toNat = UInt8.ofNat n.toNat) : m = n := by
  have h' := congrArg UInt8.toNat h
  simp only [UInt8.toNat_ofNat'] at h'
  omega

theorem map_byte_inj : ∀ {xs ys : List Int}, (∀ n ∈ xs, 0 ≤ n ∧ n ≤ 255) → (∀ n ∈ ys, 0 ≤ n ∧ n ≤ 255) → (xs.map fun n => UInt8.ofNat n.toNat) = (ys.map fun n => UInt8.ofNat n.toNat) → xs = ys
  | [], [], _, _, _ => rfl
  | [], _ :: _, _, _, h => by simp at h
  | _ :: _, [], _, _, h => by simp at h
  | x :: xs, y :: ys, hx, hy, h => by
    simp only [List.map_cons, List.cons.injEq] at h
    have e := byte_inj (hx x (by simp)) (hy y (by simp)) h.1
    have e2 := map_byte_inj (fun n hn => hx n (by simp [hn])) (fun n hn => hy n (by simp [hn])) h.2
    rw [e, e2]

theorem eqB_refl (xs : List Int) : eqB xs xs = true := by simp [eqB]

theorem eqB_false {xs ys : List Int} (hx : ∀ n ∈ xs, 0 ≤ n ∧ n ≤ 255) (hy : ∀ n ∈ ys, 0 ≤ n ∧ n ≤ 255) (h : xs ≠ ys) : eqB xs ys = false := by
  unfold eqB
  rw [strOfNums_toList, strOfNums_toList]
  apply Bool.eq_false_iff.2
  intro e
  exact h (map_byte_inj hx hy (by simpa using e))

theorem eqB_len {xs ys : List Int} (h : xs.length ≠ ys.length) : eqB xs ys = false := by
  unfold eqB
  rw [strOfNums_toList, strOfNums_toList]
  apply Bool.eq_false_iff.2
  intro e
  have e' := congrArg List.length (eq_of_beq e)
  simp at e'
  exact h e'

/-- bytes.Equal (17), after the shelf's template. -/
theorem bytesEqual (v1 v2 : Value) (xs ys : List Int) (w : World)
    (h1 : (convert 22 9 v1).run Ealg.prog w = .ok (.string (strOfNums xs)) w) (h2 : (convert 22 9 v2).run Ealg.prog w = .ok (.string (strOfNums ys)) w) :
    Calls Ealg.prog 17 #[v1, v2] w fun e w' => e = .returned (.bool (eqB xs ys)) ∧ w' = w := by
  unfold eqB
  go_enter Ealg.func17, Ealg.ntmps17
  go_wp2
  go_ret
  exact ⟨rfl, rfl⟩

theorem ta_bytes (a : Option Addr) (w : World) : (Instr.typeAssert (.iface 25 (.pointer a)) 33 25 true).run Ealg.prog w = .ok (.tuple #[.pointer a, .bool true]) w := by kernel_rfl
theorem ta_string (a : Option Addr) (w : World) : (Instr.typeAssert (.iface 37 (.pointer a)) 33 25 true).run Ealg.prog w = .ok (.tuple #[.pointer none, .bool false]) w := by kernel_rfl
theorem ta_array (a : Option Addr) (w : World) : (Instr.typeAssert (.iface 41 (.pointer a)) 33 25 true).run Ealg.prog w = .ok (.tuple #[.pointer none, .bool false]) w := by kernel_rfl
theorem ta_undef (a : Option Addr) (w : World) : (Instr.typeAssert (.iface 45 (.pointer a)) 33 25 true).run Ealg.prog w = .ok (.tuple #[.pointer none, .bool false]) w := by kernel_rfl
theorem ta_int (a : Option Addr) (w : World) : (Instr.typeAssert (.iface 54 (.pointer a)) 33 54 true).run Ealg.prog w = .ok (.tuple #[.pointer a, .bool true]) w := by kernel_rfl

/-- Bytes.Equals (10) at another Bytes: do the two hold the same bytes? -/
theorem equals_bytes (p q : Nat) (a1 a2 : Option Addr) (l1 c1 l2 c2 : Nat) (z1 z2 : List Int) (w : World)
    (hp : w.cell? ⟨p, 0, none⟩ = some (.slice a1 l1 c1)) (hq : w.cell? ⟨q, 0, none⟩ = some (.slice a2 l2 c2)) (r1 : Row w a1 l1 z1) (r2 : Row w a2 l2 z2) :
    Calls Ealg.prog 10 #[.pointer (some ⟨p, 0, none⟩), .iface 25 (.pointer (some ⟨q, 0, none⟩))] w fun e w' => e = .returned (.bool (eqB z1 z2)) ∧ ∃ n, w' = w.drewN n := by
  have H1 : Hid (Row w a1 l1 z1) := r1
  have H2 : Hid (Row w a2 l2 z2) := r2
  have ta := ta_bytes
  clear r1 r2
  go_enter Ealg.func10, Ealg.ntmps10
  go_wp2
  go_quiet ((go_at_call 17; exact Calls.quiet_of_same (bytesEqual _ _ z1 z2 _ ((H1.out.drewN _).conv _) ((H2.out.drewN _).conv _))))
  go_wp2
  go_ret
  exact ⟨rfl, _, rfl⟩

/-- Bytes.Equals at a String, an Array, an Undefined: never. -/
theorem equals_string (p : Nat) (a : Option Addr) (w : World) :
    Calls Ealg.prog 10 #[.pointer (some ⟨p, 0, none⟩), .iface 37 (.pointer a)] w fun e w' => e = .returned (.bool false) ∧ w' = w := by
  have ta := ta_string
  go_enter Ealg.func10, Ealg.ntmps10
  go_wp2
  go_ret
  exact ⟨rfl, rfl⟩
theorem equals_array (p : Nat) (a : Option Addr) (w : World) :
    Calls Ealg.prog 10 #[.pointer (some ⟨p, 0, none⟩), .iface 41 (.pointer a)] w fun e w' => e = .returned (.bool false) ∧ w' = w := by
  have ta := ta_array
  go_enter Ealg.func10, Ealg.ntmps10
  go_wp2
  go_ret
  exact ⟨rfl, rfl⟩
theorem equals_undef (p : Nat) (a : Option Addr) (w : World) :
    Calls Ealg.prog 10 #[.pointer (some ⟨p, 0, none⟩), .iface 45 (.pointer a)] w fun e w' => e = .returned (.bool false) ∧ w' = w := by
  have ta := ta_undef
  go_enter Ealg.func10, Ealg.ntmps10
  go_wp2
  go_ret
  exact ⟨rfl, rfl⟩

theorem eqNil (w : World) (a : Option Addr) (n c n' c' : Nat) : (binOp .eql 22 (.slice a n c) (.slice none n' c')).run Ealg.prog w = .ok (.bool a.isNone) w := Lib.run_eql_slice_nil w _ _ a n c n' c' Ealg.underlying22

theorem clone_nil (w : World) : Calls Ealg.prog 8 #[.slice none 0 0] w fun e w' => e = .returned (.slice none 0 0) ∧ w' = w := by
  have qn := eqNil
  go_enter Ealg.func8, Ealg.ntmps8
  go_wp2
  go_ret
  exact ⟨rfl, rfl⟩

/-- The numbers as cells. -/
def cellsOf (zs : List Int) : List Value := zs.map (Value.int .u8)

theorem cellsOf_length (zs : List Int) : (cellsOf zs).length = zs.length := by simp [cellsOf]
theorem cellsOf_at (zs : List Int) (i : Nat) (h : i < zs.length) : (cellsOf zs)[i]? = some (.int .u8 (zs.getD i 0)) := by
  simp [cellsOf, List.getD, h]

theorem cells_done {zs : List Int} {len : Nat} {xs : List Value} (hz : len ≤ zs.length) (hx : xs.length = len * 1) (h : ∀ j, j < len → xs[j]? = some (.int .u8 (zs.getD j 0))) : xs = cellsOf (zs.take len) := by
  apply List.ext_getElem?
  intro j
  by_cases hj : j < len
  · rw [h j hj, cellsOf_at _ _ (by simp; omega)]
    simp [List.getD, hj]
  · rw [List.getElem?_eq_none (by omega), List.getElem?_eq_none (by rw [cellsOf_length]; simp; omega)]

theorem set_step {zs : List Int} {xs : List Value} {k : Nat} (hn : k < xs.length) (h : ∀ j, j < k → xs[j]? = some (.int .u8 (zs.getD j 0))) : ∀ j, j < k + 1 → (xs.set k (.int .u8 (zs.getD k 0)))[j]? = some (.int .u8 (zs.getD j 0)) := by
  intro j hj
  rw [List.getElem?_set]
  by_cases e : k = j
  · subst e; rw [if_pos rfl, if_pos hn]
  · rw [if_neg e]; exact h j (by omega)

theorem clone_some (b off len cap : Nat) (zs : List Int) (w : World) (hl : len ≤ 1048576) (hz : len ≤ zs.length) (hc : ∀ i, i < len → w.cell? ⟨b, off + i, none⟩ = some (.int .u8 (zs.getD i 0))) (hb : b < w.heap.size) :
    Calls Ealg.prog 8 #[.slice (some ⟨b, off, none⟩) len cap] w fun e w' => e = .returned (.slice (some ⟨w.heap.size, 0, none⟩) len len) ∧ w'.ownsRow w.heap.size 5 1 (.slice (some ⟨w.heap.size, 0, none⟩) len len) len (cellsOf (zs.take len)) ∧ Below w.heap.size w w' := by
  have qn := eqNil
  obtain ⟨i0, hi, hz0, hz1, hz2⟩ := info_parts info5
  go_enter Ealg.func8, Ealg.ntmps8
  go_wp2_with (at_make; refine wpList_make_full _ rfl _ _ 22 rfl w.heap.size 5 i0 (.int .u8 0) 1 Ealg.underlying22 hi hz0 hz1 _ _ _ _ len rfl rfl (by omega) (by omega) (by rw [hz2]; omega) (by unfold maxLen; omega) (Nat.le_refl _) ?_)
  intro w1 hown hgrow
  have hb1 : Below w.heap.size w w1 := (Below.refl _ _).grown hgrow (Nat.le_refl _) (fun k h => by cases h)
  clear hgrow
  go_wp2
  go_loopw [4] (fun i wr => ∃ (k : Nat) (xs : List Value), k ≤ len ∧ i = .int .i64 k ∧ wr.ownsRow w.heap.size 5 1 (.slice (some ⟨w.heap.size, 0, none⟩) len len) len xs ∧ (∀ j, j < k → xs[j]? = some (.int .u8 (zs.getD j 0))) ∧ Below w.heap.size w wr) (fun i _ => len - (intOf i).toNat)
  case atStart => exact ⟨0, _, Nat.zero_le _, rfl, hown, fun j hj => absurd hj (Nat.not_lt_zero _), hb1⟩
  case round =>
    clear hown hb1
    obtain ⟨k, xs, hk, rfl, hown, hx, hbel⟩ := hrel
    have hxl : xs.length = len * 1 := hown.1
    by_cases hlt : k < len
    · have c1 : wr.cell? ⟨b, off + k, none⟩ = some (.int .u8 (zs.getD k 0)) := (hbel.cell (p := ⟨b, off + k, none⟩) hb).trans (hc k hlt)
      have c2 : wr.cell? ⟨w.heap.size, k, none⟩ = some (xs[k]'(by omega)) := by rw [hown.cellAt k (by omega)]; exact List.getElem?_eq_getElem _
      have c3 : wr.frozen? ⟨w.heap.size, k, none⟩ = false := hown.frozenAt k
      have R := hown.stored k (.int .u8 (zs.getD k 0))
      have R2 := hbel.setCell (p := ⟨w.heap.size, k, none⟩) (Nat.le_refl _) (.int .u8 (zs.getD k 0))
      have R3 := set_step (by omega) hx
      have HR : Hid ((wr.setCell ⟨w.heap.size, k, none⟩ (.int .u8 (zs.getD k 0))).ownsRow w.heap.size 5 1 (.slice (some ⟨w.heap.size, 0, none⟩) len len) len (xs.set k (.int .u8 (zs.getD k 0))) ∧ Below w.heap.size w (wr.setCell ⟨w.heap.size, k, none⟩ (.int .u8 (zs.getD k 0))) ∧ ∀ j, j < k + 1 → (xs.set k (.int .u8 (zs.getD k 0)))[j]? = some (.int .u8 (zs.getD j 0))) := ⟨R.1, R2, R3⟩
      clear R R2 R3 hc hown hx hbel
      go_wp2
      go_roundw
      case rel => exact ⟨k + 1, _, by omega, by go_num, HR.out.1, HR.out.2.2, HR.out.2.1⟩
      case measure => simp [intOf]; omega
    · have hkl : k = len := by omega
      subst hkl
      have HF : Hid (xs = cellsOf (zs.take k)) := cells_done hz hxl hx
      clear hc hx
      go_wp2
      go_ret
      exact ⟨rfl, by rw [← HF.out]; exact hown, hbel⟩

theorem clone_empty (x : Addr) (cap : Nat) (w : World) :
    Calls Ealg.prog 8 #[.slice (some x) 0 cap] w fun e w' => e = .returned (.slice (some ⟨w.heap.size, 0, none⟩) 0 0) ∧ w'.ownsRow w.heap.size 5 1 (.slice (some ⟨w.heap.size, 0, none⟩) 0 0) 0 [] ∧ Below w.heap.size w w' := by
  have qn := eqNil
  obtain ⟨i0, hi, hz0, hz1, hz2⟩ := info_parts info5
  go_enter Ealg.func8, Ealg.ntmps8
  go_wp2_with (at_make; refine wpList_make_full _ rfl _ _ 22 rfl w.heap.size 5 i0 (.int .u8 0) 1 Ealg.underlying22 hi hz0 hz1 _ _ _ _ 0 rfl rfl (by omega) (by omega) (by rw [hz2]; omega) (by unfold maxLen; omega) (Nat.le_refl _) ?_)
  intro w1 hown hgrow
  have hb1 : Below w.heap.size w w1 := (Below.refl _ _).grown hgrow (Nat.le_refl _) (fun k h => by cases h)
  clear hgrow
  go_wp2
  go_loop [4] (fun i => i = .int .i64 0) (fun _ => 0)
  case atStart => rfl
  case round =>
    subst hrel
    go_wp2
    go_ret
    exact ⟨rfl, by rw [toList_madeCells_one] at hown; exact hown, hb1⟩

/-- What zzClone hands back: a slice with no spare room, in a block of its own (number B) or nil. -/
def Own (B : Nat) (w : World) (a : Option Addr) (len : Nat) (zs : List Int) : Prop :=
  zs.length = len ∧ ((a = none ∧ len = 0) ∨ (a = some ⟨B, 0, none⟩ ∧ w.ownsRow B 5 1 (.slice (some ⟨B, 0, none⟩) len len) len (cellsOf zs)))

theorem Own.row {B : Nat} {w : World} {a : Option Addr} {len : Nat} {zs : List Int} (h : Own B w a len zs) : Row w a len zs := by
  refine ⟨h.1, ?_⟩
  rcases h.2 with h2 | ⟨ha, ho⟩
  · exact .inl h2
  · exact .inr ⟨B, ha, (ho.lt B rfl).2, fun i hi => by rw [ho.cellAt i (by omega), cellsOf_at _ _ (by rw [h.1]; exact hi)]⟩

theorem clone_any (a : Option Addr) (len cap : Nat) (zs : List Int) (w : World) (h : IsRow .u8 w a len cap zs) (hl : len ≤ 1048576) :
    Calls Ealg.prog 8 #[.slice a len cap] w fun e w' => ∃ a', e = .returned (.slice a' len len) ∧ Own w.heap.size w' a' len (zs.take len) ∧ Below w.heap.size w w' := by
  have hlen := h.len.1
  rcases h with ⟨rfl, rfl, rfl, rfl⟩ | ⟨x, rfl, h2, h3, h4, h5, h6⟩
  · refine (clone_nil w).mono ?_
    rintro e w' ⟨rfl, rfl⟩
    exact ⟨none, rfl, ⟨rfl, .inl ⟨rfl, rfl⟩⟩, Below.refl _ _⟩
  · by_cases h0 : len = 0
    · subst h0
      refine (clone_empty x cap w).mono ?_
      rintro e w' ⟨rfl, ho, hb⟩
      exact ⟨_, rfl, ⟨hlen, .inr ⟨rfl, by simpa [cellsOf] using ho⟩⟩, hb⟩
    · obtain ⟨b, off, rfl, hc⟩ := ints_at h5 (by omega)
      refine (clone_some b off len cap zs w hl (by omega) (fun i hi => hc i (by omega)) (by simpa using cell_lt (hc 0 (by omega)))).mono ?_
      rintro e w' ⟨rfl, ho, hb⟩
      exact ⟨_, rfl, ⟨hlen, .inr ⟨rfl, ho⟩⟩, hb⟩

end Go.Proofs.Yoealw.Kit
