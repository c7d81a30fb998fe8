/-
  The proof of 'Rows.FnBytesEqualsModelSaid'. The frame is the given shell's; the walk goes by the contracts of YoealwKit.
-/
import Derived.Test.YoealwRows
import Derived.Test.YoealwKit
import Derived.WalkKit
import Derived.ProofKit
import Derived.OpenShut
import Derived.ShutString
import Derived.ChangeOld
import Derived.Below
namespace Go.Proofs.Yoealw.fnBytesEqualsModel
open Go.ChangeShapes Go.WideShapes Go.ChangeAt Go.RowKit
open Go.ChangeMaps (open_string shut_string)
set_option linter.unusedVariables false

theorem own : ownKnob Ealg.prog.godebug = none := by kernel_rfl
theorem laidOut : laidOutB Ealg.prog = true := by kernel_rfl

open Kit

theorem zz12_yes (a0 a1 : Option Addr) (l0 c0 l1 c1 : Nat) (w : World) (h : l0 + l1 ≤ 1048576) :
    Calls Ealg.prog 12 #[.slice a0 l0 c0, .slice a1 l1 c1] w fun e w' => e = .returned (.bool true) ∧ w' = w := by
  go_enter Ealg.func12, Ealg.ntmps12
  go_wp2
  go_ret
  exact ⟨rfl, rfl⟩

theorem zz12_no (a0 a1 : Option Addr) (l0 c0 l1 c1 : Nat) (w : World) (h : 1048576 < l0 + l1) (m0 : l0 ≤ maxLen) (m1 : l1 ≤ maxLen) :
    Calls Ealg.prog 12 #[.slice a0 l0 c0, .slice a1 l1 c1] w fun e w' => e = .returned (.bool false) ∧ w' = w := by
  unfold maxLen at m0 m1
  by_cases h0 : l0 ≤ 1048576
  · by_cases h1 : l1 ≤ 1048576
    · go_enter Ealg.func12, Ealg.ntmps12
      go_wp2
      go_ret
      exact ⟨rfl, rfl⟩
    · go_enter Ealg.func12, Ealg.ntmps12
      go_wp2
      go_ret
      exact ⟨rfl, rfl⟩
  · go_enter Ealg.func12, Ealg.ntmps12
    go_wp2
    go_ret
    exact ⟨rfl, rfl⟩

/-- The world with the two boxes 'x := &Bytes{a}; y := &Bytes{b}'. -/
abbrev boxes (W : World) (a b : Option Addr) (l0 l1 : Nat) : World := (W.alloc (.cells #[.slice a l0 l0] 29)).alloc (.cells #[.slice b l1 l1] 29)

theorem boxes_fst (W : World) (a b : Option Addr) (l0 l1 n : Nat) : ((boxes W a b l0 l1).drewN n).cell? ⟨W.heap.size, 0, none⟩ = some (.slice a l0 l0) := by
  show (boxes W a b l0 l1).cell? _ = _
  rw [World.cell?_alloc_past _ _ _ (by simp), World.cell?_alloc_at _ _ _ _ rfl]; rfl
theorem boxes_snd (W : World) (a b : Option Addr) (l0 l1 n : Nat) : ((boxes W a b l0 l1).drewN n).cell? ⟨W.heap.size + 1, 0, none⟩ = some (.slice b l1 l1) := by
  show (boxes W a b l0 l1).cell? _ = _
  rw [World.cell?_alloc_at _ _ _ _ (by simp)]; rfl

theorem fwd (W : World) (a b : Option Addr) (l0 l1 : Nat) (x0 x1 : List Int) (r0 : Row W a l0 x0) (r1 : Row W b l1 x1) :
    Calls Ealg.prog 10 #[.pointer (some ⟨W.heap.size, 0, none⟩), .iface 25 (.pointer (some ⟨W.heap.size + 1, 0, none⟩))] (boxes W a b l0 l1) fun e w' => e = .returned (.bool (eqB x0 x1)) ∧ ∃ n, w' = (boxes W a b l0 l1).drewN n :=
  equals_bytes _ _ a b l0 l0 l1 l1 x0 x1 _ (boxes_fst W a b l0 l1 0) (boxes_snd W a b l0 l1 0) ((r0.alloc _).alloc _) ((r1.alloc _).alloc _)

theorem bwd (W : World) (a b : Option Addr) (l0 l1 n : Nat) (x0 x1 : List Int) (r0 : Row W a l0 x0) (r1 : Row W b l1 x1) :
    Calls Ealg.prog 10 #[.pointer (some ⟨W.heap.size + 1, 0, none⟩), .iface 25 (.pointer (some ⟨W.heap.size, 0, none⟩))] ((boxes W a b l0 l1).drewN n) fun e w' => e = .returned (.bool (eqB x1 x0)) ∧ ∃ m, w' = ((boxes W a b l0 l1).drewN n).drewN m :=
  equals_bytes _ _ b a l1 l1 l0 l0 x1 x0 _ (boxes_snd W a b l0 l1 n) (boxes_fst W a b l0 l1 n) (((r1.alloc _).alloc _).drewN n) (((r0.alloc _).alloc _).drewN n)

theorem boxes_below {w W : World} (h : Below w.heap.size w W) (a b : Option Addr) (l0 l1 n : Nat) : Below w.heap.size w ((boxes W a b l0 l1).drewN n) :=
  below_drewN ((h.alloc h.size _).alloc (by have := h.size; simp; omega) _) n

theorem all_eq {x0 x1 : List Int} {len : Nat} (h0 : x0.length = len) (h1 : x1.length = len) (h : ∀ j, j < len → x0.getD j 0 = x1.getD j 0) : x0 = x1 := by
  apply List.ext_getElem (by omega)
  intro j hj hj'
  have := h j (by omega)
  simpa [List.getD, hj, hj'] using this

/-! ### THE WALK -/
theorem walk (a0 : Option Addr) (len0 cap0 : Nat) (z0 : List Int) (a1 : Option Addr) (len1 cap1 : Nat) (z1 : List Int) (w : World) (w0 : IsRow .u8 w a0 len0 cap0 z0) (w1 : IsRow .u8 w a1 len1 cap1 z1) :
    Calls Ealg.prog 4 #[.slice a0 len0 cap0, .slice a1 len1 cap1] w fun e w' => e = .returned (.bool true) ∧ Below w.heap.size w w' := by
  have m0 := w0.len
  have m1 := w1.len
  by_cases hs : len0 + len1 ≤ 1048576
  · have b0 := w0.bytes
    have b1 := w1.bytes
    have H0 : Hid (IsRow .u8 w a0 len0 cap0 z0) := w0
    have H1 : Hid (IsRow .u8 w a1 len1 cap1 z1) := w1
    obtain ⟨x0, hx0⟩ : ∃ x, x = z0.take len0 := ⟨_, rfl⟩
    obtain ⟨x1, hx1⟩ : ∃ x, x = z1.take len1 := ⟨_, rfl⟩
    have E0 : Hid (x0 = z0.take len0) := hx0
    have E1 : Hid (x1 = z1.take len1) := hx1
    rw [← hx0] at m0 b0
    rw [← hx1] at m1 b1
    clear hx0 hx1 w0 w1
    go_enter Ealg.func4, Ealg.ntmps4
    go_wp2_with fail
    refine (zz12_yes _ _ _ _ _ _ _ hs).mono ?_
    rintro e w ⟨rfl, rfl⟩
    go_wp2_with fail
    refine (clone_any _ _ _ _ _ H0.out (by omega)).mono ?_
    rintro e wa ⟨a, rfl, oa, ba⟩
    rw [← E0.out] at oa
    have HA : Hid (Row wa a len0 x0 ∧ Below w.heap.size w wa) := ⟨oa.row, ba⟩
    clear oa ba
    go_wp2_with fail
    refine (clone_any _ _ _ _ _ (H1.out.below HA.out.2) (by omega)).mono ?_
    rintro e wb ⟨b, rfl, ob, bb⟩
    rw [← E1.out] at ob
    have HB : Hid (Row wb a len0 x0 ∧ Row wb b len1 x1 ∧ Below w.heap.size w wb) := ⟨HA.out.1.below bb, ob.row, HA.out.2.trans (bb.mono HA.out.2.size)⟩
    clear HA ob bb H0 H1 E0 E1 wa
    by_cases hl : len0 = len1
    · subst hl
      go_wp2
      go_loopw [5, 6] (fun v i wr => ∃ k : Nat, k ≤ len0 ∧ i = .int .i64 k ∧ v = .bool true ∧ (∀ j, j < k → x0.getD j 0 = x1.getD j 0) ∧ Row wr a len0 x0 ∧ Row wr b len0 x1 ∧ Below w.heap.size w wr) (fun _ i _ => len0 - (intOf i).toNat)
      case atStart => exact ⟨0, Nat.zero_le _, rfl, rfl, fun j hj => absurd hj (Nat.not_lt_zero _), HB.out.1, HB.out.2.1, HB.out.2.2⟩
      case round =>
        obtain ⟨k, hk, rfl, rfl, heq, ra, rb, hbel⟩ := hrel
        clear HB
        by_cases hlt : k < len0
        · obtain ⟨p, rfl⟩ := ra.first (by omega)
          obtain ⟨q, rfl⟩ := rb.first (by omega)
          have ca := ra.cell k hlt
          have cb := rb.cell k hlt
          have HR : Hid (Row wr (some ⟨p, 0, none⟩) len0 x0 ∧ Row wr (some ⟨q, 0, none⟩) len0 x1 ∧ Below w.heap.size w wr) := ⟨ra, rb, hbel⟩
          have HE : Hid (∀ j, j < k → x0.getD j 0 = x1.getD j 0) := heq
          clear ra rb hbel heq
          obtain ⟨u, hu⟩ : ∃ u, u = x0.getD k 0 := ⟨_, rfl⟩
          obtain ⟨v, hv⟩ : ∃ v, v = x1.getD k 0 := ⟨_, rfl⟩
          rw [← hu] at ca
          rw [← hv] at cb
          have HU : Hid (u = x0.getD k 0 ∧ v = x1.getD k 0) := ⟨hu, hv⟩
          clear hu hv
          by_cases he : u = v
          · subst he
            go_wp2
            go_quiet (fail)
            go_wp2
            go_roundw
            case rel =>
              refine ⟨k + 1, by omega, by go_num, rfl, fun j hj => ?_, HR.out.1.drewN _, HR.out.2.1.drewN _, below_drewN HR.out.2.2 _⟩
              by_cases e : j = k
              · subst e; exact HU.out.1.symm.trans HU.out.2
              · exact HE.out j (by omega)
            case measure => simp [intOf]; omega
          · have hne : (u != v) = true := by simpa using he
            have e0 : eqB x0 x1 = false := eqB_false b0 b1 (fun h => he (by rw [HU.out.1, HU.out.2, h]))
            have e1 : eqB x1 x0 = false := eqB_false b1 b0 (fun h => he (by rw [HU.out.1, HU.out.2, h]))
            clear he
            go_wp2
            go_quiet (fail)
            go_wp2_with fail
            refine (fwd (wr.drewN nq) _ _ _ _ x0 x1 (HR.out.1.drewN nq) (HR.out.2.1.drewN nq)).mono ?_
            rintro e w' ⟨rfl, n, rfl⟩
            go_wp2_with fail
            refine (bwd (wr.drewN nq) _ _ _ _ _ x0 x1 (HR.out.1.drewN nq) (HR.out.2.1.drewN nq)).mono ?_
            rintro e w' ⟨rfl, m, rfl⟩
            go_wp2
            go_ret
            exact ⟨rfl, boxes_below (below_drewN HR.out.2.2 nq) _ _ _ _ _⟩
        · have hkl : k = len0 := by omega
          subst hkl
          have hx : x0 = x1 := all_eq m0.1 m1.1 heq
          subst hx
          have e0 : eqB x0 x0 = true := eqB_refl _
          have HB : Hid (Row wr a k x0 ∧ Row wr b k x0 ∧ Below w.heap.size w wr) := ⟨ra, rb, hbel⟩
          clear ra rb hbel heq
          go_wp2_with fail
          refine (fwd _ _ _ _ _ _ _ HB.out.1 HB.out.2.1).mono ?_
          rintro e w' ⟨rfl, n, rfl⟩
          go_wp2_with fail
          refine (bwd _ _ _ _ _ _ _ _ HB.out.1 HB.out.2.1).mono ?_
          rintro e w' ⟨rfl, m, rfl⟩
          go_wp2
          go_ret
          exact ⟨rfl, boxes_below HB.out.2.2 _ _ _ _ _⟩
    · have hd : ((len0 : Int) == (len1 : Int)) = false := by simp; omega
      have e0 : eqB x0 x1 = false := eqB_len (by omega)
      have e1 : eqB x1 x0 = false := eqB_len (by omega)
      go_wp2_with fail
      refine (fwd _ _ _ _ _ _ _ HB.out.1 HB.out.2.1).mono ?_
      rintro e w' ⟨rfl, n, rfl⟩
      go_wp2_with fail
      refine (bwd _ _ _ _ _ _ _ _ HB.out.1 HB.out.2.1).mono ?_
      rintro e w' ⟨rfl, m, rfl⟩
      go_wp2
      go_ret
      exact ⟨rfl, boxes_below HB.out.2.2 _ _ _ _ _⟩
  · have hn : 1048576 < len0 + len1 := by omega
    go_enter Ealg.func4, Ealg.ntmps4
    go_wp2_with fail
    refine (zz12_no _ _ _ _ _ _ _ hn m0.2 m1.2).mono ?_
    rintro e w' ⟨rfl, rfl⟩
    go_wp2
    go_ret
    exact ⟨rfl, Below.refl _ _⟩

/-! ### THE ROW's STEP (the shell's) -/
set_option maxRecDepth 100000 in
theorem lifted (os : Os) (started : os.Started) (H : Type) (enc : TypeId × Value → H) :
    ReturnsInHanded {} Ealg.checked os 4 .any (Rows.fnBytesEqualsModelSpec.pre6 enc Ealg.prog Ealg.f4 Rows.fnBytesEqualsModelRow.domain false) (Rows.fnBytesEqualsModelSpec.post enc Ealg.prog Ealg.f4 false true false false) := by
  refine returnsInHanded_of_change (C := Ealg.checked) own started (by kernel_rfl) Ealg.func4
    (ChangeSpec.witness6 (enc := enc) (C := Ealg.checked) false ⟨#[], #[.slice none 0 0, .slice none 0 0], []⟩ 8 (by kernel_rfl) (by kernel_rfl) (by kernel_rfl) (by kernel_rfl)) ?_
  intro W base args ds gs before hval0 hW hcnd _
  have hval : ∀ (j : Nat) t v, Ealg.f4.params[j]? = some t → args[j]? = some v → Value.okWide Ealg.prog W .any base t v := hval0
  have hW' := hW
  obtain ⟨p, q, hA0, hV, rfl, hfz, hnd⟩ := hW
  have hA : DataW.TrodAll enc Ealg.prog W 0 (fun _ => true) true Ealg.f4.params.toList args.toList ds p := hA0
  rw [Ealg.params4] at hA hval
  obtain ⟨v0, vs0, d0, ds0, p0, q0, hargs, rfl, rfl, h0, r0⟩ := trodAll_cons hA
  obtain ⟨v1, vs1, d1, ds1, p1, q1, rfl, rfl, rfl, h1, r1⟩ := trodAll_cons r0
  obtain ⟨rfl, rfl, rfl⟩ := trodAll_nil r1
  obtain rfl : args = #[v0, v1] := by cases args; simp_all
  obtain ⟨rfl, rfl⟩ := trodVars_none hV
  obtain ⟨a0, len0, cap0, rfl⟩ := okWide_slice Ealg.underlying22 (hval 0 22 v0 rfl rfl)
  have k0 := h0
  have lt0 : ∀ x ∈ p0, x.block < W.heap.size := by obtain ⟨m, hm⟩ := k0; exact DataW.trod_lt m _ _ _ hm
  obtain ⟨z0, w0⟩ : ∃ zs, IsRow .u8 W a0 len0 cap0 zs := by
    obtain ⟨fuel, hf⟩ := h0
    rcases open_ints Ealg.underlying22 Ealg.underlying5 (by kernel_rfl) hf with ⟨hcs, _⟩ | ⟨x, l, c, zs, hcs, _, hl, hm, hz, _, hcell, hwz⟩
    · simp [Value.cells] at hcs
      obtain ⟨rfl, rfl, rfl⟩ := hcs
      exact ⟨[], .inl ⟨rfl, rfl, rfl, rfl⟩⟩
    · simp [Value.cells] at hcs
      obtain ⟨rfl, rfl, rfl⟩ := hcs
      exact ⟨zs, .inr ⟨_, rfl, hl, hm, by simpa using hz, hcell, hwz⟩⟩
  obtain ⟨a1, len1, cap1, rfl⟩ := okWide_slice Ealg.underlying22 (hval 1 22 v1 rfl rfl)
  have k1 := h1
  have lt1 : ∀ x ∈ p1, x.block < W.heap.size := by obtain ⟨m, hm⟩ := k1; exact DataW.trod_lt m _ _ _ hm
  obtain ⟨z1, w1⟩ : ∃ zs, IsRow .u8 W a1 len1 cap1 zs := by
    obtain ⟨fuel, hf⟩ := h1
    rcases open_ints Ealg.underlying22 Ealg.underlying5 (by kernel_rfl) hf with ⟨hcs, _⟩ | ⟨x, l, c, zs, hcs, _, hl, hm, hz, _, hcell, hwz⟩
    · simp [Value.cells] at hcs
      obtain ⟨rfl, rfl, rfl⟩ := hcs
      exact ⟨[], .inl ⟨rfl, rfl, rfl, rfl⟩⟩
    · simp [Value.cells] at hcs
      obtain ⟨rfl, rfl, rfl⟩ := hcs
      exact ⟨zs, .inr ⟨_, rfl, hl, hm, by simpa using hz, hcell, hwz⟩⟩
  clear hA0 hval0
  refine (walk a0 len0 cap0 z0 a1 len1 cap1 z1 W w0 w1).mono fun e W' ⟨he, bel⟩ => ?_
  subst he
  exact ⟨_, rfl, _, _, _, [], _, [], hW', trodAll_mk1 (shut_bool Ealg.underlying4 _), (trodAll_cons_mk (Below.trod laidOut (by kernel_rfl) (of_decide_eq_true (by kernel_rfl)) k0 bel lt0) (trodAll_cons_mk (Below.trod laidOut (by kernel_rfl) (of_decide_eq_true (by kernel_rfl)) k1 bel lt1) trodAll_mk0)), rfl, bel.frame _, fun h => by cases h⟩

theorem over : Rows.fnBytesEqualsModelRow.holds Ealg.pinned (OpenSpec.ofChange Rows.fnBytesEqualsModelSpec) :=
  OpenClaim.holds_of_wide 4 Ealg.f4 rfl rfl rfl rfl rfl rfl rfl ⟨rfl, rfl, rfl, rfl, rfl⟩ rfl rfl rfl rfl rfl (by kernel_rfl) Ealg.func4 (by kernel_rfl)
    (of_decide_eq_true (by kernel_rfl)) (by unfold Func.isWrapper; first | (rw [if_pos (by decide +kernel)]; kernel_rfl) | (rw [if_neg (by decide +kernel)]; exact ⟨rfl, rfl⟩))
    (fun os started H enc _ => lifted os started H enc)

/-- The statement. -/
theorem proved : Rows.FnBytesEqualsModelSaid := over
#print axioms proved
end Go.Proofs.Yoealw.fnBytesEqualsModel
