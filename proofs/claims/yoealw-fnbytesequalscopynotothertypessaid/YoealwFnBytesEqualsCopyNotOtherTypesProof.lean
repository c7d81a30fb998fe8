/-
  The proof of 'Rows.FnBytesEqualsCopyNotOtherTypesSaid'. The frame is the given shell's; the walk goes by the contracts of YoealwKit.
-/
import Derived.Test.YoealwRows
import Derived.Test.YoealwCopy
import Derived.WalkKit
import Derived.ProofKit
import Derived.OpenShut
import Derived.ShutString
import Derived.ChangeOld
import Derived.Below
namespace Go.Proofs.Yoealw.fnBytesEqualsCopyNotOtherTypes
open Go.ChangeShapes Go.WideShapes Go.ChangeAt Go.RowKit
open Go.ChangeMaps (open_string shut_string)
set_option linter.unusedVariables false

theorem own : ownKnob Ealg.prog.godebug = none := by kernel_rfl
theorem laidOut : laidOutB Ealg.prog = true := by kernel_rfl

open Kit

theorem zz13_yes (a0 : Option Addr) (l0 c0 : Nat) (x : Int) (w : World) (h : l0 ≤ 1048576) :
    Calls Ealg.prog 13 #[.slice a0 l0 c0, .int .u8 x] w fun e w' => e = .returned (.bool true) ∧ w' = w := by
  go_enter Ealg.func13, Ealg.ntmps13
  go_wp2
  go_ret
  exact ⟨rfl, rfl⟩

theorem zz13_no (a0 : Option Addr) (l0 c0 : Nat) (x : Int) (w : World) (h : 1048576 < l0) (m0 : l0 ≤ maxLen) :
    Calls Ealg.prog 13 #[.slice a0 l0 c0, .int .u8 x] w fun e w' => e = .returned (.bool false) ∧ w' = w := by
  unfold maxLen at m0
  go_enter Ealg.func13, Ealg.ntmps13
  go_wp2
  go_ret
  exact ⟨rfl, rfl⟩

theorem row_isRow {w : World} {b len : Nat} {x : List Int} (r : Row w (some ⟨b, 0, none⟩) len x) (hl : len ≤ 1048576) (hx : ∀ n ∈ x, 0 ≤ n ∧ n ≤ 255) : IsRow .u8 w (some ⟨b, 0, none⟩) len len x :=
  .inr ⟨_, rfl, Nat.le_refl _, by unfold maxLen; omega, r.1, fun i hi => by rw [Addr.add_lit, Nat.zero_add]; exact r.cell i (by rw [← r.1]; exact hi), fun n hn => WalkArith.wf_u8 (hx n hn)⟩

theorem xor_all : ∀ n : Fin 256, 0 ≤ bits BinOp.xor IntKind.u8 (n.val : Int) 1 ∧ bits BinOp.xor IntKind.u8 (n.val : Int) 1 ≤ 255 ∧ bits BinOp.xor IntKind.u8 (n.val : Int) 1 ≠ (n.val : Int) := by decide +kernel
theorem xor_one (a : Int) (h : 0 ≤ a ∧ a ≤ 255) : (0 ≤ bits BinOp.xor IntKind.u8 a 1 ∧ bits BinOp.xor IntKind.u8 a 1 ≤ 255) ∧ bits BinOp.xor IntKind.u8 a 1 ≠ a := by
  have h' := xor_all ⟨a.toNat, by omega⟩
  have e : ((a.toNat : Nat) : Int) = a := by omega
  simp only [e] at h'
  exact ⟨⟨h'.1, h'.2.1⟩, h'.2.2⟩

theorem cellsOf_set (x : List Int) (i : Nat) (v : Int) : (cellsOf x).set i (.int .u8 v) = cellsOf (x.set i v) := by
  simp [cellsOf, List.map_set]

/-- A list with its last number changed is another list. -/
theorem set_ne {x : List Int} {i : Nat} {v : Int} (hi : i < x.length) (hv : v ≠ x.getD i 0) : x ≠ x.set i v := by
  intro h
  apply hv
  have e : (x.set i v).getD i 0 = v := by simp [List.getD, hi]
  rw [← h] at e
  exact e.symm

theorem set_bytes {x : List Int} {i : Nat} {v : Int} (hx : ∀ n ∈ x, 0 ≤ n ∧ n ≤ 255) (hv : 0 ≤ v ∧ v ≤ 255) : ∀ n ∈ x.set i v, 0 ≤ n ∧ n ≤ 255 := by
  intro n hn
  rcases List.mem_or_eq_of_mem_set hn with h | h
  · exact hx n h
  · rw [h]; exact hv

/-! ### THE WALK -/
set_option maxHeartbeats 4000000 in
theorem walk (a0 : Option Addr) (len0 cap0 : Nat) (z0 : List Int) (a1 : Int) (w : World) (w0 : IsRow .u8 w a0 len0 cap0 z0) (w1 : (Lit.int .u8 a1).wf = true) :
    Calls Ealg.prog 5 #[.slice a0 len0 cap0, .int .u8 a1] w fun e w' => e = .returned (.bool true) ∧ Below w.heap.size w w' := by
  have m0 := w0.len
  by_cases hs : len0 ≤ 1048576
  · have H0 : Hid (IsRow .u8 w a0 len0 cap0 z0) := w0
    have hx := bounds_u8 w1
    have b0 := w0.bytes
    obtain ⟨x0, hx0⟩ : ∃ x, x = z0.take len0 := ⟨_, rfl⟩
    have E0 : Hid (x0 = z0.take len0) := hx0
    rw [← hx0] at m0 b0
    have B0 : Hid (∀ n ∈ x0, 0 ≤ n ∧ n ≤ 255) := b0
    clear hx0 w0 w1 b0
    have he : eqB x0 x0 = true := eqB_refl _
    go_enter Ealg.func5, Ealg.ntmps5
    go_wp2_with fail
    refine (zz13_yes _ _ _ _ _ hs).mono ?_
    rintro e w ⟨rfl, rfl⟩
    go_wp2_with fail
    refine (clone_any _ _ _ _ _ H0.out hs).mono ?_
    rintro e wa ⟨a, rfl, oa, ba⟩
    rw [← E0.out] at oa
    have HA : Hid (Held w (wa.alloc (.cells #[.slice a len0 len0] 29)) wa.heap.size a len0 x0) := Held.made oa.row ba
    have hxl : x0.length = len0 := oa.1
    have HL : Hid (x0.length = len0) := hxl
    clear oa ba E0 H0 m0 hxl
    go_wp2_with fail
    refine (HA.out.copy hs).mono ?_
    rintro e w1 ⟨q1, p1, c1, rfl, hq, r1, h1⟩
    have H1 : Hid (w1.cell? ⟨q1, 0, none⟩ = some (.slice p1 len0 c1) ∧ Row w1 p1 len0 x0 ∧ Held w w1 wa.heap.size a len0 x0) := ⟨hq, r1, h1⟩
    clear HA hq r1 h1
    go_wp2_with fail
    refine (H1.out.2.2.equals q1 p1 len0 c1 x0 H1.out.1 H1.out.2.1).mono ?_
    rintro e w2 ⟨rfl, h2⟩
    have H2 : Hid (Held w w2 wa.heap.size a len0 x0) := h2
    clear H1 h2
    go_wp2_with fail
    refine (H2.out.copy hs).mono ?_
    rintro e w3 ⟨q1, p1, c1, rfl, hq, r1, h1⟩
    have H1 : Hid (w3.cell? ⟨q1, 0, none⟩ = some (.slice p1 len0 c1) ∧ Row w3 p1 len0 x0 ∧ Held w w3 wa.heap.size a len0 x0) := ⟨hq, r1, h1⟩
    have me := m_equals
    clear H2 hq r1 h1
    go_wp2_with fail
    refine (H1.out.2.2.equals_back q1 p1 len0 c1 x0 H1.out.1 H1.out.2.1).mono ?_
    rintro e w4 ⟨rfl, h2⟩
    have H2 : Hid (Held w w4 wa.heap.size a len0 x0) := h2
    have kc := h2.2.1.conv len0
    clear H1 h2 me
    go_wp2_with fail
    clear kc
    refine (equals_string _ _ _).mono ?_
    rintro e w5 ⟨rfl, hw⟩
    have H5 : Hid (Held w w5 wa.heap.size a len0 x0) := by rw [hw]; exact H2.out.alloc _
    clear hw H2
    go_wp2_with fail
    refine (equals_array _ _ _).mono ?_
    rintro e w6 ⟨rfl, hw⟩
    have H6 : Hid (Held w w6 wa.heap.size a len0 x0) := by rw [hw]; exact H5.out.alloc _
    clear hw H5
    go_wp2_with fail
    refine (equals_undef _ _ _).mono ?_
    rintro e w7 ⟨rfl, hw⟩
    have H7 : Hid (Held w w7 wa.heap.size a len0 x0) := by rw [hw]; exact H6.out.alloc _
    clear hw H6
    obtain ⟨i0, hi, hz0, hz1, hz2⟩ := info_parts info5
    go_wp2_with (at_make; refine wpList_make_full _ rfl _ _ 22 rfl w7.heap.size 5 i0 (.int .u8 0) 1 Ealg.underlying22 hi hz0 hz1 _ _ _ _ (len0 + 1) rfl rfl (by omega) (by omega) (by rw [hz2]; omega) (by unfold maxLen; omega) (Nat.le_refl _) ?_)
    intro w8 hown hgrow
    have hb8 : Below w7.heap.size w7 w8 := (Below.refl _ _).grown hgrow (Nat.le_refl _) (fun k h => by cases h)
    clear hgrow hi hz0 hz1 hz2
    obtain ⟨y0, hy1, hy2, hy3⟩ : ∃ y0 : List Int, y0.length = len0 + 1 ∧ (∀ j, j < len0 → y0.getD j 0 = x0.getD j 0) ∧ y0.getD len0 0 = a1 := by
      have h := HL.out
      refine ⟨x0 ++ [a1], by simp [h], fun j hj => ?_, ?_⟩
      · simp [List.getD, List.getElem?_append, h, hj]
      · simp [List.getD, h]
    have HY : Hid (y0.length = len0 + 1 ∧ (∀ j, j < len0 → y0.getD j 0 = x0.getD j 0) ∧ y0.getD len0 0 = a1) := ⟨hy1, hy2, hy3⟩
    clear hy1 hy2 hy3
    go_wp2
    go_loopw [7] (fun i wr => ∃ (k : Nat) (xs : List Value), k ≤ len0 ∧ i = .int .i64 k ∧ wr.ownsRow w7.heap.size 5 1 (.slice (some ⟨w7.heap.size, 0, none⟩) (len0 + 1) (len0 + 1)) (len0 + 1) xs ∧ (∀ j, j < k → xs[j]? = some (.int .u8 (y0.getD j 0))) ∧ Below w7.heap.size w7 wr) (fun i _ => len0 - (intOf i).toNat)
    case atStart => exact ⟨0, _, Nat.zero_le _, rfl, hown, fun j hj => absurd hj (Nat.not_lt_zero _), hb8⟩
    case round =>
      clear hown hb8
      obtain ⟨k, xs, hk, rfl, hown, hxs, hbel⟩ := hrel
      have hxl : xs.length = (len0 + 1) * 1 := hown.1
      obtain ⟨v2, c2⟩ : ∃ v2, wr.cell? ⟨w7.heap.size, k, none⟩ = some v2 := ⟨xs[k]'(by omega), by rw [hown.cellAt k (by omega)]; exact List.getElem?_eq_getElem _⟩
      have c3 : wr.frozen? ⟨w7.heap.size, k, none⟩ = false := hown.frozenAt k
      have R := hown.stored k (.int .u8 (y0.getD k 0))
      have R2 := hbel.setCell (p := ⟨w7.heap.size, k, none⟩) (Nat.le_refl _) (.int .u8 (y0.getD k 0))
      have R3 := set_step (by omega) hxs
      have hh : Held w wr wa.heap.size a len0 x0 := H7.out.below hbel
      by_cases hlt : k < len0
      · obtain ⟨b, rfl⟩ := hh.2.1.first (by omega)
        have c1 : wr.cell? ⟨b, k, none⟩ = some (.int .u8 (y0.getD k 0)) := by rw [HY.out.2.1 k hlt]; exact hh.2.1.cell k hlt
        have HR : Hid ((wr.setCell ⟨w7.heap.size, k, none⟩ (.int .u8 (y0.getD k 0))).ownsRow w7.heap.size 5 1 (.slice (some ⟨w7.heap.size, 0, none⟩) (len0 + 1) (len0 + 1)) (len0 + 1) (xs.set k (.int .u8 (y0.getD k 0))) ∧ Below w7.heap.size w7 (wr.setCell ⟨w7.heap.size, k, none⟩ (.int .u8 (y0.getD k 0))) ∧ ∀ j, j < k + 1 → (xs.set k (.int .u8 (y0.getD k 0)))[j]? = some (.int .u8 (y0.getD j 0))) := ⟨R.1, R2, R3⟩
        clear R R2 R3 hown hxs hbel hh
        go_wp2
        go_roundw
        case rel => exact ⟨k + 1, _, by omega, by go_num, HR.out.1, HR.out.2.2, HR.out.2.1⟩
        case measure => simp [intOf]; omega
      · have hkl : k = len0 := by omega
        subst hkl
        rw [HY.out.2.2] at R R2 R3
        have hcd := cells_done (zs := y0) (len := k + 1) (by rw [HY.out.1]; exact Nat.le_refl _) (R.1.1) R3
        rw [hcd] at R
        have hyl : (y0.take (k + 1)).length = k + 1 := by rw [List.length_take, HY.out.1]; omega
        have HR : Hid (Row (wr.setCell ⟨w7.heap.size, k, none⟩ (.int .u8 a1)) (some ⟨w7.heap.size, 0, none⟩) (k + 1) (y0.take (k + 1)) ∧ Held w (wr.setCell ⟨w7.heap.size, k, none⟩ (.int .u8 a1)) wa.heap.size a k x0) := ⟨row_of_owns hyl R.1, H7.out.below R2⟩
        have hne : eqB x0 (y0.take (k + 1)) = false := eqB_len (by rw [hyl, HL.out]; omega)
        clear R R2 R3 hcd hown hxs hbel hh hyl hxl HY H7
        go_wp2_with fail
        have HB := HR.out.2.alloc (.cells #[.slice (some ⟨w7.heap.size, 0, none⟩) (k + 1) (k + 1)] 29)
        have rB := HR.out.1.alloc (.cells #[.slice (some ⟨w7.heap.size, 0, none⟩) (k + 1) (k + 1)] 29)
        refine (HB.equals wr.heap.size (some ⟨w7.heap.size, 0, none⟩) (k + 1) (k + 1) (y0.take (k + 1)) (by rw [World.cell?_alloc_at _ _ _ _ (by simp)]; rfl) rB).mono ?_
        rintro e w9 ⟨rfl, h9⟩
        have H9 : Hid (Held w w9 wa.heap.size a k x0) := h9
        clear HB rB h9 HR c2 c3
        by_cases h0 : k = 0
        · subst h0
          go_wp2
          go_ret
          exact ⟨rfl, H9.out.2.2⟩
        · have hpos : 0 < k := by omega
          obtain ⟨b, hb⟩ := H9.out.2.1.first hpos
          subst hb
          have cl := H9.out.2.1.cell (k - 1) (by omega)
          obtain ⟨u, hu⟩ : ∃ u, u = x0.getD (k - 1) 0 := ⟨_, rfl⟩
          rw [← hu] at cl
          have HU : Hid (u = x0.getD (k - 1) 0) := hu
          clear hu
          by_cases hau : a1 = u
          · subst hau
            obtain ⟨hvb, hvn⟩ := xor_one a1 hx
            obtain ⟨v, hv⟩ : ∃ v, bits BinOp.xor IntKind.u8 a1 1 = v := ⟨_, rfl⟩
            rw [hv] at hvb hvn
            have hen : eqB x0 (x0.set (k - 1) v) = false := eqB_false B0.out (set_bytes B0.out hvb) (set_ne (by rw [HL.out]; omega) (by rw [← HU.out]; exact hvn))
            go_wp2_with fail
            refine (clone_any _ _ _ _ _ (row_isRow H9.out.2.1 hs B0.out) hs).mono ?_
            rintro e wc ⟨d, rfl, od, bd⟩
            rw [List.take_of_length_le (by rw [HL.out]; exact Nat.le_refl _)] at od
            have hd : d = some ⟨w9.heap.size, 0, none⟩ ∧ wc.ownsRow w9.heap.size 5 1 (.slice (some ⟨w9.heap.size, 0, none⟩) k k) k (cellsOf x0) := by
              rcases od.2 with ⟨_, h⟩ | h
              · omega
              · exact h
            obtain ⟨hd, ow⟩ := hd
            subst hd
            have d1 : wc.cell? ⟨w9.heap.size, k - 1, none⟩ = some (.int .u8 (x0.getD (k - 1) 0)) := by rw [ow.cellAt (k - 1) (by omega), cellsOf_at _ _ (by rw [HL.out]; omega)]
            have d2 : wc.frozen? ⟨w9.heap.size, k - 1, none⟩ = false := ow.frozenAt (k - 1)
            have R := (ow.stored (k - 1) (.int .u8 v)).1
            rw [cellsOf_set] at R
            have HT : Hid (Row (wc.setCell ⟨w9.heap.size, k - 1, none⟩ (.int .u8 v)) (some ⟨w9.heap.size, 0, none⟩) k (x0.set (k - 1) v) ∧ Held w (wc.setCell ⟨w9.heap.size, k - 1, none⟩ (.int .u8 v)) wa.heap.size (some ⟨b, 0, none⟩) k x0) := ⟨row_of_owns (by rw [List.length_set, HL.out]) R, H9.out.below (bd.setCell (p := ⟨w9.heap.size, k - 1, none⟩) (Nat.le_refl _) _)⟩
            clear od bd ow R H9 cl
            go_wp2_with fail
            have HB := HT.out.2.alloc (.cells #[.slice (some ⟨w9.heap.size, 0, none⟩) k k] 29)
            have rB := HT.out.1.alloc (.cells #[.slice (some ⟨w9.heap.size, 0, none⟩) k k] 29)
            refine (HB.equals wc.heap.size (some ⟨w9.heap.size, 0, none⟩) k k (x0.set (k - 1) v) (by rw [World.cell?_alloc_at _ _ _ _ (by simp)]; rfl) rB).mono ?_
            rintro e wz ⟨rfl, hz⟩
            have HZ : Hid (Below w.heap.size w wz) := hz.2.2
            clear HB rB hz HT d1 d2
            go_wp2
            go_ret
            exact ⟨rfl, HZ.out⟩
          · have hau' : (a1 == u) = false := by simpa using hau
            have hen : eqB x0 (x0.set (k - 1) a1) = false := eqB_false B0.out (set_bytes B0.out hx) (set_ne (by rw [HL.out]; omega) (by rw [← HU.out]; exact hau))
            go_wp2_with fail
            refine (clone_any _ _ _ _ _ (row_isRow H9.out.2.1 hs B0.out) hs).mono ?_
            rintro e wc ⟨d, rfl, od, bd⟩
            rw [List.take_of_length_le (by rw [HL.out]; exact Nat.le_refl _)] at od
            have hd : d = some ⟨w9.heap.size, 0, none⟩ ∧ wc.ownsRow w9.heap.size 5 1 (.slice (some ⟨w9.heap.size, 0, none⟩) k k) k (cellsOf x0) := by
              rcases od.2 with ⟨_, h⟩ | h
              · omega
              · exact h
            obtain ⟨hd, ow⟩ := hd
            subst hd
            have d1 : wc.cell? ⟨w9.heap.size, k - 1, none⟩ = some (.int .u8 (x0.getD (k - 1) 0)) := by rw [ow.cellAt (k - 1) (by omega), cellsOf_at _ _ (by rw [HL.out]; omega)]
            have d2 : wc.frozen? ⟨w9.heap.size, k - 1, none⟩ = false := ow.frozenAt (k - 1)
            have R := (ow.stored (k - 1) (.int .u8 a1)).1
            rw [cellsOf_set] at R
            have HT : Hid (Row (wc.setCell ⟨w9.heap.size, k - 1, none⟩ (.int .u8 a1)) (some ⟨w9.heap.size, 0, none⟩) k (x0.set (k - 1) a1) ∧ Held w (wc.setCell ⟨w9.heap.size, k - 1, none⟩ (.int .u8 a1)) wa.heap.size (some ⟨b, 0, none⟩) k x0) := ⟨row_of_owns (by rw [List.length_set, HL.out]) R, H9.out.below (bd.setCell (p := ⟨w9.heap.size, k - 1, none⟩) (Nat.le_refl _) _)⟩
            clear od bd ow R H9 cl
            go_wp2_with fail
            have HB := HT.out.2.alloc (.cells #[.slice (some ⟨w9.heap.size, 0, none⟩) k k] 29)
            have rB := HT.out.1.alloc (.cells #[.slice (some ⟨w9.heap.size, 0, none⟩) k k] 29)
            refine (HB.equals wc.heap.size (some ⟨w9.heap.size, 0, none⟩) k k (x0.set (k - 1) a1) (by rw [World.cell?_alloc_at _ _ _ _ (by simp)]; rfl) rB).mono ?_
            rintro e wz ⟨rfl, hz⟩
            have HZ : Hid (Below w.heap.size w wz) := hz.2.2
            clear HB rB hz HT d1 d2
            go_wp2
            go_ret
            exact ⟨rfl, HZ.out⟩
  · have hn : 1048576 < len0 := by omega
    go_enter Ealg.func5, Ealg.ntmps5
    go_wp2_with fail
    refine (zz13_no _ _ _ _ _ hn m0.2).mono ?_
    rintro e w' ⟨rfl, rfl⟩
    go_wp2
    go_ret
    exact ⟨rfl, Below.refl _ _⟩

/-! ### THE ROW's STEP (the shell's) -/
set_option maxRecDepth 100000 in
theorem lifted (os : Os) (started : os.Started) (H : Type) (enc : TypeId × Value → H) :
    ReturnsInHanded {} Ealg.checked os 5 .any (Rows.fnBytesEqualsCopyNotOtherTypesSpec.pre6 enc Ealg.prog Ealg.f5 Rows.fnBytesEqualsCopyNotOtherTypesRow.domain false) (Rows.fnBytesEqualsCopyNotOtherTypesSpec.post enc Ealg.prog Ealg.f5 false true false false) := by
  refine returnsInHanded_of_change (C := Ealg.checked) own started (by kernel_rfl) Ealg.func5
    (ChangeSpec.witness6 (enc := enc) (C := Ealg.checked) false ⟨#[], #[.slice none 0 0, .int .u8 0], []⟩ 8 (by kernel_rfl) (by kernel_rfl) (by kernel_rfl) (by kernel_rfl)) ?_
  intro W base args ds gs before hval0 hW hcnd _
  have hval : ∀ (j : Nat) t v, Ealg.f5.params[j]? = some t → args[j]? = some v → Value.okWide Ealg.prog W .any base t v := hval0
  have hW' := hW
  obtain ⟨p, q, hA0, hV, rfl, hfz, hnd⟩ := hW
  have hA : DataW.TrodAll enc Ealg.prog W 0 (fun _ => true) true Ealg.f5.params.toList args.toList ds p := hA0
  rw [Ealg.params5] at hA hval
  obtain ⟨v0, vs0, d0, ds0, p0, q0, hargs, rfl, rfl, h0, r0⟩ := trodAll_cons hA
  obtain ⟨v1, vs1, d1, ds1, p1, q1, rfl, rfl, rfl, h1, r1⟩ := trodAll_cons r0
  obtain ⟨rfl, rfl, rfl⟩ := trodAll_nil r1
  obtain rfl : args = #[v0, v1] := by cases args; simp_all
  obtain ⟨rfl, rfl⟩ := trodVars_none hV
  obtain ⟨a0, len0, cap0, rfl⟩ := okWide_slice Ealg.underlying22 (hval 0 22 v0 rfl rfl)
  have k0 := h0
  have lt0 : ∀ x ∈ p0, x.block < W.heap.size := by obtain ⟨m, hm⟩ := k0; exact DataW.trod_lt m _ _ _ hm
  obtain ⟨z0, w0⟩ : ∃ zs, IsRow .u8 W a0 len0 cap0 zs := by
    obtain ⟨fuel, hf⟩ := h0
    rcases open_ints Ealg.underlying22 Ealg.underlying5 (by kernel_rfl) hf with ⟨hcs, _⟩ | ⟨x, l, c, zs, hcs, _, hl, hm, hz, _, hcell, hwz⟩
    · simp [Value.cells] at hcs
      obtain ⟨rfl, rfl, rfl⟩ := hcs
      exact ⟨[], .inl ⟨rfl, rfl, rfl, rfl⟩⟩
    · simp [Value.cells] at hcs
      obtain ⟨rfl, rfl, rfl⟩ := hcs
      exact ⟨zs, .inr ⟨_, rfl, hl, hm, by simpa using hz, hcell, hwz⟩⟩
  obtain ⟨a1, rfl, rfl, rfl, w1⟩ := open_int Ealg.underlying5 (hval 1 5 v1 rfl rfl) h1
  clear hA0 hval0
  refine (walk a0 len0 cap0 z0 a1 W w0 w1).mono fun e W' ⟨he, bel⟩ => ?_
  subst he
  exact ⟨_, rfl, _, _, _, [], _, [], hW', trodAll_mk1 (shut_bool Ealg.underlying4 _), (trodAll_cons_mk (Below.trod laidOut (by kernel_rfl) (of_decide_eq_true (by kernel_rfl)) k0 bel lt0) (trodAll_cons_mk (shut_int Ealg.underlying5 w1) trodAll_mk0)), rfl, bel.frame _, fun h => by cases h⟩

theorem over : Rows.fnBytesEqualsCopyNotOtherTypesRow.holds Ealg.pinned (OpenSpec.ofChange Rows.fnBytesEqualsCopyNotOtherTypesSpec) :=
  OpenClaim.holds_of_wide 5 Ealg.f5 rfl rfl rfl rfl rfl rfl rfl ⟨rfl, rfl, rfl, rfl, rfl⟩ rfl rfl rfl rfl rfl (by kernel_rfl) Ealg.func5 (by kernel_rfl)
    (of_decide_eq_true (by kernel_rfl)) (by unfold Func.isWrapper; first | (rw [if_pos (by decide +kernel)]; kernel_rfl) | (rw [if_neg (by decide +kernel)]; exact ⟨rfl, rfl⟩))
    (fun os started H enc _ => lifted os started H enc)

/-- The statement. -/
theorem proved : Rows.FnBytesEqualsCopyNotOtherTypesSaid := over
#print axioms proved
end Go.Proofs.Yoealw.fnBytesEqualsCopyNotOtherTypes
