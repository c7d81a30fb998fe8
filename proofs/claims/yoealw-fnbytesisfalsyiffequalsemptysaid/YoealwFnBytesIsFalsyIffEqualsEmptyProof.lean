/-
  The proof of 'Rows.FnBytesIsFalsyIffEqualsEmptySaid'. The frame is the given shell's; the walk goes by the contracts of YoealwKit.
-/
import Derived.Test.YoealwRows
import Derived.Test.YoealwCopy
import Derived.WalkKit
import Derived.ProofKit
import Derived.OpenShut
import Derived.ShutString
import Derived.ChangeOld
import Derived.Below
namespace Go.Proofs.Yoealw.fnBytesIsFalsyIffEqualsEmpty
open Go.ChangeShapes Go.WideShapes Go.ChangeAt Go.RowKit
open Go.ChangeMaps (open_string shut_string)
set_option linter.unusedVariables false

theorem own : ownKnob Ealg.prog.godebug = none := by kernel_rfl
theorem laidOut : laidOutB Ealg.prog = true := by kernel_rfl

open Kit

theorem zz7_yes (a0 : Option Addr) (l0 c0 : Nat) (w : World) (h : l0 ≤ 1048576) :
    Calls Ealg.prog 7 #[.slice a0 l0 c0] w fun e w' => e = .returned (.bool true) ∧ w' = w := by
  go_enter Ealg.func7, Ealg.ntmps7
  go_wp2
  go_ret
  exact ⟨rfl, rfl⟩

theorem zz7_no (a0 : Option Addr) (l0 c0 : Nat) (w : World) (h : 1048576 < l0) (m0 : l0 ≤ maxLen) :
    Calls Ealg.prog 7 #[.slice a0 l0 c0] w fun e w' => e = .returned (.bool false) ∧ w' = w := by
  unfold maxLen at m0
  go_enter Ealg.func7, Ealg.ntmps7
  go_wp2
  go_ret
  exact ⟨rfl, rfl⟩

/-! ### THE WALK -/
theorem walk (a0 : Option Addr) (len0 cap0 : Nat) (z0 : List Int) (w : World) (w0 : IsRow .u8 w a0 len0 cap0 z0) :
    Calls Ealg.prog 3 #[.slice a0 len0 cap0] w fun e w' => e = .returned (.bool true) ∧ Below w.heap.size w w' := by
  have m0 := w0.len
  by_cases hs : len0 ≤ 1048576
  · have H0 : Hid (IsRow .u8 w a0 len0 cap0 z0) := w0
    obtain ⟨x0, hx0⟩ : ∃ x, x = z0.take len0 := ⟨_, rfl⟩
    have E0 : Hid (x0 = z0.take len0) := hx0
    rw [← hx0] at m0
    clear hx0 w0
    go_enter Ealg.func3, Ealg.ntmps3
    go_wp2_with fail
    refine (zz7_yes _ _ _ _ hs).mono ?_
    rintro e w ⟨rfl, rfl⟩
    go_wp2_with fail
    refine (clone_any _ _ _ _ _ H0.out hs).mono ?_
    rintro e wa ⟨a, rfl, oa, ba⟩
    rw [← E0.out] at oa
    have HA : Hid (Held w (wa.alloc (.cells #[.slice a len0 len0] 29)) wa.heap.size a len0 x0) := Held.made oa.row ba
    have hxl : x0.length = len0 := oa.1
    clear oa ba E0 H0
    obtain ⟨fb, hf, he⟩ : ∃ fb : Bool, ((len0 : Int) == 0) = fb ∧ eqB x0 [] = fb := by
      by_cases h0 : len0 = 0
      · have hz : x0 = [] := List.eq_nil_of_length_eq_zero (by omega)
        subst hz
        exact ⟨true, by simp [h0], eqB_refl _⟩
      · exact ⟨false, by simp; omega, eqB_len (by show x0.length ≠ 0; omega)⟩
    go_wp2_with fail
    refine (falsy_any wa.heap.size a len0 len0 _ HA.out.1).mono ?_
    rintro e w1 ⟨rfl, rfl⟩
    go_wp2_with fail
    have HB := (HA.out.alloc (.cells #[] 5)).alloc (.cells #[.slice (some ⟨wa.heap.size + 1, 0, none⟩) 0 0] 29)
    refine (HB.equals (wa.heap.size + 1 + 1) (some ⟨wa.heap.size + 1, 0, none⟩) 0 0 [] (by rw [World.cell?_alloc_at _ _ _ _ (by simp)]; rfl) ⟨rfl, .inr ⟨_, rfl, by simp, fun i hi => absurd hi (Nat.not_lt_zero _)⟩⟩).mono ?_
    rintro e w2 ⟨rfl, h2⟩
    have H2 : Hid (Held w w2 wa.heap.size a len0 x0) := h2
    clear HA HB h2
    go_wp2_with fail
    have HB := H2.out.alloc (.cells #[.slice none 0 0] 29)
    refine (HB.equals w2.heap.size none 0 0 [] (by rw [World.cell?_alloc_at _ _ _ _ rfl]; rfl) ⟨rfl, .inl ⟨rfl, rfl⟩⟩).mono ?_
    rintro e w3 ⟨rfl, h3⟩
    have H3 : Hid (Held w w3 wa.heap.size a len0 x0) := h3
    clear H2 HB h3
    go_wp2_with fail
    refine (H3.out.copy hs).mono ?_
    rintro e w4 ⟨q, a', c', rfl, hq, r4, h4⟩
    have H4 : Hid (Row w4 a' len0 x0 ∧ Held w w4 wa.heap.size a len0 x0) := ⟨r4, h4⟩
    clear H3 r4 h4
    have mf := m_falsy
    go_wp2_with fail
    refine (falsy_any q a' len0 c' _ hq).mono ?_
    rintro e w5 ⟨rfl, rfl⟩
    go_wp2
    go_ret
    exact ⟨by simp, H4.out.2.2.2⟩
  · have hn : 1048576 < len0 := by omega
    go_enter Ealg.func3, Ealg.ntmps3
    go_wp2_with fail
    refine (zz7_no _ _ _ _ hn m0.2).mono ?_
    rintro e w' ⟨rfl, rfl⟩
    go_wp2
    go_ret
    exact ⟨rfl, Below.refl _ _⟩

/-! ### THE ROW's STEP (the shell's) -/
set_option maxRecDepth 100000 in
theorem lifted (os : Os) (started : os.Started) (H : Type) (enc : TypeId × Value → H) :
    ReturnsInHanded {} Ealg.checked os 3 .any (Rows.fnBytesIsFalsyIffEqualsEmptySpec.pre6 enc Ealg.prog Ealg.f3 Rows.fnBytesIsFalsyIffEqualsEmptyRow.domain false) (Rows.fnBytesIsFalsyIffEqualsEmptySpec.post enc Ealg.prog Ealg.f3 false true false false) := by
  refine returnsInHanded_of_change (C := Ealg.checked) own started (by kernel_rfl) Ealg.func3
    (ChangeSpec.witness6 (enc := enc) (C := Ealg.checked) false ⟨#[], #[.slice none 0 0], []⟩ 8 (by kernel_rfl) (by kernel_rfl) (by kernel_rfl) (by kernel_rfl)) ?_
  intro W base args ds gs before hval0 hW hcnd _
  have hval : ∀ (j : Nat) t v, Ealg.f3.params[j]? = some t → args[j]? = some v → Value.okWide Ealg.prog W .any base t v := hval0
  have hW' := hW
  obtain ⟨p, q, hA0, hV, rfl, hfz, hnd⟩ := hW
  have hA : DataW.TrodAll enc Ealg.prog W 0 (fun _ => true) true Ealg.f3.params.toList args.toList ds p := hA0
  rw [Ealg.params3] at hA hval
  obtain ⟨v0, vs0, d0, ds0, p0, q0, hargs, rfl, rfl, h0, r0⟩ := trodAll_cons hA
  obtain ⟨rfl, rfl, rfl⟩ := trodAll_nil r0
  obtain rfl : args = #[v0] := by cases args; simp_all
  obtain ⟨rfl, rfl⟩ := trodVars_none hV
  obtain ⟨a0, len0, cap0, rfl⟩ := okWide_slice Ealg.underlying22 (hval 0 22 v0 rfl rfl)
  have k0 := h0
  have lt0 : ∀ x ∈ p0, x.block < W.heap.size := by obtain ⟨m, hm⟩ := k0; exact DataW.trod_lt m _ _ _ hm
  obtain ⟨z0, w0⟩ : ∃ zs, IsRow .u8 W a0 len0 cap0 zs := by
    obtain ⟨fuel, hf⟩ := h0
    rcases open_ints Ealg.underlying22 Ealg.underlying5 (by kernel_rfl) hf with ⟨hcs, _⟩ | ⟨x, l, c, zs, hcs, _, hl, hm, hz, _, hcell, hwz⟩
    · simp [Value.cells] at hcs
      obtain ⟨rfl, rfl, rfl⟩ := hcs
      exact ⟨[], .inl ⟨rfl, rfl, rfl, rfl⟩⟩
    · simp [Value.cells] at hcs
      obtain ⟨rfl, rfl, rfl⟩ := hcs
      exact ⟨zs, .inr ⟨_, rfl, hl, hm, by simpa using hz, hcell, hwz⟩⟩
  clear hA0 hval0
  refine (walk a0 len0 cap0 z0 W w0).mono fun e W' ⟨he, bel⟩ => ?_
  subst he
  exact ⟨_, rfl, _, _, _, [], _, [], hW', trodAll_mk1 (shut_bool Ealg.underlying4 _), (trodAll_cons_mk (Below.trod laidOut (by kernel_rfl) (of_decide_eq_true (by kernel_rfl)) k0 bel lt0) trodAll_mk0), rfl, bel.frame _, fun h => by cases h⟩

theorem over : Rows.fnBytesIsFalsyIffEqualsEmptyRow.holds Ealg.pinned (OpenSpec.ofChange Rows.fnBytesIsFalsyIffEqualsEmptySpec) :=
  OpenClaim.holds_of_wide 3 Ealg.f3 rfl rfl rfl rfl rfl rfl rfl ⟨rfl, rfl, rfl, rfl, rfl⟩ rfl rfl rfl rfl rfl (by kernel_rfl) Ealg.func3 (by kernel_rfl)
    (of_decide_eq_true (by kernel_rfl)) (by unfold Func.isWrapper; first | (rw [if_pos (by decide +kernel)]; kernel_rfl) | (rw [if_neg (by decide +kernel)]; exact ⟨rfl, rfl⟩))
    (fun os started H enc _ => lifted os started H enc)

/-- The statement. -/
theorem proved : Rows.FnBytesIsFalsyIffEqualsEmptySaid := over
#print axioms proved
end Go.Proofs.Yoealw.fnBytesIsFalsyIffEqualsEmpty
