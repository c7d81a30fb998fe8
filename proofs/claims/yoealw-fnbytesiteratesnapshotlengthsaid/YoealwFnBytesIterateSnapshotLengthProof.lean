/-
  The proof of 'Rows.FnBytesIterateSnapshotLengthSaid'. The frame is the given shell's; the walk goes by the contracts of YoealwKit.
-/
import Derived.Test.YoealwRows
import Derived.Test.YoealwIter
import Derived.ArgAppend
import Derived.Deep.AppendLies
import Derived.WalkKit
import Derived.ProofKit
import Derived.OpenShut
import Derived.ShutString
import Derived.ChangeOld
import Derived.Below
namespace Go.Proofs.Yoealw.fnBytesIterateSnapshotLength
open Go.ChangeShapes Go.WideShapes Go.ChangeAt Go.RowKit
open Go.ChangeMaps (open_string shut_string)
set_option linter.unusedVariables false

theorem own : ownKnob Ealg.prog.godebug = none := by kernel_rfl
theorem laidOut : laidOutB Ealg.prog = true := by kernel_rfl

open Kit

theorem below_grown {w w' : World} (hb : Below w.heap.size w w') : w.grownBy w' Option.none := ⟨hb.os, hb.tape, hb.output, hb.size, fun k hk _ => hb.block k hk⟩

/-! ### THE WALK -/
set_option maxHeartbeats 1000000 in
theorem walk (a0 : Option Addr) (len0 cap0 : Nat) (z0 : List Int) (a1 : Int) (a2 : Int) (w : World) (w0 : IsRow .u8 w a0 len0 cap0 z0) (w1 : (Lit.int .u8 a1).wf = true) (w2 : (Lit.int .u32 a2).wf = true) :
    Calls Ealg.prog 6 #[.slice a0 len0 cap0, .int .u8 a1, .int .u32 a2] w fun e w' => e = .returned (.bool true) ∧ Below w.heap.size w w' := by
  have m0 := w0.len
  by_cases hs : len0 ≤ 1048576
  · have H0 : Hid (IsRow .u8 w a0 len0 cap0 z0) := w0
    have hx := bounds_u8 w1
    have hp := bounds_u32 w2
    obtain ⟨i0, hi, hz0, hz1, hz2⟩ := info_parts info5
    obtain ⟨x0, hx0⟩ : ∃ x, x = z0.take len0 := ⟨_, rfl⟩
    have E0 : Hid (x0 = z0.take len0) := hx0
    rw [← hx0] at m0
    clear hx0 w0 w1 w2
    go_enter Ealg.func6, Ealg.ntmps6
    go_wp2_with fail
    refine (zz14_yes _ _ _ _ _ _ hs).mono ?_
    rintro e w ⟨rfl, rfl⟩
    go_wp2_with fail
    refine (clone_any _ _ _ _ _ H0.out hs).mono ?_
    rintro e wa ⟨a, rfl, oa, ba⟩
    rw [← E0.out] at oa
    have HA : Hid (Own w.heap.size wa a len0 x0 ∧ Below w.heap.size w wa) := ⟨oa, ba⟩
    clear oa ba E0 H0
    go_wp2_with fail
    refine (iterate_it wa.heap.size a len0 _ (by rw [World.cell?_alloc_at _ _ _ _ rfl]; rfl)).mono ?_
    rintro e wi ⟨rfl, it, bi, si⟩
    have ho : wi.cell? ⟨wa.heap.size, 0, none⟩ = some (.slice a len0 len0) := (bi.cell (p := ⟨wa.heap.size, 0, none⟩) (by simp)).trans (by rw [World.cell?_alloc_at _ _ _ _ rfl]; rfl)
    have hof : wi.frozen? ⟨wa.heap.size, 0, none⟩ = false := (bi.frozen (p := ⟨wa.heap.size, 0, none⟩) (by simp)).trans (World.frozen?_alloc_at _ _ _ _ rfl)
    have hsz : wi.heap.size = wa.heap.size + 2 := by simpa using si
    have bw : Below w.heap.size w wi := (HA.out.2.alloc HA.out.2.size _).trans (bi.mono (by have := HA.out.2.size; simp; omega))
    have HI : Hid (Iter wi (wa.heap.size + 1) a len0 0 ∧ Below w.heap.size w wi ∧ wi.heap.size = wa.heap.size + 2) := ⟨by simpa using it, bw, hsz⟩
    have HB2 : Hid (Below wa.heap.size wa wi) := ((Below.refl _ _).alloc (Nat.le_refl _) _).trans (bi.mono (by simp))
    clear it bi si bw hsz
    by_cases h0 : len0 = 0
    · subst h0
      go_wp2_with (at_builtin; refine wpList_append_grows _ rfl (.tmp 45) (.tmp 47) 22 rfl 5 i0 (.int .u8 0) 1 1 Ealg.underlying22 hi hz0 hz1 hz2 rfl (by decide) a 0 0 [] rfl (fun _ => ⟨rfl, rfl⟩) rfl (by intro _ _ _ _ h; simp at h) ⟨wi.heap.size, 0, none⟩ 1 1 [.int .u8 a1] rfl rfl (one_new _ _ _ rfl) (by intro u hu; simp at hu; subst hu; rfl) (by omega) (by unfold maxLen; omega) (by omega) ?grow)
      case grow =>
        intro v' w3 hown hgrow
        obtain ⟨g, cap, hv, -⟩ := hown.form (by omega)
        subst hv
        have b3 : Below wi.heap.size wi w3 := grown_below hgrow
        have c3 : w3.cell? ⟨wa.heap.size, 0, none⟩ = some (.slice a 0 0) := (b3.cell (p := ⟨wa.heap.size, 0, none⟩) (cell_lt ho)).trans ho
        have f3 : w3.frozen? ⟨wa.heap.size, 0, none⟩ = false := (b3.frozen (p := ⟨wa.heap.size, 0, none⟩) (cell_lt ho)).trans hof
        have H3 : Hid (Below wi.heap.size wi w3) := b3
        clear hown hgrow b3 ho hof
        go_wp2
        go_loopw [11] (fun i wr => i = .int .i64 0 ∧ Iter wr (wa.heap.size + 1) a 0 0 ∧ Below w.heap.size w wr) (fun _ _ => 0)
        case atStart =>
          have hb := H3.out
          have hI := HI.out
          refine ⟨rfl, (hI.1.below hb).same (Below.heap_setCell _ _ _ _ (by simp)), ?_⟩
          exact (hI.2.1.trans (hb.mono hI.2.1.size)).setCell (by have := HA.out.2.size; exact this) _
        case round =>
          obtain ⟨rfl, it, bw⟩ := hrel
          have HW : Hid (w.heap.size ≤ wa.heap.size) := HA.out.2.size
          clear c3 f3 HI H3 HA
          have mn := m_next
          go_wp2_with fail
          refine (next_it _ _ _ _ _ it (by omega) (by omega)).mono ?_
          rintro e w5 ⟨rfl, it5, b5⟩
          have HB : Hid (Below w.heap.size w w5) := bw.trans (b5.mono (by have := HW.out; omega))
          clear it it5 b5 bw
          go_wp2
          go_ret
          exact ⟨rfl, HB.out⟩
    · have hpos : 0 < len0 := by omega
      obtain ⟨p, hpl, hpe⟩ : ∃ p : Nat, p < len0 ∧ a2 % (len0 : Int) = (p : Int) := by
        have h1 := Int.emod_nonneg a2 (show (len0 : Int) ≠ 0 by omega)
        have h2 := Int.emod_lt_of_pos a2 (show 0 < (len0 : Int) by omega)
        exact ⟨(a2 % (len0 : Int)).toNat, by omega, by omega⟩
      have HO := HA.out
      have hq : a = some ⟨w.heap.size, 0, none⟩ ∧ wa.ownsRow w.heap.size 5 1 (.slice (some ⟨w.heap.size, 0, none⟩) len0 len0) len0 (cellsOf x0) := by
        rcases HO.1.2 with ⟨_, h⟩ | h
        · omega
        · exact h
      obtain ⟨hq, hown⟩ := hq
      subst hq
      have hB : w.heap.size < wa.heap.size := (hown.lt w.heap.size rfl).2
      have hoi : wi.ownsRow w.heap.size 5 1 (.slice (some ⟨w.heap.size, 0, none⟩) len0 len0) len0 (cellsOf x0) := hown.kept (below_grown HB2.out) (.inr (by simp [Value.ownBlock]))
      have hxl : x0.length = len0 := HO.1.1
      have c1 : wi.cell? ⟨w.heap.size, p, none⟩ = some (.int .u8 (x0.getD p 0)) := by rw [hoi.cellAt p (by omega), cellsOf_at _ _ (by omega)]
      have f1 : wi.frozen? ⟨w.heap.size, p, none⟩ = false := hoi.frozenAt p
      have HX : Hid (∀ o : Obj, ((wi.setCell ⟨w.heap.size, p, none⟩ (.int .u8 a1)).alloc o).ownsRow w.heap.size 5 1 (.slice (some ⟨w.heap.size, 0, none⟩) len0 len0) len0 ((cellsOf x0).set p (.int .u8 a1))) := fun o => (hoi.stored p (.int .u8 a1)).1.alloc o
      have hol : ((cellsOf x0).set p (.int .u8 a1)).length = len0 * 1 := (HX.out (.cells #[] 5)).1
      have HC : Hid (wi.cell? ⟨w.heap.size, p, none⟩ = some (.int .u8 (x0.getD p 0))) := c1
      clear HO hown hoi HA HB2 h0
      go_wp2_with (at_builtin; refine wpList_append_grows _ rfl (.tmp 45) (.tmp 47) 22 rfl 5 i0 (.int .u8 0) 1 1 Ealg.underlying22 hi hz0 hz1 hz2 rfl (by decide) (some ⟨w.heap.size, 0, none⟩) len0 len0 ((cellsOf x0).set p (.int .u8 a1)) rfl (fun h => by cases h) hol (by intro b hb j u hj; injection hb with hb; subst hb; exact (HX.out _).cells rfl j u hj) ⟨wi.heap.size, 0, none⟩ 1 1 [.int .u8 a1] rfl rfl (one_new _ _ _ (by simp)) (by intro u hu; simp at hu; subst hu; rfl) (by omega) (by unfold maxLen; omega) (by omega) ?grow2)
      case grow2 =>
        intro v' w3 hown3 hgrow
        obtain ⟨g, cap, hv, -⟩ := hown3.form (by omega)
        subst hv
        have b3 := grown_below hgrow
        have ho' : (wi.setCell ⟨w.heap.size, p, none⟩ (.int .u8 a1)).cell? ⟨wa.heap.size, 0, none⟩ = some (.slice (some ⟨w.heap.size, 0, none⟩) len0 len0) := (World.cell?_setCell_other _ _ _ _ (by intro h; injection h; omega)).trans ho
        have c3 : w3.cell? ⟨wa.heap.size, 0, none⟩ = some (.slice (some ⟨w.heap.size, 0, none⟩) len0 len0) := (b3.cell (p := ⟨wa.heap.size, 0, none⟩) (cell_lt ho')).trans ho'
        have f3 : w3.frozen? ⟨wa.heap.size, 0, none⟩ = false := (b3.frozen (p := ⟨wa.heap.size, 0, none⟩) (cell_lt ho')).trans ((World.frozen?_setCell _ _ _ _).trans hof)
        have H3 : Hid (Below (wi.setCell ⟨w.heap.size, p, none⟩ (.int .u8 a1)).heap.size (wi.setCell ⟨w.heap.size, p, none⟩ (.int .u8 a1)) w3) := b3
        clear hown3 hgrow b3 ho hof ho' c1 f1 HX hol
        go_wp2
        go_loopw [11] (fun i wr => ∃ k : Nat, k ≤ len0 ∧ i = .int .i64 k ∧ Iter wr (wa.heap.size + 1) (some ⟨w.heap.size, 0, none⟩) len0 k ∧ wr.cell? ⟨w.heap.size, p, none⟩ = some (.int .u8 a1) ∧ Below w.heap.size w wr) (fun i _ => len0 - (intOf i).toNat)
        case atStart =>
          have hb := H3.out
          have hI := HI.out
          have hBi : w.heap.size < wi.heap.size := cell_lt HC.out
          refine ⟨0, Nat.zero_le _, rfl, ?_, ?_, ?_⟩
          · exact ((hI.1.same (Below.heap_setCell _ _ _ _ (by simp; omega))).below hb).same (Below.heap_setCell _ _ _ _ (by simp))
          · exact (World.cell?_setCell_other _ _ _ _ (by intro h; injection h; omega)).trans ((hb.cell (p := ⟨w.heap.size, p, none⟩) (by simpa using hBi)).trans (World.cell?_setCell_same _ _ _ HC.out))
          · exact (((hI.2.1.setCell (p := ⟨w.heap.size, p, none⟩) (Nat.le_refl _) _).trans (hb.mono (by simp; omega))).setCell (p := ⟨wa.heap.size, 0, none⟩) (by simp; omega) _)
        case round =>
          obtain ⟨k, hk, rfl, it, hc, bw⟩ := hrel
          have HW : Hid (w.heap.size < wa.heap.size) := hB
          have mn := m_next
          have mv := m_value
          clear c3 f3 HI H3 HC hB hpe
          by_cases hlt : k < len0
          · have hd : decide ((k : Int) + 1 ≤ (len0 : Int)) = true := by simp; omega
            have HT : Hid (Iter wr (wa.heap.size + 1) (some ⟨w.heap.size, 0, none⟩) len0 k ∧ wr.cell? ⟨w.heap.size, p, none⟩ = some (.int .u8 a1) ∧ Below w.heap.size w wr) := ⟨it, hc, bw⟩
            clear it hc bw
            by_cases hkp : k = p
            · subst hkp
              go_wp2_with fail
              refine (next_it _ _ _ _ _ HT.out.1 (by omega) (by omega)).mono ?_
              rintro e w5 ⟨rfl, it5, b5⟩
              have H5 : Hid (Iter w5 (wa.heap.size + 1) (some ⟨w.heap.size, 0, none⟩) len0 (k + 1) ∧ w5.cell? ⟨w.heap.size, k, none⟩ = some (.int .u8 a1) ∧ Below w.heap.size w w5) := ⟨it5, (b5.cell (p := ⟨w.heap.size, k, none⟩) (by have := HW.out; simp; omega)).trans HT.out.2.1, HT.out.2.2.trans (b5.mono (by have := HW.out; omega))⟩
              clear it5 b5 HT
              go_wp2_with fail
              have bx : Below w5.heap.size w5 (w5.alloc (.cells #[.int .i64 a1] 56)) := (Below.refl _ _).alloc (Nat.le_refl _) _
              refine (value_it _ w.heap.size k len0 a1 _ (H5.out.1.below bx) hx hlt hs ((bx.cell (p := ⟨w.heap.size, k, none⟩) (cell_lt H5.out.2.1)).trans H5.out.2.1)).mono ?_
              rintro e w6 ⟨r, rfl, cr, b6⟩
              have c6 : w6.cell? ⟨w5.heap.size, 0, none⟩ = some (.int .i64 a1) := (b6.cell (p := ⟨w5.heap.size, 0, none⟩) (by simp)).trans (World.cell?_alloc_at _ _ _ _ rfl)
              have b56 : Below w5.heap.size w5 w6 := bx.trans (b6.mono (by simp))
              have H6 : Hid (Iter w6 (wa.heap.size + 1) (some ⟨w.heap.size, 0, none⟩) len0 (k + 1) ∧ w6.cell? ⟨w.heap.size, k, none⟩ = some (.int .u8 a1) ∧ Below w.heap.size w w6) := ⟨H5.out.1.below b56, (b56.cell (p := ⟨w.heap.size, k, none⟩) (cell_lt H5.out.2.1)).trans H5.out.2.1, H5.out.2.2.trans (b56.mono H5.out.2.2.size)⟩
              have H6c : Hid (w6.cell? ⟨w5.heap.size, 0, none⟩ = some (.int .i64 a1) ∧ w6.cell? ⟨r, 0, none⟩ = some (.int .i64 a1)) := ⟨c6, cr⟩
              clear H5 bx b6 c6 cr b56
              go_wp2_with fail
              refine (int_equals _ _ a1 a1 _ H6c.out.1 H6c.out.2).mono ?_
              rintro e w7 ⟨rfl, n7, rfl⟩
              clear H6c
              go_wp2
              go_roundw
              case rel =>
                have bd := below_drewN (Below.refl w6.heap.size w6) n7
                exact ⟨k + 1, by omega, by go_num, by simpa using H6.out.1.below bd, H6.out.2.1, below_drewN H6.out.2.2 n7⟩
              case measure => simp [intOf]; omega
            · have hne : ((k : Int) == (p : Int)) = false := by simp; omega
              go_wp2_with fail
              refine (next_it _ _ _ _ _ HT.out.1 (by omega) (by omega)).mono ?_
              rintro e w5 ⟨rfl, it5, b5⟩
              have H5 : Hid (Iter w5 (wa.heap.size + 1) (some ⟨w.heap.size, 0, none⟩) len0 (k + 1) ∧ w5.cell? ⟨w.heap.size, p, none⟩ = some (.int .u8 a1) ∧ Below w.heap.size w w5) := ⟨it5, (b5.cell (p := ⟨w.heap.size, p, none⟩) (by have := HW.out; simp; omega)).trans HT.out.2.1, HT.out.2.2.trans (b5.mono (by have := HW.out; omega))⟩
              clear it5 b5 HT
              go_wp2
              go_roundw
              case rel => exact ⟨k + 1, by omega, by go_num, by simpa using H5.out.1, H5.out.2.1, H5.out.2.2⟩
              case measure => simp [intOf]; omega
          · have hkl : k = len0 := by omega
            subst hkl
            have hd : decide ((k : Int) + 1 ≤ (k : Int)) = false := by simp; omega
            have HT : Hid (Iter wr (wa.heap.size + 1) (some ⟨w.heap.size, 0, none⟩) k k ∧ Below w.heap.size w wr) := ⟨it, bw⟩
            clear it hc bw
            go_wp2_with fail
            refine (next_it _ _ _ _ _ HT.out.1 (by omega) (by omega)).mono ?_
            rintro e w5 ⟨rfl, it5, b5⟩
            have HB : Hid (Below w.heap.size w w5) := HT.out.2.trans (b5.mono (by have := HW.out; omega))
            clear it5 b5 HT
            go_wp2
            go_ret
            exact ⟨rfl, HB.out⟩
  · have hn : 1048576 < len0 := by omega
    go_enter Ealg.func6, Ealg.ntmps6
    go_wp2_with fail
    refine (zz14_no _ _ _ _ _ _ hn m0.2).mono ?_
    rintro e w' ⟨rfl, rfl⟩
    go_wp2
    go_ret
    exact ⟨rfl, Below.refl _ _⟩

/-! ### THE ROW's STEP (the shell's) -/
set_option maxRecDepth 100000 in
theorem lifted (os : Os) (started : os.Started) (H : Type) (enc : TypeId × Value → H) :
    ReturnsInHanded {} Ealg.checked os 6 .any (Rows.fnBytesIterateSnapshotLengthSpec.pre6 enc Ealg.prog Ealg.f6 Rows.fnBytesIterateSnapshotLengthRow.domain false) (Rows.fnBytesIterateSnapshotLengthSpec.post enc Ealg.prog Ealg.f6 false true false false) := by
  refine returnsInHanded_of_change (C := Ealg.checked) own started (by kernel_rfl) Ealg.func6
    (ChangeSpec.witness6 (enc := enc) (C := Ealg.checked) false ⟨#[], #[.slice none 0 0, .int .u8 0, .int .u32 0], []⟩ 8 (by kernel_rfl) (by kernel_rfl) (by kernel_rfl) (by kernel_rfl)) ?_
  intro W base args ds gs before hval0 hW hcnd _
  have hval : ∀ (j : Nat) t v, Ealg.f6.params[j]? = some t → args[j]? = some v → Value.okWide Ealg.prog W .any base t v := hval0
  have hW' := hW
  obtain ⟨p, q, hA0, hV, rfl, hfz, hnd⟩ := hW
  have hA : DataW.TrodAll enc Ealg.prog W 0 (fun _ => true) true Ealg.f6.params.toList args.toList ds p := hA0
  rw [Ealg.params6] at hA hval
  obtain ⟨v0, vs0, d0, ds0, p0, q0, hargs, rfl, rfl, h0, r0⟩ := trodAll_cons hA
  obtain ⟨v1, vs1, d1, ds1, p1, q1, rfl, rfl, rfl, h1, r1⟩ := trodAll_cons r0
  obtain ⟨v2, vs2, d2, ds2, p2, q2, rfl, rfl, rfl, h2, r2⟩ := trodAll_cons r1
  obtain ⟨rfl, rfl, rfl⟩ := trodAll_nil r2
  obtain rfl : args = #[v0, v1, v2] := by cases args; simp_all
  obtain ⟨rfl, rfl⟩ := trodVars_none hV
  obtain ⟨a0, len0, cap0, rfl⟩ := okWide_slice Ealg.underlying22 (hval 0 22 v0 rfl rfl)
  have k0 := h0
  have lt0 : ∀ x ∈ p0, x.block < W.heap.size := by obtain ⟨m, hm⟩ := k0; exact DataW.trod_lt m _ _ _ hm
  obtain ⟨z0, w0⟩ : ∃ zs, IsRow .u8 W a0 len0 cap0 zs := by
    obtain ⟨fuel, hf⟩ := h0
    rcases open_ints Ealg.underlying22 Ealg.underlying5 (by kernel_rfl) hf with ⟨hcs, _⟩ | ⟨x, l, c, zs, hcs, _, hl, hm, hz, _, hcell, hwz⟩
    · simp [Value.cells] at hcs
      obtain ⟨rfl, rfl, rfl⟩ := hcs
      exact ⟨[], .inl ⟨rfl, rfl, rfl, rfl⟩⟩
    · simp [Value.cells] at hcs
      obtain ⟨rfl, rfl, rfl⟩ := hcs
      exact ⟨zs, .inr ⟨_, rfl, hl, hm, by simpa using hz, hcell, hwz⟩⟩
  obtain ⟨a1, rfl, rfl, rfl, w1⟩ := open_int Ealg.underlying5 (hval 1 5 v1 rfl rfl) h1
  obtain ⟨a2, rfl, rfl, rfl, w2⟩ := open_int Ealg.underlying48 (hval 2 48 v2 rfl rfl) h2
  clear hA0 hval0
  refine (walk a0 len0 cap0 z0 a1 a2 W w0 w1 w2).mono fun e W' ⟨he, bel⟩ => ?_
  subst he
  exact ⟨_, rfl, _, _, _, [], _, [], hW', trodAll_mk1 (shut_bool Ealg.underlying4 _), (trodAll_cons_mk (Below.trod laidOut (by kernel_rfl) (of_decide_eq_true (by kernel_rfl)) k0 bel lt0) (trodAll_cons_mk (shut_int Ealg.underlying5 w1) (trodAll_cons_mk (shut_int Ealg.underlying48 w2) trodAll_mk0))), rfl, bel.frame _, fun h => by cases h⟩

theorem over : Rows.fnBytesIterateSnapshotLengthRow.holds Ealg.pinned (OpenSpec.ofChange Rows.fnBytesIterateSnapshotLengthSpec) :=
  OpenClaim.holds_of_wide 6 Ealg.f6 rfl rfl rfl rfl rfl rfl rfl ⟨rfl, rfl, rfl, rfl, rfl⟩ rfl rfl rfl rfl rfl (by kernel_rfl) Ealg.func6 (by kernel_rfl)
    (of_decide_eq_true (by kernel_rfl)) (by unfold Func.isWrapper; first | (rw [if_pos (by decide +kernel)]; kernel_rfl) | (rw [if_neg (by decide +kernel)]; exact ⟨rfl, rfl⟩))
    (fun os started H enc _ => lifted os started H enc)

/-- The statement. -/
theorem proved : Rows.FnBytesIterateSnapshotLengthSaid := over
#print axioms proved
end Go.Proofs.Yoealw.fnBytesIterateSnapshotLength
