/-
  Contracts: Bytes.IsFalsy (9), Bytes.Copy (11).
-/
import Derived.Test.YoealwKit
import Derived.ArgAppend
import Derived.Deep.AppendLies
namespace Go.Proofs.Yoealw.Kit
open Go.RowKit

/-- Bytes.IsFalsy (9). -/
theorem falsy_any (p : Nat) (a : Option Addr) (l c : Nat) (w : World) (hp : w.cell? ⟨p, 0, none⟩ = some (.slice a l c)) :
    Calls Ealg.prog 9 #[.pointer (some ⟨p, 0, none⟩)] w fun e w' => e = .returned (.bool ((l : Int) == 0)) ∧ w' = w := by
  go_enter Ealg.func9, Ealg.ntmps9
  go_wp2
  go_ret
  exact ⟨rfl, rfl⟩

theorem row_cells {w : World} {b l : Nat} {zs : List Int} (r : Row w (some ⟨b, 0, none⟩) l zs) : ∀ j u, (cellsOf zs)[j]? = some u → w.cell? ((⟨b, 0, none⟩ : Addr).add j) = some u := by
  intro j u hj
  have hl : j < zs.length := by
    rcases Nat.lt_or_ge j zs.length with h | h
    · exact h
    · rw [List.getElem?_eq_none (by rw [cellsOf_length]; exact h)] at hj; cases hj
  rw [cellsOf_at zs j hl] at hj
  rw [Addr.add_lit, Nat.zero_add, r.cell j (by rw [← r.1]; exact hl)]
  exact hj

theorem row_of_owns {w : World} {base g cap l : Nat} {zs : List Int} (hz : zs.length = l) (h : w.ownsRow base 5 1 (.slice (some ⟨g, 0, none⟩) l cap) l (cellsOf zs)) : Row w (some ⟨g, 0, none⟩) l zs :=
  ⟨hz, .inr ⟨g, rfl, (h.lt g rfl).2, fun i hi => by rw [h.cellAt i (by omega), cellsOf_at _ _ (by omega)]⟩⟩

theorem copy_some (p b l c : Nat) (zs : List Int) (w : World) (hp : w.cell? ⟨p, 0, none⟩ = some (.slice (some ⟨b, 0, none⟩) l c)) (r : Row w (some ⟨b, 0, none⟩) l zs) (h0 : 0 < l) (hl : l ≤ 1048576) :
    Calls Ealg.prog 11 #[.pointer (some ⟨p, 0, none⟩)] w fun e w' => ∃ q a' c', e = .returned (.iface 25 (.pointer (some ⟨q, 0, none⟩))) ∧ w'.cell? ⟨q, 0, none⟩ = some (.slice a' l c') ∧ Row w' a' l zs ∧ Below w.heap.size w w' := by
  obtain ⟨i0, hi, hz0, hz1, hz2⟩ := info_parts info5
  have hpl : p < w.heap.size := cell_lt hp
  have HR : Hid (Row w (some ⟨b, 0, none⟩) l zs) := r
  have hzl := r.1
  have hcl : (cellsOf zs).length = l * 1 := by rw [cellsOf_length]; omega
  clear r
  go_enter Ealg.func11, Ealg.ntmps11
  go_wp2_with (at_builtin; refine wpList_append_grows _ rfl (.tmp 3) (.tmp 7) 22 rfl 5 i0 (.int .u8 0) 1 1 Ealg.underlying22 hi hz0 hz1 hz2 rfl (by decide) (some ⟨w.heap.size, 0, none⟩) 0 0 [] rfl (fun h => by cases h) rfl (by intro _ _ _ _ h; simp at h) ⟨b, 0, none⟩ l c (cellsOf zs) rfl hcl (row_cells (HR.out.alloc _)) (ints_oneCell _ _) (by omega) (by unfold maxLen; omega) (by omega) ?grow)
  case grow =>
    intro v' w3 hown hgrow
    obtain ⟨g, cap, hv, -⟩ := hown.form (by omega)
    subst hv
    have H3 : Hid (Row w3 (some ⟨g, 0, none⟩) l zs ∧ Below w.heap.size w w3) := ⟨row_of_owns hzl hown, ((Below.refl _ _).alloc (Nat.le_refl _) _).grown hgrow (by simp) (fun k h => by cases h)⟩
    clear hown hgrow HR hcl
    go_wp2
    go_ret
    refine ⟨_, _, _, rfl, World.cell?_alloc_at _ _ _ _ rfl, ?_, ?_⟩
    · simpa using H3.out.1.alloc _
    · exact H3.out.2.alloc H3.out.2.size _

theorem copy_empty (p : Nat) (a : Option Addr) (w : World) (hp : w.cell? ⟨p, 0, none⟩ = some (.slice a 0 0)) :
    Calls Ealg.prog 11 #[.pointer (some ⟨p, 0, none⟩)] w fun e w' => ∃ q a' c', e = .returned (.iface 25 (.pointer (some ⟨q, 0, none⟩))) ∧ w'.cell? ⟨q, 0, none⟩ = some (.slice a' 0 c') ∧ Row w' a' 0 [] ∧ Below w.heap.size w w' := by
  obtain ⟨i0, hi, hz0, hz1, hz2⟩ := info_parts info5
  have hpl : p < w.heap.size := cell_lt hp
  have ho : (w.alloc (.cells #[] 5)).ownsRow w.heap.size 5 1 (.slice (some ⟨w.heap.size, 0, none⟩) 0 0) 0 [] := World.ownsRow_lit w #[] 0 (Nat.le_refl _) (Nat.zero_le _) rfl
  go_enter Ealg.func11, Ealg.ntmps11
  go_wp2_with (at_builtin; refine wpList_append_fits_any _ rfl (.tmp 3) (.tmp 7) 22 rfl w.heap.size 5 i0 1 Ealg.underlying22 hi hz1 w.heap.size 0 0 [] rfl ho a 0 0 [] rfl rfl (fun _ => ⟨rfl, rfl⟩) (by intro _ _ _ _ h; simp at h) (by intro u hu; simp at hu) (by omega) ?fits)
  case fits =>
    intro w3 hown hgrow
    have H3 : Hid (Row w3 (some ⟨w.heap.size, 0, none⟩) 0 [] ∧ Below w.heap.size w w3) := ⟨row_of_owns rfl hown, ((Below.refl _ _).alloc (Nat.le_refl _) _).grown hgrow (by simp) (fun k h => by injection h with h; omega)⟩
    clear hown hgrow ho
    go_wp2
    go_ret
    exact ⟨_, _, _, rfl, World.cell?_alloc_at _ _ _ _ rfl, H3.out.1.alloc _, H3.out.2.alloc H3.out.2.size _⟩

/-- Bytes.Copy (11): a new Bytes with the same bytes. -/
theorem copy_any (p : Nat) (a : Option Addr) (l : Nat) (zs : List Int) (w : World) (hp : w.cell? ⟨p, 0, none⟩ = some (.slice a l l)) (r : Row w a l zs) (hl : l ≤ 1048576) :
    Calls Ealg.prog 11 #[.pointer (some ⟨p, 0, none⟩)] w fun e w' => ∃ q a' c', e = .returned (.iface 25 (.pointer (some ⟨q, 0, none⟩))) ∧ w'.cell? ⟨q, 0, none⟩ = some (.slice a' l c') ∧ Row w' a' l zs ∧ Below w.heap.size w w' := by
  by_cases h0 : l = 0
  · subst h0
    have hz : zs = [] := List.eq_nil_of_length_eq_zero r.1
    subst hz
    exact copy_empty p a w hp
  · obtain ⟨b, rfl⟩ := r.first (by omega)
    exact copy_some p b l l zs w hp r (by omega) hl

/-- The law's own Bytes object in box O, over the clone: it holds the bytes x, and nothing that was there ahead of the call (w) has turned. -/
def Held (w W : World) (O : Nat) (a : Option Addr) (len : Nat) (x : List Int) : Prop :=
  W.cell? ⟨O, 0, none⟩ = some (.slice a len len) ∧ Row W a len x ∧ Below w.heap.size w W

theorem Held.below {w W W' : World} {O : Nat} {a : Option Addr} {len : Nat} {x : List Int} (h : Held w W O a len x) (hb : Below W.heap.size W W') : Held w W' O a len x :=
  ⟨(hb.cell (p := ⟨O, 0, none⟩) (cell_lt h.1)).trans h.1, h.2.1.below hb, h.2.2.trans (hb.mono h.2.2.size)⟩

theorem Held.alloc {w W : World} {O : Nat} {a : Option Addr} {len : Nat} {x : List Int} (h : Held w W O a len x) (o : Obj) : Held w (W.alloc o) O a len x :=
  h.below ((Below.refl _ _).alloc (Nat.le_refl _) o)

theorem Held.drewN {w W : World} {O : Nat} {a : Option Addr} {len : Nat} {x : List Int} (h : Held w W O a len x) (n : Nat) : Held w (W.drewN n) O a len x :=
  h.below (below_drewN (Below.refl _ _) n)

theorem Held.made {w W : World} {a : Option Addr} {len : Nat} {x : List Int} (h : Row W a len x) (hb : Below w.heap.size w W) : Held w (W.alloc (.cells #[.slice a len len] 29)) W.heap.size a len x :=
  ⟨World.cell?_alloc_at _ _ _ _ rfl, h.alloc _, hb.alloc hb.size _⟩

/-- 'o.Equals(y)', y another Bytes. -/
theorem Held.equals {w W : World} {O : Nat} {a : Option Addr} {len : Nat} {x : List Int} (h : Held w W O a len x) (q : Nat) (a2 : Option Addr) (l2 c2 : Nat) (z2 : List Int) (hq : W.cell? ⟨q, 0, none⟩ = some (.slice a2 l2 c2)) (r2 : Row W a2 l2 z2) :
    Calls Ealg.prog 10 #[.pointer (some ⟨O, 0, none⟩), .iface 25 (.pointer (some ⟨q, 0, none⟩))] W fun e w' => e = .returned (.bool (eqB x z2)) ∧ Held w w' O a len x := by
  refine (equals_bytes O q a a2 len len l2 c2 x z2 W h.1 hq h.2.1 r2).mono ?_
  rintro e w' ⟨rfl, n, rfl⟩
  exact ⟨rfl, h.drewN n⟩

/-- 'y.Equals(o)', y another Bytes. -/
theorem Held.equals_back {w W : World} {O : Nat} {a : Option Addr} {len : Nat} {x : List Int} (h : Held w W O a len x) (q : Nat) (a2 : Option Addr) (l2 c2 : Nat) (z2 : List Int) (hq : W.cell? ⟨q, 0, none⟩ = some (.slice a2 l2 c2)) (r2 : Row W a2 l2 z2) :
    Calls Ealg.prog 10 #[.pointer (some ⟨q, 0, none⟩), .iface 25 (.pointer (some ⟨O, 0, none⟩))] W fun e w' => e = .returned (.bool (eqB z2 x)) ∧ Held w w' O a len x := by
  refine (equals_bytes q O a2 a l2 c2 len len z2 x W hq h.1 r2 h.2.1).mono ?_
  rintro e w' ⟨rfl, n, rfl⟩
  exact ⟨rfl, h.drewN n⟩

/-- 'o.Copy()'. -/
theorem Held.copy {w W : World} {O : Nat} {a : Option Addr} {len : Nat} {x : List Int} (h : Held w W O a len x) (hl : len ≤ 1048576) :
    Calls Ealg.prog 11 #[.pointer (some ⟨O, 0, none⟩)] W fun e w' => ∃ q a' c', e = .returned (.iface 25 (.pointer (some ⟨q, 0, none⟩))) ∧ w'.cell? ⟨q, 0, none⟩ = some (.slice a' len c') ∧ Row w' a' len x ∧ Held w w' O a len x := by
  refine (copy_any O a len x W h.1 h.2.1 hl).mono ?_
  rintro e w' ⟨q, a', c', rfl, hq, r, hb⟩
  exact ⟨q, a', c', rfl, hq, r, h.below hb⟩

theorem m_falsy (a : Addr) (w : World) : (method 189 25 (.pointer (some a)) "IsFalsy").run Ealg.prog w = .ok (9, .pointer (some a)) w := by kernel_rfl
theorem m_equals (a : Addr) (w : World) : (method 189 25 (.pointer (some a)) "Equals").run Ealg.prog w = .ok (10, .pointer (some a)) w := by kernel_rfl

end Go.Proofs.Yoealw.Kit
