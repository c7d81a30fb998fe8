/-
  Contracts for the iterator's statement: its bound (14), Bytes.Iterate (15), BytesIterator.Next (79), BytesIterator.Value (82), Int.Equals (16).
-/
import Derived.Test.YoealwKit
namespace Go.Proofs.Yoealw.Kit
open Go.RowKit

theorem zz14_yes (a0 : Option Addr) (l0 c0 : Nat) (x y : Int) (w : World) (h : l0 ≤ 1048576) :
    Calls Ealg.prog 14 #[.slice a0 l0 c0, .int .u8 x, .int .u32 y] w fun e w' => e = .returned (.bool true) ∧ w' = w := by
  go_enter Ealg.func14, Ealg.ntmps14
  go_wp2
  go_ret
  exact ⟨rfl, rfl⟩

theorem zz14_no (a0 : Option Addr) (l0 c0 : Nat) (x y : Int) (w : World) (h : 1048576 < l0) (m0 : l0 ≤ maxLen) :
    Calls Ealg.prog 14 #[.slice a0 l0 c0, .int .u8 x, .int .u32 y] w fun e w' => e = .returned (.bool false) ∧ w' = w := by
  unfold maxLen at m0
  go_enter Ealg.func14, Ealg.ntmps14
  go_wp2
  go_ret
  exact ⟨rfl, rfl⟩

theorem iterate_any (p : Nat) (a : Option Addr) (l c : Nat) (w : World) (hp : w.cell? ⟨p, 0, none⟩ = some (.slice a l c)) :
    Calls Ealg.prog 15 #[.pointer (some ⟨p, 0, none⟩)] w fun e w' => e = .returned (.iface 58 (.pointer (some ⟨w.heap.size, 0, none⟩))) ∧ ∃ n, w' = (w.alloc (.cells #[.slice a l c, .int .i64 0, .int .i64 l] 60)).drewN n := by
  go_enter Ealg.func15, Ealg.ntmps15
  go_wp2
  go_region
  all_goals go_wp2
  all_goals go_ret
  all_goals exact ⟨rfl, 1, rfl⟩

theorem next_any (q : Nat) (i l : Int) (w : World) (h0 : 0 ≤ i) (h1 : i ≤ 2000000) (hi : w.cell? ⟨q, 1, none⟩ = some (.int .i64 i)) (hf : w.frozen? ⟨q, 1, none⟩ = false) (hl : w.cell? ⟨q, 2, none⟩ = some (.int .i64 l)) :
    Calls Ealg.prog 79 #[.pointer (some ⟨q, 0, none⟩)] w fun e w' => e = .returned (.bool (decide (i + 1 ≤ l))) ∧ ∃ n, w' = (w.setCell ⟨q, 1, none⟩ (.int .i64 (i + 1))).drewN n := by
  go_enter Ealg.func79, Ealg.ntmps79
  go_wp2
  go_quiet (fail)
  go_wp2
  go_ret
  exact ⟨rfl, _, rfl⟩

theorem value_any (q b k : Nat) (l c : Nat) (z : Int) (w : World) (hz : 0 ≤ z ∧ z ≤ 255) (hk : k < l) (hl : l ≤ 1048576) (h0 : w.cell? ⟨q, 0, none⟩ = some (.slice (some ⟨b, 0, none⟩) l c)) (h1 : w.cell? ⟨q, 1, none⟩ = some (.int .i64 ((k : Int) + 1))) (hc : w.cell? ⟨b, k, none⟩ = some (.int .u8 z)) :
    Calls Ealg.prog 82 #[.pointer (some ⟨q, 0, none⟩)] w fun e w' => e = .returned (.iface 54 (.pointer (some ⟨w.heap.size, 0, none⟩))) ∧ ∃ n, w' = (w.alloc (.cells #[.int .i64 z] 56)).drewN n := by
  go_enter Ealg.func82, Ealg.ntmps82
  go_wp2
  go_region
  all_goals go_wp2
  all_goals go_ret
  all_goals exact ⟨rfl, 1, rfl⟩

theorem int_equals (p q : Nat) (x y : Int) (w : World) (hp : w.cell? ⟨p, 0, none⟩ = some (.int .i64 x)) (hq : w.cell? ⟨q, 0, none⟩ = some (.int .i64 y)) :
    Calls Ealg.prog 16 #[.pointer (some ⟨p, 0, none⟩), .iface 54 (.pointer (some ⟨q, 0, none⟩))] w fun e w' => e = .returned (.bool (x == y)) ∧ ∃ n, w' = w.drewN n := by
  have ta := ta_int
  go_enter Ealg.func16, Ealg.ntmps16
  go_wp2
  go_quiet (fail)
  go_wp2
  go_ret
  exact ⟨rfl, _, rfl⟩

/-- The iterator's block: the slice, the place, the length that was read when it was made. -/
structure Iter (w : World) (q : Nat) (a : Option Addr) (len : Nat) (i : Int) : Prop where
  v : w.cell? ⟨q, 0, none⟩ = some (.slice a len len)
  i : w.cell? ⟨q, 1, none⟩ = some (.int .i64 i)
  f : w.frozen? ⟨q, 1, none⟩ = false
  l : w.cell? ⟨q, 2, none⟩ = some (.int .i64 len)

theorem Iter.lt {w : World} {q : Nat} {a : Option Addr} {len : Nat} {i : Int} (h : Iter w q a len i) : q < w.heap.size := cell_lt h.v

theorem Iter.below {w w' : World} {q : Nat} {a : Option Addr} {len : Nat} {i : Int} (h : Iter w q a len i) (hb : Below w.heap.size w w') : Iter w' q a len i :=
  ⟨(hb.cell (p := ⟨q, 0, none⟩) h.lt).trans h.v, (hb.cell (p := ⟨q, 1, none⟩) h.lt).trans h.i, (hb.frozen (p := ⟨q, 1, none⟩) h.lt).trans h.f, (hb.cell (p := ⟨q, 2, none⟩) h.lt).trans h.l⟩

theorem Iter.same {w w' : World} {q : Nat} {a : Option Addr} {len : Nat} {i : Int} (h : Iter w q a len i) (hb : w'.heap[q]? = w.heap[q]?) : Iter w' q a len i :=
  ⟨(World.cell?_of_block (a := ⟨q, 0, none⟩) hb).trans h.v, (World.cell?_of_block (a := ⟨q, 1, none⟩) hb).trans h.i, (World.frozen?_of_block (a := ⟨q, 1, none⟩) hb).trans h.f, (World.cell?_of_block (a := ⟨q, 2, none⟩) hb).trans h.l⟩

theorem iterate_it (p : Nat) (a : Option Addr) (l : Nat) (w : World) (hp : w.cell? ⟨p, 0, none⟩ = some (.slice a l l)) :
    Calls Ealg.prog 15 #[.pointer (some ⟨p, 0, none⟩)] w fun e w' => e = .returned (.iface 58 (.pointer (some ⟨w.heap.size, 0, none⟩))) ∧ Iter w' w.heap.size a l 0 ∧ Below w.heap.size w w' ∧ w'.heap.size = w.heap.size + 1 := by
  refine (iterate_any p a l l w hp).mono ?_
  rintro e w' ⟨rfl, n, rfl⟩
  have hc : ∀ j, ((w.alloc (.cells #[.slice a l l, .int .i64 0, .int .i64 l] 60)).drewN n).cell? ⟨w.heap.size, j, none⟩ = #[Value.slice a l l, .int .i64 0, .int .i64 l][j]? := fun j => World.cell?_alloc_at _ _ _ _ rfl
  exact ⟨rfl, ⟨hc 0, hc 1, World.frozen?_alloc_at _ _ _ _ rfl, hc 2⟩, below_drewN ((Below.refl _ _).alloc (Nat.le_refl _) _) n, by show (w.alloc _).heap.size = _; simp⟩

theorem next_it (q : Nat) (a : Option Addr) (len : Nat) (i : Int) (w : World) (it : Iter w q a len i) (h0 : 0 ≤ i) (h1 : i ≤ 2000000) :
    Calls Ealg.prog 79 #[.pointer (some ⟨q, 0, none⟩)] w fun e w' => e = .returned (.bool (decide (i + 1 ≤ len))) ∧ Iter w' q a len (i + 1) ∧ Below q w w' := by
  refine (next_any q i len w h0 h1 it.i it.f it.l).mono ?_
  rintro e w' ⟨rfl, n, rfl⟩
  refine ⟨rfl, ⟨?_, ?_, ?_, ?_⟩, below_drewN ((Below.refl q w).setCell (p := ⟨q, 1, none⟩) (Nat.le_refl q) _) n⟩
  · exact (World.cell?_setCell_other w ⟨q, 1, none⟩ ⟨q, 0, none⟩ _ (by simp)).trans it.v
  · exact World.cell?_setCell_same w ⟨q, 1, none⟩ _ it.i
  · exact (World.frozen?_setCell w ⟨q, 1, none⟩ ⟨q, 1, none⟩ _).trans it.f
  · exact (World.cell?_setCell_other w ⟨q, 1, none⟩ ⟨q, 2, none⟩ _ (by simp)).trans it.l

theorem value_it (q b k len : Nat) (z : Int) (w : World) (it : Iter w q (some ⟨b, 0, none⟩) len ((k : Int) + 1)) (hz : 0 ≤ z ∧ z ≤ 255) (hk : k < len) (hl : len ≤ 1048576) (hc : w.cell? ⟨b, k, none⟩ = some (.int .u8 z)) :
    Calls Ealg.prog 82 #[.pointer (some ⟨q, 0, none⟩)] w fun e w' => ∃ r, e = .returned (.iface 54 (.pointer (some ⟨r, 0, none⟩))) ∧ w'.cell? ⟨r, 0, none⟩ = some (.int .i64 z) ∧ Below w.heap.size w w' := by
  refine (value_any q b k len len z w hz hk hl it.v it.i hc).mono ?_
  rintro e w' ⟨rfl, n, rfl⟩
  exact ⟨_, rfl, World.cell?_alloc_at _ _ _ _ rfl, below_drewN ((Below.refl _ _).alloc (Nat.le_refl _) _) n⟩

theorem m_next (a : Addr) (w : World) : (method 189 58 (.pointer (some a)) "Next").run Ealg.prog w = .ok (79, .pointer (some a)) w := by kernel_rfl
theorem m_value (a : Addr) (w : World) : (method 189 58 (.pointer (some a)) "Value").run Ealg.prog w = .ok (82, .pointer (some a)) w := by kernel_rfl

/-- Behind an append that moves: nothing that was there ahead of it has turned. -/
theorem grown_below {W w3 : World} {o : Obj} (hg : (W.alloc o).grownBy w3 Option.none) : Below W.heap.size W w3 :=
  ((Below.refl _ _).alloc (Nat.le_refl _) o).grown hg (by simp) (fun k h => by cases h)

/-- The one cell that 'append(.., x)' lays ahead. -/
theorem one_new (w : World) (x : Value) (n : Nat) (hn : n = w.heap.size) : ∀ j u, [x][j]? = some u → (w.alloc (.cells #[x] 5)).cell? ((⟨n, 0, none⟩ : Addr).add j) = some u := by
  intro j u hj
  match j, hj with
  | 0, hj =>
    simp at hj
    subst hj
    rw [Addr.add_lit, World.cell?_alloc_at _ _ _ _ hn]
    rfl

end Go.Proofs.Yoealw.Kit
