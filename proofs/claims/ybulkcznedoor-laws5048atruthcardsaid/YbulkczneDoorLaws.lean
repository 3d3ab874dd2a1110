/- The walks of the two laws. -/
import Derived.Test.YbulkczneDoorCheck
namespace Go.Proofs.YbulkczneDoor
open Go.RowKit

/-- The thirteen cells of a box that lies in block U. -/
theorem box_cells {w : World} {U g0 g1 g2 g5 g6 : Nat} (h : w.heap[U]? = some (.cells (boxCells g0 g1 g2 g5 g6) 33 (0, 0))) : ∀ t, w.cell? ⟨U, t, none⟩ = (boxCells g0 g1 g2 g5 g6)[t]? := fun t => by
  simp [World.cell?, h]
theorem box_free {w : World} {U g0 g1 g2 g5 g6 : Nat} (h : w.heap[U]? = some (.cells (boxCells g0 g1 g2 g5 g6) 33 (0, 0))) : ∀ t, w.frozen? ⟨U, t, none⟩ = false := fun t => by
  simp [World.frozen?, h]
theorem rg_free {w : World} {g : Nat} {hi : Int} (h : Rg w g hi) : ∀ t, w.frozen? ⟨g, t, none⟩ = false := fun t => by
  unfold Rg at h; simp [World.frozen?, h]

theorem truth_law_false (w : World) : Calls Ybad.prog 3 #[.bool false] w fun e w' => e = .returned (.bool true) ∧ Below w.heap.size w w' := by
  have heq := fun (w : World) (a : Option Addr) (n c : Nat) => Lib.run_eql_slice_nil (P := Ybad.prog) w 23 33 a n c 0 0 Ybad.underlying23
  go_enter Ybad.func3, Ybad.ntmps3
  go_wp2_with fail
  refine (truth_false w).mono ?_
  rintro e w1 ⟨rfl, rfl⟩
  go_wp2_with fail
  go_ret
  exact ⟨rfl, Below.refl _ _⟩

set_option maxRecDepth 100000 in
theorem truth_law_true (w : World) (g0 : w.cell? ⟨0, 0, none⟩ = some (.int .i64 0)) (g1 : w.cell? ⟨0, 1, none⟩ = some (.int .i64 1)) (g2 : w.cell? ⟨0, 2, none⟩ = some (.int .i64 2)) (g3 : w.cell? ⟨0, 3, none⟩ = some (.int .i64 5)) (g4 : w.cell? ⟨0, 4, none⟩ = some (.int .i64 6)) :
    Calls Ybad.prog 3 #[.bool true] w fun e w' => e = .returned (.bool true) ∧ Below w.heap.size w w' := by
  go_enter Ybad.func3, Ybad.ntmps3
  go_wp2_with fail
  refine (truth_true w g0 g1 g2 g3 g4).mono ?_
  rintro e w1 ⟨U, b0, b1, b2, b5, b6, rfl, hU, hbox, h5, hbel⟩
  have c := box_cells hbox
  have c0 := c 0
  have c1 := c 1
  have c2 := c 2
  have c3 := c 3
  have c4 := c 4
  have c5 := c 5
  have c6 := c 6
  have c7 := c 7
  have c8 := c 8
  have c9 := c 9
  have c10 := c 10
  have c11 := c 11
  have c12 := c 12
  simp only [boxCells, List.getElem?_toArray, List.getElem?_cons_zero, List.getElem?_cons_succ] at c0 c1 c2 c3 c4 c5 c6 c7 c8 c9 c10 c11 c12
  clear c hbox
  go_wp2_with fail
  refine (every_walk w1 w.heap.size b0 b1 b2 b5 b6 h5).mono ?_
  rintro e w2 ⟨rfl, hb2⟩
  go_wp2_with fail
  go_ret
  exact ⟨rfl, hbel.trans (hb2.mono hbel.size)⟩

theorem Five.set {B : Nat} {w : World} {g0 g1 g2 g5 g6 : Nat} (h : Five B w g0 g1 g2 g5 g6) (a : Addr) (ha : a.block < B) (u : Value) : Five B (w.setCell a u) g0 g1 g2 g5 g6 := by
  have p : ∀ (o' : Obj) (k : Nat), B ≤ k → w.heap[k]? = some o' → (w.setCell a u).heap[k]? = some o' := fun o' k hB hk => by rw [heap_setCell_other _ _ _ _ (by omega)]; exact hk
  exact ⟨p _ _ h.b0 h.r0, p _ _ h.b1 h.r1, p _ _ h.b2 h.r2, p _ _ h.b5 h.r5, p _ _ h.b6 h.r6, h.b0, h.b1, h.b2, h.b5, h.b6⟩

theorem Below.big {B : Nat} {w w' : World} (h : Below B w w') {k : Nat} {o : Obj} (hk : w.heap[k]? = some o) (hB : k < B) : w'.heap[k]? = some o := by rw [h.block k hB]; exact hk

set_option maxRecDepth 100000 in
set_option maxHeartbeats 1000000 in
theorem fresh_law (v : Int) (w : World) (g0 : w.cell? ⟨0, 0, none⟩ = some (.int .i64 0)) (g1 : w.cell? ⟨0, 1, none⟩ = some (.int .i64 1)) (g2 : w.cell? ⟨0, 2, none⟩ = some (.int .i64 2)) (g3 : w.cell? ⟨0, 3, none⟩ = some (.int .i64 5)) (g4 : w.cell? ⟨0, 4, none⟩ = some (.int .i64 6)) :
    Calls Ybad.prog 4 #[.int .u32 v] w fun e w' => e = .returned (.bool true) ∧ Below w.heap.size w w' := by
  have hw0 : 0 < w.heap.size := World.block_lt_of_cell? w _ g0
  go_enter Ybad.func4, Ybad.ntmps4
  go_wp2_with fail
  refine (truth_true w g0 g1 g2 g3 g4).mono ?_
  rintro e w1 ⟨U, a0, a1, a2, a5, a6, rfl, hU, hbox, h5, hbel⟩
  have k : ∀ t v, w.cell? ⟨0, t, none⟩ = some v → w1.cell? ⟨0, t, none⟩ = some v := fun t v h => by rw [hbel.cell (by exact hw0)]; exact h
  have hsz1 := hbel.size
  go_wp2_with fail
  refine (truth_true w1 (k _ _ g0) (k _ _ g1) (k _ _ g2) (k _ _ g3) (k _ _ g4)).mono ?_
  rintro e w2 ⟨U2, b0, b1, b2, b5, b6, rfl, hU2, hbox2, h52, hbel2⟩
  have hUl : U < w1.heap.size := lt_of_block hbox
  have ha0 : a0 < w1.heap.size := lt_of_block h5.r0
  have ha6 : a6 < w1.heap.size := lt_of_block h5.r6
  have hboxA := Below.big hbel2 hbox hUl
  have r0A := Below.big hbel2 h5.r0 ha0
  have r6A := Below.big hbel2 h5.r6 ha6
  obtain ⟨la0, ua0, _⟩ := rg_cells (w := w2) (g := a0) (hi := 4294967295) r0A
  obtain ⟨la6, ua6, _⟩ := rg_cells (w := w2) (g := a6) (hi := 65535) r6A
  have fa0 := rg_free (w := w2) (g := a0) (hi := 4294967295) r0A
  have fa6 := rg_free (w := w2) (g := a6) (hi := 65535) r6A
  have fU := box_free hboxA
  have cA := box_cells hboxA
  have x0 := cA 0
  have x6 := cA 6
  have x7 := cA 7
  simp only [boxCells, List.getElem?_toArray, List.getElem?_cons_zero, List.getElem?_cons_succ] at x0 x6 x7
  have c := box_cells hbox2
  have c0 := c 0
  have c1 := c 1
  have c2 := c 2
  have c3 := c 3
  have c4 := c 4
  have c5 := c 5
  have c6 := c 6
  have c7 := c 7
  have c8 := c 8
  have c9 := c 9
  have c10 := c 10
  have c11 := c 11
  have c12 := c 12
  simp only [boxCells, List.getElem?_toArray, List.getElem?_cons_zero, List.getElem?_cons_succ] at c0 c1 c2 c3 c4 c5 c6 c7 c8 c9 c10 c11 c12
  have n4 : ¬ a0 = U := by
    intro e
    have h1 := h5.r0
    unfold Rg at h1
    rw [e, hbox] at h1
    simp at h1
  have n5 : ¬ a6 = U := by
    intro e
    have h1 := h5.r6
    unfold Rg at h1
    rw [e, hbox] at h1
    simp at h1
  have n1 : ¬ a0 = U2 := by omega
  have n2 : ¬ a6 = U2 := by omega
  have n3 : ¬ U = U2 := by omega
  have hA0 : w.heap.size ≤ a0 := h5.b0
  have hA6 : w.heap.size ≤ a6 := h5.b6
  have H52 : Five w1.heap.size w2 b0 b1 b2 b5 b6 := h52
  clear c cA hbox hbox2 hboxA r0A r6A k g0 g1 g2 g3 g4
  go_wp2_with fail
  refine (every_walk _ w1.heap.size b0 b1 b2 b5 b6 ((((H52.set ⟨a0, 0, none⟩ ha0 (.int .u32 v)).set ⟨a6, 1, none⟩ ha6 (.int .u32 v)).set ⟨U, 7, none⟩ hUl (.string ⟨#[120]⟩)))).mono ?_
  rintro e w3 ⟨rfl, hb3⟩
  go_wp2_with fail
  go_ret
  refine ⟨rfl, (hbel.trans (hbel2.mono hsz1)).trans ?_⟩
  refine Below.trans ?_ (hb3.mono (by simp; have := hbel2.size; omega))
  exact (((Below.refl _ _).setCell (by exact hA0) _).setCell (by exact hA6) _).setCell (by exact hU) _
end Go.Proofs.YbulkczneDoor
