/- The walks of truth and of the law's own check of a box. -/
import Derived.Test.YbulkczneDoorBox
import Derived.Deep.LoopGhost
namespace Go.Proofs.YbulkczneDoor
open Go.RowKit

/-- What truth(true) leaves: a slice of one box in block U. -/
def True1 (w : World) (e : Ending) (w' : World) : Prop := ∃ U g0 g1 g2 g5 g6, e = .returned (.slice (some ⟨U, 0, none⟩) 1 1) ∧ w.heap.size ≤ U ∧ w'.heap[U]? = some (.cells (boxCells g0 g1 g2 g5 g6) 33 (0, 0)) ∧ Five w.heap.size w' g0 g1 g2 g5 g6 ∧ Below w.heap.size w w'

theorem Five.alloc {B : Nat} {w : World} {g0 g1 g2 g5 g6 : Nat} (h : Five B w g0 g1 g2 g5 g6) (o : Obj) : Five B (w.alloc o) g0 g1 g2 g5 g6 := by
  have p : ∀ (o' : Obj) (k : Nat), w.heap[k]? = some o' → (w.alloc o).heap[k]? = some o' := fun o' k hk => by rw [Below.heap_alloc w o k (lt_of_block hk)]; exact hk
  exact ⟨p _ _ h.r0, p _ _ h.r1, p _ _ h.r2, p _ _ h.r5, p _ _ h.r6, h.b0, h.b1, h.b2, h.b5, h.b6⟩

theorem truth_true (w : World) (g0 : w.cell? ⟨0, 0, none⟩ = some (.int .i64 0)) (g1 : w.cell? ⟨0, 1, none⟩ = some (.int .i64 1)) (g2 : w.cell? ⟨0, 2, none⟩ = some (.int .i64 2)) (g3 : w.cell? ⟨0, 3, none⟩ = some (.int .i64 5)) (g4 : w.cell? ⟨0, 4, none⟩ = some (.int .i64 6)) :
    Calls Ybad.prog 5 #[.bool true] w fun e w' => True1 w e w' := by
  go_enter Ybad.func5, Ybad.ntmps5
  go_wp2_with fail
  refine (everyPacket_walk w g0 g1 g2 g3 g4).mono ?_
  rintro e w1 ⟨b0, b1, b2, b5, b6, rfl, h5, hbel⟩
  have hsz := hbel.size
  unfold boxCells
  go_wp2_with fail
  go_ret
  exact ⟨w1.heap.size, b0, b1, b2, b5, b6, rfl, hsz, heap_alloc_new w1 _, h5.alloc _, hbel.alloc hsz _⟩

theorem truth_false (w : World) : Calls Ybad.prog 5 #[.bool false] w fun e w' => e = .returned (.slice none 0 0) ∧ w' = w := by
  go_enter Ybad.func5, Ybad.ntmps5
  go_wp2_with fail
  go_ret
  exact ⟨rfl, rfl⟩

theorem rg_cells {w : World} {g : Nat} {hi : Int} (h : Rg w g hi) : w.cell? ⟨g, 0, none⟩ = some (.int .u32 0) ∧ w.cell? ⟨g, 1, none⟩ = some (.int .u32 hi) ∧ g < w.heap.size := by
  refine ⟨?_, ?_, lt_of_block h⟩ <;> (unfold Rg at h; simp [World.cell?, h])

/-- What the check's loop reads: the box, the list of fields, the five ranges. -/
structure CE (w : World) (X Y g0 g1 g2 g5 g6 : Nat) (wr : World) : Prop where
  x0 : wr.cell? ⟨X, 0, none⟩ = some (.slice (some ⟨g0, 0, none⟩) 1 1)
  x1 : wr.cell? ⟨X, 1, none⟩ = some (.slice (some ⟨g1, 0, none⟩) 1 1)
  x2 : wr.cell? ⟨X, 2, none⟩ = some (.slice (some ⟨g2, 0, none⟩) 1 1)
  x5 : wr.cell? ⟨X, 5, none⟩ = some (.slice (some ⟨g5, 0, none⟩) 1 1)
  x6 : wr.cell? ⟨X, 6, none⟩ = some (.slice (some ⟨g6, 0, none⟩) 1 1)
  y0 : wr.cell? ⟨Y, 0, none⟩ = some (.int .i64 0)
  y1 : wr.cell? ⟨Y, 1, none⟩ = some (.int .i64 1)
  y2 : wr.cell? ⟨Y, 2, none⟩ = some (.int .i64 2)
  y3 : wr.cell? ⟨Y, 3, none⟩ = some (.int .i64 5)
  y4 : wr.cell? ⟨Y, 4, none⟩ = some (.int .i64 6)
  l0 : wr.cell? ⟨g0, 0, none⟩ = some (.int .u32 0)
  l1 : wr.cell? ⟨g1, 0, none⟩ = some (.int .u32 0)
  l2 : wr.cell? ⟨g2, 0, none⟩ = some (.int .u32 0)
  l5 : wr.cell? ⟨g5, 0, none⟩ = some (.int .u32 0)
  l6 : wr.cell? ⟨g6, 0, none⟩ = some (.int .u32 0)
  u0 : wr.cell? ⟨g0, 1, none⟩ = some (.int .u32 4294967295)
  u1 : wr.cell? ⟨g1, 1, none⟩ = some (.int .u32 4294967295)
  u2 : wr.cell? ⟨g2, 1, none⟩ = some (.int .u32 255)
  u5 : wr.cell? ⟨g5, 1, none⟩ = some (.int .u32 65535)
  u6 : wr.cell? ⟨g6, 1, none⟩ = some (.int .u32 65535)
  bel : Below w.heap.size w wr

theorem CE.drewN {w : World} {X Y g0 g1 g2 g5 g6 : Nat} {wr : World} (h : CE w X Y g0 g1 g2 g5 g6 wr) (q : Nat) : CE w X Y g0 g1 g2 g5 g6 (wr.drewN q) :=
  ⟨h.x0, h.x1, h.x2, h.x5, h.x6, h.y0, h.y1, h.y2, h.y3, h.y4, h.l0, h.l1, h.l2, h.l5, h.l6, h.u0, h.u1, h.u2, h.u5, h.u6, ⟨h.bel.os, h.bel.tape, h.bel.output, h.bel.size, h.bel.block⟩⟩

theorem CE_start {w : World} {g0 g1 g2 g5 g6 : Nat} {B : Nat} (h : Five B w g0 g1 g2 g5 g6) :
    CE w w.heap.size (w.heap.size + 1) g0 g1 g2 g5 g6 ((w.alloc (.cells (boxCells g0 g1 g2 g5 g6) 33)).alloc (.cells #[.int .i64 0, .int .i64 1, .int .i64 2, .int .i64 5, .int .i64 6] 41)) := by
  obtain ⟨l0, u0, k0⟩ := rg_cells h.r0
  obtain ⟨l1, u1, k1⟩ := rg_cells h.r1
  obtain ⟨l2, u2, k2⟩ := rg_cells h.r2
  obtain ⟨l5, u5, k5⟩ := rg_cells h.r5
  obtain ⟨l6, u6, k6⟩ := rg_cells h.r6
  have hx : ∀ t, ((w.alloc (.cells (boxCells g0 g1 g2 g5 g6) 33)).alloc (.cells #[.int .i64 0, .int .i64 1, .int .i64 2, .int .i64 5, .int .i64 6] 41)).cell? ⟨w.heap.size, t, none⟩ = (boxCells g0 g1 g2 g5 g6)[t]? := fun t => by
    rw [World.cell?_alloc_past _ _ _ (by simp), World.cell?_alloc_at _ _ _ _ rfl]
  have hy : ∀ t, ((w.alloc (.cells (boxCells g0 g1 g2 g5 g6) 33)).alloc (.cells #[.int .i64 0, .int .i64 1, .int .i64 2, .int .i64 5, .int .i64 6] 41)).cell? ⟨w.heap.size + 1, t, none⟩ = (#[.int .i64 0, .int .i64 1, .int .i64 2, .int .i64 5, .int .i64 6] : Array Value)[t]? := fun t => by
    rw [World.cell?_alloc_at _ _ _ _ (by simp)]
  have hg : ∀ g t, g < w.heap.size → ((w.alloc (.cells (boxCells g0 g1 g2 g5 g6) 33)).alloc (.cells #[.int .i64 0, .int .i64 1, .int .i64 2, .int .i64 5, .int .i64 6] 41)).cell? ⟨g, t, none⟩ = w.cell? ⟨g, t, none⟩ := fun g t hk => by
    rw [World.cell?_alloc_past _ _ _ (by simp; omega), World.cell?_alloc_past _ _ _ hk]
  refine ⟨hx 0, hx 1, hx 2, hx 5, hx 6, hy 0, hy 1, hy 2, hy 3, hy 4, ?_, ?_, ?_, ?_, ?_, ?_, ?_, ?_, ?_, ?_, ((Below.refl _ _).alloc (Nat.le_refl _) _).alloc (by simp) _⟩
  · rw [hg _ _ k0]; exact l0
  · rw [hg _ _ k1]; exact l1
  · rw [hg _ _ k2]; exact l2
  · rw [hg _ _ k5]; exact l5
  · rw [hg _ _ k6]; exact l6
  · rw [hg _ _ k0]; exact u0
  · rw [hg _ _ k1]; exact u1
  · rw [hg _ _ k2]; exact u2
  · rw [hg _ _ k5]; exact u5
  · rw [hg _ _ k6]; exact u6

set_option maxRecDepth 100000 in
set_option maxHeartbeats 2000000 in
theorem every_walk (w : World) (B g0 g1 g2 g5 g6 : Nat) (h : Five B w g0 g1 g2 g5 g6) :
    Calls Ybad.prog 6 #[.agg (boxCells g0 g1 g2 g5 g6)] w fun e w' => e = .returned (.bool true) ∧ Below w.heap.size w w' := by
  have hce := CE_start h
  unfold boxCells at hce
  clear h
  unfold boxCells
  go_enter Ybad.func6, Ybad.ntmps6
  go_wp2_with fail
  go_loopg [4] 5 (fun k i wr => ∃ t : Nat, i = .int .i64 t ∧ t + k = 5 ∧ CE w w.heap.size (w.heap.size + 1) g0 g1 g2 g5 g6 wr)
  case atStart => exact ⟨0, rfl, by omega, hce⟩
  case round =>
    clear hce
    obtain ⟨t, rfl, htk, hce⟩ := hrel
    have ht : t = 0 ∨ t = 1 ∨ t = 2 ∨ t = 3 ∨ t = 4 ∨ t = 5 := by omega
    rcases ht with rfl | rfl | rfl | rfl | rfl | rfl
    · obtain ⟨x0, x1, x2, x5, x6, y0, y1, y2, y3, y4, l0, l1, l2, l5, l6, u0, u1, u2, u5, u6, bel⟩ := hce
      go_wp2_with fail
      go_quiet ((go_at_call 8; exact Calls.quiet_of_same (max0 _)))
      go_wp2_with fail
      go_roundg 4
      case measure => omega
      case rel => exact ⟨1, rfl, by omega, (CE.mk x0 x1 x2 x5 x6 y0 y1 y2 y3 y4 l0 l1 l2 l5 l6 u0 u1 u2 u5 u6 bel).drewN _⟩
    · obtain ⟨x0, x1, x2, x5, x6, y0, y1, y2, y3, y4, l0, l1, l2, l5, l6, u0, u1, u2, u5, u6, bel⟩ := hce
      go_wp2_with fail
      go_quiet ((go_at_call 8; exact Calls.quiet_of_same (max1 _)))
      go_wp2_with fail
      go_roundg 3
      case measure => omega
      case rel => exact ⟨2, rfl, by omega, (CE.mk x0 x1 x2 x5 x6 y0 y1 y2 y3 y4 l0 l1 l2 l5 l6 u0 u1 u2 u5 u6 bel).drewN _⟩
    · obtain ⟨x0, x1, x2, x5, x6, y0, y1, y2, y3, y4, l0, l1, l2, l5, l6, u0, u1, u2, u5, u6, bel⟩ := hce
      go_wp2_with fail
      go_quiet ((go_at_call 8; exact Calls.quiet_of_same (max2 _)))
      go_wp2_with fail
      go_roundg 2
      case measure => omega
      case rel => exact ⟨3, rfl, by omega, (CE.mk x0 x1 x2 x5 x6 y0 y1 y2 y3 y4 l0 l1 l2 l5 l6 u0 u1 u2 u5 u6 bel).drewN _⟩
    · obtain ⟨x0, x1, x2, x5, x6, y0, y1, y2, y3, y4, l0, l1, l2, l5, l6, u0, u1, u2, u5, u6, bel⟩ := hce
      go_wp2_with fail
      go_quiet ((go_at_call 8; exact Calls.quiet_of_same (max5 _)))
      go_wp2_with fail
      go_roundg 1
      case measure => omega
      case rel => exact ⟨4, rfl, by omega, (CE.mk x0 x1 x2 x5 x6 y0 y1 y2 y3 y4 l0 l1 l2 l5 l6 u0 u1 u2 u5 u6 bel).drewN _⟩
    · obtain ⟨x0, x1, x2, x5, x6, y0, y1, y2, y3, y4, l0, l1, l2, l5, l6, u0, u1, u2, u5, u6, bel⟩ := hce
      go_wp2_with fail
      go_quiet ((go_at_call 8; exact Calls.quiet_of_same (max6 _)))
      go_wp2_with fail
      go_roundg 0
      case measure => omega
      case rel => exact ⟨5, rfl, by omega, (CE.mk x0 x1 x2 x5 x6 y0 y1 y2 y3 y4 l0 l1 l2 l5 l6 u0 u1 u2 u5 u6 bel).drewN _⟩
    · go_wp2_with fail
      go_ret
      exact ⟨rfl, hce.bel⟩
end Go.Proofs.YbulkczneDoor
