/- The walks of Max, everyPacket, truth and the law's own check of a box. -/
import Derived.Test.YbulkczneDoorRows
import Derived.WalkKit
import Derived.ProofKit
import Derived.WalkLawsBesides
import Derived.Outline
import Derived.Below
import Derived.BigRegion
import Derived.BigQuiet
import Derived.Deep.QuietTactic
import Derived.Laws.EntriesVeiled
namespace Go.Proofs.YbulkczneDoor
open Go.RowKit

theorem max0 (w : World) : Calls Ybad.prog 8 #[.int .i64 0] w fun e w' => e = .returned (.int .u32 4294967295) ∧ w' = w := by
  go_enter Ybad.func8, Ybad.ntmps8
  go_wp2
  go_ret
  exact ⟨rfl, rfl⟩
theorem max1 (w : World) : Calls Ybad.prog 8 #[.int .i64 1] w fun e w' => e = .returned (.int .u32 4294967295) ∧ w' = w := by
  go_enter Ybad.func8, Ybad.ntmps8
  go_wp2
  go_ret
  exact ⟨rfl, rfl⟩
theorem max2 (w : World) : Calls Ybad.prog 8 #[.int .i64 2] w fun e w' => e = .returned (.int .u32 255) ∧ w' = w := by
  go_enter Ybad.func8, Ybad.ntmps8
  go_wp2
  go_ret
  exact ⟨rfl, rfl⟩
theorem max5 (w : World) : Calls Ybad.prog 8 #[.int .i64 5] w fun e w' => e = .returned (.int .u32 65535) ∧ w' = w := by
  go_enter Ybad.func8, Ybad.ntmps8
  go_wp2
  go_ret
  exact ⟨rfl, rfl⟩
theorem max6 (w : World) : Calls Ybad.prog 8 #[.int .i64 6] w fun e w' => e = .returned (.int .u32 65535) ∧ w' = w := by
  go_enter Ybad.func8, Ybad.ntmps8
  go_wp2
  go_ret
  exact ⟨rfl, rfl⟩

/-- The cells of the box of every packet, its five slices of ranges in blocks g0 .. g6. -/
def boxCells (g0 g1 g2 g5 g6 : Nat) : Array Value := #[.slice (some ⟨g0, 0, none⟩) 1 1, .slice (some ⟨g1, 0, none⟩) 1 1, .slice (some ⟨g2, 0, none⟩) 1 1, .slice none 0 0, .slice none 0 0, .slice (some ⟨g5, 0, none⟩) 1 1, .slice (some ⟨g6, 0, none⟩) 1 1, .string ⟨#[]⟩, .string ⟨#[]⟩, .slice none 0 0, .slice none 0 0, .pointer none, .int .i32 0]

/-- Block g holds the one range from 0 to hi. -/
def Rg (w : World) (g : Nat) (hi : Int) : Prop := w.heap[g]? = some (.cells #[.int .u32 0, .int .u32 hi] 38 (0, 0))

/-- Five blocks from B on, each with its range. -/
structure Five (B : Nat) (w : World) (g0 g1 g2 g5 g6 : Nat) : Prop where
  r0 : Rg w g0 4294967295
  r1 : Rg w g1 4294967295
  r2 : Rg w g2 255
  r5 : Rg w g5 65535
  r6 : Rg w g6 65535
  b0 : B ≤ g0
  b1 : B ≤ g1
  b2 : B ≤ g2
  b5 : B ≤ g5
  b6 : B ≤ g6

/-- What everyPacket leaves. -/
def Every (w : World) (e : Ending) (w' : World) : Prop := ∃ g0 g1 g2 g5 g6, e = .returned (.agg (boxCells g0 g1 g2 g5 g6)) ∧ Five w.heap.size w' g0 g1 g2 g5 g6 ∧ Below w.heap.size w w'

theorem every_end (w : World) (c0 c1 : Array Value) :
    Every w (.returned (.agg (boxCells (w.heap.size + 2) (w.heap.size + 3) (w.heap.size + 4) (w.heap.size + 5) (w.heap.size + 6))))
      (((((((w.alloc (.cells c0 33)).alloc (.cells c1 33)).alloc (.cells #[.int .u32 0, .int .u32 4294967295] 38)).alloc (.cells #[.int .u32 0, .int .u32 4294967295] 38)).alloc (.cells #[.int .u32 0, .int .u32 255] 38)).alloc (.cells #[.int .u32 0, .int .u32 65535] 38)).alloc (.cells #[.int .u32 0, .int .u32 65535] 38)) := by
  have n : ∀ (W : World) (o : Obj) (k : Nat), k = W.heap.size → (W.alloc o).heap[k]? = some o := fun W o k hk => by subst hk; exact heap_alloc_new W o
  have p : ∀ (W : World) (o o' : Obj) (k : Nat), W.heap[k]? = some o' → (W.alloc o).heap[k]? = some o' := fun W o o' k hk => by rw [Below.heap_alloc W o k (lt_of_block hk)]; exact hk
  refine ⟨_, _, _, _, _, rfl, ⟨?_, ?_, ?_, ?_, ?_, by omega, by omega, by omega, by omega, by omega⟩, ?_⟩
  · exact p _ _ _ _ (p _ _ _ _ (p _ _ _ _ (p _ _ _ _ (n _ _ _ (by simp)))))
  · exact p _ _ _ _ (p _ _ _ _ (p _ _ _ _ (n _ _ _ (by simp))))
  · exact p _ _ _ _ (p _ _ _ _ (n _ _ _ (by simp)))
  · exact p _ _ _ _ (n _ _ _ (by simp))
  · exact n _ _ _ (by simp)
  · exact (((((((Below.refl _ _).alloc (by omega) _).alloc (by simp) _).alloc (by simp; omega) _).alloc (by simp; omega) _).alloc (by simp; omega) _).alloc (by simp; omega) _).alloc (by simp; omega) _

set_option maxRecDepth 100000 in
set_option maxHeartbeats 1000000 in
theorem everyPacket_walk (w : World) (g0 : w.cell? ⟨0, 0, none⟩ = some (.int .i64 0)) (g1 : w.cell? ⟨0, 1, none⟩ = some (.int .i64 1)) (g2 : w.cell? ⟨0, 2, none⟩ = some (.int .i64 2)) (g3 : w.cell? ⟨0, 3, none⟩ = some (.int .i64 5)) (g4 : w.cell? ⟨0, 4, none⟩ = some (.int .i64 6)) :
    Calls Ybad.prog 7 #[] w fun e w' => Every w e w' := by
  have hw0 : 0 < w.heap.size := World.block_lt_of_cell? w _ g0
  have i0 : ∀ w, (Instr.index 41 (.agg #[.int .i64 0, .int .i64 1, .int .i64 2, .int .i64 5, .int .i64 6]) (.int .i64 0)).run Ybad.prog w = .ok (.int .i64 0) w := fun _ => by kernel_rfl
  have i1 : ∀ w, (Instr.index 41 (.agg #[.int .i64 0, .int .i64 1, .int .i64 2, .int .i64 5, .int .i64 6]) (.int .i64 1)).run Ybad.prog w = .ok (.int .i64 1) w := fun _ => by kernel_rfl
  have i2 : ∀ w, (Instr.index 41 (.agg #[.int .i64 0, .int .i64 1, .int .i64 2, .int .i64 5, .int .i64 6]) (.int .i64 2)).run Ybad.prog w = .ok (.int .i64 2) w := fun _ => by kernel_rfl
  have i3 : ∀ w, (Instr.index 41 (.agg #[.int .i64 0, .int .i64 1, .int .i64 2, .int .i64 5, .int .i64 6]) (.int .i64 3)).run Ybad.prog w = .ok (.int .i64 5) w := fun _ => by kernel_rfl
  have i4 : ∀ w, (Instr.index 41 (.agg #[.int .i64 0, .int .i64 1, .int .i64 2, .int .i64 5, .int .i64 6]) (.int .i64 4)).run Ybad.prog w = .ok (.int .i64 6) w := fun _ => by kernel_rfl
  go_enter Ybad.func7, Ybad.ntmps7
  go_wp2_with fail
  refine wp_loop_rounds 6 ?_
  rw [rounds_succ]
  go_wp2_with fail
  refine (max0 _).mono ?_
  rintro e w' ⟨rfl, rfl⟩
  go_wp2_with fail
  rw [rounds_succ]
  go_wp2_with fail
  refine (max1 _).mono ?_
  rintro e w' ⟨rfl, rfl⟩
  go_wp2_with fail
  rw [rounds_succ]
  go_wp2_with fail
  refine (max2 _).mono ?_
  rintro e w' ⟨rfl, rfl⟩
  go_wp2_with fail
  rw [rounds_succ]
  go_wp2_with fail
  refine (max5 _).mono ?_
  rintro e w' ⟨rfl, rfl⟩
  go_wp2_with fail
  rw [rounds_succ]
  go_wp2_with fail
  refine (max6 _).mono ?_
  rintro e w' ⟨rfl, rfl⟩
  go_wp2_with fail
  rw [rounds_succ]
  go_wp2_with fail
  exact bodyPost_ret (v := .agg (boxCells (w.heap.size + 2) (w.heap.size + 3) (w.heap.size + 4) (w.heap.size + 5) (w.heap.size + 6))) (by simp [results, Ybad.results7, go_sem, boxCells]) rfl (every_end w _ _)
end Go.Proofs.YbulkczneDoor
