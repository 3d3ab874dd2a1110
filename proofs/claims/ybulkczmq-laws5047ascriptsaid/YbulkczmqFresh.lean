/- The memory of a freshness and its windows; the walks of newFreshness, Add, Contains. -/
import Derived.Test.YbulkczmqSim
import Derived.Deep.RegionLaw
import Derived.Deep.RegionHeld3
import Derived.Deep.QuietTactic
import Derived.BigQuiet
import Derived.Deep.AppendLies
import Derived.Deep.CutBlock
namespace Go.Proofs.Ybulkczmq
open Go.RowKit

/-- A window as it lies in memory: its slice of stamps as a value. -/
structure Wn where
  known : Bool
  newest : Int
  arrived : Int
  floor : Int
  sv : Value

def Wn.cells (W : Wn) : List Value := [.bool W.known, .int .i64 W.newest, .int .i64 W.arrived, .int .i64 W.floor, W.sv]
def wrow (Ws : List Wn) : List Value := Ws.flatMap Wn.cells
def zeroW : Wn := ⟨false, 0, 0, 0, .slice none 0 0⟩

theorem wrow_cons (W : Wn) (Ws : List Wn) : wrow (W :: Ws) = W.cells ++ wrow Ws := by simp [wrow]

theorem wrow_at (Ws : List Wn) (i t : Nat) (hi : i < Ws.length) (ht : t < 5) : (wrow Ws)[i * 5 + t]? = (Ws[i]).cells[t]? := by
  induction Ws generalizing i with
  | nil => simp at hi
  | cons W l ih =>
    rw [wrow_cons]
    cases i with
    | zero => rw [List.getElem?_append_left (by simp [Wn.cells]; omega)]; simp
    | succ i =>
      rw [List.getElem?_append_right (by simp [Wn.cells]; omega)]
      have h1 : (i + 1) * 5 + t - W.cells.length = i * 5 + t := by simp [Wn.cells]; omega
      rw [h1, ih i (by simpa using hi)]
      simp

theorem wrow_set (Ws : List Wn) (i t : Nat) (W' : Wn) (u : Value) (hi : i < Ws.length) (ht : t < 5) (h : W'.cells = (Ws[i]).cells.set t u) : (wrow Ws).set (i * 5 + t) u = wrow (Ws.set i W') := by
  induction Ws generalizing i with
  | nil => simp at hi
  | cons W l ih =>
    rw [wrow_cons]
    cases i with
    | zero =>
      rw [List.set_append_left _ _ (by simp [Wn.cells]; omega)]
      simp only [List.set_cons_zero, wrow_cons]
      rw [h]; simp
    | succ i =>
      rw [List.set_append_right _ _ (by simp [Wn.cells]; omega)]
      have h1 : (i + 1) * 5 + t - W.cells.length = i * 5 + t := by simp [Wn.cells]; omega
      rw [h1, ih i (by simpa using hi) (by simpa using h)]
      simp only [List.set_cons_succ, wrow_cons]

/-- The freshness in block F, its n windows in block SB, which lies below it. -/
structure Fm (SB F n : Nat) (ma fa : Int) (Ws : List Wn) (w : World) : Prop where
  row : w.ownsRow SB 43 5 (.slice (some ⟨SB, 0, none⟩) n n) n (wrow Ws)
  len : Ws.length = n
  lt : SB < F
  f : w.heap[F]? = some (.cells #[.int .i64 ma, .int .i64 fa, .slice (some ⟨SB, 0, none⟩) n n] 46 (0, 0))

theorem Fm.cell {SB F n : Nat} {ma fa : Int} {Ws : List Wn} {w : World} (h : Fm SB F n ma fa Ws w) (i t : Nat) (hi : i < Ws.length) (ht : t < 5) : w.cell? ⟨SB, i * 5 + t, none⟩ = (Ws[i]).cells[t]? := by
  rw [h.row.cellAt _ (by have := h.len; omega), wrow_at Ws i t hi ht]

theorem Fm.free {SB F n : Nat} {ma fa : Int} {Ws : List Wn} {w : World} (h : Fm SB F n ma fa Ws w) (t : Nat) : w.frozen? ⟨SB, t, none⟩ = false := h.row.frozenAt t

theorem Fm.fcells {SB F n : Nat} {ma fa : Int} {Ws : List Wn} {w : World} (h : Fm SB F n ma fa Ws w) :
    w.cell? ⟨F, 0, none⟩ = some (.int .i64 ma) ∧ w.cell? ⟨F, 1, none⟩ = some (.int .i64 fa) ∧ w.cell? ⟨F, 2, none⟩ = some (.slice (some ⟨SB, 0, none⟩) n n) := by
  have := h.f
  refine ⟨?_, ?_, ?_⟩ <;> simp [World.cell?, this]

theorem Fm.put {SB F n : Nat} {ma fa : Int} {Ws : List Wn} {w : World} (h : Fm SB F n ma fa Ws w) (i t : Nat) (W' : Wn) (u : Value) (hi : i < Ws.length) (ht : t < 5) (hW : W'.cells = (Ws[i]).cells.set t u) :
    Fm SB F n ma fa (Ws.set i W') (w.setCell ⟨SB, i * 5 + t, none⟩ u) := by
  refine ⟨?_, by simp [h.len], h.lt, ?_⟩
  · have := (h.row.stored (i * 5 + t) u).1
    rw [wrow_set Ws i t W' u hi ht hW] at this
    exact this
  · rw [heap_setCell_other _ _ _ _ (by have := h.lt; simp; omega)]; exact h.f

/-- Nothing old has turned but block SB and the row 'row'. -/
structure Fr (SB : Nat) (row : Option Nat) (w w' : World) : Prop where
  os : w'.os = w.os
  tape : w'.tape = w.tape
  output : w'.output = w.output
  size : w.heap.size ≤ w'.heap.size
  block : ∀ k, k < w.heap.size → k ≠ SB → some k ≠ row → w'.heap[k]? = w.heap[k]?

theorem Fr.refl (SB : Nat) (row : Option Nat) (w : World) : Fr SB row w w := ⟨rfl, rfl, rfl, Nat.le_refl _, fun _ _ _ _ => rfl⟩
theorem Fr.trans {SB : Nat} {row : Option Nat} {a b c : World} (h : Fr SB row a b) (k : Fr SB row b c) : Fr SB row a c :=
  ⟨k.os.trans h.os, k.tape.trans h.tape, k.output.trans h.output, Nat.le_trans h.size k.size, fun i hi h1 h2 => (k.block i (Nat.lt_of_lt_of_le hi h.size) h1 h2).trans (h.block i hi h1 h2)⟩
theorem Fr.alloc {SB : Nat} {row : Option Nat} {a w : World} (h : Fr SB row a w) (o : Obj) : Fr SB row a (w.alloc o) :=
  ⟨h.os, h.tape, h.output, Nat.le_trans h.size (by simp), fun k hk h1 h2 => by rw [Below.heap_alloc w o k (Nat.lt_of_lt_of_le hk h.size)]; exact h.block k hk h1 h2⟩
theorem Fr.drew {SB : Nat} {row : Option Nat} {a w : World} (h : Fr SB row a w) : Fr SB row a w.drew := ⟨h.os, h.tape, h.output, h.size, h.block⟩
theorem Fr.setCell {SB : Nat} {row : Option Nat} {a w : World} (h : Fr SB row a w) {p : Addr} (hp : p.block = SB ∨ a.heap.size ≤ p.block ∨ some p.block = row) (u : Value) : Fr SB row a (w.setCell p u) := by
  refine ⟨h.os, h.tape, h.output, by simpa using h.size, fun k hk h1 h2 => ?_⟩
  rw [heap_setCell_other _ _ _ _ (by intro e; subst e; rcases hp with hp | hp | hp; exact h1 hp; omega; exact h2 hp)]
  exact h.block k hk h1 h2
theorem Fr.grown {SB : Nat} {row row' : Option Nat} {a w w' : World} (h : Fr SB row a w) (hg : w.grownBy w' row') (hr : ∀ k, row' = some k → a.heap.size ≤ k ∨ row = some k) : Fr SB row a w' := by
  refine ⟨hg.os.trans h.os, hg.tape.trans h.tape, hg.output.trans h.output, Nat.le_trans h.size hg.size, fun k hk h1 h2 => ?_⟩
  rw [hg.block k (Nat.lt_of_lt_of_le hk h.size) (fun e => ?_)]
  · exact h.block k hk h1 h2
  · rcases hr k e.symm with h' | h'
    · omega
    · exact h2 h'.symm
theorem Fr.below {SB B : Nat} {row : Option Nat} {w w' : World} (h : Fr SB row w w') (hB : B ≤ SB) (hB2 : B ≤ w.heap.size) (hr : ∀ k, row = some k → B ≤ k) : Below B w w' :=
  ⟨h.os, h.tape, h.output, h.size, fun k hk => h.block k (by omega) (by omega) (fun e => by have := hr k e.symm; omega)⟩

theorem Yba.info43 : (Yba.prog.info? 43).map (fun i => (i.zero, i.size, i.bytes)) = some (some (.agg #[.bool false, .int .i64 0, .int .i64 0, .int .i64 0, .slice none 0 0]), 5, 56) := by kernel_rfl

theorem add_any (a b : Int) (w : World) : Calls Yba.prog 14 #[.int .i64 a, .int .i64 b] w fun e w' => e = .returned (.int .i64 (wrap64 (a + b))) ∧ w' = w := by
  go_enter Yba.func14, Yba.ntmps14
  go_wp2
  go_ret
  exact ⟨rfl, rfl⟩

theorem made_wins1 : (madeCells (Value.agg #[.bool false, .int .i64 0, .int .i64 0, .int .i64 0, .slice none 0 0]).cells (1 * 5)).toList = wrow (List.replicate 1 zeroW) := by kernel_rfl
theorem made_wins3 : (madeCells (Value.agg #[.bool false, .int .i64 0, .int .i64 0, .int .i64 0, .slice none 0 0]).cells (3 * 5)).toList = wrow (List.replicate 3 zeroW) := by kernel_rfl

theorem newFresh_any (n : Nat) (ma fa : Int) (w : World) (hn : n ≤ 1024) (hmade : (madeCells (Value.agg #[.bool false, .int .i64 0, .int .i64 0, .int .i64 0, .slice none 0 0]).cells (n * 5)).toList = wrow (List.replicate n zeroW)) :
    Calls Yba.prog 7 #[.int .i64 n, .int .i64 ma, .int .i64 fa] w fun e w' => ∃ F, e = .returned (.pointer (some ⟨F, 0, none⟩)) ∧ Fm w.heap.size F n ma fa (List.replicate n zeroW) w' ∧ Below w.heap.size w w' ∧ F < w'.heap.size := by
  obtain ⟨i0, hi, hz0, hz1, hz2⟩ := info_parts Yba.info43
  have Hmade : Hid ((madeCells (Value.agg #[.bool false, .int .i64 0, .int .i64 0, .int .i64 0, .slice none 0 0]).cells (n * 5)).toList = wrow (List.replicate n zeroW)) := hmade
  clear hmade
  go_enter Yba.func7, Yba.ntmps7
  go_wp2_with (at_make; refine wpList_make_full _ rfl (.tmp 9) (.tmp 9) 44 rfl w.heap.size 43 i0 (.agg #[.bool false, .int .i64 0, .int .i64 0, .int .i64 0, .slice none 0 0]) 5 Yba.underlying44 hi hz0 hz1 _ _ _ _ n rfl rfl (by omega) (by omega) (by rw [hz2]; omega) (by unfold maxLen; omega) (by omega) ?_; intro w1 hown1 hgr1)
  go_ret
  have hlt : w.heap.size < w1.heap.size := (hown1.lt _ rfl).2
  refine ⟨w1.heap.size, rfl, ⟨?_, by simp, hlt, heap_alloc_new w1 _⟩, ((Below.refl _ _).grown hgr1 (Nat.le_refl _) (fun k hk => by cases hk)).alloc (by omega) _, by simp⟩
  have := hown1.alloc (.cells #[.int .i64 ma, .int .i64 fa, .slice (some ⟨w.heap.size, 0, none⟩) n n] 46)
  rw [← Hmade.out]
  exact this
end Go.Proofs.Ybulkczmq
