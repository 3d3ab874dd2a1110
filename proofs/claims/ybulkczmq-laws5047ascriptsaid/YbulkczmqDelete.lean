/- slices.DeleteFunc with admit's closure: the shelf's contract at this program. -/
import Derived.Test.YbulkczmqRefuse
import Derived.Shelf.SlicesE.DeleteFunc
import Derived.Ground.SlgfProg
import Derived.Lib.SliceRun
namespace Go.Proofs
open Go.Shelf Go.RowKit Go.Lib Go.Sort
shelf_lay_g SlLaysH.n10 Slgf 10 at Yba 16 as Yba.l16
end Go.Proofs
namespace Go.Proofs.Ybulkczmq
open Go.RowKit Go.Shelf Go.Lib Go.Sort

/-- What the closure strikes. -/
def strikes (fl ne x : Int) : Bool := decide (wrap64 (x - fl) ≤ 0) || decide (0 < wrap64 (x - ne))

theorem closure_any (x fl ne : Int) (V SB k : Nat) (W : World) (hV : W.cell? ⟨V, 0, none⟩ = some (.pointer (some ⟨SB, k, none⟩))) (h3 : W.cell? ⟨SB, k + 3, none⟩ = some (.int .i64 fl)) (h1 : W.cell? ⟨SB, k + 1, none⟩ = some (.int .i64 ne)) :
    Calls Yba.prog 17 #[.int .i64 x, .pointer (some ⟨V, 0, none⟩)] W fun e w' => e = .returned (.bool (strikes fl ne x)) ∧ w' = W := by
  obtain ⟨a, ha⟩ : ∃ a, wrap64 (x - fl) = a := ⟨_, rfl⟩
  obtain ⟨b, hb⟩ : ∃ b, wrap64 (x - ne) = b := ⟨_, rfl⟩
  have hst : strikes fl ne x = (decide (a ≤ 0) || decide (0 < b)) := by unfold strikes; rw [ha, hb]
  have Hst : Hid (strikes fl ne x = (decide (a ≤ 0) || decide (0 < b))) := hst
  clear hst
  by_cases ca : a ≤ 0
  · have dca : decide (a ≤ 0) = true := decide_eq_true ca
    go_enter Yba.func17, Yba.ntmps17
    go_wp2_with (go_at_call 13; refine (since_any _ _ _).mono ?_; rintro e w1 ⟨rfl, rfl⟩; rw [ha])
    go_ret
    exact ⟨by rw [Hst.out, dca]; rfl, rfl⟩
  · have dca : decide (a ≤ 0) = false := decide_eq_false ca
    by_cases cb : 0 < b
    · have dcb : decide (0 < b) = true := decide_eq_true cb
      go_enter Yba.func17, Yba.ntmps17
      go_wp2_with (go_at_call 13; refine (since_any _ _ _).mono ?_; rintro e w1 ⟨rfl, rfl⟩; first | rw [ha] | rw [hb])
      go_ret
      exact ⟨by rw [Hst.out, dca, dcb]; rfl, rfl⟩
    · have dcb : decide (0 < b) = false := decide_eq_false cb
      go_enter Yba.func17, Yba.ntmps17
      go_wp2_with (go_at_call 13; refine (since_any _ _ _).mono ?_; rintro e w1 ⟨rfl, rfl⟩; first | rw [ha] | rw [hb])
      go_ret
      exact ⟨by rw [Hst.out, dca, dcb]; rfl, rfl⟩

/-- Only block g has turned. -/
structure Row1 (g : Nat) (w w' : World) : Prop where
  os : w'.os = w.os
  tape : w'.tape = w.tape
  output : w'.output = w.output
  size : w'.heap.size = w.heap.size
  block : ∀ k, k ≠ g → w'.heap[k]? = w.heap[k]?

theorem deleted_any (F g cap V SB k : Nat) (fl ne : Int) (s : List Int) (w : World) (hV : w.cell? ⟨V, 0, none⟩ = some (.pointer (some ⟨SB, k, none⟩))) (h3 : w.cell? ⟨SB, k + 3, none⟩ = some (.int .i64 fl)) (h1 : w.cell? ⟨SB, k + 1, none⟩ = some (.int .i64 ne))
    (hown : w.ownsRow (F + 1) 38 1 (.slice (some ⟨g, 0, none⟩) s.length cap) s.length (ints s)) (hSg : SB ≠ g) (hVg : V ≠ g) :
    Calls Yba.prog 16 #[.slice (some ⟨g, 0, none⟩) s.length cap, .func (.func 17) #[] #[.pointer (some ⟨V, 0, none⟩)]] w fun e w' =>
      e = .returned (.slice (some ⟨g, 0, none⟩) (s.filter fun x => !strikes fl ne x).length cap) ∧ Row1 g w w' ∧
      w'.ownsRow (F + 1) 38 1 (.slice (some ⟨g, 0, none⟩) (s.filter fun x => !strikes fl ne x).length cap) (s.filter fun x => !strikes fl ne x).length (ints (s.filter fun x => !strikes fl ne x)) := by
  have eg : ∀ args w, (callFunc 17 args).run Yba.prog w = .ok (.enter 17 args) w := enters_of Yba.func17 (by kernel_rfl) rfl
  have hg : g < w.heap.size := (hown.lt g rfl).2
  have hVl : V < w.heap.size := World.block_lt_of_cell? w _ hV
  have hSl : SB < w.heap.size := World.block_lt_of_cell? w _ h3
  obtain ⟨cap', cur, hcap0, hbase, hh, hn, hcapm, hsz, htake⟩ : ∃ cap' cur, cap' = cap ∧ F + 1 ≤ g ∧ w.heap[g]? = some (.cells cur 38 (0, 0)) ∧ s.length ≤ cap ∧ cap ≤ maxLen ∧ cur.size = cap * 1 ∧ cur.toList.take (s.length * 1) = ints s := by
    rcases hown.2 with ⟨h0, _⟩ | ⟨g', cap', cur, hv, hb, hh, hn, hcap, hsz, htake⟩
    · cases h0
    · cases hv
      exact ⟨_, cur, rfl, hb, hh, hn, hcap, hsz, htake⟩
  have hH : Holds (Value.int .i64) w g 0 s.toArray := fun j hj => by
    have hj' : j < s.length := by simpa using hj
    refine ⟨?_, ?_⟩
    · rw [Nat.zero_add, hown.cellAt j (by omega), ints_nth s j hj', nth_eq s j hj']
      simp [hj']
    · exact hown.frozenAt _
  have hp : PredAt Yba.prog 17 #[.pointer (some ⟨V, 0, none⟩)] (Value.int .i64) (strikes fl ne) w := fun W x hb =>
    (closure_any x fl ne V SB k W ((hb.cell (p := ⟨V, 0, none⟩) hVl).trans hV) ((hb.cell (p := ⟨SB, k + 3, none⟩) hSl).trans h3) ((hb.cell (p := ⟨SB, k + 1, none⟩) hSl).trans h1)).mono (fun e w' ⟨he, hw⟩ => ⟨he, 0, hw⟩)
  have hother : ∀ (n : Nat) (os : Array Obj) (dk : Array Int) (B o : Nat), B ≠ g → B < w.heap.size → (sortWorld (Value.int .i64) w g 0 n dk os).cell? ⟨B, o, none⟩ = w.cell? ⟨B, o, none⟩ := fun n os dk B o hne hB => by
    unfold sortWorld
    rw [cell?_grow _ _ _ (by show B < (putRow _ _ _ _ _).heap.size; rw [size_putRow]; exact hB), cell?_putRow_other _ _ g 0 _ _ (Or.inl hne)]
    rfl
  have hpo : PredOver Yba.prog 17 #[.pointer (some ⟨V, 0, none⟩)] (Value.int .i64) (strikes fl ne) g 0 s.toArray.size w := fun n os dk x _ =>
    (closure_any x fl ne V SB k _ ((hother n os dk V 0 hVg hVl).trans hV) ((hother n os dk SB _ hSg hSl).trans h3) ((hother n os dk SB _ hSg hSl).trans h1)).mono (fun e w' ⟨he, hw⟩ => ⟨he, 0, hw⟩)
  have hcon := AnyE.slices_DeleteFunc Yba.l16 (Value.int .i64) (fun _ => rfl) (strikes fl ne) 17 #[.pointer (some ⟨V, 0, none⟩)] eg 0 Yba.zeroValue38 g 0 cap s.toArray w hp hpo hH (by simp; unfold maxLen at hcapm; omega) (by simpa using hn)
  change Calls Yba.prog 16 _ _ _ at hcon
  simp only [List.size_toArray] at hcon
  refine hcon.mono ?_
  rintro e w' ⟨rfl, q, rfl⟩
  obtain ⟨r, hr⟩ : ∃ r, r = s.filter fun x => !strikes fl ne x := ⟨_, rfl⟩
  have hrl : r.length ≤ s.length := by rw [hr]; exact List.length_filter_le _ _
  rw [← hr]
  clear hcon hr
  refine ⟨rfl, ⟨rfl, rfl, rfl, by simp [Sort.ahead], fun j hj => ?_⟩, ⟨by simp [ints], .inr ⟨g, cap, putCells (Value.int .i64) 0 (r ++ List.replicate (s.length - r.length) 0).toArray cur, rfl, hbase, ?_, by omega, hcapm, by simp [putCells, hsz], ?_⟩⟩⟩
  · simp [putRow, mapBlock, Array.getElem?_modify, Sort.ahead, Ne.symm hj]
  · simp [putRow, mapBlock, Array.getElem?_modify, Sort.ahead, hh, onCells]
  · apply List.ext_getElem?
    intro j
    simp only [Nat.mul_one, List.getElem?_take, putCells, Array.getElem?_toList, Array.getElem?_mapIdx]
    by_cases hj : j < r.length
    · have hjc : j < cur.size := by omega
      simp [hj, hjc, ints, show j < r.length + (s.length - r.length) by omega]
    · simp [hj, ints]
end Go.Proofs.Ybulkczmq
