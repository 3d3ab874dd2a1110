/- The model's step. -/
import Derived.Test.YbulkczmqKeep
namespace Go.Proofs.Ybulkczmq
open Go.RowKit
set_option linter.unusedSimpArgs false

/-- The three models in block M. -/
structure Mm (M : Nat) (Ms : List Wn) (w : World) : Prop where
  h : w.heap[M]? = some (.cells (wrow Ms).toArray 30 (0, 0))
  len : Ms.length = 3

theorem Mm.cell {M : Nat} {Ms : List Wn} {w : World} (h : Mm M Ms w) (i t : Nat) (hi : i < Ms.length) (ht : t < 5) : w.cell? ⟨M, i * 5 + t, none⟩ = (Ms[i]).cells[t]? := by
  have := wrow_at Ms i t hi ht
  simp [World.cell?, h.h, this]

theorem Mm.free {M : Nat} {Ms : List Wn} {w : World} (h : Mm M Ms w) (t : Nat) : w.frozen? ⟨M, t, none⟩ = false := by simp [World.frozen?, h.h]

theorem Mm.put {M : Nat} {Ms : List Wn} {w : World} (h : Mm M Ms w) (i t : Nat) (W' : Wn) (u : Value) (hi : i < Ms.length) (ht : t < 5) (hW : W'.cells = (Ms[i]).cells.set t u) :
    Mm M (Ms.set i W') (w.setCell ⟨M, i * 5 + t, none⟩ u) := by
  refine ⟨?_, by simp [h.len]⟩
  have hlt : M < w.heap.size := (Array.getElem?_eq_some_iff.1 h.h).1
  rw [← wrow_set Ms i t W' u hi ht hW]
  simp [World.setCell, Array.getElem?_modify, h.h]

theorem Mm.five {M : Nat} {Ms : List Wn} {w : World} (h : Mm M Ms w) {i : Nat} {W : Wn} (hW : Ms[i]? = some W) :
    w.cell? ⟨M, i * 5, none⟩ = some (.bool W.known) ∧ w.cell? ⟨M, i * 5 + 1, none⟩ = some (.int .i64 W.newest) ∧ w.cell? ⟨M, i * 5 + 2, none⟩ = some (.int .i64 W.arrived) ∧ w.cell? ⟨M, i * 5 + 3, none⟩ = some (.int .i64 W.floor) ∧ w.cell? ⟨M, i * 5 + 4, none⟩ = some W.sv ∧
    w.frozen? ⟨M, i * 5, none⟩ = false ∧ w.frozen? ⟨M, i * 5 + 1, none⟩ = false ∧ w.frozen? ⟨M, i * 5 + 2, none⟩ = false ∧ w.frozen? ⟨M, i * 5 + 3, none⟩ = false ∧ w.frozen? ⟨M, i * 5 + 4, none⟩ = false := by
  obtain ⟨hiL, hWi⟩ := List.getElem?_eq_some_iff.1 hW
  refine ⟨?_, ?_, ?_, ?_, ?_, h.free _, h.free _, h.free _, h.free _, h.free _⟩
  · have := h.cell i 0 hiL (by omega); rw [hWi] at this; exact this
  · have := h.cell i 1 hiL (by omega); rw [hWi] at this; exact this
  · have := h.cell i 2 hiL (by omega); rw [hWi] at this; exact this
  · have := h.cell i 3 hiL (by omega); rw [hWi] at this; exact this
  · have := h.cell i 4 hiL (by omega); rw [hWi] at this; exact this

theorem Mm.of_alloc {M : Nat} {Ms : List Wn} {w : World} (h : Mm M Ms w) (o : Obj) : Mm M Ms (w.alloc o) :=
  ⟨by rw [Below.heap_alloc w o M (lt_of_block h.h)]; exact h.h, h.len⟩
theorem Mm.of_drew {M : Nat} {Ms : List Wn} {w : World} (h : Mm M Ms w) : Mm M Ms w.drew := ⟨h.h, h.len⟩
theorem Mm.of_drewN {M : Nat} {Ms : List Wn} {w : World} (h : Mm M Ms w) (q : Nat) : Mm M Ms (w.drewN q) := ⟨h.h, h.len⟩
theorem Mm.of_grown {M : Nat} {Ms : List Wn} {w w' : World} {row : Option Nat} (h : Mm M Ms w) (hg : w.grownBy w' row) (hr : row ≠ some M) : Mm M Ms w' :=
  ⟨by rw [hg.block M (lt_of_block h.h) (fun e => hr e.symm)]; exact h.h, h.len⟩

/-- What the step leaves of model i. -/
def MLeft (M i : Nat) (ne ar fl : Int) (s : List Int) (Ms : List Wn) (row : Option Nat) (w w' : World) : Prop :=
  ∃ g cap, Mm M (Ms.set i ⟨true, ne, ar, fl, .slice (some ⟨g, 0, none⟩) s.length cap⟩) w' ∧ w'.ownsRow (M + 1) 2 1 (.slice (some ⟨g, 0, none⟩) s.length cap) s.length (ints s) ∧
    (row = some g ∨ w.heap.size ≤ g) ∧ Fr M row w w'

theorem Mm.put5 {M : Nat} {Ms : List Wn} {w : World} (h : Mm M Ms w) (i : Nat) (W' : Wn) (hi : i < Ms.length) :
    Mm M (Ms.set i W') (((((w.setCell ⟨M, i * 5, none⟩ (.bool W'.known)).setCell ⟨M, i * 5 + 1, none⟩ (.int .i64 W'.newest)).setCell ⟨M, i * 5 + 2, none⟩ (.int .i64 W'.arrived)).setCell ⟨M, i * 5 + 3, none⟩ (.int .i64 W'.floor)).setCell ⟨M, i * 5 + 4, none⟩ W'.sv) := by
  obtain ⟨W, hW⟩ : ∃ W, W = Ms[i] := ⟨_, rfl⟩
  have h0 := h.put i 0 ⟨W'.known, W.newest, W.arrived, W.floor, W.sv⟩ (.bool W'.known) hi (by omega) (by rw [← hW]; rfl)
  have h1 := h0.put i 1 ⟨W'.known, W'.newest, W.arrived, W.floor, W.sv⟩ (.int .i64 W'.newest) (by simpa using hi) (by omega) (by simp [Wn.cells])
  have h2 := h1.put i 2 ⟨W'.known, W'.newest, W'.arrived, W.floor, W.sv⟩ (.int .i64 W'.arrived) (by simpa using hi) (by omega) (by simp [Wn.cells])
  have h3 := h2.put i 3 ⟨W'.known, W'.newest, W'.arrived, W'.floor, W.sv⟩ (.int .i64 W'.floor) (by simpa using hi) (by omega) (by simp [Wn.cells])
  have h4 := h3.put i 4 W' W'.sv (by simpa using hi) (by omega) (by simp [Wn.cells])
  simp only [List.set_set] at h4
  exact h4

theorem mreset_end {M i : Nat} {stamp now fl : Int} {Ms : List Wn} {row : Option Nat} {w w0 : World} (h : Mm M Ms w0) (hi : i < Ms.length) (hFr : Fr M row w w0) (hs : w0.heap.size = w.heap.size) {Ms' : List Wn} (hset : ∀ W, Ms.set i W = Ms'.set i W) :
    MLeft M i stamp now fl [stamp] Ms' row w ((((((w0.setCell ⟨M, i * 5, none⟩ (.bool true)).setCell ⟨M, i * 5 + 1, none⟩ (.int .i64 stamp)).setCell ⟨M, i * 5 + 2, none⟩ (.int .i64 now)).setCell ⟨M, i * 5 + 3, none⟩ (.int .i64 fl)).setCell ⟨M, i * 5 + 4, none⟩ (.slice (some ⟨w.heap.size, 0, none⟩) 1 1)).alloc (.cells #[.int .i64 stamp] 2)) := by
  have hM : M < w0.heap.size := lt_of_block h.h
  refine ⟨w.heap.size, 1, ?_, ⟨rfl, .inr ⟨w.heap.size, 1, #[.int .i64 stamp], rfl, by omega, ?_, by simp, by unfold maxLen; omega, rfl, rfl⟩⟩, .inr (Nat.le_refl _), ?_⟩
  · have := (h.put5 i ⟨true, stamp, now, fl, .slice (some ⟨w.heap.size, 0, none⟩) 1 1⟩ hi).of_alloc (.cells #[.int .i64 stamp] 2)
    rw [hset] at this
    exact this
  · have := heap_alloc_new ((((((w0.setCell ⟨M, i * 5, none⟩ (.bool true)).setCell ⟨M, i * 5 + 1, none⟩ (.int .i64 stamp)).setCell ⟨M, i * 5 + 2, none⟩ (.int .i64 now)).setCell ⟨M, i * 5 + 3, none⟩ (.int .i64 fl)).setCell ⟨M, i * 5 + 4, none⟩ (.slice (some ⟨w.heap.size, 0, none⟩) 1 1))) (.cells #[.int .i64 stamp] 2)
    simp only [World.size_setCell] at this
    rw [hs] at this
    exact this
  · exact (((((hFr.setCell (.inl rfl) _).setCell (.inl rfl) _).setCell (.inl rfl) _).setCell (.inl rfl) _).setCell (.inl rfl) _).alloc _

theorem step_new (M i : Nat) (ma fa stamp now : Int) (Ms : List Wn) (w : World) (ne ar fl : Int) (sv : Value) (h : Mm M Ms w) (hW : Ms[i]? = some ⟨false, ne, ar, fl, sv⟩) :
    Calls Yba.prog 8 #[.pointer (some ⟨M, i * 5, none⟩), .int .i64 stamp, .int .i64 now, .int .i64 ma, .int .i64 fa] w fun e w' => e = .returned (.string ⟨#[]⟩) ∧ MLeft M i stamp now (wrap64 (stamp - ma)) [stamp] Ms none w w' := by
  obtain ⟨c0, c1, c2, c3, c4, z0, z1, z2, z3, z4⟩ := h.five hW
  have hM : M < w.heap.size := lt_of_block h.h
  have Hh : Hid (Mm M Ms w) := h
  have HW : Hid (Ms[i]? = some ⟨false, ne, ar, fl, sv⟩) := hW
  clear h hW
  go_enter Yba.func8, Yba.ntmps8
  go_wp2_with fail
  go_ret
  exact ⟨rfl, mreset_end Hh.out (List.getElem?_eq_some_iff.1 HW.out).1 (Fr.refl _ _ _) rfl (fun _ => rfl)⟩

theorem step_back (M i : Nat) (ma fa stamp now : Int) (Ms : List Wn) (w : World) (ne ar fl : Int) (sv : Value) (h : Mm M Ms w) (hW : Ms[i]? = some ⟨true, ne, ar, fl, sv⟩) (hd : wrap64 (now - ar) < 0) :
    Calls Yba.prog 8 #[.pointer (some ⟨M, i * 5, none⟩), .int .i64 stamp, .int .i64 now, .int .i64 ma, .int .i64 fa] w fun e w' => e = .returned (.string ⟨#[]⟩) ∧ MLeft M i stamp now (wrap64 (stamp - ma)) [stamp] Ms none w w' := by
  obtain ⟨c0, c1, c2, c3, c4, z0, z1, z2, z3, z4⟩ := h.five hW
  have hM : M < w.heap.size := lt_of_block h.h
  have Hh : Hid (Mm M Ms w) := h
  have HW : Hid (Ms[i]? = some ⟨true, ne, ar, fl, sv⟩) := hW
  clear h hW
  obtain ⟨si, hsieq⟩ : ∃ si, wrap64 (now - ar) = si := ⟨_, rfl⟩
  rw [hsieq] at hd
  have hb1 : decide (si < 0) = true := decide_eq_true hd
  go_enter Yba.func8, Yba.ntmps8
  go_wp2_with fail
  go_ret
  have hiL := (List.getElem?_eq_some_iff.1 HW.out).1
  have hWi := (List.getElem?_eq_some_iff.1 HW.out).2
  have h0 := Hh.out.put i 0 ⟨false, ne, ar, fl, sv⟩ (.bool false) hiL (by omega) (by rw [hWi]; rfl)
  rw [Nat.add_zero] at h0
  exact ⟨rfl, mreset_end h0 (by simpa using hiL) ((Fr.refl M none w).setCell (p := ⟨M, i * 5, none⟩) (.inl rfl) (.bool false)) (by simp) (fun _ => List.set_set _)⟩

theorem step_old (M i : Nat) (ma fa stamp now : Int) (Ms : List Wn) (w : World) (ne ar fl : Int) (sv : Value) (h : Mm M Ms w) (hW : Ms[i]? = some ⟨true, ne, ar, fl, sv⟩) (hd : ¬ wrap64 (now - ar) < 0) (hd2 : fa < wrap64 (now - ar)) :
    Calls Yba.prog 8 #[.pointer (some ⟨M, i * 5, none⟩), .int .i64 stamp, .int .i64 now, .int .i64 ma, .int .i64 fa] w fun e w' => e = .returned (.string ⟨#[]⟩) ∧ MLeft M i stamp now (wrap64 (stamp - ma)) [stamp] Ms none w w' := by
  obtain ⟨c0, c1, c2, c3, c4, z0, z1, z2, z3, z4⟩ := h.five hW
  have hM : M < w.heap.size := lt_of_block h.h
  have Hh : Hid (Mm M Ms w) := h
  have HW : Hid (Ms[i]? = some ⟨true, ne, ar, fl, sv⟩) := hW
  clear h hW
  obtain ⟨si, hsieq⟩ : ∃ si, wrap64 (now - ar) = si := ⟨_, rfl⟩
  rw [hsieq] at hd hd2
  have hb1 : decide (si < 0) = false := decide_eq_false hd
  go_enter Yba.func8, Yba.ntmps8
  go_wp2_with fail
  go_ret
  have hiL := (List.getElem?_eq_some_iff.1 HW.out).1
  have hWi := (List.getElem?_eq_some_iff.1 HW.out).2
  have h0 := Hh.out.put i 0 ⟨false, ne, ar, fl, sv⟩ (.bool false) hiL (by omega) (by rw [hWi]; rfl)
  rw [Nat.add_zero] at h0
  exact ⟨rfl, mreset_end h0 (by simpa using hiL) ((Fr.refl M none w).setCell (p := ⟨M, i * 5, none⟩) (.inl rfl) (.bool false)) (by simp) (fun _ => List.set_set _)⟩

/-- What the step leaves where it refuses. -/
def MKept (M : Nat) (Ms : List Wn) (w w' : World) : Prop := Mm M Ms w' ∧ Fr M none w w'
theorem mkept_drewN {M : Nat} {Ms : List Wn} {w : World} (h : Mm M Ms w) (q : Nat) : MKept M Ms w (w.drewN q) := ⟨h.of_drewN q, ⟨rfl, rfl, rfl, Nat.le_refl _, fun _ _ _ _ => rfl⟩⟩

theorem step_stale1 (M i : Nat) (ma fa stamp now : Int) (Ms : List Wn) (w : World) (ne ar fl : Int) (sv : Value) (h : Mm M Ms w) (hW : Ms[i]? = some ⟨true, ne, ar, fl, sv⟩) (hs1 : ¬ wrap64 (now - ar) < 0) (hs2 : ¬ fa < wrap64 (now - ar)) (hs3 : stamp ≤ fl) :
    Calls Yba.prog 8 #[.pointer (some ⟨M, i * 5, none⟩), .int .i64 stamp, .int .i64 now, .int .i64 ma, .int .i64 fa] w fun e w' => e = .returned (.string ⟨#[115, 116, 97, 108, 101]⟩) ∧ MKept M Ms w w' := by
  obtain ⟨c0, c1, c2, c3, c4, z0, z1, z2, z3, z4⟩ := h.five hW
  have hM : M < w.heap.size := lt_of_block h.h
  have Hh : Hid (Mm M Ms w) := h
  clear h hW
  obtain ⟨si, hsieq⟩ : ∃ si, wrap64 (now - ar) = si := ⟨_, rfl⟩
  rw [hsieq] at hs1 hs2
  have hb1 : decide (si < 0) = false := decide_eq_false hs1
  have hb2 : decide (fa < si) = false := decide_eq_false hs2
  have hb3 : decide (stamp ≤ fl) = true := decide_eq_true hs3
  go_enter Yba.func8, Yba.ntmps8
  go_wp2_with fail
  go_quiet (fail)
  go_wp2_with fail
  go_ret
  exact ⟨rfl, mkept_drewN Hh.out _⟩

theorem step_stale2 (M i : Nat) (ma fa stamp now : Int) (Ms : List Wn) (w : World) (ne ar fl : Int) (sv : Value) (h : Mm M Ms w) (hW : Ms[i]? = some ⟨true, ne, ar, fl, sv⟩) (hs1 : ¬ wrap64 (now - ar) < 0) (hs2 : ¬ fa < wrap64 (now - ar)) (hs3 : ¬ stamp ≤ fl) (hs4 : ma ≤ wrap64 (wrap64 (ne + wrap64 (now - ar)) - stamp)) :
    Calls Yba.prog 8 #[.pointer (some ⟨M, i * 5, none⟩), .int .i64 stamp, .int .i64 now, .int .i64 ma, .int .i64 fa] w fun e w' => e = .returned (.string ⟨#[115, 116, 97, 108, 101]⟩) ∧ MKept M Ms w w' := by
  obtain ⟨c0, c1, c2, c3, c4, z0, z1, z2, z3, z4⟩ := h.five hW
  have hM : M < w.heap.size := lt_of_block h.h
  have Hh : Hid (Mm M Ms w) := h
  clear h hW
  obtain ⟨si, hsieq⟩ : ∃ si, wrap64 (now - ar) = si := ⟨_, rfl⟩
  rw [hsieq] at hs1 hs2 hs4
  have hb1 : decide (si < 0) = false := decide_eq_false hs1
  have hb2 : decide (fa < si) = false := decide_eq_false hs2
  have hb3 : decide (stamp ≤ fl) = false := decide_eq_false hs3
  obtain ⟨ck, hckeq⟩ : ∃ ck, wrap64 (ne + si) = ck := ⟨_, rfl⟩
  rw [hckeq] at hs4
  obtain ⟨s4, hs4eq⟩ : ∃ s4, wrap64 (ck - stamp) = s4 := ⟨_, rfl⟩
  rw [hs4eq] at hs4
  have hb4 : decide (ma ≤ s4) = true := decide_eq_true hs4
  go_enter Yba.func8, Yba.ntmps8
  go_wp2_with fail
  go_quiet (fail)
  go_wp2_with fail
  go_ret
  exact ⟨rfl, mkept_drewN Hh.out _⟩
theorem Yba.info2' : (Yba.prog.info? 2).map (fun i => (i.zero, i.size, i.bytes)) = some (some (.int .i64 0), 1, 8) := by kernel_rfl

set_option maxRecDepth 100000 in
set_option maxHeartbeats 1000000 in
theorem step_repl (M i : Nat) (ma fa stamp now : Int) (Ms : List Wn) (w : World) (ne ar fl : Int) (g0 cap0 : Nat) (s0 : List Int) (h : Mm M Ms w) (hW : Ms[i]? = some ⟨true, ne, ar, fl, .slice (some ⟨g0, 0, none⟩) s0.length cap0⟩) (hs1 : ¬ wrap64 (now - ar) < 0) (hs2 : ¬ fa < wrap64 (now - ar)) (hs3 : ¬ stamp ≤ fl) (hs4 : ¬ ma ≤ wrap64 (wrap64 (ne + wrap64 (now - ar)) - stamp))
    (hown : w.ownsRow (M + 1) 2 1 (.slice (some ⟨g0, 0, none⟩) s0.length cap0) s0.length (ints s0)) (hlen : s0.length ≤ 1000) (hmem : stamp ∈ s0) :
    Calls Yba.prog 8 #[.pointer (some ⟨M, i * 5, none⟩), .int .i64 stamp, .int .i64 now, .int .i64 ma, .int .i64 fa] w fun e w' => e = .returned (.string ⟨#[114, 101, 112, 108, 97, 121, 101, 100]⟩) ∧ MKept M Ms w w' := by
  obtain ⟨c0, c1, c2, c3, c4, z0, z1, z2, z3, z4⟩ := h.five hW
  have hM : M < w.heap.size := lt_of_block h.h
  have hg0 : M < g0 ∧ g0 < w.heap.size := by have := hown.lt g0 rfl; omega
  have Hh : Hid (Mm M Ms w) := h
  have HW : Hid (Ms[i]? = some ⟨true, ne, ar, fl, .slice (some ⟨g0, 0, none⟩) s0.length cap0⟩) := hW
  have HhiL : Hid (i < Ms.length) := (List.getElem?_eq_some_iff.1 hW).1
  have Hmem : Hid (stamp ∈ s0) := hmem
  have Hown : Hid (w.ownsRow (M + 1) 2 1 (.slice (some ⟨g0, 0, none⟩) s0.length cap0) s0.length (ints s0)) := hown
  clear h hW hmem hown
  obtain ⟨si, hsieq⟩ : ∃ si, wrap64 (now - ar) = si := ⟨_, rfl⟩
  rw [hsieq] at hs1 hs2 hs4
  have hb1 : decide (si < 0) = false := decide_eq_false hs1
  have hb2 : decide (fa < si) = false := decide_eq_false hs2
  have hb3 : decide (stamp ≤ fl) = false := decide_eq_false hs3
  obtain ⟨ck, hckeq⟩ : ∃ ck, wrap64 (ne + si) = ck := ⟨_, rfl⟩
  rw [hckeq] at hs4
  obtain ⟨s4, hs4eq⟩ : ∃ s4, wrap64 (ck - stamp) = s4 := ⟨_, rfl⟩
  rw [hs4eq] at hs4
  have hb4 : decide (ma ≤ s4) = false := decide_eq_false hs4
  go_enter Yba.func8, Yba.ntmps8
  go_wp2_with fail
  go_quiet (fail)
  go_wp2_with fail
  have hm := Hh.out.of_drewN nq
  have hownW : (w.drewN nq).ownsRow (M + 1) 2 1 (.slice (some ⟨g0, 0, none⟩) s0.length cap0) s0.length (ints s0) := Hown.out
  have hFr : Fr M (some g0) w (w.drewN nq) := ⟨rfl, rfl, rfl, Nat.le_refl _, fun _ _ _ _ => rfl⟩
  have hFr0 : Fr M none w (w.drewN nq) := ⟨rfl, rfl, rfl, Nat.le_refl _, fun _ _ _ _ => rfl⟩
  have hsz : (w.drewN nq).heap.size = w.heap.size := rfl
  clear c0 c1 c2 c3 c4 z0 z1 z2 z3 z4
  generalize w.drewN nq = W0 at hm hownW hFr hFr0 hsz ⊢
  obtain ⟨c0, c1, c2, c3, c4, z0, z1, z2, z3, z4⟩ := hm.five HW.out
  have hcs : ∀ t, t < s0.length → W0.cell? ⟨g0, t, none⟩ = some (.int .i64 (nth s0 t)) := fun t ht => by rw [hownW.cellAt t (by omega), ints_nth s0 t ht]
  have Hcs : Hid (∀ t, t < s0.length → W0.cell? ⟨g0, t, none⟩ = some (.int .i64 (nth s0 t))) := hcs
  have HownW : Hid (W0.ownsRow (M + 1) 2 1 (.slice (some ⟨g0, 0, none⟩) s0.length cap0) s0.length (ints s0)) := hownW
  have Hm : Hid (Mm M Ms W0) := hm
  have HFr : Hid (Fr M (some g0) w W0) := hFr
  have HFr0 : Hid (Fr M none w W0) := hFr0
  have Hsz : Hid (W0.heap.size = w.heap.size) := hsz
  have hM0 : M < W0.heap.size := by omega
  have hg1 : M < g0 ∧ g0 < W0.heap.size := by omega
  clear hcs hownW hm hFr hFr0 hsz hM hg0
  simp only [hckeq]
  clear hckeq hsieq hs4eq
  go_loopg [13] s0.length (fun k j wr => ∃ t : Nat, j = .int .i64 t ∧ t + k = s0.length ∧ Hid (∀ u, u < t → nth s0 u ≠ stamp) ∧ wr = W0)
  case atStart => exact ⟨0, rfl, by omega, (fun u hu => by omega : ∀ u, u < 0 → nth s0 u ≠ stamp), rfl⟩
  case round =>
    obtain ⟨t, rfl, htk, Hno, rfl⟩ := hrel
    by_cases hlt : t < s0.length
    · have hltI : (t : Int) < (s0.length : Int) := by omega
      obtain ⟨y, hy⟩ : ∃ y, y = nth s0 t := ⟨_, rfl⟩
      have cy := Hcs.out t hlt
      rw [← hy] at cy
      have Hy : Hid (y = nth s0 t) := hy
      clear hy
      by_cases he : y = stamp
      · have heB : (y == stamp) = true := by simp [he]
        have He : Hid (y = stamp) := he
        clear he
        go_wp2_with fail
        go_ret
        exact ⟨rfl, Hm.out, HFr0.out⟩
      · have heB : (y == stamp) = false := by simp [he]
        have He : Hid (¬ y = stamp) := he
        clear he
        go_wp2_with fail
        go_roundg (s0.length - (t + 1))
        case measure => omega
        case rel =>
          refine ⟨t + 1, by go_num, by omega, (?_ : ∀ u, u < t + 1 → nth s0 u ≠ stamp), rfl⟩
          intro u hu
          by_cases e : u = t
          · subst e; rw [← Hy.out]; exact He.out
          · exact Hno.out u (by omega)
    · exfalso
      obtain ⟨j, hj, e⟩ := List.getElem_of_mem Hmem.out
      exact Hno.out j (by omega) (by rw [nth_eq s0 j hj]; exact e)

set_option maxRecDepth 100000 in
set_option maxHeartbeats 1000000 in
theorem step_keep (M i : Nat) (ma fa stamp now : Int) (Ms : List Wn) (w : World) (ne ar fl : Int) (g0 cap0 : Nat) (s0 : List Int) (h : Mm M Ms w) (hW : Ms[i]? = some ⟨true, ne, ar, fl, .slice (some ⟨g0, 0, none⟩) s0.length cap0⟩) (hs1 : ¬ wrap64 (now - ar) < 0) (hs2 : ¬ fa < wrap64 (now - ar)) (hs3 : ¬ stamp ≤ fl) (hs4 : ¬ ma ≤ wrap64 (wrap64 (ne + wrap64 (now - ar)) - stamp))
    (hown : w.ownsRow (M + 1) 2 1 (.slice (some ⟨g0, 0, none⟩) s0.length cap0) s0.length (ints s0)) (hlen : s0.length ≤ 1000) (hmem : ¬ stamp ∈ s0) (hs5 : ¬ ne < stamp) :
    Calls Yba.prog 8 #[.pointer (some ⟨M, i * 5, none⟩), .int .i64 stamp, .int .i64 now, .int .i64 ma, .int .i64 fa] w fun e w' => e = .returned (.string ⟨#[]⟩) ∧ MLeft M i ne ar fl (s0 ++ [stamp]) Ms (some g0) w w' := by
  obtain ⟨c0, c1, c2, c3, c4, z0, z1, z2, z3, z4⟩ := h.five hW
  have hM : M < w.heap.size := lt_of_block h.h
  have hg0 : M < g0 ∧ g0 < w.heap.size := by have := hown.lt g0 rfl; omega
  have Hh : Hid (Mm M Ms w) := h
  have HW : Hid (Ms[i]? = some ⟨true, ne, ar, fl, .slice (some ⟨g0, 0, none⟩) s0.length cap0⟩) := hW
  have HhiL : Hid (i < Ms.length) := (List.getElem?_eq_some_iff.1 hW).1
  have Hmem : Hid (¬ stamp ∈ s0) := hmem
  have Hown : Hid (w.ownsRow (M + 1) 2 1 (.slice (some ⟨g0, 0, none⟩) s0.length cap0) s0.length (ints s0)) := hown
  clear h hW hmem hown
  obtain ⟨si, hsieq⟩ : ∃ si, wrap64 (now - ar) = si := ⟨_, rfl⟩
  rw [hsieq] at hs1 hs2 hs4
  have hb1 : decide (si < 0) = false := decide_eq_false hs1
  have hb2 : decide (fa < si) = false := decide_eq_false hs2
  have hb3 : decide (stamp ≤ fl) = false := decide_eq_false hs3
  obtain ⟨ck, hckeq⟩ : ∃ ck, wrap64 (ne + si) = ck := ⟨_, rfl⟩
  rw [hckeq] at hs4
  obtain ⟨s4, hs4eq⟩ : ∃ s4, wrap64 (ck - stamp) = s4 := ⟨_, rfl⟩
  rw [hs4eq] at hs4
  have hb4 : decide (ma ≤ s4) = false := decide_eq_false hs4
  go_enter Yba.func8, Yba.ntmps8
  go_wp2_with fail
  go_quiet (fail)
  go_wp2_with fail
  have hm := Hh.out.of_drewN nq
  have hownW : (w.drewN nq).ownsRow (M + 1) 2 1 (.slice (some ⟨g0, 0, none⟩) s0.length cap0) s0.length (ints s0) := Hown.out
  have hFr : Fr M (some g0) w (w.drewN nq) := ⟨rfl, rfl, rfl, Nat.le_refl _, fun _ _ _ _ => rfl⟩
  have hFr0 : Fr M none w (w.drewN nq) := ⟨rfl, rfl, rfl, Nat.le_refl _, fun _ _ _ _ => rfl⟩
  have hsz : (w.drewN nq).heap.size = w.heap.size := rfl
  clear c0 c1 c2 c3 c4 z0 z1 z2 z3 z4
  generalize w.drewN nq = W0 at hm hownW hFr hFr0 hsz ⊢
  obtain ⟨c0, c1, c2, c3, c4, z0, z1, z2, z3, z4⟩ := hm.five HW.out
  have hcs : ∀ t, t < s0.length → W0.cell? ⟨g0, t, none⟩ = some (.int .i64 (nth s0 t)) := fun t ht => by rw [hownW.cellAt t (by omega), ints_nth s0 t ht]
  have Hcs : Hid (∀ t, t < s0.length → W0.cell? ⟨g0, t, none⟩ = some (.int .i64 (nth s0 t))) := hcs
  have HownW : Hid (W0.ownsRow (M + 1) 2 1 (.slice (some ⟨g0, 0, none⟩) s0.length cap0) s0.length (ints s0)) := hownW
  have Hm : Hid (Mm M Ms W0) := hm
  have HFr : Hid (Fr M (some g0) w W0) := hFr
  have HFr0 : Hid (Fr M none w W0) := hFr0
  have Hsz : Hid (W0.heap.size = w.heap.size) := hsz
  have hM0 : M < W0.heap.size := by omega
  have hg1 : M < g0 ∧ g0 < W0.heap.size := by omega
  clear hcs hownW hm hFr hFr0 hsz hM hg0
  simp only [hckeq]
  clear hckeq hsieq hs4eq
  go_loopg [13] s0.length (fun k j wr => ∃ t : Nat, j = .int .i64 t ∧ t + k = s0.length ∧ Hid (∀ u, u < t → nth s0 u ≠ stamp) ∧ wr = W0)
  case atStart => exact ⟨0, rfl, by omega, (fun u hu => by omega : ∀ u, u < 0 → nth s0 u ≠ stamp), rfl⟩
  case round =>
    obtain ⟨t, rfl, htk, Hno, rfl⟩ := hrel
    by_cases hlt : t < s0.length
    · have hltI : (t : Int) < (s0.length : Int) := by omega
      obtain ⟨y, hy⟩ : ∃ y, y = nth s0 t := ⟨_, rfl⟩
      have cy := Hcs.out t hlt
      rw [← hy] at cy
      have Hy : Hid (y = nth s0 t) := hy
      clear hy
      by_cases he : y = stamp
      · have heB : (y == stamp) = true := by simp [he]
        have He : Hid (y = stamp) := he
        clear he
        exact absurd (by rw [← He.out, Hy.out, nth_eq s0 t hlt]; exact List.getElem_mem _) Hmem.out
      · have heB : (y == stamp) = false := by simp [he]
        have He : Hid (¬ y = stamp) := he
        clear he
        go_wp2_with fail
        go_roundg (s0.length - (t + 1))
        case measure => omega
        case rel =>
          refine ⟨t + 1, by go_num, by omega, (?_ : ∀ u, u < t + 1 → nth s0 u ≠ stamp), rfl⟩
          intro u hu
          by_cases e : u = t
          · subst e; rw [← Hy.out]; exact He.out
          · exact Hno.out u (by omega)
    · have hltI : ¬ (t : Int) < (s0.length : Int) := by omega
      obtain ⟨i0, hi0, hy0, hy1, hy2⟩ := info_parts Yba.info2'
      go_wp2_with (at_builtin; refine wpList_append_lies _ rfl (.tmp 107) (.tmp 109) 27 rfl (M + 1) 2 i0 (.int .i64 0) 1 8 Yba.underlying27 hi0 hy0 hy1 hy2 rfl (by decide) (.slice (some ⟨g0, 0, none⟩) s0.length cap0) s0.length (ints s0) (by rfl) (by exact HownW.out.alloc _) ⟨wr.heap.size, 0, none⟩ 1 1 [.int .i64 stamp] (by rfl) rfl (cell_one_new _ _ _) (by simp [Value.oneCell']) (by omega) (by unfold maxLen; omega) (by omega) (by simp; omega) (wr.heap.size + 1) (by simp) ?_; intro g cap w1 hown1 hgr1 hat1 hlt1; have hm1 := (Hm.out.of_alloc (.cells #[.int .i64 stamp] 2)).of_grown hgr1 (by simp [Value.ownBlock]; omega); have Hm1 : Hid (Mm M Ms w1) := hm1; obtain ⟨d0, d1, d2, d3, d4, e0, e1, e2, e3, e4⟩ := hm1.five HW.out; clear hm1; have Hown1 : Hid (w1.ownsRow (M + 1) 2 1 (.slice (some ⟨g, 0, none⟩) (s0.length + 1) cap) (s0.length + 1) (ints s0 ++ [.int .i64 stamp])) := hown1; have Hat1 : Hid (Value.ownBlock (.slice (some ⟨g0, 0, none⟩) s0.length cap0) = some g ∨ g = wr.heap.size + 1) := hat1; have Hgr1 : Hid ((wr.alloc (.cells #[.int .i64 stamp] 2)).grownBy w1 (Value.ownBlock (.slice (some ⟨g0, 0, none⟩) s0.length cap0))) := hgr1; clear hown1 hat1 hgr1)
      go_ret
      have hints : ints s0 ++ [.int .i64 stamp] = ints (s0 ++ [stamp]) := by simp [ints]
      have hown1 := Hown1.out
      rw [hints] at hown1
      have hl : (s0 ++ [stamp]).length = s0.length + 1 := by simp
      have hFr1 := (HFr.out.alloc (.cells #[.int .i64 stamp] 2)).grown Hgr1.out (fun k hk => .inr hk)
      have hgat : some g0 = some g ∨ w.heap.size ≤ g := by
        rcases Hat1.out with e | e
        · exact .inl e
        · exact .inr (by have := Hsz.out; rw [e]; omega)
      refine ⟨rfl, g, cap, ?_, ?_, hgat, ?_⟩
      · rw [hl]
        have := Hm1.out.put i 4 ⟨true, ne, ar, fl, (.slice (some ⟨g, 0, none⟩) (s0.length + 1) cap)⟩ (.slice (some ⟨g, 0, none⟩) (s0.length + 1) cap) HhiL.out (by omega) (by rw [(List.getElem?_eq_some_iff.1 HW.out).2]; rfl)
        exact this
      · rw [hl]; exact ownsRow_setCell_below hown1 (Nat.lt_succ_self M) _
      · exact hFr1.setCell (.inl rfl) _

set_option maxRecDepth 100000 in
set_option maxHeartbeats 1000000 in
theorem step_up (M i : Nat) (ma fa stamp now : Int) (Ms : List Wn) (w : World) (ne ar fl : Int) (g0 cap0 : Nat) (s0 : List Int) (h : Mm M Ms w) (hW : Ms[i]? = some ⟨true, ne, ar, fl, .slice (some ⟨g0, 0, none⟩) s0.length cap0⟩) (hs1 : ¬ wrap64 (now - ar) < 0) (hs2 : ¬ fa < wrap64 (now - ar)) (hs3 : ¬ stamp ≤ fl) (hs4 : ¬ ma ≤ wrap64 (wrap64 (ne + wrap64 (now - ar)) - stamp))
    (hown : w.ownsRow (M + 1) 2 1 (.slice (some ⟨g0, 0, none⟩) s0.length cap0) s0.length (ints s0)) (hlen : s0.length ≤ 1000) (hmem : ¬ stamp ∈ s0) (hs5 : ne < stamp) (hs6 : fl < wrap64 (stamp - ma)) :
    Calls Yba.prog 8 #[.pointer (some ⟨M, i * 5, none⟩), .int .i64 stamp, .int .i64 now, .int .i64 ma, .int .i64 fa] w fun e w' => e = .returned (.string ⟨#[]⟩) ∧ MLeft M i stamp now (wrap64 (stamp - ma)) (s0 ++ [stamp]) Ms (some g0) w w' := by
  obtain ⟨c0, c1, c2, c3, c4, z0, z1, z2, z3, z4⟩ := h.five hW
  have hM : M < w.heap.size := lt_of_block h.h
  have hg0 : M < g0 ∧ g0 < w.heap.size := by have := hown.lt g0 rfl; omega
  have Hh : Hid (Mm M Ms w) := h
  have HW : Hid (Ms[i]? = some ⟨true, ne, ar, fl, .slice (some ⟨g0, 0, none⟩) s0.length cap0⟩) := hW
  have HhiL : Hid (i < Ms.length) := (List.getElem?_eq_some_iff.1 hW).1
  have Hmem : Hid (¬ stamp ∈ s0) := hmem
  have Hown : Hid (w.ownsRow (M + 1) 2 1 (.slice (some ⟨g0, 0, none⟩) s0.length cap0) s0.length (ints s0)) := hown
  clear h hW hmem hown
  obtain ⟨si, hsieq⟩ : ∃ si, wrap64 (now - ar) = si := ⟨_, rfl⟩
  rw [hsieq] at hs1 hs2 hs4
  have hb1 : decide (si < 0) = false := decide_eq_false hs1
  have hb2 : decide (fa < si) = false := decide_eq_false hs2
  have hb3 : decide (stamp ≤ fl) = false := decide_eq_false hs3
  obtain ⟨ck, hckeq⟩ : ∃ ck, wrap64 (ne + si) = ck := ⟨_, rfl⟩
  rw [hckeq] at hs4
  obtain ⟨s4, hs4eq⟩ : ∃ s4, wrap64 (ck - stamp) = s4 := ⟨_, rfl⟩
  rw [hs4eq] at hs4
  have hb4 : decide (ma ≤ s4) = false := decide_eq_false hs4
  obtain ⟨bd, hbdeq⟩ : ∃ bd, wrap64 (stamp - ma) = bd := ⟨_, rfl⟩
  rw [hbdeq] at hs6 ⊢
  go_enter Yba.func8, Yba.ntmps8
  go_wp2_with fail
  go_quiet (fail)
  go_wp2_with fail
  have hm := Hh.out.of_drewN nq
  have hownW : (w.drewN nq).ownsRow (M + 1) 2 1 (.slice (some ⟨g0, 0, none⟩) s0.length cap0) s0.length (ints s0) := Hown.out
  have hFr : Fr M (some g0) w (w.drewN nq) := ⟨rfl, rfl, rfl, Nat.le_refl _, fun _ _ _ _ => rfl⟩
  have hFr0 : Fr M none w (w.drewN nq) := ⟨rfl, rfl, rfl, Nat.le_refl _, fun _ _ _ _ => rfl⟩
  have hsz : (w.drewN nq).heap.size = w.heap.size := rfl
  clear c0 c1 c2 c3 c4 z0 z1 z2 z3 z4
  generalize w.drewN nq = W0 at hm hownW hFr hFr0 hsz ⊢
  obtain ⟨c0, c1, c2, c3, c4, z0, z1, z2, z3, z4⟩ := hm.five HW.out
  have hcs : ∀ t, t < s0.length → W0.cell? ⟨g0, t, none⟩ = some (.int .i64 (nth s0 t)) := fun t ht => by rw [hownW.cellAt t (by omega), ints_nth s0 t ht]
  have Hcs : Hid (∀ t, t < s0.length → W0.cell? ⟨g0, t, none⟩ = some (.int .i64 (nth s0 t))) := hcs
  have HownW : Hid (W0.ownsRow (M + 1) 2 1 (.slice (some ⟨g0, 0, none⟩) s0.length cap0) s0.length (ints s0)) := hownW
  have Hm : Hid (Mm M Ms W0) := hm
  have HFr : Hid (Fr M (some g0) w W0) := hFr
  have HFr0 : Hid (Fr M none w W0) := hFr0
  have Hsz : Hid (W0.heap.size = w.heap.size) := hsz
  have hM0 : M < W0.heap.size := by omega
  have hg1 : M < g0 ∧ g0 < W0.heap.size := by omega
  clear hcs hownW hm hFr hFr0 hsz hM hg0
  simp only [hckeq]
  clear hckeq hsieq hs4eq
  go_loopg [13] s0.length (fun k j wr => ∃ t : Nat, j = .int .i64 t ∧ t + k = s0.length ∧ Hid (∀ u, u < t → nth s0 u ≠ stamp) ∧ wr = W0)
  case atStart => exact ⟨0, rfl, by omega, (fun u hu => by omega : ∀ u, u < 0 → nth s0 u ≠ stamp), rfl⟩
  case round =>
    obtain ⟨t, rfl, htk, Hno, rfl⟩ := hrel
    by_cases hlt : t < s0.length
    · have hltI : (t : Int) < (s0.length : Int) := by omega
      obtain ⟨y, hy⟩ : ∃ y, y = nth s0 t := ⟨_, rfl⟩
      have cy := Hcs.out t hlt
      rw [← hy] at cy
      have Hy : Hid (y = nth s0 t) := hy
      clear hy
      by_cases he : y = stamp
      · have heB : (y == stamp) = true := by simp [he]
        have He : Hid (y = stamp) := he
        clear he
        exact absurd (by rw [← He.out, Hy.out, nth_eq s0 t hlt]; exact List.getElem_mem _) Hmem.out
      · have heB : (y == stamp) = false := by simp [he]
        have He : Hid (¬ y = stamp) := he
        clear he
        go_wp2_with fail
        go_roundg (s0.length - (t + 1))
        case measure => omega
        case rel =>
          refine ⟨t + 1, by go_num, by omega, (?_ : ∀ u, u < t + 1 → nth s0 u ≠ stamp), rfl⟩
          intro u hu
          by_cases e : u = t
          · subst e; rw [← Hy.out]; exact He.out
          · exact Hno.out u (by omega)
    · have hltI : ¬ (t : Int) < (s0.length : Int) := by omega
      obtain ⟨i0, hi0, hy0, hy1, hy2⟩ := info_parts Yba.info2'
      go_wp2_with (at_builtin; refine wpList_append_lies _ rfl (.tmp 107) (.tmp 109) 27 rfl (M + 1) 2 i0 (.int .i64 0) 1 8 Yba.underlying27 hi0 hy0 hy1 hy2 rfl (by decide) (.slice (some ⟨g0, 0, none⟩) s0.length cap0) s0.length (ints s0) (by rfl) (by exact HownW.out.alloc _) ⟨wr.heap.size, 0, none⟩ 1 1 [.int .i64 stamp] (by rfl) rfl (cell_one_new _ _ _) (by simp [Value.oneCell']) (by omega) (by unfold maxLen; omega) (by omega) (by simp; omega) (wr.heap.size + 1) (by simp) ?_; intro g cap w1 hown1 hgr1 hat1 hlt1; have hm1 := (Hm.out.of_alloc (.cells #[.int .i64 stamp] 2)).of_grown hgr1 (by simp [Value.ownBlock]; omega); have Hm1 : Hid (Mm M Ms w1) := hm1; obtain ⟨d0, d1, d2, d3, d4, e0, e1, e2, e3, e4⟩ := hm1.five HW.out; clear hm1; have Hown1 : Hid (w1.ownsRow (M + 1) 2 1 (.slice (some ⟨g, 0, none⟩) (s0.length + 1) cap) (s0.length + 1) (ints s0 ++ [.int .i64 stamp])) := hown1; have Hat1 : Hid (Value.ownBlock (.slice (some ⟨g0, 0, none⟩) s0.length cap0) = some g ∨ g = wr.heap.size + 1) := hat1; have Hgr1 : Hid ((wr.alloc (.cells #[.int .i64 stamp] 2)).grownBy w1 (Value.ownBlock (.slice (some ⟨g0, 0, none⟩) s0.length cap0))) := hgr1; clear hown1 hat1 hgr1)
      go_ret
      have hints : ints s0 ++ [.int .i64 stamp] = ints (s0 ++ [stamp]) := by simp [ints]
      have hown1 := Hown1.out
      rw [hints] at hown1
      have hl : (s0 ++ [stamp]).length = s0.length + 1 := by simp
      have hFr1 := (HFr.out.alloc (.cells #[.int .i64 stamp] 2)).grown Hgr1.out (fun k hk => .inr hk)
      have hgat : some g0 = some g ∨ w.heap.size ≤ g := by
        rcases Hat1.out with e | e
        · exact .inl e
        · exact .inr (by have := Hsz.out; rw [e]; omega)
      refine ⟨rfl, g, cap, ?_, ?_, hgat, ?_⟩
      · rw [hl]
        have h1 := Hm1.out.put i 4 ⟨true, ne, ar, fl, (.slice (some ⟨g, 0, none⟩) (s0.length + 1) cap)⟩ (.slice (some ⟨g, 0, none⟩) (s0.length + 1) cap) HhiL.out (by omega) (by rw [(List.getElem?_eq_some_iff.1 HW.out).2]; rfl)
        have h2 := h1.put i 1 ⟨true, stamp, ar, fl, (.slice (some ⟨g, 0, none⟩) (s0.length + 1) cap)⟩ (.int .i64 stamp) (by simpa using HhiL.out) (by omega) (by simp [Wn.cells])
        have h3 := h2.put i 2 ⟨true, stamp, now, fl, (.slice (some ⟨g, 0, none⟩) (s0.length + 1) cap)⟩ (.int .i64 now) (by simpa using HhiL.out) (by omega) (by simp [Wn.cells])
        have h4 := h3.put i 3 ⟨true, stamp, now, bd, (.slice (some ⟨g, 0, none⟩) (s0.length + 1) cap)⟩ (.int .i64 bd) (by simpa using HhiL.out) (by omega) (by simp [Wn.cells])
        simp only [List.set_set] at h4
        exact h4
      · rw [hl]; exact ownsRow_setCell_below (ownsRow_setCell_below (ownsRow_setCell_below (ownsRow_setCell_below hown1 (Nat.lt_succ_self M) _) (Nat.lt_succ_self M) _) (Nat.lt_succ_self M) _) (Nat.lt_succ_self M) _
      · exact (((hFr1.setCell (.inl rfl) _).setCell (.inl rfl) _).setCell (.inl rfl) _).setCell (.inl rfl) _

end Go.Proofs.Ybulkczmq
