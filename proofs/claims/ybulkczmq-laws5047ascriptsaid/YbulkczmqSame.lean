/- The comparison of a window with its model. -/
import Derived.Test.YbulkczmqKeep
namespace Go.Proofs.Ybulkczmq
open Go.RowKit
set_option linter.unusedSimpArgs false

/-- Which accepted stamps the window keeps. -/
def inWin (fl ne x : Int) : Bool := decide (fl < x) && decide (x ≤ ne)

theorem filt_at (p : Int → Bool) (acc : List Int) (t : Nat) (ht : t < acc.length) (hp : p (nth acc t) = true) : ((acc.take t).filter p).length < (acc.filter p).length ∧ nth (acc.filter p) ((acc.take t).filter p).length = nth acc t := by
  have e : acc.filter p = (acc.take t).filter p ++ nth acc t :: (acc.drop (t + 1)).filter p := by
    conv => lhs; rw [← List.take_append_drop t acc]
    rw [List.filter_append, List.drop_eq_getElem_cons ht]
    rw [nth_eq acc t ht] at hp ⊢
    rw [List.filter_cons_of_pos hp]
  rw [e]
  refine ⟨by simp, ?_⟩
  simp [nth]

theorem filt_succ (p : Int → Bool) (acc : List Int) (t : Nat) (ht : t < acc.length) : ((acc.take (t + 1)).filter p).length = ((acc.take t).filter p).length + (if p (nth acc t) = true then 1 else 0) := by
  rw [List.take_add_one, List.filter_append, nth_eq acc t ht]
  simp [ht]
  by_cases h : p acc[t] = true <;> simp [h]

theorem same_unknown (A o B r : Nat) (base : Int) (w : World) (h1 : w.cell? ⟨A, o, none⟩ = some (.bool false)) (h2 : w.cell? ⟨B, r, none⟩ = some (.bool false)) :
    Calls Yba.prog 10 #[.pointer (some ⟨A, o, none⟩), .pointer (some ⟨B, r, none⟩), .int .i64 base] w fun e w' => e = .returned (.bool true) ∧ ∃ q, w' = w.drewN q := by
  go_enter Yba.func10, Yba.ntmps10
  go_wp2_with fail
  go_quiet (fail)
  go_wp2_with fail
  go_ret
  exact ⟨rfl, _, rfl⟩

set_option maxRecDepth 100000 in
set_option maxHeartbeats 2000000 in
theorem same_known (A o B r g cap h hc : Nat) (base ne ar fl mne mar mfl : Int) (acc : List Int) (w : World)
    (a0 : w.cell? ⟨A, o, none⟩ = some (.bool true)) (a1 : w.cell? ⟨A, o + 1, none⟩ = some (.int .i64 ne)) (a2 : w.cell? ⟨A, o + 2, none⟩ = some (.int .i64 ar)) (a3 : w.cell? ⟨A, o + 3, none⟩ = some (.int .i64 fl)) (a4 : w.cell? ⟨A, o + 4, none⟩ = some (.slice (some ⟨g, 0, none⟩) (acc.filter (inWin mfl mne)).length cap))
    (b0 : w.cell? ⟨B, r, none⟩ = some (.bool true)) (b1 : w.cell? ⟨B, r + 1, none⟩ = some (.int .i64 mne)) (b2 : w.cell? ⟨B, r + 2, none⟩ = some (.int .i64 mar)) (b3 : w.cell? ⟨B, r + 3, none⟩ = some (.int .i64 mfl)) (b4 : w.cell? ⟨B, r + 4, none⟩ = some (.slice (some ⟨h, 0, none⟩) acc.length hc))
    (e1 : wrap64 (base + mne) = ne) (e2 : wrap64 (base + mar) = ar) (e3 : wrap64 (base + mfl) = fl) (hlen : acc.length ≤ 1001)
    (hs : ∀ t, t < (acc.filter (inWin mfl mne)).length → w.cell? ⟨g, t, none⟩ = some (.int .i64 (wrap64 (base + nth (acc.filter (inWin mfl mne)) t))))
    (hm : ∀ t, t < acc.length → w.cell? ⟨h, t, none⟩ = some (.int .i64 (nth acc t))) :
    Calls Yba.prog 10 #[.pointer (some ⟨A, o, none⟩), .pointer (some ⟨B, r, none⟩), .int .i64 base] w fun e w' => e = .returned (.bool true) ∧ ∃ q, w' = w.drewN q := by
  have hfl : (acc.filter (inWin mfl mne)).length ≤ acc.length := List.length_filter_le _ _
  obtain ⟨S, hS⟩ : ∃ S, S = acc.filter (inWin mfl mne) := ⟨_, rfl⟩
  rw [← hS] at a4 hs hfl
  have Hs : Hid (∀ t, t < S.length → w.cell? ⟨g, t, none⟩ = some (.int .i64 (wrap64 (base + nth S t)))) := hs
  have Hm : Hid (∀ t, t < acc.length → w.cell? ⟨h, t, none⟩ = some (.int .i64 (nth acc t))) := hm
  have HS : Hid (S = acc.filter (inWin mfl mne)) := hS
  clear hs hm hS
  go_enter Yba.func10, Yba.ntmps10
  go_wp2_with fail
  go_quiet (fail)
  go_wp2_with fail
  have k0 : (w.drewN nq).cell? = w.cell? := rfl
  have KS : Hid (∀ t, t < S.length → (w.drewN nq).cell? ⟨g, t, none⟩ = some (.int .i64 (wrap64 (base + nth S t)))) := Hs.out
  have KM : Hid (∀ t, t < acc.length → (w.drewN nq).cell? ⟨h, t, none⟩ = some (.int .i64 (nth acc t))) := Hm.out
  have HQ : Hid (∃ q, w.drewN nq = w.drewN q) := ⟨nq, rfl⟩
  clear Hs Hm
  rw [← k0] at a0 a1 a2 a3 a4 b0 b1 b2 b3 b4
  clear k0
  generalize w.drewN nq = W0 at a0 a1 a2 a3 a4 b0 b1 b2 b3 b4 KS KM HQ ⊢
  have m1 : (ne != wrap64 (base + mne)) = false := by rw [e1]; simp
  have m2 : (ar != wrap64 (base + mar)) = false := by rw [e2]; simp
  have m3 : (fl != wrap64 (base + mfl)) = false := by rw [e3]; simp
  clear e1 e2 e3
  go_quiet (fail)
  go_wp2_with fail
  have k0 : (W0.drewN nq).cell? = W0.cell? := rfl
  have LS : Hid (∀ t, t < S.length → (W0.drewN nq).cell? ⟨g, t, none⟩ = some (.int .i64 (wrap64 (base + nth S t)))) := KS.out
  have LM : Hid (∀ t, t < acc.length → (W0.drewN nq).cell? ⟨h, t, none⟩ = some (.int .i64 (nth acc t))) := KM.out
  have LQ : Hid (∃ q, W0.drewN nq = w.drewN q) := by
    obtain ⟨q, e⟩ := HQ.out
    exact ⟨q + nq, by rw [e]; simp [World.drewN, Nat.add_assoc]⟩
  clear KS KM HQ m1 m2 m3
  rw [← k0] at a0 a1 a2 a3 a4 b0 b1 b2 b3 b4
  clear k0
  generalize W0.drewN nq = W1 at a0 a1 a2 a3 a4 b0 b1 b2 b3 b4 LS LM LQ ⊢
  clear W0
  go_loopg [8, 9, 10] acc.length (fun k j8 j9 _ wr => ∃ t u : Nat, j9 = .int .i64 t ∧ j8 = .int .i64 u ∧ t + k = acc.length ∧ Hid (u = ((acc.take t).filter (inWin mfl mne)).length) ∧ wr = W1)
  case atStart => exact ⟨0, 0, rfl, rfl, by omega, (by simp : 0 = ((acc.take 0).filter (inWin mfl mne)).length), rfl⟩
  case round =>
    obtain ⟨t, u, rfl, rfl, htk, Hu, rfl⟩ := hrel
    by_cases hlt : t < acc.length
    · have hltI : (t : Int) < (acc.length : Int) := by omega
      obtain ⟨y, hy⟩ : ∃ y, y = nth acc t := ⟨_, rfl⟩
      have cy := LM.out t hlt
      rw [← hy] at cy
      have Hy : Hid (y = nth acc t) := hy
      clear hy
      have hstep := filt_succ (inWin mfl mne) acc t hlt
      rw [← Hy.out, ← Hu.out] at hstep
      by_cases c1 : y ≤ mfl
      · have d1 : decide (y ≤ mfl) = true := decide_eq_true c1
        have hp : inWin mfl mne y = false := by simp [inWin]; intro h; omega
        have Hst : Hid (((acc.take (t + 1)).filter (inWin mfl mne)).length = u) := by show _ = _; rw [hstep, hp]; simp
        clear hstep hp
        go_wp2_with fail
        go_roundg (acc.length - (t + 1))
        case measure => omega
        case rel => exact ⟨t + 1, u, by go_num, rfl, by omega, (Hst.out.symm : u = _), rfl⟩
      · have d1 : decide (y ≤ mfl) = false := decide_eq_false c1
        by_cases c2 : mne < y
        · have d2 : decide (mne < y) = true := decide_eq_true c2
          have hp : inWin mfl mne y = false := by simp [inWin]; intro h; omega
          have Hst : Hid (((acc.take (t + 1)).filter (inWin mfl mne)).length = u) := by show _ = _; rw [hstep, hp]; simp
          clear hstep hp
          go_wp2_with fail
          go_roundg (acc.length - (t + 1))
          case measure => omega
          case rel => exact ⟨t + 1, u, by go_num, rfl, by omega, (Hst.out.symm : u = _), rfl⟩
        · have d2 : decide (mne < y) = false := decide_eq_false c2
          have hp : inWin mfl mne y = true := by simp [inWin]; omega
          have Hst : Hid (((acc.take (t + 1)).filter (inWin mfl mne)).length = u + 1) := by show _ = _; rw [hstep, hp]; simp
          have hat := filt_at (inWin mfl mne) acc t hlt (by rw [← Hy.out]; exact hp)
          rw [← Hu.out, ← HS.out, ← Hy.out] at hat
          obtain ⟨hus, hnu⟩ := hat
          have cs := LS.out u hus
          rw [hnu] at cs
          have husI : (u : Int) < (S.length : Int) := by omega
          have d3 : decide ((S.length : Int) ≤ (u : Int)) = false := decide_eq_false (by omega)
          clear hstep hp hnu
          go_wp2_with fail
          go_roundg (acc.length - (t + 1))
          case measure => omega
          case rel => exact ⟨t + 1, u + 1, by go_num, by go_num, by omega, (Hst.out.symm : u + 1 = _), rfl⟩
    · have hltI : ¬ (t : Int) < (acc.length : Int) := by omega
      have hu : u = S.length := by
        have h1 := Hu.out
        rw [show t = acc.length by omega, List.take_length, ← HS.out] at h1
        exact h1
      have huB : ((u : Int) == (S.length : Int)) = true := by simp [hu]
      clear hu
      go_wp2_with fail
      go_ret
      exact ⟨rfl, LQ.out⟩
end Go.Proofs.Ybulkczmq
