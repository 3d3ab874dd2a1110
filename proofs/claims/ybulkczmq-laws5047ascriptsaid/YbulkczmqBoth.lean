/- One datagram: the model's step and admit answer alike, and leave states that stand for one plain state. -/
import Derived.Test.YbulkczmqState
namespace Go.Proofs.Ybulkczmq
open Go.RowKit

theorem wrap_small (x : Int) (h1 : -4611686018427387904 ≤ x) (h2 : x ≤ 4611686018427387904) : wrap64 x = x := by unfold wrap64; omega
theorem wrap_diff (base a b : Int) (h1 : -4611686018427387904 ≤ a - b) (h2 : a - b ≤ 4611686018427387904) : wrap64 (wrap64 (base + a) - wrap64 (base + b)) = a - b := by unfold wrap64; omega
theorem wrap_add (base a c : Int) : wrap64 (wrap64 (base + a) + c) = wrap64 (base + (a + c)) := by unfold wrap64; omega
theorem wrap_inj (base a b : Int) (h1 : -4611686018427387904 ≤ a - b) (h2 : a - b ≤ 4611686018427387904) (h : wrap64 (base + a) = wrap64 (base + b)) : a = b := by unfold wrap64 at h; omega

/-- What a window keeps of a state. -/
def win (base : Int) (S : Sd) : List Int := (S.acc.filter (inWin S.fl S.ne)).map (fun x => wrap64 (base + x))

structure OkS (ma B : Int) (L : Nat) (S : Sd) : Prop where
  fl : S.fl = S.ne - ma
  ne1 : -B ≤ S.ne
  ne2 : S.ne ≤ B
  ar1 : -B ≤ S.ar
  ar2 : S.ar ≤ B
  le : ∀ x ∈ S.acc, x ≤ S.ne
  bd : ∀ x ∈ S.acc, -B ≤ x
  len : S.acc.length ≤ L

abbrev RepsM (M : Nat) := Reps (M + 1) 2 (fun x => x) Sd.acc
abbrev RepsW (F : Nat) (base : Int) := Reps (F + 1) 38 (fun x => wrap64 (base + x)) (win base)

def GoesM (M : Nat) (Ss : List Sd) (w w' : World) : Prop := ∃ Ms' row, Mm M Ms' w' ∧ RepsM M Ms' Ss w' ∧ Fr M row w w' ∧ RowT 2 w row ∧ ∀ b, row = some b → M < b
def GoesW (SB F : Nat) (base ma fa : Int) (Ss : List Sd) (w w' : World) : Prop := ∃ Ws' row, Fm SB F 3 ma fa Ws' w' ∧ RepsW F base Ws' Ss w' ∧ Fr SB row w w' ∧ RowT 38 w row ∧ ∀ b, row = some b → F < b

theorem goesM_left {M k : Nat} {ne ar fl : Int} {s : List Int} {Ms : List Wn} {Ss : List Sd} {row : Option Nat} {w w' : World} {X0 : Wn} {S : Sd} (hR : RepsM M Ms Ss w) (hS : Ss[k]? = some S) (hX : Ms[k]? = some X0) (hrow : row = none ∨ row = X0.sv.ownBlock) (h : MLeft M k ne ar fl s Ms row w w') :
    GoesM M (Ss.set k ⟨true, ne, ar, fl, s⟩) w w' := by
  obtain ⟨g, cap, hm, hown, hg, hFr⟩ := h
  refine ⟨_, row, hm, Reps.update (S1 := ⟨true, ne, ar, fl, s⟩) hR hX hrow hFr (Nat.lt_succ_self M) rfl g cap hown hg, hFr, ?_, ?_⟩
  · rcases hrow with r | r
    · exact .inl r
    · rw [r]; exact (hR.rep k S X0 hS hX).own
  · intro b hb
    rcases hrow with r | r
    · rw [r] at hb; cases hb
    · rw [r] at hb; have := ((hR.rep k S X0 hS hX).block b hb).1; omega

theorem set_same {Ss : List Sd} {k : Nat} {S : Sd} (h : Ss[k]? = some S) : Ss.set k S = Ss := by
  obtain ⟨hk, e⟩ := List.getElem?_eq_some_iff.1 h
  rw [← e]; exact List.set_getElem_self hk

theorem goesM_kept {M k : Nat} {Ms : List Wn} {Ss : List Sd} {w w' : World} {S : Sd} (hR : RepsM M Ms Ss w) (hS : Ss[k]? = some S) (h : MKept M Ms w w') : GoesM M (Ss.set k S) w w' := by
  rw [set_same hS]
  exact ⟨Ms, none, h.1, hR.kept h.2 (Nat.lt_succ_self M), h.2, .inl rfl, fun b hb => by cases hb⟩

theorem goesW_left {SB F k : Nat} {base ma fa ne ar fl ne' ar' fl' : Int} {acc s : List Int} {Ws : List Wn} {Ss : List Sd} {row : Option Nat} {w w' : World} {X0 : Wn} {S : Sd} (hR : RepsW F base Ws Ss w) (hS : Ss[k]? = some S) (hX : Ws[k]? = some X0) (hrow : row = none ∨ row = X0.sv.ownBlock) (hSF : SB < F) (h : Left SB F 3 k ma fa ne' ar' fl' s Ws row w w')
    (e1 : ne' = wrap64 (base + ne)) (e2 : ar' = wrap64 (base + ar)) (e3 : fl' = wrap64 (base + fl)) (e4 : s = win base ⟨true, ne, ar, fl, acc⟩) : GoesW SB F base ma fa (Ss.set k ⟨true, ne, ar, fl, acc⟩) w w' := by
  subst e1 e2 e3 e4
  obtain ⟨g, cap, hm, hown, hg, hFr⟩ := h
  refine ⟨_, row, hm, Reps.update (S1 := ⟨true, ne, ar, fl, acc⟩) hR hX hrow hFr (by omega) rfl g cap hown hg, hFr, ?_, ?_⟩
  · rcases hrow with r | r
    · exact .inl r
    · rw [r]; exact (hR.rep k S X0 hS hX).own
  · intro b hb
    rcases hrow with r | r
    · rw [r] at hb; cases hb
    · rw [r] at hb; have := ((hR.rep k S X0 hS hX).block b hb).1; omega

theorem goesW_kept {SB F k : Nat} {base ma fa : Int} {Ws : List Wn} {Ss : List Sd} {w w' : World} {S : Sd} (hR : RepsW F base Ws Ss w) (hS : Ss[k]? = some S) (hSF : SB < F) (h : Kept SB F 3 ma fa Ws w w') : GoesW SB F base ma fa (Ss.set k S) w w' := by
  rw [set_same hS]
  exact ⟨Ws, none, h.1, hR.kept h.2 (by omega), h.2, .inl rfl, fun b hb => by cases hb⟩

theorem Reps.get {B T : Nat} {f : Int → Int} {sel : Sd → List Int} {Xs : List Wn} {Ss : List Sd} {w : World} (h : Reps B T f sel Xs Ss w) {k : Nat} {S : Sd} (hS : Ss[k]? = some S) : ∃ X, Xs[k]? = some X ∧ Rep B T f sel S X w := by
  have hk := (List.getElem?_eq_some_iff.1 hS).1
  have hk' : k < Xs.length := by rw [h.len]; exact hk
  exact ⟨Xs[k], List.getElem?_eq_getElem hk', h.rep k S _ hS (List.getElem?_eq_getElem hk')⟩

def AnswersM (ma fa stamp now : Int) (S S' : Sd) (c : ByteArray) : Prop := ∀ (M k : Nat) (Ms : List Wn) (Ss : List Sd) (w : World), Mm M Ms w → RepsM M Ms Ss w → Ss[k]? = some S →
  Calls Yba.prog 8 #[.pointer (some ⟨M, k * 5, none⟩), .int .i64 stamp, .int .i64 now, .int .i64 ma, .int .i64 fa] w fun e w' => e = .returned (.string c) ∧ GoesM M (Ss.set k S') w w'
def AnswersW (base ma fa stamp now : Int) (S S' : Sd) (c : ByteArray) : Prop := ∀ (SB F k : Nat) (Ws : List Wn) (Ss : List Sd) (w : World), k < 3 → Fm SB F 3 ma fa Ws w → RepsW F base Ws Ss w → Ss[k]? = some S →
  Calls Yba.prog 9 #[.pointer (some ⟨F, 0, none⟩), .int .i64 k, .int .i64 (wrap64 (base + stamp)), .int .i64 (wrap64 (base + now))] w fun e w' => e = .returned (.string c) ∧ GoesW SB F base ma fa (Ss.set k S') w w'

theorem win_one (base ma stamp now : Int) (h : 1 ≤ ma) : [wrap64 (base + stamp)] = win base ⟨true, stamp, now, stamp - ma, [stamp]⟩ := by
  have h1 : inWin (stamp - ma) stamp stamp = true := by simp [inWin]; omega
  simp [win, h1]

theorem neg_wrap (base stamp ma : Int) (h1 : 1 ≤ ma) (h2 : ma ≤ 2000) : wrap64 (wrap64 (base + stamp) + wrap64 (-ma)) = wrap64 (base + (stamp - ma)) := by
  rw [wrap_small (-ma) (by omega) (by omega), wrap_add]; congr 1

/-- The unknown sender. -/
theorem new_ok (base ma fa stamp now : Int) (S : Sd) (hk : S.known = false) (hma1 : 1 ≤ ma) (hma2 : ma ≤ 2000) (hs1 : -400000 ≤ stamp) (hs2 : stamp ≤ 400000) :
    AnswersM ma fa stamp now S ⟨true, stamp, now, stamp - ma, [stamp]⟩ ⟨#[]⟩ ∧ AnswersW base ma fa stamp now S ⟨true, stamp, now, stamp - ma, [stamp]⟩ ⟨#[]⟩ := by
  refine ⟨fun M k Ms Ss w hm hR hS => ?_, fun SB F k Ws Ss w hk3 hm hR hS => ?_⟩
  · obtain ⟨X, hX, hrep⟩ := hR.get hS
    rcases hrep with ⟨_, rfl⟩ | ⟨h0, _⟩
    · refine (step_new M k ma fa stamp now Ms w 0 0 0 _ hm hX).mono fun e w' ⟨he, hl⟩ => ⟨he, ?_⟩
      rw [wrap_small (stamp - ma) (by omega) (by omega)] at hl
      exact goesM_left hR hS hX (.inl rfl) hl
    · rw [hk] at h0; cases h0
  · obtain ⟨X, hX, hrep⟩ := hR.get hS
    rcases hrep with ⟨_, rfl⟩ | ⟨h0, _⟩
    · refine (admit_first SB F 3 k ma fa (wrap64 (base + stamp)) (wrap64 (base + now)) Ws w 0 0 0 hm hk3 (by omega) hX).mono fun e w' ⟨he, hl⟩ => ⟨he, ?_⟩
      exact goesW_left hR hS hX (.inl rfl) hm.lt (left_of_reset hl) rfl rfl (neg_wrap base stamp ma hma1 hma2) (win_one base ma stamp now hma1)
    · rw [hk] at h0; cases h0

/-- The sender that is forgotten. -/
theorem old_ok (base ma fa stamp now B : Int) (L : Nat) (S : Sd) (hk : S.known = true) (hok : OkS ma B L S) (hB : B ≤ 400000) (hma1 : 1 ≤ ma) (hma2 : ma ≤ 2000) (hs1 : -400000 ≤ stamp) (hs2 : stamp ≤ 400000) (hn1 : -400000 ≤ now) (hn2 : now ≤ 400000)
    (hd : now - S.ar < 0 ∨ fa < now - S.ar) :
    AnswersM ma fa stamp now S ⟨true, stamp, now, stamp - ma, [stamp]⟩ ⟨#[]⟩ ∧ AnswersW base ma fa stamp now S ⟨true, stamp, now, stamp - ma, [stamp]⟩ ⟨#[]⟩ := by
  have a1 := hok.ar1
  have a2 := hok.ar2
  have hw : wrap64 (now - S.ar) = now - S.ar := wrap_small _ (by omega) (by omega)
  have hw2 : wrap64 (wrap64 (base + now) - wrap64 (base + S.ar)) = now - S.ar := wrap_diff _ _ _ (by omega) (by omega)
  refine ⟨fun M k Ms Ss w hm hR hS => ?_, fun SB F k Ws Ss w hk3 hm hR hS => ?_⟩
  · obtain ⟨X, hX, hrep⟩ := hR.get hS
    rcases hrep with ⟨h0, _⟩ | ⟨_, g, cap, rfl, hown⟩
    · rw [hk] at h0; cases h0
    · by_cases hneg : now - S.ar < 0
      · refine (step_back M k ma fa stamp now Ms w S.ne S.ar S.fl _ hm hX (by rw [hw]; exact hneg)).mono fun e w' ⟨he, hl⟩ => ⟨he, ?_⟩
        rw [wrap_small (stamp - ma) (by omega) (by omega)] at hl
        exact goesM_left hR hS hX (.inl rfl) hl
      · refine (step_old M k ma fa stamp now Ms w S.ne S.ar S.fl _ hm hX (by rw [hw]; exact hneg) (by rw [hw]; omega)).mono fun e w' ⟨he, hl⟩ => ⟨he, ?_⟩
        rw [wrap_small (stamp - ma) (by omega) (by omega)] at hl
        exact goesM_left hR hS hX (.inl rfl) hl
  · obtain ⟨X, hX, hrep⟩ := hR.get hS
    rcases hrep with ⟨h0, _⟩ | ⟨_, g, cap, rfl, hown⟩
    · rw [hk] at h0; cases h0
    · by_cases hneg : now - S.ar < 0
      · refine (admit_back SB F 3 k ma fa (wrap64 (base + stamp)) (wrap64 (base + now)) Ws w _ _ _ g _ cap _ hm hk3 (by omega) hX hown (by rw [hw2]; exact hneg)).mono fun e w' ⟨he, hl⟩ => ⟨he, ?_⟩
        exact goesW_left hR hS hX (.inr rfl) hm.lt (left_of_reset hl) rfl rfl (neg_wrap base stamp ma hma1 hma2) (win_one base ma stamp now hma1)
      · refine (admit_old SB F 3 k ma fa (wrap64 (base + stamp)) (wrap64 (base + now)) Ws w _ _ _ g _ cap _ hm hk3 (by omega) hX hown (by rw [hw2]; exact hneg) (by rw [hw2]; omega)).mono fun e w' ⟨he, hl⟩ => ⟨he, ?_⟩
        exact goesW_left hR hS hX (.inr rfl) hm.lt (left_of_reset hl) rfl rfl (neg_wrap base stamp ma hma1 hma2) (win_one base ma stamp now hma1)

theorem stale_ok (base ma fa stamp now B : Int) (L : Nat) (S : Sd) (hk : S.known = true) (hok : OkS ma B L S) (hB : B ≤ 400000) (hma1 : 1 ≤ ma) (hma2 : ma ≤ 2000) (hs1 : -400000 ≤ stamp) (hs2 : stamp ≤ 400000) (hn1 : -400000 ≤ now) (hn2 : now ≤ 400000)
    (hd1 : ¬ now - S.ar < 0) (hd2 : ¬ fa < now - S.ar) (hst : stamp ≤ S.fl ∨ ma ≤ S.ne + (now - S.ar) - stamp) :
    AnswersM ma fa stamp now S S ⟨#[115, 116, 97, 108, 101]⟩ ∧ AnswersW base ma fa stamp now S S ⟨#[115, 116, 97, 108, 101]⟩ := by
  have a1 := hok.ar1
  have a2 := hok.ar2
  have a3 := hok.ne1
  have a4 := hok.ne2
  have a5 := hok.fl
  have hw : wrap64 (now - S.ar) = now - S.ar := wrap_small _ (by omega) (by omega)
  have hw2 : wrap64 (wrap64 (base + now) - wrap64 (base + S.ar)) = now - S.ar := wrap_diff _ _ _ (by omega) (by omega)
  have hw3 : wrap64 (wrap64 (base + stamp) - wrap64 (base + S.fl)) = stamp - S.fl := wrap_diff _ _ _ (by omega) (by omega)
  have hw4 : wrap64 (wrap64 (wrap64 (base + S.ne) + (now - S.ar)) - wrap64 (base + stamp)) = S.ne + (now - S.ar) - stamp := by rw [wrap_add]; exact wrap_diff _ _ _ (by omega) (by omega)
  have hw5 : wrap64 (wrap64 (S.ne + (now - S.ar)) - stamp) = S.ne + (now - S.ar) - stamp := by rw [wrap_small (S.ne + (now - S.ar)) (by omega) (by omega)]; exact wrap_small _ (by omega) (by omega)
  refine ⟨fun M k Ms Ss w hm hR hS => ?_, fun SB F k Ws Ss w hk3 hm hR hS => ?_⟩
  · obtain ⟨X, hX, hrep⟩ := hR.get hS
    rcases hrep with ⟨h0, _⟩ | ⟨_, g, cap, rfl, hown⟩
    · rw [hk] at h0; cases h0
    · by_cases c : stamp ≤ S.fl
      · exact (step_stale1 M k ma fa stamp now Ms w S.ne S.ar S.fl _ hm hX (by rw [hw]; exact hd1) (by rw [hw]; exact hd2) c).mono fun e w' ⟨he, hl⟩ => ⟨he, goesM_kept hR hS hl⟩
      · exact (step_stale2 M k ma fa stamp now Ms w S.ne S.ar S.fl _ hm hX (by rw [hw]; exact hd1) (by rw [hw]; exact hd2) c (by rw [hw, hw5]; omega)).mono fun e w' ⟨he, hl⟩ => ⟨he, goesM_kept hR hS hl⟩
  · obtain ⟨X, hX, hrep⟩ := hR.get hS
    rcases hrep with ⟨h0, _⟩ | ⟨_, g, cap, rfl, hown⟩
    · rw [hk] at h0; cases h0
    · by_cases c : stamp ≤ S.fl
      · exact (admit_stale1 SB F 3 k ma fa _ _ Ws w _ _ _ _ hm hk3 hX (by rw [hw2]; exact hd1) (by rw [hw2]; exact hd2) (by rw [hw3]; omega)).mono fun e w' ⟨he, hl⟩ => ⟨he, goesW_kept hR hS hm.lt hl⟩
      · exact (admit_stale2 SB F 3 k ma fa _ _ Ws w _ _ _ _ hm hk3 hX (by rw [hw2]; exact hd1) (by rw [hw2]; exact hd2) (by rw [hw3]; omega) (by rw [hw2, hw4]; omega)).mono fun e w' ⟨he, hl⟩ => ⟨he, goesW_kept hR hS hm.lt hl⟩

theorem mem_win (base ma B stamp : Int) (L : Nat) (S : Sd) (hok : OkS ma B L S) (hB : B ≤ 400000) (hs1 : -400000 ≤ stamp) (hs2 : stamp ≤ 400000) (hfl : S.fl < stamp) : wrap64 (base + stamp) ∈ win base S ↔ stamp ∈ S.acc := by
  have b2 := hok.ne2
  unfold win
  simp only [List.mem_map, List.mem_filter]
  constructor
  · rintro ⟨x, ⟨hx, _⟩, e⟩
    have h1 := hok.le x hx
    have h2 := hok.bd x hx
    rw [← wrap_inj base x stamp (by omega) (by omega) e]; exact hx
  · intro h
    exact ⟨stamp, ⟨h, by have := hok.le stamp h; simp [inWin]; omega⟩, rfl⟩

theorem repl_ok (base ma fa stamp now B : Int) (L : Nat) (S : Sd) (hk : S.known = true) (hok : OkS ma B L S) (hB : B ≤ 400000) (hL : L ≤ 1000) (hma1 : 1 ≤ ma) (hma2 : ma ≤ 2000) (hs1 : -400000 ≤ stamp) (hs2 : stamp ≤ 400000) (hn1 : -400000 ≤ now) (hn2 : now ≤ 400000)
    (hd1 : ¬ now - S.ar < 0) (hd2 : ¬ fa < now - S.ar) (hst : ¬ (stamp ≤ S.fl ∨ ma ≤ S.ne + (now - S.ar) - stamp)) (hmem : stamp ∈ S.acc) :
    AnswersM ma fa stamp now S S ⟨#[114, 101, 112, 108, 97, 121, 101, 100]⟩ ∧ AnswersW base ma fa stamp now S S ⟨#[114, 101, 112, 108, 97, 121, 101, 100]⟩ := by
  have a1 := hok.ar1
  have a2 := hok.ar2
  have a3 := hok.ne1
  have a4 := hok.ne2
  have a5 := hok.fl
  have a6 := hok.len
  have hw : wrap64 (now - S.ar) = now - S.ar := wrap_small _ (by omega) (by omega)
  have hw2 : wrap64 (wrap64 (base + now) - wrap64 (base + S.ar)) = now - S.ar := wrap_diff _ _ _ (by omega) (by omega)
  have hw3 : wrap64 (wrap64 (base + stamp) - wrap64 (base + S.fl)) = stamp - S.fl := wrap_diff _ _ _ (by omega) (by omega)
  have hw4 : wrap64 (wrap64 (wrap64 (base + S.ne) + (now - S.ar)) - wrap64 (base + stamp)) = S.ne + (now - S.ar) - stamp := by rw [wrap_add]; exact wrap_diff _ _ _ (by omega) (by omega)
  have hw5 : wrap64 (wrap64 (S.ne + (now - S.ar)) - stamp) = S.ne + (now - S.ar) - stamp := by rw [wrap_small (S.ne + (now - S.ar)) (by omega) (by omega)]; exact wrap_small _ (by omega) (by omega)
  have hwl : (win base S).length ≤ S.acc.length := by unfold win; rw [List.length_map]; exact List.length_filter_le _ _
  refine ⟨fun M k Ms Ss w hm hR hS => ?_, fun SB F k Ws Ss w hk3 hm hR hS => ?_⟩
  · obtain ⟨X, hX, hrep⟩ := hR.get hS
    rcases hrep with ⟨h0, _⟩ | ⟨_, g, cap, rfl, hown⟩
    · rw [hk] at h0; cases h0
    · exact (step_repl M k ma fa stamp now Ms w S.ne S.ar S.fl g cap S.acc hm hX (by rw [hw]; exact hd1) (by rw [hw]; exact hd2) (by omega) (by rw [hw, hw5]; omega) hown (by omega) hmem).mono fun e w' ⟨he, hl⟩ => ⟨he, goesM_kept hR hS hl⟩
  · obtain ⟨X, hX, hrep⟩ := hR.get hS
    rcases hrep with ⟨h0, _⟩ | ⟨_, g, cap, rfl, hown⟩
    · rw [hk] at h0; cases h0
    · exact (admit_repl SB F 3 k ma fa _ _ Ws w _ _ _ g cap (win base S) hm hk3 hX (by rw [hw2]; exact hd1) (by rw [hw2]; exact hd2) (by rw [hw3]; omega) (by rw [hw2, hw4]; omega) hown (by omega) ((mem_win base ma B stamp L S hok hB hs1 hs2 (by omega)).2 hmem)).mono fun e w' ⟨he, hl⟩ => ⟨he, goesW_kept hR hS hm.lt hl⟩

theorem strikes_win (base fl ne x : Int) (h1 : -4611686018427387904 ≤ x - fl ∧ x - fl ≤ 4611686018427387904) (h2 : -4611686018427387904 ≤ x - ne ∧ x - ne ≤ 4611686018427387904) : (!strikes (wrap64 (base + fl)) (wrap64 (base + ne)) (wrap64 (base + x))) = inWin fl ne x := by
  unfold strikes inWin
  rw [wrap_diff base x fl h1.1 h1.2, wrap_diff base x ne h2.1 h2.2]
  rw [Bool.eq_iff_iff]
  simp

theorem win_app (base fl ne fl2 ne2 stamp : Int) (acc : List Int) (h1 : fl ≤ fl2) (h2 : ∀ x ∈ acc, x ≤ ne) (h3 : ∀ x ∈ acc, -400000 ≤ x ∧ x ≤ 400000) (h4 : -410000 ≤ fl2 ∧ fl2 ≤ 410000) (h5 : -400000 ≤ ne2 ∧ ne2 ≤ 400000) (h6 : -400000 ≤ stamp ∧ stamp ≤ 400000) :
    (((acc.filter (inWin fl ne)).map (fun x => wrap64 (base + x))) ++ [wrap64 (base + stamp)]).filter (fun x => !strikes (wrap64 (base + fl2)) (wrap64 (base + ne2)) x) = ((acc ++ [stamp]).filter (inWin fl2 ne2)).map (fun x => wrap64 (base + x)) := by
  have e : (acc.filter (inWin fl ne)).map (fun x => wrap64 (base + x)) ++ [wrap64 (base + stamp)] = (acc.filter (inWin fl ne) ++ [stamp]).map (fun x => wrap64 (base + x)) := by simp
  rw [e, List.filter_map]
  congr 1
  have hb : ∀ x ∈ acc.filter (inWin fl ne) ++ [stamp], ((fun x => !strikes (wrap64 (base + fl2)) (wrap64 (base + ne2)) x) ∘ fun x => wrap64 (base + x)) x = inWin fl2 ne2 x := by
    intro x hx
    have hx' : -400000 ≤ x ∧ x ≤ 400000 := by
      rcases List.mem_append.1 hx with hx | hx
      · exact h3 x (List.mem_filter.1 hx).1
      · simp at hx; subst hx; exact h6
    exact strikes_win base fl2 ne2 x ⟨by omega, by omega⟩ ⟨by omega, by omega⟩
  rw [List.filter_congr hb, List.filter_append, List.filter_append, List.filter_filter]
  congr 1
  apply List.filter_congr
  intro x hx
  have := h2 x hx
  by_cases c1 : fl2 < x
  · simp [inWin, c1, show fl < x by omega, this]
  · simp [inWin, c1]

theorem fresh_ok (base ma fa stamp now B : Int) (L : Nat) (S : Sd) (hk : S.known = true) (hok : OkS ma B L S) (hB : B ≤ 400000) (hL : L ≤ 1000) (hma1 : 1 ≤ ma) (hma2 : ma ≤ 2000) (hs1 : -400000 ≤ stamp) (hs2 : stamp ≤ 400000) (hn1 : -400000 ≤ now) (hn2 : now ≤ 400000)
    (hd1 : ¬ now - S.ar < 0) (hd2 : ¬ fa < now - S.ar) (hst : ¬ (stamp ≤ S.fl ∨ ma ≤ S.ne + (now - S.ar) - stamp)) (hmem : ¬ stamp ∈ S.acc) (ne2 ar2 fl2 : Int) (h2 : (S.ne < stamp ∧ ne2 = stamp ∧ ar2 = now ∧ fl2 = stamp - ma) ∨ (¬ S.ne < stamp ∧ ne2 = S.ne ∧ ar2 = S.ar ∧ fl2 = S.fl)) :
    AnswersM ma fa stamp now S ⟨true, ne2, ar2, fl2, S.acc ++ [stamp]⟩ ⟨#[]⟩ ∧ AnswersW base ma fa stamp now S ⟨true, ne2, ar2, fl2, S.acc ++ [stamp]⟩ ⟨#[]⟩ := by
  have a1 := hok.ar1
  have a2 := hok.ar2
  have a3 := hok.ne1
  have a4 := hok.ne2
  have a5 := hok.fl
  have a6 := hok.len
  have hw : wrap64 (now - S.ar) = now - S.ar := wrap_small _ (by omega) (by omega)
  have hw2 : wrap64 (wrap64 (base + now) - wrap64 (base + S.ar)) = now - S.ar := wrap_diff _ _ _ (by omega) (by omega)
  have hw3 : wrap64 (wrap64 (base + stamp) - wrap64 (base + S.fl)) = stamp - S.fl := wrap_diff _ _ _ (by omega) (by omega)
  have hw4 : wrap64 (wrap64 (wrap64 (base + S.ne) + (now - S.ar)) - wrap64 (base + stamp)) = S.ne + (now - S.ar) - stamp := by rw [wrap_add]; exact wrap_diff _ _ _ (by omega) (by omega)
  have hw5 : wrap64 (wrap64 (S.ne + (now - S.ar)) - stamp) = S.ne + (now - S.ar) - stamp := by rw [wrap_small (S.ne + (now - S.ar)) (by omega) (by omega)]; exact wrap_small _ (by omega) (by omega)
  have hw6 : wrap64 (wrap64 (base + stamp) - wrap64 (base + S.ne)) = stamp - S.ne := wrap_diff _ _ _ (by omega) (by omega)
  have hw7 : wrap64 (wrap64 (base + (stamp - ma)) - wrap64 (base + S.fl)) = stamp - ma - S.fl := wrap_diff _ _ _ (by omega) (by omega)
  have hw8 : wrap64 (stamp - ma) = stamp - ma := wrap_small _ (by omega) (by omega)
  have hwl : (win base S).length ≤ S.acc.length := by unfold win; rw [List.length_map]; exact List.length_filter_le _ _
  have hnm : ¬ wrap64 (base + stamp) ∈ win base S := fun h => hmem ((mem_win base ma B stamp L S hok hB hs1 hs2 (by omega)).1 h)
  have hwin : (win base S ++ [wrap64 (base + stamp)]).filter (fun x => !strikes (wrap64 (base + fl2)) (wrap64 (base + ne2)) x) = win base ⟨true, ne2, ar2, fl2, S.acc ++ [stamp]⟩ :=
    win_app base S.fl S.ne fl2 ne2 stamp S.acc (by omega) hok.le (fun x hx => ⟨by have := hok.bd x hx; omega, by have := hok.le x hx; omega⟩) (by omega) (by omega) (by omega)
  refine ⟨fun M k Ms Ss w hm hR hS => ?_, fun SB F k Ws Ss w hk3 hm hR hS => ?_⟩
  · obtain ⟨X, hX, hrep⟩ := hR.get hS
    rcases hrep with ⟨h0, _⟩ | ⟨_, g, cap, rfl, hown⟩
    · rw [hk] at h0; cases h0
    · rcases h2 with ⟨c, rfl, rfl, rfl⟩ | ⟨c, rfl, rfl, rfl⟩
      · refine (step_up M k ma fa _ _ Ms w S.ne S.ar S.fl g cap S.acc hm hX (by rw [hw]; exact hd1) (by rw [hw]; exact hd2) (by omega) (by rw [hw, hw5]; omega) hown (by omega) hmem c (by rw [hw8]; omega)).mono fun e w' ⟨he, hl⟩ => ⟨he, ?_⟩
        rw [hw8] at hl
        exact goesM_left hR hS hX (.inr rfl) hl
      · exact (step_keep M k ma fa stamp now Ms w S.ne S.ar S.fl g cap S.acc hm hX (by rw [hw]; exact hd1) (by rw [hw]; exact hd2) (by omega) (by rw [hw, hw5]; omega) hown (by omega) hmem c).mono fun e w' ⟨he, hl⟩ => ⟨he, goesM_left hR hS hX (.inr rfl) hl⟩
  · obtain ⟨X, hX, hrep⟩ := hR.get hS
    rcases hrep with ⟨h0, _⟩ | ⟨_, g, cap, rfl, hown⟩
    · rw [hk] at h0; cases h0
    · have hng := neg_wrap base stamp ma hma1 hma2
      rcases h2 with ⟨c, rfl, rfl, rfl⟩ | ⟨c, rfl, rfl, rfl⟩
      · refine (admit_up SB F 3 k ma fa _ _ Ws w _ _ _ g cap (win base S) hm hk3 hX (by rw [hw2]; exact hd1) (by rw [hw2]; exact hd2) (by rw [hw3]; omega) (by rw [hw2, hw4]; omega) hown (by omega) hnm (by rw [hw6]; omega) (by rw [hng, hw7]; omega)).mono fun e w' ⟨he, hl⟩ => ⟨he, ?_⟩
        rw [hng] at hl
        exact goesW_left hR hS hX (.inr rfl) hm.lt hl rfl rfl rfl hwin
      · exact (admit_keep SB F 3 k ma fa _ _ Ws w _ _ _ g cap (win base S) hm hk3 hX (by rw [hw2]; exact hd1) (by rw [hw2]; exact hd2) (by rw [hw3]; omega) (by rw [hw2, hw4]; omega) hown (by omega) hnm (by rw [hw6]; omega)).mono fun e w' ⟨he, hl⟩ => ⟨he, goesW_left hR hS hX (.inr rfl) hm.lt hl rfl rfl rfl hwin⟩

/-- One datagram, whatever the sender's state. -/
theorem both_ok (base ma fa stamp now B B' : Int) (L : Nat) (S : Sd) (hok : S.known = true → OkS ma B L S) (hBB : B ≤ B') (hB : B' ≤ 400000) (hL : L ≤ 1000) (hma1 : 1 ≤ ma) (hma2 : ma ≤ 2000) (hs1 : -B' ≤ stamp) (hs2 : stamp ≤ B') (hn1 : -B' ≤ now) (hn2 : now ≤ B') :
    ∃ S' c, S'.known = true ∧ OkS ma B' (L + 1) S' ∧ AnswersM ma fa stamp now S S' c ∧ AnswersW base ma fa stamp now S S' c := by
  have hnew : OkS ma B' (L + 1) ⟨true, stamp, now, stamp - ma, [stamp]⟩ := ⟨rfl, hs1, hs2, hn1, hn2, by simp, by simpa using hs1, by simp⟩
  cases hk : S.known with
  | false =>
    have := new_ok base ma fa stamp now S hk hma1 hma2 (by omega) (by omega)
    exact ⟨_, _, rfl, hnew, this.1, this.2⟩
  | true =>
    have ok := hok hk
    have mono : OkS ma B' (L + 1) S := ⟨ok.fl, by have := ok.ne1; omega, by have := ok.ne2; omega, by have := ok.ar1; omega, by have := ok.ar2; omega, ok.le, fun x hx => by have := ok.bd x hx; omega, by have := ok.len; omega⟩
    by_cases hd : now - S.ar < 0 ∨ fa < now - S.ar
    · have := old_ok base ma fa stamp now B L S hk ok (by omega) hma1 hma2 (by omega) (by omega) (by omega) (by omega) hd
      exact ⟨_, _, rfl, hnew, this.1, this.2⟩
    · by_cases hst : stamp ≤ S.fl ∨ ma ≤ S.ne + (now - S.ar) - stamp
      · have := stale_ok base ma fa stamp now B L S hk ok (by omega) hma1 hma2 (by omega) (by omega) (by omega) (by omega) (fun h => hd (.inl h)) (fun h => hd (.inr h)) hst
        exact ⟨_, _, hk, mono, this.1, this.2⟩
      · by_cases hmem : stamp ∈ S.acc
        · have := repl_ok base ma fa stamp now B L S hk ok (by omega) hL hma1 hma2 (by omega) (by omega) (by omega) (by omega) (fun h => hd (.inl h)) (fun h => hd (.inr h)) hst hmem
          exact ⟨_, _, hk, mono, this.1, this.2⟩
        · by_cases c : S.ne < stamp
          · have := fresh_ok base ma fa stamp now B L S hk ok (by omega) hL hma1 hma2 (by omega) (by omega) (by omega) (by omega) (fun h => hd (.inl h)) (fun h => hd (.inr h)) hst hmem stamp now (stamp - ma) (.inl ⟨c, rfl, rfl, rfl⟩)
            refine ⟨_, _, rfl, ⟨rfl, hs1, hs2, hn1, hn2, ?_, ?_, by have := ok.len; simp; omega⟩, this.1, this.2⟩
            · intro x hx
              rcases List.mem_append.1 hx with hx | hx
              · have := ok.le x hx; show x ≤ stamp; omega
              · simp at hx; subst hx; exact Int.le_refl _
            · intro x hx
              rcases List.mem_append.1 hx with hx | hx
              · have := ok.bd x hx; omega
              · simp at hx; subst hx; exact hs1
          · have := fresh_ok base ma fa stamp now B L S hk ok (by omega) hL hma1 hma2 (by omega) (by omega) (by omega) (by omega) (fun h => hd (.inl h)) (fun h => hd (.inr h)) hst hmem S.ne S.ar S.fl (.inr ⟨c, rfl, rfl, rfl⟩)
            refine ⟨⟨true, S.ne, S.ar, S.fl, S.acc ++ [stamp]⟩, _, rfl, ⟨mono.fl, mono.ne1, mono.ne2, mono.ar1, mono.ar2, ?_, ?_, by have := ok.len; simp; omega⟩, this.1, this.2⟩
            · intro x hx
              rcases List.mem_append.1 hx with hx | hx
              · exact ok.le x hx
              · simp at hx; subst hx; show x ≤ S.ne; omega
            · intro x hx
              rcases List.mem_append.1 hx with hx | hx
              · have := ok.bd x hx; omega
              · simp at hx; subst hx; exact hs1
end Go.Proofs.Ybulkczmq
