/- The law of the script. -/
import Derived.Test.YbulkczmqBoth
import Derived.ProofKit
namespace Go.Proofs.Ybulkczmq
open Go.RowKit
set_option linter.unusedSimpArgs false

theorem same_ok (SB F M k : Nat) (base ma fa B : Int) (L : Nat) (Ws Ms : List Wn) (Ss : List Sd) (w : World) (hF : Fm SB F 3 ma fa Ws w) (hM : Mm M Ms w) (hRW : RepsW F base Ws Ss w) (hRM : RepsM M Ms Ss w) {S : Sd} (hS : Ss[k]? = some S) (hok : S.known = true → OkS ma B L S) (hL : L ≤ 1001) :
    Calls Yba.prog 10 #[.pointer (some ⟨SB, k * 5, none⟩), .pointer (some ⟨M, k * 5, none⟩), .int .i64 base] w fun e w' => e = .returned (.bool true) ∧ ∃ q, w' = w.drewN q := by
  obtain ⟨X, hX, hrX⟩ := hRW.get hS
  obtain ⟨Y, hY, hrY⟩ := hRM.get hS
  obtain ⟨c0, c1, c2, c3, c4, _⟩ := hF.five hX
  obtain ⟨d0, d1, d2, d3, d4, _⟩ := hM.five hY
  rcases hrX with ⟨hk, rfl⟩ | ⟨hk, g, cap, rfl, hown⟩
  · rcases hrY with ⟨_, rfl⟩ | ⟨h0, _⟩
    · exact same_unknown SB (k * 5) M (k * 5) base w c0 d0
    · rw [hk] at h0; cases h0
  · rcases hrY with ⟨h0, _⟩ | ⟨_, h, hc, rfl, hown2⟩
    · rw [hk] at h0; cases h0
    · have ok := hok hk
      have hl : (win base S).length = (S.acc.filter (inWin S.fl S.ne)).length := by unfold win; rw [List.length_map]
      refine same_known SB (k * 5) M (k * 5) g cap h hc base _ _ _ S.ne S.ar S.fl S.acc w c0 c1 c2 c3 ?_ d0 d1 d2 d3 d4 rfl rfl rfl (by have := ok.len; omega) ?_ ?_
      · rw [← hl]; exact c4
      · intro t ht
        rw [← hl] at ht
        rw [hown.cellAt t (by omega), ints_nth _ t ht]
        congr 2
        rw [nth_eq _ t ht, nth_eq _ t (by rw [← hl]; exact ht)]
        simp [win]
      · intro t ht
        rw [hown2.cellAt t (by omega), ints_nth _ t ht]

/-- The script's operations as they lie. -/
def IsOps (w : World) (a : Option Addr) (len : Nat) : Prop := len = 0 ∨ ∃ b off, a = some ⟨b, off, none⟩ ∧ b < w.heap.size ∧ ∀ t, t < len → ∃ x y z : Int, w.cell? ⟨b, off + t * 3, none⟩ = some (.int .u8 x) ∧ w.cell? ⟨b, off + t * 3 + 1, none⟩ = some (.int .i8 y) ∧ w.cell? ⟨b, off + t * 3 + 2, none⟩ = some (.int .i8 z) ∧ 0 ≤ x ∧ x ≤ 255 ∧ -128 ≤ y ∧ y ≤ 127 ∧ -128 ≤ z ∧ z ≤ 127

/-- What holds ahead of each datagram. -/
structure Inv (SB F M : Nat) (base ma fa : Int) (t : Nat) (now : Int) (Ss : List Sd) (w wr : World) : Prop where
  f : ∃ Ws, Fm SB F 3 ma fa Ws wr ∧ RepsW F base Ws Ss wr
  m : ∃ Ms, Mm M Ms wr ∧ RepsM M Ms Ss wr
  len : Ss.length = 3
  ok : ∀ (k : Nat) (S : Sd), Ss[k]? = some S → S.known = true → OkS ma (128 * (t + 1)) t S
  n1 : -(128 * t) ≤ now
  n2 : now ≤ 128 * t
  bel : Below w.heap.size w wr
  sb : w.heap.size ≤ SB
  mm : w.heap.size ≤ M

def zeroS : Sd := ⟨false, 0, 0, 0, []⟩

theorem reps_zero (B T : Nat) (f : Int → Int) (sel : Sd → List Int) (w : World) : Reps B T f sel (List.replicate 3 zeroW) (List.replicate 3 zeroS) w := by
  refine ⟨rfl, fun k S X hS hX => ?_, fun j k X Y _ hX hY => ?_⟩
  · simp only [List.getElem?_replicate] at hS hX
    split at hS
    · rw [if_pos (by assumption)] at hX
      cases hS; cases hX
      exact .inl ⟨rfl, rfl⟩
    · cases hS
  · simp only [List.getElem?_replicate] at hX
    split at hX
    · cases hX; exact .inl rfl
    · cases hX

theorem inv_start {F : Nat} {base ma fa : Int} {w w1 : World} (hFm : Fm w.heap.size F 3 ma fa (List.replicate 3 zeroW) w1) (hbel : Below w.heap.size w w1) :
    Inv w.heap.size F w1.heap.size base ma fa 0 0 (List.replicate 3 zeroS) w (w1.alloc (.cells #[.bool false, .int .i64 0, .int .i64 0, .int .i64 0, .slice none 0 0, .bool false, .int .i64 0, .int .i64 0, .int .i64 0, .slice none 0 0, .bool false, .int .i64 0, .int .i64 0, .int .i64 0, .slice none 0 0] 30)) := by
  refine ⟨⟨_, hFm.of_alloc _, reps_zero _ _ _ _ _⟩, ⟨List.replicate 3 zeroW, ⟨?_, rfl⟩, reps_zero _ _ _ _ _⟩, rfl, fun k S hS hk => ?_, by simp, by simp, hbel.alloc hbel.size _, Nat.le_refl _, hbel.size⟩
  · rw [heap_alloc_new]; rfl
  · simp only [List.getElem?_replicate] at hS
    split at hS
    · cases hS; cases hk
    · cases hS

theorem Inv.cells {SB F M : Nat} {base ma fa : Int} {t : Nat} {now : Int} {Ss : List Sd} {w wr : World} (h : Inv SB F M base ma fa t now Ss w wr) (p : Addr) (hp : p.block < w.heap.size) : wr.cell? p = w.cell? p := h.bel.cell hp

/-- Blocks laid anew, and draws, turn nothing of it. -/
theorem Inv.alloc {SB F M : Nat} {base ma fa : Int} {t : Nat} {now : Int} {Ss : List Sd} {w wr : World} (h : Inv SB F M base ma fa t now Ss w wr) (o : Obj) : Inv SB F M base ma fa t now Ss w (wr.alloc o) := by
  obtain ⟨Ws, hF, hRW⟩ := h.f
  obtain ⟨Ms, hM, hRM⟩ := h.m
  have fr : ∀ A, Fr A none wr (wr.alloc o) := fun A => (Fr.refl A none wr).alloc o
  exact ⟨⟨Ws, hF.of_alloc o, hRW.kept (fr F) (Nat.lt_succ_self F)⟩, ⟨Ms, hM.of_alloc o, hRM.kept (fr M) (Nat.lt_succ_self M)⟩, h.len, h.ok, h.n1, h.n2, h.bel.alloc h.bel.size o, h.sb, h.mm⟩

theorem Inv.drewN {SB F M : Nat} {base ma fa : Int} {t : Nat} {now : Int} {Ss : List Sd} {w wr : World} (h : Inv SB F M base ma fa t now Ss w wr) (q : Nat) : Inv SB F M base ma fa t now Ss w (wr.drewN q) := by
  obtain ⟨Ws, hF, hRW⟩ := h.f
  obtain ⟨Ms, hM, hRM⟩ := h.m
  have fr : ∀ A, Fr A none wr (wr.drewN q) := fun A => ⟨rfl, rfl, rfl, Nat.le_refl _, fun _ _ _ _ => rfl⟩
  exact ⟨⟨Ws, ⟨hF.row, hF.len, hF.lt, hF.f⟩, hRW.kept (fr F) (Nat.lt_succ_self F)⟩, ⟨Ms, hM.of_drewN q, hRM.kept (fr M) (Nat.lt_succ_self M)⟩, h.len, h.ok, h.n1, h.n2, ⟨h.bel.os, h.bel.tape, h.bel.output, h.bel.size, h.bel.block⟩, h.sb, h.mm⟩

theorem Fr.belowOf {A : Nat} {row : Option Nat} {w wr wr' : World} (h : Fr A row wr wr') (hb : Below w.heap.size w wr) (hA : w.heap.size ≤ A) (hr : ∀ k, row = some k → w.heap.size ≤ k) : Below w.heap.size w wr' :=
  hb.trans (h.below hA hb.size hr)

/-- Between the model's step and admit. -/
structure Mid (SB F M : Nat) (base ma fa : Int) (Ss Ss' : List Sd) (w wr : World) : Prop where
  f : ∃ Ws, Fm SB F 3 ma fa Ws wr ∧ RepsW F base Ws Ss wr
  m : ∃ Ms, Mm M Ms wr ∧ RepsM M Ms Ss' wr
  bel : Below w.heap.size w wr
  sb : w.heap.size ≤ SB
  mm : w.heap.size ≤ M

theorem step_mid {SB F M k : Nat} {base ma fa stamp now now' : Int} {t : Nat} {Ss : List Sd} {S S' : Sd} {c : ByteArray} {w wr : World} (h : Inv SB F M base ma fa t now Ss w wr) (hS : Ss[k]? = some S) (hA : AnswersM ma fa stamp now' S S' c) :
    Calls Yba.prog 8 #[.pointer (some ⟨M, k * 5, none⟩), .int .i64 stamp, .int .i64 now', .int .i64 ma, .int .i64 fa] wr fun e w' => e = .returned (.string c) ∧ Mid SB F M base ma fa Ss (Ss.set k S') w w' := by
  obtain ⟨Ws, hF, hRW⟩ := h.f
  obtain ⟨Ms, hM, hRM⟩ := h.m
  refine (hA M k Ms Ss wr hM hRM hS).mono fun e w' ⟨he, Ms', row, hM', hRM', hFr, hrow, hbl⟩ => ⟨he, ?_⟩
  exact ⟨⟨Ws, hF.of_fr hFr hM.h (by decide) (by decide) hrow (by decide) (by decide), hRW.other hFr hM.h (by decide) hrow (by decide)⟩, ⟨Ms', hM', hRM'⟩,
    hFr.belowOf h.bel h.mm (fun b hb => by have := hbl b hb; have := h.mm; omega), h.sb, h.mm⟩

theorem admit_inv {SB F M k : Nat} {base ma fa stamp now : Int} {t : Nat} {Ss : List Sd} {S S' : Sd} {c : ByteArray} {w wr : World} (h : Mid SB F M base ma fa Ss (Ss.set k S') w wr) (hk3 : k < 3) (hlen : Ss.length = 3) (hS : Ss[k]? = some S) (hA : AnswersW base ma fa stamp now S S' c)
    (hok : ∀ (j : Nat) (X : Sd), Ss[j]? = some X → X.known = true → OkS ma (128 * (t + 1)) t X) (hok' : OkS ma (128 * (t + 2)) (t + 1) S') (n1 : -(128 * (t + 1)) ≤ now) (n2 : now ≤ 128 * (t + 1)) :
    Calls Yba.prog 9 #[.pointer (some ⟨F, 0, none⟩), .int .i64 k, .int .i64 (wrap64 (base + stamp)), .int .i64 (wrap64 (base + now))] wr fun e w' => e = .returned (.string c) ∧ Inv SB F M base ma fa (t + 1) now (Ss.set k S') w w' := by
  obtain ⟨Ws, hF, hRW⟩ := h.f
  obtain ⟨Ms, hM, hRM⟩ := h.m
  refine (hA SB F k Ws Ss wr hk3 hF hRW hS).mono fun e w' ⟨he, Ws', row, hF', hRW', hFr, hrow, hbl⟩ => ⟨he, ?_⟩
  obtain ⟨cur, hSB⟩ := hF.block
  refine ⟨⟨Ws', hF', hRW'⟩, ⟨Ms, hM.of_fr hFr hSB (by decide) hrow (by decide), hRM.other hFr hSB (by decide) hrow (by decide)⟩, by simp [hlen], fun j X hX hk => ?_, by push_cast; omega, by push_cast; omega,
    hFr.belowOf h.bel h.sb (fun b hb => by have := hbl b hb; have := h.sb; have := hF.lt; omega), h.sb, h.mm⟩
  have e2 : (128 * (((t + 1 : Nat) : Int) + 1)) = 128 * ((t : Int) + 2) := by push_cast; omega
  rw [e2]
  by_cases e : j = k
  · subst e
    rw [List.getElem?_set_self (by omega)] at hX
    cases hX
    exact hok'
  · rw [List.getElem?_set_ne (Ne.symm e)] at hX
    have o := hok j X hX hk
    exact ⟨o.fl, by have := o.ne1; omega, by have := o.ne2; omega, by have := o.ar1; omega, by have := o.ar2; omega, o.le, fun x hx => by have := o.bd x hx; omega, by have := o.len; omega⟩
end Go.Proofs.Ybulkczmq
