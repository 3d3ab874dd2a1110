/- The proof of 'Rows.LawS5047BPacedSaid': the frame is the given shell's; the walk is filled. -/
import Derived.Test.YbulkczmqRows
import Derived.WalkKit
import Derived.ProofKit
import Derived.OpenShut
import Derived.ShutString
import Derived.ChangeOld
import Derived.Below
import Derived.Deep.QuietTactic
import Derived.BigQuiet
import Derived.Deep.RegionHeld3
import Derived.Test.YbulkczmqRound
namespace Go.Proofs.Ybulkczmq.lawS5047BPaced
open Go.ChangeShapes Go.WideShapes Go.ChangeAt Go.RowKit
open Go.ChangeMaps (open_string shut_string)
set_option linter.unusedVariables false

theorem own : ownKnob Yba.prog.godebug = none := by kernel_rfl
theorem laidOut : laidOutB Yba.prog = true := by kernel_rfl

/-- WHAT THE WALK IS TOLD OF A SLICE OF INTEGERS THAT CAME IN: it is nil; or it leads to a row of 'cap' cells, the numbers 'zs' (the first 'len' are its elements, the rest its spare room), each fitting its kind. -/
def IsRow (k : IntKind) (w : World) (a : Option Addr) (len cap : Nat) (zs : List Int) : Prop :=
  (a = none ∧ len = 0 ∧ cap = 0 ∧ zs = []) ∨
  ∃ x, a = some x ∧ len ≤ cap ∧ cap ≤ maxLen ∧ zs.length = cap ∧ (∀ i, i < zs.length → w.cell? (x.add i) = some (.int k (zs.getD i 0))) ∧ ∀ n ∈ zs, (Lit.int k n).wf = true


/-- What is told of a slice of whole numbers that came in: where its elements lie. -/
def At (k : IntKind) (w : World) (a : Option Addr) (n : Nat) (Z : List Int) : Prop :=
  Z.length = n ∧ ∀ j, j < n → ∃ b off, a = some ⟨b, off, none⟩ ∧ b < w.heap.size ∧ w.cell? ⟨b, off + j, none⟩ = some (.int k (nth Z j))

theorem at_of_row {k : IntKind} {w : World} {a : Option Addr} {n cap : Nat} {z : List Int} (h : IsRow k w a n cap z) : At k w a n (z.take n) := by
  rcases h with ⟨_, rfl, _, rfl⟩ | ⟨x, rfl, hlc, _, hz, hc, _⟩
  · exact ⟨rfl, fun j hj => by omega⟩
  · refine ⟨by simp; omega, fun j hj => ?_⟩
    obtain ⟨b, off, rfl, hc2⟩ := ints_at hc (by omega)
    have hcj := hc2 j (by omega)
    have e : nth (z.take n) j = z.getD j 0 := by simp [nth, hj]
    exact ⟨b, off, rfl, World.block_lt_of_cell? w _ hcj, by rw [e]; exact hcj⟩

theorem starts_any (a0 : Option Addr) (n cap0 : Nat) (Z : List Int) (w : World) (hl : n ≤ 1024) (h : At .i64 w a0 n Z) :
    Calls Yba.prog 11 #[.slice a0 n cap0] w fun e w' => e = .returned (.slice (some ⟨w.heap.size, 0, none⟩) (n + 1) (n + 1)) ∧ St 38 w.heap.size (n + 1) w (Z ++ [0]) w' := by
  by_cases h0 : n = 0
  · subst h0
    have e : Z = [] := List.eq_nil_of_length_eq_zero h.1
    subst e
    exact starts_zero a0 cap0 w
  · obtain ⟨b, off, rfl, hb, _⟩ := h.2 0 (by omega)
    refine starts_pos b off n cap0 Z w hl h.1 hb (fun j hj => ?_)
    obtain ⟨b', off', he, _, hc⟩ := h.2 j hj
    simp at he
    obtain ⟨rfl, rfl⟩ := he
    exact hc

/-- The quarters of pace number t. -/
def K (m : Nat) (P : List Int) (t : Nat) : Nat := if m = 0 then 4 else (nth P (t % m)).toNat % 16

theorem K_lt (m : Nat) (P : List Int) (t : Nat) : K m P t < 16 := by
  unfold K; split
  · omega
  · exact Nat.mod_lt _ (by omega)

theorem div_pace (k : Nat) (hk : k < 16) : floatBits .quo .f64 (floatOfInt .f64 (k : Int)) 4616189618054758400 = some (Fl.pace k) := by
  have e : floatOfInt .f64 (k : Int) = Ieee.double.nearest false k 0 := by
    show Ieee.double.nearest (decide ((k : Int) < 0)) (k : Int).natAbs 0 = _
    have h1 : decide ((k : Int) < 0) = false := decide_eq_false (by omega)
    rw [h1, Int.natAbs_natCast]
  rw [e]
  exact Fl.pace_div k hk

theorem neq_pace (k : Nat) (hk : k < 16) : (FloatKind.f64.format.order (Fl.pace k) (Fl.pace k) != some .eq) = false := by
  have : FloatKind.f64.format.order (Fl.pace k) (Fl.pace k) = some .eq := Fl.pace_order k hk
  rw [this]; rfl

/-- What the law's own memory holds when j paces are laid. -/
structure CF (B Gp Gq N m : Nat) (P S : List Int) (w : World) (j : Nat) (wr : World) : Prop where
  cs : ∀ t, t < N → wr.cell? ⟨B, t, none⟩ = some (.int .i64 (nth S t))
  cq : ∀ t, t < N → wr.cell? ⟨Gq, t, none⟩ = some (.int .i64 (if t < j then (K m P t : Int) else 0))
  cp : ∀ t, t < N → wr.cell? ⟨Gp, t, none⟩ = some (.float .f64 (if t < j then Fl.pace (K m P t) else 0))
  fq : ∀ t, wr.frozen? ⟨Gq, t, none⟩ = false
  fp : ∀ t, wr.frozen? ⟨Gp, t, none⟩ = false
  bel : Below B w wr
  size : Gq < wr.heap.size

theorem CF.step {B Gp Gq N m : Nat} {P S : List Int} {w wr : World} {j : Nat} (h : CF B Gp Gq N m P S w j wr) (h1 : B < Gp) (h2 : Gp < Gq) (hj : j < N) :
    CF B Gp Gq N m P S w (j + 1) ((wr.setCell ⟨Gq, j, none⟩ (.int .i64 (K m P j))).setCell ⟨Gp, j, none⟩ (.float .f64 (Fl.pace (K m P j)))) := by
  have o1 : ∀ b t, b ≠ Gp → b ≠ Gq → ((wr.setCell ⟨Gq, j, none⟩ (.int .i64 (K m P j))).setCell ⟨Gp, j, none⟩ (.float .f64 (Fl.pace (K m P j)))).cell? ⟨b, t, none⟩ = wr.cell? ⟨b, t, none⟩ := by
    intro b t n1 n2
    rw [World.cell?_setCell_other _ _ _ _ (by simp <;> omega), World.cell?_setCell_other _ _ _ _ (by simp <;> omega)]
  refine ⟨?_, ?_, ?_, ?_, ?_, (h.bel.setCell (by simp; omega) _).setCell (by simp; omega) _, by simp; exact h.size⟩
  · intro t ht; rw [o1 B t (by omega) (by omega)]; exact h.cs t ht
  · intro t ht
    rw [World.cell?_setCell_other _ _ _ _ (by simp <;> omega)]
    by_cases e : t = j
    · subst e
      rw [World.cell?_setCell_same _ _ _ (h.cq t ht), if_pos (by omega)]
    · rw [World.cell?_setCell_other _ _ _ _ (by simp <;> omega), h.cq t ht]
      by_cases e2 : t < j
      · rw [if_pos e2, if_pos (by omega)]
      · rw [if_neg e2, if_neg (by omega)]
  · intro t ht
    have hc : (wr.setCell ⟨Gq, j, none⟩ (.int .i64 (K m P j))).cell? ⟨Gp, t, none⟩ = wr.cell? ⟨Gp, t, none⟩ := World.cell?_setCell_other _ _ _ _ (by simp <;> omega)
    by_cases e : t = j
    · subst e
      rw [World.cell?_setCell_same _ _ _ (hc.trans (h.cp t ht)), if_pos (by omega)]
    · rw [World.cell?_setCell_other _ _ _ _ (by simp <;> omega), hc, h.cp t ht]
      by_cases e2 : t < j
      · rw [if_pos e2, if_pos (by omega)]
      · rw [if_neg e2, if_neg (by omega)]
  · intro t; simp [h.fq t]
  · intro t; simp [h.fp t]

theorem run_store_float {P : Program} {w : World} {a : Addr} {m : Mode} (k : FloatKind) (b : Nat) : (store a (.float k b) m).run P w = stored P w a (.float k b) m := run_store P w a _ m rfl
attribute [local go_sem] run_store_float

theorem Yba.info64 : (Yba.prog.info? 64).map (fun i => (i.zero, i.size, i.bytes)) = some (some (.float .f64 0), 1, 8) := by kernel_rfl
theorem Yba.info2 : (Yba.prog.info? 2).map (fun i => (i.zero, i.size, i.bytes)) = some (some (.int .i64 0), 1, 8) := by kernel_rfl

theorem CF_start {n m : Nat} {Z P : List Int} {w w1 w2 w3 : World} (hst : St 38 w.heap.size (n + 1) w (Z ++ [0]) w1)
    (hp : w2.ownsRow w1.heap.size 64 1 (.slice (some ⟨w1.heap.size, 0, none⟩) (n + 1) (n + 1)) (n + 1) (madeCells (Value.float .f64 0).cells ((n + 1) * 1)).toList) (hg2 : w1.grownBy w2 none)
    (hq : w3.ownsRow w2.heap.size 2 1 (.slice (some ⟨w2.heap.size, 0, none⟩) (n + 1) (n + 1)) (n + 1) (madeCells (Value.int .i64 0).cells ((n + 1) * 1)).toList) (hg3 : w2.grownBy w3 none) :
    w.heap.size < w1.heap.size ∧ w1.heap.size < w2.heap.size ∧ CF w.heap.size w1.heap.size w2.heap.size (n + 1) m P (Z ++ [0]) w 0 w3 := by
  have b1 : w.heap.size < w1.heap.size := (hst.own.lt _ rfl).2
  have b2 : w1.heap.size < w2.heap.size := (hp.lt _ rfl).2
  have b3 : w2.heap.size < w3.heap.size := (hq.lt _ rfl).2
  have keep : ∀ (a b : World), a.grownBy b none → ∀ k t, k < a.heap.size → b.cell? ⟨k, t, none⟩ = a.cell? ⟨k, t, none⟩ := fun a b h k t hk => World.cell?_of_block (w := a) (h.block k hk (by simp))
  have keepf : ∀ (a b : World), a.grownBy b none → ∀ k t, k < a.heap.size → b.frozen? ⟨k, t, none⟩ = a.frozen? ⟨k, t, none⟩ := fun a b h k t hk => World.frozen?_of_block (w := a) (h.block k hk (by simp))
  refine ⟨b1, b2, ?_, ?_, ?_, ?_, ?_, ?_, b3⟩
  · intro t ht
    rw [keep w2 w3 hg3 _ _ (by omega), keep w1 w2 hg2 _ _ b1]; exact hst.cell t ht
  · intro t ht
    rw [hq.cellAt t (by omega), if_neg (by omega), Nat.mul_one]
    show (madeCells #[Value.int .i64 0] (n + 1)).toList[t]? = _
    rw [toList_madeCells_one]
    simp [ht]
  · intro t ht
    rw [keep w2 w3 hg3 _ _ b2, hp.cellAt t (by omega), if_neg (by omega), Nat.mul_one]
    show (madeCells #[Value.float .f64 0] (n + 1)).toList[t]? = _
    rw [toList_madeCells_one]
    simp [ht]
  · intro t; exact hq.frozenAt t
  · intro t; rw [keepf w2 w3 hg3 _ _ b2]; exact hp.frozenAt t
  · exact (hst.bel.grown hg2 (by omega) (fun k hk => by cases hk)).grown hg3 (by omega) (fun k hk => by cases hk)

theorem walk_big (a0 a1 : Option Addr) (n cap0 m cap1 : Nat) (s d : Int) (w : World) (hn : n ≤ maxLen) (hm : m ≤ maxLen) (hbig : 1024 < n ∨ 1024 < m) :
    Calls Yba.prog 6 #[.slice a0 n cap0, .slice a1 m cap1, .int .u8 s, .int .i32 d] w fun e w' => e = .returned (.bool true) ∧ Below w.heap.size w w' := by
  unfold maxLen at hn hm
  by_cases h1 : 1024 < n
  · have hb : (1024 : Int) < (n : Int) := by omega
    go_enter Yba.func6, Yba.ntmps6
    go_wp2
    go_ret
    exact ⟨rfl, Below.refl _ _⟩
  · have hb : decide ((1024 : Int) < (n : Int)) = false := decide_eq_false (by omega)
    have hb2 : (1024 : Int) < (m : Int) := by omega
    go_enter Yba.func6, Yba.ntmps6
    go_wp2
    go_ret
    exact ⟨rfl, Below.refl _ _⟩

/-- The law's memory once the run lies in block R. -/
structure CW (Gp Gq R n m : Nat) (P S : List Int) (w W : World) : Prop where
  cs : ∀ t, t < n + 1 → W.cell? ⟨w.heap.size, t, none⟩ = some (.int .i64 (nth S t))
  cq : ∀ t, t < n + 1 → W.cell? ⟨Gq, t, none⟩ = some (.int .i64 (K m P t))
  cp : ∀ t, t < n + 1 → W.cell? ⟨Gp, t, none⟩ = some (.float .f64 (Fl.pace (K m P t)))
  h5 : W.cell? ⟨R, 5, none⟩ = some (.slice (some ⟨Gp, 0, none⟩) (n + 1) (n + 1))
  h6 : W.cell? ⟨R, 6, none⟩ = some (.slice (some ⟨w.heap.size, 0, none⟩) (n + 1) (n + 1))
  bel : Below w.heap.size w W

theorem CW.drewN {Gp Gq R n m : Nat} {P S : List Int} {w W : World} (h : CW Gp Gq R n m P S w W) (q : Nat) : CW Gp Gq R n m P S w (W.drewN q) :=
  ⟨h.cs, h.cq, h.cp, h.h5, h.h6, ⟨h.bel.os, h.bel.tape, h.bel.output, h.bel.size, h.bel.block⟩⟩

theorem CW_of {Gp Gq n m : Nat} {P S : List Int} {w wr : World} (h : CF w.heap.size Gp Gq (n + 1) m P S w (n + 1) wr) (h1 : w.heap.size < Gp) (h2 : Gp < Gq) :
    CW Gp Gq wr.heap.size n m P S w (wr.alloc (Obj.cells #[Value.pointer none, Value.int IntKind.i64 0, Value.pointer none, Value.int IntKind.i64 0, Value.slice none 0 0, Value.slice (some { block := Gp, off := 0 }) (n + 1) (n + 1), Value.slice (some { block := w.heap.size, off := 0 }) (n + 1) (n + 1), Value.slice none 0 0, Value.int IntKind.i64 0, Value.int IntKind.i64 0, Value.slice none 0 0] 59)) := by
  have hsz := h.size
  refine ⟨?_, ?_, ?_, ?_, ?_, h.bel.alloc (by omega) _⟩
  · intro t ht; rw [World.cell?_alloc_past _ _ _ (by omega)]; exact h.cs t ht
  · intro t ht; rw [World.cell?_alloc_past _ _ _ (by omega), h.cq t ht, if_pos ht]
  · intro t ht; rw [World.cell?_alloc_past _ _ _ (by omega), h.cp t ht, if_pos ht]
  · rw [World.cell?_alloc_at _ _ _ _ rfl]; rfl
  · rw [World.cell?_alloc_at _ _ _ _ rfl]; rfl

theorem u64_wrap (x : Int) : IntKind.u64.wrap x = x % 18446744073709551616 := by
  simp [IntKind.wrap, IntKind.signed, IntKind.bits]

theorem back (x d : Int) (hd1 : -2147483648 ≤ d) (hd2 : d ≤ 2147483647) : wrap64 (wrap64 (IntKind.u64.wrap (IntKind.u64.wrap x + IntKind.u64.wrap d)) - x) = d := by
  rw [u64_wrap, u64_wrap, u64_wrap]
  unfold wrap64
  omega

theorem tdiv4 (p : Int) (h1 : -32212254720 ≤ p) (h2 : p ≤ 32212254720) : -32212254720 ≤ p.tdiv 4 ∧ p.tdiv 4 ≤ 32212254720 := by
  have e := Int.mul_tdiv_add_tmod p 4
  have h3 := Int.tmod_lt_of_pos p (show (0 : Int) < 4 by omega)
  have h4 := Int.lt_tmod_of_pos p (show (0 : Int) < 4 by omega)
  omega

theorem quart_eq (d : Int) (k : Nat) : quart d k = if 2 ≤ (d * k).tmod 4 then (d * k).tdiv 4 + 1 else if (d * k).tmod 4 ≤ -2 then (d * k).tdiv 4 - 1 else (d * k).tdiv 4 := by
  unfold quart
  by_cases h : d < 0
  · obtain ⟨a, ha⟩ : ∃ a : Nat, d = -(a : Int) := ⟨d.natAbs, by omega⟩
    have hna : d.natAbs = a := by omega
    rw [if_pos (by simpa using h), hna, ha]
    have e : -(a : Int) * (k : Int) = -((a * k : Nat) : Int) := by rw [Int.neg_mul, Int.natCast_mul]
    rw [e, Int.neg_tdiv, Int.neg_tmod]
    generalize a * k = M
    rw [Int.tdiv_eq_ediv_of_nonneg (by omega), Int.tmod_eq_emod_of_nonneg (by omega)]
    split
    · omega
    · split <;> omega
  · obtain ⟨a, ha⟩ := Int.eq_ofNat_of_zero_le (show 0 ≤ d by omega)
    have hna : d.natAbs = a := by omega
    rw [if_neg (by simpa using h), hna, ha, ← Int.natCast_mul]
    generalize a * k = M
    rw [Int.tdiv_eq_ediv_of_nonneg (by omega), Int.tmod_eq_emod_of_nonneg (by omega)]
    split
    · omega
    · split <;> omega

set_option maxRecDepth 100000 in
set_option maxHeartbeats 2000000 in
theorem walk_main (a0 a1 : Option Addr) (n cap0 m cap1 : Nat) (Z P : List Int) (sel : Nat) (d : Int) (w : World) (hl : n ≤ 1024) (hm : m ≤ 1024) (h0 : At .i64 w a0 n Z) (h1 : At .u8 w a1 m P)
    (hP : ∀ t, 0 ≤ nth P t ∧ nth P t ≤ 255) (hs : sel ≤ 255) (hd1 : -2147483648 ≤ d) (hd2 : d ≤ 2147483647) :
    Calls Yba.prog 6 #[.slice a0 n cap0, .slice a1 m cap1, .int .u8 sel, .int .i32 d] w fun e w' => e = .returned (.bool true) ∧ Below w.heap.size w w' := by
  have hb1 : decide ((1024 : Int) < (n : Int)) = false := decide_eq_false (by omega)
  have hb2 : decide ((1024 : Int) < (m : Int)) = false := decide_eq_false (by omega)
  obtain ⟨i0, hi, hz0, hz1, hz2⟩ := info_parts Yba.info64
  obtain ⟨j0, hj, hy0, hy1, hy2⟩ := info_parts Yba.info2
  have H0 : Hid (At .i64 w a0 n Z) := h0
  have H1 : Hid (At .u8 w a1 m P) := h1
  have HP : Hid (∀ t, 0 ≤ nth P t ∧ nth P t ≤ 255) := hP
  clear h0 h1 hP
  go_enter Yba.func6, Yba.ntmps6
  go_wp2_with fail
  refine (starts_any a0 n cap0 Z w hl H0.out).mono ?_
  rintro e w1 ⟨rfl, hst⟩
  go_wp2_with (first | (at_make; refine wpList_make_full _ rfl (.tmp 35) (.tmp 35) 54 rfl w1.heap.size 64 i0 (.float .f64 0) 1 Yba.underlying54 hi hz0 hz1 _ _ _ _ (n + 1) rfl rfl (by omega) (by omega) (by rw [hz2]; omega) (by unfold maxLen; omega) (by omega) ?_; intro w2 hp2 hg2) | (at_make; refine wpList_make_full _ rfl (.tmp 38) (.tmp 38) 27 rfl w2.heap.size 2 j0 (.int .i64 0) 1 Yba.underlying27 hj hy0 hy1 _ _ _ _ (n + 1) rfl rfl (by omega) (by omega) (by rw [hy2]; omega) (by unfold maxLen; omega) (by omega) ?_; intro w3 hp3 hg3))
  obtain ⟨hB1, hB2, hcf⟩ := CF_start (m := m) (P := P) hst hp2 hg2 hp3 hg3
  generalize w1.heap.size = Gp at hB1 hB2 hcf ⊢
  generalize w2.heap.size = Gq at hB2 hcf ⊢
  clear hst hp2 hg2 hp3 hg3 hi hz0 hz1 hz2 hj hy0 hy1 hy2
  go_loopg [42] (n + 1) (fun k i wr => ∃ j : Nat, i = .int .i64 j ∧ j + k = n + 1 ∧ CF w.heap.size Gp Gq (n + 1) m P (Z ++ [0]) w j wr)
  case atStart => exact ⟨0, rfl, by omega, hcf⟩
  case round =>
    clear hcf
    obtain ⟨j, rfl, hjk, hcf⟩ := hrel
    by_cases hlt : j < n + 1
    · have hltI : (j : Int) < (n : Int) + 1 := by omega
      obtain ⟨k, hk⟩ : ∃ k, K m P j = k := ⟨_, rfl⟩
      have Hk : Hid (K m P j = k) := hk
      have hk16 : k < 16 := by rw [← hk]; exact K_lt m P j
      have hdiv := fun w : World => run_float_arith (P := Yba.prog) w .quo 64 .f64 (floatOfInt .f64 (k : Int)) 4616189618054758400 _ (div_pace k hk16)
      have cq := hcf.cq j hlt
      have cp := hcf.cp j hlt
      have fq := hcf.fq j
      have fp := hcf.fp j
      have hne : ¬ Gq = Gp := by omega
      rw [if_neg (by omega)] at cq cp
      obtain ⟨pk, hpk⟩ : ∃ pk, Fl.pace k = pk := ⟨_, rfl⟩
      rw [hpk] at hdiv
      have Hpk : Hid (Fl.pace k = pk) := hpk
      by_cases hm0 : m = 0
      · have hk4 : k = 4 := by rw [← hk, K, if_pos hm0]
        have hm0I : ¬ (0 : Int) < (m : Int) := by omega
        subst hk4
        clear hk hpk hm0
        rw [show ((4 : Nat) : Int) = 4 from rfl] at hdiv
        go_wp2_with fail
        go_roundg (n + 1 - (j + 1))
        case measure => omega
        case rel => exact ⟨j + 1, by go_num, by omega, by have := hcf.step hB1 hB2 (by omega); rw [Hk.out, Hpk.out] at this; exact this⟩
      · have hm0I : (0 : Int) < (m : Int) := by omega
        obtain ⟨jm, hjm⟩ : ∃ jm, jm = j % m := ⟨_, rfl⟩
        have hjml : jm < m := by rw [hjm]; exact Nat.mod_lt _ (by omega)
        have hjmI : (j : Int) % (m : Int) = (jm : Int) := by rw [hjm]; push_cast; rfl
        have hjmL : (jm : Int) < (m : Int) := by omega
        obtain ⟨b1, off1, ha1, hb1', hc1⟩ := H1.out.2 jm hjml
        subst ha1
        have hv := HP.out jm
        obtain ⟨v, hv'⟩ := Int.eq_ofNat_of_zero_le hv.1
        rw [hv'] at hv hc1
        have hkv : (v : Int) % 16 = (k : Int) := by
          rw [← hk, K, if_neg hm0, ← hjm, hv', Int.toNat_natCast]; omega
        have cv : wr.cell? ⟨b1, off1 + jm, none⟩ = some (.int .u8 v) := by rw [hcf.bel.cell (by exact hb1')]; exact hc1
        have hv2 : (v : Int) ≤ 255 := hv.2
        clear hk hpk hm0 hjm hc1 hv' hv hb1'
        go_wp2_with fail
        go_roundg (n + 1 - (j + 1))
        case measure => omega
        case rel => exact ⟨j + 1, by go_num, by omega, by have := hcf.step hB1 hB2 (by omega); rw [Hk.out, Hpk.out] at this; exact this⟩
    · have hjn : j = n + 1 := by omega
      subst hjn
      have hnI : ¬ ((n + 1 : Nat) : Int) < (n : Int) + 1 := by omega
      obtain ⟨node, hnode⟩ : ∃ k, k = sel % (n + 1) := ⟨_, rfl⟩
      have hnl : node < n + 1 := by rw [hnode]; exact Nat.mod_lt _ (by omega)
      have hnodeI : (sel : Int) % ((n : Int) + 1) = (node : Int) := by rw [hnode]; push_cast; rfl
      have hnlI : (node : Int) < (n : Int) + 1 := by omega
      clear hnode
      obtain ⟨x, hx⟩ : ∃ x, x = nth (Z ++ [0]) node := ⟨_, rfl⟩
      have cx := hcf.cs node hnl
      rw [← hx] at cx
      clear hx
      have hback := back x d hd1 hd2
      obtain ⟨rd, hrd⟩ : ∃ rd, wrap64 (IntKind.u64.wrap (IntKind.u64.wrap x + IntKind.u64.wrap d)) = rd := ⟨_, rfl⟩
      rw [hrd] at hback
      have Hback : Hid (wrap64 (rd - x) = d) := hback
      clear hback
      have hsz : Gq < wr.heap.size := hcf.size
      go_upto_region 18 with fail
      have hcw := CW_of hcf hB1 hB2
      have cx' : (wr.alloc (Obj.cells #[Value.pointer none, Value.int IntKind.i64 0, Value.pointer none, Value.int IntKind.i64 0, Value.slice none 0 0, Value.slice (some { block := Gp, off := 0 }) (n + 1) (n + 1), Value.slice (some { block := w.heap.size, off := 0 }) (n + 1) (n + 1), Value.slice none 0 0, Value.int IntKind.i64 0, Value.int IntKind.i64 0, Value.slice none 0 0] 59)).cell? ⟨w.heap.size, node, none⟩ = some (.int .i64 x) := by
        rw [World.cell?_alloc_past _ _ _ (by omega)]; exact cx
      generalize (wr.alloc (Obj.cells #[Value.pointer none, Value.int IntKind.i64 0, Value.pointer none, Value.int IntKind.i64 0, Value.slice none 0 0, Value.slice (some { block := Gp, off := 0 }) (n + 1) (n + 1), Value.slice (some { block := w.heap.size, off := 0 }) (n + 1) (n + 1), Value.slice none 0 0, Value.int IntKind.i64 0, Value.int IntKind.i64 0, Value.slice none 0 0] 59)) = W at hcw cx' ⊢
      generalize wr.heap.size = R at hcw hsz ⊢
      clear hcf cx wr
      obtain ⟨k, hk⟩ : ∃ k, K m P node = k := ⟨_, rfl⟩
      have hk16 : k < 16 := by rw [← hk]; exact K_lt m P node
      have cqn := hcw.cq node hnl
      have cpn := hcw.cp node hnl
      rw [hk] at cqn cpn
      clear hk
      have h5 := hcw.h5
      have h6 := hcw.h6
      have hqe := quart_eq d k
      have hpr1 : -32212254720 ≤ d * (k : Int) := by
        have : (-2147483648 : Int) * 15 ≤ d * (k : Int) := by
          by_cases hneg : 0 ≤ d
          · have := Int.mul_nonneg hneg (Int.natCast_nonneg k); omega
          · have h1 : (-2147483648) * (k : Int) ≤ d * (k : Int) := Int.mul_le_mul_of_nonneg_right hd1 (Int.natCast_nonneg k)
            omega
        omega
      have hpr2 : d * (k : Int) ≤ 32212254720 := by
        by_cases hneg : 0 ≤ d
        · have h1 : d * (k : Int) ≤ 2147483648 * (k : Int) := Int.mul_le_mul_of_nonneg_right (by omega) (Int.natCast_nonneg k)
          omega
        · have h1 : d * (k : Int) ≤ 0 := Int.mul_nonpos_of_nonpos_of_nonneg (by omega) (Int.natCast_nonneg k)
          omega
      obtain ⟨qd, hqd⟩ : ∃ qd, qd = quart d k := ⟨_, rfl⟩
      rw [← hqd] at hqe
      have Hqd : Hid (qd = quart d k) := hqd
      clear hqd
      obtain ⟨pr, hpr⟩ : ∃ pr, d * (k : Int) = pr := ⟨_, rfl⟩
      rw [hpr] at hqe hpr1 hpr2
      obtain ⟨aq, haq⟩ : ∃ aq, pr.tdiv 4 = aq := ⟨_, rfl⟩
      obtain ⟨ar, har⟩ : ∃ ar, pr.tmod 4 = ar := ⟨_, rfl⟩
      rw [haq, har] at hqe
      have haq1 : -32212254720 ≤ aq ∧ aq ≤ 32212254720 := by rw [← haq]; exact tdiv4 pr hpr1 hpr2
      go_wp2_with fail
      refine (realTime_paced R w.heap.size Gp (n + 1) (n + 1) (n + 1) node k rd x d W hnl h6 h5 cx' cpn Hback.out (by omega) hk16).mono ?_
      rintro e W2 ⟨rfl, rfl⟩
      rw [← Hqd.out]
      by_cases c1 : 2 ≤ ar
      · rw [if_pos c1] at hqe
        subst hqe
        go_wp2_with fail
        clear h5 h6 cx' cpn cqn haq1 hpr1 hpr2
        go_loopg [115] (n + 1) (fun c i wy => ∃ t : Nat, i = .int .i64 t ∧ t + c = n + 1 ∧ CW Gp Gq R n m P (Z ++ [0]) w wy)
        case atStart => exact ⟨0, rfl, by omega, hcw⟩
        case round =>
          clear hcw
          obtain ⟨t, rfl, htk, hcw⟩ := hrel
          by_cases hlt2 : t < n + 1
          · have hltI2 : (t : Int) < (n : Int) + 1 := by omega
            obtain ⟨kt, hkt⟩ : ∃ kt, K m P t = kt := ⟨_, rfl⟩
            have hkt16 : kt < 16 := by rw [← hkt]; exact K_lt m P t
            have hdiv := fun w : World => run_float_arith (P := Yba.prog) w .quo 64 .f64 (floatOfInt .f64 (kt : Int)) 4616189618054758400 _ (div_pace kt hkt16)
            have hneq := neq_pace kt hkt16
            have cq := hcw.cq t hlt2
            have cp := hcw.cp t hlt2
            have h5 := hcw.h5
            rw [hkt] at cq cp
            obtain ⟨pk, hpk⟩ : ∃ pk, Fl.pace kt = pk := ⟨_, rfl⟩
            rw [hpk] at hdiv hneq cp
            clear hkt hpk hkt16
            go_wp2_with fail
            go_quiet (fail)
            go_wp2_with fail
            go_roundg (n + 1 - (t + 1))
            case measure => omega
            case rel => exact ⟨t + 1, by go_num, by omega, hcw.drewN _⟩
          · have hltI2 : ¬ (t : Int) < (n : Int) + 1 := by omega
            go_wp2_with fail
            go_loopg [135] n (fun c i wy => ∃ s : Nat, i = .int .i64 s ∧ s + c = n ∧ CW Gp Gq R n m P (Z ++ [0]) w wy)
            case atStart => exact ⟨0, rfl, by omega, hcw⟩
            case round =>
              clear hcw
              obtain ⟨s, rfl, hsk, hcw⟩ := hrel
              by_cases hlt3 : s < n
              · have hltI3 : (s : Int) < (n : Int) := by omega
                have hltI4 : (s : Int) < (n : Int) + 1 := by omega
                have c1s := hcw.cs s (by omega)
                have h6 := hcw.h6
                obtain ⟨b0, off0, ha0, hb0, hc0⟩ := H0.out.2 s hlt3
                subst ha0
                have e : nth (Z ++ [0]) s = nth Z s := by have hz := H0.out.1; simp [nth, List.getElem?_append, show s < Z.length by omega]
                rw [e] at c1s
                have c2s := (hcw.bel.cell (p := ⟨b0, off0 + s, none⟩) hb0).trans hc0
                obtain ⟨y, hy⟩ : ∃ y, y = nth Z s := ⟨_, rfl⟩
                rw [← hy] at c1s c2s
                clear hy e hc0 hb0
                go_wp2_with fail
                go_roundg (n - (s + 1))
                case measure => omega
                case rel => exact ⟨s + 1, by go_num, by omega, hcw⟩
              · have hltI3 : ¬ (s : Int) < (n : Int) := by omega
                go_wp2_with fail
                go_ret
                exact ⟨rfl, hcw.bel⟩
      · rw [if_neg c1] at hqe
        by_cases c2 : ar ≤ -2
        · rw [if_pos c2] at hqe
          subst hqe
          go_wp2_with fail
          clear h5 h6 cx' cpn cqn haq1 hpr1 hpr2
          go_loopg [115] (n + 1) (fun c i wy => ∃ t : Nat, i = .int .i64 t ∧ t + c = n + 1 ∧ CW Gp Gq R n m P (Z ++ [0]) w wy)
          case atStart => exact ⟨0, rfl, by omega, hcw⟩
          case round =>
            clear hcw
            obtain ⟨t, rfl, htk, hcw⟩ := hrel
            by_cases hlt2 : t < n + 1
            · have hltI2 : (t : Int) < (n : Int) + 1 := by omega
              obtain ⟨kt, hkt⟩ : ∃ kt, K m P t = kt := ⟨_, rfl⟩
              have hkt16 : kt < 16 := by rw [← hkt]; exact K_lt m P t
              have hdiv := fun w : World => run_float_arith (P := Yba.prog) w .quo 64 .f64 (floatOfInt .f64 (kt : Int)) 4616189618054758400 _ (div_pace kt hkt16)
              have hneq := neq_pace kt hkt16
              have cq := hcw.cq t hlt2
              have cp := hcw.cp t hlt2
              have h5 := hcw.h5
              rw [hkt] at cq cp
              obtain ⟨pk, hpk⟩ : ∃ pk, Fl.pace kt = pk := ⟨_, rfl⟩
              rw [hpk] at hdiv hneq cp
              clear hkt hpk hkt16
              go_wp2_with fail
              go_quiet (fail)
              go_wp2_with fail
              go_roundg (n + 1 - (t + 1))
              case measure => omega
              case rel => exact ⟨t + 1, by go_num, by omega, hcw.drewN _⟩
            · have hltI2 : ¬ (t : Int) < (n : Int) + 1 := by omega
              go_wp2_with fail
              go_loopg [135] n (fun c i wy => ∃ s : Nat, i = .int .i64 s ∧ s + c = n ∧ CW Gp Gq R n m P (Z ++ [0]) w wy)
              case atStart => exact ⟨0, rfl, by omega, hcw⟩
              case round =>
                clear hcw
                obtain ⟨s, rfl, hsk, hcw⟩ := hrel
                by_cases hlt3 : s < n
                · have hltI3 : (s : Int) < (n : Int) := by omega
                  have hltI4 : (s : Int) < (n : Int) + 1 := by omega
                  have c1s := hcw.cs s (by omega)
                  have h6 := hcw.h6
                  obtain ⟨b0, off0, ha0, hb0, hc0⟩ := H0.out.2 s hlt3
                  subst ha0
                  have e : nth (Z ++ [0]) s = nth Z s := by have hz := H0.out.1; simp [nth, List.getElem?_append, show s < Z.length by omega]
                  rw [e] at c1s
                  have c2s := (hcw.bel.cell (p := ⟨b0, off0 + s, none⟩) hb0).trans hc0
                  obtain ⟨y, hy⟩ : ∃ y, y = nth Z s := ⟨_, rfl⟩
                  rw [← hy] at c1s c2s
                  clear hy e hc0 hb0
                  go_wp2_with fail
                  go_roundg (n - (s + 1))
                  case measure => omega
                  case rel => exact ⟨s + 1, by go_num, by omega, hcw⟩
                · have hltI3 : ¬ (s : Int) < (n : Int) := by omega
                  go_wp2_with fail
                  go_ret
                  exact ⟨rfl, hcw.bel⟩
        · rw [if_neg c2] at hqe
          subst hqe
          go_wp2_with fail
          clear h5 h6 cx' cpn cqn haq1 hpr1 hpr2
          go_loopg [115] (n + 1) (fun c i wy => ∃ t : Nat, i = .int .i64 t ∧ t + c = n + 1 ∧ CW Gp Gq R n m P (Z ++ [0]) w wy)
          case atStart => exact ⟨0, rfl, by omega, hcw⟩
          case round =>
            clear hcw
            obtain ⟨t, rfl, htk, hcw⟩ := hrel
            by_cases hlt2 : t < n + 1
            · have hltI2 : (t : Int) < (n : Int) + 1 := by omega
              obtain ⟨kt, hkt⟩ : ∃ kt, K m P t = kt := ⟨_, rfl⟩
              have hkt16 : kt < 16 := by rw [← hkt]; exact K_lt m P t
              have hdiv := fun w : World => run_float_arith (P := Yba.prog) w .quo 64 .f64 (floatOfInt .f64 (kt : Int)) 4616189618054758400 _ (div_pace kt hkt16)
              have hneq := neq_pace kt hkt16
              have cq := hcw.cq t hlt2
              have cp := hcw.cp t hlt2
              have h5 := hcw.h5
              rw [hkt] at cq cp
              obtain ⟨pk, hpk⟩ : ∃ pk, Fl.pace kt = pk := ⟨_, rfl⟩
              rw [hpk] at hdiv hneq cp
              clear hkt hpk hkt16
              go_wp2_with fail
              go_quiet (fail)
              go_wp2_with fail
              go_roundg (n + 1 - (t + 1))
              case measure => omega
              case rel => exact ⟨t + 1, by go_num, by omega, hcw.drewN _⟩
            · have hltI2 : ¬ (t : Int) < (n : Int) + 1 := by omega
              go_wp2_with fail
              go_loopg [135] n (fun c i wy => ∃ s : Nat, i = .int .i64 s ∧ s + c = n ∧ CW Gp Gq R n m P (Z ++ [0]) w wy)
              case atStart => exact ⟨0, rfl, by omega, hcw⟩
              case round =>
                clear hcw
                obtain ⟨s, rfl, hsk, hcw⟩ := hrel
                by_cases hlt3 : s < n
                · have hltI3 : (s : Int) < (n : Int) := by omega
                  have hltI4 : (s : Int) < (n : Int) + 1 := by omega
                  have c1s := hcw.cs s (by omega)
                  have h6 := hcw.h6
                  obtain ⟨b0, off0, ha0, hb0, hc0⟩ := H0.out.2 s hlt3
                  subst ha0
                  have e : nth (Z ++ [0]) s = nth Z s := by have hz := H0.out.1; simp [nth, List.getElem?_append, show s < Z.length by omega]
                  rw [e] at c1s
                  have c2s := (hcw.bel.cell (p := ⟨b0, off0 + s, none⟩) hb0).trans hc0
                  obtain ⟨y, hy⟩ : ∃ y, y = nth Z s := ⟨_, rfl⟩
                  rw [← hy] at c1s c2s
                  clear hy e hc0 hb0
                  go_wp2_with fail
                  go_roundg (n - (s + 1))
                  case measure => omega
                  case rel => exact ⟨s + 1, by go_num, by omega, hcw⟩
                · have hltI3 : ¬ (s : Int) < (n : Int) := by omega
                  go_wp2_with fail
                  go_ret
                  exact ⟨rfl, hcw.bel⟩


theorem row_len {k : IntKind} {w : World} {a : Option Addr} {n cap : Nat} {z : List Int} (h : IsRow k w a n cap z) : n ≤ maxLen := by
  rcases h with ⟨_, rfl, _, _⟩ | ⟨x, _, h1, h2, _⟩
  · exact Nat.zero_le _
  · exact Nat.le_trans h1 h2

theorem row_bytes {w : World} {a : Option Addr} {n cap : Nat} {z : List Int} (h : IsRow .u8 w a n cap z) (t : Nat) : 0 ≤ nth (z.take n) t ∧ nth (z.take n) t ≤ 255 := by
  by_cases ht : t < (z.take n).length
  · rw [nth_eq _ _ ht]
    have hmem : (z.take n)[t] ∈ z := List.mem_of_mem_take (List.getElem_mem ht)
    rcases h with ⟨_, _, _, rfl⟩ | ⟨x, _, _, _, _, _, hw⟩
    · simp at ht
    · have := bounds_u8 (hw _ hmem); omega
  · have e : nth (z.take n) t = 0 := by unfold nth; rw [List.getD_eq_getElem?_getD, List.getElem?_eq_none (by omega)]; rfl
    rw [e]; omega

theorem walk (a0 : Option Addr) (len0 cap0 : Nat) (z0 : List Int) (a1 : Option Addr) (len1 cap1 : Nat) (z1 : List Int) (a2 : Int) (a3 : Int) (w : World) (w0 : IsRow .i64 w a0 len0 cap0 z0) (w1 : IsRow .u8 w a1 len1 cap1 z1) (w2 : (Lit.int .u8 a2).wf = true) (w3 : (Lit.int .i32 a3).wf = true) :
    Calls Yba.prog 6 #[.slice a0 len0 cap0, .slice a1 len1 cap1, .int .u8 a2, .int .i32 a3] w fun e w' => e = .returned (.bool true) ∧ Below w.heap.size w w' := by
  have hb2 := bounds_u8 w2
  have hb3 := bounds_i32 w3
  obtain ⟨sel, rfl⟩ := Int.eq_ofNat_of_zero_le hb2.1
  by_cases hbig : 1024 < len0 ∨ 1024 < len1
  · exact walk_big _ _ _ _ _ _ _ _ _ (row_len w0) (row_len w1) hbig
  · exact walk_main a0 a1 len0 cap0 len1 cap1 (z0.take len0) (z1.take len1) sel a3 w (by omega) (by omega) (at_of_row w0) (at_of_row w1) (row_bytes w1) (by omega) (by omega) (by omega)

/-! ### THE ROW's STEP: WRITTEN OUT: LEAVE IT -/
set_option maxRecDepth 100000 in
theorem lifted (os : Os) (started : os.Started) (H : Type) (enc : TypeId × Value → H) :
    ReturnsInHanded {} Yba.checked os 6 .any (Rows.lawS5047BPacedSpec.pre6 enc Yba.prog Yba.f6 Rows.lawS5047BPacedRow.domain false) (Rows.lawS5047BPacedSpec.post enc Yba.prog Yba.f6 false true false false) := by
  refine returnsInHanded_of_change (C := Yba.checked) own started (by kernel_rfl) Yba.func6
    (ChangeSpec.witness6 (enc := enc) (C := Yba.checked) false ⟨#[], #[.slice none 0 0, .slice none 0 0, .int .u8 0, .int .i32 0], []⟩ 8 (by kernel_rfl) (by kernel_rfl) (by kernel_rfl) (by kernel_rfl)) ?_
  intro W base args ds gs before hval0 hW hcnd _
  have hval : ∀ (j : Nat) t v, Yba.f6.params[j]? = some t → args[j]? = some v → Value.okWide Yba.prog W .any base t v := hval0
  have hW' := hW
  obtain ⟨p, q, hA0, hV, rfl, hfz, hnd⟩ := hW
  have hA : DataW.TrodAll enc Yba.prog W 0 (fun _ => true) true Yba.f6.params.toList args.toList ds p := hA0
  rw [Yba.params6] at hA hval
  obtain ⟨v0, vs0, d0, ds0, p0, q0, hargs, rfl, rfl, h0, r0⟩ := trodAll_cons hA
  obtain ⟨v1, vs1, d1, ds1, p1, q1, rfl, rfl, rfl, h1, r1⟩ := trodAll_cons r0
  obtain ⟨v2, vs2, d2, ds2, p2, q2, rfl, rfl, rfl, h2, r2⟩ := trodAll_cons r1
  obtain ⟨v3, vs3, d3, ds3, p3, q3, rfl, rfl, rfl, h3, r3⟩ := trodAll_cons r2
  obtain ⟨rfl, rfl, rfl⟩ := trodAll_nil r3
  obtain rfl : args = #[v0, v1, v2, v3] := by cases args; simp_all
  obtain ⟨rfl, rfl⟩ := trodVars_none hV
  obtain ⟨a0, len0, cap0, rfl⟩ := okWide_slice Yba.underlying27 (hval 0 27 v0 rfl rfl)
  have k0 := h0
  have lt0 : ∀ x ∈ p0, x.block < W.heap.size := by obtain ⟨m, hm⟩ := k0; exact DataW.trod_lt m _ _ _ hm
  obtain ⟨z0, w0⟩ : ∃ zs, IsRow .i64 W a0 len0 cap0 zs := by
    obtain ⟨fuel, hf⟩ := h0
    rcases open_ints Yba.underlying27 Yba.underlying2 (by kernel_rfl) hf with ⟨hcs, _⟩ | ⟨x, l, c, zs, hcs, _, hl, hm, hz, _, hcell, hwz⟩
    · simp [Value.cells] at hcs
      obtain ⟨rfl, rfl, rfl⟩ := hcs
      exact ⟨[], .inl ⟨rfl, rfl, rfl, rfl⟩⟩
    · simp [Value.cells] at hcs
      obtain ⟨rfl, rfl, rfl⟩ := hcs
      exact ⟨zs, .inr ⟨_, rfl, hl, hm, by simpa using hz, hcell, hwz⟩⟩
  obtain ⟨a1, len1, cap1, rfl⟩ := okWide_slice Yba.underlying63 (hval 1 63 v1 rfl rfl)
  have k1 := h1
  have lt1 : ∀ x ∈ p1, x.block < W.heap.size := by obtain ⟨m, hm⟩ := k1; exact DataW.trod_lt m _ _ _ hm
  obtain ⟨z1, w1⟩ : ∃ zs, IsRow .u8 W a1 len1 cap1 zs := by
    obtain ⟨fuel, hf⟩ := h1
    rcases open_ints Yba.underlying63 Yba.underlying5 (by kernel_rfl) hf with ⟨hcs, _⟩ | ⟨x, l, c, zs, hcs, _, hl, hm, hz, _, hcell, hwz⟩
    · simp [Value.cells] at hcs
      obtain ⟨rfl, rfl, rfl⟩ := hcs
      exact ⟨[], .inl ⟨rfl, rfl, rfl, rfl⟩⟩
    · simp [Value.cells] at hcs
      obtain ⟨rfl, rfl, rfl⟩ := hcs
      exact ⟨zs, .inr ⟨_, rfl, hl, hm, by simpa using hz, hcell, hwz⟩⟩
  obtain ⟨a2, rfl, rfl, rfl, w2⟩ := open_int Yba.underlying5 (hval 2 5 v2 rfl rfl) h2
  obtain ⟨a3, rfl, rfl, rfl, w3⟩ := open_int Yba.underlying21 (hval 3 21 v3 rfl rfl) h3
  clear hA0 hval0
  refine (walk a0 len0 cap0 z0 a1 len1 cap1 z1 a2 a3 W w0 w1 w2 w3).mono fun e W' ⟨he, bel⟩ => ?_
  subst he
  exact ⟨_, rfl, _, _, _, [], _, [], hW', trodAll_mk1 (shut_bool Yba.underlying4 _), (trodAll_cons_mk (Below.trod laidOut (by kernel_rfl) (of_decide_eq_true (by kernel_rfl)) k0 bel lt0) (trodAll_cons_mk (Below.trod laidOut (by kernel_rfl) (of_decide_eq_true (by kernel_rfl)) k1 bel lt1) (trodAll_cons_mk (shut_int Yba.underlying5 w2) (trodAll_cons_mk (shut_int Yba.underlying21 w3) trodAll_mk0)))), rfl, bel.frame _, fun h => by cases h⟩

theorem over : Rows.lawS5047BPacedRow.holds Yba.pinned (OpenSpec.ofChange Rows.lawS5047BPacedSpec) :=
  OpenClaim.holds_of_wide 6 Yba.f6 rfl rfl rfl rfl rfl rfl rfl ⟨rfl, rfl, rfl, rfl, rfl⟩ rfl rfl rfl rfl rfl (by kernel_rfl) Yba.func6 (by kernel_rfl)
    (of_decide_eq_true (by kernel_rfl)) (by unfold Func.isWrapper; first | (rw [if_pos (by decide +kernel)]; kernel_rfl) | (rw [if_neg (by decide +kernel)]; exact ⟨rfl, rfl⟩))
    (fun os started H enc _ => lifted os started H enc)

/-- ████ THE STATEMENT ████ -/
theorem proved : Rows.LawS5047BPacedSaid := over
end Go.Proofs.Ybulkczmq.lawS5047BPaced
