/- The walks of pop, settle and take. -/
import Derived.Test.YbulkczkmPush
import Derived.Deep.CutBlock
namespace Go.Proofs.Ybulkczkm
open Go.RowKit

/-- What the walk of pop carries: the heap's variable, the result's block, the block of the entry taken out, the row. -/
structure PR (Bw g cap n : Nat) (sv : Value) (x0 : Int) (w : World) (Lk : List Int) (wr : World) : Prop where
  var : wr.heap[Bw]? = some (.cells #[sv] 24 (0, 0))
  res : wr.heap[w.heap.size]? = some (.cells #[.int .i64 0, .pointer none, .nilFunc, .nilFunc] 33 (0, 0))
  ent : wr.heap[w.heap.size + 2]? = some (.cells #[.int .i64 x0, .pointer none, .nilFunc, .nilFunc] 33 (0, 0))
  own : wr.ownsRow (Bw + 1) 33 4 (.slice (some ⟨g, 0, none⟩) n cap) n (ents Lk)
  bel : Below Bw w wr

theorem PR.step {Bw g cap n : Nat} {sv : Value} {x0 : Int} {w wr wr' : World} {Lk Lk' : List Int} (h : PR Bw g cap n sv x0 w Lk wr) (hg : wr.grownBy wr' (some g)) (hB : Bw < g) (hgl : g < w.heap.size)
    (hown : wr'.ownsRow (Bw + 1) 33 4 (.slice (some ⟨g, 0, none⟩) n cap) n (ents Lk')) : PR Bw g cap n sv x0 w Lk' wr' := by
  refine ⟨?_, ?_, ?_, hown, ?_⟩
  · rw [hg.block Bw (lt_of_block h.var) (by simp; omega)]; exact h.var
  · rw [hg.block _ (lt_of_block h.res) (by simp; omega)]; exact h.res
  · rw [hg.block _ (lt_of_block h.ent) (by simp; omega)]; exact h.ent
  · exact h.bel.grown hg (Nat.le_of_lt (lt_of_block h.var)) (by intro k hk; simp at hk; omega)

theorem PR.alloc {Bw g cap n : Nat} {sv : Value} {x0 : Int} {w wr : World} {Lk : List Int} (h : PR Bw g cap n sv x0 w Lk wr) (hB : Bw < g) (hgl : g < w.heap.size) (o : Obj) : PR Bw g cap n sv x0 w Lk (wr.alloc o) :=
  h.step (World.grownBy_alloc wr o _) hB hgl (h.own.alloc o)

theorem PR.drew {Bw g cap n : Nat} {sv : Value} {x0 : Int} {w wr : World} {Lk : List Int} (h : PR Bw g cap n sv x0 w Lk wr) : PR Bw g cap n sv x0 w Lk wr.drew :=
  ⟨h.var, h.res, h.ent, h.own.drew, h.bel.drew⟩

theorem grown_cell (W : World) (g o : Nat) (u : Value) : W.grownBy (W.setCell ⟨g, o, none⟩ u) (some g) :=
  ⟨rfl, rfl, rfl, by simp, fun k _ hk => heap_setCell_other W ⟨g, o, none⟩ k u (fun e => hk (by simp [e]))⟩

theorem grown_trans {a b c : World} {row : Option Nat} (h : a.grownBy b row) (k : b.grownBy c row) : a.grownBy c row :=
  ⟨k.os.trans h.os, k.tape.trans h.tape, k.output.trans h.output, Nat.le_trans h.size k.size, fun i hi hne => (k.block i (Nat.lt_of_lt_of_le hi h.size) hne).trans (h.block i hi hne)⟩

theorem grown_drew (W : World) (row : Option Nat) : W.grownBy W.drew row := ⟨rfl, rfl, rfl, Nat.le_refl _, fun _ _ _ => rfl⟩

theorem swap_grown (W : World) (g i j : Nat) (xi xj : Int) :
    W.grownBy (((((((((W.setCell ⟨g, i * 4, none⟩ (.int .i64 xj)).setCell ⟨g, i * 4 + 1, none⟩ (.pointer none)).setCell ⟨g, i * 4 + 2, none⟩ .nilFunc).setCell ⟨g, i * 4 + 3, none⟩ .nilFunc).setCell
      ⟨g, j * 4, none⟩ (.int .i64 xi)).setCell ⟨g, j * 4 + 1, none⟩ (.pointer none)).setCell ⟨g, j * 4 + 2, none⟩ .nilFunc).setCell ⟨g, j * 4 + 3, none⟩ .nilFunc).drew) (some g) :=
  grown_trans (grown_trans (grown_trans (grown_trans (grown_trans (grown_trans (grown_trans (grown_trans (grown_cell _ _ _ _) (grown_cell _ _ _ _)) (grown_cell _ _ _ _)) (grown_cell _ _ _ _)) (grown_cell _ _ _ _)) (grown_cell _ _ _ _)) (grown_cell _ _ _ _)) (grown_cell _ _ _ _)) (grown_drew _ _)

theorem cut_eq (L : List Int) (last : Nat) (y : Int) (h : L.length = last + 1) : ((L.set 0 (Hp.nth L last)).set last y).take last = Hp.cut L := by
  unfold Hp.cut
  rw [List.take_set, List.take_set, List.set_eq_of_length_le (by simp; omega), h]
  rfl

theorem ents_take (L : List Int) (n : Nat) : ents L = ents (L.take n) ++ ents (L.drop n) := by
  have h2 : ∀ A B : List Int, ents (A ++ B) = ents A ++ ents B := by intro A B; simp [ents]
  rw [← h2, List.take_append_drop]

theorem own_cut {W : World} {B g cap last : Nat} {L : List Int} {y : Int} (hl : L.length = last + 1) (h : W.ownsRow B 33 4 (.slice (some ⟨g, 0, none⟩) (last + 1) cap) (last + 1) (ents ((L.set 0 (Hp.nth L last)).set last y))) :
    W.ownsRow B 33 4 (.slice (some ⟨g, 0, none⟩) last cap) last (ents (Hp.cut L)) := by
  rw [ents_take _ last, cut_eq L last y hl] at h
  exact ownsRow_pop (by rw [ents_length, Hp.length_cut]; omega) h

theorem PR_pre {Bw g cap n : Nat} {L : List Int} {w : World} {sv : Value} (x0 : Int)
    (hc : w.heap[Bw]? = some (.cells #[sv] 24 (0, 0)))
    (hown : w.ownsRow (Bw + 1) 33 4 (.slice (some ⟨g, 0, none⟩) n cap) n (ents L)) :
    PR Bw g cap n sv x0 w L (((w.alloc (.cells #[.int .i64 0, .pointer none, .nilFunc, .nilFunc] 33)).alloc (.cells #[] 28)).alloc (.cells #[.int .i64 x0, .pointer none, .nilFunc, .nilFunc] 33)) := by
  have hlt := lt_of_block hc
  refine ⟨?_, ?_, ?_, ((hown.alloc _).alloc _).alloc _, (((Below.refl _ _).alloc (by omega) _).alloc (by simp; omega) _).alloc (by simp; omega) _⟩
  · rw [Below.heap_alloc _ _ _ (by simp; omega), Below.heap_alloc _ _ _ (by simp; omega), Below.heap_alloc _ _ _ hlt]; exact hc
  · rw [Below.heap_alloc _ _ _ (by simp; omega), Below.heap_alloc _ _ _ (by simp)]; exact heap_alloc_new w _
  · have := heap_alloc_new ((w.alloc (.cells #[.int .i64 0, .pointer none, .nilFunc, .nilFunc] 33)).alloc (.cells #[] 28)) (.cells #[.int .i64 x0, .pointer none, .nilFunc, .nilFunc] 33)
    simpa using this

theorem PR_start {Bw g cap last : Nat} {L : List Int} {w W1 : World} {x0 xl : Int} {sv : Value} (hl : L.length = last + 1) (hB : Bw < g) (hgl : g < w.heap.size)
    (p0 : PR Bw g cap (last + 1) sv x0 w L W1) (hxl : xl = Hp.nth L last) :
    PR Bw g cap last sv x0 w (Hp.cut L) (((((((((W1.setCell ⟨g, 0, none⟩ (.int .i64 xl)).setCell ⟨g, 1, none⟩ (.pointer none)).setCell ⟨g, 2, none⟩ .nilFunc).setCell ⟨g, 3, none⟩ .nilFunc).setCell
      ⟨g, last * 4, none⟩ (.int .i64 0)).setCell ⟨g, last * 4 + 1, none⟩ (.pointer none)).setCell ⟨g, last * 4 + 2, none⟩ .nilFunc).setCell ⟨g, last * 4 + 3, none⟩ .nilFunc)) := by
  have hown2 := own_put (own_put p0.own 0 (by omega) xl) last (by simp; omega) 0
  rw [hxl] at hown2
  have hg : W1.grownBy (((((((((W1.setCell ⟨g, 0, none⟩ (.int .i64 xl)).setCell ⟨g, 1, none⟩ (.pointer none)).setCell ⟨g, 2, none⟩ .nilFunc).setCell ⟨g, 3, none⟩ .nilFunc).setCell
      ⟨g, last * 4, none⟩ (.int .i64 0)).setCell ⟨g, last * 4 + 1, none⟩ (.pointer none)).setCell ⟨g, last * 4 + 2, none⟩ .nilFunc).setCell ⟨g, last * 4 + 3, none⟩ .nilFunc)) (some g) :=
    grown_trans (grown_trans (grown_trans (grown_trans (grown_trans (grown_trans (grown_trans (grown_cell _ _ _ _) (grown_cell _ _ _ _)) (grown_cell _ _ _ _)) (grown_cell _ _ _ _)) (grown_cell _ _ _ _)) (grown_cell _ _ _ _)) (grown_cell _ _ _ _)) (grown_cell _ _ _ _)
  have p1 := p0.step hg hB hgl (Lk' := ((L.set 0 xl).set last 0)) (by rw [hxl]; exact hown2)
  refine ⟨p1.var, p1.res, p1.ent, ?_, p1.bel⟩
  have h3 := p1.own
  rw [hxl] at h3
  rw [hxl]
  exact own_cut hl h3

/-- What a pop leaves. -/
def Popped (Bw g cap : Nat) (L : List Int) (w w' : World) : Prop :=
  ∃ L', w'.heap[Bw]? = some (.cells #[.slice (some ⟨g, 0, none⟩) (L.length - 1) cap] 24 (0, 0)) ∧ w'.ownsRow (Bw + 1) 33 4 (.slice (some ⟨g, 0, none⟩) (L.length - 1) cap) (L.length - 1) (ents L') ∧ Hp.Heap L' ∧ L.Perm (Hp.nth L 0 :: L') ∧ Below Bw w w'

theorem cells_of4 {W : World} {b : Nat} {T : TypeId} {v0 v1 v2 v3 : Value} (h : W.heap[b]? = some (.cells #[v0, v1, v2, v3] T (0, 0))) :
    W.cell? ⟨b, 0, none⟩ = some v0 ∧ W.cell? ⟨b, 1, none⟩ = some v1 ∧ W.cell? ⟨b, 2, none⟩ = some v2 ∧ W.cell? ⟨b, 3, none⟩ = some v3 ∧ ∀ o, W.frozen? ⟨b, o, none⟩ = false := by
  refine ⟨?_, ?_, ?_, ?_, ?_⟩ <;> simp [World.cell?, World.frozen?, h]

theorem pop_end {Bw g cap last : Nat} {L Lk : List Int} {w wc : World} {sv : Value} {x0 : Int} (hl : L.length = last + 1) (p : PR Bw g cap last sv x0 w Lk wc) (hB : Bw < g) (hgl : g < w.heap.size)
    (hlk : Lk.length = last) (hpk : Lk.Perm (Hp.cut L)) (hheap : Hp.Heap Lk) :
    Popped Bw g cap L w (((((wc.setCell ⟨Bw, 0, none⟩ (.slice (some ⟨g, 0, none⟩) last cap)).setCell ⟨w.heap.size, 0, none⟩ (.int .i64 x0)).setCell ⟨w.heap.size, 1, none⟩ (.pointer none)).setCell ⟨w.heap.size, 2, none⟩ .nilFunc).setCell ⟨w.heap.size, 3, none⟩ .nilFunc) := by
  have hne : L ≠ [] := by intro e; subst e; simp at hl
  have hBw : Bw < w.heap.size := by omega
  have hl1 : L.length - 1 = last := by omega
  refine ⟨Lk, ?_, ?_, hheap, (Hp.cut_perm hne).trans (List.Perm.cons _ hpk.symm), ?_⟩
  · rw [hl1, heap_setCell_other _ _ _ _ (by simp; omega), heap_setCell_other _ _ _ _ (by simp; omega), heap_setCell_other _ _ _ _ (by simp; omega), heap_setCell_other _ _ _ _ (by simp; omega)]
    exact one_setCell p.var
  · rw [hl1]
    refine ownsRow_setCell_other (ownsRow_setCell_other (ownsRow_setCell_other (ownsRow_setCell_other (ownsRow_setCell_other p.own ?_ _) ?_ _) ?_ _) ?_ _) ?_ _
    all_goals (simp [Value.ownBlock]; omega)
  · exact ((((p.bel.setCell (by simp) _).setCell (by simp; omega) _).setCell (by simp; omega) _).setCell (by simp; omega) _).setCell (by simp; omega) _

theorem Yba.size33 : (Yba.prog.info? 33).map (·.size) = some 4 := by kernel_rfl

set_option maxHeartbeats 400000 in
theorem pop_any (Bw g cap last : Nat) (L : List Int) (w : World) (hl : L.length = last + 1) (hl2 : L.length ≤ 1024) (hlc : last + 1 ≤ cap)
    (hc : w.heap[Bw]? = some (.cells #[.slice (some ⟨g, 0, none⟩) (last + 1) cap] 24 (0, 0)))
    (hown : w.ownsRow (Bw + 1) 33 4 (.slice (some ⟨g, 0, none⟩) (last + 1) cap) (last + 1) (ents L)) (hh : Hp.Heap L) :
    Calls Yba.prog 8 #[.pointer (some ⟨Bw, 0, none⟩)] w fun e w' =>
      e = .returned (.agg #[.int .i64 (Hp.nth L 0), .pointer none, .nilFunc, .nilFunc]) ∧ Popped Bw g cap L w w' := by
  have hlt := lt_of_block hc
  have hc0 := cell_of_one hc
  have hgl := (hown.lt g rfl).2
  obtain ⟨x0, hx0⟩ : ∃ x, x = Hp.nth L 0 := ⟨_, rfl⟩
  obtain ⟨xl, hxl⟩ : ∃ x, x = Hp.nth L last := ⟨_, rfl⟩
  have c00 := cellE hown 0 (by omega) (by omega) 0 (by omega)
  have c01 := cellE hown 0 (by omega) (by omega) 1 (by omega)
  have c02 := cellE hown 0 (by omega) (by omega) 2 (by omega)
  have c03 := cellE hown 0 (by omega) (by omega) 3 (by omega)
  simp only [entD, Nat.add_zero, Nat.zero_mul, Nat.zero_add] at c00 c01 c02 c03
  rw [← hx0] at c00
  have Hx0 : Hid (x0 = Hp.nth L 0) := hx0
  have Hxl : Hid (xl = Hp.nth L last) := hxl
  have HL : Hid (L.length = last + 1) := hl
  have hl3 : last + 1 ≤ 1024 := by omega
  clear hx0 hxl hl
  have hgB : Bw < g := by have := (hown.lt g rfl).1; omega
  have hgl1 : g < w.heap.size + 1 := by omega
  have hgl2 : g < w.heap.size + 1 + 1 := by omega
  have hmb := fun w => method_before _ rfl w
  simp at hmb
  go_enter Yba.func8, Yba.ntmps8
  go_upto_region 5 with fail
  have p0 := PR_pre (n := last + 1) (cap := cap) x0 hc hown
  generalize (((w.alloc (.cells #[.int .i64 0, .pointer none, .nilFunc, .nilFunc] 33)).alloc (.cells #[] 28)).alloc (.cells #[.int .i64 x0, .pointer none, .nilFunc, .nilFunc] 33)) = W1 at p0 ⊢
  have hown1 := p0.own
  clear c00 c01 c02 c03 hc hc0 hown hgl1 hgl2
  have hl' := HL.out
  have c00 := cellE hown1 0 (by omega) (by omega) 0 (by omega)
  have c01 := cellE hown1 0 (by omega) (by omega) 1 (by omega)
  have c02 := cellE hown1 0 (by omega) (by omega) 2 (by omega)
  have c03 := cellE hown1 0 (by omega) (by omega) 3 (by omega)
  have cl0 := cellE hown1 last (by omega) (by omega) 0 (by omega)
  have cl1 := cellE hown1 last (by omega) (by omega) 1 (by omega)
  have cl2 := cellE hown1 last (by omega) (by omega) 2 (by omega)
  have cl3 := cellE hown1 last (by omega) (by omega) 3 (by omega)
  simp only [entD, Nat.add_zero, Nat.zero_mul, Nat.zero_add] at c00 c01 c02 c03 cl0 cl1 cl2 cl3
  rw [← Hx0.out] at c00
  rw [← Hxl.out] at cl0
  have hfr := fun j => hown1.frozenAt j
  clear hl' hown1
  go_cut [28] (fun _ wx => PR Bw g cap last (.slice (some ⟨g, 0, none⟩) (last + 1) cap) x0 w (Hp.cut L) wx)
  case first =>
    by_cases h0 : last = 0
    · subst h0
      go_wp2_with fail
      go_meet
      case rel =>
        exact PR_start (xl := x0) HL.out hgB hgl p0 Hx0.out
    · have hne0 : ¬ last * 4 = 0 := by omega
      have hne1 : ¬ last * 4 = 1 := by omega
      have hne2 : ¬ last * 4 = 2 := by omega
      have hne3 : ¬ last * 4 = 3 := by omega
      go_wp2_with fail
      go_meet
      case rel => exact PR_start HL.out hgB hgl p0 Hxl.out
  case rest =>
    clear p0 c00 c01 c02 c03 cl0 cl1 cl2 cl3 hfr
    have hdn := Hp.cut_down hh
    have hcl : (Hp.cut L).length = last := by rw [Hp.length_cut, HL.out]; rfl
    go_wp2_with fail
    go_loopg [7] (last + 1) (fun k i wr => ∃ (ii : Nat) (Lk : List Int), i = .int .i64 ii ∧ ii + k = last + 1 ∧ (ii = 0 ∨ ii < last) ∧ Hp.DownInv Lk ii ∧ Lk.length = last ∧ Lk.Perm (Hp.cut L) ∧ PR Bw g cap last (.slice (some ⟨g, 0, none⟩) (last + 1) cap) x0 w Lk wr)
    case atStart => exact ⟨0, Hp.cut L, rfl, by omega, .inl rfl, hdn, hcl, List.Perm.refl _, hcut⟩
    case round =>
      obtain ⟨ii, Lk, rfl, hik, hi2, hdk, hlk, hpk, hPR⟩ := hrel
      clear hcut hdn hcl
      have Hlk : Hid (Lk.length = last) := hlk
      clear hlk
      go_upto_block 2 with fail
      go_cut [8] (fun l wx => ∃ least c : Nat, l = .int .i64 least ∧ Hp.Least Lk ii c least ∧ (2 * ii + 2 < c ∨ last ≤ c) ∧ c ≤ 2 * ii + 3 ∧ PR Bw g cap last (.slice (some ⟨g, 0, none⟩) (last + 1) cap) x0 w Lk wx)
      case first =>
        go_wp2_with fail
        have hst := Hp.least_start Lk ii
        go_loopg [8, 9] 3 (fun k l c wx => ∃ least c' : Nat, l = .int .i64 least ∧ c = .int .i64 c' ∧ c' + k = 2 * ii + 4 ∧ 2 * ii + 1 ≤ c' ∧ c' ≤ 2 * ii + 3 ∧ Hp.Least Lk ii c' least ∧ PR Bw g cap last (.slice (some ⟨g, 0, none⟩) (last + 1) cap) x0 w Lk wx)
        case atStart => exact ⟨ii, 2 * ii + 1, rfl, by go_num, by omega, by omega, by omega, hst, hPR⟩
        case round =>
          obtain ⟨least, c', rfl, rfl, hck, hc1, hc2, hle, hPRi⟩ := hrel
          clear hst hPR
          by_cases ha : c' ≤ 2 * ii + 2
          · have haI : (c' : Int) ≤ 2 * (ii : Int) + 2 := by omega
            by_cases hb : c' < last
            · have hbI : (c' : Int) < (last : Int) := by omega
              have hll : least < last := by
                rcases hle.1 with h | ⟨_, h, _⟩
                · omega
                · have := Hlk.out; omega
              have hllI : (least : Int) < (last : Int) := by omega
              obtain ⟨xc, hxc⟩ : ∃ x, x = Hp.nth Lk c' := ⟨_, rfl⟩
              obtain ⟨xm, hxm⟩ : ∃ x, x = Hp.nth Lk least := ⟨_, rfl⟩
              have ci := cellE hPRi.own c' hb (by rw [Hlk.out]; exact hb) 0 (by omega)
              have cu := cellE hPRi.own least hll (by rw [Hlk.out]; exact hll) 0 (by omega)
              simp only [entD, ← hxc, ← hxm, Nat.add_zero] at ci cu
              have Hxc : Hid (xc = Hp.nth Lk c') := hxc
              have Hxm : Hid (xm = Hp.nth Lk least) := hxm
              clear hxc hxm
              go_wp2_with fail
              go_cut [61] (fun b wx => b = .bool (decide (xc < xm)) ∧ PR Bw g cap last (.slice (some ⟨g, 0, none⟩) (last + 1) cap) x0 w Lk wx)
              case first =>
                go_region_held3 (fun w' => w'.cell? ⟨g, c' * 4, none⟩ = some (.int .i64 xc) ∧ w'.cell? ⟨g, least * 4, none⟩ = some (.int .i64 xm)) (go_keep) (first | (go_at_call 32; refine (before_any _ _ _).mono ?_; rintro e w' ⟨rfl, rfl⟩))
                all_goals
                  go_wp2_with fail
                  go_meet
                  case rel => exact ⟨rfl, (hPRi.alloc hgB hgl _).drew⟩
              case rest =>
                obtain ⟨hb61, hPRx⟩ := hcut
                clear hPRi ci cu
                by_cases hxx : xc < xm
                · rw [show decide (xc < xm) = true by simp [hxx]] at hb61
                  subst hb61
                  go_wp2_with fail
                  go_roundg (2 * ii + 3 - c')
                  case measure => omega
                  case rel => exact ⟨c', c' + 1, rfl, by go_num, by omega, by omega, by omega, Hp.least_yes hle (by omega) (by rw [Hlk.out]; exact hb) (by rw [← Hxc.out, ← Hxm.out]; exact hxx), hPRx⟩
                · rw [show decide (xc < xm) = false by simp [hxx]] at hb61
                  subst hb61
                  go_wp2_with fail
                  go_roundg (2 * ii + 3 - c')
                  case measure => omega
                  case rel => exact ⟨least, c' + 1, rfl, by go_num, by omega, by omega, by omega, Hp.least_no hle (by rw [← Hxc.out, ← Hxm.out]; omega), hPRx⟩
            · have hbI : decide ((c' : Int) < (last : Int)) = false := decide_eq_false (by omega)
              go_wp2_with fail
              go_meet
              case rel => exact ⟨least, c', rfl, hle, .inr (by omega), hc2, hPRi⟩
          · have haI : decide ((c' : Int) ≤ 2 * (ii : Int) + 2) = false := decide_eq_false (by omega)
            go_wp2_with fail
            go_meet
            case rel => exact ⟨least, c', rfl, hle, .inl (by omega), hc2, hPRi⟩
      case rest =>
        obtain ⟨least, c', rfl, hle, hc1, hc2, hPR2⟩ := hcut
        clear hPR
        by_cases hli : least = ii
        · subst hli
          have v0 := cell_of_one hPR2.var
          have v1 := free_of_one hPR2.var
          have r0 := cells_of4 hPR2.res
          have e0 := cells_of4 hPR2.ent
          obtain ⟨r00, r01, r02, r03, rf⟩ := r0
          obtain ⟨e00, e01, e02, e03, _⟩ := e0
          have hbb2 : ¬ w.heap.size = Bw := by omega
          have hheap : Hp.Heap Lk := Hp.down_done hdk hle (by rw [Hlk.out]; exact hc1)
          go_wp2_with fail
          exact bodyPost_ret (v := .agg #[.int .i64 x0, .pointer none, .nilFunc, .nilFunc]) (by simp [results, Yba.results8, go_sem, r00, r01, r02, r03]) rfl ⟨by rw [Hx0.out], pop_end HL.out hPR2 hgB hgl Hlk.out hpk hheap⟩
        · have hll : ii < last ∧ least < last := by
            rcases hle.1 with h | ⟨h1, h2, h3, h4⟩
            · exact absurd h hli
            · have := Hlk.out; omega
          obtain ⟨hil, hml⟩ := hll
          have hilI : (ii : Int) < (last : Int) := by omega
          have hmlI : (least : Int) < (last : Int) := by omega
          have hneB : ((least : Int) == (ii : Int)) = false := by simp; omega
          obtain ⟨xi, hxi⟩ : ∃ x, x = Hp.nth Lk ii := ⟨_, rfl⟩
          obtain ⟨xm, hxm⟩ : ∃ x, x = Hp.nth Lk least := ⟨_, rfl⟩
          have hlk' := Hlk.out
          have hownr := hPR2.own
          have ci0 := cellE hownr ii hil (by omega) 0 (by omega)
          have ci1 := cellE hownr ii hil (by omega) 1 (by omega)
          have ci2 := cellE hownr ii hil (by omega) 2 (by omega)
          have ci3 := cellE hownr ii hil (by omega) 3 (by omega)
          have cu0 := cellE hownr least hml (by omega) 0 (by omega)
          have cu1 := cellE hownr least hml (by omega) 1 (by omega)
          have cu2 := cellE hownr least hml (by omega) 2 (by omega)
          have cu3 := cellE hownr least hml (by omega) 3 (by omega)
          simp only [entD, Nat.add_zero] at ci0 ci1 ci2 ci3 cu0 cu1 cu2 cu3
          rw [← hxi] at ci0
          rw [← hxm] at cu0
          have Hxi : Hid (xi = Hp.nth Lk ii) := hxi
          have Hxm : Hid (xm = Hp.nth Lk least) := hxm
          have hfr := fun j => hownr.frozenAt j
          clear hxi hxm hownr hlk'
          go_wp2_with fail
          go_region
          go_wp2
          have hds := Hp.down_step hdk (by have := Hlk.out; omega) hle (by rw [Hlk.out]; exact hc1) hc2 hli
          go_roundg (last + 1 - least)
          case measure => omega
          case rel => exact ⟨least, Hp.swp Lk ii least, rfl, by omega, .inr hml, hds.1, by rw [Hp.length_swp]; exact Hlk.out, (Hp.swp_perm Lk ii least (by have := Hlk.out; omega) (by have := Hlk.out; omega)).trans hpk, hPR2.step (swap_grown wc g ii least xi xm) hgB hgl (swap_own hPR2.own ii least (by have := Hlk.out; omega) (by have := Hlk.out; omega) Hxi.out Hxm.out)⟩

theorem settle_any (Bw g n cap : Nat) (w : World) (hn : n ≤ 1024) (hc : w.cell? ⟨Bw, 0, none⟩ = some (.slice (some ⟨g, 0, none⟩) n cap)) (h1 : 0 < n → w.cell? ⟨g, 1, none⟩ = some (.pointer none)) :
    Calls Yba.prog 9 #[.pointer (some ⟨Bw, 0, none⟩)] w fun e w' => e = .returned (.tuple #[]) ∧ w = w' := by
  by_cases h0 : 0 < n
  · have c1 := h1 h0
    have h0I : (0 : Int) < (n : Int) := by omega
    clear h1
    go_enter Yba.func9, Yba.ntmps9
    go_wp2_with fail
    refine wp_loop_rounds 1 ?_
    rw [rounds_succ]
    go_wp2_with fail
    go_end0
    exact ⟨rfl, rfl⟩
  · have h0I : decide ((0 : Int) < (n : Int)) = false := decide_eq_false (by omega)
    clear h1
    go_enter Yba.func9, Yba.ntmps9
    go_wp2_with fail
    refine wp_loop_rounds 1 ?_
    rw [rounds_succ]
    go_wp2_with fail
    go_end0
    exact ⟨rfl, rfl⟩

theorem field_least (x : Int) (w : World) : (Instr.field 33 (.agg #[.int .i64 x, .pointer none, .nilFunc, .nilFunc]) 0).run Yba.prog w = .ok (.int .i64 x) w := by kernel_rfl

theorem take_any (Bw g cap last : Nat) (L : List Int) (w : World) (hl : L.length = last + 1) (hl2 : L.length ≤ 1024) (hlc : last + 1 ≤ cap)
    (hc : w.heap[Bw]? = some (.cells #[.slice (some ⟨g, 0, none⟩) (last + 1) cap] 24 (0, 0)))
    (hown : w.ownsRow (Bw + 1) 33 4 (.slice (some ⟨g, 0, none⟩) (last + 1) cap) (last + 1) (ents L)) (hh : Hp.Heap L) :
    Calls Yba.prog 7 #[.pointer (some ⟨Bw, 0, none⟩)] w fun e w' => e = .returned (.int .i64 (Hp.nth L 0)) ∧ Popped Bw g cap L w w' := by
  have hc0 := cell_of_one hc
  have h1 : ((last : Int) + 1 == 0) = false := by simp; omega
  have hl3 : last + 1 ≤ 1024 := by omega
  have HL : Hid (L.length = last + 1) := hl
  obtain ⟨x0, hx0⟩ : ∃ x, x = Hp.nth L 0 := ⟨_, rfl⟩
  have Hx0 : Hid (x0 = Hp.nth L 0) := hx0
  clear hl hx0
  have hfl := field_least
  go_enter Yba.func7, Yba.ntmps7
  go_wp2_with fail
  refine (pop_any Bw g cap last L w HL.out hl2 hlc hc hown hh).mono ?_
  rintro e w1 ⟨rfl, hp⟩
  rw [← Hx0.out]
  have hp' := hp
  obtain ⟨L', hv, hown1, hheap1, hperm1, hbel1⟩ := hp'
  have e1 : L.length - 1 = last := by rw [HL.out]; rfl
  have e2 : L'.length = last := by have := hperm1.length_eq; simp [HL.out] at this; omega
  rw [e1] at hv hown1
  have hv0 := cell_of_one hv
  clear hc0
  go_wp2_with fail
  refine (settle_any Bw g last cap w1 (by omega) hv0 (fun h => by have := cellE hown1 0 h (by omega) 1 (by omega); simpa [entD] using this)).mono ?_
  rintro e w2 ⟨rfl, rfl⟩
  go_wp2_with fail
  go_ret
  exact ⟨by rw [Hx0.out]; rfl, hp⟩

end Go.Proofs.Ybulkczkm
