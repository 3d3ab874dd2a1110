/- The proof of 'Rows.LawS5043COrderSaid': the frame is the given shell's; the walk is filled. -/
import Derived.Test.YbulkczkmRows
import Derived.WalkKit
import Derived.ProofKit
import Derived.OpenShut
import Derived.ShutString
import Derived.ChangeOld
import Derived.Below
import Derived.Test.YbulkczkmSort
import Derived.Test.YbulkczkmPop
namespace Go.Proofs.Ybulkczkm.lawS5043COrder
open Go.ChangeShapes Go.WideShapes Go.ChangeAt Go.RowKit
open Go.ChangeMaps (open_string shut_string)
set_option linter.unusedVariables false

theorem own : ownKnob Yba.prog.godebug = none := by kernel_rfl
theorem laidOut : laidOutB Yba.prog = true := by kernel_rfl

/-- WHAT THE WALK IS TOLD OF A SLICE OF INTEGERS THAT CAME IN: it is nil; or it leads to a row of 'cap' cells, the numbers 'zs' (the first 'len' are its elements, the rest its spare room), each fitting its kind. -/
def IsRow (k : IntKind) (w : World) (a : Option Addr) (len cap : Nat) (zs : List Int) : Prop :=
  (a = none ∧ len = 0 ∧ cap = 0 ∧ zs = []) ∨
  ∃ x, a = some x ∧ len ≤ cap ∧ cap ≤ maxLen ∧ zs.length = cap ∧ (∀ i, i < zs.length → w.cell? (x.add i) = some (.int k (zs.getD i 0))) ∧ ∀ n ∈ zs, (Lit.int k n).wf = true

def ints (S : List Int) : List Value := S.map (Value.int .i64)

theorem numbers_at (S : List Int) (i : Nat) (h : i < S.length) : (ints S)[i]? = some (.int .i64 (Hp.nth S i)) := by
  simp [ints, Hp.nth, h]

/-- What the sort's loops keep: the row 'sorted' of n numbers; all below is as it was. -/
structure St (n : Nat) (w : World) (S : List Int) (wr : World) : Prop where
  own : wr.ownsRow w.heap.size 3 1 (.slice (some ⟨w.heap.size, 0, none⟩) n n) n (ints S)
  len : S.length = n
  bel : Below w.heap.size w wr

theorem St.cell {n : Nat} {w wr : World} {S : List Int} (h : St n w S wr) (i : Nat) (hi : i < n) : wr.cell? ⟨w.heap.size, i, none⟩ = some (.int .i64 (Hp.nth S i)) := by
  rw [h.own.cellAt i (by omega), numbers_at S i (by rw [h.len]; exact hi)]

theorem St.put {n : Nat} {w wr : World} {S : List Int} (h : St n w S wr) (i : Nat) (v : Int) : St n w (S.set i v) (wr.setCell ⟨w.heap.size, i, none⟩ (.int .i64 v)) := by
  refine ⟨?_, by simp [h.len], h.bel.setCell (by simp) _⟩
  have := (h.own.stored i (.int .i64 v)).1
  unfold ints at this ⊢
  rw [List.map_set]
  exact this

theorem Yba.info3 : (Yba.prog.info? 3).map (fun i => (i.zero, i.size, i.bytes)) = some (some (.int .i64 0), 1, 8) := by kernel_rfl

theorem peek_empty (a : Option Addr) (cap : Nat) (w : World) : Calls Yba.prog 5 #[.slice a 0 cap] w fun e w' => e = .returned (.int .i64 0) ∧ w' = w := by
  go_enter Yba.func5, Yba.ntmps5
  go_wp2
  go_ret
  exact ⟨rfl, rfl⟩

theorem St_made {n : Nat} {w w1 : World} (h : w1.ownsRow w.heap.size 3 1 (.slice (some ⟨w.heap.size, 0, none⟩) n n) n (madeCells (Value.int .i64 0).cells (n * 1)).toList) (hg : w.grownBy w1 none) :
    St n w (List.replicate n 0) w1 := by
  refine ⟨?_, by simp, (Below.refl _ _).grown hg (Nat.le_refl _) (fun k hk => by cases hk)⟩
  have e : (madeCells (Value.int .i64 0).cells (n * 1)).toList = ints (List.replicate n 0) := by
    rw [Nat.mul_one]
    show (madeCells #[Value.int .i64 0] n).toList = _
    rw [toList_madeCells_one]
    simp [ints]
  rw [e] at h
  exact h

/-- What the pushing loop keeps. -/
structure Pu (Bw : Nat) (Z : List Int) (i : Nat) (W2 : World) (wr : World) (sv : Value) (L : List Int) : Prop where
  len : L.length = i
  var : wr.heap[Bw]? = some (.cells #[sv] 24 (0, 0))
  own : wr.ownsRow (Bw + 1) 33 4 sv i (ents L)
  heap : Hp.Heap L
  perm : L.Perm (Z.take i)
  bel : Below Bw W2 wr

set_option maxHeartbeats 1000000 in
theorem walk_pos (b off n cap0 : Nat) (Z : List Int) (w : World) (hn0 : 0 < n) (hl : n ≤ 1024) (hz : Z.length = n) (hb : b < w.heap.size)
    (hcell : ∀ j, j < n → w.cell? ⟨b, off + j, none⟩ = some (.int .i64 (Hp.nth Z j))) :
    Calls Yba.prog 4 #[.slice (some ⟨b, off, none⟩) n cap0] w fun e w' => e = .returned (.bool true) ∧ Below w.heap.size w w' := by
  have hb1 : ¬ (1024 : Int) < (n : Int) := by omega
  obtain ⟨i0, hi, hz0, hz1, hz2⟩ := info_parts Yba.info3
  have Hz : Hid (Z.length = n) := hz
  have Hcell : Hid (∀ j, j < n → w.cell? ⟨b, off + j, none⟩ = some (.int .i64 (Hp.nth Z j))) := hcell
  clear hz hcell
  go_enter Yba.func4, Yba.ntmps4
  go_wp2_with (at_make; refine wpList_make_full _ rfl (.tmp 19) (.tmp 19) 22 rfl w.heap.size 3 i0 (.int .i64 0) 1 Yba.underlying22 hi hz0 hz1 _ _ _ _ n rfl rfl (by omega) (by omega) (by rw [hz2]; omega) (by unfold maxLen; omega) (by omega) ?_; intro w1 hown1 hgr1)
  have hst := St_made hown1 hgr1
  clear hown1 hgr1
  go_wp2_with fail
  go_loopg [5] n (fun k i wr => ∃ (j : Nat) (S : List Int), i = .int .i64 j ∧ j + k = n ∧ (∀ t, t < j → Hp.nth S t = Hp.nth Z t) ∧ St n w S wr)
  case atStart => exact ⟨0, _, rfl, by omega, fun t ht => by omega, hst⟩
  case round =>
    obtain ⟨j, S, rfl, hjk, hsame, hSt⟩ := hrel
    clear hst
    by_cases hlt : j < n
    · have hltI : (j : Int) < (n : Int) := by omega
      obtain ⟨x, hx⟩ : ∃ x, x = Hp.nth Z j := ⟨_, rfl⟩
      have cx : wr.cell? ⟨b, off + j, none⟩ = some (.int .i64 x) := by rw [hSt.bel.cell (by exact hb), Hcell.out j hlt, hx]
      have cs := hSt.cell j hlt
      have cf := hSt.own.frozenAt j
      have Hx : Hid (x = Hp.nth Z j) := hx
      have Hsame : Hid (∀ t, t < j → Hp.nth S t = Hp.nth Z t) := hsame
      clear hx hsame
      go_wp2_with fail
      go_roundg (n - (j + 1))
      case measure => omega
      case rel =>
        refine ⟨j + 1, S.set j x, by go_num, by omega, ?_, hSt.put j x⟩
        intro t ht
        rw [Hp.nth_set S j t x (by rw [hSt.len]; exact hlt)]
        by_cases e : t = j
        · rw [if_pos e, Hx.out, e]
        · rw [if_neg e]; exact Hsame.out t (by omega)
    · have hjn : j = n := by omega
      have hSZ : Z = S := (Hp.ext_nth (by rw [hSt.len, Hz.out]) (fun t ht => hsame t (by rw [hSt.len] at ht; omega))).symm
      subst hSZ
      have Hlt : ¬ (j : Int) < (n : Int) := by omega
      clear hsame hjn
      go_wp2_with fail
      go_loopg [6] (n - 1) (fun k i wr => ∃ (ii : Nat) (S : List Int), i = .int .i64 ii ∧ ii + k = n ∧ 1 ≤ ii ∧ S.Perm Z ∧ Hp.Sd S ii ∧ St n w S wr)
      case atStart => exact ⟨1, Z, rfl, by omega, by omega, List.Perm.refl _, fun a b h1 h2 => by omega, hSt⟩
      case round =>
        obtain ⟨i, S, rfl, hik, hi1, hpm, hsd, hSt2⟩ := hrel
        clear hSt
        by_cases hlt2 : i < n
        · have hlt2I : (i : Int) < (n : Int) := by omega
          obtain ⟨v, hv⟩ : ∃ v, v = Hp.nth S i := ⟨_, rfl⟩
          have cv := hSt2.cell i hlt2
          rw [← hv] at cv
          have hins := Hp.ins_start hsd (by rw [hSt2.len]; exact hlt2)
          have hset : S.set i v = S := by rw [hv]; exact Hp.set_self S i (by rw [hSt2.len]; exact hlt2)
          have hins2 : Hp.Ins (S.set i v) i i := by rw [hset]; exact hins
          have hpm2 : (S.set i v).Perm Z := by rw [hset]; exact hpm
          clear hv hset hins
          go_wp2_with fail
          go_loopg [8] i (fun k j wr => ∃ (jv : Int) (S3 : List Int), j = .int .i64 jv ∧ jv = (k : Int) - 1 ∧ Hp.Ins (S3.set k v) k i ∧ (S3.set k v).Perm Z ∧ St n w S3 wr)
          case atStart => exact ⟨_, S, rfl, by omega, hins2, hpm2, hSt2⟩
          case round =>
            obtain ⟨jv, S3, rfl, hjv, hins3, hpm3, hSt3⟩ := hrel
            clear hSt2 cv hins2 hpm2 hsd hpm
            have hki := hins3.le
            rcases Nat.eq_zero_or_pos gk with h0 | h0
            · subst h0
              obtain rfl : jv = -1 := by omega
              clear hjv
              have c3 := hSt3.cell 0 hn0
              have f3 := hSt3.own.frozenAt 0
              go_wp2_with fail
              go_roundg (n - (i + 1))
              case measure => omega
              case rel => exact ⟨i + 1, S3.set 0 v, by go_num, by omega, by omega, hpm3, Hp.ins_done hins3 (.inl rfl), by exact hSt3.put 0 v⟩
            · obtain ⟨q, rfl⟩ : ∃ q, gk = q + 1 := ⟨gk - 1, by omega⟩
              obtain rfl : jv = (q : Int) := by omega
              clear hjv
              have hqI : (q : Int) < (n : Int) := by omega
              have hqI1 : (q : Int) + 1 < (n : Int) := by omega
              obtain ⟨y, hy⟩ : ∃ y, y = Hp.nth S3 q := ⟨_, rfl⟩
              have c3 := hSt3.cell q (by omega)
              rw [← hy] at c3
              have c4 := hSt3.cell (q + 1) (by omega)
              have f4 := hSt3.own.frozenAt (q + 1)
              have hl3 : q + 1 < S3.length := by rw [hSt3.len]; omega
              have hnv : Hp.nth (S3.set (q + 1) v) (q + 1) = v := Hp.nth_set_same S3 (q + 1) v hl3
              have hny : Hp.nth (S3.set (q + 1) v) q = y := by rw [hy]; exact Hp.nth_set_other S3 (q + 1) q v hl3 (by omega)
              have Hy : Hid (y = Hp.nth S3 q) := hy
              have Hnv : Hid (Hp.nth (S3.set (q + 1) v) (q + 1) = v) := hnv
              have Hny : Hid (Hp.nth (S3.set (q + 1) v) q = y) := hny
              clear hy hnv hny
              by_cases hvy : v < y
              · go_wp2_with fail
                have hs := Hp.swp_set S3 (q + 1) v (by omega) hl3
                rw [Nat.add_sub_cancel, ← Hy.out] at hs
                go_roundg q
                case measure => omega
                case rel =>
                  refine ⟨_, S3.set (q + 1) y, rfl, by omega, ?_, ?_, hSt3.put (q + 1) y⟩
                  · rw [← hs]
                    have := Hp.ins_step hins3 (by omega) (by rw [Nat.add_sub_cancel, Hnv.out, Hny.out]; exact hvy)
                    rw [Nat.add_sub_cancel] at this
                    exact this
                  · rw [← hs]
                    exact (Hp.swp_perm _ q (q + 1) (by simp; omega) (by simp; omega)).trans hpm3
              · have hvyB : decide (v < y) = false := decide_eq_false hvy
                go_wp2_with fail
                go_roundg (n - (i + 1))
                case measure => omega
                case rel => exact ⟨i + 1, S3.set (q + 1) v, by go_num, by omega, by omega, hpm3, Hp.ins_done hins3 (.inr (by rw [Nat.add_sub_cancel, Hnv.out, Hny.out]; omega)), by exact hSt3.put (q + 1) v⟩
        · have hin : i = n := by omega
          subst hin
          clear hlt Hlt hjk hlt2
          have Hpm : Hid (S.Perm Z) := hpm
          have Hsd : Hid (Hp.Sd S S.length) := by rw [show S.length = i from hSt2.len]; exact hsd
          have HSt : Hid (St i w S wr) := hSt2
          have hwr : w.heap.size < wr.heap.size := (hSt2.own.lt _ rfl).2
          have hpu0 : Pu wr.heap.size Z 0 wr (wr.alloc (.cells #[.slice none 0 0] 24)) (.slice none 0 0) [] :=
            ⟨rfl, heap_alloc_new wr _, World.ownsRow_nil _ _ _ _, fun j _ hj => by simp at hj, by simp, (Below.refl _ _).alloc (Nat.le_refl _) _⟩
          clear hpm hsd hSt2
          obtain ⟨W2, hW2⟩ : ∃ W2, W2 = wr := ⟨_, rfl⟩
          rw [← hW2] at HSt hwr hpu0
          go_wp2_with fail
          rw [← hW2]
          clear hW2 wr
          go_loopg [10] i (fun k c wr => ∃ (j : Nat) (sv : Value) (L : List Int), c = .int .i64 j ∧ j + k = i ∧ Pu W2.heap.size Z j W2 wr sv L)
          case atStart => exact ⟨0, _, _, rfl, by omega, hpu0⟩
          case round =>
            obtain ⟨j, sv, L, rfl, hjk, hPu⟩ := hrel
            clear hpu0
            by_cases hlt : j < i
            · have hltI : (j : Int) < (i : Int) := by omega
              obtain ⟨x, hx⟩ : ∃ x, x = Hp.nth Z j := ⟨_, rfl⟩
              have cx : wr.cell? ⟨b, off + j, none⟩ = some (.int .i64 x) := by rw [hPu.bel.cell (by simp; omega), HSt.out.bel.cell (by exact hb), Hcell.out j hlt, hx]
              have Hx : Hid (x = Hp.nth Z j) := hx
              clear hx
              go_wp2_with fail
              refine (push_any W2.heap.size sv L x wr hPu.var (by rw [hPu.len]; exact hPu.own) hPu.heap (by rw [hPu.len]; omega)).mono ?_
              rintro e w1 ⟨rfl, hpush⟩
              obtain ⟨sv1, L1, hsv1, hown1, hheap1, hperm1, hbel1⟩ := hpush
              have hL1 : L1.length = j + 1 := by rw [hperm1.length_eq]; simp [hPu.len]
              have hp1 : L1.Perm (Z.take (j + 1)) := by
                rw [Hp.take_snoc Z j (by rw [Hz.out]; exact hlt), ← Hx.out]
                exact hperm1.trans ((hPu.perm.cons x).trans (List.perm_append_singleton _ _).symm)
              rw [hL1] at hown1
              have hPu1 : Pu W2.heap.size Z (j + 1) W2 w1 sv1 L1 := ⟨hL1, hsv1, hown1, hheap1, hp1, hPu.bel.trans hbel1⟩
              clear hL1 hp1 hown1 hsv1 hheap1 hperm1 hbel1
              go_wp2_with fail
              go_roundg (i - (j + 1))
              case measure => omega
              case rel => exact ⟨j + 1, sv1, L1, by go_num, by omega, hPu1⟩
            · have hji : j = i := by omega
              subst hji
              obtain ⟨g, cap, hsv, hg, hc1, hc2⟩ := form_of_own hPu.own hn0
              subst hsv
              have hpS : L.Perm (S.drop 0) := by
                rw [List.drop_zero]
                have := hPu.perm
                rw [List.take_of_length_le (by rw [Hz.out]; omega)] at this
                exact this.trans Hpm.out.symm
              clear hjk hlt
              have hvar := hPu.var
              have hown := hPu.own
              have hheap := hPu.heap
              have hlen := hPu.len
              have hbel := hPu.bel
              clear hPu
              go_wp2_with fail
              go_loopg [11] j (fun k c wr => ∃ (t : Nat) (L : List Int), c = .int .i64 t ∧ t + k = j ∧ L.length = k ∧ wr.heap[W2.heap.size]? = some (.cells #[.slice (some ⟨g, 0, none⟩) k cap] 24 (0, 0)) ∧ wr.ownsRow (W2.heap.size + 1) 33 4 (.slice (some ⟨g, 0, none⟩) k cap) k (ents L) ∧ Hp.Heap L ∧ L.Perm (S.drop t) ∧ Below W2.heap.size W2 wr)
              case atStart => exact ⟨0, L, rfl, by omega, hlen, hvar, hown, hheap, hpS, hbel⟩
              case round =>
                clear hvar hown hheap hlen hbel hpS L
                obtain ⟨t, L, rfl, htk, hlen, hvar, hown, hheap, hpS, hbel⟩ := hrel
                have hc0 := cell_of_one hvar
                rcases Nat.eq_zero_or_pos gk with h0 | h0
                · subst h0
                  have htj : ¬ (t : Int) < (j : Int) := by omega
                  clear hown hheap hpS hlen
                  go_wp2_with fail
                  refine (peek_empty _ _ _).mono ?_
                  rintro e w2 ⟨rfl, rfl⟩
                  go_wp2_with fail
                  go_ret
                  exact ⟨rfl, HSt.out.bel.trans (hbel.mono (by omega))⟩
                · obtain ⟨last, rfl⟩ : ∃ q, gk = q + 1 := ⟨gk - 1, by omega⟩
                  have htj : (t : Int) < (j : Int) := by omega
                  have hsub : ((last : Int) + 1 != (j : Int) - (t : Int)) = false := by simp; omega
                  have hSl : S.length = j := HSt.out.len
                  have hpk := Hp.peek_eq Hsd.out (by omega) hheap hpS
                  obtain ⟨x, hx⟩ : ∃ x, x = Hp.nth L 0 := ⟨_, rfl⟩
                  have cp := cellE hown 0 (by omega) (by omega) 0 (by omega)
                  simp only [entD, Nat.zero_mul, Nat.add_zero] at cp
                  rw [← hx] at cp
                  have cs : wr.cell? ⟨w.heap.size, t, none⟩ = some (.int .i64 x) := by
                    rw [hbel.cell (by exact hwr), HSt.out.cell t (by omega), ← hpk, hx]
                  have Hx : Hid (x = Hp.nth L 0) := hx
                  have Hlen : Hid (L.length = last + 1) := hlen
                  have HpS : Hid (L.Perm (S.drop t)) := hpS
                  clear hx hpk hlen hpS hSl
                  have hcap : last + 1 ≤ cap := by
                    obtain ⟨g', cap', he, _, h2, _⟩ := form_of_own hown (by omega)
                    simp at he; omega
                  go_wp2_with fail
                  refine (peek_cons g (last + 1) cap x wr (by omega) cp).mono ?_
                  rintro e w2 ⟨rfl, rfl⟩
                  go_wp2_with fail
                  refine (take_any W2.heap.size g cap last L w2 Hlen.out (by rw [Hlen.out]; omega) hcap hvar hown hheap).mono ?_
                  rintro e w3 ⟨rfl, hpop⟩
                  rw [← Hx.out]
                  obtain ⟨L', hv', hown', hheap', hperm', hbel'⟩ := hpop
                  have e1 : L.length - 1 = last := by rw [Hlen.out]; rfl
                  have e2 : L'.length = last := by have := hperm'.length_eq; rw [Hlen.out] at this; simp at this; omega
                  rw [e1] at hv' hown'
                  have hpS' := Hp.pop_perm Hsd.out (by rw [HSt.out.len]; omega) hheap HpS.out hperm'
                  have hbel2 := hbel.trans hbel'
                  clear e1 hperm' hbel' hbel hheap hown hvar hc0 cp cs
                  go_wp2_with fail
                  go_roundg last
                  case measure => omega
                  case rel => exact ⟨t + 1, L', by go_num, by omega, e2, hv', hown', hheap', hpS', hbel2⟩

theorem walk_big (a0 : Option Addr) (len0 cap0 : Nat) (w : World) (hm : len0 ≤ maxLen) (hbig : 1024 < len0) :
    Calls Yba.prog 4 #[.slice a0 len0 cap0] w fun e w' => e = .returned (.bool true) ∧ Below w.heap.size w w' := by
  unfold maxLen at hm
  have hb : (1024 : Int) < (len0 : Int) := by omega
  go_enter Yba.func4, Yba.ntmps4
  go_wp2
  go_ret
  exact ⟨rfl, Below.refl _ _⟩

theorem walk_zero (a0 : Option Addr) (cap0 : Nat) (w : World) :
    Calls Yba.prog 4 #[.slice a0 0 cap0] w fun e w' => e = .returned (.bool true) ∧ Below w.heap.size w w' := by
  obtain ⟨i0, hi, hz0, hz1, hz2⟩ := info_parts Yba.info3
  go_enter Yba.func4, Yba.ntmps4
  go_wp2_with (at_make; refine wpList_make_full _ rfl (.tmp 19) (.tmp 19) 22 rfl w.heap.size 3 i0 (.int .i64 0) 1 Yba.underlying22 hi hz0 hz1 _ _ _ _ 0 rfl rfl (by omega) (by omega) (by rw [hz2]; omega) (by unfold maxLen; omega) (by omega) ?_; intro w1 hown1 hgr1)
  have hst := St_made hown1 hgr1
  clear hown1 hgr1
  go_wp2_with fail
  refine wp_loop_rounds 1 ?_
  rw [rounds_succ]
  go_wp2_with fail
  refine wp_loop_rounds 1 ?_
  rw [rounds_succ]
  go_wp2_with fail
  refine wp_loop_rounds 1 ?_
  rw [rounds_succ]
  go_wp2_with fail
  refine wp_loop_rounds 1 ?_
  rw [rounds_succ]
  go_wp2_with fail
  refine (peek_empty _ _ _).mono ?_
  rintro e w2 ⟨rfl, rfl⟩
  go_wp2_with fail
  go_ret
  exact ⟨rfl, hst.bel.alloc hst.bel.size _⟩

theorem walk (a0 : Option Addr) (len0 cap0 : Nat) (z0 : List Int) (w : World) (w0 : IsRow .i64 w a0 len0 cap0 z0) :
    Calls Yba.prog 4 #[.slice a0 len0 cap0] w fun e w' => e = .returned (.bool true) ∧ Below w.heap.size w w' := by
  by_cases h0 : len0 = 0
  · subst h0; exact walk_zero a0 cap0 w
  · rcases w0 with ⟨_, h, _⟩ | ⟨x, rfl, hlc, hm, hz, hc, _⟩
    · exact absurd h h0
    · by_cases hbig : 1024 < len0
      · exact walk_big _ _ _ _ (by omega) hbig
      · obtain ⟨b, off, rfl, hc2⟩ := ints_at hc (by omega)
        have hb : b < w.heap.size := World.block_lt_of_cell? w _ (hc2 0 (by omega))
        refine walk_pos b off len0 cap0 (z0.take len0) w (by omega) (by omega) (by simp; omega) hb (fun j hj => ?_)
        rw [Hp.nth_take z0 len0 j hj]
        exact hc2 j (by omega)

/-! ### THE ROW's STEP: WRITTEN OUT: LEAVE IT -/
set_option maxRecDepth 100000 in
theorem lifted (os : Os) (started : os.Started) (H : Type) (enc : TypeId × Value → H) :
    ReturnsInHanded {} Yba.checked os 4 .any (Rows.lawS5043COrderSpec.pre6 enc Yba.prog Yba.f4 Rows.lawS5043COrderRow.domain false) (Rows.lawS5043COrderSpec.post enc Yba.prog Yba.f4 false true false false) := by
  refine returnsInHanded_of_change (C := Yba.checked) own started (by kernel_rfl) Yba.func4
    (ChangeSpec.witness6 (enc := enc) (C := Yba.checked) false ⟨#[], #[.slice none 0 0], []⟩ 8 (by kernel_rfl) (by kernel_rfl) (by kernel_rfl) (by kernel_rfl)) ?_
  intro W base args ds gs before hval0 hW hcnd _
  have hval : ∀ (j : Nat) t v, Yba.f4.params[j]? = some t → args[j]? = some v → Value.okWide Yba.prog W .any base t v := hval0
  have hW' := hW
  obtain ⟨p, q, hA0, hV, rfl, hfz, hnd⟩ := hW
  have hA : DataW.TrodAll enc Yba.prog W 0 (fun _ => true) true Yba.f4.params.toList args.toList ds p := hA0
  rw [Yba.params4] at hA hval
  obtain ⟨v0, vs0, d0, ds0, p0, q0, hargs, rfl, rfl, h0, r0⟩ := trodAll_cons hA
  obtain ⟨rfl, rfl, rfl⟩ := trodAll_nil r0
  obtain rfl : args = #[v0] := by cases args; simp_all
  obtain ⟨rfl, rfl⟩ := trodVars_none hV
  obtain ⟨a0, len0, cap0, rfl⟩ := okWide_slice Yba.underlying22 (hval 0 22 v0 rfl rfl)
  have k0 := h0
  have lt0 : ∀ x ∈ p0, x.block < W.heap.size := by obtain ⟨m, hm⟩ := k0; exact DataW.trod_lt m _ _ _ hm
  obtain ⟨z0, w0⟩ : ∃ zs, IsRow .i64 W a0 len0 cap0 zs := by
    obtain ⟨fuel, hf⟩ := h0
    rcases open_ints Yba.underlying22 Yba.underlying3 (by kernel_rfl) hf with ⟨hcs, _⟩ | ⟨x, l, c, zs, hcs, _, hl, hm, hz, _, hcell, hwz⟩
    · simp [Value.cells] at hcs
      obtain ⟨rfl, rfl, rfl⟩ := hcs
      exact ⟨[], .inl ⟨rfl, rfl, rfl, rfl⟩⟩
    · simp [Value.cells] at hcs
      obtain ⟨rfl, rfl, rfl⟩ := hcs
      exact ⟨zs, .inr ⟨_, rfl, hl, hm, by simpa using hz, hcell, hwz⟩⟩
  clear hA0 hval0
  refine (walk a0 len0 cap0 z0 W w0).mono fun e W' ⟨he, bel⟩ => ?_
  subst he
  exact ⟨_, rfl, _, _, _, [], _, [], hW', trodAll_mk1 (shut_bool Yba.underlying4 _), (trodAll_cons_mk (Below.trod laidOut (by kernel_rfl) (of_decide_eq_true (by kernel_rfl)) k0 bel lt0) trodAll_mk0), rfl, bel.frame _, fun h => by cases h⟩

theorem over : Rows.lawS5043COrderRow.holds Yba.pinned (OpenSpec.ofChange Rows.lawS5043COrderSpec) :=
  OpenClaim.holds_of_wide 4 Yba.f4 rfl rfl rfl rfl rfl rfl rfl ⟨rfl, rfl, rfl, rfl, rfl⟩ rfl rfl rfl rfl rfl (by kernel_rfl) Yba.func4 (by kernel_rfl)
    (of_decide_eq_true (by kernel_rfl)) (by unfold Func.isWrapper; first | (rw [if_pos (by decide +kernel)]; kernel_rfl) | (rw [if_neg (by decide +kernel)]; exact ⟨rfl, rfl⟩))
    (fun os started H enc _ => lifted os started H enc)

/-- ████ THE STATEMENT ████ -/
theorem proved : Rows.LawS5043COrderSaid := over
end Go.Proofs.Ybulkczkm.lawS5043COrder
