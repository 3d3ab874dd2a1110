/- The walks that both sim laws share: starts, Since, realTime without paces. -/
import Derived.Test.YbulkczmqRows
import Derived.WalkKit
import Derived.ProofKit
import Derived.WalkLawsBesides
import Derived.Outline
import Derived.Below
import Derived.BigRegion
import Derived.Deep.LoopGhost
import Derived.Deep.DeepCutAuto
import Derived.Laws.EntriesVeiled
namespace Go.Proofs.Ybulkczmq
open Go.RowKit

def nth (L : List Int) (i : Nat) : Int := L.getD i 0
theorem nth_eq (L : List Int) (i : Nat) (h : i < L.length) : nth L i = L[i] := by simp [nth, h]
theorem nth_set (L : List Int) (i k : Nat) (x : Int) (hi : i < L.length) : nth (L.set i x) k = if k = i then x else nth L k := by
  unfold nth
  by_cases h : k = i
  · subst h; simp [hi]
  · simp [h, Ne.symm h]
theorem ext_nth {A B : List Int} (h : A.length = B.length) (he : ∀ i, i < A.length → nth A i = nth B i) : A = B := by
  apply List.ext_getElem h
  intro i h1 h2
  rw [← nth_eq A i h1, ← nth_eq B i h2]; exact he i h1

def ints (S : List Int) : List Value := S.map (Value.int .i64)
theorem ints_nth (S : List Int) (i : Nat) (h : i < S.length) : (ints S)[i]? = some (.int .i64 (nth S i)) := by simp [ints, nth, h]

/-- The row of numbers that begins block g: n of them, the call's own. -/
structure St (T : TypeId) (g n : Nat) (w : World) (S : List Int) (wr : World) : Prop where
  own : wr.ownsRow g T 1 (.slice (some ⟨g, 0, none⟩) n n) n (ints S)
  len : S.length = n
  bel : Below g w wr

theorem St.cell {T : TypeId} {g n : Nat} {w wr : World} {S : List Int} (h : St T g n w S wr) (i : Nat) (hi : i < n) : wr.cell? ⟨g, i, none⟩ = some (.int .i64 (nth S i)) := by
  rw [h.own.cellAt i (by omega), ints_nth S i (by rw [h.len]; exact hi)]

theorem St.put {T : TypeId} {g n : Nat} {w wr : World} {S : List Int} (h : St T g n w S wr) (i : Nat) (v : Int) : St T g n w (S.set i v) (wr.setCell ⟨g, i, none⟩ (.int .i64 v)) := by
  refine ⟨?_, by simp [h.len], h.bel.setCell (by simp) _⟩
  have := (h.own.stored i (.int .i64 v)).1
  unfold ints at this ⊢
  rw [List.map_set]
  exact this

theorem St_made {T : TypeId} {n : Nat} {w w1 : World} (h : w1.ownsRow w.heap.size T 1 (.slice (some ⟨w.heap.size, 0, none⟩) n n) n (madeCells (Value.int .i64 0).cells (n * 1)).toList) (hg : w.grownBy w1 none) :
    St T w.heap.size n w (List.replicate n 0) w1 := by
  refine ⟨?_, by simp, (Below.refl _ _).grown hg (Nat.le_refl _) (fun k hk => by cases hk)⟩
  have e : (madeCells (Value.int .i64 0).cells (n * 1)).toList = ints (List.replicate n 0) := by
    rw [Nat.mul_one]
    show (madeCells #[Value.int .i64 0] n).toList = _
    rw [toList_madeCells_one]
    simp [ints]
  rw [e] at h
  exact h

theorem Yba.info38 : (Yba.prog.info? 38).map (fun i => (i.zero, i.size, i.bytes)) = some (some (.int .i64 0), 1, 8) := by kernel_rfl

theorem since_any (a b : Int) (w : World) : Calls Yba.prog 13 #[.int .i64 a, .int .i64 b] w fun e w' => e = .returned (.int .i64 (wrap64 (a - b))) ∧ w' = w := by
  go_enter Yba.func13, Yba.ntmps13
  go_wp2
  go_ret
  exact ⟨rfl, rfl⟩

set_option maxHeartbeats 400000 in
theorem starts_pos (b off n cap0 : Nat) (Z : List Int) (w : World) (hl : n ≤ 1024) (hz : Z.length = n) (hb : b < w.heap.size)
    (hcell : ∀ j, j < n → w.cell? ⟨b, off + j, none⟩ = some (.int .i64 (nth Z j))) :
    Calls Yba.prog 11 #[.slice (some ⟨b, off, none⟩) n cap0] w fun e w' => e = .returned (.slice (some ⟨w.heap.size, 0, none⟩) (n + 1) (n + 1)) ∧ St 38 w.heap.size (n + 1) w (Z ++ [0]) w' := by
  obtain ⟨i0, hi, hz0, hz1, hz2⟩ := info_parts Yba.info38
  have Hz : Hid (Z.length = n) := hz
  have Hcell : Hid (∀ j, j < n → w.cell? ⟨b, off + j, none⟩ = some (.int .i64 (nth Z j))) := hcell
  clear hz hcell
  go_enter Yba.func11, Yba.ntmps11
  go_wp2_with (at_make; refine wpList_make_full _ rfl (.tmp 8) (.tmp 8) 41 rfl w.heap.size 38 i0 (.int .i64 0) 1 Yba.underlying41 hi hz0 hz1 _ _ _ _ (n + 1) rfl rfl (by omega) (by omega) (by rw [hz2]; omega) (by unfold maxLen; omega) (by omega) ?_; intro w1 hown1 hgr1)
  have hst := St_made hown1 hgr1
  clear hown1 hgr1
  go_wp2_with fail
  go_loopg [12] n (fun k i wr => ∃ (j : Nat) (S : List Int), i = .int .i64 j ∧ j + k = n ∧ (∀ t, t < n + 1 → nth S t = if t < j then nth Z t else 0) ∧ St 38 w.heap.size (n + 1) w S wr)
  case atStart => exact ⟨0, _, rfl, by omega, fun t ht => by simp [nth, ht], hst⟩
  case round =>
    obtain ⟨j, S, rfl, hjk, hsame, hSt⟩ := hrel
    clear hst
    by_cases hlt : j < n
    · have hltI : (j : Int) < (n : Int) := by omega
      have hltI2 : (j : Int) < (n : Int) + 1 := by omega
      obtain ⟨x, hx⟩ : ∃ x, x = nth Z j := ⟨_, rfl⟩
      have cx : wr.cell? ⟨b, off + j, none⟩ = some (.int .i64 x) := by rw [hSt.bel.cell (by exact hb), Hcell.out j hlt, hx]
      have cs := hSt.cell j (by omega)
      have cf := hSt.own.frozenAt j
      have Hx : Hid (x = nth Z j) := hx
      have Hsame : Hid (∀ t, t < n + 1 → nth S t = if t < j then nth Z t else 0) := hsame
      clear hx hsame
      go_wp2_with fail
      go_roundg (n - (j + 1))
      case measure => omega
      case rel =>
        refine ⟨j + 1, S.set j x, by go_num, by omega, ?_, hSt.put j x⟩
        intro t ht
        rw [nth_set S j t x (by rw [hSt.len]; omega), Hsame.out t ht]
        by_cases e : t = j
        · subst e; rw [if_pos rfl, if_pos (by omega), Hx.out]
        · rw [if_neg e]
          by_cases e2 : t < j
          · rw [if_pos e2, if_pos (by omega)]
          · rw [if_neg e2, if_neg (by omega)]
    · have hjn : j = n := by omega
      have hSZ : S = Z ++ [0] := ext_nth (by simp [hSt.len, Hz.out]) (fun t ht => by
        rw [hSt.len] at ht
        rw [hsame t ht]
        have hz := Hz.out
        by_cases e : t < j
        · rw [if_pos e]; simp [nth, List.getElem?_append, show t < Z.length by omega]
        · rw [if_neg e]; simp [nth, List.getElem?_append, show ¬ t < Z.length by omega, show t - Z.length = 0 by omega])
      have Hlt : ¬ (j : Int) < (n : Int) := by omega
      have HS : Hid (S = Z ++ [0]) := hSZ
      clear hsame hjn hSZ
      go_wp2_with fail
      go_ret
      exact ⟨rfl, by rw [← HS.out]; exact hSt⟩

theorem starts_zero (a : Option Addr) (cap0 : Nat) (w : World) :
    Calls Yba.prog 11 #[.slice a 0 cap0] w fun e w' => e = .returned (.slice (some ⟨w.heap.size, 0, none⟩) 1 1) ∧ St 38 w.heap.size 1 w [0] w' := by
  obtain ⟨i0, hi, hz0, hz1, hz2⟩ := info_parts Yba.info38
  go_enter Yba.func11, Yba.ntmps11
  go_wp2_with (at_make; refine wpList_make_full _ rfl (.tmp 8) (.tmp 8) 41 rfl w.heap.size 38 i0 (.int .i64 0) 1 Yba.underlying41 hi hz0 hz1 _ _ _ _ 1 rfl rfl (by omega) (by omega) (by rw [hz2]; omega) (by unfold maxLen; omega) (by omega) ?_; intro w1 hown1 hgr1)
  have hst := St_made hown1 hgr1
  clear hown1 hgr1
  go_wp2_with fail
  refine wp_loop_rounds 1 ?_
  rw [rounds_succ]
  go_wp2_with fail
  go_ret
  exact ⟨rfl, hst⟩

set_option maxRecDepth 100000 in
theorem realTime_nopace (R g n cap node : Nat) (rd x : Int) (w : World) (hn : node < n) (h6 : w.cell? ⟨R, 6, none⟩ = some (.slice (some ⟨g, 0, none⟩) n cap)) (h5 : w.cell? ⟨R, 5, none⟩ = some (.slice none 0 0)) (hx : w.cell? ⟨g, node, none⟩ = some (.int .i64 x)) :
    Calls Yba.prog 12 #[.pointer (some ⟨R, 0, none⟩), .int .i64 node, .int .i64 rd] w fun e w' => e = .returned (.int .i64 (wrap64 (rd - x))) ∧ w' = w := by
  have hnI : (node : Int) < (n : Int) := by omega
  have heq := fun (w : World) (a : Option Addr) (n c : Nat) => Lib.run_eql_slice_nil (P := Yba.prog) w 54 64 a n c 0 0 Yba.underlying54
  go_enter Yba.func12, Yba.ntmps12
  go_wp2_with fail
  refine (since_any _ _ _).mono ?_
  rintro e w1 ⟨rfl, rfl⟩
  go_wp2_with fail
  go_ret
  exact ⟨rfl, rfl⟩
end Go.Proofs.Ybulkczmq
