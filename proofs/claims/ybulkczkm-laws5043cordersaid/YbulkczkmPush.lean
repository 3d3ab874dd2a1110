/- The walks of peek, before and push over the instance that the laws use. -/
import Derived.Test.YbulkczkmRows
import Derived.Test.YbulkczkmPlain
import Derived.WalkKit
import Derived.ProofKit
import Derived.WalkLawsBesides
import Derived.Outline
import Derived.Below
import Derived.Deep.RegionLaw
import Derived.BigQuiet
import Derived.BigRegion
import Derived.Deep.RegionWith
import Derived.Laws.EntriesVeiled
import Derived.Deep.RegionHeld3
import Derived.Deep.MidRow
import Derived.Deep.AppendLies
import Derived.Deep.QuietTactic
import Derived.Deep.LoopGhost
import Derived.Deep.DeepCutAuto
namespace Go.Proofs.Ybulkczkm
open Go.RowKit

theorem step_append_own {P : Program} {ops : Array Oper} {o : Oper} {a : Act} {w : World} {K : Act → World → Prop} {Q : Exit → Act → World → Prop} {E : Prop}
    (hg : o.guard = none) (s x : Operand) (t : TypeId) (hop : o.op = Op.call { callee := Callee.builtin Builtin.append, args := #[s, x], argTypes := #[t, t] })
    (base : Nat) (e : TypeId) (i : TypeInfo) (z : Value) (size bytes : Nat) (h1 : P.underlying t = some (.slice e)) (h2 : P.info? e = some i) (h3 : i.zero = some z) (h4 : i.size = size) (h5 : i.bytes = bytes) (h6 : z.cells.size = size) (h7 : 0 < size)
    (v : Value) (n : Nat) (xs : List Value) (hs : a.eval s = v) (hown : w.ownsRow base e size v n xs)
    (ad : Addr) (m c : Nat) (news : List Value) (hx : a.eval x = .slice (some ad) m c) (hn : news.length = m * size) (hc : ∀ j u, news[j]? = some u → w.cell? (ad.add j) = some u) (h1c : ∀ u ∈ news, u.oneCell' = true)
    (b1 : n + m ≤ maxLen) (b2 : (n + m) * bytes ≤ 140737488355328) (hbase : base ≤ w.heap.size)
    (hK : ∀ v' w', w'.ownsRow base e size v' (n + m) (xs ++ news) → w.grownBy w' v.ownBlock → K (a.put o.dst v') w') :
    if Region.wanted o (yielded ops a.tmps) = true then Oper.wp P o a w K Q else E := by
  have hw : Region.wanted o (yielded ops a.tmps) = true := by simp [Region.wanted, hg]
  rw [if_pos hw]
  exact wp_append_own w s x t hop base e i z size bytes h1 h2 h3 h4 h5 h6 h7 v n xs hs hown ad m c news hx hn hc h1c b1 b2 hbase (fun v' w' a b _ => hK v' w' a b)

def ent (x : Int) : List Value := [.int .i64 x, .pointer none, .nilFunc, .nilFunc]
def ents (L : List Int) : List Value := L.flatMap ent

theorem Yba.info33 : (Yba.prog.info? 33).map (fun i => (i.zero, i.size, i.bytes)) = some (some (.agg #[.int .i64 0, .pointer none, .nilFunc, .nilFunc]), 4, 32) := by kernel_rfl


theorem add_zero (g j : Nat) : (⟨g, 0, none⟩ : Addr).add j = ⟨g, j, none⟩ := by
  unfold Addr.add; split
  · next h => subst h; rfl
  · simp

theorem cells_new (W : World) (cs : List Value) (T : TypeId) (n : Nat) (hn : n = W.heap.size) :
    ∀ j u, cs[j]? = some u → (W.alloc (.cells cs.toArray T)).cell? ((⟨n, 0, none⟩ : Addr).add j) = some u := by
  intro j u h
  rw [add_zero, World.cell?_alloc_at _ _ _ _ hn]
  simpa using h

theorem ent_one (x : Int) : ∀ u ∈ ent x, u.oneCell' = true := by
  intro u hu
  simp [ent] at hu
  rcases hu with rfl | rfl | rfl <;> rfl

theorem ents_snoc (L : List Int) (x : Int) : ents L ++ ent x = ents (L ++ [x]) := by simp [ents]
theorem ents_length (L : List Int) : (ents L).length = L.length * 4 := by
  induction L with
  | nil => rfl
  | cons a t ih => simp [ents, ent] at ih ⊢; omega


theorem form_of_own {W : World} {base : Nat} {e : TypeId} {size : Nat} {v : Value} {n : Nat} {xs : List Value} (h : W.ownsRow base e size v n xs) (h0 : 0 < n) :
    ∃ g cap, v = .slice (some ⟨g, 0, none⟩) n cap ∧ base ≤ g ∧ n ≤ cap ∧ cap ≤ maxLen := by
  rcases h.2 with ⟨_, h'⟩ | ⟨g, cap, cur, rfl, hb, _, hn, hm, _⟩
  · omega
  · exact ⟨g, cap, rfl, hb, hn, hm⟩


def entD (x : Int) : Nat → Value
  | 0 => .int .i64 x
  | 1 => .pointer none
  | _ => .nilFunc

theorem ents_at (L : List Int) (i t : Nat) (hi : i < L.length) (ht : t < 4) : (ents L)[i * 4 + t]? = some (entD (Hp.nth L i) t) := by
  induction L generalizing i with
  | nil => simp at hi
  | cons a l ih =>
    have e : ents (a :: l) = ent a ++ ents l := by simp [ents]
    rw [e]
    cases i with
    | zero =>
      have : t = 0 ∨ t = 1 ∨ t = 2 ∨ t = 3 := by omega
      rcases this with rfl | rfl | rfl | rfl <;> simp [ent, entD, Hp.nth]
    | succ i =>
      rw [List.getElem?_append_right (by simp [ent]; omega)]
      have h1 : (i + 1) * 4 + t - (ent a).length = i * 4 + t := by simp [ent]; omega
      rw [h1, ih i (by simpa using hi)]
      simp [Hp.nth]

theorem cellE {W : World} {B g n cap : Nat} {L : List Int} (h : W.ownsRow B 33 4 (.slice (some ⟨g, 0, none⟩) n cap) n (ents L)) (i : Nat) (hi : i < n) (hi2 : i < L.length) (t : Nat) (ht : t < 4) :
    W.cell? ⟨g, i * 4 + t, none⟩ = some (entD (Hp.nth L i) t) := by
  rw [h.cellAt _ (by omega), ents_at L i t hi2 ht]

theorem ents_set (L : List Int) (i : Nat) (y : Int) (hi : i < L.length) :
    ((((ents L).set (i * 4) (.int .i64 y)).set (i * 4 + 1) (.pointer none)).set (i * 4 + 1 + 1) .nilFunc).set (i * 4 + 1 + 1 + 1) .nilFunc = ents (L.set i y) := by
  induction L generalizing i with
  | nil => simp at hi
  | cons a l ih =>
    have e : ∀ b (l : List Int), ents (b :: l) = .int .i64 b :: .pointer none :: .nilFunc :: .nilFunc :: ents l := by intro b l; simp [ents, ent]
    cases i with
    | zero => simp [e]
    | succ i =>
      have h1 : (i + 1) * 4 = i * 4 + 1 + 1 + 1 + 1 := by omega
      rw [h1]
      simp only [List.set_cons_succ, e]
      rw [← ih i (by simpa using hi)]

/-- An entry stored into the row. -/
theorem own_put {W : World} {B g n cap : Nat} {L : List Int} (h : W.ownsRow B 33 4 (.slice (some ⟨g, 0, none⟩) n cap) n (ents L)) (i : Nat) (hi : i < L.length) (y : Int) :
    (W.setCells g (i * 4) (ent y)).ownsRow B 33 4 (.slice (some ⟨g, 0, none⟩) n cap) n (ents (L.set i y)) := by
  have h1 := (h.stored (i * 4) (.int .i64 y)).1
  have h2 := (h1.stored (i * 4 + 1) (.pointer none)).1
  have h3 := (h2.stored (i * 4 + 1 + 1) .nilFunc).1
  have h4 := (h3.stored (i * 4 + 1 + 1 + 1) .nilFunc).1
  rw [ents_set L i y hi] at h4
  exact h4

theorem below_setCells {B : Nat} {w0 : World} (g : Nat) (hg : B ≤ g) : ∀ (cs : List Value) (o : Nat) (W : World), Below B w0 W → Below B w0 (W.setCells g o cs)
  | [], _, _, h => h
  | v :: r, o, W, h => below_setCells g hg r (o + 1) _ (h.setCell (by exact hg) v)

theorem range_of_own {W : World} {B g n cap : Nat} {L : List Int} (h : W.ownsRow B 33 4 (.slice (some ⟨g, 0, none⟩) n cap) n (ents L)) (i : Nat) (hi : i < n) (hi2 : i < L.length) :
    W.rangeAt g (i * 4) (ent (Hp.nth L i)) ∧ W.there g (i * 4) 4 := by
  constructor
  · intro j v hj
    have hj4 : j < 4 := by
      have := (List.getElem?_eq_some_iff.1 hj).1
      simpa [ent] using this
    rw [cellE h i hi hi2 j hj4]
    have : j = 0 ∨ j = 1 ∨ j = 2 ∨ j = 3 := by omega
    rcases this with rfl | rfl | rfl | rfl <;> simp [ent, entD] at hj ⊢ <;> exact hj
  · intro j hj
    rw [cellE h i hi hi2 j hj]
    exact ⟨rfl, h.frozenAt _⟩

/-- What a push leaves: the heap's variable holds a slice that owns a heap of the old items and x; all below the variable's block is as it was. -/
def Pushed (Bw : Nat) (x : Int) (L : List Int) (w w' : World) : Prop :=
  ∃ sv' L', w'.heap[Bw]? = some (.cells #[sv'] 24 (0, 0)) ∧ w'.ownsRow (Bw + 1) 33 4 sv' L'.length (ents L') ∧ Hp.Heap L' ∧ L'.Perm (x :: L) ∧ Below Bw w w'

theorem push_end {Bw g cap : Nat} {L Lk : List Int} {x : Int} {w wc : World} {sv : Value} (hc : w.heap[Bw]? = some (.cells #[sv] 24 (0, 0)))
    (hlen : Lk.length = L.length + 1) (hperm : Lk.Perm (L ++ [x])) (hheap : Hp.Heap Lk)
    (hown : wc.ownsRow (Bw + 1) 33 4 (.slice (some ⟨g, 0, none⟩) (L.length + 1) cap) (L.length + 1) (ents Lk)) (hb : Below (Bw + 1) w wc) :
    Pushed Bw x L w (wc.setCell ⟨Bw, 0, none⟩ (.slice (some ⟨g, 0, none⟩) (L.length + 1) cap)) := by
  refine ⟨_, Lk, one_setCell (by rw [hb.block Bw (by omega)]; exact hc), ?_, hheap, hperm.trans (List.perm_append_singleton _ _), ?_⟩
  · rw [hlen]; exact ownsRow_setCell_below hown (by simp) _
  · exact (hb.mono (by omega)).setCell (by simp) _

theorem swap_own {W : World} {B g n cap : Nat} {L : List Int} (h : W.ownsRow B 33 4 (.slice (some ⟨g, 0, none⟩) n cap) n (ents L)) (i j : Nat) (hi : i < L.length) (hj : j < L.length) {xi xj : Int} (ei : xi = Hp.nth L i) (ej : xj = Hp.nth L j) :
    (((((((((W.setCell ⟨g, i * 4, none⟩ (.int .i64 xj)).setCell ⟨g, i * 4 + 1, none⟩ (.pointer none)).setCell ⟨g, i * 4 + 2, none⟩ .nilFunc).setCell ⟨g, i * 4 + 3, none⟩ .nilFunc).setCell
      ⟨g, j * 4, none⟩ (.int .i64 xi)).setCell ⟨g, j * 4 + 1, none⟩ (.pointer none)).setCell ⟨g, j * 4 + 2, none⟩ .nilFunc).setCell ⟨g, j * 4 + 3, none⟩ .nilFunc).drew).ownsRow B 33 4 (.slice (some ⟨g, 0, none⟩) n cap) n (ents (Hp.swp L i j)) := by
  subst ei ej
  exact (own_put (own_put h i hi _) j (by simpa using hj) _).drew

theorem swap_below {W w : World} {B g i j : Nat} (h : Below B w W) (hg : B ≤ g) (xi xj : Int) :
    Below B w (((((((((W.setCell ⟨g, i * 4, none⟩ (.int .i64 xj)).setCell ⟨g, i * 4 + 1, none⟩ (.pointer none)).setCell ⟨g, i * 4 + 2, none⟩ .nilFunc).setCell ⟨g, i * 4 + 3, none⟩ .nilFunc).setCell
      ⟨g, j * 4, none⟩ (.int .i64 xi)).setCell ⟨g, j * 4 + 1, none⟩ (.pointer none)).setCell ⟨g, j * 4 + 2, none⟩ .nilFunc).setCell ⟨g, j * 4 + 3, none⟩ .nilFunc).drew) :=
  ((((((((h.setCell (by exact hg) _).setCell (by exact hg) _).setCell (by exact hg) _).setCell (by exact hg) _).setCell (by exact hg) _).setCell (by exact hg) _).setCell (by exact hg) _).setCell (by exact hg) _).drew

theorem method_before (n : String) (hn : n = "exam" ++ "ple.com" ++ String.ofList [Char.ofNat 47] ++ "gaplight" ++ String.ofList [Char.ofNat 47] ++ "gaplight" ++ String.ofList [Char.ofNat 47] ++ "engine.before") (w : World) :
    (method 169 28 (.agg #[]) n).run Yba.prog w = .ok (32, .agg #[]) w := by subst hn; kernel_rfl

theorem before_any (a b : Int) (w : World) : Calls Yba.prog 32 #[.agg #[], .int .i64 a, .int .i64 b] w fun e w' => e = .returned (.bool (decide (a < b))) ∧ w.alloc (.cells #[] 28) = w' := by
  go_enter Yba.func32, Yba.ntmps32
  go_wp2
  go_ret
  exact ⟨rfl, rfl⟩

theorem peek_nil (w : World) : Calls Yba.prog 5 #[.slice none 0 0] w fun e w' => e = .returned (.int .i64 0) ∧ w' = w := by
  go_enter Yba.func5, Yba.ntmps5
  go_wp2
  go_ret
  exact ⟨rfl, rfl⟩

theorem peek_cons (g n cap : Nat) (x : Int) (w : World) (hn : 0 < n) (hc : w.cell? ⟨g, 0, none⟩ = some (.int .i64 x)) : Calls Yba.prog 5 #[.slice (some ⟨g, 0, none⟩) n cap] w fun e w' => e = .returned (.int .i64 x) ∧ w' = w := by
  have h1 : ((n : Int) == 0) = false := by simp; omega
  go_enter Yba.func5, Yba.ntmps5
  go_wp2
  go_ret
  exact ⟨rfl, rfl⟩

set_option maxHeartbeats 400000 in
theorem push_any (Bw : Nat) (sv : Value) (L : List Int) (x : Int) (w : World)
    (hc : w.heap[Bw]? = some (.cells #[sv] 24 (0, 0)))
    (hown : w.ownsRow (Bw + 1) 33 4 sv L.length (ents L)) (hh : Hp.Heap L) (hl : L.length < 1024) :
    Calls Yba.prog 6 #[.pointer (some ⟨Bw, 0, none⟩), .agg #[.int .i64 x, .pointer none, .nilFunc, .nilFunc]] w fun e w' =>
      e = .returned (.tuple #[]) ∧ Pushed Bw x L w w' := by
  have hlt := lt_of_block hc
  have hc0 := cell_of_one hc
  have hc3 : (((w.alloc (Obj.cells #[Value.int IntKind.i64 x, Value.pointer none, Value.nilFunc, Value.nilFunc] 33)).alloc (Obj.cells #[] 28)).alloc
              (Obj.cells #[Value.int IntKind.i64 x, Value.pointer none, Value.nilFunc, Value.nilFunc] 33)).cell? { block := Bw, off := 0 } = some sv := by
    rw [World.cell?_alloc_past _ _ _ (by simp; omega), World.cell?_alloc_past _ _ _ (by simp; omega), World.cell?_alloc_past _ _ _ (by omega)]; exact hc0
  obtain ⟨i0, hi, hz0, hz1, hz2⟩ := info_parts Yba.info33
  have hmb := fun w => method_before _ rfl w
  simp at hmb
  go_enter Yba.func6, Yba.ntmps6
  go_wp2
  go_cut [5] (fun h wx => ∃ g cap, h = .slice (some ⟨g, 0, none⟩) (L.length + 1) cap ∧ wx.ownsRow (Bw + 1) 33 4 h (L.length + 1) (ents (L ++ [x])) ∧ Below (Bw + 1) w wx)
  case first =>
    go_region_law (refine step_append_own rfl (.tmp 10) (.tmp 12) 24 rfl (Bw + 1) 33 i0 _ 4 32 Yba.underlying24 hi hz0 hz1 hz2 rfl (by decide) sv L.length (ents L) (by simp [Act.eval]) (by exact (((hown.alloc _).alloc _).alloc _).drew) ⟨w.heap.size + 1 + 1, 0, none⟩ 1 1 (ent x) (by simp [Act.eval]) rfl (by exact cells_new _ (ent x) 33 _ (by simp)) (ent_one x) (by unfold maxLen; omega) (by omega) (by simp; omega) ?_; intro v1 w1 hown1 hgr1)
    all_goals
      go_wp2_with fail
      go_meet
      case rel =>
        obtain ⟨g, cap, rfl, hg, hn, hm⟩ := form_of_own hown1 (by omega)
        refine ⟨g, cap, rfl, ?_, ?_⟩
        · rw [← ents_snoc]; exact hown1
        · refine Below.grown ?_ hgr1 (by simp; omega) ?_
          · exact ((((Below.refl _ _).alloc (by omega) _).alloc (by simp; omega) _).alloc (by simp; omega) _).drew
          · intro k hk; exact (hown.lt k hk).1
  case rest =>
    obtain ⟨g, cap, rfl, hown1, hb1⟩ := hcut
    have hup := Hp.upInv_start hh x
    go_wp2
    clear hc3
    go_loopg [6] L.length (fun k i wr => ∃ Lk : List Int, i = .int .i64 k ∧ Hp.UpInv Lk k ∧ Lk.length = L.length + 1 ∧ Lk.Perm (L ++ [x]) ∧ wr.ownsRow (Bw + 1) 33 4 (.slice (some ⟨g, 0, none⟩) (L.length + 1) cap) (L.length + 1) (ents Lk) ∧ Below (Bw + 1) w wr)
    case atStart => exact ⟨L ++ [x], rfl, hup, by simp, List.Perm.refl _, hown1, hb1⟩
    case round =>
      obtain ⟨Lk, rfl, hinv, hlen, hperm, hownk, hbk⟩ := hrel
      clear hown1 hb1 hup
      have hkl := hinv.lt
      by_cases h0 : 0 < gk
      · have h0' : (0 : Int) < (gk : Int) := by omega
        obtain ⟨u, hu⟩ : ∃ u : Nat, u = (gk - 1) / 2 := ⟨_, rfl⟩
        have hu' : ((gk : Int) - 1) / 2 = (u : Int) := by omega
        have hul : u < L.length + 1 := by omega
        have hgl : gk < L.length + 1 := by omega
        obtain ⟨xi, hxi⟩ : ∃ xi, xi = Hp.nth Lk gk := ⟨_, rfl⟩
        obtain ⟨xu, hxu⟩ : ∃ xu, xu = Hp.nth Lk u := ⟨_, rfl⟩
        have ci := cellE hownk gk hgl (by omega) 0 (by omega)
        have cu := cellE hownk u hul (by omega) 0 (by omega)
        simp only [entD, ← hxi, ← hxu, Nat.add_zero] at ci cu
        have hgI : (gk : Int) < (L.length : Int) + 1 := by omega
        have huI : (u : Int) < (L.length : Int) + 1 := by omega
        have Hu : Hid (u = (gk - 1) / 2) := hu
        have Hxi : Hid (xi = Hp.nth Lk gk) := hxi
        have Hxu : Hid (xu = Hp.nth Lk u) := hxu
        clear hu hxi hxu
        go_wp2
        go_cut [7, 35] (fun up c wx => up = .int .i64 u ∧ c = .bool (!decide (xi < xu)) ∧ wx.ownsRow (Bw + 1) 33 4 (.slice (some ⟨g, 0, none⟩) (L.length + 1) cap) (L.length + 1) (ents Lk) ∧ Below (Bw + 1) w wx)
        case first =>
          go_region_held3 (fun w' => w'.cell? ⟨g, gk * 4, none⟩ = some (.int .i64 xi) ∧ w'.cell? ⟨g, u * 4, none⟩ = some (.int .i64 xu)) (go_keep) (first | (go_at_call 32; refine (before_any _ _ _).mono ?_; rintro e w' ⟨rfl, rfl⟩))
          all_goals
            go_wp2_with fail
            go_meet
            case rel => exact ⟨rfl, rfl, (hownk.alloc _).drew, (hbk.alloc (by have := hbk.size; omega) _).drew⟩
        case rest =>
          obtain ⟨rfl, hc35, hownr, hbr⟩ := hcut
          clear hownk hbk ci cu
          by_cases hlt2 : xi < xu
          · rw [show (!decide (xi < xu)) = false by simp [hlt2]] at hc35
            subst hc35
            have ci0 := cellE hownr gk hgl (by omega) 0 (by omega)
            have ci1 := cellE hownr gk hgl (by omega) 1 (by omega)
            have ci2 := cellE hownr gk hgl (by omega) 2 (by omega)
            have ci3 := cellE hownr gk hgl (by omega) 3 (by omega)
            have cu0 := cellE hownr u hul (by omega) 0 (by omega)
            have cu1 := cellE hownr u hul (by omega) 1 (by omega)
            have cu2 := cellE hownr u hul (by omega) 2 (by omega)
            have cu3 := cellE hownr u hul (by omega) 3 (by omega)
            simp only [entD, Nat.add_zero] at ci0 ci1 ci2 ci3 cu0 cu1 cu2 cu3
            rw [← Hxi.out] at ci0
            rw [← Hxu.out] at cu0
            have hfr := fun j => hownr.frozenAt j
            go_wp2_with fail
            go_region
            go_wp2
            go_roundg u
            case measure => have := Hu.out; omega
            case rel =>
              have e := Hu.out
              refine ⟨Hp.swp Lk gk u, rfl, ?_, by rw [Hp.length_swp]; exact hlen, (Hp.swp_perm Lk gk u (by omega) (by omega)).trans hperm, swap_own hownr gk u (by omega) (by omega) Hxi.out Hxu.out, swap_below hbr (by have := form_of_own hownr (by omega); obtain ⟨g', c', h1, h2, _⟩ := this; simp at h1; omega) _ _⟩
              rw [e]
              refine Hp.upInv_step hinv h0 ?_
              rw [← e, ← Hxi.out, ← Hxu.out]; exact hlt2
          · rw [show (!decide (xi < xu)) = true by simp [hlt2]] at hc35
            subst hc35
            have hcb : wc.heap[Bw]? = some (.cells #[sv] 24 (0, 0)) := by rw [hbr.block Bw (by omega)]; exact hc
            have hcb0 := cell_of_one hcb
            have hcb1 := free_of_one hcb
            clear hcb
            go_wp2
            go_end0
            refine ⟨rfl, push_end hc hlen hperm (Hp.upInv_done hinv (.inr ?_)) hownr hbr⟩
            rw [← Hu.out, ← Hxi.out, ← Hxu.out]; omega
      · have h0e : gk = 0 := by omega
        subst h0e
        have hcb : wr.heap[Bw]? = some (.cells #[sv] 24 (0, 0)) := by rw [hbk.block Bw (by omega)]; exact hc
        have hcb0 := cell_of_one hcb
        have hcb1 := free_of_one hcb
        clear hcb
        go_wp2
        go_end0
        exact ⟨rfl, push_end hc hlen hperm (Hp.upInv_done hinv (.inl rfl)) hownk hbk⟩
end Go.Proofs.Ybulkczkm
