/- Plain laws for the insertion sort and for a heap that is emptied in order: no Go in sight. -/
import Derived.Test.YbulkczkmPlain
namespace Go.Proofs.Ybulkczkm.Hp

/-- The first k items stand in order. -/
def Sd (L : List Int) (k : Nat) : Prop := ∀ a b, a < b → b < k → nth L a ≤ nth L b

/-- The first i + 1 items stand in order but for the one at p, which may be less than those ahead of it. -/
structure Ins (T : List Int) (p i : Nat) : Prop where
  lt : i < T.length
  le : p ≤ i
  other : ∀ a b, a < b → b ≤ i → a ≠ p → b ≠ p → nth T a ≤ nth T b
  above : ∀ b, p < b → b ≤ i → nth T p ≤ nth T b

theorem ins_start {S : List Int} {i : Nat} (h : Sd S i) (hi : i < S.length) : Ins S i i :=
  ⟨hi, Nat.le_refl _, fun a b h1 _ _ h4 => h a b h1 (by omega), fun b h1 h2 => by omega⟩

theorem ins_step {T : List Int} {p i : Nat} (h : Ins T p i) (hp : 0 < p) (hlt : nth T p < nth T (p - 1)) : Ins (swp T (p - 1) p) (p - 1) i := by
  have h1 := h.lt
  have h2 := h.le
  have e : ∀ k, nth (swp T (p - 1) p) k = if k = p then nth T (p - 1) else if k = p - 1 then nth T p else nth T k := fun k => nth_swp T (p - 1) p k (by omega) (by omega)
  refine ⟨by rw [length_swp]; exact h1, by omega, ?_, ?_⟩
  · intro a b hab hb ha1 hb1
    rw [e a, e b, if_neg ha1, if_neg hb1]
    by_cases ea : a = p
    · rw [if_pos ea, if_neg (show ¬ b = p by omega)]
      exact h.other (p - 1) b (by omega) hb (by omega) (by omega)
    · rw [if_neg ea]
      by_cases eb : b = p
      · rw [if_pos eb]; exact h.other a (p - 1) (by omega) (by omega) ea (by omega)
      · rw [if_neg eb]; exact h.other a b hab hb ea eb
  · intro b hb hbi
    rw [e (p - 1), e b, if_neg (show ¬ p - 1 = p by omega), if_pos rfl]
    by_cases eb : b = p
    · rw [if_pos eb]; omega
    · rw [if_neg eb, if_neg (show ¬ b = p - 1 by omega)]; exact h.above b (by omega) hbi

theorem ins_done {T : List Int} {p i : Nat} (h : Ins T p i) (hd : p = 0 ∨ ¬ nth T p < nth T (p - 1)) : Sd T (i + 1) := by
  intro a b hab hb
  by_cases ea : a = p
  · subst ea; exact h.above b hab (by omega)
  · by_cases eb : b = p
    · subst eb
      rcases hd with hd | hd
      · omega
      · by_cases e : a = b - 1
        · subst e; omega
        · have := h.other a (b - 1) (by omega) (by omega) ea (by omega); omega
    · exact h.other a b hab (by omega) ea eb

theorem nth_set_same (S : List Int) (p : Nat) (v : Int) (hp : p < S.length) : nth (S.set p v) p = v := by rw [nth_set S p p v hp, if_pos rfl]
theorem nth_set_other (S : List Int) (p k : Nat) (v : Int) (hp : p < S.length) (h : k ≠ p) : nth (S.set p v) k = nth S k := by rw [nth_set S p k v hp, if_neg h]

theorem swp_set (S : List Int) (p : Nat) (v : Int) (hp : 0 < p) (hl : p < S.length) : swp (S.set p v) (p - 1) p = (S.set p (nth S (p - 1))).set (p - 1) v := by
  unfold swp
  rw [nth_set_same S p v hl, nth_set_other S p (p - 1) v hl (by omega)]
  rw [List.set_comm _ _ (show p ≠ p - 1 by omega), List.set_set, List.set_comm _ _ (show p - 1 ≠ p by omega)]

theorem set_self (S : List Int) (p : Nat) (hp : p < S.length) : S.set p (nth S p) = S := by
  rw [nth_eq S p hp]; exact List.set_getElem_self hp

theorem drop_nth (S : List Int) (i : Nat) (h : i < S.length) : S.drop i = nth S i :: S.drop (i + 1) := by
  rw [nth_eq S i h]; exact List.drop_eq_getElem_cons h

theorem least_drop {S : List Int} {i : Nat} (h : Sd S S.length) (hi : i < S.length) : ∀ y ∈ S.drop i, nth S i ≤ y := by
  intro y hy
  obtain ⟨j, hj, rfl⟩ := List.getElem_of_mem hy
  simp at hj
  rw [List.getElem_drop, ← nth_eq S (i + j) (by omega)]
  by_cases e : j = 0
  · subst e; exact Int.le_refl _
  · exact h i (i + j) (by omega) (by omega)

theorem peek_eq {S L : List Int} {i : Nat} (hs : Sd S S.length) (hi : i < S.length) (hh : Heap L) (hp : L.Perm (S.drop i)) : nth L 0 = nth S i := by
  have hne : L ≠ [] := by intro e; subst e; have := hp.length_eq; simp at this; omega
  have h1 := least_drop hs hi (nth L 0) (hp.mem_iff.1 (nth_zero_mem hne))
  have h2 := heap_le_mem hh (nth S i) (hp.mem_iff.2 (by rw [drop_nth S i hi]; simp))
  omega

theorem pop_perm {S L L' : List Int} {i : Nat} (hs : Sd S S.length) (hi : i < S.length) (hh : Heap L) (hp : L.Perm (S.drop i)) (hq : L.Perm (nth L 0 :: L')) : L'.Perm (S.drop (i + 1)) := by
  have h := hq.symm.trans hp
  rw [drop_nth S i hi, ← peek_eq hs hi hh hp] at h
  exact h.cons_inv

theorem take_snoc (Z : List Int) (i : Nat) (h : i < Z.length) : Z.take (i + 1) = Z.take i ++ [nth Z i] := by
  rw [List.take_succ_eq_append_getElem h, nth_eq Z i h]

theorem ext_nth {A B : List Int} (h : A.length = B.length) (he : ∀ i, i < A.length → nth A i = nth B i) : A = B := by
  apply List.ext_getElem h
  intro i h1 h2
  rw [← nth_eq A i h1, ← nth_eq B i h2]; exact he i h1

end Go.Proofs.Ybulkczkm.Hp
