namespace Go.Proofs.Ybulkczkm.Hp

def nth (L : List Int) (i : Nat) : Int := L.getD i 0
def Heap (L : List Int) : Prop := ∀ j, 0 < j → j < L.length → nth L ((j - 1) / 2) ≤ nth L j
def swp (L : List Int) (i j : Nat) : List Int := (L.set i (nth L j)).set j (nth L i)

theorem nth_set (L : List Int) (i k : Nat) (x : Int) (hi : i < L.length) : nth (L.set i x) k = if k = i then x else nth L k := by
  unfold nth
  by_cases h : k = i
  · subst h; simp [hi]
  · simp [h, Ne.symm h]

theorem length_swp (L : List Int) (i j : Nat) : (swp L i j).length = L.length := by simp [swp]

theorem nth_swp (L : List Int) (i j k : Nat) (hi : i < L.length) (hj : j < L.length) :
    nth (swp L i j) k = if k = j then nth L i else if k = i then nth L j else nth L k := by
  unfold swp
  rw [nth_set _ _ _ _ (by simpa using hj), nth_set _ _ _ _ hi]

theorem nth_eq (L : List Int) (i : Nat) (h : i < L.length) : nth L i = L[i] := by simp [nth, h]

theorem swp_perm (L : List Int) (i j : Nat) (hi : i < L.length) (hj : j < L.length) : (swp L i j).Perm L := by
  unfold swp
  rw [nth_eq L i hi, nth_eq L j hj]
  exact List.set_set_perm hi hj

theorem nth_append_left (L : List Int) (x : Int) (i : Nat) (h : i < L.length) : nth (L ++ [x]) i = nth L i := by
  simp [nth, List.getElem?_append, h]
theorem nth_append_at (L : List Int) (x : Int) : nth (L ++ [x]) L.length = x := by
  simp [nth]

/-- The heap but for the entry at i, which may rank ahead of its parent. -/
structure UpInv (L : List Int) (i : Nat) : Prop where
  lt : i < L.length
  other : ∀ j, 0 < j → j < L.length → j ≠ i → nth L ((j - 1) / 2) ≤ nth L j
  skip : ∀ j, 0 < j → j < L.length → (j - 1) / 2 = i → 0 < i → nth L ((i - 1) / 2) ≤ nth L j

theorem upInv_start {L : List Int} (h : Heap L) (x : Int) : UpInv (L ++ [x]) L.length := by
  refine ⟨by simp, ?_, ?_⟩
  · intro j h0 hj hne
    simp at hj
    have hj' : j < L.length := by omega
    rw [nth_append_left L x j hj', nth_append_left L x _ (by omega)]
    exact h j h0 hj'
  · intro j h0 hj hp _
    simp at hj
    omega

theorem upInv_step {L : List Int} {i : Nat} (h : UpInv L i) (h0 : 0 < i) (hlt : nth L i < nth L ((i - 1) / 2)) :
    UpInv (swp L i ((i - 1) / 2)) ((i - 1) / 2) := by
  have hi := h.lt
  have hp : (i - 1) / 2 < L.length := by omega
  refine ⟨by rw [length_swp]; exact hp, ?_, ?_⟩
  · intro j hj0 hj hne
    rw [length_swp] at hj
    rw [nth_swp L i _ j hi hp, nth_swp L i _ _ hi hp]
    rw [if_neg hne]
    by_cases e1 : (j - 1) / 2 = (i - 1) / 2
    · rw [if_pos e1]
      by_cases e2 : j = i
      · rw [if_pos e2]; omega
      · rw [if_neg e2]
        have := h.other j hj0 hj e2
        rw [e1] at this; omega
    · rw [if_neg e1]
      by_cases e2 : j = i
      · subst e2; exact absurd rfl e1
      · rw [if_neg e2]
        by_cases e3 : (j - 1) / 2 = i
        · rw [if_pos e3]; exact h.skip j hj0 hj e3 h0
        · rw [if_neg e3]; exact h.other j hj0 hj e2
  · intro j hj0 hj hp2 hpos
    rw [length_swp] at hj
    have hA := h.other ((i - 1) / 2) hpos hp (by omega)
    rw [nth_swp L i _ j hi hp, nth_swp L i _ _ hi hp]
    rw [if_neg (show ¬ ((i - 1) / 2 - 1) / 2 = (i - 1) / 2 by omega), if_neg (show ¬ ((i - 1) / 2 - 1) / 2 = i by omega)]
    rw [if_neg (show ¬ j = (i - 1) / 2 by omega)]
    by_cases e2 : j = i
    · rw [if_pos e2]; exact hA
    · rw [if_neg e2]
      have := h.other j hj0 hj e2
      rw [hp2] at this; omega

theorem upInv_done {L : List Int} {i : Nat} (h : UpInv L i) (hd : i = 0 ∨ ¬ nth L i < nth L ((i - 1) / 2)) : Heap L := by
  intro j h0 hj
  by_cases e : j = i
  · subst e
    rcases hd with hd | hd
    · omega
    · omega
  · exact h.other j h0 hj e

theorem heap_min {L : List Int} (h : Heap L) : ∀ f j, j ≤ f → j < L.length → nth L 0 ≤ nth L j := by
  intro f
  induction f with
  | zero => intro j hj hl; have : j = 0 := by omega
            subst this; exact Int.le_refl _
  | succ f ih =>
    intro j hj hl
    by_cases e : j = 0
    · subst e; exact Int.le_refl _
    · have h1 := h j (by omega) hl
      have h2 := ih ((j - 1) / 2) (by omega) (by omega)
      omega

theorem heap_le_mem {L : List Int} (h : Heap L) : ∀ y ∈ L, nth L 0 ≤ y := by
  intro y hy
  obtain ⟨j, hj, rfl⟩ := List.getElem_of_mem hy
  have := heap_min h j j (Nat.le_refl _) hj
  rwa [nth_eq L j hj] at this

theorem nth_zero_mem {L : List Int} (h : L ≠ []) : nth L 0 ∈ L := by
  cases L with
  | nil => exact absurd rfl h
  | cons a t => simp [nth]

/-- The heap but for the entry at i, which may rank behind its children. -/
structure DownInv (L : List Int) (i : Nat) : Prop where
  other : ∀ j, 0 < j → j < L.length → (j - 1) / 2 ≠ i → nth L ((j - 1) / 2) ≤ nth L j
  skip : ∀ j, 0 < j → j < L.length → (j - 1) / 2 = i → 0 < i → nth L ((i - 1) / 2) ≤ nth L j

theorem downInv_start {L : List Int} (x : Int) (h : Heap L) (h0 : 0 < L.length) : DownInv ((L.set 0 x)) 0 := by
  refine ⟨?_, ?_⟩
  · intro j hj0 hj hp
    simp at hj
    rw [nth_set L 0 j x h0, nth_set L 0 ((j - 1) / 2) x h0, if_neg hp, if_neg (by omega)]
    exact h j hj0 hj
  · intro j _ _ _ h'; omega

theorem nth_take (L : List Int) (n i : Nat) (h : i < n) : nth (L.take n) i = nth L i := by
  simp [nth, h]

theorem heap_take {L : List Int} (h : Heap L) (n : Nat) : Heap (L.take n) := by
  intro j h0 hj
  simp at hj
  rw [nth_take L n _ (by omega), nth_take L n _ (by omega)]
  exact h j h0 (by omega)

/-- 'least' is the least of i and its children below c. -/
def Least (L : List Int) (i c least : Nat) : Prop :=
  (least = i ∨ (least < c ∧ least < L.length ∧ 2 * i + 1 ≤ least ∧ nth L least < nth L i)) ∧
  (∀ j, 2 * i + 1 ≤ j → j < c → j < L.length → nth L least ≤ nth L j) ∧ nth L least ≤ nth L i

theorem least_start (L : List Int) (i : Nat) : Least L i (2 * i + 1) i := by
  refine ⟨.inl rfl, ?_, Int.le_refl _⟩
  intro j h1 h2; omega

theorem least_yes {L : List Int} {i c least : Nat} (h : Least L i c least) (hc1 : 2 * i + 1 ≤ c) (hc : c < L.length) (hlt : nth L c < nth L least) : Least L i (c + 1) c := by
  refine ⟨.inr ⟨by omega, hc, hc1, ?_⟩, ?_, ?_⟩
  · have := h.2.2; omega
  · intro j h1 h2 h3
    by_cases e : j = c
    · subst e; exact Int.le_refl _
    · have := h.2.1 j h1 (by omega) h3; omega
  · have := h.2.2; omega

theorem least_no {L : List Int} {i c least : Nat} (h : Least L i c least) (hlt : ¬ nth L c < nth L least) : Least L i (c + 1) least := by
  refine ⟨?_, ?_, h.2.2⟩
  · rcases h.1 with h1 | ⟨h1, h2, h3, h4⟩
    · exact .inl h1
    · exact .inr ⟨by omega, h2, h3, h4⟩
  · intro j h1 h2 h3
    by_cases e : j = c
    · subst e; omega
    · exact h.2.1 j h1 (by omega) h3

theorem down_done {L : List Int} {i c : Nat} (h : DownInv L i) (hl : Least L i c i) (hc : 2 * i + 2 < c ∨ L.length ≤ c) : Heap L := by
  intro j h0 hj
  by_cases e : (j - 1) / 2 = i
  · rw [e]; exact hl.2.1 j (by omega) (by omega) hj
  · exact h.other j h0 hj e

theorem down_step {L : List Int} {i c least : Nat} (h : DownInv L i) (hi : i < L.length) (hl : Least L i c least) (hc : 2 * i + 2 < c ∨ L.length ≤ c) (hc3 : c ≤ 2 * i + 3) (hne : least ≠ i) :
    DownInv (swp L i least) least ∧ i < least ∧ least < L.length := by
  obtain ⟨h1, h2, h3⟩ := hl
  rcases h1 with h1 | ⟨ha, hb, hd, he⟩
  · exact absurd h1 hne
  have hpar : (least - 1) / 2 = i := by omega
  refine ⟨⟨?_, ?_⟩, by omega, hb⟩
  · intro j hj0 hj hp
    rw [length_swp] at hj
    rw [nth_swp L i _ j hi hb, nth_swp L i _ _ hi hb]
    rw [if_neg hp]
    by_cases e1 : (j - 1) / 2 = i
    · rw [if_pos e1]
      by_cases e2 : j = least
      · rw [if_pos e2]; omega
      · rw [if_neg e2, if_neg (by omega)]
        exact h2 j (by omega) (by omega) hj
    · rw [if_neg e1]
      rw [if_neg (show ¬ j = least by intro e; subst e; exact e1 hpar)]
      by_cases e3 : j = i
      · subst e3
        rw [if_pos rfl]
        exact h.skip least (by omega) hb hpar (by omega)
      · rw [if_neg e3]; exact h.other j hj0 hj e1
  · intro j hj0 hj hp hpos
    rw [length_swp] at hj
    rw [hpar]
    rw [nth_swp L i _ j hi hb, nth_swp L i _ i hi hb]
    rw [if_neg (show ¬ i = least by omega), if_pos rfl, if_neg (show ¬ j = least by omega), if_neg (show ¬ j = i by omega)]
    have := h.other j hj0 hj (by omega)
    rw [hp] at this; exact this

/-- What lies in the heap when its first entry is taken out and its last laid in its place. -/
def cut (L : List Int) : List Int := (L.take (L.length - 1)).set 0 (nth L (L.length - 1))

theorem length_cut (L : List Int) : (cut L).length = L.length - 1 := by simp [cut]

theorem cut_down {L : List Int} (h : Heap L) : DownInv (cut L) 0 := by
  by_cases h1 : 1 < L.length
  · exact downInv_start _ (heap_take h _) (by simp; omega)
  · refine ⟨?_, ?_⟩
    · intro j _ hj; rw [length_cut] at hj; omega
    · intro j _ hj; rw [length_cut] at hj; omega

theorem cut_perm {L : List Int} (h : L ≠ []) : L.Perm (nth L 0 :: cut L) := by
  match L, h with
  | [a], _ => simp [cut, nth]
  | a :: b :: t, _ =>
    have e : nth (a :: b :: t) 0 = a := by simp [nth]
    rw [e]
    refine List.Perm.cons a ?_
    have hl : (a :: b :: t).length - 1 = t.length + 1 := by simp
    unfold cut
    rw [hl]
    have e2 : nth (a :: b :: t) (t.length + 1) = (b :: t).getLast (by simp) := by
      rw [nth_eq _ _ (by simp), List.getLast_eq_getElem]; simp
    rw [e2, List.take_succ_cons, List.set_cons_zero]
    have e3 : (b :: t).take t.length = (b :: t).dropLast := by rw [List.dropLast_eq_take]; simp
    rw [e3]
    have e4 := List.dropLast_concat_getLast (l := b :: t) (by simp)
    conv => lhs; rw [← e4]
    exact List.perm_append_singleton _ _

end Go.Proofs.Ybulkczkm.Hp
