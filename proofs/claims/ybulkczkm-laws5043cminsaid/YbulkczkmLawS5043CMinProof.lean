/- The proof of 'Rows.LawS5043CMinSaid': the frame is the given shell's; the walk is filled. -/
import Derived.Test.YbulkczkmRows
import Derived.WalkKit
import Derived.ProofKit
import Derived.OpenShut
import Derived.ShutString
import Derived.ChangeOld
import Derived.Below
import Derived.Test.YbulkczkmPush
namespace Go.Proofs.Ybulkczkm.lawS5043CMin
open Go.ChangeShapes Go.WideShapes Go.ChangeAt Go.RowKit
open Go.ChangeMaps (open_string shut_string)
set_option linter.unusedVariables false

theorem own : ownKnob Yba.prog.godebug = none := by kernel_rfl
theorem laidOut : laidOutB Yba.prog = true := by kernel_rfl

/-- WHAT THE WALK IS TOLD OF A SLICE OF INTEGERS THAT CAME IN: it is nil; or it leads to a row of 'cap' cells, the numbers 'zs' (the first 'len' are its elements, the rest its spare room), each fitting its kind. -/
def IsRow (k : IntKind) (w : World) (a : Option Addr) (len cap : Nat) (zs : List Int) : Prop :=
  (a = none ∧ len = 0 ∧ cap = 0 ∧ zs = []) ∨
  ∃ x, a = some x ∧ len ≤ cap ∧ cap ≤ maxLen ∧ zs.length = cap ∧ (∀ i, i < zs.length → w.cell? (x.add i) = some (.int k (zs.getD i 0))) ∧ ∀ n ∈ zs, (Lit.int k n).wf = true


theorem min_of {L L' : List Int} {x m : Int} (hh : Hp.Heap L) (hh' : Hp.Heap L') (hp : L'.Perm (x :: L)) (hm : m = if L.length = 0 ∨ x < Hp.nth L 0 then x else Hp.nth L 0) : Hp.nth L' 0 = m := by
  have hne : L' ≠ [] := by intro e; subst e; have := hp.length_eq; simp at this
  have h1 : Hp.nth L' 0 ∈ x :: L := hp.mem_iff.1 (Hp.nth_zero_mem hne)
  have h2 := Hp.heap_le_mem hh'
  have hx : Hp.nth L' 0 ≤ x := h2 x (hp.mem_iff.2 (by simp))
  by_cases h0 : L.length = 0
  · have e : L = [] := List.eq_nil_of_length_eq_zero h0
    subst e
    simp at h1 hm; omega
  · have hL : L ≠ [] := by intro e; subst e; simp at h0
    have h3 : Hp.nth L' 0 ≤ Hp.nth L 0 := h2 _ (hp.mem_iff.2 (List.mem_cons_of_mem _ (Hp.nth_zero_mem hL)))
    have h4 : Hp.nth L' 0 = x ∨ Hp.nth L 0 ≤ Hp.nth L' 0 := by
      rcases List.mem_cons.1 h1 with h | h
      · exact .inl h
      · exact .inr (Hp.heap_le_mem hh _ h)
    simp only [h0, false_or] at hm
    split at hm <;> omega

/-- What the loop keeps: j items pushed, the heap of them, the least of them. -/
def Rel (B : Nat) (w : World) (j : Nat) (mv : Int) (wr : World) : Prop :=
  ∃ sv L, L.length = j ∧ wr.heap[B]? = some (.cells #[sv] 24 (0, 0)) ∧ wr.ownsRow (B + 1) 33 4 sv j (ents L) ∧ Hp.Heap L ∧ (0 < j → mv = Hp.nth L 0) ∧ Below B w wr

theorem walk_big (a0 : Option Addr) (len0 cap0 : Nat) (w : World) (hm : len0 ≤ maxLen) (hbig : 1024 < len0) :
    Calls Yba.prog 3 #[.slice a0 len0 cap0] w fun e w' => e = .returned (.bool true) ∧ Below w.heap.size w w' := by
  unfold maxLen at hm
  have hb : (1024 : Int) < (len0 : Int) := by omega
  go_enter Yba.func3, Yba.ntmps3
  go_wp2
  go_ret
  exact ⟨rfl, Below.refl _ _⟩

set_option maxHeartbeats 400000 in
theorem walk_pos (b off len0 cap0 : Nat) (z0 : List Int) (w : World) (hl : len0 ≤ 1024) (hz : len0 ≤ z0.length) (hb : b < w.heap.size)
    (hcell : ∀ j, j < len0 → w.cell? ⟨b, off + j, none⟩ = some (.int .i64 (Hp.nth z0 j))) :
    Calls Yba.prog 3 #[.slice (some ⟨b, off, none⟩) len0 cap0] w fun e w' => e = .returned (.bool true) ∧ Below w.heap.size w w' := by
  have hb1 : ¬ (1024 : Int) < (len0 : Int) := by omega
  have hrel0 : Rel w.heap.size w 0 0 (w.alloc (.cells #[.slice none 0 0] 24)) := by
    refine ⟨.slice none 0 0, [], rfl, heap_alloc_new w _, World.ownsRow_nil _ _ _ _, ?_, fun h => by omega, (Below.refl _ _).alloc (Nat.le_refl _) _⟩
    intro j _ hj; simp at hj
  go_enter Yba.func3, Yba.ntmps3
  go_wp2_with fail
  refine (peek_nil _).mono ?_
  rintro e w' ⟨rfl, rfl⟩
  go_wp2_with fail
  go_loopg [4, 5] len0 (fun k m i wr => ∃ (j : Nat) (mv : Int), i = .int .i64 j ∧ m = .int .i64 mv ∧ j + k = len0 ∧ Rel w.heap.size w j mv wr)
  case atStart => exact ⟨0, 0, rfl, rfl, by omega, hrel0⟩
  case round =>
    obtain ⟨j, mv, rfl, rfl, hjk, hrel⟩ := hrel
    clear hrel0
    by_cases hlt : j < len0
    · have hltI : (j : Int) < (len0 : Int) := by omega
      obtain ⟨sv, L, hLj, hsv, hown, hheap, hmv, hbel⟩ := hrel
      obtain ⟨x, hx⟩ : ∃ x, x = Hp.nth z0 j := ⟨_, rfl⟩
      have hcx : wr.cell? ⟨b, off + j, none⟩ = some (.int .i64 x) := by rw [hbel.cell (by exact hb), hcell j hlt, hx]
      have Hx : Hid (x = Hp.nth z0 j) := hx
      clear hx
      obtain ⟨m', hm'⟩ : ∃ m', m' = if L.length = 0 ∨ x < Hp.nth L 0 then x else Hp.nth L 0 := ⟨_, rfl⟩
      have Hsv : Hid (wr.heap[w.heap.size]? = some (.cells #[sv] 24 (0, 0))) := hsv
      have Hown : Hid (wr.ownsRow (w.heap.size + 1) 33 4 sv L.length (ents L)) := by rw [hLj]; exact hown
      have HL : Hid (L.length = j) := hLj
      have Hm' : Hid (m' = if L.length = 0 ∨ x < Hp.nth L 0 then x else Hp.nth L 0) := hm'
      have Hmv : Hid (0 < j → mv = Hp.nth L 0) := hmv
      clear hsv hown hLj hm' hmv
      by_cases hj0 : j = 0
      · have hj1 : ((j : Int) == 0) = true := by simp; omega
        have hm1 : x = m' := by rw [Hm'.out, if_pos (.inl (by have := HL.out; omega))]
        clear hj0
        subst hm1
        go_wp2_with fail
        refine (push_any w.heap.size sv L x wr Hsv.out Hown.out hheap (by have := HL.out; omega)).mono ?_
        rintro e w1 ⟨rfl, hpush⟩
        obtain ⟨sv1, L1, hsv1, hown1, hheap1, hperm1, hbel1⟩ := hpush
        have hL1 : L1.length = j + 1 := by rw [hperm1.length_eq]; simp [HL.out]
        have hmin := min_of hheap hheap1 hperm1 Hm'.out
        rw [hL1] at hown1
        obtain ⟨g, cap, hv, hg, hc1, hc2⟩ := form_of_own hown1 (by omega)
        subst hv
        have hcw := cell_of_one hsv1
        have hc0 := cellE hown1 0 (by omega) (by omega) 0 (by omega)
        simp only [entD, Nat.zero_mul, Nat.add_zero] at hc0
        rw [hmin] at hc0
        have Hs1 : Hid (w1.heap[w.heap.size]? = some (.cells #[.slice (some ⟨g, 0, none⟩) (j + 1) cap] 24 (0, 0))) := hsv1
        clear hsv1
        go_wp2_with fail
        refine (peek_cons g (j + 1) cap x w1 (by omega) hc0).mono ?_
        rintro e w2 ⟨rfl, rfl⟩
        go_wp2_with fail
        go_roundg (len0 - (j + 1))
        case measure => omega
        case rel => exact ⟨j + 1, x, by go_num, rfl, by omega, _, L1, hL1, Hs1.out, hown1, hheap1, fun _ => hmin.symm, hbel.trans hbel1⟩
      · have hj1 : ((j : Int) == 0) = false := by simp; omega
        have hmv := Hmv.out (by omega)
        by_cases hxm : x < mv
        · have hm1 : x = m' := by rw [Hm'.out, if_pos (.inr (by omega))]
          clear hmv
          subst hm1
          go_wp2_with fail
          refine (push_any w.heap.size sv L x wr Hsv.out Hown.out hheap (by have := HL.out; omega)).mono ?_
          rintro e w1 ⟨rfl, hpush⟩
          obtain ⟨sv1, L1, hsv1, hown1, hheap1, hperm1, hbel1⟩ := hpush
          have hL1 : L1.length = j + 1 := by rw [hperm1.length_eq]; simp [HL.out]
          have hmin := min_of hheap hheap1 hperm1 Hm'.out
          rw [hL1] at hown1
          obtain ⟨g, cap, hv, hg, hc1, hc2⟩ := form_of_own hown1 (by omega)
          subst hv
          have hcw := cell_of_one hsv1
          have hc0 := cellE hown1 0 (by omega) (by omega) 0 (by omega)
          simp only [entD, Nat.zero_mul, Nat.add_zero] at hc0
          rw [hmin] at hc0
          have Hs1 : Hid (w1.heap[w.heap.size]? = some (.cells #[.slice (some ⟨g, 0, none⟩) (j + 1) cap] 24 (0, 0))) := hsv1
          clear hsv1
          go_wp2_with fail
          refine (peek_cons g (j + 1) cap x w1 (by omega) hc0).mono ?_
          rintro e w2 ⟨rfl, rfl⟩
          go_wp2_with fail
          go_roundg (len0 - (j + 1))
          case measure => omega
          case rel => exact ⟨j + 1, x, by go_num, rfl, by omega, _, L1, hL1, Hs1.out, hown1, hheap1, fun _ => hmin.symm, hbel.trans hbel1⟩
        · have hm1 : mv = m' := by rw [Hm'.out, if_neg (by have := HL.out; omega), hmv]
          clear hmv
          subst hm1
          go_wp2_with fail
          refine (push_any w.heap.size sv L x wr Hsv.out Hown.out hheap (by have := HL.out; omega)).mono ?_
          rintro e w1 ⟨rfl, hpush⟩
          obtain ⟨sv1, L1, hsv1, hown1, hheap1, hperm1, hbel1⟩ := hpush
          have hL1 : L1.length = j + 1 := by rw [hperm1.length_eq]; simp [HL.out]
          have hmin := min_of hheap hheap1 hperm1 Hm'.out
          rw [hL1] at hown1
          obtain ⟨g, cap, hv, hg, hc1, hc2⟩ := form_of_own hown1 (by omega)
          subst hv
          have hcw := cell_of_one hsv1
          have hc0 := cellE hown1 0 (by omega) (by omega) 0 (by omega)
          simp only [entD, Nat.zero_mul, Nat.add_zero] at hc0
          rw [hmin] at hc0
          have Hs1 : Hid (w1.heap[w.heap.size]? = some (.cells #[.slice (some ⟨g, 0, none⟩) (j + 1) cap] 24 (0, 0))) := hsv1
          clear hsv1
          go_wp2_with fail
          refine (peek_cons g (j + 1) cap mv w1 (by omega) hc0).mono ?_
          rintro e w2 ⟨rfl, rfl⟩
          go_wp2_with fail
          go_roundg (len0 - (j + 1))
          case measure => omega
          case rel => exact ⟨j + 1, mv, by go_num, rfl, by omega, _, L1, hL1, Hs1.out, hown1, hheap1, fun _ => hmin.symm, hbel.trans hbel1⟩
    · go_wp2_with fail
      go_ret
      exact ⟨rfl, by obtain ⟨_, _, _, _, _, _, _, h⟩ := hrel; exact h⟩

theorem walk_zero (a0 : Option Addr) (cap0 : Nat) (w : World) :
    Calls Yba.prog 3 #[.slice a0 0 cap0] w fun e w' => e = .returned (.bool true) ∧ Below w.heap.size w w' := by
  go_enter Yba.func3, Yba.ntmps3
  go_wp2_with fail
  refine (peek_nil _).mono ?_
  rintro e w' ⟨rfl, rfl⟩
  go_wp2_with fail
  refine wp_loop_rounds 1 ?_
  rw [rounds_succ]
  go_wp2_with fail
  go_ret
  exact ⟨rfl, (Below.refl _ _).alloc (Nat.le_refl _) _⟩

theorem walk (a0 : Option Addr) (len0 cap0 : Nat) (z0 : List Int) (w : World) (w0 : IsRow .i64 w a0 len0 cap0 z0) :
    Calls Yba.prog 3 #[.slice a0 len0 cap0] w fun e w' => e = .returned (.bool true) ∧ Below w.heap.size w w' := by
  by_cases h0 : len0 = 0
  · subst h0; exact walk_zero a0 cap0 w
  · rcases w0 with ⟨_, h, _⟩ | ⟨x, rfl, hlc, hm, hz, hc, _⟩
    · exact absurd h h0
    · by_cases hbig : 1024 < len0
      · exact walk_big _ _ _ _ (by omega) hbig
      · obtain ⟨b, off, rfl, hc2⟩ := ints_at hc (by omega)
        have hb : b < w.heap.size := World.block_lt_of_cell? w _ (hc2 0 (by omega))
        exact walk_pos b off len0 cap0 z0 w (by omega) (by omega) hb (fun j hj => hc2 j (by omega))

/-! ### THE ROW's STEP: WRITTEN OUT: LEAVE IT -/
set_option maxRecDepth 100000 in
theorem lifted (os : Os) (started : os.Started) (H : Type) (enc : TypeId × Value → H) :
    ReturnsInHanded {} Yba.checked os 3 .any (Rows.lawS5043CMinSpec.pre6 enc Yba.prog Yba.f3 Rows.lawS5043CMinRow.domain false) (Rows.lawS5043CMinSpec.post enc Yba.prog Yba.f3 false true false false) := by
  refine returnsInHanded_of_change (C := Yba.checked) own started (by kernel_rfl) Yba.func3
    (ChangeSpec.witness6 (enc := enc) (C := Yba.checked) false ⟨#[], #[.slice none 0 0], []⟩ 8 (by kernel_rfl) (by kernel_rfl) (by kernel_rfl) (by kernel_rfl)) ?_
  intro W base args ds gs before hval0 hW hcnd _
  have hval : ∀ (j : Nat) t v, Yba.f3.params[j]? = some t → args[j]? = some v → Value.okWide Yba.prog W .any base t v := hval0
  have hW' := hW
  obtain ⟨p, q, hA0, hV, rfl, hfz, hnd⟩ := hW
  have hA : DataW.TrodAll enc Yba.prog W 0 (fun _ => true) true Yba.f3.params.toList args.toList ds p := hA0
  rw [Yba.params3] at hA hval
  obtain ⟨v0, vs0, d0, ds0, p0, q0, hargs, rfl, rfl, h0, r0⟩ := trodAll_cons hA
  obtain ⟨rfl, rfl, rfl⟩ := trodAll_nil r0
  obtain rfl : args = #[v0] := by cases args; simp_all
  obtain ⟨rfl, rfl⟩ := trodVars_none hV
  obtain ⟨a0, len0, cap0, rfl⟩ := okWide_slice Yba.underlying22 (hval 0 22 v0 rfl rfl)
  have k0 := h0
  have lt0 : ∀ x ∈ p0, x.block < W.heap.size := by obtain ⟨m, hm⟩ := k0; exact DataW.trod_lt m _ _ _ hm
  obtain ⟨z0, w0⟩ : ∃ zs, IsRow .i64 W a0 len0 cap0 zs := by
    obtain ⟨fuel, hf⟩ := h0
    rcases open_ints Yba.underlying22 Yba.underlying3 (by kernel_rfl) hf with ⟨hcs, _⟩ | ⟨x, l, c, zs, hcs, _, hl, hm, hz, _, hcell, hwz⟩
    · simp [Value.cells] at hcs
      obtain ⟨rfl, rfl, rfl⟩ := hcs
      exact ⟨[], .inl ⟨rfl, rfl, rfl, rfl⟩⟩
    · simp [Value.cells] at hcs
      obtain ⟨rfl, rfl, rfl⟩ := hcs
      exact ⟨zs, .inr ⟨_, rfl, hl, hm, by simpa using hz, hcell, hwz⟩⟩
  clear hA0 hval0
  refine (walk a0 len0 cap0 z0 W w0).mono fun e W' ⟨he, bel⟩ => ?_
  subst he
  exact ⟨_, rfl, _, _, _, [], _, [], hW', trodAll_mk1 (shut_bool Yba.underlying4 _), (trodAll_cons_mk (Below.trod laidOut (by kernel_rfl) (of_decide_eq_true (by kernel_rfl)) k0 bel lt0) trodAll_mk0), rfl, bel.frame _, fun h => by cases h⟩

theorem over : Rows.lawS5043CMinRow.holds Yba.pinned (OpenSpec.ofChange Rows.lawS5043CMinSpec) :=
  OpenClaim.holds_of_wide 3 Yba.f3 rfl rfl rfl rfl rfl rfl rfl ⟨rfl, rfl, rfl, rfl, rfl⟩ rfl rfl rfl rfl rfl (by kernel_rfl) Yba.func3 (by kernel_rfl)
    (of_decide_eq_true (by kernel_rfl)) (by unfold Func.isWrapper; first | (rw [if_pos (by decide +kernel)]; kernel_rfl) | (rw [if_neg (by decide +kernel)]; exact ⟨rfl, rfl⟩))
    (fun os started H enc _ => lifted os started H enc)

/-- ████ THE STATEMENT ████ -/
theorem proved : Rows.LawS5043CMinSaid := over
end Go.Proofs.Ybulkczkm.lawS5043CMin
