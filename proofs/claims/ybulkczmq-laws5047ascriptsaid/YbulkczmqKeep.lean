/- The walk of admit where the stamp is fresh and the sender is known. -/
import Derived.Test.YbulkczmqDelete
import Derived.LoopN
namespace Go.Proofs.Ybulkczmq
open Go.RowKit
set_option linter.unusedSimpArgs false

/-- What admit leaves of window i: newest, arrived, floor, and the stamps s in a row of the call's own. -/
def Left (SB F n i : Nat) (ma fa ne ar fl : Int) (s : List Int) (Ws : List Wn) (row : Option Nat) (w w' : World) : Prop :=
  ∃ g cap, Fm SB F n ma fa (Ws.set i ⟨true, ne, ar, fl, .slice (some ⟨g, 0, none⟩) s.length cap⟩) w' ∧ w'.ownsRow (F + 1) 38 1 (.slice (some ⟨g, 0, none⟩) s.length cap) s.length (ints s) ∧
    (row = some g ∨ w.heap.size ≤ g) ∧ Fr SB row w w'

theorem left_of_reset {SB F n i : Nat} {ma fa stamp now : Int} {Ws : List Wn} {row : Option Nat} {w w' : World} (h : Reset SB F n i ma fa stamp now Ws row w w') : Left SB F n i ma fa stamp now (wrap64 (stamp + wrap64 (-ma))) [stamp] Ws row w w' := h

theorem Row1.cell {g : Nat} {w w' : World} (h : Row1 g w w') (p : Addr) (hp : p.block ≠ g) : w'.cell? p = w.cell? p := by
  simp [World.cell?, h.block p.block hp]

theorem Fm.of_row1 {SB F n g : Nat} {ma fa : Int} {Ws : List Wn} {w w' : World} (h : Fm SB F n ma fa Ws w) (hr : Row1 g w w') (hg : F < g) : Fm SB F n ma fa Ws w' := by
  have hlt := h.lt
  refine ⟨⟨h.row.1, ?_⟩, h.len, h.lt, by rw [hr.block F (by omega)]; exact h.f⟩
  rcases h.row.2 with h0 | ⟨g', cap', cur, hv, hb, hh, rest⟩
  · exact .inl h0
  · refine .inr ⟨g', cap', cur, hv, hb, ?_, rest⟩
    cases hv
    rw [hr.block SB (by omega)]; exact hh

theorem Fr.row1 {SB : Nat} {row : Option Nat} {g : Nat} {a w w' : World} (h : Fr SB row a w) (hr : Row1 g w w') (hg : row = some g ∨ a.heap.size ≤ g) : Fr SB row a w' :=
  ⟨hr.os.trans h.os, hr.tape.trans h.tape, hr.output.trans h.output, by rw [hr.size]; exact h.size, fun k hk h1 h2 => by
    rw [hr.block k (by rintro rfl; rcases hg with e | e; exact h2 e.symm; omega)]; exact h.block k hk h1 h2⟩

theorem Fm.put4 {SB F n : Nat} {ma fa : Int} {Ws Ws1 : List Wn} {w : World} {i : Nat} {k : Bool} {ne ar fl : Int} {sv sv' : Value} (h : Fm SB F n ma fa Ws1 w) (hset : ∀ W : Wn, Ws1.set i W = Ws.set i W) (hi : Ws1[i]? = some ⟨k, ne, ar, fl, sv⟩) :
    Fm SB F n ma fa (Ws.set i ⟨k, ne, ar, fl, sv'⟩) (w.setCell ⟨SB, i * 5 + 4, none⟩ sv') := by
  obtain ⟨hiL, hWi⟩ := List.getElem?_eq_some_iff.1 hi
  have := h.put i 4 ⟨k, ne, ar, fl, sv'⟩ sv' hiL (by omega) (by rw [hWi]; rfl)
  rwa [hset] at this

set_option maxRecDepth 100000 in
set_option maxHeartbeats 2000000 in
theorem admit_keep (SB F n i : Nat) (ma fa stamp now : Int) (Ws : List Wn) (w : World) (ne ar fl : Int) (g0 cap0 : Nat) (s0 : List Int) (h : Fm SB F n ma fa Ws w) (hi : i < n)
    (hW : Ws[i]? = some ⟨true, ne, ar, fl, .slice (some ⟨g0, 0, none⟩) s0.length cap0⟩) (hs1 : ¬ wrap64 (now - ar) < 0) (hs2 : ¬ fa < wrap64 (now - ar)) (hs3 : ¬ wrap64 (stamp - fl) ≤ 0) (hs4 : ¬ ma ≤ wrap64 (wrap64 (ne + wrap64 (now - ar)) - stamp)) (hown : w.ownsRow (F + 1) 38 1 (.slice (some ⟨g0, 0, none⟩) s0.length cap0) s0.length (ints s0)) (hlen : s0.length ≤ 1000) (hmem : ¬ stamp ∈ s0) (hs5 : ¬ 0 < wrap64 (stamp - ne)) :
    Calls Yba.prog 9 #[.pointer (some ⟨F, 0, none⟩), .int .i64 i, .int .i64 stamp, .int .i64 now] w fun e w' => e = .returned (.string ⟨#[]⟩) ∧ Left SB F n i ma fa ne ar fl ((s0 ++ [stamp]).filter fun x => !strikes fl ne x) Ws (some g0) w w' := by
  have hiI : (i : Int) < (n : Int) := by omega
  obtain ⟨c0, c1, c2, c3, c4, z0, z1, z2, z3, z4⟩ := h.five hW
  obtain ⟨f0, f1, f2⟩ := h.fcells
  have hF : F < w.heap.size := lt_of_block h.f
  have hSF := h.lt
  have hSB : SB < w.heap.size := by omega
  obtain ⟨si, hsieq⟩ : ∃ si, wrap64 (now - ar) = si := ⟨_, rfl⟩
  rw [hsieq] at hs1 hs2 hs4
  have hb1 : decide (si < 0) = false := decide_eq_false hs1
  have hb2 : decide (fa < si) = false := decide_eq_false hs2
  obtain ⟨s3, hs3eq⟩ : ∃ s3, wrap64 (stamp - fl) = s3 := ⟨_, rfl⟩
  rw [hs3eq] at hs3
  have hb3 : decide (s3 ≤ 0) = false := decide_eq_false hs3
  obtain ⟨ck, hckeq⟩ : ∃ ck, wrap64 (ne + si) = ck := ⟨_, rfl⟩
  rw [hckeq] at hs4
  obtain ⟨s4, hs4eq⟩ : ∃ s4, wrap64 (ck - stamp) = s4 := ⟨_, rfl⟩
  rw [hs4eq] at hs4
  have hb4 : decide (ma ≤ s4) = false := decide_eq_false hs4
  obtain ⟨s5, hs5eq⟩ : ∃ s5, wrap64 (stamp - ne) = s5 := ⟨_, rfl⟩
  rw [hs5eq] at hs5
  have hb5 : decide (0 < s5) = false := decide_eq_false hs5
  have hcs : ∀ t, t < s0.length → w.cell? ⟨g0, t, none⟩ = some (.int .i64 (nth s0 t)) := fun t ht => by rw [hown.cellAt t (by omega), ints_nth s0 t ht]
  have hg0 : F < g0 ∧ g0 < w.heap.size := by have := hown.lt g0 rfl; omega
  have hg0' : g0 < w.heap.size := hg0.2
  have Hcs : Hid (∀ t, t < s0.length → w.cell? ⟨g0, t, none⟩ = some (.int .i64 (nth s0 t))) := hcs
  have Hmem : Hid (¬ stamp ∈ s0) := hmem
  have Hown : Hid (w.ownsRow (F + 1) 38 1 (.slice (some ⟨g0, 0, none⟩) s0.length cap0) s0.length (ints s0)) := hown
  clear hcs hmem hown
  have Hh : Hid (Fm SB F n ma fa Ws w) := h
  have HW : Hid (Ws[i]? = some ⟨true, ne, ar, fl, .slice (some ⟨g0, 0, none⟩) s0.length cap0⟩) := hW
  have HhiL : Hid (i < Ws.length) := by rw [h.len]; exact hi
  clear h hW
  go_enter Yba.func9, Yba.ntmps9
  go_wp2_with fail
  refine (since_any _ _ _).mono ?_
  rintro e w1 ⟨rfl, rfl⟩
  rw [hsieq]
  go_wp2_with fail
  go_quiet ((first | (go_at_call 13; exact Calls.quiet_of_same (since_any _ _ _)) | (go_at_call 14; exact Calls.quiet_of_same (add_any _ _ _))))
  go_wp2_with fail
  have hk := kept_of Hh.out (Obj.cells #[Value.pointer (some { block := SB, off := i * 5 })] 40) nq
  have q0 : ((w.alloc (Obj.cells #[Value.pointer (some { block := SB, off := i * 5 })] 40)).drewN nq).cell? ⟨w.heap.size, 0, none⟩ = some (.pointer (some ⟨SB, i * 5, none⟩)) := by
    show (w.alloc _).cell? ⟨w.heap.size, 0, none⟩ = _
    rw [World.cell?_alloc_at _ _ _ _ rfl]; rfl
  have hcsW : ∀ t, t < s0.length → ((w.alloc (Obj.cells #[Value.pointer (some { block := SB, off := i * 5 })] 40)).drewN nq).cell? ⟨g0, t, none⟩ = some (.int .i64 (nth s0 t)) := fun t ht => by
    show (w.alloc _).cell? ⟨g0, t, none⟩ = _
    rw [World.cell?_alloc_past _ _ _ hg0']; exact Hcs.out t ht
  have hownW : ((w.alloc (Obj.cells #[Value.pointer (some { block := SB, off := i * 5 })] 40)).drewN nq).ownsRow (F + 1) 38 1 (.slice (some ⟨g0, 0, none⟩) s0.length cap0) s0.length (ints s0) := Hown.out.alloc (Obj.cells #[Value.pointer (some { block := SB, off := i * 5 })] 40)
  have hszW : ((w.alloc (Obj.cells #[Value.pointer (some { block := SB, off := i * 5 })] 40)).drewN nq).heap.size = w.heap.size + 1 := by show (w.alloc _).heap.size = _; simp
  obtain ⟨V, hVe⟩ : ∃ V, V = w.heap.size := ⟨_, rfl⟩
  rw [← hVe] at q0 hSB hF hg0 hszW ⊢
  clear c0 c1 c2 c3 c4 z0 z1 z2 z3 z4 f0 f1 f2
  generalize (w.alloc (Obj.cells #[Value.pointer (some { block := SB, off := i * 5 })] 40)).drewN nq = W0 at hk q0 hcsW hownW hszW ⊢
  obtain ⟨c0, c1, c2, c3, c4, z0, z1, z2, z3, z4⟩ := hk.1.five HW.out
  obtain ⟨f0, f1, f2⟩ := hk.1.fcells
  have HcsW : Hid (∀ t, t < s0.length → W0.cell? ⟨g0, t, none⟩ = some (.int .i64 (nth s0 t))) := hcsW
  have HownW : Hid (W0.ownsRow (F + 1) 38 1 (.slice (some ⟨g0, 0, none⟩) s0.length cap0) s0.length (ints s0)) := hownW
  have HszW : Hid (W0.heap.size = V + 1) := hszW
  have HVe : Hid (V = w.heap.size) := hVe
  clear hcsW hownW hszW hVe hg0'
  have Hk : Hid (Kept SB F n ma fa Ws w W0) := hk
  clear hk
  go_quiet ((first | (go_at_call 13; exact Calls.quiet_of_same (since_any _ _ _)) | (go_at_call 14; exact Calls.quiet_of_same (add_any _ _ _))))
  go_wp2_with fail
  refine (contains_any g0 s0.length cap0 s0 stamp _ rfl (by omega) ?_).mono ?_
  · exact fun t ht => HcsW.out t ht
  rintro e w2 ⟨rfl, rfl⟩
  have hd : decide (stamp ∈ s0) = false := decide_eq_false Hmem.out
  rw [hd]
  go_wp2_with fail
  clear hd
  have hk1 := Hk.out.drewN nq
  have q1 : (W0.drewN nq).cell? ⟨V, 0, none⟩ = some (.pointer (some ⟨SB, i * 5, none⟩)) := q0
  have hown1 : (W0.drewN nq).ownsRow (F + 1) 38 1 (.slice (some ⟨g0, 0, none⟩) s0.length cap0) s0.length (ints s0) := HownW.out
  have hsz1 : (W0.drewN nq).heap.size = V + 1 := HszW.out
  clear c0 c1 c2 c3 c4 z0 z1 z2 z3 z4 f0 f1 f2 HownW HszW Hk q0 HcsW
  generalize W0.drewN nq = W1 at hk1 q1 hown1 hsz1 ⊢
  clear W0
  obtain ⟨c0, c1, c2, c3, c4, z0, z1, z2, z3, z4⟩ := hk1.1.five HW.out
  obtain ⟨f0, f1, f2⟩ := hk1.1.fcells
  obtain ⟨i0, hi0, hy0, hy1, hy2⟩ := info_parts Yba.info38'
  have HFm : Hid (Fm SB F n ma fa Ws W1) := hk1.1
  have HFr : Hid (Fr SB (some g0) w W1) := ⟨hk1.2.os, hk1.2.tape, hk1.2.output, hk1.2.size, fun k a b c => hk1.2.block k a b (by simp)⟩
  have Hsz : Hid (W1.heap.size = V + 1) := hsz1
  have HownW : Hid (W1.ownsRow (F + 1) 38 1 (.slice (some ⟨g0, 0, none⟩) s0.length cap0) s0.length (ints s0)) := hown1
  have hszI : V < W1.heap.size := by omega
  have hszF : F < W1.heap.size := by omega
  have hszS : SB < W1.heap.size := by omega
  have hVg : ¬ V = g0 := by omega
  clear hk1 hown1 hsz1
  refine Until.begin_ (S := (fun w' => w'.cell? ⟨V, 0, none⟩ = some (.pointer (some ⟨SB, i * 5, none⟩)) ∧ w'.cell? ⟨SB, i * 5 + 4, none⟩ = some (.slice (some ⟨g0, 0, none⟩) s0.length cap0))) 10 (by kernel_rfl) ⟨q1, c4⟩ (fun hHeld => ?_)
  refine Until.take (i := 0) (v := ?_) rfl (by kernel_rfl) (by kernel_rfl) (by kernel_rfl) (by kernel_rfl) (fun _ _ _ h => h) (by assumption) (Or.inl ⟨by rfl, ?_⟩) ?_
  rotate_left
  · intro w hSw
    try dsimp only at hSw
    go_simp
    first | done | (with_reducible rfl)
  try simp only [Act.put, List.setIfInBounds_toArray, List.set_cons_zero, List.set_cons_succ]
  refine Until.take (i := 1) (v := ?_) rfl (by kernel_rfl) (by kernel_rfl) (by kernel_rfl) (by kernel_rfl) (fun _ _ _ h => h) (by assumption) (Or.inl ⟨by rfl, ?_⟩) ?_
  rotate_left
  · intro w hSw
    try dsimp only at hSw
    go_simp
    first | done | (with_reducible rfl)
  try simp only [Act.put, List.setIfInBounds_toArray, List.set_cons_zero, List.set_cons_succ]
  refine Until.take (i := 2) (v := ?_) rfl (by kernel_rfl) (by kernel_rfl) (by kernel_rfl) (by kernel_rfl) (fun _ _ _ h => h) (by assumption) (Or.inl ⟨by rfl, ?_⟩) ?_
  rotate_left
  · intro w hSw
    try dsimp only at hSw
    go_simp
    first | done | (with_reducible rfl)
  try simp only [Act.put, List.setIfInBounds_toArray, List.set_cons_zero, List.set_cons_succ]
  refine Until.take (i := 3) (v := ?_) rfl (by kernel_rfl) (by kernel_rfl) (by kernel_rfl) (by kernel_rfl) (fun _ _ _ h => h) (by assumption) (Or.inl ⟨by rfl, ?_⟩) ?_
  rotate_left
  · intro w hSw
    try dsimp only at hSw
    go_simp
    first | done | (with_reducible rfl)
  try simp only [Act.put, List.setIfInBounds_toArray, List.set_cons_zero, List.set_cons_succ]
  refine Until.take (i := 4) (v := ?_) rfl (by kernel_rfl) (by kernel_rfl) (by kernel_rfl) (by kernel_rfl) (fun _ _ _ h => h) (by assumption) (Or.inl ⟨by rfl, ?_⟩) ?_
  rotate_left
  · intro w hSw
    try dsimp only at hSw
    go_simp
    first | done | (with_reducible rfl)
  try simp only [Act.put, List.setIfInBounds_toArray, List.set_cons_zero, List.set_cons_succ]
  refine Until.take (i := 5) (v := ?_) rfl (by kernel_rfl) (by kernel_rfl) (by kernel_rfl) (by kernel_rfl) (fun _ _ _ h => h) (by assumption) (Or.inl ⟨by rfl, ?_⟩) ?_
  rotate_left
  · intro w hSw
    try dsimp only at hSw
    go_simp
    first | done | (with_reducible rfl)
  try simp only [Act.put, List.setIfInBounds_toArray, List.set_cons_zero, List.set_cons_succ]
  refine Until.ready (rs := [6]) (by kernel_rfl) (by simp) ?_
  refine Until.cons rfl (fun K hK => ?_) Until.nil
  go_simp
  refine hK.out _ _ ⟨by rw [World.cell?_drew, World.cell?_alloc_past _ _ _ hszI]; exact q1, by rw [World.cell?_drew, World.cell?_alloc_past _ _ _ hszS]; exact c4⟩ (fun hHeld => ?_)
  clear hK K
  try simp only [Act.put, List.setIfInBounds_toArray, List.set_cons_zero, List.set_cons_succ]
  refine Until.ready (rs := [7]) (by kernel_rfl) (by simp) ?_
  refine Until.cons rfl (fun K hK => ?_) Until.nil
  refine step_append_lies _ rfl (.tmp 109) (.tmp 111) 41 rfl (F + 1) 38 i0 (.int .i64 0) 1 8 Yba.underlying41 hi0 hy0 hy1 hy2 rfl (by decide) (.slice (some ⟨g0, 0, none⟩) s0.length cap0) s0.length (ints s0) (by rfl) (by exact (HownW.out.alloc _).drew) ⟨W1.heap.size, 0, none⟩ 1 1 [.int .i64 stamp] (by rfl) rfl (by exact news_one _ _ _ _ rfl) (by simp [Value.oneCell']) (by omega) (by unfold maxLen; omega) (by omega) (by simp; omega) (W1.heap.size + 1) (by simp) ?_
  intro g cap w1 hown1 hgr1 hat1 hlt1
  have hFm1 := ((HFm.out.of_alloc (.cells #[.int .i64 stamp] 38)).of_drew).of_grown hgr1 (fun k hk => by simp [Value.ownBlock] at hk; omega)
  obtain ⟨d0, d1, d2, d3, d4, e0, e1, e2, e3, e4⟩ := hFm1.five HW.out
  have kV := keepV q1 hgr1 (by simp [Value.ownBlock]; omega)
  refine hK.out _ _ ⟨kV, d4⟩ (fun hHeld => ?_)
  clear hK K
  try simp only [Act.put, List.setIfInBounds_toArray, List.set_cons_zero, List.set_cons_succ]
  refine Until.ready (rs := [8]) (by kernel_rfl) (by simp) ?_
  refine Until.cons rfl (fun K hK => ?_) Until.nil
  go_simp
  refine hK.out _ _ ⟨kV, d4⟩ (fun hHeld => ?_)
  clear hK K
  try simp only [Act.put, List.setIfInBounds_toArray, List.set_cons_zero, List.set_cons_succ]
  refine Until.take (i := 9) (v := ?_) rfl (by kernel_rfl) (by kernel_rfl) (by kernel_rfl) (by kernel_rfl) (fun _ _ _ h => h) (by assumption) (Or.inl ⟨by rfl, ?_⟩) ?_
  rotate_left
  · intro w hSw
    try dsimp only at hSw
    go_simp
    first | done | (with_reducible rfl)
  try simp only [Act.put, List.setIfInBounds_toArray, List.set_cons_zero, List.set_cons_succ]
  refine Until.ready (rs := [10]) (by kernel_rfl) (by simp) ?_
  refine Until.cons_last rfl (fun K hK => ?_) Until.nil
  go_simp
  refine hK.out _ _ ?_
  clear hK K
  try simp only [Act.put, List.setIfInBounds_toArray, List.set_cons_zero, List.set_cons_succ]
  refine Until.done (by kernel_rfl) ?_ _
  have hFm2 := hFm1.put4 (sv' := .slice (some ⟨g, 0, none⟩) (s0.length + 1) cap) (fun _ => rfl) HW.out
  have hown2 := ownsRow_setCell_below (a := ⟨SB, i * 5 + 4, none⟩) hown1 (by simp; omega) (.slice (some ⟨g, 0, none⟩) (s0.length + 1) cap)
  have hints : ints s0 ++ [.int .i64 stamp] = ints (s0 ++ [stamp]) := by simp [ints]
  have hFr2 := (((HFr.out.alloc (.cells #[.int .i64 stamp] 38)).drew).grown hgr1 (fun k hk => .inr hk)).setCell (p := ⟨SB, i * 5 + 4, none⟩) (.inl rfl) (.slice (some ⟨g, 0, none⟩) (s0.length + 1) cap)
  have hgat : (some g0 = some g ∨ w.heap.size ≤ g) ∧ g ≠ V := by
    have hv := HVe.out
    have h1 := Hsz.out
    rcases hat1 with e | e
    · exact ⟨.inl e, by rintro rfl; exact hVg (Option.some.inj e).symm⟩
    · exact ⟨.inr (by omega), by omega⟩
  have kV2 : (w1.setCell ⟨SB, i * 5 + 4, none⟩ (.slice (some ⟨g, 0, none⟩) (s0.length + 1) cap)).cell? ⟨V, 0, none⟩ = some (.pointer (some ⟨SB, i * 5, none⟩)) := by
    rw [← kV]; simp only [World.cell?]; rw [heap_setCell_other _ _ _ _ (by simp; omega)]
  rw [hints] at hown2
  clear hints hFm1 d0 d1 d2 d3 d4 e0 e1 e2 e3 e4 kV hown1 hgr1 hat1 hlt1 hHeld HFm HFr Hsz HownW hszI hszF hszS q1 c0 c1 c2 c3 c4 z0 z1 z2 z3 z4 f0 f1 f2
  generalize w1.setCell ⟨SB, i * 5 + 4, none⟩ (.slice (some ⟨g, 0, none⟩) (s0.length + 1) cap) = W2 at hFm2 hown2 hFr2 kV2 ⊢
  have HW2 : Hid ((Ws.set i ⟨true, ne, ar, fl, .slice (some ⟨g, 0, none⟩) (s0.length + 1) cap⟩)[i]? = some ⟨true, ne, ar, fl, .slice (some ⟨g, 0, none⟩) (s0.length + 1) cap⟩) := List.getElem?_set_self HhiL.out
  obtain ⟨c0, c1, c2, c3, c4, z0, z1, z2, z3, z4⟩ := hFm2.five HW2.out
  obtain ⟨f0, f1, f2⟩ := hFm2.fcells
  have HFm : Hid (Fm SB F n ma fa (Ws.set i ⟨true, ne, ar, fl, .slice (some ⟨g, 0, none⟩) (s0.length + 1) cap⟩) W2) := hFm2
  have HFr : Hid (Fr SB (some g0) w W2) := hFr2
  have HownW : Hid (W2.ownsRow (F + 1) 38 1 (.slice (some ⟨g, 0, none⟩) (s0.length + 1) cap) (s0.length + 1) (ints (s0 ++ [stamp]))) := hown2
  have Hgat : Hid (some g0 = some g ∨ w.heap.size ≤ g) := hgat.1
  have hgV : ¬ V = g := fun e => hgat.2 e.symm
  have hgF : F < g := by have := (hown2.lt g rfl).1; omega
  clear hFm2 hFr2 hown2 hgat
  go_wp2_with fail
  refine (since_any _ _ _).mono ?_
  rintro e W3 ⟨rfl, rfl⟩
  rw [hs5eq]
  go_wp2_with fail
  refine wp_loop_rounds 1 ?_
  rw [rounds_succ]
  have hdel := deleted_any F g cap V SB (i * 5) fl ne (s0 ++ [stamp]) W3.drew (by exact kV2) (by exact c3) (by exact c1) (by rw [List.length_append]; exact HownW.out) (by omega) hgV
  rw [List.length_append] at hdel
  obtain ⟨r, hr⟩ : ∃ r, r = (s0 ++ [stamp]).filter fun x => !strikes fl ne x := ⟨_, rfl⟩
  have hrl : r.length ≤ s0.length + 1 := by
    have := List.length_filter_le (fun x => !strikes fl ne x) (s0 ++ [stamp])
    rw [← hr, List.length_append] at this
    exact this
  rw [← hr] at hdel
  have Hr : Hid (r = (s0 ++ [stamp]).filter fun x => !strikes fl ne x) := hr
  clear hr
  have hrI : (r.length : Int) ≤ 1024 := by omega
  go_wp2_with fail
  refine Until.begin_ (S := (fun w' => w'.cell? ⟨V, 0, none⟩ = some (.pointer (some ⟨SB, i * 5, none⟩)) ∧ w'.cell? ⟨SB, i * 5 + 4, none⟩ = some (.slice (some ⟨g, 0, none⟩) (s0.length + 1) cap))) 9 (by kernel_rfl) ⟨kV2, c4⟩ (fun hHeld => ?_)
  refine Until.take (i := 0) (v := ?_) rfl (by kernel_rfl) (by kernel_rfl) (by kernel_rfl) (by kernel_rfl) (fun _ _ _ h => h) (by assumption) (Or.inl ⟨by rfl, ?_⟩) ?_
  rotate_left
  · intro w hSw
    try dsimp only at hSw
    go_simp
    first | done | (with_reducible rfl)
  try simp only [Act.put, List.setIfInBounds_toArray, List.set_cons_zero, List.set_cons_succ]
  refine Until.take (i := 1) (v := ?_) rfl (by kernel_rfl) (by kernel_rfl) (by kernel_rfl) (by kernel_rfl) (fun _ _ _ h => h) (by assumption) (Or.inl ⟨by rfl, ?_⟩) ?_
  rotate_left
  · intro w hSw
    try dsimp only at hSw
    go_simp
    first | done | (with_reducible rfl)
  try simp only [Act.put, List.setIfInBounds_toArray, List.set_cons_zero, List.set_cons_succ]
  refine Until.take (i := 2) (v := ?_) rfl (by kernel_rfl) (by kernel_rfl) (by kernel_rfl) (by kernel_rfl) (fun _ _ _ h => h) (by assumption) (Or.inl ⟨by rfl, ?_⟩) ?_
  rotate_left
  · intro w hSw
    try dsimp only at hSw
    go_simp
    first | done | (with_reducible rfl)
  try simp only [Act.put, List.setIfInBounds_toArray, List.set_cons_zero, List.set_cons_succ]
  refine Until.take (i := 3) (v := ?_) rfl (by kernel_rfl) (by kernel_rfl) (by kernel_rfl) (by kernel_rfl) (fun _ _ _ h => h) (by assumption) (Or.inl ⟨by rfl, ?_⟩) ?_
  rotate_left
  · intro w hSw
    try dsimp only at hSw
    go_simp
    first | done | (with_reducible rfl)
  try simp only [Act.put, List.setIfInBounds_toArray, List.set_cons_zero, List.set_cons_succ]
  refine Until.take (i := 4) (v := ?_) rfl (by kernel_rfl) (by kernel_rfl) (by kernel_rfl) (by kernel_rfl) (fun _ _ _ h => h) (by assumption) (Or.inl ⟨by rfl, ?_⟩) ?_
  rotate_left
  · intro w hSw
    try dsimp only at hSw
    go_simp
    first | done | (with_reducible rfl)
  try simp only [Act.put, List.setIfInBounds_toArray, List.set_cons_zero, List.set_cons_succ]
  refine Until.take (i := 5) (v := ?_) rfl (by kernel_rfl) (by kernel_rfl) (by kernel_rfl) (by kernel_rfl) (fun _ _ _ h => h) (by assumption) (Or.inl ⟨by rfl, ?_⟩) ?_
  rotate_left
  · intro w hSw
    try dsimp only at hSw
    go_simp
    first | done | (with_reducible rfl)
  try simp only [Act.put, List.setIfInBounds_toArray, List.set_cons_zero, List.set_cons_succ]
  refine Until.ready (rs := [6]) (by kernel_rfl) (by simp) ?_
  refine Until.cons rfl (fun K hK => ?_) Until.nil
  go_simp
  refine hdel.mono ?_
  rintro e w' ⟨rfl, hR, hown3⟩
  obtain ⟨d0, d1, d2, d3, d4, e0, e1, e2, e3, e4⟩ := ((HFm.out.of_drew).of_row1 hR hgF).five HW2.out
  go_wp2_with fail
  refine hK.out _ _ ⟨(hR.cell ⟨V, 0, none⟩ (by simp; omega)).trans kV2, (hR.cell ⟨SB, i * 5 + 4, none⟩ (by simp; omega)).trans c4⟩ (fun hHeld => ?_)
  clear hK K
  try simp only [Act.put, List.setIfInBounds_toArray, List.set_cons_zero, List.set_cons_succ]
  refine Until.ready (rs := [7]) (by kernel_rfl) (by simp) ?_
  refine Until.cons rfl (fun K hK => ?_) Until.nil
  go_simp
  refine hK.out _ _ ⟨(hR.cell ⟨V, 0, none⟩ (by simp; omega)).trans kV2, (hR.cell ⟨SB, i * 5 + 4, none⟩ (by simp; omega)).trans c4⟩ (fun hHeld => ?_)
  clear hK K
  try simp only [Act.put, List.setIfInBounds_toArray, List.set_cons_zero, List.set_cons_succ]
  refine Until.take (i := 8) (v := ?_) rfl (by kernel_rfl) (by kernel_rfl) (by kernel_rfl) (by kernel_rfl) (fun _ _ _ h => h) (by assumption) (Or.inl ⟨by rfl, ?_⟩) ?_
  rotate_left
  · intro w hSw
    try dsimp only at hSw
    go_simp
    first | done | (with_reducible rfl)
  try simp only [Act.put, List.setIfInBounds_toArray, List.set_cons_zero, List.set_cons_succ]
  refine Until.ready (rs := [9]) (by kernel_rfl) (by simp) ?_
  refine Until.cons_last rfl (fun K hK => ?_) Until.nil
  go_simp
  refine hK.out _ _ ?_
  clear hK K
  try simp only [Act.put, List.setIfInBounds_toArray, List.set_cons_zero, List.set_cons_succ]
  refine Until.done (by kernel_rfl) ?_ _
  have hFm4 := ((HFm.out.of_drew).of_row1 hR hgF).put4 (Ws := Ws) (sv' := .slice (some ⟨g, 0, none⟩) r.length cap) (fun W => List.set_set _) HW2.out
  have hown4 := ownsRow_setCell_below (a := ⟨SB, i * 5 + 4, none⟩) hown3 (by simp; omega) (.slice (some ⟨g, 0, none⟩) r.length cap)
  have hFr4 := ((HFr.out.drew).row1 hR Hgat.out).setCell (p := ⟨SB, i * 5 + 4, none⟩) (.inl rfl) (.slice (some ⟨g, 0, none⟩) r.length cap)
  have kV4 : (w'.setCell ⟨SB, i * 5 + 4, none⟩ (.slice (some ⟨g, 0, none⟩) r.length cap)).cell? ⟨V, 0, none⟩ = some (.pointer (some ⟨SB, i * 5, none⟩)) := by
    rw [← hHeld.1]; simp only [World.cell?]; rw [heap_setCell_other _ _ _ _ (by simp; omega)]
  clear hHeld hdel hown3 hR d0 d1 d2 d3 d4 e0 e1 e2 e3 e4 c0 c1 c2 c3 c4 z0 z1 z2 z3 z4 f0 f1 f2 kV2
  generalize w'.setCell ⟨SB, i * 5 + 4, none⟩ (.slice (some ⟨g, 0, none⟩) r.length cap) = W4 at hFm4 hown4 hFr4 kV4 ⊢
  have c4 := (hFm4.five (List.getElem?_set_self HhiL.out)).2.2.2.2.1
  have HE : Hid (Left SB F n i ma fa ne ar fl r Ws (some g0) w W4) := ⟨g, cap, hFm4, hown4, Hgat.out, hFr4⟩
  clear hFm4 hown4 hFr4
  go_wp2_with fail
  go_ret
  exact ⟨rfl, by rw [← List.filter_append, ← Hr.out]; exact HE.out⟩

set_option maxRecDepth 100000 in
set_option maxHeartbeats 2000000 in
theorem admit_up (SB F n i : Nat) (ma fa stamp now : Int) (Ws : List Wn) (w : World) (ne ar fl : Int) (g0 cap0 : Nat) (s0 : List Int) (h : Fm SB F n ma fa Ws w) (hi : i < n)
    (hW : Ws[i]? = some ⟨true, ne, ar, fl, .slice (some ⟨g0, 0, none⟩) s0.length cap0⟩) (hs1 : ¬ wrap64 (now - ar) < 0) (hs2 : ¬ fa < wrap64 (now - ar)) (hs3 : ¬ wrap64 (stamp - fl) ≤ 0) (hs4 : ¬ ma ≤ wrap64 (wrap64 (ne + wrap64 (now - ar)) - stamp)) (hown : w.ownsRow (F + 1) 38 1 (.slice (some ⟨g0, 0, none⟩) s0.length cap0) s0.length (ints s0)) (hlen : s0.length ≤ 1000) (hmem : ¬ stamp ∈ s0) (hs5 : 0 < wrap64 (stamp - ne)) (hs6 : 0 < wrap64 (wrap64 (stamp + wrap64 (-ma)) - fl)) :
    Calls Yba.prog 9 #[.pointer (some ⟨F, 0, none⟩), .int .i64 i, .int .i64 stamp, .int .i64 now] w fun e w' => e = .returned (.string ⟨#[]⟩) ∧ Left SB F n i ma fa stamp now (wrap64 (stamp + wrap64 (-ma))) ((s0 ++ [stamp]).filter fun x => !strikes (wrap64 (stamp + wrap64 (-ma))) stamp x) Ws (some g0) w w' := by
  have hiI : (i : Int) < (n : Int) := by omega
  obtain ⟨c0, c1, c2, c3, c4, z0, z1, z2, z3, z4⟩ := h.five hW
  obtain ⟨f0, f1, f2⟩ := h.fcells
  have hF : F < w.heap.size := lt_of_block h.f
  have hSF := h.lt
  have hSB : SB < w.heap.size := by omega
  obtain ⟨si, hsieq⟩ : ∃ si, wrap64 (now - ar) = si := ⟨_, rfl⟩
  rw [hsieq] at hs1 hs2 hs4
  have hb1 : decide (si < 0) = false := decide_eq_false hs1
  have hb2 : decide (fa < si) = false := decide_eq_false hs2
  obtain ⟨s3, hs3eq⟩ : ∃ s3, wrap64 (stamp - fl) = s3 := ⟨_, rfl⟩
  rw [hs3eq] at hs3
  have hb3 : decide (s3 ≤ 0) = false := decide_eq_false hs3
  obtain ⟨ck, hckeq⟩ : ∃ ck, wrap64 (ne + si) = ck := ⟨_, rfl⟩
  rw [hckeq] at hs4
  obtain ⟨s4, hs4eq⟩ : ∃ s4, wrap64 (ck - stamp) = s4 := ⟨_, rfl⟩
  rw [hs4eq] at hs4
  have hb4 : decide (ma ≤ s4) = false := decide_eq_false hs4
  obtain ⟨s5, hs5eq⟩ : ∃ s5, wrap64 (stamp - ne) = s5 := ⟨_, rfl⟩
  rw [hs5eq] at hs5
  have hb5 : decide (0 < s5) = true := decide_eq_true hs5
  obtain ⟨bd, hbdeq⟩ : ∃ bd, wrap64 (stamp + wrap64 (-ma)) = bd := ⟨_, rfl⟩
  rw [hbdeq] at hs6 ⊢
  obtain ⟨s6, hs6eq⟩ : ∃ s6, wrap64 (bd - fl) = s6 := ⟨_, rfl⟩
  rw [hs6eq] at hs6
  have hb6 : decide (0 < s6) = true := decide_eq_true hs6
  have Hbdeq : Hid (wrap64 (stamp + wrap64 (-ma)) = bd) := hbdeq
  clear hbdeq
  have hcs : ∀ t, t < s0.length → w.cell? ⟨g0, t, none⟩ = some (.int .i64 (nth s0 t)) := fun t ht => by rw [hown.cellAt t (by omega), ints_nth s0 t ht]
  have hg0 : F < g0 ∧ g0 < w.heap.size := by have := hown.lt g0 rfl; omega
  have hg0' : g0 < w.heap.size := hg0.2
  have Hcs : Hid (∀ t, t < s0.length → w.cell? ⟨g0, t, none⟩ = some (.int .i64 (nth s0 t))) := hcs
  have Hmem : Hid (¬ stamp ∈ s0) := hmem
  have Hown : Hid (w.ownsRow (F + 1) 38 1 (.slice (some ⟨g0, 0, none⟩) s0.length cap0) s0.length (ints s0)) := hown
  clear hcs hmem hown
  have Hh : Hid (Fm SB F n ma fa Ws w) := h
  have HW : Hid (Ws[i]? = some ⟨true, ne, ar, fl, .slice (some ⟨g0, 0, none⟩) s0.length cap0⟩) := hW
  have HhiL : Hid (i < Ws.length) := by rw [h.len]; exact hi
  clear h hW
  go_enter Yba.func9, Yba.ntmps9
  go_wp2_with fail
  refine (since_any _ _ _).mono ?_
  rintro e w1 ⟨rfl, rfl⟩
  rw [hsieq]
  go_wp2_with fail
  go_quiet ((first | (go_at_call 13; exact Calls.quiet_of_same (since_any _ _ _)) | (go_at_call 14; exact Calls.quiet_of_same (add_any _ _ _))))
  go_wp2_with fail
  have hk := kept_of Hh.out (Obj.cells #[Value.pointer (some { block := SB, off := i * 5 })] 40) nq
  have q0 : ((w.alloc (Obj.cells #[Value.pointer (some { block := SB, off := i * 5 })] 40)).drewN nq).cell? ⟨w.heap.size, 0, none⟩ = some (.pointer (some ⟨SB, i * 5, none⟩)) := by
    show (w.alloc _).cell? ⟨w.heap.size, 0, none⟩ = _
    rw [World.cell?_alloc_at _ _ _ _ rfl]; rfl
  have hcsW : ∀ t, t < s0.length → ((w.alloc (Obj.cells #[Value.pointer (some { block := SB, off := i * 5 })] 40)).drewN nq).cell? ⟨g0, t, none⟩ = some (.int .i64 (nth s0 t)) := fun t ht => by
    show (w.alloc _).cell? ⟨g0, t, none⟩ = _
    rw [World.cell?_alloc_past _ _ _ hg0']; exact Hcs.out t ht
  have hownW : ((w.alloc (Obj.cells #[Value.pointer (some { block := SB, off := i * 5 })] 40)).drewN nq).ownsRow (F + 1) 38 1 (.slice (some ⟨g0, 0, none⟩) s0.length cap0) s0.length (ints s0) := Hown.out.alloc (Obj.cells #[Value.pointer (some { block := SB, off := i * 5 })] 40)
  have hszW : ((w.alloc (Obj.cells #[Value.pointer (some { block := SB, off := i * 5 })] 40)).drewN nq).heap.size = w.heap.size + 1 := by show (w.alloc _).heap.size = _; simp
  obtain ⟨V, hVe⟩ : ∃ V, V = w.heap.size := ⟨_, rfl⟩
  rw [← hVe] at q0 hSB hF hg0 hszW ⊢
  clear c0 c1 c2 c3 c4 z0 z1 z2 z3 z4 f0 f1 f2
  generalize (w.alloc (Obj.cells #[Value.pointer (some { block := SB, off := i * 5 })] 40)).drewN nq = W0 at hk q0 hcsW hownW hszW ⊢
  obtain ⟨c0, c1, c2, c3, c4, z0, z1, z2, z3, z4⟩ := hk.1.five HW.out
  obtain ⟨f0, f1, f2⟩ := hk.1.fcells
  have HcsW : Hid (∀ t, t < s0.length → W0.cell? ⟨g0, t, none⟩ = some (.int .i64 (nth s0 t))) := hcsW
  have HownW : Hid (W0.ownsRow (F + 1) 38 1 (.slice (some ⟨g0, 0, none⟩) s0.length cap0) s0.length (ints s0)) := hownW
  have HszW : Hid (W0.heap.size = V + 1) := hszW
  have HVe : Hid (V = w.heap.size) := hVe
  clear hcsW hownW hszW hVe hg0'
  have Hk : Hid (Kept SB F n ma fa Ws w W0) := hk
  clear hk
  go_quiet ((first | (go_at_call 13; exact Calls.quiet_of_same (since_any _ _ _)) | (go_at_call 14; exact Calls.quiet_of_same (add_any _ _ _))))
  go_wp2_with fail
  refine (contains_any g0 s0.length cap0 s0 stamp _ rfl (by omega) ?_).mono ?_
  · exact fun t ht => HcsW.out t ht
  rintro e w2 ⟨rfl, rfl⟩
  have hd : decide (stamp ∈ s0) = false := decide_eq_false Hmem.out
  rw [hd]
  go_wp2_with fail
  clear hd
  have hk1 := Hk.out.drewN nq
  have q1 : (W0.drewN nq).cell? ⟨V, 0, none⟩ = some (.pointer (some ⟨SB, i * 5, none⟩)) := q0
  have hown1 : (W0.drewN nq).ownsRow (F + 1) 38 1 (.slice (some ⟨g0, 0, none⟩) s0.length cap0) s0.length (ints s0) := HownW.out
  have hsz1 : (W0.drewN nq).heap.size = V + 1 := HszW.out
  clear c0 c1 c2 c3 c4 z0 z1 z2 z3 z4 f0 f1 f2 HownW HszW Hk q0 HcsW
  generalize W0.drewN nq = W1 at hk1 q1 hown1 hsz1 ⊢
  clear W0
  obtain ⟨c0, c1, c2, c3, c4, z0, z1, z2, z3, z4⟩ := hk1.1.five HW.out
  obtain ⟨f0, f1, f2⟩ := hk1.1.fcells
  obtain ⟨i0, hi0, hy0, hy1, hy2⟩ := info_parts Yba.info38'
  have HFm : Hid (Fm SB F n ma fa Ws W1) := hk1.1
  have HFr : Hid (Fr SB (some g0) w W1) := ⟨hk1.2.os, hk1.2.tape, hk1.2.output, hk1.2.size, fun k a b c => hk1.2.block k a b (by simp)⟩
  have Hsz : Hid (W1.heap.size = V + 1) := hsz1
  have HownW : Hid (W1.ownsRow (F + 1) 38 1 (.slice (some ⟨g0, 0, none⟩) s0.length cap0) s0.length (ints s0)) := hown1
  have hszI : V < W1.heap.size := by omega
  have hszF : F < W1.heap.size := by omega
  have hszS : SB < W1.heap.size := by omega
  have hVg : ¬ V = g0 := by omega
  clear hk1 hown1 hsz1
  refine Until.begin_ (S := (fun w' => w'.cell? ⟨V, 0, none⟩ = some (.pointer (some ⟨SB, i * 5, none⟩)) ∧ w'.cell? ⟨SB, i * 5 + 4, none⟩ = some (.slice (some ⟨g0, 0, none⟩) s0.length cap0))) 10 (by kernel_rfl) ⟨q1, c4⟩ (fun hHeld => ?_)
  refine Until.take (i := 0) (v := ?_) rfl (by kernel_rfl) (by kernel_rfl) (by kernel_rfl) (by kernel_rfl) (fun _ _ _ h => h) (by assumption) (Or.inl ⟨by rfl, ?_⟩) ?_
  rotate_left
  · intro w hSw
    try dsimp only at hSw
    go_simp
    first | done | (with_reducible rfl)
  try simp only [Act.put, List.setIfInBounds_toArray, List.set_cons_zero, List.set_cons_succ]
  refine Until.take (i := 1) (v := ?_) rfl (by kernel_rfl) (by kernel_rfl) (by kernel_rfl) (by kernel_rfl) (fun _ _ _ h => h) (by assumption) (Or.inl ⟨by rfl, ?_⟩) ?_
  rotate_left
  · intro w hSw
    try dsimp only at hSw
    go_simp
    first | done | (with_reducible rfl)
  try simp only [Act.put, List.setIfInBounds_toArray, List.set_cons_zero, List.set_cons_succ]
  refine Until.take (i := 2) (v := ?_) rfl (by kernel_rfl) (by kernel_rfl) (by kernel_rfl) (by kernel_rfl) (fun _ _ _ h => h) (by assumption) (Or.inl ⟨by rfl, ?_⟩) ?_
  rotate_left
  · intro w hSw
    try dsimp only at hSw
    go_simp
    first | done | (with_reducible rfl)
  try simp only [Act.put, List.setIfInBounds_toArray, List.set_cons_zero, List.set_cons_succ]
  refine Until.take (i := 3) (v := ?_) rfl (by kernel_rfl) (by kernel_rfl) (by kernel_rfl) (by kernel_rfl) (fun _ _ _ h => h) (by assumption) (Or.inl ⟨by rfl, ?_⟩) ?_
  rotate_left
  · intro w hSw
    try dsimp only at hSw
    go_simp
    first | done | (with_reducible rfl)
  try simp only [Act.put, List.setIfInBounds_toArray, List.set_cons_zero, List.set_cons_succ]
  refine Until.take (i := 4) (v := ?_) rfl (by kernel_rfl) (by kernel_rfl) (by kernel_rfl) (by kernel_rfl) (fun _ _ _ h => h) (by assumption) (Or.inl ⟨by rfl, ?_⟩) ?_
  rotate_left
  · intro w hSw
    try dsimp only at hSw
    go_simp
    first | done | (with_reducible rfl)
  try simp only [Act.put, List.setIfInBounds_toArray, List.set_cons_zero, List.set_cons_succ]
  refine Until.take (i := 5) (v := ?_) rfl (by kernel_rfl) (by kernel_rfl) (by kernel_rfl) (by kernel_rfl) (fun _ _ _ h => h) (by assumption) (Or.inl ⟨by rfl, ?_⟩) ?_
  rotate_left
  · intro w hSw
    try dsimp only at hSw
    go_simp
    first | done | (with_reducible rfl)
  try simp only [Act.put, List.setIfInBounds_toArray, List.set_cons_zero, List.set_cons_succ]
  refine Until.ready (rs := [6]) (by kernel_rfl) (by simp) ?_
  refine Until.cons rfl (fun K hK => ?_) Until.nil
  go_simp
  refine hK.out _ _ ⟨by rw [World.cell?_drew, World.cell?_alloc_past _ _ _ hszI]; exact q1, by rw [World.cell?_drew, World.cell?_alloc_past _ _ _ hszS]; exact c4⟩ (fun hHeld => ?_)
  clear hK K
  try simp only [Act.put, List.setIfInBounds_toArray, List.set_cons_zero, List.set_cons_succ]
  refine Until.ready (rs := [7]) (by kernel_rfl) (by simp) ?_
  refine Until.cons rfl (fun K hK => ?_) Until.nil
  refine step_append_lies _ rfl (.tmp 109) (.tmp 111) 41 rfl (F + 1) 38 i0 (.int .i64 0) 1 8 Yba.underlying41 hi0 hy0 hy1 hy2 rfl (by decide) (.slice (some ⟨g0, 0, none⟩) s0.length cap0) s0.length (ints s0) (by rfl) (by exact (HownW.out.alloc _).drew) ⟨W1.heap.size, 0, none⟩ 1 1 [.int .i64 stamp] (by rfl) rfl (by exact news_one _ _ _ _ rfl) (by simp [Value.oneCell']) (by omega) (by unfold maxLen; omega) (by omega) (by simp; omega) (W1.heap.size + 1) (by simp) ?_
  intro g cap w1 hown1 hgr1 hat1 hlt1
  have hFm1 := ((HFm.out.of_alloc (.cells #[.int .i64 stamp] 38)).of_drew).of_grown hgr1 (fun k hk => by simp [Value.ownBlock] at hk; omega)
  obtain ⟨d0, d1, d2, d3, d4, e0, e1, e2, e3, e4⟩ := hFm1.five HW.out
  have kV := keepV q1 hgr1 (by simp [Value.ownBlock]; omega)
  refine hK.out _ _ ⟨kV, d4⟩ (fun hHeld => ?_)
  clear hK K
  try simp only [Act.put, List.setIfInBounds_toArray, List.set_cons_zero, List.set_cons_succ]
  refine Until.ready (rs := [8]) (by kernel_rfl) (by simp) ?_
  refine Until.cons rfl (fun K hK => ?_) Until.nil
  go_simp
  refine hK.out _ _ ⟨kV, d4⟩ (fun hHeld => ?_)
  clear hK K
  try simp only [Act.put, List.setIfInBounds_toArray, List.set_cons_zero, List.set_cons_succ]
  refine Until.take (i := 9) (v := ?_) rfl (by kernel_rfl) (by kernel_rfl) (by kernel_rfl) (by kernel_rfl) (fun _ _ _ h => h) (by assumption) (Or.inl ⟨by rfl, ?_⟩) ?_
  rotate_left
  · intro w hSw
    try dsimp only at hSw
    go_simp
    first | done | (with_reducible rfl)
  try simp only [Act.put, List.setIfInBounds_toArray, List.set_cons_zero, List.set_cons_succ]
  refine Until.ready (rs := [10]) (by kernel_rfl) (by simp) ?_
  refine Until.cons_last rfl (fun K hK => ?_) Until.nil
  go_simp
  refine hK.out _ _ ?_
  clear hK K
  try simp only [Act.put, List.setIfInBounds_toArray, List.set_cons_zero, List.set_cons_succ]
  refine Until.done (by kernel_rfl) ?_ _
  have hFm2 := hFm1.put4 (sv' := .slice (some ⟨g, 0, none⟩) (s0.length + 1) cap) (fun _ => rfl) HW.out
  have hown2 := ownsRow_setCell_below (a := ⟨SB, i * 5 + 4, none⟩) hown1 (by simp; omega) (.slice (some ⟨g, 0, none⟩) (s0.length + 1) cap)
  have hints : ints s0 ++ [.int .i64 stamp] = ints (s0 ++ [stamp]) := by simp [ints]
  have hFr2 := (((HFr.out.alloc (.cells #[.int .i64 stamp] 38)).drew).grown hgr1 (fun k hk => .inr hk)).setCell (p := ⟨SB, i * 5 + 4, none⟩) (.inl rfl) (.slice (some ⟨g, 0, none⟩) (s0.length + 1) cap)
  have hgat : (some g0 = some g ∨ w.heap.size ≤ g) ∧ g ≠ V := by
    have hv := HVe.out
    have h1 := Hsz.out
    rcases hat1 with e | e
    · exact ⟨.inl e, by rintro rfl; exact hVg (Option.some.inj e).symm⟩
    · exact ⟨.inr (by omega), by omega⟩
  have kV2 : (w1.setCell ⟨SB, i * 5 + 4, none⟩ (.slice (some ⟨g, 0, none⟩) (s0.length + 1) cap)).cell? ⟨V, 0, none⟩ = some (.pointer (some ⟨SB, i * 5, none⟩)) := by
    rw [← kV]; simp only [World.cell?]; rw [heap_setCell_other _ _ _ _ (by simp; omega)]
  rw [hints] at hown2
  clear hints hFm1 d0 d1 d2 d3 d4 e0 e1 e2 e3 e4 kV hown1 hgr1 hat1 hlt1 hHeld HFm HFr Hsz HownW hszI hszF hszS q1 c0 c1 c2 c3 c4 z0 z1 z2 z3 z4 f0 f1 f2
  generalize w1.setCell ⟨SB, i * 5 + 4, none⟩ (.slice (some ⟨g, 0, none⟩) (s0.length + 1) cap) = W2 at hFm2 hown2 hFr2 kV2 ⊢
  have HW2 : Hid ((Ws.set i ⟨true, ne, ar, fl, .slice (some ⟨g, 0, none⟩) (s0.length + 1) cap⟩)[i]? = some ⟨true, ne, ar, fl, .slice (some ⟨g, 0, none⟩) (s0.length + 1) cap⟩) := List.getElem?_set_self HhiL.out
  obtain ⟨c0, c1, c2, c3, c4, z0, z1, z2, z3, z4⟩ := hFm2.five HW2.out
  obtain ⟨f0, f1, f2⟩ := hFm2.fcells
  have HFm : Hid (Fm SB F n ma fa (Ws.set i ⟨true, ne, ar, fl, .slice (some ⟨g, 0, none⟩) (s0.length + 1) cap⟩) W2) := hFm2
  have HFr : Hid (Fr SB (some g0) w W2) := hFr2
  have HownW : Hid (W2.ownsRow (F + 1) 38 1 (.slice (some ⟨g, 0, none⟩) (s0.length + 1) cap) (s0.length + 1) (ints (s0 ++ [stamp]))) := hown2
  have Hgat : Hid (some g0 = some g ∨ w.heap.size ≤ g) := hgat.1
  have hgV : ¬ V = g := fun e => hgat.2 e.symm
  have hgF : F < g := by have := (hown2.lt g rfl).1; omega
  clear hFm2 hFr2 hown2 hgat
  go_wp2_with fail
  refine (since_any _ _ _).mono ?_
  rintro e W3 ⟨rfl, rfl⟩
  rw [hs5eq]
  go_wp2_with fail
  refine Until.begin_ (S := (fun w' => w'.cell? ⟨V, 0, none⟩ = some (.pointer (some ⟨SB, i * 5, none⟩)))) 9 (by kernel_rfl) kV2 (fun hHeld => ?_)
  refine Until.take (i := 0) (v := ?_) rfl (by kernel_rfl) (by kernel_rfl) (by kernel_rfl) (by kernel_rfl) (fun _ _ _ h => h) (by assumption) (Or.inl ⟨by rfl, ?_⟩) ?_
  rotate_left
  · intro w hSw
    try dsimp only at hSw
    go_simp
    first | done | (with_reducible rfl)
  try simp only [Act.put, List.setIfInBounds_toArray, List.set_cons_zero, List.set_cons_succ]
  refine Until.take (i := 1) (v := ?_) rfl (by kernel_rfl) (by kernel_rfl) (by kernel_rfl) (by kernel_rfl) (fun _ _ _ h => h) (by assumption) (Or.inl ⟨by rfl, ?_⟩) ?_
  rotate_left
  · intro w hSw
    try dsimp only at hSw
    go_simp
    first | done | (with_reducible rfl)
  try simp only [Act.put, List.setIfInBounds_toArray, List.set_cons_zero, List.set_cons_succ]
  refine Until.take (i := 2) (v := ?_) rfl (by kernel_rfl) (by kernel_rfl) (by kernel_rfl) (by kernel_rfl) (fun _ _ _ h => h) (by assumption) (Or.inl ⟨by rfl, ?_⟩) ?_
  rotate_left
  · intro w hSw
    try dsimp only at hSw
    go_simp
    first | done | (with_reducible rfl)
  try simp only [Act.put, List.setIfInBounds_toArray, List.set_cons_zero, List.set_cons_succ]
  refine Until.take (i := 3) (v := ?_) rfl (by kernel_rfl) (by kernel_rfl) (by kernel_rfl) (by kernel_rfl) (fun _ _ _ h => h) (by assumption) (Or.inl ⟨by rfl, ?_⟩) ?_
  rotate_left
  · intro w hSw
    try dsimp only at hSw
    go_simp
    first | done | (with_reducible rfl)
  try simp only [Act.put, List.setIfInBounds_toArray, List.set_cons_zero, List.set_cons_succ]
  refine Until.take (i := 4) (v := ?_) rfl (by kernel_rfl) (by kernel_rfl) (by kernel_rfl) (by kernel_rfl) (fun _ _ _ h => h) (by assumption) (Or.inl ⟨by rfl, ?_⟩) ?_
  rotate_left
  · intro w hSw
    try dsimp only at hSw
    go_simp
    first | done | (with_reducible rfl)
  try simp only [Act.put, List.setIfInBounds_toArray, List.set_cons_zero, List.set_cons_succ]
  refine Until.take (i := 5) (v := ?_) rfl (by kernel_rfl) (by kernel_rfl) (by kernel_rfl) (by kernel_rfl) (fun _ _ _ h => h) (by assumption) (Or.inl ⟨by rfl, ?_⟩) ?_
  rotate_left
  · intro w hSw
    try dsimp only at hSw
    go_simp
    first | done | (with_reducible rfl)
  try simp only [Act.put, List.setIfInBounds_toArray, List.set_cons_zero, List.set_cons_succ]
  refine Until.ready (rs := [6]) (by kernel_rfl) (by simp) ?_
  refine Until.cons rfl (fun K hK => ?_) Until.nil
  go_simp
  refine hK.out _ _ (by show (W3.setCell ⟨SB, i * 5 + 1, none⟩ (.int .i64 stamp)).cell? ⟨V, 0, none⟩ = _; rw [← kV2]; simp only [World.cell?]; rw [heap_setCell_other _ _ _ _ (by simp; omega)]) (fun hHeld => ?_)
  clear hK K
  try simp only [Act.put, List.setIfInBounds_toArray, List.set_cons_zero, List.set_cons_succ]
  refine Until.ready (rs := [7]) (by kernel_rfl) (by simp) ?_
  refine Until.cons rfl (fun K hK => ?_) Until.nil
  go_simp
  refine hK.out _ _ (by show (W3.setCell ⟨SB, i * 5 + 1, none⟩ (.int .i64 stamp)).cell? ⟨V, 0, none⟩ = _; rw [← kV2]; simp only [World.cell?]; rw [heap_setCell_other _ _ _ _ (by simp; omega)]) (fun hHeld => ?_)
  clear hK K
  try simp only [Act.put, List.setIfInBounds_toArray, List.set_cons_zero, List.set_cons_succ]
  refine Until.take (i := 8) (v := ?_) rfl (by kernel_rfl) (by kernel_rfl) (by kernel_rfl) (by kernel_rfl) (fun _ _ _ h => h) (by assumption) (Or.inl ⟨by rfl, ?_⟩) ?_
  rotate_left
  · intro w hSw
    try dsimp only at hSw
    go_simp
    first | done | (with_reducible rfl)
  try simp only [Act.put, List.setIfInBounds_toArray, List.set_cons_zero, List.set_cons_succ]
  refine Until.ready (rs := [9]) (by kernel_rfl) (by simp) ?_
  refine Until.cons_last rfl (fun K hK => ?_) Until.nil
  go_simp
  refine hK.out _ _ ?_
  clear hK K
  try simp only [Act.put, List.setIfInBounds_toArray, List.set_cons_zero, List.set_cons_succ]
  refine Until.done (by kernel_rfl) ?_ _
  have hWi2 := (List.getElem?_eq_some_iff.1 HW2.out).2
  have hFm3a := HFm.out.put i 1 ⟨true, stamp, ar, fl, .slice (some ⟨g, 0, none⟩) (s0.length + 1) cap⟩ (.int .i64 stamp) (List.getElem?_eq_some_iff.1 HW2.out).1 (by omega) (by rw [hWi2]; rfl)
  have hFm3b := hFm3a.put i 2 ⟨true, stamp, now, fl, .slice (some ⟨g, 0, none⟩) (s0.length + 1) cap⟩ (.int .i64 now) (by simpa using HhiL.out) (by omega) (by simp [Wn.cells])
  simp only [List.set_set] at hFm3b
  have hFm3 := hFm3b.of_drew
  have hown3 := (ownsRow_setCell_below (a := ⟨SB, i * 5 + 2, none⟩) (ownsRow_setCell_below (a := ⟨SB, i * 5 + 1, none⟩) HownW.out (by simp; omega) (.int .i64 stamp)) (by simp; omega) (.int .i64 now)).drew
  have hFr3 := ((HFr.out.setCell (p := ⟨SB, i * 5 + 1, none⟩) (.inl rfl) (.int .i64 stamp)).setCell (p := ⟨SB, i * 5 + 2, none⟩) (.inl rfl) (.int .i64 now)).drew
  have kV3 : ((W3.setCell ⟨SB, i * 5 + 1, none⟩ (.int .i64 stamp)).setCell ⟨SB, i * 5 + 2, none⟩ (.int .i64 now)).drew.cell? ⟨V, 0, none⟩ = some (.pointer (some ⟨SB, i * 5, none⟩)) := by
    show ((W3.setCell ⟨SB, i * 5 + 1, none⟩ (.int .i64 stamp)).setCell ⟨SB, i * 5 + 2, none⟩ (.int .i64 now)).cell? ⟨V, 0, none⟩ = _
    rw [← kV2]; simp only [World.cell?]; rw [heap_setCell_other _ _ _ _ (by simp; omega), heap_setCell_other _ _ _ _ (by simp; omega)]
  clear hWi2 hFm3a hFm3b kV2 hHeld HFm HFr HownW HW2 c0 c1 c2 c3 c4 z0 z1 z2 z3 z4 f0 f1 f2
  generalize ((W3.setCell ⟨SB, i * 5 + 1, none⟩ (.int .i64 stamp)).setCell ⟨SB, i * 5 + 2, none⟩ (.int .i64 now)).drew = W5 at hFm3 hown3 hFr3 kV3 ⊢
  have HW2 : Hid ((Ws.set i ⟨true, stamp, now, fl, .slice (some ⟨g, 0, none⟩) (s0.length + 1) cap⟩)[i]? = some ⟨true, stamp, now, fl, .slice (some ⟨g, 0, none⟩) (s0.length + 1) cap⟩) := List.getElem?_set_self HhiL.out
  obtain ⟨c0, c1, c2, c3, c4, z0, z1, z2, z3, z4⟩ := hFm3.five HW2.out
  obtain ⟨f0, f1, f2⟩ := hFm3.fcells
  have HFm : Hid (Fm SB F n ma fa (Ws.set i ⟨true, stamp, now, fl, .slice (some ⟨g, 0, none⟩) (s0.length + 1) cap⟩) W5) := hFm3
  have HFr : Hid (Fr SB (some g0) w W5) := hFr3
  have HownW : Hid (W5.ownsRow (F + 1) 38 1 (.slice (some ⟨g, 0, none⟩) (s0.length + 1) cap) (s0.length + 1) (ints (s0 ++ [stamp]))) := hown3
  clear hFm3 hFr3 hown3
  go_wp2_with fail
  refine (add_any _ _ _).mono ?_
  rintro e W6 ⟨rfl, rfl⟩
  rw [Hbdeq.out]
  go_wp2_with fail
  refine (since_any _ _ _).mono ?_
  rintro e W7 ⟨rfl, rfl⟩
  rw [hs6eq]
  go_wp2_with fail
  have hWi2 := (List.getElem?_eq_some_iff.1 HW2.out).2
  have hFm4 := HFm.out.put i 3 ⟨true, stamp, now, bd, .slice (some ⟨g, 0, none⟩) (s0.length + 1) cap⟩ (.int .i64 bd) (List.getElem?_eq_some_iff.1 HW2.out).1 (by omega) (by rw [hWi2]; rfl)
  simp only [List.set_set] at hFm4
  have hown5 := ownsRow_setCell_below (a := ⟨SB, i * 5 + 3, none⟩) HownW.out (by simp; omega) (.int .i64 bd)
  have hFr5 := HFr.out.setCell (p := ⟨SB, i * 5 + 3, none⟩) (.inl rfl) (.int .i64 bd)
  have kV2 : (W7.setCell ⟨SB, i * 5 + 3, none⟩ (.int .i64 bd)).cell? ⟨V, 0, none⟩ = some (.pointer (some ⟨SB, i * 5, none⟩)) := by
    rw [← kV3]; simp only [World.cell?]; rw [heap_setCell_other _ _ _ _ (by simp; omega)]
  clear hWi2 kV3 HFm HFr HownW HW2 c0 c1 c2 c3 c4 z0 z1 z2 z3 z4 f0 f1 f2
  generalize W7.setCell ⟨SB, i * 5 + 3, none⟩ (.int .i64 bd) = W8 at hFm4 hown5 hFr5 kV2 ⊢
  have HW2 : Hid ((Ws.set i ⟨true, stamp, now, bd, .slice (some ⟨g, 0, none⟩) (s0.length + 1) cap⟩)[i]? = some ⟨true, stamp, now, bd, .slice (some ⟨g, 0, none⟩) (s0.length + 1) cap⟩) := List.getElem?_set_self HhiL.out
  obtain ⟨c0, c1, c2, c3, c4, z0, z1, z2, z3, z4⟩ := hFm4.five HW2.out
  obtain ⟨f0, f1, f2⟩ := hFm4.fcells
  have HFm : Hid (Fm SB F n ma fa (Ws.set i ⟨true, stamp, now, bd, .slice (some ⟨g, 0, none⟩) (s0.length + 1) cap⟩) W8) := hFm4
  have HFr : Hid (Fr SB (some g0) w W8) := hFr5
  have HownW : Hid (W8.ownsRow (F + 1) 38 1 (.slice (some ⟨g, 0, none⟩) (s0.length + 1) cap) (s0.length + 1) (ints (s0 ++ [stamp]))) := hown5
  clear hFm4 hFr5 hown5
  refine wp_loop_rounds 1 ?_
  rw [rounds_succ]
  have hdel := deleted_any F g cap V SB (i * 5) bd stamp (s0 ++ [stamp]) W8.drew (by exact kV2) (by exact c3) (by exact c1) (by rw [List.length_append]; exact HownW.out) (by omega) hgV
  rw [List.length_append] at hdel
  obtain ⟨r, hr⟩ : ∃ r, r = (s0 ++ [stamp]).filter fun x => !strikes bd stamp x := ⟨_, rfl⟩
  have hrl : r.length ≤ s0.length + 1 := by
    have := List.length_filter_le (fun x => !strikes bd stamp x) (s0 ++ [stamp])
    rw [← hr, List.length_append] at this
    exact this
  rw [← hr] at hdel
  have Hr : Hid (r = (s0 ++ [stamp]).filter fun x => !strikes bd stamp x) := hr
  clear hr
  have hrI : (r.length : Int) ≤ 1024 := by omega
  go_wp2_with fail
  refine Until.begin_ (S := (fun w' => w'.cell? ⟨V, 0, none⟩ = some (.pointer (some ⟨SB, i * 5, none⟩)) ∧ w'.cell? ⟨SB, i * 5 + 4, none⟩ = some (.slice (some ⟨g, 0, none⟩) (s0.length + 1) cap))) 9 (by kernel_rfl) ⟨kV2, c4⟩ (fun hHeld => ?_)
  refine Until.take (i := 0) (v := ?_) rfl (by kernel_rfl) (by kernel_rfl) (by kernel_rfl) (by kernel_rfl) (fun _ _ _ h => h) (by assumption) (Or.inl ⟨by rfl, ?_⟩) ?_
  rotate_left
  · intro w hSw
    try dsimp only at hSw
    go_simp
    first | done | (with_reducible rfl)
  try simp only [Act.put, List.setIfInBounds_toArray, List.set_cons_zero, List.set_cons_succ]
  refine Until.take (i := 1) (v := ?_) rfl (by kernel_rfl) (by kernel_rfl) (by kernel_rfl) (by kernel_rfl) (fun _ _ _ h => h) (by assumption) (Or.inl ⟨by rfl, ?_⟩) ?_
  rotate_left
  · intro w hSw
    try dsimp only at hSw
    go_simp
    first | done | (with_reducible rfl)
  try simp only [Act.put, List.setIfInBounds_toArray, List.set_cons_zero, List.set_cons_succ]
  refine Until.take (i := 2) (v := ?_) rfl (by kernel_rfl) (by kernel_rfl) (by kernel_rfl) (by kernel_rfl) (fun _ _ _ h => h) (by assumption) (Or.inl ⟨by rfl, ?_⟩) ?_
  rotate_left
  · intro w hSw
    try dsimp only at hSw
    go_simp
    first | done | (with_reducible rfl)
  try simp only [Act.put, List.setIfInBounds_toArray, List.set_cons_zero, List.set_cons_succ]
  refine Until.take (i := 3) (v := ?_) rfl (by kernel_rfl) (by kernel_rfl) (by kernel_rfl) (by kernel_rfl) (fun _ _ _ h => h) (by assumption) (Or.inl ⟨by rfl, ?_⟩) ?_
  rotate_left
  · intro w hSw
    try dsimp only at hSw
    go_simp
    first | done | (with_reducible rfl)
  try simp only [Act.put, List.setIfInBounds_toArray, List.set_cons_zero, List.set_cons_succ]
  refine Until.take (i := 4) (v := ?_) rfl (by kernel_rfl) (by kernel_rfl) (by kernel_rfl) (by kernel_rfl) (fun _ _ _ h => h) (by assumption) (Or.inl ⟨by rfl, ?_⟩) ?_
  rotate_left
  · intro w hSw
    try dsimp only at hSw
    go_simp
    first | done | (with_reducible rfl)
  try simp only [Act.put, List.setIfInBounds_toArray, List.set_cons_zero, List.set_cons_succ]
  refine Until.take (i := 5) (v := ?_) rfl (by kernel_rfl) (by kernel_rfl) (by kernel_rfl) (by kernel_rfl) (fun _ _ _ h => h) (by assumption) (Or.inl ⟨by rfl, ?_⟩) ?_
  rotate_left
  · intro w hSw
    try dsimp only at hSw
    go_simp
    first | done | (with_reducible rfl)
  try simp only [Act.put, List.setIfInBounds_toArray, List.set_cons_zero, List.set_cons_succ]
  refine Until.ready (rs := [6]) (by kernel_rfl) (by simp) ?_
  refine Until.cons rfl (fun K hK => ?_) Until.nil
  go_simp
  refine hdel.mono ?_
  rintro e w' ⟨rfl, hR, hown3⟩
  obtain ⟨d0, d1, d2, d3, d4, e0, e1, e2, e3, e4⟩ := ((HFm.out.of_drew).of_row1 hR hgF).five HW2.out
  go_wp2_with fail
  refine hK.out _ _ ⟨(hR.cell ⟨V, 0, none⟩ (by simp; omega)).trans kV2, (hR.cell ⟨SB, i * 5 + 4, none⟩ (by simp; omega)).trans c4⟩ (fun hHeld => ?_)
  clear hK K
  try simp only [Act.put, List.setIfInBounds_toArray, List.set_cons_zero, List.set_cons_succ]
  refine Until.ready (rs := [7]) (by kernel_rfl) (by simp) ?_
  refine Until.cons rfl (fun K hK => ?_) Until.nil
  go_simp
  refine hK.out _ _ ⟨(hR.cell ⟨V, 0, none⟩ (by simp; omega)).trans kV2, (hR.cell ⟨SB, i * 5 + 4, none⟩ (by simp; omega)).trans c4⟩ (fun hHeld => ?_)
  clear hK K
  try simp only [Act.put, List.setIfInBounds_toArray, List.set_cons_zero, List.set_cons_succ]
  refine Until.take (i := 8) (v := ?_) rfl (by kernel_rfl) (by kernel_rfl) (by kernel_rfl) (by kernel_rfl) (fun _ _ _ h => h) (by assumption) (Or.inl ⟨by rfl, ?_⟩) ?_
  rotate_left
  · intro w hSw
    try dsimp only at hSw
    go_simp
    first | done | (with_reducible rfl)
  try simp only [Act.put, List.setIfInBounds_toArray, List.set_cons_zero, List.set_cons_succ]
  refine Until.ready (rs := [9]) (by kernel_rfl) (by simp) ?_
  refine Until.cons_last rfl (fun K hK => ?_) Until.nil
  go_simp
  refine hK.out _ _ ?_
  clear hK K
  try simp only [Act.put, List.setIfInBounds_toArray, List.set_cons_zero, List.set_cons_succ]
  refine Until.done (by kernel_rfl) ?_ _
  have hFm4 := ((HFm.out.of_drew).of_row1 hR hgF).put4 (Ws := Ws) (sv' := .slice (some ⟨g, 0, none⟩) r.length cap) (fun W => List.set_set _) HW2.out
  have hown4 := ownsRow_setCell_below (a := ⟨SB, i * 5 + 4, none⟩) hown3 (by simp; omega) (.slice (some ⟨g, 0, none⟩) r.length cap)
  have hFr4 := ((HFr.out.drew).row1 hR Hgat.out).setCell (p := ⟨SB, i * 5 + 4, none⟩) (.inl rfl) (.slice (some ⟨g, 0, none⟩) r.length cap)
  have kV4 : (w'.setCell ⟨SB, i * 5 + 4, none⟩ (.slice (some ⟨g, 0, none⟩) r.length cap)).cell? ⟨V, 0, none⟩ = some (.pointer (some ⟨SB, i * 5, none⟩)) := by
    rw [← hHeld.1]; simp only [World.cell?]; rw [heap_setCell_other _ _ _ _ (by simp; omega)]
  clear hHeld hdel hown3 hR d0 d1 d2 d3 d4 e0 e1 e2 e3 e4 c0 c1 c2 c3 c4 z0 z1 z2 z3 z4 f0 f1 f2 kV2
  generalize w'.setCell ⟨SB, i * 5 + 4, none⟩ (.slice (some ⟨g, 0, none⟩) r.length cap) = W4 at hFm4 hown4 hFr4 kV4 ⊢
  have c4 := (hFm4.five (List.getElem?_set_self HhiL.out)).2.2.2.2.1
  have HE : Hid (Left SB F n i ma fa stamp now bd r Ws (some g0) w W4) := ⟨g, cap, hFm4, hown4, Hgat.out, hFr4⟩
  clear hFm4 hown4 hFr4
  go_wp2_with fail
  go_ret
  exact ⟨rfl, by rw [← List.filter_append, ← Hr.out]; exact HE.out⟩

end Go.Proofs.Ybulkczmq
