/- The walk of admit where the window is laid anew. -/
import Derived.Test.YbulkczmqFresh
import Derived.Test.YbulkczmqUntil
namespace Go.Proofs.Ybulkczmq
open Go.RowKit
set_option linter.unusedSimpArgs false

theorem Fm.of_alloc {SB F n : Nat} {ma fa : Int} {Ws : List Wn} {w : World} (h : Fm SB F n ma fa Ws w) (o : Obj) : Fm SB F n ma fa Ws (w.alloc o) :=
  ⟨h.row.alloc o, h.len, h.lt, by rw [Below.heap_alloc w o F (lt_of_block h.f)]; exact h.f⟩

theorem Fm.of_grown {SB F n : Nat} {ma fa : Int} {Ws : List Wn} {w w' : World} {row : Option Nat} (h : Fm SB F n ma fa Ws w) (hg : w.grownBy w' row) (hr : ∀ k, row = some k → F < k) : Fm SB F n ma fa Ws w' := by
  have hlt := h.lt
  refine ⟨h.row.kept hg (.inr ?_), h.len, h.lt, ?_⟩
  · intro e
    have := hr SB (by rw [← e]; rfl)
    omega
  · rw [hg.block F (lt_of_block h.f) (fun e => by have := hr F e.symm; omega)]; exact h.f

theorem Fm.of_drew {SB F n : Nat} {ma fa : Int} {Ws : List Wn} {w : World} (h : Fm SB F n ma fa Ws w) : Fm SB F n ma fa Ws w.drew := ⟨h.row.drew, h.len, h.lt, h.f⟩

/-- The five cells of window i laid anew. -/
theorem Fm.put5 {SB F n : Nat} {ma fa : Int} {Ws : List Wn} {w : World} (h : Fm SB F n ma fa Ws w) (i : Nat) (W' : Wn) (hi : i < Ws.length) :
    Fm SB F n ma fa (Ws.set i W') (((((w.setCell ⟨SB, i * 5, none⟩ (.bool W'.known)).setCell ⟨SB, i * 5 + 1, none⟩ (.int .i64 W'.newest)).setCell ⟨SB, i * 5 + 2, none⟩ (.int .i64 W'.arrived)).setCell ⟨SB, i * 5 + 3, none⟩ (.int .i64 W'.floor)).setCell ⟨SB, i * 5 + 4, none⟩ W'.sv) := by
  obtain ⟨W, hW⟩ : ∃ W, W = Ws[i] := ⟨_, rfl⟩
  have h0 := h.put i 0 ⟨W'.known, W.newest, W.arrived, W.floor, W.sv⟩ (.bool W'.known) hi (by omega) (by rw [← hW]; rfl)
  have h1 := h0.put i 1 ⟨W'.known, W'.newest, W.arrived, W.floor, W.sv⟩ (.int .i64 W'.newest) (by simpa using hi) (by omega) (by simp [Wn.cells])
  have h2 := h1.put i 2 ⟨W'.known, W'.newest, W'.arrived, W.floor, W.sv⟩ (.int .i64 W'.arrived) (by simpa using hi) (by omega) (by simp [Wn.cells])
  have h3 := h2.put i 3 ⟨W'.known, W'.newest, W'.arrived, W'.floor, W.sv⟩ (.int .i64 W'.floor) (by simpa using hi) (by omega) (by simp [Wn.cells])
  have h4 := h3.put i 4 W' W'.sv (by simpa using hi) (by omega) (by simp [Wn.cells])
  simp only [List.set_set] at h4
  exact h4

theorem Fm.five {SB F n : Nat} {ma fa : Int} {Ws : List Wn} {w : World} (h : Fm SB F n ma fa Ws w) {i : Nat} {W : Wn} (hW : Ws[i]? = some W) :
    w.cell? ⟨SB, i * 5, none⟩ = some (.bool W.known) ∧ w.cell? ⟨SB, i * 5 + 1, none⟩ = some (.int .i64 W.newest) ∧ w.cell? ⟨SB, i * 5 + 2, none⟩ = some (.int .i64 W.arrived) ∧ w.cell? ⟨SB, i * 5 + 3, none⟩ = some (.int .i64 W.floor) ∧ w.cell? ⟨SB, i * 5 + 4, none⟩ = some W.sv ∧
    w.frozen? ⟨SB, i * 5, none⟩ = false ∧ w.frozen? ⟨SB, i * 5 + 1, none⟩ = false ∧ w.frozen? ⟨SB, i * 5 + 2, none⟩ = false ∧ w.frozen? ⟨SB, i * 5 + 3, none⟩ = false ∧ w.frozen? ⟨SB, i * 5 + 4, none⟩ = false := by
  obtain ⟨hiL, hWi⟩ := List.getElem?_eq_some_iff.1 hW
  refine ⟨?_, ?_, ?_, ?_, ?_, h.free _, h.free _, h.free _, h.free _, h.free _⟩
  · have := h.cell i 0 hiL (by omega); rw [hWi] at this; exact this
  · have := h.cell i 1 hiL (by omega); rw [hWi] at this; exact this
  · have := h.cell i 2 hiL (by omega); rw [hWi] at this; exact this
  · have := h.cell i 3 hiL (by omega); rw [hWi] at this; exact this
  · have := h.cell i 4 hiL (by omega); rw [hWi] at this; exact this

theorem keepV {W0 w1 : World} {V : Nat} {v : Value} {o : Obj} {row : Option Nat} (hV : W0.cell? ⟨V, 0, none⟩ = some v) (hg : ((W0.alloc o).drew).grownBy w1 row) (hr : some V ≠ row) : w1.cell? ⟨V, 0, none⟩ = some v := by
  have hlt := World.block_lt_of_cell? W0 _ hV
  rw [hg.cell_far ⟨V, 0, none⟩ (by simp; simp at hlt; omega) hr]
  show (W0.alloc o).cell? ⟨V, 0, none⟩ = some v
  rw [World.cell?_alloc_past _ _ _ hlt]; exact hV

theorem news_one (W : World) (x : Value) (T : TypeId) (n : Nat) (hn : n = W.heap.size) : ∀ j u, [x][j]? = some u → ((W.alloc (.cells #[x] T)).drew).cell? ((⟨n, 0, none⟩ : Addr).add j) = some u := by
  intro j u hj
  match j, hj with
  | 0, hj =>
    simp at hj
    subst hj
    show (W.alloc (.cells #[x] T)).cell? ⟨n, 0, none⟩ = _
    rw [World.cell?_alloc_at _ _ _ _ hn]; rfl

theorem Yba.info38' : (Yba.prog.info? 38).map (fun i => (i.zero, i.size, i.bytes)) = some (some (.int .i64 0), 1, 8) := by kernel_rfl

/-- What admit leaves where it lays the window anew. -/
def Reset (SB F n i : Nat) (ma fa stamp now : Int) (Ws : List Wn) (row : Option Nat) (w w' : World) : Prop :=
  ∃ g cap, Fm SB F n ma fa (Ws.set i ⟨true, stamp, now, wrap64 (stamp + wrap64 (-ma)), .slice (some ⟨g, 0, none⟩) 1 cap⟩) w' ∧ w'.ownsRow (F + 1) 38 1 (.slice (some ⟨g, 0, none⟩) 1 cap) 1 (ints [stamp]) ∧
    (row = some g ∨ w.heap.size ≤ g) ∧ Fr SB row w w'

theorem wrapEq (x : Int) : IntKind.i64.wrap x = wrap64 x := by rw [IntKind.wrap_i64]; unfold wrap64; omega

theorem reset_end {SB F n i : Nat} {ma fa stamp now : Int} {Ws Ws1 : List Wn} {row : Option Nat} {w w1 : World} {g cap : Nat} (hFm : Fm SB F n ma fa Ws1 w1) (hset : ∀ W : Wn, Ws1.set i W = Ws.set i W) (hi : i < Ws1.length)
    (hown : w1.ownsRow (F + 1) 38 1 (.slice (some ⟨g, 0, none⟩) 1 cap) 1 [.int .i64 stamp]) (hg : row = some g ∨ w.heap.size ≤ g) (hFr : Fr SB row w w1) :
    Reset SB F n i ma fa stamp now Ws row w (((((w1.setCell ⟨SB, i * 5, none⟩ (.bool true)).setCell ⟨SB, i * 5 + 1, none⟩ (.int .i64 stamp)).setCell ⟨SB, i * 5 + 2, none⟩ (.int .i64 now)).setCell ⟨SB, i * 5 + 3, none⟩ (.int .i64 (wrap64 (stamp + IntKind.i64.wrap (-ma))))).setCell ⟨SB, i * 5 + 4, none⟩ (.slice (some ⟨g, 0, none⟩) 1 cap)) := by
  have hlt := hFm.lt
  refine ⟨g, cap, ?_, ?_, hg, ?_⟩
  · have := hFm.put5 i ⟨true, stamp, now, wrap64 (stamp + wrap64 (-ma)), .slice (some ⟨g, 0, none⟩) 1 cap⟩ hi
    rw [hset] at this
    rw [wrapEq]
    exact this
  · refine ownsRow_setCell_below (ownsRow_setCell_below (ownsRow_setCell_below (ownsRow_setCell_below (ownsRow_setCell_below hown ?_ _) ?_ _) ?_ _) ?_ _) ?_ _
    all_goals (simp; omega)
  · exact ((((hFr.setCell (.inl rfl) _).setCell (.inl rfl) _).setCell (.inl rfl) _).setCell (.inl rfl) _).setCell (.inl rfl) _

theorem own_zero {w : World} {B T g n cap : Nat} {xs : List Value} (h : w.ownsRow B T 1 (.slice (some ⟨g, 0, none⟩) n cap) n xs) : w.ownsRow B T 1 (.slice (some ⟨g, 0, none⟩) 0 cap) 0 [] := by
  rcases h.2 with ⟨h0, _⟩ | ⟨g', cap', cur, hv, hb, hh, hn, hcap, hsz, htake⟩
  · cases h0
  · cases hv
    exact ⟨rfl, .inr ⟨g, cap, cur, rfl, hb, hh, Nat.zero_le _, hcap, hsz, by simp⟩⟩

set_option maxRecDepth 100000 in
set_option maxHeartbeats 1000000 in
theorem admit_first (SB F n i : Nat) (ma fa stamp now : Int) (Ws : List Wn) (w : World) (ne ar fl : Int) (h : Fm SB F n ma fa Ws w) (hi : i < n) (_hn : n ≤ 1024)
    (hW : Ws[i]? = some ⟨false, ne, ar, fl, .slice none 0 0⟩) :
    Calls Yba.prog 9 #[.pointer (some ⟨F, 0, none⟩), .int .i64 i, .int .i64 stamp, .int .i64 now] w fun e w' => e = .returned (.string ⟨#[]⟩) ∧ Reset SB F n i ma fa stamp now Ws none w w' := by
  have hiI : (i : Int) < (n : Int) := by omega
  obtain ⟨c0, c1, c2, c3, c4, z0, z1, z2, z3, z4⟩ := h.five hW
  obtain ⟨f0, f1, f2⟩ := h.fcells
  have hF : F < w.heap.size := lt_of_block h.f
  have hSF := h.lt
  have hSB : SB < w.heap.size := by omega
  have HW : Hid (Ws[i]? = some ⟨false, ne, ar, fl, .slice none 0 0⟩) := hW
  have HhiL : Hid (i < Ws.length) := by rw [h.len]; exact hi
  clear hW
  go_enter Yba.func9, Yba.ntmps9
  go_wp2_with fail
  refine (since_any _ _ _).mono ?_
  rintro e w1 ⟨rfl, rfl⟩
  go_wp2_with fail
  have hV : (w.alloc (Obj.cells #[Value.pointer (some { block := SB, off := i * 5 })] 40)).cell? ⟨w.heap.size, 0, none⟩ = some (.pointer (some ⟨SB, i * 5, none⟩)) := by
    rw [World.cell?_alloc_at _ _ _ _ rfl]; rfl
  have hFm := h.of_alloc (Obj.cells #[Value.pointer (some { block := SB, off := i * 5 })] 40)
  have hFr := (Fr.refl SB none w).alloc (Obj.cells #[Value.pointer (some { block := SB, off := i * 5 })] 40)
  have HW1 : Hid (Ws[i]? = some ⟨false, ne, ar, fl, .slice none 0 0⟩) := HW.out
  have HhiL1 : Hid (i < Ws.length) := HhiL.out
  obtain ⟨V, hVe⟩ : ∃ V, V = w.heap.size := ⟨_, rfl⟩
  have hsz : (w.alloc (Obj.cells #[Value.pointer (some { block := SB, off := i * 5 })] 40)).heap.size = V + 1 := by rw [hVe]; simp
  rw [← hVe] at hV hSB hF ⊢
  clear c0 c1 c2 c3 c4 z0 z1 z2 z3 z4 f0 f1 f2 h
  generalize (w.alloc (Obj.cells #[Value.pointer (some { block := SB, off := i * 5 })] 40)) = W0 at hV hFm hFr hsz ⊢
  have hf0 := hFm.fcells.1
  have hc4 := (hFm.five HW1.out).2.2.2.2.1
  obtain ⟨i0, hi0, hy0, hy1, hy2⟩ := info_parts Yba.info38'
  have HFm : Hid (Fm SB F n ma fa Ws W0) := hFm
  have HFr : Hid (Fr SB none w W0) := hFr
  have Hsz : Hid (W0.heap.size = V + 1) := hsz
  have hszI : V < W0.heap.size := by omega
  have hszF : F < W0.heap.size := by omega
  have hszS : SB < W0.heap.size := by omega
  have HVe : Hid (V = w.heap.size) := hVe
  clear hFm hFr hsz hVe
  refine Until.begin_ (S := (fun w' => w'.cell? ⟨V, 0, none⟩ = some (.pointer (some ⟨SB, i * 5, none⟩)) ∧ w'.cell? ⟨F, 0, none⟩ = some (.int .i64 ma) ∧ w'.cell? ⟨SB, i * 5 + 4, none⟩ = some (.slice none 0 0))) 20 (by kernel_rfl) ⟨hV, hf0, hc4⟩ (fun hHeld => ?_)
  refine Until.take (i := 0) (v := ?_) rfl (by kernel_rfl) (by kernel_rfl) (by kernel_rfl) (by kernel_rfl) (fun _ _ _ h => h) (by assumption) (Or.inl ⟨by rfl, ?_⟩) ?_
  rotate_left
  · intro w hSw
    try dsimp only at hSw
    go_simp
    first | done | (with_reducible rfl)
  try simp only [Act.put, List.setIfInBounds_toArray, List.set_cons_zero, List.set_cons_succ]
  refine Until.take (i := 1) (v := ?_) rfl (by kernel_rfl) (by kernel_rfl) (by kernel_rfl) (by kernel_rfl) (fun _ _ _ h => h) (by assumption) (Or.inl ⟨by rfl, ?_⟩) ?_
  rotate_left
  · intro w hSw
    try dsimp only at hSw
    go_simp
    first | done | (with_reducible rfl)
  try simp only [Act.put, List.setIfInBounds_toArray, List.set_cons_zero, List.set_cons_succ]
  refine Until.take (i := 2) (v := ?_) rfl (by kernel_rfl) (by kernel_rfl) (by kernel_rfl) (by kernel_rfl) (fun _ _ _ h => h) (by assumption) (Or.inl ⟨by rfl, ?_⟩) ?_
  rotate_left
  · intro w hSw
    try dsimp only at hSw
    go_simp
    first | done | (with_reducible rfl)
  try simp only [Act.put, List.setIfInBounds_toArray, List.set_cons_zero, List.set_cons_succ]
  refine Until.take (i := 3) (v := ?_) rfl (by kernel_rfl) (by kernel_rfl) (by kernel_rfl) (by kernel_rfl) (fun _ _ _ h => h) (by assumption) (Or.inl ⟨by rfl, ?_⟩) ?_
  rotate_left
  · intro w hSw
    try dsimp only at hSw
    go_simp
    first | done | (with_reducible rfl)
  try simp only [Act.put, List.setIfInBounds_toArray, List.set_cons_zero, List.set_cons_succ]
  refine Until.take (i := 4) (v := ?_) rfl (by kernel_rfl) (by kernel_rfl) (by kernel_rfl) (by kernel_rfl) (fun _ _ _ h => h) (by assumption) (Or.inl ⟨by rfl, ?_⟩) ?_
  rotate_left
  · intro w hSw
    try dsimp only at hSw
    go_simp
    first | done | (with_reducible rfl)
  try simp only [Act.put, List.setIfInBounds_toArray, List.set_cons_zero, List.set_cons_succ]
  refine Until.take (i := 5) (v := ?_) rfl (by kernel_rfl) (by kernel_rfl) (by kernel_rfl) (by kernel_rfl) (fun _ _ _ h => h) (by assumption) (Or.inl ⟨by rfl, ?_⟩) ?_
  rotate_left
  · intro w hSw
    try dsimp only at hSw
    go_simp
    first | done | (with_reducible rfl)
  try simp only [Act.put, List.setIfInBounds_toArray, List.set_cons_zero, List.set_cons_succ]
  refine Until.take (i := 6) (v := ?_) rfl (by kernel_rfl) (by kernel_rfl) (by kernel_rfl) (by kernel_rfl) (fun _ _ _ h => h) (by assumption) (Or.inl ⟨by rfl, ?_⟩) ?_
  rotate_left
  · intro w hSw
    try dsimp only at hSw
    go_simp
    first | done | (with_reducible rfl)
  try simp only [Act.put, List.setIfInBounds_toArray, List.set_cons_zero, List.set_cons_succ]
  refine Until.take (i := 7) (v := ?_) rfl (by kernel_rfl) (by kernel_rfl) (by kernel_rfl) (by kernel_rfl) (fun _ _ _ h => h) (by assumption) (Or.inl ⟨by rfl, ?_⟩) ?_
  rotate_left
  · intro w hSw
    try dsimp only at hSw
    go_simp
    first | done | (with_reducible rfl)
  try simp only [Act.put, List.setIfInBounds_toArray, List.set_cons_zero, List.set_cons_succ]
  refine Until.take (i := 8) (v := ?_) rfl (by kernel_rfl) (by kernel_rfl) (by kernel_rfl) (by kernel_rfl) (fun _ _ _ h => h) (by assumption) (Or.inl ⟨by rfl, ?_⟩) ?_
  rotate_left
  · intro w hSw
    try dsimp only at hSw
    go_simp
    first | done | (with_reducible rfl)
  try simp only [Act.put, List.setIfInBounds_toArray, List.set_cons_zero, List.set_cons_succ]
  refine Until.take (i := 10) (v := ?_) rfl (by kernel_rfl) (by kernel_rfl) (by kernel_rfl) (by kernel_rfl) (fun _ _ _ h => h) (by assumption) (Or.inl ⟨by rfl, ?_⟩) ?_
  rotate_left
  · intro w hSw
    try dsimp only at hSw
    go_simp
    first | done | (with_reducible rfl)
  try simp only [Act.put, List.setIfInBounds_toArray, List.set_cons_zero, List.set_cons_succ]
  refine Until.take (i := 11) (v := ?_) rfl (by kernel_rfl) (by kernel_rfl) (by kernel_rfl) (by kernel_rfl) (fun _ _ _ h => h) (by assumption) (Or.inl ⟨by rfl, ?_⟩) ?_
  rotate_left
  · intro w hSw
    try dsimp only at hSw
    go_simp
    first | done | (with_reducible rfl)
  try simp only [Act.put, List.setIfInBounds_toArray, List.set_cons_zero, List.set_cons_succ]
  refine Until.take (i := 12) (v := ?_) rfl (by kernel_rfl) (by kernel_rfl) (by kernel_rfl) (by kernel_rfl) (fun _ _ _ h => h) (by assumption) (Or.inl ⟨by rfl, ?_⟩) ?_
  rotate_left
  · intro w hSw
    try dsimp only at hSw
    go_simp
    first | done | (with_reducible rfl)
  try simp only [Act.put, List.setIfInBounds_toArray, List.set_cons_zero, List.set_cons_succ]
  refine Until.take (i := 13) (v := ?_) rfl (by kernel_rfl) (by kernel_rfl) (by kernel_rfl) (by kernel_rfl) (fun _ _ _ h => h) (by assumption) (Or.inl ⟨by rfl, ?_⟩) ?_
  rotate_left
  · intro w hSw
    try dsimp only at hSw
    go_simp
    first | done | (with_reducible rfl)
  try simp only [Act.put, List.setIfInBounds_toArray, List.set_cons_zero, List.set_cons_succ]
  refine Until.take (i := 14) (v := ?_) rfl (by kernel_rfl) (by kernel_rfl) (by kernel_rfl) (by kernel_rfl) (fun _ _ _ h => h) (by assumption) (Or.inl ⟨by rfl, ?_⟩) ?_
  rotate_left
  · intro w hSw
    try dsimp only at hSw
    go_simp
    first | done | (with_reducible rfl)
  try simp only [Act.put, List.setIfInBounds_toArray, List.set_cons_zero, List.set_cons_succ]
  refine Until.take (i := 15) (v := ?_) rfl (by kernel_rfl) (by kernel_rfl) (by kernel_rfl) (by kernel_rfl) (fun _ _ _ h => h) (by assumption) (Or.inl ⟨by rfl, ?_⟩) ?_
  rotate_left
  · intro w hSw
    try dsimp only at hSw
    go_simp
    first | done | (with_reducible rfl)
  try simp only [Act.put, List.setIfInBounds_toArray, List.set_cons_zero, List.set_cons_succ]
  refine Until.ready (rs := [9, 16]) (by kernel_rfl) (by simp) ?_
  refine Until.cons rfl (fun K hK => ?_) ?_
  · go_simp
    refine (add_any _ _ _).mono ?_
    rintro e w' ⟨rfl, rfl⟩
    go_wp2_with fail
    refine hK.out _ _ hHeld (fun hHeld => ?_)
    clear hK K
    try simp only [Act.put, List.setIfInBounds_toArray, List.set_cons_zero, List.set_cons_succ]
    refine Until.ready (rs := [16]) (by kernel_rfl) (by simp) ?_
    refine Until.cons rfl (fun K hK => ?_) Until.nil
    go_simp
    refine hK.out _ _ ⟨by rw [World.cell?_drew, World.cell?_alloc_past _ _ _ hszI]; exact hV, by rw [World.cell?_drew, World.cell?_alloc_past _ _ _ hszF]; exact hf0, by rw [World.cell?_drew, World.cell?_alloc_past _ _ _ hszS]; exact hc4⟩ (fun hHeld => ?_)
    clear hK K
    try simp only [Act.put, List.setIfInBounds_toArray, List.set_cons_zero, List.set_cons_succ]
    refine Until.ready (rs := [17]) (by kernel_rfl) (by simp) ?_
    refine Until.cons rfl (fun K hK => ?_) Until.nil
    refine step_append_lies _ rfl (.tmp 63) (.tmp 65) 41 rfl (F + 1) 38 i0 (.int .i64 0) 1 8 Yba.underlying41 hi0 hy0 hy1 hy2 rfl (by decide) (.slice none 0 0) 0 [] (by rfl) (World.ownsRow_nil _ _ _ _) ⟨W0.heap.size, 0, none⟩ 1 1 [.int .i64 stamp] (by rfl) rfl (by exact news_one _ _ _ _ rfl) (by simp [Value.oneCell']) (by omega) (by unfold maxLen; omega) (by omega) (by simp; omega) (W0.heap.size + 1) (by simp) ?_
    intro g cap w1 hown1 hgr1 hat1 hlt1
    have hFm1 := ((HFm.out.of_alloc (.cells #[.int .i64 stamp] 38)).of_drew).of_grown hgr1 (fun k hk => by simp [Value.ownBlock] at hk)
    obtain ⟨d0, d1, d2, d3, d4, e0, e1, e2, e3, e4⟩ := hFm1.five HW1.out
    have kF := hFm1.fcells.1
    have kV := keepV hV hgr1 (by simp [Value.ownBlock])
    refine hK.out _ _ ⟨kV, kF, d4⟩ (fun hHeld => ?_)
    clear hK K
    try simp only [Act.put, List.setIfInBounds_toArray, List.set_cons_zero, List.set_cons_succ]
    refine Until.take (i := 18) (v := ?_) rfl (by kernel_rfl) (by kernel_rfl) (by kernel_rfl) (by kernel_rfl) (fun _ _ _ h => h) (by assumption) (Or.inl ⟨by rfl, ?_⟩) ?_
    rotate_left
    · intro w hSw
      try dsimp only at hSw
      go_simp
      first | done | (with_reducible rfl)
    try simp only [Act.put, List.setIfInBounds_toArray, List.set_cons_zero, List.set_cons_succ]
    refine Until.take (i := 19) (v := ?_) rfl (by kernel_rfl) (by kernel_rfl) (by kernel_rfl) (by kernel_rfl) (fun _ _ _ h => h) (by assumption) (Or.inl ⟨by rfl, ?_⟩) ?_
    rotate_left
    · intro w hSw
      try dsimp only at hSw
      go_simp
      first | done | (with_reducible rfl)
    try simp only [Act.put, List.setIfInBounds_toArray, List.set_cons_zero, List.set_cons_succ]
    refine Until.ready (rs := [20]) (by kernel_rfl) (by simp) ?_
    refine Until.cons_last rfl (fun K hK => ?_) Until.nil
    go_simp
    refine hK.out _ _ ?_
    clear hK K
    try simp only [Act.put, List.setIfInBounds_toArray, List.set_cons_zero, List.set_cons_succ]
    refine Until.done (by kernel_rfl) ?_ _
    go_wp2_with fail
    go_ret
    exact ⟨rfl, reset_end hFm1 (fun _ => rfl) HhiL1.out hown1 (by rcases hat1 with h1 | h1; (simp [Value.ownBlock] at h1); (right; have := Hsz.out; have := HVe.out; omega)) (((HFr.out.alloc _).drew).grown hgr1 (fun k hk => by simp [Value.ownBlock] at hk))⟩
  refine Until.cons rfl (fun K hK => ?_) Until.nil
  go_simp
  refine hK.out _ _ ⟨by rw [World.cell?_drew, World.cell?_alloc_past _ _ _ hszI]; exact hV, by rw [World.cell?_drew, World.cell?_alloc_past _ _ _ hszF]; exact hf0, by rw [World.cell?_drew, World.cell?_alloc_past _ _ _ hszS]; exact hc4⟩ (fun hHeld => ?_)
  clear hK K
  try simp only [Act.put, List.setIfInBounds_toArray, List.set_cons_zero, List.set_cons_succ]
  refine Until.ready (rs := [9]) (by kernel_rfl) (by simp) ?_
  refine Until.cons rfl (fun K hK => ?_) Until.nil
  go_simp
  refine (add_any _ _ _).mono ?_
  rintro e w' ⟨rfl, rfl⟩
  go_wp2_with fail
  refine hK.out _ _ hHeld (fun hHeld => ?_)
  clear hK K
  try simp only [Act.put, List.setIfInBounds_toArray, List.set_cons_zero, List.set_cons_succ]
  refine Until.ready (rs := [17]) (by kernel_rfl) (by simp) ?_
  refine Until.cons rfl (fun K hK => ?_) Until.nil
  refine step_append_lies _ rfl (.tmp 63) (.tmp 65) 41 rfl (F + 1) 38 i0 (.int .i64 0) 1 8 Yba.underlying41 hi0 hy0 hy1 hy2 rfl (by decide) (.slice none 0 0) 0 [] (by rfl) (World.ownsRow_nil _ _ _ _) ⟨W0.heap.size, 0, none⟩ 1 1 [.int .i64 stamp] (by rfl) rfl (by exact news_one _ _ _ _ rfl) (by simp [Value.oneCell']) (by omega) (by unfold maxLen; omega) (by omega) (by simp; omega) (W0.heap.size + 1) (by simp) ?_
  intro g cap w1 hown1 hgr1 hat1 hlt1
  have hFm1 := ((HFm.out.of_alloc (.cells #[.int .i64 stamp] 38)).of_drew).of_grown hgr1 (fun k hk => by simp [Value.ownBlock] at hk)
  obtain ⟨d0, d1, d2, d3, d4, e0, e1, e2, e3, e4⟩ := hFm1.five HW1.out
  have kF := hFm1.fcells.1
  have kV := keepV hV hgr1 (by simp [Value.ownBlock])
  refine hK.out _ _ ⟨kV, kF, d4⟩ (fun hHeld => ?_)
  clear hK K
  try simp only [Act.put, List.setIfInBounds_toArray, List.set_cons_zero, List.set_cons_succ]
  refine Until.take (i := 18) (v := ?_) rfl (by kernel_rfl) (by kernel_rfl) (by kernel_rfl) (by kernel_rfl) (fun _ _ _ h => h) (by assumption) (Or.inl ⟨by rfl, ?_⟩) ?_
  rotate_left
  · intro w hSw
    try dsimp only at hSw
    go_simp
    first | done | (with_reducible rfl)
  try simp only [Act.put, List.setIfInBounds_toArray, List.set_cons_zero, List.set_cons_succ]
  refine Until.take (i := 19) (v := ?_) rfl (by kernel_rfl) (by kernel_rfl) (by kernel_rfl) (by kernel_rfl) (fun _ _ _ h => h) (by assumption) (Or.inl ⟨by rfl, ?_⟩) ?_
  rotate_left
  · intro w hSw
    try dsimp only at hSw
    go_simp
    first | done | (with_reducible rfl)
  try simp only [Act.put, List.setIfInBounds_toArray, List.set_cons_zero, List.set_cons_succ]
  refine Until.ready (rs := [20]) (by kernel_rfl) (by simp) ?_
  refine Until.cons_last rfl (fun K hK => ?_) Until.nil
  go_simp
  refine hK.out _ _ ?_
  clear hK K
  try simp only [Act.put, List.setIfInBounds_toArray, List.set_cons_zero, List.set_cons_succ]
  refine Until.done (by kernel_rfl) ?_ _
  go_wp2_with fail
  go_ret
  exact ⟨rfl, reset_end hFm1 (fun _ => rfl) HhiL1.out hown1 (by rcases hat1 with h1 | h1; (simp [Value.ownBlock] at h1); (right; have := Hsz.out; have := HVe.out; omega)) (((HFr.out.alloc _).drew).grown hgr1 (fun k hk => by simp [Value.ownBlock] at hk))⟩

set_option maxRecDepth 100000 in
set_option maxHeartbeats 1000000 in
theorem admit_back (SB F n i : Nat) (ma fa stamp now : Int) (Ws : List Wn) (w : World) (ne ar fl : Int) (g0 len0 cap0 : Nat) (s0 : List Value) (h : Fm SB F n ma fa Ws w) (hi : i < n) (_hn : n ≤ 1024)
    (hW : Ws[i]? = some ⟨true, ne, ar, fl, .slice (some ⟨g0, 0, none⟩) len0 cap0⟩)
    (hown : w.ownsRow (F + 1) 38 1 (.slice (some ⟨g0, 0, none⟩) len0 cap0) len0 s0) (hsi : wrap64 (now - ar) < 0) :
    Calls Yba.prog 9 #[.pointer (some ⟨F, 0, none⟩), .int .i64 i, .int .i64 stamp, .int .i64 now] w fun e w' => e = .returned (.string ⟨#[]⟩) ∧ Reset SB F n i ma fa stamp now Ws (some g0) w w' := by
  have hiI : (i : Int) < (n : Int) := by omega
  obtain ⟨c0, c1, c2, c3, c4, z0, z1, z2, z3, z4⟩ := h.five hW
  obtain ⟨f0, f1, f2⟩ := h.fcells
  have hF : F < w.heap.size := lt_of_block h.f
  have hSF := h.lt
  have hSB : SB < w.heap.size := by omega
  have hg0 : F < g0 ∧ g0 < w.heap.size := by have := hown.lt g0 rfl; omega
  have hcl : len0 ≤ cap0 := by
    rcases hown.2 with ⟨h0, _⟩ | ⟨g', cap', cur, hv, hb, hh, hn, hcap, hsz, htake⟩
    · cases h0
    · cases hv; exact hn
  have Hown : Hid (w.ownsRow (F + 1) 38 1 (.slice (some ⟨g0, 0, none⟩) len0 cap0) len0 s0) := hown
  have hca : (0 : Int) ≤ (cap0 : Int) := by omega
  have hVSB : ¬ w.heap.size = SB := by omega
  clear hown
  obtain ⟨si, hsieq⟩ : ∃ si, wrap64 (now - ar) = si := ⟨_, rfl⟩
  rw [hsieq] at hsi
  have HW : Hid (Ws[i]? = some ⟨true, ne, ar, fl, .slice (some ⟨g0, 0, none⟩) len0 cap0⟩) := hW
  have HhiL : Hid (i < Ws.length) := by rw [h.len]; exact hi
  clear hW
  go_enter Yba.func9, Yba.ntmps9
  go_wp2_with fail
  refine (since_any _ _ _).mono ?_
  rintro e w1 ⟨rfl, rfl⟩
  rw [hsieq]
  go_wp2_with fail
  have hV : ((w.setCell { block := SB, off := i * 5 } (Value.bool false)).alloc (Obj.cells #[Value.pointer (some { block := SB, off := i * 5 })] 40)).cell? ⟨w.heap.size, 0, none⟩ = some (.pointer (some ⟨SB, i * 5, none⟩)) := by
    rw [World.cell?_alloc_at _ _ _ _ (by simp)]; rfl
  have hWi : Ws[i]'HhiL.out = ⟨true, ne, ar, fl, .slice (some ⟨g0, 0, none⟩) len0 cap0⟩ := (List.getElem?_eq_some_iff.1 HW.out).2
  have hFm00 := h.put i 0 ⟨false, ne, ar, fl, .slice (some ⟨g0, 0, none⟩) len0 cap0⟩ (.bool false) HhiL.out (by omega) (by rw [hWi]; rfl)
  rw [Nat.add_zero] at hFm00
  have hFm0 := hFm00.of_alloc (Obj.cells #[Value.pointer (some { block := SB, off := i * 5 })] 40)
  have hFr := ((Fr.refl SB (some g0) w).setCell (p := ⟨SB, i * 5, none⟩) (.inl rfl) (.bool false)).alloc (Obj.cells #[Value.pointer (some { block := SB, off := i * 5 })] 40)
  have hownW : ((w.setCell { block := SB, off := i * 5 } (Value.bool false)).alloc (Obj.cells #[Value.pointer (some { block := SB, off := i * 5 })] 40)).ownsRow (F + 1) 38 1 (.slice (some ⟨g0, 0, none⟩) len0 cap0) len0 s0 := (ownsRow_setCell_below Hown.out (by simp; omega) _).alloc _
  have HW1 : Hid ((Ws.set i ⟨false, ne, ar, fl, .slice (some ⟨g0, 0, none⟩) len0 cap0⟩)[i]? = some ⟨false, ne, ar, fl, .slice (some ⟨g0, 0, none⟩) len0 cap0⟩) := List.getElem?_set_self HhiL.out
  have HhiL1 : Hid (i < (Ws.set i ⟨false, ne, ar, fl, .slice (some ⟨g0, 0, none⟩) len0 cap0⟩).length) := by show i < _; simp; exact HhiL.out
  have hFm := hFm0
  clear hFm0 hFm00 hWi
  obtain ⟨V, hVe⟩ : ∃ V, V = w.heap.size := ⟨_, rfl⟩
  have hsz : ((w.setCell { block := SB, off := i * 5 } (Value.bool false)).alloc (Obj.cells #[Value.pointer (some { block := SB, off := i * 5 })] 40)).heap.size = V + 1 := by rw [hVe]; simp
  rw [← hVe] at hV hSB hF hg0 ⊢
  clear c0 c1 c2 c3 c4 z0 z1 z2 z3 z4 f0 f1 f2 h
  generalize ((w.setCell { block := SB, off := i * 5 } (Value.bool false)).alloc (Obj.cells #[Value.pointer (some { block := SB, off := i * 5 })] 40)) = W0 at hV hFm hFr hsz hownW ⊢
  have hf0 := hFm.fcells.1
  have hc4 := (hFm.five HW1.out).2.2.2.2.1
  obtain ⟨i0, hi0, hy0, hy1, hy2⟩ := info_parts Yba.info38'
  have HFm : Hid (Fm SB F n ma fa (Ws.set i ⟨false, ne, ar, fl, .slice (some ⟨g0, 0, none⟩) len0 cap0⟩) W0) := hFm
  have HFr : Hid (Fr SB (some g0) w W0) := hFr
  have Hsz : Hid (W0.heap.size = V + 1) := hsz
  have hszI : V < W0.heap.size := by omega
  have hszF : F < W0.heap.size := by omega
  have hszS : SB < W0.heap.size := by omega
  have HVe : Hid (V = w.heap.size) := hVe
  have HownW : Hid (W0.ownsRow (F + 1) 38 1 (.slice (some ⟨g0, 0, none⟩) 0 cap0) 0 []) := own_zero hownW
  have hVg : ¬ V = g0 := by omega
  clear hownW hVSB
  clear hFm hFr hsz hVe
  refine Until.begin_ (S := (fun w' => w'.cell? ⟨V, 0, none⟩ = some (.pointer (some ⟨SB, i * 5, none⟩)) ∧ w'.cell? ⟨F, 0, none⟩ = some (.int .i64 ma) ∧ w'.cell? ⟨SB, i * 5 + 4, none⟩ = some (.slice (some ⟨g0, 0, none⟩) len0 cap0))) 20 (by kernel_rfl) ⟨hV, hf0, hc4⟩ (fun hHeld => ?_)
  refine Until.take (i := 0) (v := ?_) rfl (by kernel_rfl) (by kernel_rfl) (by kernel_rfl) (by kernel_rfl) (fun _ _ _ h => h) (by assumption) (Or.inl ⟨by rfl, ?_⟩) ?_
  rotate_left
  · intro w hSw
    try dsimp only at hSw
    go_simp
    first | done | (with_reducible rfl)
  try simp only [Act.put, List.setIfInBounds_toArray, List.set_cons_zero, List.set_cons_succ]
  refine Until.take (i := 1) (v := ?_) rfl (by kernel_rfl) (by kernel_rfl) (by kernel_rfl) (by kernel_rfl) (fun _ _ _ h => h) (by assumption) (Or.inl ⟨by rfl, ?_⟩) ?_
  rotate_left
  · intro w hSw
    try dsimp only at hSw
    go_simp
    first | done | (with_reducible rfl)
  try simp only [Act.put, List.setIfInBounds_toArray, List.set_cons_zero, List.set_cons_succ]
  refine Until.take (i := 2) (v := ?_) rfl (by kernel_rfl) (by kernel_rfl) (by kernel_rfl) (by kernel_rfl) (fun _ _ _ h => h) (by assumption) (Or.inl ⟨by rfl, ?_⟩) ?_
  rotate_left
  · intro w hSw
    try dsimp only at hSw
    go_simp
    first | done | (with_reducible rfl)
  try simp only [Act.put, List.setIfInBounds_toArray, List.set_cons_zero, List.set_cons_succ]
  refine Until.take (i := 3) (v := ?_) rfl (by kernel_rfl) (by kernel_rfl) (by kernel_rfl) (by kernel_rfl) (fun _ _ _ h => h) (by assumption) (Or.inl ⟨by rfl, ?_⟩) ?_
  rotate_left
  · intro w hSw
    try dsimp only at hSw
    go_simp
    first | done | (with_reducible rfl)
  try simp only [Act.put, List.setIfInBounds_toArray, List.set_cons_zero, List.set_cons_succ]
  refine Until.take (i := 4) (v := ?_) rfl (by kernel_rfl) (by kernel_rfl) (by kernel_rfl) (by kernel_rfl) (fun _ _ _ h => h) (by assumption) (Or.inl ⟨by rfl, ?_⟩) ?_
  rotate_left
  · intro w hSw
    try dsimp only at hSw
    go_simp
    first | done | (with_reducible rfl)
  try simp only [Act.put, List.setIfInBounds_toArray, List.set_cons_zero, List.set_cons_succ]
  refine Until.take (i := 5) (v := ?_) rfl (by kernel_rfl) (by kernel_rfl) (by kernel_rfl) (by kernel_rfl) (fun _ _ _ h => h) (by assumption) (Or.inl ⟨by rfl, ?_⟩) ?_
  rotate_left
  · intro w hSw
    try dsimp only at hSw
    go_simp
    first | done | (with_reducible rfl)
  try simp only [Act.put, List.setIfInBounds_toArray, List.set_cons_zero, List.set_cons_succ]
  refine Until.take (i := 6) (v := ?_) rfl (by kernel_rfl) (by kernel_rfl) (by kernel_rfl) (by kernel_rfl) (fun _ _ _ h => h) (by assumption) (Or.inl ⟨by rfl, ?_⟩) ?_
  rotate_left
  · intro w hSw
    try dsimp only at hSw
    go_simp
    first | done | (with_reducible rfl)
  try simp only [Act.put, List.setIfInBounds_toArray, List.set_cons_zero, List.set_cons_succ]
  refine Until.take (i := 7) (v := ?_) rfl (by kernel_rfl) (by kernel_rfl) (by kernel_rfl) (by kernel_rfl) (fun _ _ _ h => h) (by assumption) (Or.inl ⟨by rfl, ?_⟩) ?_
  rotate_left
  · intro w hSw
    try dsimp only at hSw
    go_simp
    first | done | (with_reducible rfl)
  try simp only [Act.put, List.setIfInBounds_toArray, List.set_cons_zero, List.set_cons_succ]
  refine Until.take (i := 8) (v := ?_) rfl (by kernel_rfl) (by kernel_rfl) (by kernel_rfl) (by kernel_rfl) (fun _ _ _ h => h) (by assumption) (Or.inl ⟨by rfl, ?_⟩) ?_
  rotate_left
  · intro w hSw
    try dsimp only at hSw
    go_simp
    first | done | (with_reducible rfl)
  try simp only [Act.put, List.setIfInBounds_toArray, List.set_cons_zero, List.set_cons_succ]
  refine Until.take (i := 10) (v := ?_) rfl (by kernel_rfl) (by kernel_rfl) (by kernel_rfl) (by kernel_rfl) (fun _ _ _ h => h) (by assumption) (Or.inl ⟨by rfl, ?_⟩) ?_
  rotate_left
  · intro w hSw
    try dsimp only at hSw
    go_simp
    first | done | (with_reducible rfl)
  try simp only [Act.put, List.setIfInBounds_toArray, List.set_cons_zero, List.set_cons_succ]
  refine Until.take (i := 11) (v := ?_) rfl (by kernel_rfl) (by kernel_rfl) (by kernel_rfl) (by kernel_rfl) (fun _ _ _ h => h) (by assumption) (Or.inl ⟨by rfl, ?_⟩) ?_
  rotate_left
  · intro w hSw
    try dsimp only at hSw
    go_simp
    first | done | (with_reducible rfl)
  try simp only [Act.put, List.setIfInBounds_toArray, List.set_cons_zero, List.set_cons_succ]
  refine Until.take (i := 12) (v := ?_) rfl (by kernel_rfl) (by kernel_rfl) (by kernel_rfl) (by kernel_rfl) (fun _ _ _ h => h) (by assumption) (Or.inl ⟨by rfl, ?_⟩) ?_
  rotate_left
  · intro w hSw
    try dsimp only at hSw
    go_simp
    first | done | (with_reducible rfl)
  try simp only [Act.put, List.setIfInBounds_toArray, List.set_cons_zero, List.set_cons_succ]
  refine Until.take (i := 13) (v := ?_) rfl (by kernel_rfl) (by kernel_rfl) (by kernel_rfl) (by kernel_rfl) (fun _ _ _ h => h) (by assumption) (Or.inl ⟨by rfl, ?_⟩) ?_
  rotate_left
  · intro w hSw
    try dsimp only at hSw
    go_simp
    first | done | (with_reducible rfl)
  try simp only [Act.put, List.setIfInBounds_toArray, List.set_cons_zero, List.set_cons_succ]
  refine Until.take (i := 14) (v := ?_) rfl (by kernel_rfl) (by kernel_rfl) (by kernel_rfl) (by kernel_rfl) (fun _ _ _ h => h) (by assumption) (Or.inl ⟨by rfl, ?_⟩) ?_
  rotate_left
  · intro w hSw
    try dsimp only at hSw
    go_simp
    first | done | (with_reducible rfl)
  try simp only [Act.put, List.setIfInBounds_toArray, List.set_cons_zero, List.set_cons_succ]
  refine Until.take (i := 15) (v := ?_) rfl (by kernel_rfl) (by kernel_rfl) (by kernel_rfl) (by kernel_rfl) (fun _ _ _ h => h) (by assumption) (Or.inl ⟨by rfl, ?_⟩) ?_
  rotate_left
  · intro w hSw
    try dsimp only at hSw
    go_simp
    first | done | (with_reducible rfl)
  try simp only [Act.put, List.setIfInBounds_toArray, List.set_cons_zero, List.set_cons_succ]
  refine Until.ready (rs := [9, 16]) (by kernel_rfl) (by simp) ?_
  refine Until.cons rfl (fun K hK => ?_) ?_
  · go_simp
    refine (add_any _ _ _).mono ?_
    rintro e w' ⟨rfl, rfl⟩
    go_wp2_with fail
    refine hK.out _ _ hHeld (fun hHeld => ?_)
    clear hK K
    try simp only [Act.put, List.setIfInBounds_toArray, List.set_cons_zero, List.set_cons_succ]
    refine Until.ready (rs := [16]) (by kernel_rfl) (by simp) ?_
    refine Until.cons rfl (fun K hK => ?_) Until.nil
    go_simp
    refine hK.out _ _ ⟨by rw [World.cell?_drew, World.cell?_alloc_past _ _ _ hszI]; exact hV, by rw [World.cell?_drew, World.cell?_alloc_past _ _ _ hszF]; exact hf0, by rw [World.cell?_drew, World.cell?_alloc_past _ _ _ hszS]; exact hc4⟩ (fun hHeld => ?_)
    clear hK K
    try simp only [Act.put, List.setIfInBounds_toArray, List.set_cons_zero, List.set_cons_succ]
    refine Until.ready (rs := [17]) (by kernel_rfl) (by simp) ?_
    refine Until.cons rfl (fun K hK => ?_) Until.nil
    refine step_append_lies _ rfl (.tmp 63) (.tmp 65) 41 rfl (F + 1) 38 i0 (.int .i64 0) 1 8 Yba.underlying41 hi0 hy0 hy1 hy2 rfl (by decide) (.slice (some ⟨g0, 0, none⟩) 0 cap0) 0 [] (by rfl) (by exact (HownW.out.alloc _).drew) ⟨W0.heap.size, 0, none⟩ 1 1 [.int .i64 stamp] (by rfl) rfl (by exact news_one _ _ _ _ rfl) (by simp [Value.oneCell']) (by omega) (by unfold maxLen; omega) (by omega) (by simp; omega) (W0.heap.size + 1) (by simp) ?_
    intro g cap w1 hown1 hgr1 hat1 hlt1
    have hFm1 := ((HFm.out.of_alloc (.cells #[.int .i64 stamp] 38)).of_drew).of_grown hgr1 (fun k hk => by simp [Value.ownBlock] at hk; omega)
    obtain ⟨d0, d1, d2, d3, d4, e0, e1, e2, e3, e4⟩ := hFm1.five HW1.out
    have kF := hFm1.fcells.1
    have kV := keepV hV hgr1 (by simp [Value.ownBlock]; omega)
    refine hK.out _ _ ⟨kV, kF, d4⟩ (fun hHeld => ?_)
    clear hK K
    try simp only [Act.put, List.setIfInBounds_toArray, List.set_cons_zero, List.set_cons_succ]
    refine Until.take (i := 18) (v := ?_) rfl (by kernel_rfl) (by kernel_rfl) (by kernel_rfl) (by kernel_rfl) (fun _ _ _ h => h) (by assumption) (Or.inl ⟨by rfl, ?_⟩) ?_
    rotate_left
    · intro w hSw
      try dsimp only at hSw
      go_simp
      first | done | (with_reducible rfl)
    try simp only [Act.put, List.setIfInBounds_toArray, List.set_cons_zero, List.set_cons_succ]
    refine Until.take (i := 19) (v := ?_) rfl (by kernel_rfl) (by kernel_rfl) (by kernel_rfl) (by kernel_rfl) (fun _ _ _ h => h) (by assumption) (Or.inl ⟨by rfl, ?_⟩) ?_
    rotate_left
    · intro w hSw
      try dsimp only at hSw
      go_simp
      first | done | (with_reducible rfl)
    try simp only [Act.put, List.setIfInBounds_toArray, List.set_cons_zero, List.set_cons_succ]
    refine Until.ready (rs := [20]) (by kernel_rfl) (by simp) ?_
    refine Until.cons_last rfl (fun K hK => ?_) Until.nil
    go_simp
    refine hK.out _ _ ?_
    clear hK K
    try simp only [Act.put, List.setIfInBounds_toArray, List.set_cons_zero, List.set_cons_succ]
    refine Until.done (by kernel_rfl) ?_ _
    go_wp2_with fail
    go_ret
    exact ⟨rfl, reset_end hFm1 (fun W => List.set_set _) HhiL1.out hown1 (by rcases hat1 with h1 | h1; (left; exact h1); (right; have := Hsz.out; have := HVe.out; omega)) (((HFr.out.alloc _).drew).grown hgr1 (fun k hk => .inr hk))⟩
  refine Until.cons rfl (fun K hK => ?_) Until.nil
  go_simp
  refine hK.out _ _ ⟨by rw [World.cell?_drew, World.cell?_alloc_past _ _ _ hszI]; exact hV, by rw [World.cell?_drew, World.cell?_alloc_past _ _ _ hszF]; exact hf0, by rw [World.cell?_drew, World.cell?_alloc_past _ _ _ hszS]; exact hc4⟩ (fun hHeld => ?_)
  clear hK K
  try simp only [Act.put, List.setIfInBounds_toArray, List.set_cons_zero, List.set_cons_succ]
  refine Until.ready (rs := [9]) (by kernel_rfl) (by simp) ?_
  refine Until.cons rfl (fun K hK => ?_) Until.nil
  go_simp
  refine (add_any _ _ _).mono ?_
  rintro e w' ⟨rfl, rfl⟩
  go_wp2_with fail
  refine hK.out _ _ hHeld (fun hHeld => ?_)
  clear hK K
  try simp only [Act.put, List.setIfInBounds_toArray, List.set_cons_zero, List.set_cons_succ]
  refine Until.ready (rs := [17]) (by kernel_rfl) (by simp) ?_
  refine Until.cons rfl (fun K hK => ?_) Until.nil
  refine step_append_lies _ rfl (.tmp 63) (.tmp 65) 41 rfl (F + 1) 38 i0 (.int .i64 0) 1 8 Yba.underlying41 hi0 hy0 hy1 hy2 rfl (by decide) (.slice (some ⟨g0, 0, none⟩) 0 cap0) 0 [] (by rfl) (by exact (HownW.out.alloc _).drew) ⟨W0.heap.size, 0, none⟩ 1 1 [.int .i64 stamp] (by rfl) rfl (by exact news_one _ _ _ _ rfl) (by simp [Value.oneCell']) (by omega) (by unfold maxLen; omega) (by omega) (by simp; omega) (W0.heap.size + 1) (by simp) ?_
  intro g cap w1 hown1 hgr1 hat1 hlt1
  have hFm1 := ((HFm.out.of_alloc (.cells #[.int .i64 stamp] 38)).of_drew).of_grown hgr1 (fun k hk => by simp [Value.ownBlock] at hk; omega)
  obtain ⟨d0, d1, d2, d3, d4, e0, e1, e2, e3, e4⟩ := hFm1.five HW1.out
  have kF := hFm1.fcells.1
  have kV := keepV hV hgr1 (by simp [Value.ownBlock]; omega)
  refine hK.out _ _ ⟨kV, kF, d4⟩ (fun hHeld => ?_)
  clear hK K
  try simp only [Act.put, List.setIfInBounds_toArray, List.set_cons_zero, List.set_cons_succ]
  refine Until.take (i := 18) (v := ?_) rfl (by kernel_rfl) (by kernel_rfl) (by kernel_rfl) (by kernel_rfl) (fun _ _ _ h => h) (by assumption) (Or.inl ⟨by rfl, ?_⟩) ?_
  rotate_left
  · intro w hSw
    try dsimp only at hSw
    go_simp
    first | done | (with_reducible rfl)
  try simp only [Act.put, List.setIfInBounds_toArray, List.set_cons_zero, List.set_cons_succ]
  refine Until.take (i := 19) (v := ?_) rfl (by kernel_rfl) (by kernel_rfl) (by kernel_rfl) (by kernel_rfl) (fun _ _ _ h => h) (by assumption) (Or.inl ⟨by rfl, ?_⟩) ?_
  rotate_left
  · intro w hSw
    try dsimp only at hSw
    go_simp
    first | done | (with_reducible rfl)
  try simp only [Act.put, List.setIfInBounds_toArray, List.set_cons_zero, List.set_cons_succ]
  refine Until.ready (rs := [20]) (by kernel_rfl) (by simp) ?_
  refine Until.cons_last rfl (fun K hK => ?_) Until.nil
  go_simp
  refine hK.out _ _ ?_
  clear hK K
  try simp only [Act.put, List.setIfInBounds_toArray, List.set_cons_zero, List.set_cons_succ]
  refine Until.done (by kernel_rfl) ?_ _
  go_wp2_with fail
  go_ret
  exact ⟨rfl, reset_end hFm1 (fun W => List.set_set _) HhiL1.out hown1 (by rcases hat1 with h1 | h1; (left; exact h1); (right; have := Hsz.out; have := HVe.out; omega)) (((HFr.out.alloc _).drew).grown hgr1 (fun k hk => .inr hk))⟩

set_option maxRecDepth 100000 in
set_option maxHeartbeats 1000000 in
theorem admit_old (SB F n i : Nat) (ma fa stamp now : Int) (Ws : List Wn) (w : World) (ne ar fl : Int) (g0 len0 cap0 : Nat) (s0 : List Value) (h : Fm SB F n ma fa Ws w) (hi : i < n) (_hn : n ≤ 1024)
    (hW : Ws[i]? = some ⟨true, ne, ar, fl, .slice (some ⟨g0, 0, none⟩) len0 cap0⟩)
    (hown : w.ownsRow (F + 1) 38 1 (.slice (some ⟨g0, 0, none⟩) len0 cap0) len0 s0) (hsi : ¬ wrap64 (now - ar) < 0) (hsi2 : fa < wrap64 (now - ar)) :
    Calls Yba.prog 9 #[.pointer (some ⟨F, 0, none⟩), .int .i64 i, .int .i64 stamp, .int .i64 now] w fun e w' => e = .returned (.string ⟨#[]⟩) ∧ Reset SB F n i ma fa stamp now Ws (some g0) w w' := by
  have hiI : (i : Int) < (n : Int) := by omega
  obtain ⟨c0, c1, c2, c3, c4, z0, z1, z2, z3, z4⟩ := h.five hW
  obtain ⟨f0, f1, f2⟩ := h.fcells
  have hF : F < w.heap.size := lt_of_block h.f
  have hSF := h.lt
  have hSB : SB < w.heap.size := by omega
  have hg0 : F < g0 ∧ g0 < w.heap.size := by have := hown.lt g0 rfl; omega
  have hcl : len0 ≤ cap0 := by
    rcases hown.2 with ⟨h0, _⟩ | ⟨g', cap', cur, hv, hb, hh, hn, hcap, hsz, htake⟩
    · cases h0
    · cases hv; exact hn
  have Hown : Hid (w.ownsRow (F + 1) 38 1 (.slice (some ⟨g0, 0, none⟩) len0 cap0) len0 s0) := hown
  have hca : (0 : Int) ≤ (cap0 : Int) := by omega
  have hVSB : ¬ w.heap.size = SB := by omega
  clear hown
  obtain ⟨si, hsieq⟩ : ∃ si, wrap64 (now - ar) = si := ⟨_, rfl⟩
  rw [hsieq] at hsi hsi2
  have hsiB : decide (si < 0) = false := decide_eq_false hsi
  have HW : Hid (Ws[i]? = some ⟨true, ne, ar, fl, .slice (some ⟨g0, 0, none⟩) len0 cap0⟩) := hW
  have HhiL : Hid (i < Ws.length) := by rw [h.len]; exact hi
  clear hW
  go_enter Yba.func9, Yba.ntmps9
  go_wp2_with fail
  refine (since_any _ _ _).mono ?_
  rintro e w1 ⟨rfl, rfl⟩
  rw [hsieq]
  go_wp2_with fail
  have hV : ((w.setCell { block := SB, off := i * 5 } (Value.bool false)).alloc (Obj.cells #[Value.pointer (some { block := SB, off := i * 5 })] 40)).cell? ⟨w.heap.size, 0, none⟩ = some (.pointer (some ⟨SB, i * 5, none⟩)) := by
    rw [World.cell?_alloc_at _ _ _ _ (by simp)]; rfl
  have hWi : Ws[i]'HhiL.out = ⟨true, ne, ar, fl, .slice (some ⟨g0, 0, none⟩) len0 cap0⟩ := (List.getElem?_eq_some_iff.1 HW.out).2
  have hFm00 := h.put i 0 ⟨false, ne, ar, fl, .slice (some ⟨g0, 0, none⟩) len0 cap0⟩ (.bool false) HhiL.out (by omega) (by rw [hWi]; rfl)
  rw [Nat.add_zero] at hFm00
  have hFm0 := hFm00.of_alloc (Obj.cells #[Value.pointer (some { block := SB, off := i * 5 })] 40)
  have hFr := ((Fr.refl SB (some g0) w).setCell (p := ⟨SB, i * 5, none⟩) (.inl rfl) (.bool false)).alloc (Obj.cells #[Value.pointer (some { block := SB, off := i * 5 })] 40)
  have hownW : ((w.setCell { block := SB, off := i * 5 } (Value.bool false)).alloc (Obj.cells #[Value.pointer (some { block := SB, off := i * 5 })] 40)).ownsRow (F + 1) 38 1 (.slice (some ⟨g0, 0, none⟩) len0 cap0) len0 s0 := (ownsRow_setCell_below Hown.out (by simp; omega) _).alloc _
  have HW1 : Hid ((Ws.set i ⟨false, ne, ar, fl, .slice (some ⟨g0, 0, none⟩) len0 cap0⟩)[i]? = some ⟨false, ne, ar, fl, .slice (some ⟨g0, 0, none⟩) len0 cap0⟩) := List.getElem?_set_self HhiL.out
  have HhiL1 : Hid (i < (Ws.set i ⟨false, ne, ar, fl, .slice (some ⟨g0, 0, none⟩) len0 cap0⟩).length) := by show i < _; simp; exact HhiL.out
  have hFm := hFm0
  clear hFm0 hFm00 hWi
  obtain ⟨V, hVe⟩ : ∃ V, V = w.heap.size := ⟨_, rfl⟩
  have hsz : ((w.setCell { block := SB, off := i * 5 } (Value.bool false)).alloc (Obj.cells #[Value.pointer (some { block := SB, off := i * 5 })] 40)).heap.size = V + 1 := by rw [hVe]; simp
  rw [← hVe] at hV hSB hF hg0 ⊢
  clear c0 c1 c2 c3 c4 z0 z1 z2 z3 z4 f0 f1 f2 h
  generalize ((w.setCell { block := SB, off := i * 5 } (Value.bool false)).alloc (Obj.cells #[Value.pointer (some { block := SB, off := i * 5 })] 40)) = W0 at hV hFm hFr hsz hownW ⊢
  have hf0 := hFm.fcells.1
  have hc4 := (hFm.five HW1.out).2.2.2.2.1
  obtain ⟨i0, hi0, hy0, hy1, hy2⟩ := info_parts Yba.info38'
  have HFm : Hid (Fm SB F n ma fa (Ws.set i ⟨false, ne, ar, fl, .slice (some ⟨g0, 0, none⟩) len0 cap0⟩) W0) := hFm
  have HFr : Hid (Fr SB (some g0) w W0) := hFr
  have Hsz : Hid (W0.heap.size = V + 1) := hsz
  have hszI : V < W0.heap.size := by omega
  have hszF : F < W0.heap.size := by omega
  have hszS : SB < W0.heap.size := by omega
  have HVe : Hid (V = w.heap.size) := hVe
  have HownW : Hid (W0.ownsRow (F + 1) 38 1 (.slice (some ⟨g0, 0, none⟩) 0 cap0) 0 []) := own_zero hownW
  have hVg : ¬ V = g0 := by omega
  clear hownW hVSB
  clear hFm hFr hsz hVe
  refine Until.begin_ (S := (fun w' => w'.cell? ⟨V, 0, none⟩ = some (.pointer (some ⟨SB, i * 5, none⟩)) ∧ w'.cell? ⟨F, 0, none⟩ = some (.int .i64 ma) ∧ w'.cell? ⟨SB, i * 5 + 4, none⟩ = some (.slice (some ⟨g0, 0, none⟩) len0 cap0))) 20 (by kernel_rfl) ⟨hV, hf0, hc4⟩ (fun hHeld => ?_)
  refine Until.take (i := 0) (v := ?_) rfl (by kernel_rfl) (by kernel_rfl) (by kernel_rfl) (by kernel_rfl) (fun _ _ _ h => h) (by assumption) (Or.inl ⟨by rfl, ?_⟩) ?_
  rotate_left
  · intro w hSw
    try dsimp only at hSw
    go_simp
    first | done | (with_reducible rfl)
  try simp only [Act.put, List.setIfInBounds_toArray, List.set_cons_zero, List.set_cons_succ]
  refine Until.take (i := 1) (v := ?_) rfl (by kernel_rfl) (by kernel_rfl) (by kernel_rfl) (by kernel_rfl) (fun _ _ _ h => h) (by assumption) (Or.inl ⟨by rfl, ?_⟩) ?_
  rotate_left
  · intro w hSw
    try dsimp only at hSw
    go_simp
    first | done | (with_reducible rfl)
  try simp only [Act.put, List.setIfInBounds_toArray, List.set_cons_zero, List.set_cons_succ]
  refine Until.take (i := 2) (v := ?_) rfl (by kernel_rfl) (by kernel_rfl) (by kernel_rfl) (by kernel_rfl) (fun _ _ _ h => h) (by assumption) (Or.inl ⟨by rfl, ?_⟩) ?_
  rotate_left
  · intro w hSw
    try dsimp only at hSw
    go_simp
    first | done | (with_reducible rfl)
  try simp only [Act.put, List.setIfInBounds_toArray, List.set_cons_zero, List.set_cons_succ]
  refine Until.take (i := 3) (v := ?_) rfl (by kernel_rfl) (by kernel_rfl) (by kernel_rfl) (by kernel_rfl) (fun _ _ _ h => h) (by assumption) (Or.inl ⟨by rfl, ?_⟩) ?_
  rotate_left
  · intro w hSw
    try dsimp only at hSw
    go_simp
    first | done | (with_reducible rfl)
  try simp only [Act.put, List.setIfInBounds_toArray, List.set_cons_zero, List.set_cons_succ]
  refine Until.take (i := 4) (v := ?_) rfl (by kernel_rfl) (by kernel_rfl) (by kernel_rfl) (by kernel_rfl) (fun _ _ _ h => h) (by assumption) (Or.inl ⟨by rfl, ?_⟩) ?_
  rotate_left
  · intro w hSw
    try dsimp only at hSw
    go_simp
    first | done | (with_reducible rfl)
  try simp only [Act.put, List.setIfInBounds_toArray, List.set_cons_zero, List.set_cons_succ]
  refine Until.take (i := 5) (v := ?_) rfl (by kernel_rfl) (by kernel_rfl) (by kernel_rfl) (by kernel_rfl) (fun _ _ _ h => h) (by assumption) (Or.inl ⟨by rfl, ?_⟩) ?_
  rotate_left
  · intro w hSw
    try dsimp only at hSw
    go_simp
    first | done | (with_reducible rfl)
  try simp only [Act.put, List.setIfInBounds_toArray, List.set_cons_zero, List.set_cons_succ]
  refine Until.take (i := 6) (v := ?_) rfl (by kernel_rfl) (by kernel_rfl) (by kernel_rfl) (by kernel_rfl) (fun _ _ _ h => h) (by assumption) (Or.inl ⟨by rfl, ?_⟩) ?_
  rotate_left
  · intro w hSw
    try dsimp only at hSw
    go_simp
    first | done | (with_reducible rfl)
  try simp only [Act.put, List.setIfInBounds_toArray, List.set_cons_zero, List.set_cons_succ]
  refine Until.take (i := 7) (v := ?_) rfl (by kernel_rfl) (by kernel_rfl) (by kernel_rfl) (by kernel_rfl) (fun _ _ _ h => h) (by assumption) (Or.inl ⟨by rfl, ?_⟩) ?_
  rotate_left
  · intro w hSw
    try dsimp only at hSw
    go_simp
    first | done | (with_reducible rfl)
  try simp only [Act.put, List.setIfInBounds_toArray, List.set_cons_zero, List.set_cons_succ]
  refine Until.take (i := 8) (v := ?_) rfl (by kernel_rfl) (by kernel_rfl) (by kernel_rfl) (by kernel_rfl) (fun _ _ _ h => h) (by assumption) (Or.inl ⟨by rfl, ?_⟩) ?_
  rotate_left
  · intro w hSw
    try dsimp only at hSw
    go_simp
    first | done | (with_reducible rfl)
  try simp only [Act.put, List.setIfInBounds_toArray, List.set_cons_zero, List.set_cons_succ]
  refine Until.take (i := 10) (v := ?_) rfl (by kernel_rfl) (by kernel_rfl) (by kernel_rfl) (by kernel_rfl) (fun _ _ _ h => h) (by assumption) (Or.inl ⟨by rfl, ?_⟩) ?_
  rotate_left
  · intro w hSw
    try dsimp only at hSw
    go_simp
    first | done | (with_reducible rfl)
  try simp only [Act.put, List.setIfInBounds_toArray, List.set_cons_zero, List.set_cons_succ]
  refine Until.take (i := 11) (v := ?_) rfl (by kernel_rfl) (by kernel_rfl) (by kernel_rfl) (by kernel_rfl) (fun _ _ _ h => h) (by assumption) (Or.inl ⟨by rfl, ?_⟩) ?_
  rotate_left
  · intro w hSw
    try dsimp only at hSw
    go_simp
    first | done | (with_reducible rfl)
  try simp only [Act.put, List.setIfInBounds_toArray, List.set_cons_zero, List.set_cons_succ]
  refine Until.take (i := 12) (v := ?_) rfl (by kernel_rfl) (by kernel_rfl) (by kernel_rfl) (by kernel_rfl) (fun _ _ _ h => h) (by assumption) (Or.inl ⟨by rfl, ?_⟩) ?_
  rotate_left
  · intro w hSw
    try dsimp only at hSw
    go_simp
    first | done | (with_reducible rfl)
  try simp only [Act.put, List.setIfInBounds_toArray, List.set_cons_zero, List.set_cons_succ]
  refine Until.take (i := 13) (v := ?_) rfl (by kernel_rfl) (by kernel_rfl) (by kernel_rfl) (by kernel_rfl) (fun _ _ _ h => h) (by assumption) (Or.inl ⟨by rfl, ?_⟩) ?_
  rotate_left
  · intro w hSw
    try dsimp only at hSw
    go_simp
    first | done | (with_reducible rfl)
  try simp only [Act.put, List.setIfInBounds_toArray, List.set_cons_zero, List.set_cons_succ]
  refine Until.take (i := 14) (v := ?_) rfl (by kernel_rfl) (by kernel_rfl) (by kernel_rfl) (by kernel_rfl) (fun _ _ _ h => h) (by assumption) (Or.inl ⟨by rfl, ?_⟩) ?_
  rotate_left
  · intro w hSw
    try dsimp only at hSw
    go_simp
    first | done | (with_reducible rfl)
  try simp only [Act.put, List.setIfInBounds_toArray, List.set_cons_zero, List.set_cons_succ]
  refine Until.take (i := 15) (v := ?_) rfl (by kernel_rfl) (by kernel_rfl) (by kernel_rfl) (by kernel_rfl) (fun _ _ _ h => h) (by assumption) (Or.inl ⟨by rfl, ?_⟩) ?_
  rotate_left
  · intro w hSw
    try dsimp only at hSw
    go_simp
    first | done | (with_reducible rfl)
  try simp only [Act.put, List.setIfInBounds_toArray, List.set_cons_zero, List.set_cons_succ]
  refine Until.ready (rs := [9, 16]) (by kernel_rfl) (by simp) ?_
  refine Until.cons rfl (fun K hK => ?_) ?_
  · go_simp
    refine (add_any _ _ _).mono ?_
    rintro e w' ⟨rfl, rfl⟩
    go_wp2_with fail
    refine hK.out _ _ hHeld (fun hHeld => ?_)
    clear hK K
    try simp only [Act.put, List.setIfInBounds_toArray, List.set_cons_zero, List.set_cons_succ]
    refine Until.ready (rs := [16]) (by kernel_rfl) (by simp) ?_
    refine Until.cons rfl (fun K hK => ?_) Until.nil
    go_simp
    refine hK.out _ _ ⟨by rw [World.cell?_drew, World.cell?_alloc_past _ _ _ hszI]; exact hV, by rw [World.cell?_drew, World.cell?_alloc_past _ _ _ hszF]; exact hf0, by rw [World.cell?_drew, World.cell?_alloc_past _ _ _ hszS]; exact hc4⟩ (fun hHeld => ?_)
    clear hK K
    try simp only [Act.put, List.setIfInBounds_toArray, List.set_cons_zero, List.set_cons_succ]
    refine Until.ready (rs := [17]) (by kernel_rfl) (by simp) ?_
    refine Until.cons rfl (fun K hK => ?_) Until.nil
    refine step_append_lies _ rfl (.tmp 63) (.tmp 65) 41 rfl (F + 1) 38 i0 (.int .i64 0) 1 8 Yba.underlying41 hi0 hy0 hy1 hy2 rfl (by decide) (.slice (some ⟨g0, 0, none⟩) 0 cap0) 0 [] (by rfl) (by exact (HownW.out.alloc _).drew) ⟨W0.heap.size, 0, none⟩ 1 1 [.int .i64 stamp] (by rfl) rfl (by exact news_one _ _ _ _ rfl) (by simp [Value.oneCell']) (by omega) (by unfold maxLen; omega) (by omega) (by simp; omega) (W0.heap.size + 1) (by simp) ?_
    intro g cap w1 hown1 hgr1 hat1 hlt1
    have hFm1 := ((HFm.out.of_alloc (.cells #[.int .i64 stamp] 38)).of_drew).of_grown hgr1 (fun k hk => by simp [Value.ownBlock] at hk; omega)
    obtain ⟨d0, d1, d2, d3, d4, e0, e1, e2, e3, e4⟩ := hFm1.five HW1.out
    have kF := hFm1.fcells.1
    have kV := keepV hV hgr1 (by simp [Value.ownBlock]; omega)
    refine hK.out _ _ ⟨kV, kF, d4⟩ (fun hHeld => ?_)
    clear hK K
    try simp only [Act.put, List.setIfInBounds_toArray, List.set_cons_zero, List.set_cons_succ]
    refine Until.take (i := 18) (v := ?_) rfl (by kernel_rfl) (by kernel_rfl) (by kernel_rfl) (by kernel_rfl) (fun _ _ _ h => h) (by assumption) (Or.inl ⟨by rfl, ?_⟩) ?_
    rotate_left
    · intro w hSw
      try dsimp only at hSw
      go_simp
      first | done | (with_reducible rfl)
    try simp only [Act.put, List.setIfInBounds_toArray, List.set_cons_zero, List.set_cons_succ]
    refine Until.take (i := 19) (v := ?_) rfl (by kernel_rfl) (by kernel_rfl) (by kernel_rfl) (by kernel_rfl) (fun _ _ _ h => h) (by assumption) (Or.inl ⟨by rfl, ?_⟩) ?_
    rotate_left
    · intro w hSw
      try dsimp only at hSw
      go_simp
      first | done | (with_reducible rfl)
    try simp only [Act.put, List.setIfInBounds_toArray, List.set_cons_zero, List.set_cons_succ]
    refine Until.ready (rs := [20]) (by kernel_rfl) (by simp) ?_
    refine Until.cons_last rfl (fun K hK => ?_) Until.nil
    go_simp
    refine hK.out _ _ ?_
    clear hK K
    try simp only [Act.put, List.setIfInBounds_toArray, List.set_cons_zero, List.set_cons_succ]
    refine Until.done (by kernel_rfl) ?_ _
    go_wp2_with fail
    go_ret
    exact ⟨rfl, reset_end hFm1 (fun W => List.set_set _) HhiL1.out hown1 (by rcases hat1 with h1 | h1; (left; exact h1); (right; have := Hsz.out; have := HVe.out; omega)) (((HFr.out.alloc _).drew).grown hgr1 (fun k hk => .inr hk))⟩
  refine Until.cons rfl (fun K hK => ?_) Until.nil
  go_simp
  refine hK.out _ _ ⟨by rw [World.cell?_drew, World.cell?_alloc_past _ _ _ hszI]; exact hV, by rw [World.cell?_drew, World.cell?_alloc_past _ _ _ hszF]; exact hf0, by rw [World.cell?_drew, World.cell?_alloc_past _ _ _ hszS]; exact hc4⟩ (fun hHeld => ?_)
  clear hK K
  try simp only [Act.put, List.setIfInBounds_toArray, List.set_cons_zero, List.set_cons_succ]
  refine Until.ready (rs := [9]) (by kernel_rfl) (by simp) ?_
  refine Until.cons rfl (fun K hK => ?_) Until.nil
  go_simp
  refine (add_any _ _ _).mono ?_
  rintro e w' ⟨rfl, rfl⟩
  go_wp2_with fail
  refine hK.out _ _ hHeld (fun hHeld => ?_)
  clear hK K
  try simp only [Act.put, List.setIfInBounds_toArray, List.set_cons_zero, List.set_cons_succ]
  refine Until.ready (rs := [17]) (by kernel_rfl) (by simp) ?_
  refine Until.cons rfl (fun K hK => ?_) Until.nil
  refine step_append_lies _ rfl (.tmp 63) (.tmp 65) 41 rfl (F + 1) 38 i0 (.int .i64 0) 1 8 Yba.underlying41 hi0 hy0 hy1 hy2 rfl (by decide) (.slice (some ⟨g0, 0, none⟩) 0 cap0) 0 [] (by rfl) (by exact (HownW.out.alloc _).drew) ⟨W0.heap.size, 0, none⟩ 1 1 [.int .i64 stamp] (by rfl) rfl (by exact news_one _ _ _ _ rfl) (by simp [Value.oneCell']) (by omega) (by unfold maxLen; omega) (by omega) (by simp; omega) (W0.heap.size + 1) (by simp) ?_
  intro g cap w1 hown1 hgr1 hat1 hlt1
  have hFm1 := ((HFm.out.of_alloc (.cells #[.int .i64 stamp] 38)).of_drew).of_grown hgr1 (fun k hk => by simp [Value.ownBlock] at hk; omega)
  obtain ⟨d0, d1, d2, d3, d4, e0, e1, e2, e3, e4⟩ := hFm1.five HW1.out
  have kF := hFm1.fcells.1
  have kV := keepV hV hgr1 (by simp [Value.ownBlock]; omega)
  refine hK.out _ _ ⟨kV, kF, d4⟩ (fun hHeld => ?_)
  clear hK K
  try simp only [Act.put, List.setIfInBounds_toArray, List.set_cons_zero, List.set_cons_succ]
  refine Until.take (i := 18) (v := ?_) rfl (by kernel_rfl) (by kernel_rfl) (by kernel_rfl) (by kernel_rfl) (fun _ _ _ h => h) (by assumption) (Or.inl ⟨by rfl, ?_⟩) ?_
  rotate_left
  · intro w hSw
    try dsimp only at hSw
    go_simp
    first | done | (with_reducible rfl)
  try simp only [Act.put, List.setIfInBounds_toArray, List.set_cons_zero, List.set_cons_succ]
  refine Until.take (i := 19) (v := ?_) rfl (by kernel_rfl) (by kernel_rfl) (by kernel_rfl) (by kernel_rfl) (fun _ _ _ h => h) (by assumption) (Or.inl ⟨by rfl, ?_⟩) ?_
  rotate_left
  · intro w hSw
    try dsimp only at hSw
    go_simp
    first | done | (with_reducible rfl)
  try simp only [Act.put, List.setIfInBounds_toArray, List.set_cons_zero, List.set_cons_succ]
  refine Until.ready (rs := [20]) (by kernel_rfl) (by simp) ?_
  refine Until.cons_last rfl (fun K hK => ?_) Until.nil
  go_simp
  refine hK.out _ _ ?_
  clear hK K
  try simp only [Act.put, List.setIfInBounds_toArray, List.set_cons_zero, List.set_cons_succ]
  refine Until.done (by kernel_rfl) ?_ _
  go_wp2_with fail
  go_ret
  exact ⟨rfl, reset_end hFm1 (fun W => List.set_set _) HhiL1.out hown1 (by rcases hat1 with h1 | h1; (left; exact h1); (right; have := Hsz.out; have := HVe.out; omega)) (((HFr.out.alloc _).drew).grown hgr1 (fun k hk => .inr hk))⟩

end Go.Proofs.Ybulkczmq
