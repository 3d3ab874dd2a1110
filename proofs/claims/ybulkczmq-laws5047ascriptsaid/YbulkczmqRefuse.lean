/- The walks of slices.Index, slices.Contains, and of admit where it answers 'stale' or 'replayed'. -/
import Derived.Test.YbulkczmqReset
namespace Go.Proofs.Ybulkczmq
open Go.RowKit

theorem index_any (g n cap : Nat) (s : List Int) (x : Int) (w : World) (hlen : s.length = n) (hn : n ≤ 4096) (hc : ∀ t, t < n → w.cell? ⟨g, t, none⟩ = some (.int .i64 (nth s t))) :
    Calls Yba.prog 22 #[.slice (some ⟨g, 0, none⟩) n cap, .int .i64 x] w fun e w' => ∃ r, e = .returned (.int .i64 r) ∧ (0 ≤ r ↔ x ∈ s) ∧ w' = w := by
  have Hc : Hid (∀ t, t < n → w.cell? ⟨g, t, none⟩ = some (.int .i64 (nth s t))) := hc
  have Hlen : Hid (s.length = n) := hlen
  clear hc hlen
  go_enter Yba.func22, Yba.ntmps22
  go_wp2_with fail
  go_loopg [8] n (fun k i wr => ∃ t : Nat, i = .int .i64 t ∧ t + k = n ∧ (∀ u, u < t → nth s u ≠ x) ∧ wr = w)
  case atStart => exact ⟨0, rfl, by omega, fun u hu => by omega, rfl⟩
  case round =>
    obtain ⟨t, rfl, htk, hno, rfl⟩ := hrel
    have Hno : Hid (∀ u, u < t → nth s u ≠ x) := hno
    clear hno
    by_cases hlt : t < n
    · have hltI : (t : Int) < (n : Int) := by omega
      obtain ⟨y, hy⟩ : ∃ y, y = nth s t := ⟨_, rfl⟩
      have cy := Hc.out t hlt
      rw [← hy] at cy
      have Hy : Hid (y = nth s t) := hy
      clear hy
      by_cases he : x = y
      · have heB : (x == y) = true := by simp [he]
        have He : Hid (x = y) := he
        clear he
        go_wp2_with fail
        go_ret
        refine ⟨_, rfl, ⟨fun _ => ?_, fun _ => Int.natCast_nonneg t⟩, rfl⟩
        rw [He.out, Hy.out, nth_eq s t (by rw [Hlen.out]; exact hlt)]
        exact List.getElem_mem _
      · have heB : (x == y) = false := by simp [he]
        have He : Hid (¬ x = y) := he
        clear he
        go_wp2_with fail
        go_roundg (n - (t + 1))
        case measure => omega
        case rel =>
          refine ⟨t + 1, by go_num, by omega, ?_, rfl⟩
          intro u hu
          by_cases e : u = t
          · subst e; rw [← Hy.out]; exact fun h => He.out h.symm
          · exact Hno.out u (by omega)
    · have hltI : ¬ (t : Int) < (n : Int) := by omega
      go_wp2_with fail
      go_ret
      refine ⟨_, rfl, ⟨fun h => by omega, fun h => ?_⟩, rfl⟩
      obtain ⟨j, hj, e⟩ := List.getElem_of_mem h
      exact absurd (by rw [nth_eq s j hj]; exact e) (Hno.out j (by have := Hlen.out; omega))

theorem contains_any (g n cap : Nat) (s : List Int) (x : Int) (w : World) (hlen : s.length = n) (hn : n ≤ 4096) (hc : ∀ t, t < n → w.cell? ⟨g, t, none⟩ = some (.int .i64 (nth s t))) :
    Calls Yba.prog 15 #[.slice (some ⟨g, 0, none⟩) n cap, .int .i64 x] w fun e w' => e = .returned (.bool (decide (x ∈ s))) ∧ w' = w := by
  go_enter Yba.func15, Yba.ntmps15
  go_wp2_with fail
  refine (index_any g n cap s x w hlen hn hc).mono ?_
  rintro e w1 ⟨r, rfl, hr, rfl⟩
  by_cases hx : x ∈ s
  · have h0 : 0 ≤ r := hr.2 hx
    have Hx : Hid (x ∈ s) := hx
    clear hr hx
    go_wp2_with fail
    go_ret
    exact ⟨by rw [decide_eq_true Hx.out]; rfl, rfl⟩
  · have h0 : decide (0 ≤ r) = false := decide_eq_false (fun h => hx (hr.1 h))
    have Hx : Hid (¬ x ∈ s) := hx
    clear hr hx
    go_wp2_with fail
    go_ret
    exact ⟨by rw [decide_eq_false Hx.out]; rfl, rfl⟩

/-- What admit leaves where it refuses. -/
def Kept (SB F n : Nat) (ma fa : Int) (Ws : List Wn) (w w' : World) : Prop := Fm SB F n ma fa Ws w' ∧ Fr SB none w w'

theorem kept_of {SB F n : Nat} {ma fa : Int} {Ws : List Wn} {w : World} (h : Fm SB F n ma fa Ws w) (o : Obj) (q : Nat) : Kept SB F n ma fa Ws w ((w.alloc o).drewN q) := by
  have h1 : Fm SB F n ma fa Ws (w.alloc o) := ⟨h.row.alloc o, h.len, h.lt, by rw [Below.heap_alloc w o F (lt_of_block h.f)]; exact h.f⟩
  have h2 := (Fr.refl SB none w).alloc o
  exact ⟨⟨h1.row, h1.len, h1.lt, h1.f⟩, ⟨h2.os, h2.tape, h2.output, h2.size, h2.block⟩⟩

theorem own_of_fr {SB B T : Nat} {row : Option Nat} {w w' : World} {v : Value} {n : Nat} {xs : List Value} (h : w.ownsRow B T 1 v n xs) (hf : Fr SB row w w') (hB : SB < B) (hr : v.ownBlock = none ∨ v.ownBlock ≠ row) : w'.ownsRow B T 1 v n xs := by
  refine ⟨h.1, ?_⟩
  rcases h.2 with hn | ⟨g, cap, cur, rfl, hb, hgg, rest⟩
  · exact .inl hn
  · refine .inr ⟨g, cap, cur, rfl, hb, ?_, rest⟩
    rw [hf.block g (Array.getElem?_eq_some_iff.1 hgg).1 (by omega) (by simpa [Value.ownBlock] using hr)]
    exact hgg

theorem Kept.drewN {SB F n : Nat} {ma fa : Int} {Ws : List Wn} {w w' : World} (h : Kept SB F n ma fa Ws w w') (q : Nat) : Kept SB F n ma fa Ws w (w'.drewN q) :=
  ⟨⟨h.1.row, h.1.len, h.1.lt, h.1.f⟩, ⟨h.2.os, h.2.tape, h.2.output, h.2.size, h.2.block⟩⟩

set_option maxRecDepth 100000 in
set_option maxHeartbeats 1000000 in
theorem admit_stale1 (SB F n i : Nat) (ma fa stamp now : Int) (Ws : List Wn) (w : World) (ne ar fl : Int) (sv : Value) (h : Fm SB F n ma fa Ws w) (hi : i < n)
    (hW : Ws[i]? = some ⟨true, ne, ar, fl, sv⟩) (hs1 : ¬ wrap64 (now - ar) < 0) (hs2 : ¬ fa < wrap64 (now - ar)) (hs3 : wrap64 (stamp - fl) ≤ 0) :
    Calls Yba.prog 9 #[.pointer (some ⟨F, 0, none⟩), .int .i64 i, .int .i64 stamp, .int .i64 now] w fun e w' => e = .returned (.string ⟨#[115, 116, 97, 108, 101]⟩) ∧ Kept SB F n ma fa Ws w w' := by
  have hiI : (i : Int) < (n : Int) := by omega
  obtain ⟨c0, c1, c2, c3, c4, z0, z1, z2, z3, z4⟩ := h.five hW
  obtain ⟨f0, f1, f2⟩ := h.fcells
  have hF : F < w.heap.size := lt_of_block h.f
  have hSF := h.lt
  have hSB : SB < w.heap.size := by omega
  obtain ⟨si, hsieq⟩ : ∃ si, wrap64 (now - ar) = si := ⟨_, rfl⟩
  rw [hsieq] at hs1 hs2
  have hb1 : decide (si < 0) = false := decide_eq_false hs1
  have hb2 : decide (fa < si) = false := decide_eq_false hs2
  obtain ⟨s3, hs3eq⟩ : ∃ s3, wrap64 (stamp - fl) = s3 := ⟨_, rfl⟩
  rw [hs3eq] at hs3
  have hb3 : decide (s3 ≤ 0) = true := decide_eq_true hs3
  have Hh : Hid (Fm SB F n ma fa Ws w) := h
  have HW : Hid (Ws[i]? = some ⟨true, ne, ar, fl, sv⟩) := hW
  clear h hW
  go_enter Yba.func9, Yba.ntmps9
  go_wp2_with fail
  refine (since_any _ _ _).mono ?_
  rintro e w1 ⟨rfl, rfl⟩
  rw [hsieq]
  go_wp2_with fail
  go_quiet ((first | (go_at_call 13; exact Calls.quiet_of_same (since_any _ _ _)) | (go_at_call 14; exact Calls.quiet_of_same (add_any _ _ _))))
  go_wp2_with fail
  have hk := kept_of Hh.out (Obj.cells #[Value.pointer (some { block := SB, off := i * 5 })] 40) nq
  have q0 : ((w.alloc (Obj.cells #[Value.pointer (some { block := SB, off := i * 5 })] 40)).drewN nq).cell? ⟨w.heap.size, 0, none⟩ = some (.pointer (some ⟨SB, i * 5, none⟩)) := by
    show (w.alloc _).cell? ⟨w.heap.size, 0, none⟩ = _
    rw [World.cell?_alloc_at _ _ _ _ rfl]; rfl
  clear c0 c1 c2 c3 c4 z0 z1 z2 z3 z4 f0 f1 f2
  generalize (w.alloc (Obj.cells #[Value.pointer (some { block := SB, off := i * 5 })] 40)).drewN nq = W0 at hk q0 ⊢
  obtain ⟨c0, c1, c2, c3, c4, z0, z1, z2, z3, z4⟩ := hk.1.five HW.out
  obtain ⟨f0, f1, f2⟩ := hk.1.fcells
  have Hk : Hid (Kept SB F n ma fa Ws w W0) := hk
  clear hk
  go_quiet ((first | (go_at_call 13; exact Calls.quiet_of_same (since_any _ _ _)) | (go_at_call 14; exact Calls.quiet_of_same (add_any _ _ _))))
  go_wp2_with fail
  go_ret
  exact ⟨rfl, Hk.out.drewN _⟩

set_option maxRecDepth 100000 in
set_option maxHeartbeats 1000000 in
theorem admit_stale2 (SB F n i : Nat) (ma fa stamp now : Int) (Ws : List Wn) (w : World) (ne ar fl : Int) (sv : Value) (h : Fm SB F n ma fa Ws w) (hi : i < n)
    (hW : Ws[i]? = some ⟨true, ne, ar, fl, sv⟩) (hs1 : ¬ wrap64 (now - ar) < 0) (hs2 : ¬ fa < wrap64 (now - ar)) (hs3 : ¬ wrap64 (stamp - fl) ≤ 0) (hs4 : ma ≤ wrap64 (wrap64 (ne + wrap64 (now - ar)) - stamp)) :
    Calls Yba.prog 9 #[.pointer (some ⟨F, 0, none⟩), .int .i64 i, .int .i64 stamp, .int .i64 now] w fun e w' => e = .returned (.string ⟨#[115, 116, 97, 108, 101]⟩) ∧ Kept SB F n ma fa Ws w w' := by
  have hiI : (i : Int) < (n : Int) := by omega
  obtain ⟨c0, c1, c2, c3, c4, z0, z1, z2, z3, z4⟩ := h.five hW
  obtain ⟨f0, f1, f2⟩ := h.fcells
  have hF : F < w.heap.size := lt_of_block h.f
  have hSF := h.lt
  have hSB : SB < w.heap.size := by omega
  obtain ⟨si, hsieq⟩ : ∃ si, wrap64 (now - ar) = si := ⟨_, rfl⟩
  rw [hsieq] at hs1 hs2 hs4
  have hb1 : decide (si < 0) = false := decide_eq_false hs1
  have hb2 : decide (fa < si) = false := decide_eq_false hs2
  obtain ⟨s3, hs3eq⟩ : ∃ s3, wrap64 (stamp - fl) = s3 := ⟨_, rfl⟩
  rw [hs3eq] at hs3
  have hb3 : decide (s3 ≤ 0) = false := decide_eq_false hs3
  obtain ⟨ck, hckeq⟩ : ∃ ck, wrap64 (ne + si) = ck := ⟨_, rfl⟩
  rw [hckeq] at hs4
  obtain ⟨s4, hs4eq⟩ : ∃ s4, wrap64 (ck - stamp) = s4 := ⟨_, rfl⟩
  rw [hs4eq] at hs4
  have hb4 : decide (ma ≤ s4) = true := decide_eq_true hs4
  have Hh : Hid (Fm SB F n ma fa Ws w) := h
  have HW : Hid (Ws[i]? = some ⟨true, ne, ar, fl, sv⟩) := hW
  clear h hW
  go_enter Yba.func9, Yba.ntmps9
  go_wp2_with fail
  refine (since_any _ _ _).mono ?_
  rintro e w1 ⟨rfl, rfl⟩
  rw [hsieq]
  go_wp2_with fail
  go_quiet ((first | (go_at_call 13; exact Calls.quiet_of_same (since_any _ _ _)) | (go_at_call 14; exact Calls.quiet_of_same (add_any _ _ _))))
  go_wp2_with fail
  have hk := kept_of Hh.out (Obj.cells #[Value.pointer (some { block := SB, off := i * 5 })] 40) nq
  have q0 : ((w.alloc (Obj.cells #[Value.pointer (some { block := SB, off := i * 5 })] 40)).drewN nq).cell? ⟨w.heap.size, 0, none⟩ = some (.pointer (some ⟨SB, i * 5, none⟩)) := by
    show (w.alloc _).cell? ⟨w.heap.size, 0, none⟩ = _
    rw [World.cell?_alloc_at _ _ _ _ rfl]; rfl
  clear c0 c1 c2 c3 c4 z0 z1 z2 z3 z4 f0 f1 f2
  generalize (w.alloc (Obj.cells #[Value.pointer (some { block := SB, off := i * 5 })] 40)).drewN nq = W0 at hk q0 ⊢
  obtain ⟨c0, c1, c2, c3, c4, z0, z1, z2, z3, z4⟩ := hk.1.five HW.out
  obtain ⟨f0, f1, f2⟩ := hk.1.fcells
  have Hk : Hid (Kept SB F n ma fa Ws w W0) := hk
  clear hk
  go_quiet ((first | (go_at_call 13; exact Calls.quiet_of_same (since_any _ _ _)) | (go_at_call 14; exact Calls.quiet_of_same (add_any _ _ _))))
  go_wp2_with fail
  go_ret
  exact ⟨rfl, Hk.out.drewN _⟩

set_option maxRecDepth 100000 in
set_option maxHeartbeats 1000000 in
theorem admit_repl (SB F n i : Nat) (ma fa stamp now : Int) (Ws : List Wn) (w : World) (ne ar fl : Int) (g0 cap0 : Nat) (s0 : List Int) (h : Fm SB F n ma fa Ws w) (hi : i < n)
    (hW : Ws[i]? = some ⟨true, ne, ar, fl, .slice (some ⟨g0, 0, none⟩) s0.length cap0⟩) (hs1 : ¬ wrap64 (now - ar) < 0) (hs2 : ¬ fa < wrap64 (now - ar)) (hs3 : ¬ wrap64 (stamp - fl) ≤ 0) (hs4 : ¬ ma ≤ wrap64 (wrap64 (ne + wrap64 (now - ar)) - stamp)) (hown : w.ownsRow (F + 1) 38 1 (.slice (some ⟨g0, 0, none⟩) s0.length cap0) s0.length (ints s0)) (hlen : s0.length ≤ 4096) (hmem : stamp ∈ s0) :
    Calls Yba.prog 9 #[.pointer (some ⟨F, 0, none⟩), .int .i64 i, .int .i64 stamp, .int .i64 now] w fun e w' => e = .returned (.string ⟨#[114, 101, 112, 108, 97, 121, 101, 100]⟩) ∧ Kept SB F n ma fa Ws w w' := by
  have hiI : (i : Int) < (n : Int) := by omega
  obtain ⟨c0, c1, c2, c3, c4, z0, z1, z2, z3, z4⟩ := h.five hW
  obtain ⟨f0, f1, f2⟩ := h.fcells
  have hF : F < w.heap.size := lt_of_block h.f
  have hSF := h.lt
  have hSB : SB < w.heap.size := by omega
  obtain ⟨si, hsieq⟩ : ∃ si, wrap64 (now - ar) = si := ⟨_, rfl⟩
  rw [hsieq] at hs1 hs2 hs4
  have hb1 : decide (si < 0) = false := decide_eq_false hs1
  have hb2 : decide (fa < si) = false := decide_eq_false hs2
  obtain ⟨s3, hs3eq⟩ : ∃ s3, wrap64 (stamp - fl) = s3 := ⟨_, rfl⟩
  rw [hs3eq] at hs3
  have hb3 : decide (s3 ≤ 0) = false := decide_eq_false hs3
  obtain ⟨ck, hckeq⟩ : ∃ ck, wrap64 (ne + si) = ck := ⟨_, rfl⟩
  rw [hckeq] at hs4
  obtain ⟨s4, hs4eq⟩ : ∃ s4, wrap64 (ck - stamp) = s4 := ⟨_, rfl⟩
  rw [hs4eq] at hs4
  have hb4 : decide (ma ≤ s4) = false := decide_eq_false hs4
  have hcs : ∀ t, t < s0.length → w.cell? ⟨g0, t, none⟩ = some (.int .i64 (nth s0 t)) := fun t ht => by rw [hown.cellAt t (by omega), ints_nth s0 t ht]
  have hg0 : g0 < w.heap.size := (hown.lt g0 rfl).2
  have Hcs : Hid (∀ t, t < s0.length → w.cell? ⟨g0, t, none⟩ = some (.int .i64 (nth s0 t))) := hcs
  have Hmem : Hid (stamp ∈ s0) := hmem
  clear hcs hmem hown
  have Hh : Hid (Fm SB F n ma fa Ws w) := h
  have HW : Hid (Ws[i]? = some ⟨true, ne, ar, fl, .slice (some ⟨g0, 0, none⟩) s0.length cap0⟩) := hW
  clear h hW
  go_enter Yba.func9, Yba.ntmps9
  go_wp2_with fail
  refine (since_any _ _ _).mono ?_
  rintro e w1 ⟨rfl, rfl⟩
  rw [hsieq]
  go_wp2_with fail
  go_quiet ((first | (go_at_call 13; exact Calls.quiet_of_same (since_any _ _ _)) | (go_at_call 14; exact Calls.quiet_of_same (add_any _ _ _))))
  go_wp2_with fail
  have hk := kept_of Hh.out (Obj.cells #[Value.pointer (some { block := SB, off := i * 5 })] 40) nq
  have q0 : ((w.alloc (Obj.cells #[Value.pointer (some { block := SB, off := i * 5 })] 40)).drewN nq).cell? ⟨w.heap.size, 0, none⟩ = some (.pointer (some ⟨SB, i * 5, none⟩)) := by
    show (w.alloc _).cell? ⟨w.heap.size, 0, none⟩ = _
    rw [World.cell?_alloc_at _ _ _ _ rfl]; rfl
  have hcsW : ∀ t, t < s0.length → ((w.alloc (Obj.cells #[Value.pointer (some { block := SB, off := i * 5 })] 40)).drewN nq).cell? ⟨g0, t, none⟩ = some (.int .i64 (nth s0 t)) := fun t ht => by
    show (w.alloc _).cell? ⟨g0, t, none⟩ = _
    rw [World.cell?_alloc_past _ _ _ hg0]; exact Hcs.out t ht
  clear c0 c1 c2 c3 c4 z0 z1 z2 z3 z4 f0 f1 f2
  generalize (w.alloc (Obj.cells #[Value.pointer (some { block := SB, off := i * 5 })] 40)).drewN nq = W0 at hk q0 hcsW ⊢
  obtain ⟨c0, c1, c2, c3, c4, z0, z1, z2, z3, z4⟩ := hk.1.five HW.out
  obtain ⟨f0, f1, f2⟩ := hk.1.fcells
  have HcsW : Hid (∀ t, t < s0.length → W0.cell? ⟨g0, t, none⟩ = some (.int .i64 (nth s0 t))) := hcsW
  clear hcsW
  have Hk : Hid (Kept SB F n ma fa Ws w W0) := hk
  clear hk
  go_quiet ((first | (go_at_call 13; exact Calls.quiet_of_same (since_any _ _ _)) | (go_at_call 14; exact Calls.quiet_of_same (add_any _ _ _))))
  go_wp2_with fail
  refine (contains_any g0 s0.length cap0 s0 stamp _ rfl hlen ?_).mono ?_
  · exact fun t ht => HcsW.out t ht
  rintro e w2 ⟨rfl, rfl⟩
  have hd : decide (stamp ∈ s0) = true := decide_eq_true Hmem.out
  rw [hd]
  go_wp2_with fail
  go_ret
  exact ⟨rfl, Hk.out.drewN _⟩

end Go.Proofs.Ybulkczmq
