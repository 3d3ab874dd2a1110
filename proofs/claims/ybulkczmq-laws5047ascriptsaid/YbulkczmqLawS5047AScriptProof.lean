/- The law of the script: the walk, and the row. -/
import Derived.Test.YbulkczmqScript
import Derived.ProofKit
import Derived.Deep.Slices
import Derived.DataShut
import Derived.OpenShut
import Derived.ChangeOld
import Derived.Below
namespace Go.Proofs.Ybulkczmq.lawS5047AScript
open Go.Deep Go.RowKit Go.ChangeShapes Go.WideShapes Go.ChangeAt Go.WideElems
set_option linter.unusedSimpArgs false

theorem same_at {SB F M : Nat} {base ma fa : Int} {t : Nat} {now : Int} {Ss : List Sd} {w wr : World} (h : Inv SB F M base ma fa t now Ss w wr) (u : Nat) (hu : u < 3) (ht : t ≤ 1001) :
    Calls Yba.prog 10 #[.pointer (some ⟨SB, u * 5, none⟩), .pointer (some ⟨M, u * 5, none⟩), .int .i64 base] wr fun e w' => e = .returned (.bool true) ∧ ∃ q, w' = wr.drewN q := by
  obtain ⟨Ws, hF, hRW⟩ := h.f
  obtain ⟨Ms, hM, hRM⟩ := h.m
  have hS : Ss[u]? = some (Ss[u]'(by rw [h.len]; exact hu)) := List.getElem?_eq_getElem _
  exact same_ok SB F M u base ma fa _ t Ws Ms Ss wr hF hM hRW hRM hS (h.ok u _ hS) ht

theorem Inv.fcell {SB F M : Nat} {base ma fa : Int} {t : Nat} {now : Int} {Ss : List Sd} {w wr : World} (h : Inv SB F M base ma fa t now Ss w wr) : wr.cell? ⟨F, 2, none⟩ = some (.slice (some ⟨SB, 0, none⟩) 3 3) := by
  obtain ⟨Ws, hF, _⟩ := h.f
  exact hF.fcells.2.2

set_option maxRecDepth 100000 in
set_option maxHeartbeats 4000000 in
theorem walk (base : Int) (mx fg : Int) (a : Option Addr) (len cap : Nat) (w : World) (hops : IsOps w a len) (hm1 : 0 ≤ mx) (hm2 : mx ≤ 65535) (hf1 : 0 ≤ fg) (hf2 : fg ≤ 65535) :
    Calls Yba.prog 3 #[.int .i64 base, .int .u16 mx, .int .u16 fg, .slice a len cap] w fun e w' => e = .returned (.bool true) ∧ Below w.heap.size w w' := by
  by_cases hbig : 1000 < len
  · have hbI : (1000 : Int) < (len : Int) := by omega
    go_enter Yba.func3, Yba.ntmps3
    go_wp2_with fail
    go_ret
    exact ⟨rfl, Below.refl _ _⟩
  · have hbI : ¬ (1000 : Int) < (len : Int) := by omega
    have Hops : Hid (IsOps w a len) := hops
    clear hops
    obtain ⟨ma, hma⟩ : ∃ ma, mx % 2000 + 1 = ma := ⟨_, rfl⟩
    obtain ⟨fa, hfa⟩ : ∃ fa, fg % 4000 = fa := ⟨_, rfl⟩
    have hma1 : 1 ≤ ma := by omega
    have hma2 : ma ≤ 2000 := by omega
    go_enter Yba.func3, Yba.ntmps3
    go_wp2_with fail
    clear hma hfa
    refine (newFresh_any 3 ma fa w (by omega) made_wins3).mono ?_
    rintro e w1 ⟨F, rfl, hFm, hbel, hFlt⟩
    go_wp2_with fail
    have hInv := inv_start (base := base) hFm hbel
    generalize (w1.alloc (.cells #[.bool false, .int .i64 0, .int .i64 0, .int .i64 0, .slice none 0 0, .bool false, .int .i64 0, .int .i64 0, .int .i64 0, .slice none 0 0, .bool false, .int .i64 0, .int .i64 0, .int .i64 0, .slice none 0 0] 30)) = W0 at hInv ⊢
    generalize w1.heap.size = M at hInv ⊢
    clear hFm hbel hFlt w1
    obtain ⟨SB, hSB⟩ : ∃ SB, w.heap.size = SB := ⟨_, rfl⟩
    have HI0 : Hid (Inv SB F M base ma fa 0 0 (List.replicate 3 zeroS) w W0) := by show Inv SB F M base ma fa 0 0 (List.replicate 3 zeroS) w W0; rw [← hSB]; exact hInv
    clear hInv hSB
    go_loopg [36, 13] len (fun k j36 j13 wr => ∃ (t : Nat) (now : Int) (Ss : List Sd), j36 = .int .i64 t ∧ j13 = .int .i64 now ∧ t + k = len ∧ Inv SB F M base ma fa t now Ss w wr)
    case atStart => exact ⟨0, 0, _, rfl, rfl, by omega, HI0.out⟩
    case round =>
      clear HI0
      obtain ⟨t, now, Ss, rfl, rfl, htk, hI⟩ := hrel
      by_cases hlt : t < len
      · have hltI : (t : Int) < (len : Int) := by omega
        obtain ⟨b, off, rfl, hb, hcells⟩ : ∃ b off, a = some ⟨b, off, none⟩ ∧ b < w.heap.size ∧ ∀ t, t < len → ∃ x y z : Int, w.cell? ⟨b, off + t * 3, none⟩ = some (.int .u8 x) ∧ w.cell? ⟨b, off + t * 3 + 1, none⟩ = some (.int .i8 y) ∧ w.cell? ⟨b, off + t * 3 + 2, none⟩ = some (.int .i8 z) ∧ 0 ≤ x ∧ x ≤ 255 ∧ -128 ≤ y ∧ y ≤ 127 ∧ -128 ≤ z ∧ z ≤ 127 := by
          rcases Hops.out with h0 | h0
          · omega
          · exact h0
        obtain ⟨x, y, z, cx, cy, cz, x1, x2, y1, y2, z1, z2⟩ := hcells t hlt
        rw [← hI.cells ⟨b, off + t * 3, none⟩ hb] at cx
        rw [← hI.cells ⟨b, off + t * 3 + 1, none⟩ hb] at cy
        rw [← hI.cells ⟨b, off + t * 3 + 2, none⟩ hb] at cz
        clear hcells
        have HI : Hid (Inv SB F M base ma fa t now Ss w wr) := hI
        have n1 := hI.n1
        have n2 := hI.n2
        have hlen3 := hI.len
        have Hok : Hid (∀ (j : Nat) (X : Sd), Ss[j]? = some X → X.known = true → OkS ma (128 * (t + 1)) t X) := hI.ok
        clear hI
        obtain ⟨k, hkI⟩ : ∃ k : Nat, x % 3 = (k : Int) := ⟨(x % 3).toNat, by omega⟩
        have hk3 : k < 3 := by omega
        obtain ⟨now2, hnow2⟩ : ∃ n, now + y = n := ⟨_, rfl⟩
        obtain ⟨stamp, hstamp⟩ : ∃ n, now2 + z = n := ⟨_, rfl⟩
        have hS : Ss[k]? = some (Ss[k]'(by omega)) := List.getElem?_eq_getElem _
        generalize Ss[k]'(by omega) = S at hS
        obtain ⟨S', c, hk', ok', hAM, hAW⟩ := both_ok base ma fa stamp now2 (128 * (t + 1)) (128 * (t + 2)) t S (Hok.out k S hS) (by omega) (by omega) (by omega) hma1 hma2 (by omega) (by omega) (by omega) (by omega)
        have HS : Hid (Ss[k]? = some S) := hS
        have Hok' : Hid (OkS ma (128 * (t + 2)) (t + 1) S') := ok'
        have HAM : Hid (AnswersM ma fa stamp now2 S S' c) := hAM
        have HAW : Hid (AnswersW base ma fa stamp now2 S S' c) := hAW
        have HL : Hid (Ss.length = 3) := hlen3
        have Hn : Hid (-(128 * (t + 1)) ≤ now2 ∧ now2 ≤ 128 * (t + 1)) := by show _ ∧ _; omega
        clear hS ok' hAM hAW hlen3 hk'
        go_wp2_with fail
        refine (step_mid (HI.out.alloc _) HS.out HAM.out).mono ?_
        rintro e w2 ⟨rfl, hmid⟩
        have HMid : Hid (Mid SB F M base ma fa Ss (Ss.set k S') w w2) := hmid
        clear hmid
        go_wp2_with fail
        refine (admit_inv (t := t) HMid.out hk3 HL.out HS.out HAW.out Hok.out Hok'.out Hn.out.1 Hn.out.2).mono ?_
        rintro e w3 ⟨rfl, hI3⟩
        have HI3 : Hid (Inv SB F M base ma fa (t + 1) now2 (Ss.set k S') w w3) := hI3
        clear hI3 cx cy cz
        go_wp2_with fail
        go_loopg [20] 3 (fun k2 j wq => ∃ u : Nat, j = .int .i64 u ∧ u + k2 = 3 ∧ Inv SB F M base ma fa (t + 1) now2 (Ss.set k S') w wq)
        case atStart => exact ⟨0, rfl, by omega, HI3.out⟩
        case round =>
          clear HI3
          obtain ⟨u, rfl, huk, hIu⟩ := hrel
          by_cases hu3 : u < 3
          · have huI : (u : Int) < 3 := by omega
            have fc := Inv.fcell hIu
            have HIu : Hid (Inv SB F M base ma fa (t + 1) now2 (Ss.set k S') w wr) := hIu
            clear hIu
            go_wp2_with fail
            go_quiet ((go_at_call 10; exact Calls.quiet_of (same_at (HIu.out.drewN _) u hu3 (by omega))))
            go_wp2_with fail
            go_roundg (3 - (u + 1))
            case measure => omega
            case rel => exact ⟨u + 1, by go_num, by omega, HIu.out.drewN _⟩
          · have huI : ¬ (u : Int) < 3 := by omega
            have HIu : Hid (Inv SB F M base ma fa (t + 1) now2 (Ss.set k S') w wr) := hIu
            clear hIu
            go_wp2_with fail
            go_roundg (len - (t + 1))
            case measure => omega
            case rel => exact ⟨t + 1, now2, _, by go_num, rfl, by omega, HIu.out⟩
      · have hltI : ¬ (t : Int) < (len : Int) := by omega
        have HB : Hid (Below w.heap.size w wr) := hI.bel
        clear hI
        go_wp2_with fail
        go_ret
        exact ⟨rfl, HB.out⟩

theorem cells33 : Yba.prog.cellsOf 33 = 3 := by kernel_rfl
theorem cells5 : Yba.prog.cellsOf 5 = 1 := by kernel_rfl
theorem cells31 : Yba.prog.cellsOf 31 = 1 := by kernel_rfl
theorem own : ownKnob Yba.prog.godebug = none := by kernel_rfl
theorem laidOut : laidOutB Yba.prog = true := by kernel_rfl

theorem isOps_of {H : Type} {enc : TypeId × Value → H} {W : World} {fuel : Nat} {a : Option Addr} {len cap : Nat} {x : DataW H × List MemPlace} (h : DataW.trod enc Yba.prog W 0 (fun _ => true) true fuel 23 [.slice a len cap] = some x) : IsOps W a len := by
  rcases open_slice Yba.underlying23 h with ⟨hcs, _⟩ | ⟨ad, l, c, m, n, D, Pl, hcs, _, hl, _, hm, _, hx⟩
  · simp at hcs
    obtain ⟨rfl, rfl, rfl⟩ := hcs
    exact .inl rfl
  · simp at hcs
    obtain ⟨rfl, rfl, rfl⟩ := hcs
    simp at hm
    subst hm
    by_cases h0 : len = 0
    · exact .inl h0
    · right
      rw [cells33] at hx
      obtain ⟨b, off, sub⟩ := ad
      have r3 : List.range 3 = [0, 1, 2] := rfl
      have hs : sub = none := by
        obtain ⟨cs', hc, _⟩ := hx 0 (by omega)
        simp only [World.cells?, Nat.zero_le, if_true, r3, List.mapM_cons, List.mapM_nil, Option.bind_eq_bind, Option.bind_eq_some_iff, Option.pure_def, Option.some.injEq] at hc
        obtain ⟨v0, h0, _⟩ := hc
        cases sub with
        | none => rfl
        | some s =>
          exfalso
          simp [World.cell?, Addr.add] at h0
          split at h0 <;> simp_all
      subst hs
      have hadd : ∀ n, (⟨b, off, none⟩ : Addr).add n = ⟨b, off + n, none⟩ := fun n => by unfold Addr.add; split <;> simp_all
      have hadd2 : ∀ o n, (⟨b, o, none⟩ : Addr).add n = ⟨b, o + n, none⟩ := fun o n => by unfold Addr.add; split <;> simp_all
      have one : ∀ i, i < len → ∃ x y z : Int, W.cell? ⟨b, off + i * 3, none⟩ = some (.int .u8 x) ∧ W.cell? ⟨b, off + i * 3 + 1, none⟩ = some (.int .i8 y) ∧ W.cell? ⟨b, off + i * 3 + 2, none⟩ = some (.int .i8 z) ∧ 0 ≤ x ∧ x ≤ 255 ∧ -128 ≤ y ∧ y ≤ 127 ∧ -128 ≤ z ∧ z ≤ 127 := by
        intro i hi
        obtain ⟨cs', hc, ht⟩ := hx i (by omega)
        rw [hadd] at hc
        simp only [World.cells?, Nat.zero_le, if_true, r3, List.mapM_cons, List.mapM_nil, Option.bind_eq_bind, Option.bind_eq_some_iff, Option.pure_def, Option.some.injEq, hadd2, Nat.add_zero] at hc
        obtain ⟨v0, h0, _, ⟨v1, h1, _, ⟨v2, h2, _, rfl, rfl⟩, rfl⟩, rfl⟩ := hc
        obtain ⟨xs, n', _, _, _, hlen, hf⟩ := DataW.trod_struct Yba.underlying33 ht
        match xs, hlen with
        | [q0, q1, q2], _ =>
          have t0 := hf 0 _ rfl
          have t1 := hf 1 _ rfl
          have t2 := hf 2 _ rfl
          simp only [cells5, cells31, List.drop_zero, List.drop_succ_cons, List.take_succ_cons, List.take_zero, List.getElem?_cons_zero, List.getElem?_cons_succ] at t0 t1 t2
          obtain ⟨x, ex, _, wx⟩ := DataW.trod_int Yba.underlying5 t0
          obtain ⟨y, ey, _, wy⟩ := DataW.trod_int Yba.underlying31 t1
          obtain ⟨z, ez, _, wz⟩ := DataW.trod_int Yba.underlying31 t2
          simp [cells5] at ex
          simp [cells31] at ey ez
          rw [ex] at h0
          rw [ey] at h1
          rw [ez] at h2
          have bx := (Lit.wf_int_iff .u8 x).1 wx
          have bY := (Lit.wf_int_iff .i8 y).1 wy
          have bz := (Lit.wf_int_iff .i8 z).1 wz
          exact ⟨x, y, z, h0, h1, h2, bx.1, bx.2, bY.1, bY.2, bz.1, bz.2⟩
      obtain ⟨x, y, z, c0, _⟩ := one 0 (by omega)
      have hb : b < W.heap.size := World.block_lt_of_cell? W _ c0
      exact ⟨b, off, rfl, hb, one⟩

set_option maxRecDepth 100000 in
theorem lifted (os : Os) (started : os.Started) (H : Type) (enc : TypeId × Value → H) :
    ReturnsInHanded {} Yba.checked os 3 .any (Rows.lawS5047AScriptSpec.pre6 enc Yba.prog Yba.f3 Rows.lawS5047AScriptRow.domain false) (Rows.lawS5047AScriptSpec.post enc Yba.prog Yba.f3 false true false false) := by
  refine returnsInHanded_of_change (C := Yba.checked) own started (by kernel_rfl) Yba.func3
    (ChangeSpec.witness6 (enc := enc) (C := Yba.checked) false ⟨#[], #[.int .i64 0, .int .u16 0, .int .u16 0, .slice none 0 0], []⟩ 8 (by kernel_rfl) (by kernel_rfl) (by kernel_rfl) (by kernel_rfl)) ?_
  intro W base args ds gs before hval0 hW hcnd _
  have hval : ∀ (j : Nat) t v, Yba.f3.params[j]? = some t → args[j]? = some v → Value.okWide Yba.prog W .any base t v := hval0
  have hW' := hW
  obtain ⟨p, q, hA0, hV, rfl, hfz, hnd⟩ := hW
  have hA : DataW.TrodAll enc Yba.prog W 0 (fun _ => true) true Yba.f3.params.toList args.toList ds p := hA0
  rw [Yba.params3] at hA hval
  obtain ⟨v0, vs0, d0, ds0, p0, q0, hargs, rfl, rfl, h0, r0⟩ := trodAll_cons hA
  obtain ⟨v1, vs1, d1, ds1, p1, q1, rfl, rfl, rfl, h1, r1⟩ := trodAll_cons r0
  obtain ⟨v2, vs2, d2, ds2, p2, q2, rfl, rfl, rfl, h2, r2⟩ := trodAll_cons r1
  obtain ⟨v3, vs3, d3, ds3, p3, q3, rfl, rfl, rfl, h3, r3⟩ := trodAll_cons r2
  obtain ⟨rfl, rfl, rfl⟩ := trodAll_nil r3
  obtain rfl : args = #[v0, v1, v2, v3] := by cases args; simp_all
  obtain ⟨rfl, rfl⟩ := trodVars_none hV
  obtain ⟨a0, rfl, rfl, rfl, w0⟩ := open_int Yba.underlying2 (hval 0 2 v0 rfl rfl) h0
  obtain ⟨a1, rfl, rfl, rfl, w1⟩ := open_int Yba.underlying22 (hval 1 22 v1 rfl rfl) h1
  obtain ⟨a2, rfl, rfl, rfl, w2⟩ := open_int Yba.underlying22 (hval 2 22 v2 rfl rfl) h2
  obtain ⟨a, len, cap, rfl⟩ := okWide_slice Yba.underlying23 (hval 3 23 v3 rfl rfl)
  have k3 := h3
  have lt3 : ∀ x ∈ p3, x.block < W.heap.size := by obtain ⟨m, hm⟩ := k3; exact DataW.trod_lt m _ _ _ hm
  have hops : IsOps W a len := by
    obtain ⟨fuel, hf⟩ := h3
    exact isOps_of (by simpa [Value.cells] using hf)
  clear hA0 hval0
  have b1 := (Lit.wf_int_iff .u16 a1).1 w1
  have b2 := (Lit.wf_int_iff .u16 a2).1 w2
  refine (walk a0 a1 a2 a len cap W hops b1.1 b1.2 b2.1 b2.2).mono fun e W' ⟨he, bel⟩ => ?_
  subst he
  exact ⟨_, rfl, _, _, _, [], _, [], hW', trodAll_mk1 (shut_bool Yba.underlying4 _), (trodAll_cons_mk (shut_int Yba.underlying2 w0) (trodAll_cons_mk (shut_int Yba.underlying22 w1) (trodAll_cons_mk (shut_int Yba.underlying22 w2) (trodAll_cons_mk (Below.trod laidOut (by kernel_rfl) (of_decide_eq_true (by kernel_rfl)) k3 bel lt3) trodAll_mk0)))), rfl, bel.frame _, fun h => by cases h⟩

theorem over : Rows.lawS5047AScriptRow.holds Yba.pinned (OpenSpec.ofChange Rows.lawS5047AScriptSpec) :=
  OpenClaim.holds_of_wide 3 Yba.f3 rfl rfl rfl rfl rfl rfl rfl ⟨rfl, rfl, rfl, rfl, rfl⟩ rfl rfl rfl rfl rfl (by kernel_rfl) Yba.func3 (by kernel_rfl)
    (of_decide_eq_true (by kernel_rfl)) (by unfold Func.isWrapper; first | (rw [if_pos (by decide +kernel)]; kernel_rfl) | (rw [if_neg (by decide +kernel)]; exact ⟨rfl, rfl⟩))
    (fun os started H enc _ => lifted os started H enc)

/-- THE STATEMENT. -/
theorem proved : Rows.LawS5047AScriptSaid := over
end Go.Proofs.Ybulkczmq.lawS5047AScript
