/- The proof of 'Rows.LawS5047ARepeatSaid': the frame is the given shell's, its last step by 'Below' in the place of 'Grown'; the walk is filled. -/
import Derived.Test.YbulkczmqRows
import Derived.WalkKit
import Derived.ProofKit
import Derived.OpenShut
import Derived.ShutString
import Derived.ChangeOld
import Derived.Below
import Derived.Test.YbulkczmqRefuse
namespace Go.Proofs.Ybulkczmq.lawS5047ARepeat
open Go.ChangeShapes Go.WideShapes Go.ChangeAt Go.RowKit
open Go.ChangeMaps (open_string shut_string)
set_option linter.unusedVariables false      -- a walk need not use every 'w<i>' (that an integer argument fits its kind)

theorem own : ownKnob Yba.prog.godebug = none := by kernel_rfl


/-- What the law's loop keeps. -/
def RS (SB F : Nat) (ma fo stamp now : Int) (w wr : World) : Prop :=
  ∃ g cap, Fm SB F 1 ma fo [⟨true, stamp, now, wrap64 (stamp + wrap64 (-ma)), .slice (some ⟨g, 0, none⟩) 1 cap⟩] wr ∧ wr.ownsRow (F + 1) 38 1 (.slice (some ⟨g, 0, none⟩) 1 cap) 1 (ints [stamp]) ∧ Below SB w wr

theorem rs_of_reset {SB F : Nat} {ma fo stamp now : Int} {W : Wn} {row : Option Nat} {w wr w' : World} (h : Reset SB F 1 0 ma fo stamp now [W] row wr w') (hb : Below SB w wr) (hS : SB ≤ wr.heap.size) (hr : ∀ k, row = some k → SB ≤ k) : RS SB F ma fo stamp now w w' := by
  obtain ⟨g, cap, h1, h2, _, h4⟩ := h
  exact ⟨g, cap, h1, h2, hb.trans (h4.below (Nat.le_refl _) hS hr)⟩

theorem RS.of_alloc {SB F : Nat} {ma fo stamp now : Int} {w wr : World} (h : RS SB F ma fo stamp now w wr) (hS : SB ≤ wr.heap.size) (o : Obj) : RS SB F ma fo stamp now w (wr.alloc o) := by
  obtain ⟨g, cap, h1, h2, h3⟩ := h
  exact ⟨g, cap, h1.of_alloc o, h2.alloc o, h3.alloc hS o⟩

theorem floor_eq (stamp ma : Int) : (wrap64 (stamp + wrap64 (-ma)) != wrap64 (stamp - ma)) = false := by
  unfold wrap64; simp only [bne_eq_false_iff_eq]; omega

theorem back_eq (stamp ma : Int) (h1 : -9223372036854775808 ≤ ma) (h2 : ma ≤ 9223372036854775807) : wrap64 (stamp - wrap64 (stamp + wrap64 (-ma))) = ma := by
  unfold wrap64; omega

theorem self_eq (x : Int) : wrap64 (x - x) = 0 := by unfold wrap64; omega

theorem clock_eq (x : Int) (h1 : -9223372036854775808 ≤ x) (h2 : x ≤ 9223372036854775807) : wrap64 (wrap64 (x + 0) - x) = 0 := by unfold wrap64; omega

set_option maxRecDepth 100000 in
set_option maxHeartbeats 2000000 in
theorem walk (a0 : Int) (a1 : Int) (a2 : Int) (a3 : Int) (w : World) (w0 : (Lit.int .i64 a0).wf = true) (w1 : (Lit.int .i64 a1).wf = true) (w2 : (Lit.int .i64 a2).wf = true) (w3 : (Lit.int .i64 a3).wf = true) :
    Calls Yba.prog 4 #[.int .i64 a0, .int .i64 a1, .int .i64 a2, .int .i64 a3] w fun e w' => e = .returned (.bool true) ∧ Below w.heap.size w w' := by
  have hb0 := bounds_i64 w0
  have hb2 := bounds_i64 w2
  clear w0 w1 w2 w3
  have hfl := floor_eq a0 a2
  go_enter Yba.func4, Yba.ntmps4
  go_wp2_with fail
  refine (newFresh_any 1 a2 a3 w (by omega) made_wins1).mono ?_
  rintro e w1 ⟨F, rfl, hFm, hbel, hFl⟩
  go_wp2_with fail
  refine (admit_first w.heap.size F 1 0 a2 a3 a0 a1 (List.replicate 1 zeroW) w1 0 0 0 hFm (by omega) (by omega) rfl).mono ?_
  rintro e w2 ⟨rfl, hreset⟩
  have hFl2 : F < w2.heap.size := by
    obtain ⟨_, _, _, _, _, h5⟩ := hreset
    have := h5.size; omega
  have hrs : RS w.heap.size F a2 a3 a0 a1 w w2 := rs_of_reset (W := zeroW) hreset hbel (by have := hFm.lt; omega) (fun k hk => by cases hk)
  clear hreset hFm hbel hFl
  obtain ⟨g, cap, hFm2, hown2, hbel2⟩ := hrs
  have five := hFm2.five (i := 0) rfl
  simp only [Nat.zero_mul, Nat.zero_add] at five
  obtain ⟨c0, c1, c2, c3, c4, _, _, _, _, _⟩ := five
  obtain ⟨f0, f1, f2⟩ := hFm2.fcells
  have cg : w2.cell? ⟨g, 0, none⟩ = some (.int .i64 a0) := by rw [hown2.cellAt 0 (by omega)]; rfl
  have hg2 : g < w2.heap.size := (hown2.lt g rfl).2
  have hSF := hFm2.lt
  have hSl : w.heap.size < w2.heap.size := by omega
  have Hr2 : Hid (RS w.heap.size F a2 a3 a0 a1 w w2) := ⟨g, cap, hFm2, hown2, hbel2⟩
  clear hFm2 hown2 hbel2
  by_cases hfo : a3 < 0
  · go_wp2_with fail
    have hrs3 : RS w.heap.size F a2 a3 a0 a1 w (w2.alloc (Obj.cells #[Value.bool true, Value.int IntKind.i64 a0, Value.int IntKind.i64 a1, Value.int IntKind.i64 (wrap64 (a0 + wrap64 (-a2))), Value.slice (some { block := g, off := 0 }) 1 cap] 43)) := Hr2.out.of_alloc (by omega) _
    have hFl3 : F < (w2.alloc (Obj.cells #[Value.bool true, Value.int IntKind.i64 a0, Value.int IntKind.i64 a1, Value.int IntKind.i64 (wrap64 (a0 + wrap64 (-a2))), Value.slice (some { block := g, off := 0 }) 1 cap] 43)).heap.size := by simp; omega
    clear c0 c1 c2 c3 c4 f0 f1 f2 cg hfl hg2 hSl hSF hFl2
    go_loopg [14] 2 (fun k i wr => ∃ t : Nat, i = .int .i64 t ∧ t + k = 2 ∧ RS w.heap.size F a2 a3 a0 a1 w wr ∧ F < wr.heap.size)
    case atStart => exact ⟨0, rfl, by omega, hrs3, hFl3⟩
    case round =>
      clear hrs3 hFl3
      obtain ⟨t, rfl, htk, ⟨g, cap, hFm, hown, hbel⟩, hFl⟩ := hrel
      by_cases hlt : t < 2
      · have hltI : (t : Int) < 2 := by omega
        have hSF := hFm.lt
        have hgg := hown.lt g rfl
        go_wp2_with fail
        refine (admit_old w.heap.size F 1 0 a2 a3 a0 a1 [⟨true, a0, a1, wrap64 (a0 + wrap64 (-a2)), .slice (some ⟨g, 0, none⟩) 1 cap⟩] wr a0 a1 (wrap64 (a0 + wrap64 (-a2))) g 1 cap (ints [a0]) hFm (by omega) (by omega) rfl hown (by rw [self_eq]; omega) (by rw [self_eq]; omega)).mono ?_
        rintro e w4 ⟨rfl, hreset4⟩
        have hrs4 := rs_of_reset hreset4 hbel (by omega) (fun k hk => by have e : g = k := by simpa using hk
                                                                         omega)
        have hFl4 : F < w4.heap.size := by
          obtain ⟨_, _, _, _, _, h5⟩ := hreset4
          have := h5.size; omega
        clear hreset4
        go_wp2_with fail
        go_roundg (2 - (t + 1))
        case measure => omega
        case rel => exact ⟨t + 1, by go_num, by omega, hrs4, hFl4⟩
      · have hltI : ¬ (t : Int) < 2 := by omega
        go_wp2_with fail
        go_ret
        exact ⟨rfl, hbel⟩
  · by_cases hma : a2 ≤ 0
    · go_wp2_with fail
      have hrs3 : RS w.heap.size F a2 a3 a0 a1 w (w2.alloc (Obj.cells #[Value.bool true, Value.int IntKind.i64 a0, Value.int IntKind.i64 a1, Value.int IntKind.i64 (wrap64 (a0 + wrap64 (-a2))), Value.slice (some { block := g, off := 0 }) 1 cap] 43)) := Hr2.out.of_alloc (by omega) _
      have hFl3 : F < (w2.alloc (Obj.cells #[Value.bool true, Value.int IntKind.i64 a0, Value.int IntKind.i64 a1, Value.int IntKind.i64 (wrap64 (a0 + wrap64 (-a2))), Value.slice (some { block := g, off := 0 }) 1 cap] 43)).heap.size := by simp; omega
      clear c0 c1 c2 c3 c4 f0 f1 f2 cg hfl hg2 hSl hSF hFl2
      go_loopg [14] 2 (fun k i wr => ∃ t : Nat, i = .int .i64 t ∧ t + k = 2 ∧ RS w.heap.size F a2 a3 a0 a1 w wr ∧ F < wr.heap.size)
      case atStart => exact ⟨0, rfl, by omega, hrs3, hFl3⟩
      case round =>
        clear hrs3 hFl3
        obtain ⟨t, rfl, htk, ⟨g, cap, hFm, hown, hbel⟩, hFl⟩ := hrel
        by_cases hlt : t < 2
        · have hltI : (t : Int) < 2 := by omega
          have hSF := hFm.lt
          have hgg := hown.lt g rfl
          go_wp2_with fail
          refine (admit_stale1 w.heap.size F 1 0 a2 a3 a0 a1 [⟨true, a0, a1, wrap64 (a0 + wrap64 (-a2)), .slice (some ⟨g, 0, none⟩) 1 cap⟩] wr a0 a1 (wrap64 (a0 + wrap64 (-a2))) (.slice (some ⟨g, 0, none⟩) 1 cap) hFm (by omega) rfl (by rw [self_eq]; omega) (by rw [self_eq]; omega) (by rw [back_eq a0 a2 (by omega) (by omega)]; omega)).mono ?_
          rintro e w4 ⟨rfl, hk4⟩
          have hrs4 : RS w.heap.size F a2 a3 a0 a1 w w4 := ⟨g, cap, hk4.1, own_of_fr hown hk4.2 (by omega) (.inr (by simp [Value.ownBlock])), hbel.trans (hk4.2.below (Nat.le_refl _) (by omega) (fun k hk => by cases hk))⟩
          have hFl4 : F < w4.heap.size := by have := hk4.2.size; omega
          clear hk4
          go_wp2_with fail
          go_roundg (2 - (t + 1))
          case measure => omega
          case rel => exact ⟨t + 1, by go_num, by omega, hrs4, hFl4⟩
        · have hltI : ¬ (t : Int) < 2 := by omega
          go_wp2_with fail
          go_ret
          exact ⟨rfl, hbel⟩
    · go_wp2_with fail
      have hrs3 : RS w.heap.size F a2 a3 a0 a1 w (w2.alloc (Obj.cells #[Value.bool true, Value.int IntKind.i64 a0, Value.int IntKind.i64 a1, Value.int IntKind.i64 (wrap64 (a0 + wrap64 (-a2))), Value.slice (some { block := g, off := 0 }) 1 cap] 43)) := Hr2.out.of_alloc (by omega) _
      have hFl3 : F < (w2.alloc (Obj.cells #[Value.bool true, Value.int IntKind.i64 a0, Value.int IntKind.i64 a1, Value.int IntKind.i64 (wrap64 (a0 + wrap64 (-a2))), Value.slice (some { block := g, off := 0 }) 1 cap] 43)).heap.size := by simp; omega
      clear c0 c1 c2 c3 c4 f0 f1 f2 cg hfl hg2 hSl hSF hFl2
      go_loopg [14] 2 (fun k i wr => ∃ t : Nat, i = .int .i64 t ∧ t + k = 2 ∧ RS w.heap.size F a2 a3 a0 a1 w wr ∧ F < wr.heap.size)
      case atStart => exact ⟨0, rfl, by omega, hrs3, hFl3⟩
      case round =>
        clear hrs3 hFl3
        obtain ⟨t, rfl, htk, ⟨g, cap, hFm, hown, hbel⟩, hFl⟩ := hrel
        by_cases hlt : t < 2
        · have hltI : (t : Int) < 2 := by omega
          have hSF := hFm.lt
          have hgg := hown.lt g rfl
          go_wp2_with fail
          refine (admit_repl w.heap.size F 1 0 a2 a3 a0 a1 [⟨true, a0, a1, wrap64 (a0 + wrap64 (-a2)), .slice (some ⟨g, 0, none⟩) 1 cap⟩] wr a0 a1 (wrap64 (a0 + wrap64 (-a2))) g cap [a0] hFm (by omega) rfl (by rw [self_eq]; omega) (by rw [self_eq]; omega) (by rw [back_eq a0 a2 (by omega) (by omega)]; omega) (by rw [self_eq, clock_eq a0 (by omega) (by omega)]; omega) hown (by simp) (by simp)).mono ?_
          rintro e w4 ⟨rfl, hk4⟩
          have hrs4 : RS w.heap.size F a2 a3 a0 a1 w w4 := ⟨g, cap, hk4.1, own_of_fr hown hk4.2 (by omega) (.inr (by simp [Value.ownBlock])), hbel.trans (hk4.2.below (Nat.le_refl _) (by omega) (fun k hk => by cases hk))⟩
          have hFl4 : F < w4.heap.size := by have := hk4.2.size; omega
          clear hk4
          go_wp2_with fail
          go_roundg (2 - (t + 1))
          case measure => omega
          case rel => exact ⟨t + 1, by go_num, by omega, hrs4, hFl4⟩
        · have hltI : ¬ (t : Int) < 2 := by omega
          go_wp2_with fail
          go_ret
          exact ⟨rfl, hbel⟩

/-! ### THE ROW's STEP: WRITTEN OUT: LEAVE IT -/
set_option maxRecDepth 100000 in
theorem lifted (os : Os) (started : os.Started) (H : Type) (enc : TypeId × Value → H) :
    ReturnsInHanded {} Yba.checked os 4 .any (Rows.lawS5047ARepeatSpec.pre6 enc Yba.prog Yba.f4 Rows.lawS5047ARepeatRow.domain false) (Rows.lawS5047ARepeatSpec.post enc Yba.prog Yba.f4 false true false false) := by
  refine returnsInHanded_of_change (C := Yba.checked) own started (by kernel_rfl) Yba.func4
    (ChangeSpec.witness6 (enc := enc) (C := Yba.checked) false ⟨#[], #[.int .i64 0, .int .i64 0, .int .i64 0, .int .i64 0], []⟩ 8 (by kernel_rfl) (by kernel_rfl) (by kernel_rfl) (by kernel_rfl)) ?_
  intro W base args ds gs before hval0 hW hcnd _
  have hval : ∀ (j : Nat) t v, Yba.f4.params[j]? = some t → args[j]? = some v → Value.okWide Yba.prog W .any base t v := hval0
  have hW' := hW
  obtain ⟨p, q, hA0, hV, rfl, hfz, hnd⟩ := hW
  have hA : DataW.TrodAll enc Yba.prog W 0 (fun _ => true) true Yba.f4.params.toList args.toList ds p := hA0
  rw [Yba.params4] at hA hval
  obtain ⟨v0, vs0, d0, ds0, p0, q0, hargs, rfl, rfl, h0, r0⟩ := trodAll_cons hA
  obtain ⟨v1, vs1, d1, ds1, p1, q1, rfl, rfl, rfl, h1, r1⟩ := trodAll_cons r0
  obtain ⟨v2, vs2, d2, ds2, p2, q2, rfl, rfl, rfl, h2, r2⟩ := trodAll_cons r1
  obtain ⟨v3, vs3, d3, ds3, p3, q3, rfl, rfl, rfl, h3, r3⟩ := trodAll_cons r2
  obtain ⟨rfl, rfl, rfl⟩ := trodAll_nil r3
  obtain rfl : args = #[v0, v1, v2, v3] := by cases args; simp_all
  obtain ⟨rfl, rfl⟩ := trodVars_none hV
  obtain ⟨a0, rfl, rfl, rfl, w0⟩ := open_int Yba.underlying2 (hval 0 2 v0 rfl rfl) h0
  obtain ⟨a1, rfl, rfl, rfl, w1⟩ := open_int Yba.underlying2 (hval 1 2 v1 rfl rfl) h1
  obtain ⟨a2, rfl, rfl, rfl, w2⟩ := open_int Yba.underlying2 (hval 2 2 v2 rfl rfl) h2
  obtain ⟨a3, rfl, rfl, rfl, w3⟩ := open_int Yba.underlying2 (hval 3 2 v3 rfl rfl) h3
  clear hA0 hval0
  refine (walk a0 a1 a2 a3 W w0 w1 w2 w3).mono fun e W' ⟨he, bel⟩ => ?_
  subst he
  exact ⟨_, rfl, _, _, _, [], _, [], hW', trodAll_mk1 (shut_bool Yba.underlying4 _), (trodAll_cons_mk (shut_int Yba.underlying2 w0) (trodAll_cons_mk (shut_int Yba.underlying2 w1) (trodAll_cons_mk (shut_int Yba.underlying2 w2) (trodAll_cons_mk (shut_int Yba.underlying2 w3) trodAll_mk0)))), rfl, bel.frame _, fun h => by cases h⟩

theorem over : Rows.lawS5047ARepeatRow.holds Yba.pinned (OpenSpec.ofChange Rows.lawS5047ARepeatSpec) :=
  OpenClaim.holds_of_wide 4 Yba.f4 rfl rfl rfl rfl rfl rfl rfl ⟨rfl, rfl, rfl, rfl, rfl⟩ rfl rfl rfl rfl rfl (by kernel_rfl) Yba.func4 (by kernel_rfl)
    (of_decide_eq_true (by kernel_rfl)) (by unfold Func.isWrapper; first | (rw [if_pos (by decide +kernel)]; kernel_rfl) | (rw [if_neg (by decide +kernel)]; exact ⟨rfl, rfl⟩))
    (fun os started H enc _ => lifted os started H enc)

/-- ████ THE STATEMENT ████ -/
theorem proved : Rows.LawS5047ARepeatSaid :=
  over
end Go.Proofs.Ybulkczmq.lawS5047ARepeat
