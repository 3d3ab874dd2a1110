/- The two rows' statements, and the cards. -/
import Derived.Test.YbulkczneDoorLaws
import Derived.Test.YbulkczneDoorTie
import Derived.Test.YbulkczneDoorCards
import Derived.ProofKit
import Derived.LaidMore
import Derived.OpenShut
import Derived.OpenVars
import Derived.Stop.Joined
import Derived.SevenTiedAt
namespace Go.Proofs.YbulkczneDoor
open Go.ChangeShapes Go.WideShapes Go.ChangeAt Go.WideElems Go.RowKit

theorem ownN : ownKnob Ybad.prog.godebug = none := by kernel_rfl
theorem laidOutN : laidOutB Ybad.prog = true := by kernel_rfl
theorem gNumeric : Ybad.prog.globalNamed (Rows.lawS5048ATruthRow.named.headD "") = some 0 := by kernel_rfl
theorem tNumeric : (Ybad.prog.globals[0]?).map (·.type) = some 41 := by kernel_rfl

/-- The door's own heap meets the row's condition. -/
theorem door_met (os : Os) (args : Array Value) : laidMetH Ybad.prog Rows.lawS5048ATruthRow.laid ((World.doorLaid Ybad.prog 400 os).forCall (fun _ _ => 0) ⟨#[], args, []⟩).memory :=
  laidMetH_of_parts3 (fuel := 8) (laidMet_of_run' 8 (by kernel_rfl) (by kernel_rfl)) (by kernel_rfl) (by kernel_rfl)

/-- What the condition gives the walks: the five cells of the listed variable. -/
theorem of_laid {W : World} (h : laidMetH Ybad.prog Rows.lawS5048ATruthRow.laid W) :
    W.cell? ⟨0, 0, none⟩ = some (.int .i64 0) ∧ W.cell? ⟨0, 1, none⟩ = some (.int .i64 1) ∧ W.cell? ⟨0, 2, none⟩ = some (.int .i64 2) ∧ W.cell? ⟨0, 3, none⟩ = some (.int .i64 5) ∧ W.cell? ⟨0, 4, none⟩ = some (.int .i64 6) := by
  rw [MakeChecks.laidMetH_plain _ _ _ (by kernel_rfl)] at h
  obtain ⟨ps, ⟨g0, t0, cs0, f0, p0, q0, hg0, ht0, hv0, hd0, _, _⟩, _, _⟩ := h
  obtain rfl := Option.some.inj (gNumeric.symm.trans hg0)
  obtain rfl := Option.some.inj (tNumeric.symm.trans ht0)
  obtain ⟨xs, m1, rfl, hx1, hlen, hn3, hel⟩ := DataW.trod_array Ybad.underlying41 hd0
  have c3 : Ybad.prog.cellsOf 36 = 1 := by kernel_rfl
  rw [c3] at hel
  have r := World.var?_cell hg0 hv0
  simp only [Prod.mk.injEq, Rows.laid_example_com_lintwall_lintwall_internal_simplify_numeric, DataW.agg.injEq] at hx1
  obtain ⟨l1⟩ := cs0
  have c41 : Ybad.prog.cellsOf 41 = 5 := by kernel_rfl
  rw [c41] at hlen
  obtain ⟨y0, y1, y2, y3, y4, rfl⟩ : ∃ y0 y1 y2 y3 y4, l1 = [y0, y1, y2, y3, y4] := by
    match l1, hlen with
    | [y0, y1, y2, y3, y4], _ => exact ⟨y0, y1, y2, y3, y4, rfl⟩
  clear hd0 hv0
  match xs, hn3, hx1, hel with
  | [x0, x1, x2, x3, x4], _, hx1, hel =>
    obtain ⟨n0, e0, f0, _⟩ := DataW.trod_int Ybad.underlying36 (show _ = some x0 from hel 0 (by decide))
    obtain ⟨n1, e1, f1, _⟩ := DataW.trod_int Ybad.underlying36 (show _ = some x1 from hel 1 (by decide))
    obtain ⟨n2, e2, f2, _⟩ := DataW.trod_int Ybad.underlying36 (show _ = some x2 from hel 2 (by decide))
    obtain ⟨n3, e3, f3, _⟩ := DataW.trod_int Ybad.underlying36 (show _ = some x3 from hel 3 (by decide))
    obtain ⟨n4, e4, f4, _⟩ := DataW.trod_int Ybad.underlying36 (show _ = some x4 from hel 4 (by decide))
    simp at e0 e1 e2 e3 e4
    subst e0 e1 e2 e3 e4 f0 f1 f2 f3 f4
    simp at hx1
    obtain ⟨⟨rfl, rfl, rfl, rfl, rfl⟩, _⟩ := hx1
    exact ⟨r 0, r 1, r 2, r 3, r 4⟩

set_option maxRecDepth 100000 in
theorem truth_lifted (os : Os) (started : os.Started) (H : Type) (enc : TypeId × Value → H) :
    ReturnsInHanded {} Ybad.checked os 3 .any (fun w args => (Rows.lawS5048ATruthSpec.pre enc Ybad.prog Ybad.f3 [] false w args ∧ laidMetH Ybad.prog Rows.lawS5048ATruthRow.laid w) ∧ sizedMet enc Ybad.prog Ybad.f3 (OpenSpec.ofChange Rows.lawS5048ATruthSpec) false w args)
      (Rows.lawS5048ATruthSpec.post enc Ybad.prog Ybad.f3 false true false false) := by
  refine returnsInHanded_of_change_and (C := Ybad.checked) (X := fun w _ => laidMetH Ybad.prog Rows.lawS5048ATruthRow.laid w) (fun _ _ _ hh h => h.of_heap hh) ownN started (by kernel_rfl) Ybad.func3
    (ChangeSpec.witness_shaped (enc := enc) (C := Ybad.checked) (os := os) (X := fun w _ => laidMetH Ybad.prog Rows.lawS5048ATruthRow.laid w) false (World.doorLaid Ybad.prog 400 os) #[.bool false] 8 rfl (World.shaped_of_RefB (by kernel_rfl) (by kernel_rfl)) (by kernel_rfl) (by kernel_rfl) (by kernel_rfl) (door_met os _)) ?_
  intro W base args ds gs before hval0 hW _ _ hL _
  have hval : ∀ (j : Nat) t v, Ybad.f3.params[j]? = some t → args[j]? = some v → Value.okWide Ybad.prog W .any base t v := hval0
  have hW' := hW
  obtain ⟨p, q, hA0, hV0, rfl, hfz, hnd⟩ := hW
  have hA : DataW.TrodAll enc Ybad.prog W 0 (fun _ => true) true Ybad.f3.params.toList args.toList ds p := hA0
  have hV : DataW.TrodVars enc Ybad.prog W (fun _ => true) Rows.lawS5048ATruthSpec.vars gs q := hV0
  have hV1 := hV
  rw [Ybad.params3] at hA hval
  obtain ⟨v0, d0, rfl, rfl, h0⟩ := trodAll_one hA
  obtain ⟨b, rfl, rfl, rfl⟩ := open_bool Ybad.underlying4 (hval 0 4 v0 rfl rfl) h0
  obtain ⟨g, t, cs, fuel, d, p', rfl, hg, ht, hvar, hd, rfl⟩ := trodVars_one hV
  obtain ⟨g0, g1, g2, g3, g4⟩ := of_laid hL
  clear hA0 hV0 hval0
  have key : Calls Ybad.prog 3 #[.bool b] W fun e w' => e = .returned (.bool true) ∧ Below W.heap.size W w' := by
    cases b
    · exact truth_law_false W
    · exact truth_law_true W g0 g1 g2 g3 g4
  refine key.mono fun e W' ⟨he, bel⟩ => ?_
  subst he
  exact ⟨_, rfl, _, _, _, [], _, _, hW', trodAll_mk1 (shut_bool Ybad.underlying4 _), trodAll_mk1 (shut_bool Ybad.underlying4 _), Below.trodVars laidOutN bel (by kernel_rfl) hV1, bel.frame _, fun h => by cases h⟩

theorem truth_holds : Rows.LawS5048ATruthSaid :=
  OpenClaim.holds_of_wide 3 Ybad.f3 rfl rfl rfl rfl rfl rfl rfl ⟨rfl, rfl, rfl, rfl, rfl⟩ rfl rfl rfl rfl rfl (by kernel_rfl) Ybad.func3 (by kernel_rfl)
    (of_decide_eq_true (by kernel_rfl)) (by unfold Func.isWrapper; first | (rw [if_pos (by decide +kernel)]; kernel_rfl) | (rw [if_neg (by decide +kernel)]; exact ⟨rfl, rfl⟩))
    (fun os started H enc _ => truth_lifted os started H enc)

/-- THE CARD. -/
theorem truth_card : Rows.LawS5048ATruthCardSaid :=
  Claim7.holds_tied_plain_at .later [] [.widerDeep] true (true, "8195a54c58aea16f1edcd10b20eaa57888b4a53b4715e275196b096161be4285") false
    truth_holds (fun _ h => by cases h) (by kernel_rfl) (fun _ h => by cases h) lawS5048ATruth_row_tie rfl ⟨rfl, rfl⟩ (by kernel_rfl) rfl
    (fun f fn hf hfn => by
      obtain rfl : f = 3 := Option.some.inj ((show Ybad.prog.funcNamed Rows.lawS5048ATruthRow.func = some 3 by kernel_rfl).symm.trans hf) |>.symm
      obtain rfl : fn = Ybad.f3 := (Option.some.inj (Ybad.func3.symm.trans hfn)).symm
      exact ⟨by kernel_rfl, fun j t ht => by
        rw [Ybad.params3] at ht
        have hm : t ∈ [4] := by simpa using Array.mem_of_getElem? ht
        have hall : ([4].all fun u => !Ybad.prog.wantsStandIn u) = true := by kernel_rfl
        exact (show Ybad.prog.wantsStandIn t = false by simpa using List.all_eq_true.1 hall t hm)⟩)
    (by kernel_rfl)
set_option maxRecDepth 100000 in
theorem fresh_lifted (os : Os) (started : os.Started) (H : Type) (enc : TypeId × Value → H) :
    ReturnsInHanded {} Ybad.checked os 4 .any (fun w args => (Rows.lawS5048AFreshSpec.pre enc Ybad.prog Ybad.f4 [] false w args ∧ laidMetH Ybad.prog Rows.lawS5048ATruthRow.laid w) ∧ sizedMet enc Ybad.prog Ybad.f4 (OpenSpec.ofChange Rows.lawS5048AFreshSpec) false w args)
      (Rows.lawS5048AFreshSpec.post enc Ybad.prog Ybad.f4 false true false false) := by
  refine returnsInHanded_of_change_and (C := Ybad.checked) (X := fun w _ => laidMetH Ybad.prog Rows.lawS5048ATruthRow.laid w) (fun _ _ _ hh h => h.of_heap hh) ownN started (by kernel_rfl) Ybad.func4
    (ChangeSpec.witness_shaped (enc := enc) (C := Ybad.checked) (os := os) (X := fun w _ => laidMetH Ybad.prog Rows.lawS5048ATruthRow.laid w) false (World.doorLaid Ybad.prog 400 os) #[.int .u32 0] 8 rfl (World.shaped_of_RefB (by kernel_rfl) (by kernel_rfl)) (by kernel_rfl) (by kernel_rfl) (by kernel_rfl) (door_met os _)) ?_
  intro W base args ds gs before hval0 hW _ _ hL _
  have hval : ∀ (j : Nat) t v, Ybad.f4.params[j]? = some t → args[j]? = some v → Value.okWide Ybad.prog W .any base t v := hval0
  have hW' := hW
  obtain ⟨p, q, hA0, hV0, rfl, hfz, hnd⟩ := hW
  have hA : DataW.TrodAll enc Ybad.prog W 0 (fun _ => true) true Ybad.f4.params.toList args.toList ds p := hA0
  have hV : DataW.TrodVars enc Ybad.prog W (fun _ => true) Rows.lawS5048AFreshSpec.vars gs q := hV0
  have hV1 := hV
  rw [Ybad.params4] at hA hval
  obtain ⟨v0, d0, rfl, rfl, h0⟩ := trodAll_one hA
  obtain ⟨b, rfl, rfl, rfl, wb⟩ := open_int Ybad.underlying35 (hval 0 35 v0 rfl rfl) h0
  obtain ⟨g, t, cs, fuel, d, p', rfl, hg, ht, hvar, hd, rfl⟩ := trodVars_one hV
  obtain ⟨g0, g1, g2, g3, g4⟩ := of_laid hL
  clear hA0 hV0 hval0
  have key := fresh_law b W g0 g1 g2 g3 g4
  refine key.mono fun e W' ⟨he, bel⟩ => ?_
  subst he
  exact ⟨_, rfl, _, _, _, [], _, _, hW', trodAll_mk1 (shut_bool Ybad.underlying4 _), trodAll_mk1 (shut_int Ybad.underlying35 wb), Below.trodVars laidOutN bel (by kernel_rfl) hV1, bel.frame _, fun h => by cases h⟩

theorem fresh_holds : Rows.LawS5048AFreshSaid :=
  OpenClaim.holds_of_wide 4 Ybad.f4 rfl rfl rfl rfl rfl rfl rfl ⟨rfl, rfl, rfl, rfl, rfl⟩ rfl rfl rfl rfl rfl (by kernel_rfl) Ybad.func4 (by kernel_rfl)
    (of_decide_eq_true (by kernel_rfl)) (by unfold Func.isWrapper; first | (rw [if_pos (by decide +kernel)]; kernel_rfl) | (rw [if_neg (by decide +kernel)]; exact ⟨rfl, rfl⟩))
    (fun os started H enc _ => fresh_lifted os started H enc)

/-- THE CARD. -/
theorem fresh_card : Rows.LawS5048AFreshCardSaid :=
  Claim7.holds_tied_plain_at .later [] [.widerDeep] true (true, "8195a54c58aea16f1edcd10b20eaa57888b4a53b4715e275196b096161be4285") false
    fresh_holds (fun _ h => by cases h) (by kernel_rfl) (fun _ h => by cases h) lawS5048AFresh_row_tie rfl ⟨rfl, rfl⟩ (by kernel_rfl) rfl
    (fun f fn hf hfn => by
      obtain rfl : f = 4 := Option.some.inj ((show Ybad.prog.funcNamed Rows.lawS5048AFreshRow.func = some 4 by kernel_rfl).symm.trans hf) |>.symm
      obtain rfl : fn = Ybad.f4 := (Option.some.inj (Ybad.func4.symm.trans hfn)).symm
      exact ⟨by kernel_rfl, fun j t ht => by
        rw [Ybad.params4] at ht
        have hm : t ∈ [35] := by simpa using Array.mem_of_getElem? ht
        have hall : ([35].all fun u => !Ybad.prog.wantsStandIn u) = true := by kernel_rfl
        exact (show Ybad.prog.wantsStandIn t = false by simpa using List.all_eq_true.1 hall t hm)⟩)
    (by kernel_rfl)
end Go.Proofs.YbulkczneDoor
