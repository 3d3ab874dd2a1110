/- The proof of 'Rows.LawS5047BNoPaceSaid': the frame is the given shell's; the walk is filled. -/
import Derived.Test.YbulkczmqRows
import Derived.WalkKit
import Derived.ProofKit
import Derived.OpenShut
import Derived.ShutString
import Derived.ChangeOld
import Derived.Below
import Derived.Test.YbulkczmqSim
namespace Go.Proofs.Ybulkczmq.lawS5047BNoPace
open Go.ChangeShapes Go.WideShapes Go.ChangeAt Go.RowKit
open Go.ChangeMaps (open_string shut_string)
set_option linter.unusedVariables false

theorem own : ownKnob Yba.prog.godebug = none := by kernel_rfl
theorem laidOut : laidOutB Yba.prog = true := by kernel_rfl

/-- WHAT THE WALK IS TOLD OF A SLICE OF INTEGERS THAT CAME IN: it is nil; or it leads to a row of 'cap' cells, the numbers 'zs' (the first 'len' are its elements, the rest its spare room), each fitting its kind. -/
def IsRow (k : IntKind) (w : World) (a : Option Addr) (len cap : Nat) (zs : List Int) : Prop :=
  (a = none ∧ len = 0 ∧ cap = 0 ∧ zs = []) ∨
  ∃ x, a = some x ∧ len ≤ cap ∧ cap ≤ maxLen ∧ zs.length = cap ∧ (∀ i, i < zs.length → w.cell? (x.add i) = some (.int k (zs.getD i 0))) ∧ ∀ n ∈ zs, (Lit.int k n).wf = true


theorem walk_big (a0 : Option Addr) (len0 cap0 : Nat) (a1 a2 : Int) (w : World) (hm : len0 ≤ maxLen) (hbig : 1024 < len0) :
    Calls Yba.prog 5 #[.slice a0 len0 cap0, .int .u8 a1, .int .i64 a2] w fun e w' => e = .returned (.bool true) ∧ Below w.heap.size w w' := by
  unfold maxLen at hm
  have hb : (1024 : Int) < (len0 : Int) := by omega
  go_enter Yba.func5, Yba.ntmps5
  go_wp2
  go_ret
  exact ⟨rfl, Below.refl _ _⟩

theorem u64_wrap (x : Int) : IntKind.u64.wrap x = x % 18446744073709551616 := by
  simp [IntKind.wrap, IntKind.signed, IntKind.bits]

theorem want_eq (a b : Int) : (wrap64 (a - b) != wrap64 (IntKind.u64.wrap (IntKind.u64.wrap a - IntKind.u64.wrap b))) = false := by
  rw [u64_wrap, u64_wrap, u64_wrap]
  unfold wrap64
  simp only [bne_eq_false_iff_eq]
  omega

set_option maxRecDepth 100000 in
set_option maxHeartbeats 1000000 in
theorem walk_pos (b off n cap0 : Nat) (Z : List Int) (sel : Nat) (rd : Int) (w : World) (hn0 : 0 < n) (hl : n ≤ 1024) (hz : Z.length = n) (hb : b < w.heap.size) (hs : sel ≤ 255)
    (hcell : ∀ j, j < n → w.cell? ⟨b, off + j, none⟩ = some (.int .i64 (nth Z j))) :
    Calls Yba.prog 5 #[.slice (some ⟨b, off, none⟩) n cap0, .int .u8 sel, .int .i64 rd] w fun e w' => e = .returned (.bool true) ∧ Below w.heap.size w w' := by
  have hb1 : ¬ (1024 : Int) < (n : Int) := by omega
  obtain ⟨node, hnode⟩ : ∃ k, k = sel % (n + 1) := ⟨_, rfl⟩
  have hnl : node < n + 1 := by rw [hnode]; exact Nat.mod_lt _ (by omega)
  have hnI : (sel : Int) % ((n : Int) + 1) = (node : Int) := by rw [hnode]; push_cast; rfl
  clear hnode
  have Hz : Hid (Z.length = n) := hz
  have Hcell : Hid (∀ j, j < n → w.cell? ⟨b, off + j, none⟩ = some (.int .i64 (nth Z j))) := hcell
  clear hz hcell
  go_enter Yba.func5, Yba.ntmps5
  go_wp2_with fail
  refine (starts_pos b off n cap0 Z w hl Hz.out hb Hcell.out).mono ?_
  rintro e w1 ⟨rfl, hst⟩
  go_wp2_with fail
  have hR : w.heap.size < w1.heap.size := (hst.own.lt _ rfl).2
  have h5 : (w1.alloc (Obj.cells #[Value.pointer none, Value.int IntKind.i64 0, Value.pointer none, Value.int IntKind.i64 0, Value.slice none 0 0, Value.slice none 0 0, Value.slice (some { block := w.heap.size, off := 0 }) (n + 1) (n + 1), Value.slice none 0 0, Value.int IntKind.i64 0, Value.int IntKind.i64 0, Value.slice none 0 0] 59)).cell? ⟨w1.heap.size, 5, none⟩ = some (.slice none 0 0) := by
    rw [World.cell?_alloc_at _ _ _ _ rfl]; rfl
  have h6 : (w1.alloc (Obj.cells #[Value.pointer none, Value.int IntKind.i64 0, Value.pointer none, Value.int IntKind.i64 0, Value.slice none 0 0, Value.slice none 0 0, Value.slice (some { block := w.heap.size, off := 0 }) (n + 1) (n + 1), Value.slice none 0 0, Value.int IntKind.i64 0, Value.int IntKind.i64 0, Value.slice none 0 0] 59)).cell? ⟨w1.heap.size, 6, none⟩ = some (.slice (some ⟨w.heap.size, 0, none⟩) (n + 1) (n + 1)) := by
    rw [World.cell?_alloc_at _ _ _ _ rfl]; rfl
  have hcs : ∀ j, j < n + 1 → (w1.alloc (Obj.cells #[Value.pointer none, Value.int IntKind.i64 0, Value.pointer none, Value.int IntKind.i64 0, Value.slice none 0 0, Value.slice none 0 0, Value.slice (some { block := w.heap.size, off := 0 }) (n + 1) (n + 1), Value.slice none 0 0, Value.int IntKind.i64 0, Value.int IntKind.i64 0, Value.slice none 0 0] 59)).cell? ⟨w.heap.size, j, none⟩ = some (.int .i64 (nth (Z ++ [0]) j)) := by
    intro j hj
    rw [World.cell?_alloc_past _ _ _ hR]; exact hst.cell j hj
  have hcz : ∀ j, j < n → (w1.alloc (Obj.cells #[Value.pointer none, Value.int IntKind.i64 0, Value.pointer none, Value.int IntKind.i64 0, Value.slice none 0 0, Value.slice none 0 0, Value.slice (some { block := w.heap.size, off := 0 }) (n + 1) (n + 1), Value.slice none 0 0, Value.int IntKind.i64 0, Value.int IntKind.i64 0, Value.slice none 0 0] 59)).cell? ⟨b, off + j, none⟩ = some (.int .i64 (nth Z j)) := by
    intro j hj
    rw [World.cell?_alloc_past _ _ _ (by omega), hst.bel.cell (by exact hb)]; exact Hcell.out j hj
  have hbel : Below w.heap.size w (w1.alloc (Obj.cells #[Value.pointer none, Value.int IntKind.i64 0, Value.pointer none, Value.int IntKind.i64 0, Value.slice none 0 0, Value.slice none 0 0, Value.slice (some { block := w.heap.size, off := 0 }) (n + 1) (n + 1), Value.slice none 0 0, Value.int IntKind.i64 0, Value.int IntKind.i64 0, Value.slice none 0 0] 59)) := hst.bel.alloc (by omega) _
  generalize (w1.alloc (Obj.cells #[Value.pointer none, Value.int IntKind.i64 0, Value.pointer none, Value.int IntKind.i64 0, Value.slice none 0 0, Value.slice none 0 0, Value.slice (some { block := w.heap.size, off := 0 }) (n + 1) (n + 1), Value.slice none 0 0, Value.int IntKind.i64 0, Value.int IntKind.i64 0, Value.slice none 0 0] 59)) = W at h5 h6 hcs hcz hbel ⊢
  generalize w1.heap.size = R at h5 h6 hR ⊢
  clear hst w1
  obtain ⟨x, hx⟩ : ∃ x, x = nth (Z ++ [0]) node := ⟨_, rfl⟩
  have cx := hcs node hnl
  rw [← hx] at cx
  have Hcs : Hid (∀ j, j < n + 1 → W.cell? ⟨w.heap.size, j, none⟩ = some (.int .i64 (nth (Z ++ [0]) j))) := hcs
  have Hcz : Hid (∀ j, j < n → W.cell? ⟨b, off + j, none⟩ = some (.int .i64 (nth Z j))) := hcz
  clear hx hcs hcz
  have hnI2 : (node : Int) < (n : Int) + 1 := by omega
  refine (realTime_nopace R w.heap.size (n + 1) (n + 1) node rd x W hnl h6 h5 cx).mono ?_
  rintro e W2 ⟨rfl, rfl⟩
  have hwant := want_eq rd x
  go_wp2_with fail
  go_loopg [62] n (fun k i wr => ∃ j : Nat, i = .int .i64 j ∧ j + k = n ∧ wr = W2)
  case atStart => exact ⟨0, rfl, by omega, rfl⟩
  case round =>
    obtain ⟨j, rfl, hjk, rfl⟩ := hrel
    by_cases hlt : j < n
    · have hltI : (j : Int) < (n : Int) := by omega
      have hltI2 : (j : Int) < (n : Int) + 1 := by omega
      have c1 := Hcs.out j (by omega)
      have c2 := Hcz.out j hlt
      have e : nth (Z ++ [0]) j = nth Z j := by have hz := Hz.out; simp [nth, List.getElem?_append, show j < Z.length by omega]
      rw [e] at c1
      obtain ⟨y, hy⟩ : ∃ y, y = nth Z j := ⟨_, rfl⟩
      rw [← hy] at c1 c2
      clear hy e
      go_wp2_with fail
      go_roundg (n - (j + 1))
      case measure => omega
      case rel => exact ⟨j + 1, by go_num, by omega, rfl⟩
    · have hltI : ¬ (j : Int) < (n : Int) := by omega
      have c1 := Hcs.out n (by omega)
      have e : nth (Z ++ [0]) n = 0 := by have hz := Hz.out; simp [nth, ← hz]
      rw [e] at c1
      clear e
      go_wp2_with fail
      go_ret
      exact ⟨rfl, hbel⟩

set_option maxRecDepth 100000 in
set_option maxHeartbeats 1000000 in
theorem walk_zero (a0 : Option Addr) (cap0 : Nat) (sel : Nat) (rd : Int) (w : World) (hs : sel ≤ 255) :
    Calls Yba.prog 5 #[.slice a0 0 cap0, .int .u8 sel, .int .i64 rd] w fun e w' => e = .returned (.bool true) ∧ Below w.heap.size w w' := by
  go_enter Yba.func5, Yba.ntmps5
  go_wp2_with fail
  refine (starts_zero a0 cap0 w).mono ?_
  rintro e w1 ⟨rfl, hst⟩
  go_wp2_with fail
  have hR : w.heap.size < w1.heap.size := (hst.own.lt _ rfl).2
  have h5 : (w1.alloc (Obj.cells #[Value.pointer none, Value.int IntKind.i64 0, Value.pointer none, Value.int IntKind.i64 0, Value.slice none 0 0, Value.slice none 0 0, Value.slice (some { block := w.heap.size, off := 0 }) 1 1, Value.slice none 0 0, Value.int IntKind.i64 0, Value.int IntKind.i64 0, Value.slice none 0 0] 59)).cell? ⟨w1.heap.size, 5, none⟩ = some (.slice none 0 0) := by
    rw [World.cell?_alloc_at _ _ _ _ rfl]; rfl
  have h6 : (w1.alloc (Obj.cells #[Value.pointer none, Value.int IntKind.i64 0, Value.pointer none, Value.int IntKind.i64 0, Value.slice none 0 0, Value.slice none 0 0, Value.slice (some { block := w.heap.size, off := 0 }) 1 1, Value.slice none 0 0, Value.int IntKind.i64 0, Value.int IntKind.i64 0, Value.slice none 0 0] 59)).cell? ⟨w1.heap.size, 6, none⟩ = some (.slice (some ⟨w.heap.size, 0, none⟩) 1 1) := by
    rw [World.cell?_alloc_at _ _ _ _ rfl]; rfl
  have cx : (w1.alloc (Obj.cells #[Value.pointer none, Value.int IntKind.i64 0, Value.pointer none, Value.int IntKind.i64 0, Value.slice none 0 0, Value.slice none 0 0, Value.slice (some { block := w.heap.size, off := 0 }) 1 1, Value.slice none 0 0, Value.int IntKind.i64 0, Value.int IntKind.i64 0, Value.slice none 0 0] 59)).cell? ⟨w.heap.size, 0, none⟩ = some (.int .i64 0) := by
    rw [World.cell?_alloc_past _ _ _ hR]; exact hst.cell 0 (by omega)
  have hbel : Below w.heap.size w (w1.alloc (Obj.cells #[Value.pointer none, Value.int IntKind.i64 0, Value.pointer none, Value.int IntKind.i64 0, Value.slice none 0 0, Value.slice none 0 0, Value.slice (some { block := w.heap.size, off := 0 }) 1 1, Value.slice none 0 0, Value.int IntKind.i64 0, Value.int IntKind.i64 0, Value.slice none 0 0] 59)) := hst.bel.alloc (by omega) _
  generalize (w1.alloc (Obj.cells #[Value.pointer none, Value.int IntKind.i64 0, Value.pointer none, Value.int IntKind.i64 0, Value.slice none 0 0, Value.slice none 0 0, Value.slice (some { block := w.heap.size, off := 0 }) 1 1, Value.slice none 0 0, Value.int IntKind.i64 0, Value.int IntKind.i64 0, Value.slice none 0 0] 59)) = W at h5 h6 cx hbel ⊢
  generalize w1.heap.size = R at h5 h6 hR ⊢
  clear hst w1
  refine (realTime_nopace R w.heap.size 1 1 0 rd 0 W (by omega) h6 h5 cx).mono ?_
  rintro e W2 ⟨rfl, rfl⟩
  have hwant := want_eq rd 0
  have hu0 : IntKind.u64.wrap 0 = 0 := by rw [u64_wrap]; rfl
  rw [hu0, Int.sub_zero, Int.sub_zero] at hwant
  rw [Int.sub_zero]
  go_wp2_with fail
  refine wp_loop_rounds 1 ?_
  rw [rounds_succ]
  go_wp2_with fail
  go_ret
  exact ⟨rfl, hbel⟩

theorem walk (a0 : Option Addr) (len0 cap0 : Nat) (z0 : List Int) (a1 : Int) (a2 : Int) (w : World) (w0 : IsRow .i64 w a0 len0 cap0 z0) (w1 : (Lit.int .u8 a1).wf = true) (w2 : (Lit.int .i64 a2).wf = true) :
    Calls Yba.prog 5 #[.slice a0 len0 cap0, .int .u8 a1, .int .i64 a2] w fun e w' => e = .returned (.bool true) ∧ Below w.heap.size w w' := by
  have hb1 := bounds_u8 w1
  obtain ⟨sel, rfl⟩ := Int.eq_ofNat_of_zero_le hb1.1
  by_cases h0 : len0 = 0
  · subst h0; exact walk_zero a0 cap0 sel a2 w (by omega)
  · rcases w0 with ⟨_, h, _⟩ | ⟨x, rfl, hlc, hm, hz, hc, _⟩
    · exact absurd h h0
    · by_cases hbig : 1024 < len0
      · exact walk_big _ _ _ _ _ _ (by omega) hbig
      · obtain ⟨b, off, rfl, hc2⟩ := ints_at hc (by omega)
        have hb : b < w.heap.size := World.block_lt_of_cell? w _ (hc2 0 (by omega))
        refine walk_pos b off len0 cap0 (z0.take len0) sel a2 w (by omega) (by omega) (by simp; omega) hb (by omega) (fun j hj => ?_)
        have e : nth (z0.take len0) j = z0.getD j 0 := by simp [nth, hj]
        rw [e]
        exact hc2 j (by omega)

/-! ### THE ROW's STEP: WRITTEN OUT: LEAVE IT -/
set_option maxRecDepth 100000 in
theorem lifted (os : Os) (started : os.Started) (H : Type) (enc : TypeId × Value → H) :
    ReturnsInHanded {} Yba.checked os 5 .any (Rows.lawS5047BNoPaceSpec.pre6 enc Yba.prog Yba.f5 Rows.lawS5047BNoPaceRow.domain false) (Rows.lawS5047BNoPaceSpec.post enc Yba.prog Yba.f5 false true false false) := by
  refine returnsInHanded_of_change (C := Yba.checked) own started (by kernel_rfl) Yba.func5
    (ChangeSpec.witness6 (enc := enc) (C := Yba.checked) false ⟨#[], #[.slice none 0 0, .int .u8 0, .int .i64 0], []⟩ 8 (by kernel_rfl) (by kernel_rfl) (by kernel_rfl) (by kernel_rfl)) ?_
  intro W base args ds gs before hval0 hW hcnd _
  have hval : ∀ (j : Nat) t v, Yba.f5.params[j]? = some t → args[j]? = some v → Value.okWide Yba.prog W .any base t v := hval0
  have hW' := hW
  obtain ⟨p, q, hA0, hV, rfl, hfz, hnd⟩ := hW
  have hA : DataW.TrodAll enc Yba.prog W 0 (fun _ => true) true Yba.f5.params.toList args.toList ds p := hA0
  rw [Yba.params5] at hA hval
  obtain ⟨v0, vs0, d0, ds0, p0, q0, hargs, rfl, rfl, h0, r0⟩ := trodAll_cons hA
  obtain ⟨v1, vs1, d1, ds1, p1, q1, rfl, rfl, rfl, h1, r1⟩ := trodAll_cons r0
  obtain ⟨v2, vs2, d2, ds2, p2, q2, rfl, rfl, rfl, h2, r2⟩ := trodAll_cons r1
  obtain ⟨rfl, rfl, rfl⟩ := trodAll_nil r2
  obtain rfl : args = #[v0, v1, v2] := by cases args; simp_all
  obtain ⟨rfl, rfl⟩ := trodVars_none hV
  obtain ⟨a0, len0, cap0, rfl⟩ := okWide_slice Yba.underlying27 (hval 0 27 v0 rfl rfl)
  have k0 := h0
  have lt0 : ∀ x ∈ p0, x.block < W.heap.size := by obtain ⟨m, hm⟩ := k0; exact DataW.trod_lt m _ _ _ hm
  obtain ⟨z0, w0⟩ : ∃ zs, IsRow .i64 W a0 len0 cap0 zs := by
    obtain ⟨fuel, hf⟩ := h0
    rcases open_ints Yba.underlying27 Yba.underlying2 (by kernel_rfl) hf with ⟨hcs, _⟩ | ⟨x, l, c, zs, hcs, _, hl, hm, hz, _, hcell, hwz⟩
    · simp [Value.cells] at hcs
      obtain ⟨rfl, rfl, rfl⟩ := hcs
      exact ⟨[], .inl ⟨rfl, rfl, rfl, rfl⟩⟩
    · simp [Value.cells] at hcs
      obtain ⟨rfl, rfl, rfl⟩ := hcs
      exact ⟨zs, .inr ⟨_, rfl, hl, hm, by simpa using hz, hcell, hwz⟩⟩
  obtain ⟨a1, rfl, rfl, rfl, w1⟩ := open_int Yba.underlying5 (hval 1 5 v1 rfl rfl) h1
  obtain ⟨a2, rfl, rfl, rfl, w2⟩ := open_int Yba.underlying2 (hval 2 2 v2 rfl rfl) h2
  clear hA0 hval0
  refine (walk a0 len0 cap0 z0 a1 a2 W w0 w1 w2).mono fun e W' ⟨he, bel⟩ => ?_
  subst he
  exact ⟨_, rfl, _, _, _, [], _, [], hW', trodAll_mk1 (shut_bool Yba.underlying4 _), (trodAll_cons_mk (Below.trod laidOut (by kernel_rfl) (of_decide_eq_true (by kernel_rfl)) k0 bel lt0) (trodAll_cons_mk (shut_int Yba.underlying5 w1) (trodAll_cons_mk (shut_int Yba.underlying2 w2) trodAll_mk0))), rfl, bel.frame _, fun h => by cases h⟩

theorem over : Rows.lawS5047BNoPaceRow.holds Yba.pinned (OpenSpec.ofChange Rows.lawS5047BNoPaceSpec) :=
  OpenClaim.holds_of_wide 5 Yba.f5 rfl rfl rfl rfl rfl rfl rfl ⟨rfl, rfl, rfl, rfl, rfl⟩ rfl rfl rfl rfl rfl (by kernel_rfl) Yba.func5 (by kernel_rfl)
    (of_decide_eq_true (by kernel_rfl)) (by unfold Func.isWrapper; first | (rw [if_pos (by decide +kernel)]; kernel_rfl) | (rw [if_neg (by decide +kernel)]; exact ⟨rfl, rfl⟩))
    (fun os started H enc _ => lifted os started H enc)

/-- ████ THE STATEMENT ████ -/
theorem proved : Rows.LawS5047BNoPaceSaid := over
end Go.Proofs.Ybulkczmq.lawS5047BNoPace
