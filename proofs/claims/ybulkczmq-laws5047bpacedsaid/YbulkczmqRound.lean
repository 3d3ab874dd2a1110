/- The walks of math.Round and of realTime with paces. -/
import Derived.Test.YbulkczmqSim
import Derived.Test.YbulkczmqFloat
import Derived.Laws.Shifts
import Derived.Laws.ShiftsVar
import Derived.Laws.BitsAll
namespace Go.Proofs.Ybulkczmq
open Go.RowKit
theorem call25 (b : Nat) (w : World) : (callFunc 25 #[.float .f64 b]).run Yba.prog w = .ok (.value (.int .u64 b)) w := by kernel_rfl
theorem call26 (n : Int) (w : World) : (callFunc 26 #[.int .u64 n]).run Yba.prog w = .ok (.value (.float .f64 n.toNat)) w := by kernel_rfl

set_option maxRecDepth 100000 in
theorem round_any (b r : Nat) (w : World) (hr : Fl.RoundsTo b r) : Calls Yba.prog 21 #[.float .f64 b] w fun e w' => e = .returned (.float .f64 r) ∧ w' = w := by
  have h25 := call25
  have h26 := call26
  unfold Fl.RoundsTo at hr
  obtain ⟨E, hE⟩ : ∃ E, bits .and .u64 ((b : Int) / 4503599627370496) 2047 = E := ⟨_, rfl⟩
  rw [hE] at hr
  rcases hr with ⟨h1, h2, hr⟩ | ⟨h1, h2, hr⟩ | ⟨h1, h2, hr⟩
  · have Hr : Hid (r = _) := hr
    clear hr
    go_enter Yba.func21, Yba.ntmps21
    go_wp2_with fail
    go_ret
    exact ⟨by rw [Hr.out]; rfl, rfl⟩
  · have Hr : Hid (r = _) := hr
    clear hr
    go_enter Yba.func21, Yba.ntmps21
    go_wp2_with fail
    go_ret
    exact ⟨by rw [Hr.out]; rfl, rfl⟩
  · have Hr : Hid (r = _) := hr
    clear hr
    go_enter Yba.func21, Yba.ntmps21
    go_wp2_with fail
    go_ret
    exact ⟨by rw [Hr.out]; rfl, rfl⟩

/-- d times k quarters, to the nearest whole number, halves away from zero. -/
def quart (d : Int) (k : Nat) : Int := if decide (d < 0) then -(((d.natAbs * k + 2) / 4 : Nat) : Int) else ((d.natAbs * k + 2) / 4 : Nat)

set_option maxRecDepth 100000 in
theorem realTime_paced (R g gp n cap cap2 node k : Nat) (rd x d : Int) (w : World) (hn : node < n) (h6 : w.cell? ⟨R, 6, none⟩ = some (.slice (some ⟨g, 0, none⟩) n cap)) (h5 : w.cell? ⟨R, 5, none⟩ = some (.slice (some ⟨gp, 0, none⟩) n cap2))
    (hx : w.cell? ⟨g, node, none⟩ = some (.int .i64 x)) (hp : w.cell? ⟨gp, node, none⟩ = some (.float .f64 (Fl.pace k))) (hd : wrap64 (rd - x) = d) (hd2 : d.natAbs ≤ 2147483648) (hk : k < 16) :
    Calls Yba.prog 12 #[.pointer (some ⟨R, 0, none⟩), .int .i64 node, .int .i64 rd] w fun e w' => e = .returned (.int .i64 (quart d k)) ∧ w' = w := by
  have hnI : (node : Int) < (n : Int) := by omega
  have heq := fun (w : World) (a : Option Addr) (n c : Nat) => Lib.run_eql_slice_nil (P := Yba.prog) w 54 64 a n c 0 0 Yba.underlying54
  have hM : d.natAbs * k < 1099511627776 := by
    have : d.natAbs * k ≤ 2147483648 * 15 := Nat.mul_le_mul hd2 (by omega)
    omega
  obtain ⟨r, hr1, hr2⟩ := Fl.round_quarter (decide (d < 0)) (d.natAbs * k) hM
  have hmul := fun w : World => run_float_arith (P := Yba.prog) w .mul 64 .f64 (floatOfInt .f64 d) (Fl.pace k) _ (Fl.mul_pace d k hd2 hk)
  have hconv := fun w : World => run_convert_float_int (P := Yba.prog) w 64 26 .f64 .i64 r _ (by rw [Yba.underlying64]; rfl) Yba.underlying26 hr2
  obtain ⟨q, hq⟩ : ∃ q, q = quart d k := ⟨_, rfl⟩
  have hq' : (if decide (d < 0) then -(((d.natAbs * k + 2) / 4 : Nat) : Int) else ((d.natAbs * k + 2) / 4 : Nat)) = q := by rw [hq]; rfl
  rw [hq'] at hconv
  have Hq : Hid (q = quart d k) := hq
  obtain ⟨B, hB⟩ : ∃ B, B = Fl.qw (decide (d < 0)) (d.natAbs * k) := ⟨_, rfl⟩
  rw [← hB] at hmul hr1
  obtain ⟨fd, hfd⟩ : ∃ fd, floatOfInt .f64 d = fd := ⟨_, rfl⟩
  rw [hfd] at hmul
  obtain ⟨pk, hpk⟩ : ∃ pk, Fl.pace k = pk := ⟨_, rfl⟩
  rw [hpk] at hmul hp
  clear hq hq' hr2 hB hM hd2 hk hpk
  go_enter Yba.func12, Yba.ntmps12
  go_wp2_with fail
  refine (since_any _ _ _).mono ?_
  rintro e w1 ⟨rfl, rfl⟩
  rw [hd]
  clear hd
  go_wp2_with fail
  refine (round_any B r _ hr1).mono ?_
  rintro e w2 ⟨rfl, rfl⟩
  go_wp2_with fail
  go_ret
  exact ⟨by rw [Hq.out]; rfl, rfl⟩
end Go.Proofs.Ybulkczmq
