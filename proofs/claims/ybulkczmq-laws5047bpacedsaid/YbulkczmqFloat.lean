/- Plain laws on float64 words: a whole number of quarters, read, multiplied, rounded. No Go function in sight. -/
import Derived.Laws.FloatArith
import Derived.Laws.BitsAllLaws
namespace Go.Proofs.Ybulkczmq.Fl
open Ieee

/-- The word of the number q times 2 to the (e - 1074), q a full significand. -/
def fw (neg : Bool) (e q : Nat) : Nat := double.word neg (e * 4503599627370496 + q)

theorem least : double.leastPlace = -1074 := by decide
theorem binade : double.binade = 4503599627370496 := by decide
theorem infRung : double.infRung = 9218868437227405312 := by decide
theorem signW : double.signWeight = 9223372036854775808 := by decide
theorem fracB : double.fractionBits = 52 := rfl

theorem log2_of {n k : Nat} (h1 : 2 ^ k ≤ n) (h2 : n < 2 ^ (k + 1)) : n.log2 = k := by
  have h0 : n ≠ 0 := by have := Nat.two_pow_pos k; omega
  exact (Nat.log2_eq_iff h0).2 ⟨h1, h2⟩

theorem cut_exact (neg : Bool) (q t : Nat) (hq : 0 < q) : Toward.even.cut neg (q * 2 ^ t) t = q := by
  unfold Toward.cut
  have hp := Nat.two_pow_pos t
  have hl : t ≤ (q * 2 ^ t).log2 + 2 := by
    have h1 : 2 ^ t ≤ q * 2 ^ t := Nat.le_mul_of_pos_left _ hq
    have h2 := (Nat.le_log2 (show q * 2 ^ t ≠ 0 by omega)).2 h1
    omega
  rw [Nat.min_eq_left hl, Nat.one_shiftLeft]
  simp only [Nat.mul_mod_left, Nat.mul_div_cancel _ hp]
  have e1 : (decide (2 ^ t < 2 * 0) || 2 ^ t == 2 * 0 && q % 2 == 1) = false := by
    have h1 : decide (2 ^ t < 2 * 0) = false := decide_eq_false (by omega)
    have h2 : (2 ^ t == 2 * 0) = false := by simp
    rw [h1, h2]; rfl
  rw [e1]; rfl

theorem nearest_exact {neg : Bool} {mag : Nat} {place : Int} {e q : Nat} (s t : Nat) (hst : mag * 2 ^ s = q * 2 ^ t) (hst0 : s = 0 ∨ t = 0) (hp : place = (e : Int) - 1074 + s - t)
    (hq1 : 4503599627370496 ≤ q) (hq2 : q < 9007199254740992) (he : e ≤ 2044) : double.nearest neg mag place = fw neg e q := by
  have hps := Nat.two_pow_pos s
  have hpt := Nat.two_pow_pos t
  have h0 : mag ≠ 0 := by
    intro h
    rw [h, Nat.zero_mul] at hst
    have := Nat.mul_pos (show 0 < q by omega) hpt
    omega
  have hlq : 2 ^ (52 + t) ≤ mag * 2 ^ s ∧ mag * 2 ^ s < 2 ^ (53 + t) := by
    rw [hst, Nat.pow_add, Nat.pow_add]
    exact ⟨Nat.mul_le_mul_right _ (by omega), Nat.mul_lt_mul_of_pos_right (by omega) hpt⟩
  have hlm : (mag.log2 : Int) + s = 52 + t := by
    have h1 := Nat.log2_self_le h0
    have h2 := @Nat.lt_log2_self mag
    have h3 : 2 ^ (mag.log2 + s) ≤ mag * 2 ^ s := by rw [Nat.pow_add]; exact Nat.mul_le_mul_right _ h1
    have h4 : mag * 2 ^ s < 2 ^ (mag.log2 + 1 + s) := by rw [Nat.pow_add]; exact Nat.mul_lt_mul_of_pos_right h2 hps
    have h5 : mag.log2 + s < 53 + t := (Nat.pow_lt_pow_iff_right (by omega)).1 (Nat.lt_of_le_of_lt h3 hlq.2)
    have h6 : 52 + t < mag.log2 + 1 + s := (Nat.pow_lt_pow_iff_right (by omega)).1 (Nat.lt_of_le_of_lt hlq.1 h4)
    omega
  unfold Format.nearest
  rw [if_neg h0, least, binade, infRung, fracB]
  have hlast : max (place + mag.log2 - 52) (-1074) = (e : Int) - 1074 := by omega
  simp only []
  rw [show ((52 : Nat) : Int) = 52 from rfl, hlast]
  have e1 : (place - ((e : Int) - 1074)).toNat = s - t := by omega
  have e2 : ((e : Int) - 1074 - place).toNat = t - s := by omega
  have e3 : ((e : Int) - 1074 - -1074).toNat = e := by omega
  rw [e1, e2, e3]
  have hk : Toward.even.cut neg (mag <<< (s - t)) (t - s) = q := by
    rw [Nat.shiftLeft_eq]
    rcases hst0 with h | h
    · subst h
      rw [Nat.zero_sub, Nat.pow_zero, Nat.mul_one, Nat.sub_zero]
      rw [Nat.pow_zero, Nat.mul_one] at hst
      rw [hst]; exact cut_exact neg q t (by omega)
    · subst h
      rw [Nat.zero_sub, Nat.sub_zero, hst]
      exact cut_exact neg q 0 (by omega)
  rw [hk, Nat.min_eq_left (by omega)]
  rfl

theorem read_fw {neg : Bool} {e q : Nat} (hq1 : 4503599627370496 ≤ q) (hq2 : q < 9007199254740992) (he : e ≤ 2044) : double.read (fw neg e q) = .number neg q ((e : Int) - 1074) := by
  have hr : e * 4503599627370496 + q < 9218868437227405312 := by omega
  have h1 : fw neg e q / 9223372036854775808 % 2 = neg.toNat := by
    unfold fw Format.word; rw [signW]
    cases neg <;> simp <;> omega
  have h2 : fw neg e q % 9223372036854775808 = e * 4503599627370496 + q := by
    unfold fw Format.word; rw [signW]
    cases neg <;> simp <;> omega
  unfold Format.read
  rw [signW, binade, infRung, least]
  simp only []
  rw [h1, h2, if_neg (by omega), if_pos hr]
  have e1 : (neg.toNat == 1) = neg := by cases neg <;> rfl
  have e2 : (e * 4503599627370496 + q) % 4503599627370496 = q - 4503599627370496 := by omega
  have e3 : (e * 4503599627370496 + q) / 4503599627370496 = e + 1 := by omega
  have e4 : 4503599627370496 + (q - 4503599627370496) = q := by omega
  have e5 : (-1074 : Int) + ((e + 1 - 1 : Nat) : Int) = (e : Int) - 1074 := by omega
  rw [e1, e2, e3, e4, e5]

/-- The full significand of m. -/
def sig (m : Nat) : Nat := m * 2 ^ (52 - m.log2)

theorem log2_le {m : Nat} (h0 : 0 < m) (h : m < 9007199254740992) : m.log2 ≤ 52 := by
  have h1 := Nat.log2_self_le (show m ≠ 0 by omega)
  have h2 : 2 ^ m.log2 < 2 ^ 53 := Nat.lt_of_le_of_lt h1 (by omega)
  have := (Nat.pow_lt_pow_iff_right (by omega : 1 < 2)).1 h2
  omega

theorem sig_bounds {m : Nat} (h0 : 0 < m) (h : m < 9007199254740992) : 4503599627370496 ≤ sig m ∧ sig m < 9007199254740992 := by
  have hl := log2_le h0 h
  have h1 := Nat.log2_self_le (show m ≠ 0 by omega)
  have h2 := @Nat.lt_log2_self m
  have hp := Nat.two_pow_pos (52 - m.log2)
  have e1 : 2 ^ m.log2 * 2 ^ (52 - m.log2) = 4503599627370496 := by rw [← Nat.pow_add, show m.log2 + (52 - m.log2) = 52 by omega]
  have e2 : 2 ^ (m.log2 + 1) * 2 ^ (52 - m.log2) = 9007199254740992 := by rw [← Nat.pow_add, show m.log2 + 1 + (52 - m.log2) = 53 by omega]
  unfold sig
  constructor
  · rw [← e1]; exact Nat.mul_le_mul_right _ h1
  · rw [← e2]; exact Nat.mul_lt_mul_of_pos_right h2 hp

theorem int_word {neg : Bool} {m : Nat} (h0 : 0 < m) (h : m < 9007199254740992) : double.nearest neg m 0 = fw neg (m.log2 + 1022) (sig m) := by
  have hl := log2_le h0 h
  have hb := sig_bounds h0 h
  exact nearest_exact (52 - m.log2) 0 (by unfold sig; omega) (.inr rfl) (by omega) hb.1 hb.2 (by omega)

theorem mul_quarter {neg : Bool} {m k : Nat} (hm : 0 < m) (hk : 0 < k) (h : m * k < 9007199254740992) :
    double.mul (fw neg (m.log2 + 1022) (sig m)) (fw false (k.log2 + 1020) (sig k)) = some (fw neg ((m * k).log2 + 1020) (sig (m * k))) := by
  have hmk : 0 < m * k := Nat.mul_pos hm hk
  have hm2 : m < 9007199254740992 := Nat.lt_of_le_of_lt (Nat.le_mul_of_pos_right m hk) h
  have hk2 : k < 9007199254740992 := Nat.lt_of_le_of_lt (Nat.le_mul_of_pos_left k hm) h
  have lm := log2_le hm hm2
  have lk := log2_le hk hk2
  have lmk := log2_le hmk h
  have bm := sig_bounds hm hm2
  have bk := sig_bounds hk hk2
  have bmk := sig_bounds hmk h
  have hle : m.log2 + k.log2 ≤ (m * k).log2 := by
    have h1 := Nat.log2_self_le (show m ≠ 0 by omega)
    have h2 := Nat.log2_self_le (show k ≠ 0 by omega)
    refine (Nat.le_log2 (show m * k ≠ 0 by omega)).2 ?_
    rw [Nat.pow_add]; exact Nat.mul_le_mul h1 h2
  unfold Format.mul
  rw [read_fw bm.1 bm.2 (by omega), read_fw bk.1 bk.2 (by omega)]
  simp only [Datum.product, Option.map_some, Format.write, Bool.xor_false]
  congr 1
  refine nearest_exact 0 (52 + (m * k).log2 - m.log2 - k.log2) ?_ (.inl rfl) (by omega) bmk.1 bmk.2 (by omega)
  unfold sig
  rw [Nat.pow_zero, Nat.mul_one, Nat.mul_assoc (m * k), ← Nat.pow_add, Nat.mul_mul_mul_comm, ← Nat.pow_add]
  congr 2
  omega

theorem read_zero (neg : Bool) : double.read (double.word neg 0) = .number neg 0 (-1074) := by cases neg <;> decide
theorem nearest_zero (neg : Bool) (p : Int) : double.nearest neg 0 p = double.word neg 0 := by unfold Format.nearest; rw [if_pos rfl]

theorem mul_zero_right {neg : Bool} {x m : Nat} {p : Int} (h : double.read x = .number neg m p) : double.mul x 0 = some (double.word neg 0) := by
  unfold Format.mul
  have e : double.read 0 = .number false 0 (-1074) := read_zero false
  rw [h, e]
  simp only [Datum.product, Option.map_some, Format.write, Bool.xor_false, Nat.mul_zero]
  rw [nearest_zero]

theorem mul_zero_left {y m : Nat} {p : Int} (h : double.read y = .number false m p) : double.mul 0 y = some 0 := by
  unfold Format.mul
  have e : double.read 0 = .number false 0 (-1074) := read_zero false
  rw [h, e]
  simp only [Datum.product, Option.map_some, Format.write, Bool.xor_false, Nat.zero_mul]
  rw [nearest_zero]; rfl

/-- The word of m quarters, m below 2 to the 53. -/
def qw (neg : Bool) (m : Nat) : Nat := if m = 0 then double.word neg 0 else fw neg (m.log2 + 1020) (sig m)

/-- What a pace of k quarters is, k below 16. -/
def pace (k : Nat) : Nat := qw false k
theorem pace_div : ∀ k, k < 16 → double.div (double.nearest false k 0) 4616189618054758400 = some (pace k) := by decide +kernel
theorem pace_order : ∀ k, k < 16 → double.order (pace k) (pace k) = some .eq := by decide +kernel

/-- A whole number times a pace. -/
theorem mul_pace (d : Int) (k : Nat) (hd : d.natAbs ≤ 2147483648) (hk : k < 16) : double.mul (FloatKind.f64.nearest d) (pace k) = some (qw (decide (d < 0)) (d.natAbs * k)) := by
  have hn : FloatKind.f64.nearest d = double.nearest (decide (d < 0)) d.natAbs 0 := rfl
  rw [hn]
  by_cases h0 : d.natAbs = 0
  · have hd0 : d = 0 := by omega
    subst hd0
    have e1 : double.nearest (decide ((0 : Int) < 0)) (Int.natAbs 0) 0 = 0 := by decide
    have e2 : qw (decide ((0 : Int) < 0)) (Int.natAbs 0 * k) = 0 := by simp [qw]; decide
    rw [e1, e2]
    by_cases hk0 : k = 0
    · subst hk0; exact mul_zero_left (read_zero false)
    · have bk := sig_bounds (show 0 < k by omega) (by omega)
      have lk := log2_le (show 0 < k by omega) (by omega)
      unfold pace qw
      rw [if_neg hk0]
      exact mul_zero_left (read_fw bk.1 bk.2 (by omega))
  · have bd := sig_bounds (show 0 < d.natAbs by omega) (by omega)
    have ld := log2_le (show 0 < d.natAbs by omega) (by omega)
    rw [int_word (by omega) (by omega)]
    by_cases hk0 : k = 0
    · subst hk0
      have e : pace 0 = 0 := by decide
      rw [e, Nat.mul_zero]
      unfold qw
      rw [if_pos rfl]
      exact mul_zero_right (read_fw bd.1 bd.2 (by omega))
    · have hpos : d.natAbs * k ≠ 0 := by
        have := Nat.mul_pos (show 0 < d.natAbs by omega) (show 0 < k by omega); omega
      unfold pace qw
      rw [if_neg hk0, if_neg hpos]
      refine mul_quarter (by omega) (by omega) ?_
      have : d.natAbs * k ≤ 2147483648 * 15 := Nat.mul_le_mul hd (by omega)
      omega

/-- What math.Round makes of the word b, as its text reckons it: r. -/
def RoundsTo (b r : Nat) : Prop :=
  (bits .and .u64 ((b : Int) / 4503599627370496) 2047 < 1023 ∧ (bits .and .u64 ((b : Int) / 4503599627370496) 2047 == 1022) = true ∧ r = (bits .or .u64 (bits .and .u64 (b : Int) 9223372036854775808) 4607182418800017408).toNat) ∨
  (bits .and .u64 ((b : Int) / 4503599627370496) 2047 < 1023 ∧ (bits .and .u64 ((b : Int) / 4503599627370496) 2047 == 1022) = false ∧ r = (bits .and .u64 (b : Int) 9223372036854775808).toNat) ∨
  (1023 ≤ bits .and .u64 ((b : Int) / 4503599627370496) 2047 ∧ bits .and .u64 ((b : Int) / 4503599627370496) 2047 < 1075 ∧
    r = (bits .andNot .u64 (IntKind.u64.wrap ((b : Int) + 2251799813685248 / 2 ^ (bits .and .u64 ((b : Int) / 4503599627370496) 2047 - 1023).toNat)) (4503599627370495 / 2 ^ (bits .and .u64 ((b : Int) / 4503599627370496) 2047 - 1023).toNat)).toNat)

theorem expo_nat (b : Nat) (hb : b < 18446744073709551616) : bits .and .u64 ((b : Int) / 4503599627370496) 2047 = ((b / 4503599627370496 % 2048 : Nat) : Int) := by
  have e : (b : Int) / 4503599627370496 = ((b / 4503599627370496 : Nat) : Int) := by omega
  rw [e]
  have h := u64_and_nat (b / 4503599627370496) 2047 (by omega) (by omega)
  rw [show ((2047 : Nat) : Int) = 2047 from rfl] at h
  rw [h]
  congr 1
  exact Nat.and_two_pow_sub_one_eq_mod _ 11

theorem fw_lt (neg : Bool) {e q : Nat} (hq : q < 9007199254740992) (he : e ≤ 2044) : fw neg e q < 18446744073709551616 := by
  unfold fw Format.word; rw [signW]
  cases neg <;> simp <;> omega

theorem expo_fw (neg : Bool) {e q : Nat} (hq1 : 4503599627370496 ≤ q) (hq2 : q < 9007199254740992) (he : e ≤ 2044) : bits .and .u64 ((fw neg e q : Int) / 4503599627370496) 2047 = (e : Int) + 1 := by
  rw [expo_nat _ (fw_lt neg hq2 he)]
  have : fw neg e q / 4503599627370496 % 2048 = e + 1 := by
    unfold fw Format.word; rw [signW]
    cases neg <;> simp <;> omega
  rw [this]; omega

theorem and_top (x : Nat) : x &&& 2 ^ 63 = if x.testBit 63 then 2 ^ 63 else 0 := by
  apply Nat.eq_of_testBit_eq
  intro i
  rw [Nat.testBit_and, Nat.testBit_two_pow]
  by_cases h : 63 = i
  · subst h
    cases hx : x.testBit 63
    · simp
    · decide
  · have h2 : decide (63 = i) = false := decide_eq_false h
    rw [h2, Bool.and_false]
    split
    · rw [Nat.testBit_two_pow, h2]
    · simp

theorem sign_and (neg : Bool) (r : Nat) (hr : r < 9223372036854775808) : bits .and .u64 ((double.word neg r : Nat) : Int) 9223372036854775808 = ((double.word neg 0 : Nat) : Int) := by
  have hw : double.word neg r < 18446744073709551616 := by
    unfold Format.word; rw [signW]; cases neg <;> simp <;> omega
  have h := u64_and_nat (double.word neg r) 9223372036854775808 hw (by omega)
  rw [show ((9223372036854775808 : Nat) : Int) = 9223372036854775808 from rfl] at h
  rw [h]
  congr 1
  rw [show 9223372036854775808 = 2 ^ 63 from rfl, and_top]
  unfold Format.word; rw [signW]
  cases neg
  · simp only [Bool.false_eq_true, if_false]
    rw [Nat.testBit_lt_two_pow hr]; rfl
  · simp only [if_true]
    rw [show 9223372036854775808 = 2 ^ 63 from rfl, Nat.testBit_two_pow_add_eq, Nat.testBit_lt_two_pow hr]; rfl

theorem half_shr : ∀ j, j < 52 → (2251799813685248 : Nat) / 2 ^ j = 2 ^ (51 - j) := by decide +kernel
theorem mask_shr : ∀ j, j < 53 → (4503599627370495 : Nat) / 2 ^ j = 2 ^ (52 - j) - 1 := by decide +kernel

/-- The low c bits struck. -/
theorem clear_low (a c : Nat) (ha : a < 18446744073709551616) (hc : c ≤ 64) : a &&& (18446744073709551615 - (2 ^ c - 1)) = a / 2 ^ c * 2 ^ c := by
  have e1 : 18446744073709551615 - (2 ^ c - 1) = (2 ^ (64 - c) - 1) <<< c := by
    rw [Nat.shiftLeft_eq, Nat.sub_mul, ← Nat.pow_add, show 64 - c + c = 64 by omega]
    have := Nat.two_pow_pos c
    omega
  rw [e1, ← Nat.shiftRight_eq_div_pow, ← Nat.shiftLeft_eq]
  apply Nat.eq_of_testBit_eq
  intro i
  rw [Nat.testBit_and, Nat.testBit_shiftLeft, Nat.testBit_shiftLeft, Nat.testBit_two_pow_sub_one, Nat.testBit_shiftRight]
  by_cases h : c ≤ i
  · have e2 : c + (i - c) = i := by omega
    simp only [h, decide_true, Bool.true_and, e2]
    by_cases h64 : i < 64
    · have : i - c < 64 - c := by omega
      simp [this]
    · have : a.testBit i = false := Nat.testBit_lt_two_pow (Nat.lt_of_lt_of_le ha (show 18446744073709551616 ≤ 2 ^ i from Nat.pow_le_pow_right (n := 2) (i := 64) (by decide) (by omega)))
      simp [this]
  · simp [h]

theorem toInt_fw {neg : Bool} {e q Q c : Nat} (hq1 : 4503599627370496 ≤ q) (hq2 : q < 9007199254740992) (he : e + c = 1074) (hc : c ≤ 54) (hQ : q = Q * 2 ^ c) (hQ2 : Q < 4611686018427387904) :
    floatToIntVal .f64 (fw neg e q) .i64 = some (if neg then -(Q : Int) else Q) := by
  have hl : q.log2 = 52 := log2_of (by omega) (by omega)
  have hp := Nat.two_pow_pos c
  unfold floatToIntVal
  have hr : FloatKind.f64.decode (fw neg e q) = .number neg q ((e : Int) - 1074) := read_fw hq1 hq2 (by omega)
  rw [hr]
  have e1 : ((e : Int) - 1074).toNat = 0 := by omega
  have e2 : (-((e : Int) - 1074)).toNat = c := by omega
  have hcut : Toward.zero.cut neg (q <<< ((e : Int) - 1074).toNat) (-((e : Int) - 1074)).toNat = Q := by
    rw [e1, e2, Nat.shiftLeft_zero]
    unfold Toward.cut
    rw [hl, Nat.min_eq_left (by omega), Nat.one_shiftLeft]
    simp only [Bool.toNat_false, Nat.add_zero]
    rw [hQ, Nat.mul_div_cancel _ hp]
  simp only [Datum.toInt, Datum.integral]
  rw [hcut]
  simp only [signed, Nat.shiftLeft_zero]
  cases neg
  · simp only [Bool.false_eq_true, if_false]
    rw [if_pos (by simp [IntKind.min, IntKind.max, IntKind.signed, IntKind.bits]; omega)]
  · simp only [if_true]
    rw [if_pos (by simp [IntKind.min, IntKind.max, IntKind.signed, IntKind.bits]; omega)]

theorem toInt_zero (neg : Bool) : floatToIntVal .f64 (double.word neg 0) .i64 = some 0 := by cases neg <;> decide +kernel

theorem round_small (neg : Bool) (M : Nat) (hM : M < 4) : ∃ r, RoundsTo (qw neg M) r ∧ floatToIntVal .f64 r .i64 = some (if neg then -(((M + 2) / 4 : Nat) : Int) else ((M + 2) / 4 : Nat)) := by
  have h : M = 0 ∨ M = 1 ∨ M = 2 ∨ M = 3 := by omega
  rcases h with rfl | rfl | rfl | rfl <;> cases neg
  · exact ⟨_, .inr (.inl ⟨by decide +kernel, by decide +kernel, rfl⟩), by decide +kernel⟩
  · exact ⟨_, .inr (.inl ⟨by decide +kernel, by decide +kernel, rfl⟩), by decide +kernel⟩
  · exact ⟨_, .inr (.inl ⟨by decide +kernel, by decide +kernel, rfl⟩), by decide +kernel⟩
  · exact ⟨_, .inr (.inl ⟨by decide +kernel, by decide +kernel, rfl⟩), by decide +kernel⟩
  · exact ⟨_, .inl ⟨by decide +kernel, by decide +kernel, rfl⟩, by decide +kernel⟩
  · exact ⟨_, .inl ⟨by decide +kernel, by decide +kernel, rfl⟩, by decide +kernel⟩
  · exact ⟨_, .inl ⟨by decide +kernel, by decide +kernel, rfl⟩, by decide +kernel⟩
  · exact ⟨_, .inl ⟨by decide +kernel, by decide +kernel, rfl⟩, by decide +kernel⟩

/-- The middle way of math.Round: what the sum and the struck bits come to. -/
theorem round_sum (neg : Bool) (M L : Nat) (h2 : 2 ≤ L) (h3 : L ≤ 52) :
    (fw neg (L + 1020) (M * 2 ^ (52 - L)) + 2 ^ (53 - L)) / 2 ^ (54 - L) * 2 ^ (54 - L) = fw neg (L + 1020) ((M + 2) / 4 * 2 ^ (54 - L)) := by
  obtain ⟨P, hP⟩ : ∃ P, P = 2 ^ (52 - L) := ⟨_, rfl⟩
  obtain ⟨D, hD⟩ : ∃ D, D = 2 ^ (L - 2) := ⟨_, rfl⟩
  have p1 : 2 ^ (53 - L) = 2 * P := by rw [hP, show 53 - L = (52 - L) + 1 by omega, Nat.pow_succ]; omega
  have p2 : 2 ^ (54 - L) = 4 * P := by rw [hP, show 54 - L = (52 - L) + 2 by omega, Nat.pow_add]; omega
  have p3 : 4503599627370496 = D * (4 * P) := by
    rw [← p2, hD, ← Nat.pow_add, show L - 2 + (54 - L) = 52 by omega]
  have hPp : 0 < 4 * P := by rw [hP]; have := Nat.two_pow_pos (52 - L); omega
  rw [p1, p2, ← hP]
  unfold fw Format.word
  rw [signW]
  have p4 : 9223372036854775808 = 2048 * D * (4 * P) := by rw [Nat.mul_assoc, ← p3]
  have key : ∀ A : Nat, (A * (4 * P) + (M + 2) * P) / (4 * P) * (4 * P) = A * (4 * P) + (M + 2) / 4 * (4 * P) := by
    intro A
    rw [Nat.add_comm, Nat.add_mul_div_right _ _ hPp, Nat.mul_div_mul_right _ _ (show 0 < P by omega), Nat.add_mul, Nat.add_comm]
  cases neg
  · simp only [Bool.false_eq_true, if_false]
    have e : (L + 1020) * 4503599627370496 + M * P + 2 * P = ((L + 1020) * D) * (4 * P) + (M + 2) * P := by
      rw [p3, Nat.add_mul M 2 P, ← Nat.mul_assoc, Nat.add_assoc]
    rw [e, key, p3, Nat.mul_assoc (L + 1020)]
  · simp only [if_true]
    have e : 9223372036854775808 + ((L + 1020) * 4503599627370496 + M * P) + 2 * P = (2048 * D + (L + 1020) * D) * (4 * P) + (M + 2) * P := by
      rw [p4, p3, Nat.add_mul M 2 P, Nat.add_mul (2048 * D), ← Nat.mul_assoc (L + 1020)]; omega
    rw [e, key, p4, p3, Nat.add_mul (2048 * D), ← Nat.mul_assoc (L + 1020)]; omega

theorem wrap_u64 (x : Int) (h0 : 0 ≤ x) (h1 : x < 18446744073709551616) : IntKind.u64.wrap x = x := by
  have e : IntKind.u64.wrap x = x % 18446744073709551616 := by simp [IntKind.wrap, IntKind.signed, IntKind.bits]
  rw [e]; omega

theorem round_mid (neg : Bool) (M : Nat) (hM : 4 ≤ M) (hM2 : M < 1099511627776) : ∃ r, RoundsTo (qw neg M) r ∧ floatToIntVal .f64 r .i64 = some (if neg then -(((M + 2) / 4 : Nat) : Int) else ((M + 2) / 4 : Nat)) := by
  have h0 : M ≠ 0 := by omega
  have hl1 := Nat.log2_self_le h0
  have hl2 := @Nat.lt_log2_self M
  have hb := sig_bounds (show 0 < M by omega) (by omega)
  have hL1 : 2 ≤ M.log2 := (Nat.le_log2 h0).2 (by omega)
  have hL2 : M.log2 ≤ 39 := by
    have h2 : 2 ^ M.log2 < 2 ^ 40 := Nat.lt_of_le_of_lt hl1 (by omega)
    have := (Nat.pow_lt_pow_iff_right (by omega : 1 < 2)).1 h2
    omega
  obtain ⟨L, hL⟩ : ∃ L, L = M.log2 := ⟨_, rfl⟩
  have hs : sig M = M * 2 ^ (52 - L) := by rw [hL]; rfl
  have hq : qw neg M = fw neg (L + 1020) (sig M) := by unfold qw; rw [if_neg h0, hL]
  rw [← hL] at hl1 hl2 hL1 hL2
  clear hL
  have hE := expo_fw neg hb.1 hb.2 (show L + 1020 ≤ 2044 by omega)
  rw [← hq] at hE
  have hlt : qw neg M < 18446744073709551616 := by rw [hq]; exact fw_lt neg hb.2 (by omega)
  have hj : (((L + 1020 : Nat) : Int) + 1 - 1023).toNat = L - 2 := by omega
  have hhalf : (2251799813685248 : Int) / 2 ^ (L - 2) = ((2 ^ (53 - L) : Nat) : Int) := by
    have h := half_shr (L - 2) (by omega)
    rw [show 51 - (L - 2) = 53 - L by omega] at h
    rw [← h]; simp
  have hmask : (4503599627370495 : Int) / 2 ^ (L - 2) = ((2 ^ (54 - L) - 1 : Nat) : Int) := by
    have h := mask_shr (L - 2) (by omega)
    rw [show 52 - (L - 2) = 54 - L by omega] at h
    rw [← h]; simp
  have hp53 : 2 ^ (53 - L) ≤ 2251799813685248 := Nat.pow_le_pow_right (n := 2) (j := 51) (by decide) (by omega)
  have hp54 : 2 ^ (54 - L) ≤ 4503599627370496 := Nat.pow_le_pow_right (n := 2) (j := 52) (by decide) (by omega)
  have hsum : qw neg M + 2 ^ (53 - L) < 18446744073709551616 := by
    rw [hq]
    have : fw neg (L + 1020) (sig M) < 16140901064495857664 := by
      unfold fw Format.word; rw [signW]
      cases neg <;> simp <;> omega
    omega
  have hsumI : ((qw neg M + 2 ^ (53 - L) : Nat) : Int) < 18446744073709551616 := by
    generalize qw neg M + 2 ^ (53 - L) = S at hsum
    omega
  refine ⟨fw neg (L + 1020) ((M + 2) / 4 * 2 ^ (54 - L)), .inr (.inr ⟨?_, ?_, ?_⟩), ?_⟩
  · rw [hE]; omega
  · rw [hE]; omega
  · rw [hE, hj, hhalf, hmask, ← Int.natCast_add, wrap_u64 _ (Int.natCast_nonneg _) hsumI]
    rw [u64_andNot_nat _ _ hsum (by omega), clear_low _ _ hsum (by omega), hq, hs, round_sum neg M L (by omega) (by omega)]
    rfl
  · have hQ1 : 2 ^ (L - 2) ≤ (M + 2) / 4 := by
      have : 2 ^ L = 2 ^ (L - 2) * 4 := by rw [show L = L - 2 + 2 by omega, Nat.pow_add]; simp
      omega
    have hQ2 : (M + 2) / 4 ≤ 2 ^ (L - 1) := by
      have : 2 ^ (L + 1) = 2 ^ (L - 1) * 4 := by rw [show L + 1 = L - 1 + 2 by omega, Nat.pow_add]
      omega
    have e1 : 2 ^ (L - 2) * 2 ^ (54 - L) = 4503599627370496 := by rw [← Nat.pow_add, show L - 2 + (54 - L) = 52 by omega]
    have e2 : 2 ^ (L - 1) * 2 ^ (54 - L) = 9007199254740992 := by rw [← Nat.pow_add, show L - 1 + (54 - L) = 53 by omega]
    have e3 : 2 ^ (L - 1) * 2 ^ (53 - L) = 4503599627370496 := by rw [← Nat.pow_add, show L - 1 + (53 - L) = 52 by omega]
    have hlo : 4503599627370496 ≤ (M + 2) / 4 * 2 ^ (54 - L) := by rw [← e1]; exact Nat.mul_le_mul_right _ hQ1
    by_cases hc : (M + 2) / 4 = 2 ^ (L - 1)
    · have hfw : fw neg (L + 1020) ((M + 2) / 4 * 2 ^ (54 - L)) = fw neg (L + 1021) 4503599627370496 := by
        unfold fw
        have h9 : (L + 1020) * 4503599627370496 + 9007199254740992 = (L + 1021) * 4503599627370496 + 4503599627370496 := by omega
        rw [hc, e2, h9]
      rw [hfw]
      exact toInt_fw (c := 53 - L) (by omega) (by omega) (by omega) (by omega) (by rw [hc]; exact e3.symm) (by omega)
    · have hhi : (M + 2) / 4 * 2 ^ (54 - L) < 9007199254740992 := by
        rw [← e2]; exact Nat.mul_lt_mul_of_pos_right (by omega) (Nat.two_pow_pos _)
      exact toInt_fw (c := 54 - L) hlo hhi (by omega) (by omega) rfl (by omega)

/-- A whole number of quarters, rounded by math.Round and made an int64: the nearest whole number, halves away from zero. -/
theorem round_quarter (neg : Bool) (M : Nat) (hM2 : M < 1099511627776) : ∃ r, RoundsTo (qw neg M) r ∧ floatToIntVal .f64 r .i64 = some (if neg then -(((M + 2) / 4 : Nat) : Int) else ((M + 2) / 4 : Nat)) := by
  by_cases h : M < 4
  · exact round_small neg M h
  · exact round_mid neg M (by omega) hM2

end Go.Proofs.Ybulkczmq.Fl
