/-
  PLAIN LAWS ON binary64, no Go in sight: how the model's words are ordered, that rounding keeps the order, that small whole numbers are exact.
-/
import Ieee.Arith
namespace Go.Proofs.Youanw.Fl
open Ieee

/-! ### rounding, over natural numbers of units of 2^-1074 -/

/-- 'n / 2^d', to the nearest, ties to even. -/
def re (n d : Nat) : Nat :=
  n / 2 ^ d + (decide (2 ^ d < 2 * (n % 2 ^ d)) || (decide (2 ^ d = 2 * (n % 2 ^ d)) && decide ((n / 2 ^ d) % 2 = 1))).toNat

theorem cut_even (neg : Bool) (n d : Nat) (h : d ≤ n.log2 + 2) : Toward.even.cut neg n d = re n d := by
  unfold Toward.cut re
  have e : min d (n.log2 + 2) = d := Nat.min_eq_left h
  simp only [e, Nat.one_shiftLeft]
  congr 2

theorem re_le (n d : Nat) : re n d ≤ n / 2 ^ d + 1 := by
  unfold re
  have := Bool.toNat_le (decide (2 ^ d < 2 * (n % 2 ^ d)) || (decide (2 ^ d = 2 * (n % 2 ^ d)) && decide ((n / 2 ^ d) % 2 = 1)))
  omega

theorem le_re (n d : Nat) : n / 2 ^ d ≤ re n d := by unfold re; omega

theorem re_zero (n : Nat) : re n 0 = n := by
  unfold re
  simp [Nat.mod_one]

theorem re_mono (d : Nat) {n n' : Nat} (h : n ≤ n') : re n d ≤ re n' d := by
  have hp : 0 < 2 ^ d := Nat.two_pow_pos d
  have hq : n / 2 ^ d ≤ n' / 2 ^ d := Nat.div_le_div_right h
  by_cases he : n / 2 ^ d = n' / 2 ^ d
  · have h1 := Nat.div_add_mod n (2 ^ d)
    have h2 := Nat.div_add_mod n' (2 ^ d)
    unfold re
    rw [he] at h1 ⊢
    have hr : n % 2 ^ d ≤ n' % 2 ^ d := by omega
    generalize n % 2 ^ d = r at *
    generalize n' % 2 ^ d = r' at *
    generalize n' / 2 ^ d = q at *
    generalize 2 ^ d = g at *
    by_cases a : g < 2 * r
    · have b : g < 2 * r' := by omega
      simp [a, b]
    · by_cases b : g = 2 * r
      · by_cases c : g < 2 * r'
        · have := Bool.toNat_le (decide (g < 2 * r) || (decide (g = 2 * r) && decide (q % 2 = 1)))
          simp only [c, decide_true, Bool.true_or, Bool.toNat_true]; omega
        · have d : r = r' := by omega
          subst d; exact Nat.le_refl _
      · simp [a, b]
  · have := re_le n d
    have := le_re n' d
    omega

/-- An exact quotient is not rounded. -/
theorem re_exact (q d : Nat) : re (q * 2 ^ d) d = q := by
  have hp : 0 < 2 ^ d := Nat.two_pow_pos d
  unfold re
  rw [Nat.mul_div_cancel _ hp, Nat.mul_mod_left]
  simp

theorem re_scale (n d k : Nat) : re (n * 2 ^ k) (d + k) = re n d := by
  have hp : 0 < 2 ^ k := Nat.two_pow_pos k
  unfold re
  have e1 : n * 2 ^ k / 2 ^ (d + k) = n / 2 ^ d := by
    rw [Nat.pow_add]; exact Nat.mul_div_mul_right _ _ hp
  have e2 : n * 2 ^ k % 2 ^ (d + k) = n % 2 ^ d * 2 ^ k := by
    rw [Nat.pow_add]; exact Nat.mul_mod_mul_right _ _ _
  rw [e1, e2]
  have e3 : (2 ^ (d + k) < 2 * (n % 2 ^ d * 2 ^ k)) ↔ (2 ^ d < 2 * (n % 2 ^ d)) := by
    rw [Nat.pow_add, ← Nat.mul_assoc]; exact Nat.mul_lt_mul_right hp
  have e4 : (2 ^ (d + k) = 2 * (n % 2 ^ d * 2 ^ k)) ↔ (2 ^ d = 2 * (n % 2 ^ d)) := by
    rw [Nat.pow_add, ← Nat.mul_assoc]
    exact ⟨fun h => Nat.eq_of_mul_eq_mul_right hp h, fun h => congrArg (· * 2 ^ k) h⟩
  simp only [e3, e4]

/-- The rung of 'v' units, unbounded. -/
def rung0 (v : Nat) : Nat := if v = 0 then 0 else (v.log2 - 52) * 2 ^ 52 + re v (v.log2 - 52)

theorem rung0_mono {v v' : Nat} (h : v ≤ v') : rung0 v ≤ rung0 v' := by
  unfold rung0
  by_cases h0 : v = 0
  · simp [h0]
  · have h0' : v' ≠ 0 := by omega
    rw [if_neg h0, if_neg h0']
    have b1 := Nat.log2_self_le h0
    have b2 := @Nat.lt_log2_self v
    have b1' := Nat.log2_self_le h0'
    have b2' := @Nat.lt_log2_self v'
    have hl : v.log2 ≤ v'.log2 := by
      have : 2 ^ v.log2 < 2 ^ (v'.log2 + 1) := by omega
      have := (Nat.pow_lt_pow_iff_right (by omega : 1 < 2)).1 this
      omega
    by_cases he : v.log2 = v'.log2
    · rw [he]; exact Nat.add_le_add_left (re_mono _ h) _
    · have hlt : v.log2 < v'.log2 := by omega
      by_cases hs : v'.log2 ≤ 52
      · have e : v.log2 - 52 = 0 := by omega
        have e' : v'.log2 - 52 = 0 := by omega
        rw [e, e', re_zero, re_zero]; omega
      · -- v' has D' ≥ 1 and q' ≥ 2^52
        have q' : 2 ^ 52 ≤ v' / 2 ^ (v'.log2 - 52) := by
          rw [Nat.le_div_iff_mul_le (Nat.two_pow_pos _), ← Nat.pow_add]
          have : 52 + (v'.log2 - 52) = v'.log2 := by omega
          rw [this]; exact b1'
        have l' := le_re v' (v'.log2 - 52)
        have q : re v (v.log2 - 52) ≤ 2 ^ 53 := by
          by_cases hv : v.log2 < 52
          · have e : v.log2 - 52 = 0 := by omega
            rw [e, re_zero]
            have : 2 ^ (v.log2 + 1) ≤ 2 ^ 53 := Nat.pow_le_pow_right (by omega) (by omega)
            omega
          · have : v / 2 ^ (v.log2 - 52) < 2 ^ 53 := by
              rw [Nat.div_lt_iff_lt_mul (Nat.two_pow_pos _), ← Nat.pow_add]
              have : 53 + (v.log2 - 52) = v.log2 + 1 := by omega
              rw [this]; exact b2
            have := re_le v (v.log2 - 52)
            omega
        have hd : (v.log2 - 52) + 1 ≤ v'.log2 - 52 ∨ (v.log2 < 52 ∧ v.log2 - 52 = 0) := by omega
        have hmul : ((v.log2 - 52) + 1) * 2 ^ 52 ≤ (v'.log2 - 52) * 2 ^ 52 := Nat.mul_le_mul_right _ (by omega)
        omega

/-- The rung of 'v' units. -/
def rung (v : Nat) : Nat := min (rung0 v) (2047 * 2 ^ 52)

theorem rung_mono {v v' : Nat} (h : v ≤ v') : rung v ≤ rung v' := by
  have := rung0_mono h
  unfold rung; omega

theorem rung_le (v : Nat) : rung v ≤ 2047 * 2 ^ 52 := by unfold rung; omega

theorem nearest_eq (neg : Bool) (mag : Nat) (place : Int) (k : Nat) (h : place = (k : Int) - 1074) :
    double.nearest neg mag place = double.word neg (rung (mag * 2 ^ k)) := by
  unfold Format.nearest rung rung0
  by_cases h0 : mag = 0
  · simp [h0]
  · have hk : mag * 2 ^ k ≠ 0 := Nat.mul_ne_zero h0 (Nat.pos_iff_ne_zero.1 (Nat.two_pow_pos k))
    rw [if_neg h0, if_neg hk]
    have hlog : (mag * 2 ^ k).log2 = mag.log2 + k := by
      rw [Nat.log2_eq_iff hk]
      have b1 := Nat.log2_self_le h0
      have b2 := @Nat.lt_log2_self mag
      constructor
      · rw [Nat.pow_add]; exact Nat.mul_le_mul_right _ b1
      · rw [show mag.log2 + k + 1 = (mag.log2 + 1) + k by omega, Nat.pow_add]
        exact Nat.mul_lt_mul_of_pos_right b2 (Nat.two_pow_pos k)
    have elp : double.leastPlace = -1074 := by decide
    have efb : double.fractionBits = 52 := rfl
    have ebin : double.binade = 2 ^ 52 := rfl
    have einf : double.infRung = 2047 * 2 ^ 52 := by decide
    simp only [elp, efb, ebin, einf, hlog]
    have elast : max (place + (mag.log2 : Int) - ((52 : Nat) : Int)) (-1074) = ((mag.log2 + k - 52 : Nat) : Int) - 1074 := by omega
    rw [elast]
    have e1 : ((((mag.log2 + k - 52 : Nat) : Int) - 1074) - -1074).toNat = mag.log2 + k - 52 := by omega
    have e2 : (place - (((mag.log2 + k - 52 : Nat) : Int) - 1074)).toNat = k - (mag.log2 + k - 52) := by omega
    have e3 : ((((mag.log2 + k - 52 : Nat) : Int) - 1074) - place).toNat = (mag.log2 + k - 52) - k := by omega
    rw [e1, e2, e3]
    congr 3
    generalize hD : mag.log2 + k - 52 = D
    rw [Nat.shiftLeft_eq]
    by_cases hc : D ≤ k
    · have z : D - k = 0 := by omega
      rw [z, cut_even _ _ _ (by omega), re_zero]
      have : mag * 2 ^ k = (mag * 2 ^ (k - D)) * 2 ^ D := by
        rw [Nat.mul_assoc, ← Nat.pow_add]; congr 2; omega
      rw [this, re_exact]
    · have z : k - D = 0 := by omega
      rw [z, Nat.pow_zero, Nat.mul_one, cut_even _ _ _ (by omega)]
      have : D = (D - k) + k := by omega
      conv => rhs; rw [this]
      rw [re_scale]


/-! ### words and what they stand for -/

/-- A magnitude with its sign. -/
def sg (neg : Bool) (n : Nat) : Int := if neg then -(n : Int) else n

theorem signed_eq (s : Bool) (m k : Nat) : signed s m k = sg s (m * 2 ^ k) := by
  unfold signed sg; rw [Nat.shiftLeft_eq]

/-- More units than any number has. -/
def pw (k : Nat) : Nat := 2 ^ k
theorem lt_pw {k n : Nat} (h : k < n) : 2 ^ k < pw n := Nat.pow_lt_pow_right (by omega) h
theorem pw_pos (n : Nat) : 0 < pw n := Nat.two_pow_pos n
def big : Nat := pw 3000

theorem lt_big (k : Nat) (h : k < 3000) : 2 ^ k < big := lt_pw h

theorem big_pos : 0 < big := pw_pos _

/-- The units of a rung; infinity's are more than any number's. -/
def units (r : Nat) : Nat :=
  if r < 2 ^ 52 then r else if r < 2047 * 2 ^ 52 then (2 ^ 52 + r % 2 ^ 52) * 2 ^ (r / 2 ^ 52 - 1) else big

theorem units_lt (r : Nat) (h : r < 2047 * 2 ^ 52) : units r < big := by
  unfold units
  by_cases hs : r < 2 ^ 52
  · have := lt_big 52 (by omega)
    rw [if_pos hs]
    omega
  · have h1 : r % 2 ^ 52 < 2 ^ 52 := Nat.mod_lt _ (Nat.two_pow_pos _)
    have h2 : r / 2 ^ 52 < 2047 := by rw [Nat.div_lt_iff_lt_mul (Nat.two_pow_pos _)]; exact h
    have h3 : (2 ^ 52 + r % 2 ^ 52) * 2 ^ (r / 2 ^ 52 - 1) < 2 ^ 53 * 2 ^ (r / 2 ^ 52 - 1) :=
      Nat.mul_lt_mul_of_pos_right (by omega) (Nat.two_pow_pos _)
    rw [← Nat.pow_add] at h3
    have h4 : 2 ^ (53 + (r / 2 ^ 52 - 1)) < big := lt_big _ (by omega)
    rw [if_neg hs, if_pos h]
    omega

theorem units_le (r : Nat) : units r ≤ big := by
  by_cases h : r < 2047 * 2 ^ 52
  · exact Nat.le_of_lt (units_lt r h)
  · unfold units; rw [if_neg (by omega), if_neg h]; exact Nat.le_refl _

theorem units_mono {r r' : Nat} (h : r ≤ r') : units r ≤ units r' := by
  by_cases hi : r' < 2047 * 2 ^ 52
  · by_cases h1 : r < 2 ^ 52
    · by_cases h2 : r' < 2 ^ 52
      · unfold units; rw [if_pos h1, if_pos h2]; exact h
      · unfold units; rw [if_pos h1, if_neg h2, if_pos hi]
        have : (2 ^ 52 + r' % 2 ^ 52) * 1 ≤ (2 ^ 52 + r' % 2 ^ 52) * 2 ^ (r' / 2 ^ 52 - 1) := Nat.mul_le_mul_left _ (Nat.two_pow_pos _)
        omega
    · have h2 : ¬ r' < 2 ^ 52 := by omega
      unfold units; rw [if_neg h1, if_neg h2, if_pos hi, if_pos (by omega)]
      have hd : r / 2 ^ 52 ≤ r' / 2 ^ 52 := Nat.div_le_div_right h
      have e1 := Nat.div_add_mod r (2 ^ 52)
      have e2 := Nat.div_add_mod r' (2 ^ 52)
      have m1 : r % 2 ^ 52 < 2 ^ 52 := Nat.mod_lt _ (Nat.two_pow_pos _)
      by_cases he : r / 2 ^ 52 = r' / 2 ^ 52
      · rw [he] at e1 ⊢
        exact Nat.mul_le_mul_right _ (by omega)
      · have p1 : 1 ≤ r / 2 ^ 52 := by omega
        generalize r / 2 ^ 52 = a at *
        generalize r' / 2 ^ 52 = a' at *
        calc (2 ^ 52 + r % 2 ^ 52) * 2 ^ (a - 1) ≤ 2 ^ 53 * 2 ^ (a - 1) := Nat.mul_le_mul_right _ (by omega)
          _ = 2 ^ 52 * 2 ^ a := by rw [← Nat.pow_add, ← Nat.pow_add]; congr 1; omega
          _ ≤ 2 ^ 52 * 2 ^ (a' - 1) := Nat.mul_le_mul_left _ (Nat.pow_le_pow_right (by omega) (by omega))
          _ ≤ (2 ^ 52 + r' % 2 ^ 52) * 2 ^ (a' - 1) := Nat.mul_le_mul_right _ (by omega)
  · have : units r' = big := by unfold units; rw [if_neg (by omega), if_neg hi]
    rw [this]; exact units_le r

/-- A datum's place on the line, in units of 2^-1074. -/
def key : Datum → Int
  | .number s m i => sg s (m * 2 ^ (i + 1074).toNat)
  | .infinity s => sg s (big)
  | .nan .. => 0

/-- What every word reads as. -/
def Proper : Datum → Prop
  | .number _ m i => -1074 ≤ i ∧ m * 2 ^ (i + 1074).toNat < big
  | _ => True

theorem read_eq (x : Nat) : double.read x =
    if x % 2 ^ 63 < 2 ^ 52 then .number (x / 2 ^ 63 % 2 == 1) (x % 2 ^ 63) (-1074)
    else if x % 2 ^ 63 < 2047 * 2 ^ 52 then .number (x / 2 ^ 63 % 2 == 1) (2 ^ 52 + x % 2 ^ 63 % 2 ^ 52) (-1074 + ((x % 2 ^ 63 / 2 ^ 52 - 1 : Nat) : Int))
    else if x % 2 ^ 63 = 2047 * 2 ^ 52 then .infinity (x / 2 ^ 63 % 2 == 1) else .nan (x / 2 ^ 63 % 2 == 1) (x % 2 ^ 63 - 2047 * 2 ^ 52) := by
  unfold Format.read
  have elp : double.leastPlace = -1074 := by decide
  have ebin : double.binade = 2 ^ 52 := rfl
  have einf : double.infRung = 2047 * 2 ^ 52 := by decide
  have esw : double.signWeight = 2 ^ 63 := rfl
  rw [elp, ebin, einf, esw]

/-- A word that is no NaN: its sign and its rung say where it lies. -/
theorem read_key (x : Nat) (h : x % 2 ^ 63 ≤ 2047 * 2 ^ 52) :
    (double.read x).isNaN = false ∧ Proper (double.read x) ∧ key (double.read x) = sg (x / 2 ^ 63 % 2 == 1) (units (x % 2 ^ 63)) ∧ (double.read x).neg = (x / 2 ^ 63 % 2 == 1) := by
  rw [read_eq]
  generalize x % 2 ^ 63 = r at *
  generalize (x / 2 ^ 63 % 2 == 1) = s at *
  by_cases h1 : r < 2 ^ 52
  · rw [if_pos h1]
    have hu := units_lt r (by omega)
    have e : units r = r := by unfold units; rw [if_pos h1]
    refine ⟨rfl, ?_, ?_, rfl⟩
    · refine ⟨by omega, ?_⟩
      rw [show ((-1074 : Int) + 1074).toNat = 0 from rfl, Nat.pow_zero, Nat.mul_one]; omega
    · show sg s (r * 2 ^ ((-1074 : Int) + 1074).toNat) = _
      rw [show ((-1074 : Int) + 1074).toNat = 0 from rfl, Nat.pow_zero, Nat.mul_one, e]
  · rw [if_neg h1]
    by_cases h2 : r < 2047 * 2 ^ 52
    · rw [if_pos h2]
      have hu := units_lt r h2
      have e : units r = (2 ^ 52 + r % 2 ^ 52) * 2 ^ (r / 2 ^ 52 - 1) := by unfold units; rw [if_neg h1, if_pos h2]
      have ep : (-1074 + ((r / 2 ^ 52 - 1 : Nat) : Int) + 1074).toNat = r / 2 ^ 52 - 1 := by omega
      refine ⟨rfl, ⟨by omega, ?_⟩, ?_, rfl⟩
      · rw [ep, ← e]; exact hu
      · show sg s ((2 ^ 52 + r % 2 ^ 52) * 2 ^ (-1074 + ((r / 2 ^ 52 - 1 : Nat) : Int) + 1074).toNat) = _
        rw [ep, ← e]
    · have h3 : r = 2047 * 2 ^ 52 := by omega
      rw [if_neg h2, if_pos h3]
      have e : units r = big := by unfold units; rw [if_neg h1, if_neg h2]
      exact ⟨rfl, trivial, by rw [e]; rfl, rfl⟩

theorem read_nan (x : Nat) (h : 2047 * 2 ^ 52 < x % 2 ^ 63) : (double.read x).isNaN = true := by
  rw [read_eq, if_neg (by omega), if_neg (by omega), if_neg (by omega)]; rfl

theorem read_proper (x : Nat) : Proper (double.read x) := by
  by_cases h : x % 2 ^ 63 ≤ 2047 * 2 ^ 52
  · exact (read_key x h).2.1
  · have := read_nan x (by omega)
    revert this
    cases double.read x <;> simp [Datum.isNaN, Proper]

/-- The word of a sign and a rung, read back. -/
theorem read_word (s : Bool) (r : Nat) (h : r ≤ 2047 * 2 ^ 52) :
    (double.read (double.word s r)).isNaN = false ∧ key (double.read (double.word s r)) = sg s (units r) ∧ (double.read (double.word s r)).neg = s := by
  have e : (double.word s r) % 2 ^ 63 = r ∧ ((double.word s r) / 2 ^ 63 % 2 == 1) = s := by
    have esw : double.signWeight = 2 ^ 63 := rfl
    unfold Format.word
    rw [esw]
    cases s
    · simp only [Bool.false_eq_true, if_false]
      exact ⟨by omega, by rw [show r / 2 ^ 63 = 0 by omega]; rfl⟩
    · simp only [if_true]
      exact ⟨by omega, by rw [show (2 ^ 63 + r) / 2 ^ 63 = 1 by omega]; rfl⟩
  have := read_key (double.word s r) (by rw [e.1]; exact h)
  rw [e.1, e.2] at this
  exact ⟨this.1, this.2.2.1, this.2.2.2⟩

theorem sg_mul (s : Bool) (a k : Nat) : sg s (a * k) = sg s a * (k : Int) := by
  unfold sg
  split
  · rw [Int.natCast_mul, Int.neg_mul]
  · rw [Int.natCast_mul]

theorem compare_scale (a b : Int) (k : Nat) (h : 0 < k) : compare (a * (k : Int)) (b * (k : Int)) = compare a b := by
  have hk : (0 : Int) < k := by omega
  rcases Int.lt_trichotomy a b with h1 | h1 | h1
  · rw [Int.compare_eq_lt.2 h1, Int.compare_eq_lt.2 (Int.mul_lt_mul_of_pos_right h1 hk)]
  · subst h1; rw [Int.compare_eq_eq.2 rfl, Int.compare_eq_eq.2 rfl]
  · rw [Int.compare_eq_gt.2 h1, Int.compare_eq_gt.2 (Int.mul_lt_mul_of_pos_right h1 hk)]

theorem base_scale (s : Bool) (m : Nat) (i base : Int) (h1 : -1074 ≤ base) (h2 : base ≤ i) :
    sg s (m * 2 ^ (i + 1074).toNat) = signed s m (i - base).toNat * ((2 ^ (base + 1074).toNat : Nat) : Int) := by
  rw [signed_eq, ← sg_mul, Nat.mul_assoc, ← Nat.pow_add]
  congr 3; omega

theorem order_key {a b : Datum} (ha : a.isNaN = false) (hb : b.isNaN = false) (pa : Proper a) (pb : Proper b) :
    a.order b = some (compare (key a) (key b)) := by
  have hbig : (0 : Int) < (big : Int) := by
    have := big_pos; omega
  cases a with
  | nan => simp [Datum.isNaN] at ha
  | infinity s =>
    cases b with
    | nan => simp [Datum.isNaN] at hb
    | infinity t =>
      simp only [Datum.order, key, sg]
      generalize big = g at *
      cases s <;> cases t <;> simp only [Bool.toNat_true, Bool.toNat_false, if_true, Bool.false_eq_true, if_false]
      · rw [Int.compare_eq_eq.2 rfl]; rfl
      · rw [Int.compare_eq_gt.2 (by omega)]; rfl
      · rw [Int.compare_eq_lt.2 (by omega)]; rfl
      · rw [Int.compare_eq_eq.2 rfl]; rfl
    | number t n j =>
      simp only [Datum.order, key]
      have := pb.2
      have h2 : -(big : Int) < sg t (n * 2 ^ (j + 1074).toNat) ∧ sg t (n * 2 ^ (j + 1074).toNat) < (big : Int) := by
        unfold sg; split <;> omega
      generalize sg t (n * 2 ^ (j + 1074).toNat) = y at *
      generalize big = g at *
      cases s
      · simp only [sg, Bool.false_eq_true, if_false]; rw [Int.compare_eq_gt.2 (by omega)]
      · simp only [sg, if_true]; rw [Int.compare_eq_lt.2 (by omega)]
  | number s m i =>
    cases b with
    | nan => simp [Datum.isNaN] at hb
    | infinity t =>
      simp only [Datum.order, key]
      have := pa.2
      have h2 : -(big : Int) < sg s (m * 2 ^ (i + 1074).toNat) ∧ sg s (m * 2 ^ (i + 1074).toNat) < (big : Int) := by
        unfold sg; split <;> omega
      generalize sg s (m * 2 ^ (i + 1074).toNat) = y at *
      generalize big = g at *
      cases t
      · simp only [sg, Bool.false_eq_true, if_false]; rw [Int.compare_eq_lt.2 (by omega)]
      · simp only [sg, if_true]; rw [Int.compare_eq_gt.2 (by omega)]
    | number t n j =>
      simp only [Datum.order, key]
      have p1 := pa.1
      have p2 := pb.1
      rw [base_scale s m i (min i j) (by omega) (by omega), base_scale t n j (min i j) (by omega) (by omega), compare_scale _ _ _ (Nat.two_pow_pos _)]


/-! ### what the laws use of a word -/

/-- Is the word a NaN? -/
def nan (x : Nat) : Bool := (double.read x).isNaN

/-- Where the word lies. -/
def at_ (x : Nat) : Int := key (double.read x)

theorem order_at {x y : Nat} (hx : nan x = false) (hy : nan y = false) : double.order x y = some (compare (at_ x) (at_ y)) :=
  order_key hx hy (read_proper x) (read_proper y)

theorem order_nan_left {x : Nat} (y : Nat) (hx : nan x = true) : double.order x y = none := by
  unfold nan at hx; unfold Format.order
  revert hx; cases double.read x <;> simp [Datum.isNaN, Datum.order]

theorem order_nan_right (x : Nat) {y : Nat} (hy : nan y = true) : double.order x y = none := by
  unfold nan at hy; unfold Format.order
  revert hy; cases double.read y <;> simp [Datum.isNaN]
  cases double.read x <;> simp [Datum.order]

/-- 'x < y' -/
theorem lt_iff (x y : Nat) : (double.order x y == some .lt) = (!nan x && !nan y && decide (at_ x < at_ y)) := by
  cases hx : nan x
  · cases hy : nan y
    · rw [order_at hx hy]
      by_cases h : at_ x < at_ y
      · rw [Int.compare_eq_lt.2 h]; simp [h]
      · have : compare (at_ x) (at_ y) ≠ .lt := fun e => h (Int.compare_eq_lt.1 e)
        simp [h, this]
    · rw [order_nan_right x hy]; simp
  · rw [order_nan_left y hx]; simp

/-- 'x == y' -/
theorem eq_iff (x y : Nat) : (double.order x y == some .eq) = (!nan x && !nan y && decide (at_ x = at_ y)) := by
  cases hx : nan x
  · cases hy : nan y
    · rw [order_at hx hy]
      by_cases h : at_ x = at_ y
      · rw [Int.compare_eq_eq.2 h]; simp [h]
      · have : compare (at_ x) (at_ y) ≠ .eq := fun e => h (Int.compare_eq_eq.1 e)
        simp [h, this]
    · rw [order_nan_right x hy]; simp
  · rw [order_nan_left y hx]; simp

theorem ne_iff (x y : Nat) : (double.order x y != some .eq) = !(!nan x && !nan y && decide (at_ x = at_ y)) := by
  rw [← eq_iff]; rfl

/-- 'x <= y' -/
theorem le_iff (x y : Nat) : (double.order x y == some .lt || double.order x y == some .eq) = (!nan x && !nan y && decide (at_ x ≤ at_ y)) := by
  rw [lt_iff, eq_iff]
  cases nan x <;> cases nan y <;> simp
  by_cases h : at_ x ≤ at_ y
  · rcases Int.lt_or_eq_of_le h with h1 | h1 <;> simp [h, h1]
  · have h1 : ¬ at_ x < at_ y := by omega
    have h2 : ¬ at_ x = at_ y := by omega
    simp [h, h1, h2]

/-- 'x != x' -/
theorem self_ne (x : Nat) : (double.order x x != some .eq) = nan x := by
  rw [ne_iff]; cases nan x <;> simp

/-! ### sums -/

/-- Is the word a number? -/
def fin (x : Nat) : Bool := !(double.read x).isNaN && !(double.read x).isInfinity

theorem fin_nan {x : Nat} (h : fin x = true) : nan x = false := by
  unfold fin at h; unfold nan; revert h; cases (double.read x).isNaN <;> simp

theorem fin_number {x : Nat} (h : fin x = true) : ∃ s m i, double.read x = .number s m i ∧ -1074 ≤ i := by
  have hp := read_proper x
  revert h hp; unfold fin
  cases double.read x with
  | nan => intro h; simp [Datum.isNaN] at h
  | infinity => intro h; simp [Datum.isInfinity] at h
  | number s m i => intro _ hp; exact ⟨s, m, i, rfl, hp.1⟩

theorem at_bound (x : Nat) : -(big : Int) ≤ at_ x ∧ at_ x ≤ big := by
  have hp := read_proper x
  have hb := big_pos
  revert hp; unfold at_
  cases double.read x with
  | nan => intro _; simp only [key]; omega
  | infinity s => intro _; simp only [key]; cases s <;> simp [sg] <;> omega
  | number s m i => intro h; have := h.2; simp only [key, sg]; split <;> omega

theorem at_fin {x : Nat} (h : fin x = true) : -(big : Int) < at_ x ∧ at_ x < big := by
  obtain ⟨s, m, i, e, _⟩ := fin_number h
  have hp := read_proper x
  unfold at_; rw [e] at hp ⊢
  have := hp.2; simp only [key, sg]; split <;> omega

/-- A whole number of units, rounded: its rung with its sign. -/
def srung (t : Int) : Int := sg (decide (t < 0)) (rung t.natAbs)

/-- Where the nearest word to 't' units lies. -/
def near (t : Int) : Int := sg (decide (t < 0)) (units (rung t.natAbs))

theorem near_mono {t t' : Int} (h : t ≤ t') : near t ≤ near t' := by
  unfold near sg
  by_cases h1 : t < 0
  · by_cases h2 : t' < 0
    · have : units (rung t'.natAbs) ≤ units (rung t.natAbs) := units_mono (rung_mono (by omega))
      simp only [h1, h2, decide_true, if_true]; omega
    · simp only [h1, h2, decide_true, decide_false, if_true, Bool.false_eq_true, if_false]; omega
  · have h2 : ¬ t' < 0 := by omega
    have : units (rung t.natAbs) ≤ units (rung t'.natAbs) := units_mono (rung_mono (by omega))
    simp only [h1, h2, decide_false, Bool.false_eq_true, if_false]; omega

/-- Two numbers added. -/
theorem add_fin {x y : Nat} (hx : fin x = true) (hy : fin y = true) :
    double.add x y = some (double.word (if at_ x + at_ y = 0 then (double.read x).neg && (double.read y).neg else decide (at_ x + at_ y < 0)) (rung (at_ x + at_ y).natAbs)) := by
  obtain ⟨s, m, i, ex, hi⟩ := fin_number hx
  obtain ⟨t, n, j, ey, hj⟩ := fin_number hy
  have kx : at_ x = signed s m (i - min i j).toNat * ((2 ^ (min i j + 1074).toNat : Nat) : Int) := by
    unfold at_; rw [ex]; exact base_scale s m i (min i j) (by omega) (by omega)
  have ky : at_ y = signed t n (j - min i j).toNat * ((2 ^ (min i j + 1074).toNat : Nat) : Int) := by
    unfold at_; rw [ey]; exact base_scale t n j (min i j) (by omega) (by omega)
  rw [kx, ky, ← Int.add_mul]
  unfold Format.add
  rw [ex, ey]
  simp only [Datum.sum, Option.map_some, Format.write, Datum.neg]
  generalize signed s m (i - min i j).toNat + signed t n (j - min i j).toNat = tot
  rw [nearest_eq _ _ _ (min i j + 1074).toNat (by omega)]
  have hp : (0 : Int) < ((2 ^ (min i j + 1074).toNat : Nat) : Int) := by
    have := Nat.two_pow_pos (min i j + 1074).toNat; omega
  have e1 : tot.natAbs * 2 ^ (min i j + 1074).toNat = (tot * ((2 ^ (min i j + 1074).toNat : Nat) : Int)).natAbs := by
    rw [Int.natAbs_mul, Int.natAbs_natCast]
  rw [e1]
  generalize ((2 ^ (min i j + 1074).toNat : Nat) : Int) = g at *
  have e2 : (tot * g = 0) ↔ (tot = 0) := by
    constructor
    · intro h; rcases Int.mul_eq_zero.1 h with h | h
      · exact h
      · omega
    · intro h; rw [h, Int.zero_mul]
  have e3 : (tot * g < 0) ↔ (tot < 0) := by
    constructor
    · intro h
      rcases Int.lt_or_le tot 0 with h1 | h1
      · exact h1
      · have := Int.mul_nonneg h1 (Int.le_of_lt hp); omega
    · intro h; exact Int.mul_neg_of_neg_of_pos h hp
  simp only [e2, e3]

theorem rung_zero : rung 0 = 0 := by decide

/-- A sum of two numbers is no NaN and lies where its rounding lies. -/
theorem add_at {x y : Nat} (hx : fin x = true) (hy : fin y = true) : ∃ r, double.add x y = some r ∧ nan r = false ∧ at_ r = near (at_ x + at_ y) := by
  refine ⟨_, add_fin hx hy, ?_, ?_⟩
  · exact (read_word _ _ (rung_le _)).1
  · unfold at_
    rw [(read_word _ _ (rung_le _)).2.1]
    show _ = near (at_ x + at_ y)
    unfold near
    generalize hT : at_ x + at_ y = T
    have hT' : key (double.read x) + key (double.read y) = T := hT
    rw [hT']
    by_cases h0 : T = 0
    · subst h0
      simp only [if_true, Int.natAbs_zero, rung_zero]
      have : units 0 = 0 := by decide
      rw [this]; unfold sg; split <;> simp
    · simp only [h0, if_false]

/-- An infinity and a number. -/
theorem add_inf {x y : Nat} (hx : nan x = false) (hf : fin x = false) (hy : fin y = true) : ∃ r, double.add x y = some r ∧ nan r = false ∧ at_ r = at_ x := by
  obtain ⟨t, n, j, ey, hj⟩ := fin_number hy
  unfold nan at hx
  unfold fin at hf
  obtain ⟨s, ex⟩ : ∃ s, double.read x = .infinity s := by
    revert hx hf; cases double.read x <;> simp [Datum.isNaN, Datum.isInfinity]
  refine ⟨double.word s (2047 * 2 ^ 52), ?_, (read_word s _ (Nat.le_refl _)).1, ?_⟩
  · unfold Format.add; rw [ex, ey]
    simp only [Datum.sum, Option.map_some, Format.write]
    rw [show double.infRung = 2047 * 2 ^ 52 by decide]
  · unfold at_; rw [(read_word s _ (Nat.le_refl _)).2.1, ex]
    have : units (2047 * 2 ^ 52) = big := by unfold units; rw [if_neg (by decide), if_neg (by decide)]
    rw [this]; rfl

theorem at_inf {x : Nat} (hx : nan x = false) (hf : fin x = false) : at_ x = big ∨ at_ x = -(big : Int) := by
  unfold nan at hx
  unfold fin at hf
  obtain ⟨s, ex⟩ : ∃ s, double.read x = .infinity s := by
    revert hx hf; cases double.read x <;> simp [Datum.isNaN, Datum.isInfinity]
  unfold at_; rw [ex]; cases s <;> simp [key, sg]

/-- A NUMBER ADDED TO WHATEVER IS NO NaN: no NaN comes of it. -/
theorem add_some {x y : Nat} (hx : nan x = false) (hy : fin y = true) : ∃ r, double.add x y = some r ∧ nan r = false := by
  cases hf : fin x
  · obtain ⟨r, h1, h2, _⟩ := add_inf hx hf hy; exact ⟨r, h1, h2⟩
  · obtain ⟨r, h1, h2, _⟩ := add_at hf hy; exact ⟨r, h1, h2⟩

/-- ADDING KEEPS THE ORDER. -/
theorem add_mono {x x' y y' r r' : Nat} (hx : nan x = false) (hx' : nan x' = false) (hy : fin y = true) (hy' : fin y' = true) (h1 : at_ x ≤ at_ x') (h2 : at_ y ≤ at_ y')
    (e : double.add x y = some r) (e' : double.add x' y' = some r') : at_ r ≤ at_ r' := by
  have b := at_bound r
  have b' := at_bound r'
  cases hf : fin x
  · obtain ⟨q, q1, _, q3⟩ := add_inf hx hf hy
    rw [e] at q1; cases q1
    rcases at_inf hx hf with k | k
    · cases hf' : fin x'
      · obtain ⟨q', q1', _, q3'⟩ := add_inf hx' hf' hy'
        rw [e'] at q1'; cases q1'
        rw [q3, q3']; exact h1
      · have := at_fin hf'; omega
    · omega
  · cases hf' : fin x'
    · obtain ⟨q', q1', _, q3'⟩ := add_inf hx' hf' hy'
      rw [e'] at q1'; cases q1'
      rcases at_inf hx' hf' with k | k
      · omega
      · have := at_fin hf; omega
    · obtain ⟨q, q1, _, q3⟩ := add_at hf hy
      rw [e] at q1; cases q1
      obtain ⟨q', q1', _, q3'⟩ := add_at hf' hy'
      rw [e'] at q1'; cases q1'
      rw [q3, q3']; exact near_mono (by omega)

/-- 'x - x' is +0 for a number, and no answer for anything else. -/
theorem sub_self_fin {x : Nat} (h : fin x = true) : double.sub x x = some 0 := by
  obtain ⟨s, m, i, ex, hi⟩ := fin_number h
  unfold Format.sub
  rw [ex]
  have e : signed s m (i - min i i).toNat + signed (!s) m (i - min i i).toNat = 0 := by
    rw [signed_eq, signed_eq]; cases s <;> simp [sg] <;> omega
  simp only [Datum.opposite, Datum.sum, Option.map_some, Format.write, e, if_true, Int.natAbs_zero]
  cases s <;> rfl

theorem sub_self_not {x : Nat} (h : fin x = false) : double.sub x x = none := by
  unfold fin at h
  unfold Format.sub
  revert h
  cases double.read x with
  | nan => intro _; simp [Datum.sum]
  | infinity s => intro _; cases s <;> simp [Datum.opposite, Datum.sum]
  | number => intro h; simp [Datum.isNaN, Datum.isInfinity] at h

theorem nan_zero : nan 0 = false := by decide
theorem at_zero : at_ 0 = 0 := by decide

/-! ### whole numbers -/

/-- 'float64(n)' -/
def ofInt (n : Int) : Nat := double.write (.number (decide (n < 0)) n.natAbs 0)

theorem ofInt_gen (n : Int) (k : Nat) (h : (0 : Int) = (k : Int) - 1074) : ofInt n = double.word (decide (n < 0)) (rung (n.natAbs * pw k)) := by
  unfold ofInt Format.write pw
  exact nearest_eq _ _ _ k h

/-- The units of one: 2^1074. -/
def one : Nat := pw 1074
theorem one_pos : 0 < one := pw_pos _

theorem ofInt_eq (n : Int) : ofInt n = double.word (decide (n < 0)) (rung (n.natAbs * one)) := ofInt_gen n 1074 (by omega)

theorem pw_mul (a k n : Nat) (h : a + k < n) : 2 ^ a * pw k < pw n := by
  unfold pw; rw [← Nat.pow_add]; exact Nat.pow_lt_pow_right (by omega) h

theorem one_def : one = pw 1074 := rfl
theorem big_def : big = pw 3000 := rfl
theorem big_one : 2 ^ 53 * one < big := by rw [one_def, big_def]; exact pw_mul 53 1074 3000 (by omega)

theorem units_rung (m k : Nat) (hm : m < 2 ^ 53) (hk2 : k ≤ 1800) : units (rung (m * pw k)) = m * pw k := by
  unfold pw
  by_cases h0 : m = 0
  · subst h0; rw [Nat.zero_mul]; decide
  · have hne : m * 2 ^ k ≠ 0 := Nat.mul_ne_zero h0 (Nat.pos_iff_ne_zero.1 (Nat.two_pow_pos k))
    have b1 := Nat.log2_self_le h0
    have b2 := @Nat.lt_log2_self m
    have hlog : (m * 2 ^ k).log2 = m.log2 + k := by
      rw [Nat.log2_eq_iff hne]
      constructor
      · rw [Nat.pow_add]; exact Nat.mul_le_mul_right _ b1
      · rw [show m.log2 + k + 1 = (m.log2 + 1) + k by omega, Nat.pow_add]
        exact Nat.mul_lt_mul_of_pos_right b2 (Nat.two_pow_pos k)
    have hl : m.log2 < 53 := by
      have : 2 ^ m.log2 < 2 ^ 53 := by omega
      exact (Nat.pow_lt_pow_iff_right (by omega : 1 < 2)).1 this
    unfold rung rung0
    rw [if_neg hne, hlog]
    generalize hD : m.log2 + k - 52 = D
    have hDk : D ≤ k := by omega
    have esplit : m * 2 ^ k = (m * 2 ^ (k - D)) * 2 ^ D := by
      rw [Nat.mul_assoc, ← Nat.pow_add]; congr 2; omega
    rw [esplit, re_exact]
    generalize hq : m * 2 ^ (k - D) = q
    have q2 : q < 2 ^ 53 := by
      rw [← hq]
      calc m * 2 ^ (k - D) < 2 ^ (m.log2 + 1) * 2 ^ (k - D) := Nat.mul_lt_mul_of_pos_right b2 (Nat.two_pow_pos _)
        _ = 2 ^ (m.log2 + 1 + (k - D)) := by rw [← Nat.pow_add]
        _ ≤ 2 ^ 53 := Nat.pow_le_pow_right (by omega) (by omega)
    by_cases hD0 : D = 0
    · subst hD0
      rw [Nat.zero_mul, Nat.zero_add, Nat.min_eq_left (by omega), Nat.pow_zero, Nat.mul_one]
      unfold units
      by_cases hs : q < 2 ^ 52
      · rw [if_pos hs]
      · rw [if_neg hs, if_pos (by omega), show q / 2 ^ 52 = 1 by omega, show q % 2 ^ 52 = q - 2 ^ 52 by omega]; omega
    · have q1 : 2 ^ 52 ≤ q := by
        rw [← hq]
        calc 2 ^ 52 = 2 ^ (m.log2 + (k - D)) := by congr 1; omega
          _ = 2 ^ m.log2 * 2 ^ (k - D) := by rw [← Nat.pow_add]
          _ ≤ m * 2 ^ (k - D) := Nat.mul_le_mul_right _ b1
      rw [Nat.min_eq_left (by omega)]
      unfold units
      rw [if_neg (by omega), if_pos (by omega), show (D * 2 ^ 52 + q) / 2 ^ 52 = D + 1 by omega, show (D * 2 ^ 52 + q) % 2 ^ 52 = q - 2 ^ 52 by omega]
      rw [show 2 ^ 52 + (q - 2 ^ 52) = q by omega, show D + 1 - 1 = D by omega]

theorem sg_natAbs (n : Int) : sg (decide (n < 0)) n.natAbs = n := by
  unfold sg
  by_cases h1 : n < 0
  · simp only [h1, decide_true, if_true]; omega
  · simp only [h1, decide_false, Bool.false_eq_true, if_false]; omega

theorem ofInt_at (n : Int) (h : n.natAbs < 2 ^ 53) : nan (ofInt n) = false ∧ at_ (ofInt n) = n * (one : Int) ∧ (double.read (ofInt n)).neg = decide (n < 0) := by
  rw [ofInt_eq]
  have hr := read_word (decide (n < 0)) _ (rung_le (n.natAbs * one))
  refine ⟨hr.1, ?_, hr.2.2⟩
  have hu : units (rung (n.natAbs * one)) = n.natAbs * one := by rw [one_def]; exact units_rung n.natAbs 1074 h (by omega)
  unfold at_; rw [hr.2.1, hu]
  rw [sg_mul, sg_natAbs]

theorem ofInt_fin (n : Int) (h : n.natAbs < 2 ^ 53) : fin (ofInt n) = true := by
  have h1 := ofInt_at n h
  cases hf : fin (ofInt n)
  · exfalso
    have hp := one_pos
    have hb := big_one
    have e : (at_ (ofInt n)).natAbs = n.natAbs * one := by rw [h1.2.1, Int.natAbs_mul, Int.natAbs_natCast]
    have e2 : n.natAbs * one < 2 ^ 53 * one := Nat.mul_lt_mul_of_pos_right h hp
    rcases at_inf h1.1 hf with k | k <;> (rw [k] at e; omega)
  · rfl

/-- SMALL WHOLE NUMBERS ADD EXACTLY, bit for bit. -/
theorem ofInt_add (a b : Int) (ha : a.natAbs < 2 ^ 53) (hb : b.natAbs < 2 ^ 53) : double.add (ofInt a) (ofInt b) = some (ofInt (a + b)) := by
  rw [add_fin (ofInt_fin a ha) (ofInt_fin b hb), ofInt_eq (a + b), (ofInt_at a ha).2.1, (ofInt_at b hb).2.1, (ofInt_at a ha).2.2, (ofInt_at b hb).2.2, ← Int.add_mul, Int.natAbs_mul, Int.natAbs_natCast]
  have hp : (0 : Int) < (one : Int) := by have := one_pos; omega
  generalize one = g at *
  congr 2
  by_cases h0 : a + b = 0
  · rw [if_pos (by rw [h0, Int.zero_mul]), h0]
    by_cases h1 : a < 0
    · have : ¬ b < 0 := by omega
      simp [h1, this]
    · simp [h1]
  · have hne : ¬ (a + b) * (g : Int) = 0 := by
      intro h; rcases Int.mul_eq_zero.1 h with h | h <;> omega
    rw [if_neg hne]
    by_cases h1 : a + b < 0
    · have := Int.mul_neg_of_neg_of_pos h1 hp
      simp only [this, h1]
    · have : ¬ (a + b) * (g : Int) < 0 := by
        have := Int.mul_nonneg (show 0 ≤ a + b by omega) (Int.le_of_lt hp); omega
      simp only [this, h1]

theorem ofInt_zero : ofInt 0 = 0 := by decide

end Go.Proofs.Youanw.Fl
