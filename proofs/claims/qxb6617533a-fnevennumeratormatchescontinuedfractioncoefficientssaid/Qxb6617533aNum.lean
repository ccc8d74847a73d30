/-
  The rational value of a float64's bits, and what 'nearest' does to it. No Go in sight: over Ieee.Word alone.
-/
import Ieee.Arith
namespace Go.Proofs.Qxb6617533a
open Ieee

/-! ### powers of two -/
def p2 (e : Int) : Rat := (2 : Rat) ^ e
theorem two_ne : (2 : Rat) ≠ 0 := by decide
theorem p2_pos (e : Int) : 0 < p2 e := Rat.zpow_pos (by decide)
theorem p2_add (a b : Int) : p2 (a + b) = p2 a * p2 b := Rat.zpow_add two_ne a b
theorem p2_nat (n : Nat) : p2 (n : Int) = ((2 ^ n : Nat) : Rat) := by
  unfold p2
  rw [Rat.zpow_natCast, Rat.natCast_pow]; rfl
theorem p2_zero : p2 0 = 1 := Rat.zpow_zero _
theorem p2_one : p2 1 = 2 := Rat.zpow_one _
theorem p2_nat_ge (n : Nat) : 1 ≤ p2 (n : Int) := by
  rw [p2_nat]
  have : 1 ≤ 2 ^ n := Nat.one_le_two_pow
  exact_mod_cast this
theorem p2_le {a b : Int} (h : a ≤ b) : p2 a ≤ p2 b := by
  obtain ⟨n, rfl⟩ : ∃ n : Nat, b = a + n := ⟨(b - a).toNat, by omega⟩
  rw [p2_add]
  have h1 := p2_nat_ge n
  have h2 := Rat.mul_le_mul_of_nonneg_left h1 (Rat.le_of_lt (p2_pos a))
  rwa [Rat.mul_one] at h2
theorem p2_sub_mul (a b : Int) : p2 (a - b) * p2 b = p2 a := by rw [← p2_add]; congr 1; omega

/-! ### the value of a word -/
def sg (s : Bool) : Rat := if s then -1 else 1
def dv (s : Bool) (m : Nat) (e : Int) : Rat := sg s * ((m : Rat) * p2 e)
def IsVal (w : Nat) (r : Rat) : Prop := ∃ s m e, double.read w = .number s m e ∧ -1074 ≤ e ∧ r = dv s m e

theorem binade_eq : double.binade = 4503599627370496 := rfl
theorem sign_eq : double.signWeight = 9223372036854775808 := rfl
theorem inf_eq : double.infRung = 9218868437227405312 := rfl
theorem least_eq : double.leastPlace = -1074 := rfl

theorem read_word (neg : Bool) (rung : Nat) (h : rung < 9218868437227405312) :
    double.read (double.word neg rung) = if rung < 4503599627370496 then .number neg rung (-1074) else .number neg (4503599627370496 + rung % 4503599627370496) (-1074 + ((rung / 4503599627370496 - 1 : Nat) : Int)) := by
  unfold Format.read Format.word
  rw [binade_eq, sign_eq, inf_eq, least_eq]
  cases neg
  · simp only [Bool.false_eq_true, if_false]
    have e1 : rung / 9223372036854775808 % 2 = 0 := by omega
    have e2 : rung % 9223372036854775808 = rung := by omega
    rw [e1, e2]
    simp only [if_pos h]
    rfl
  · simp only [if_true]
    have e1 : (9223372036854775808 + rung) / 9223372036854775808 % 2 = 1 := by omega
    have e2 : (9223372036854775808 + rung) % 9223372036854775808 = rung := by omega
    rw [e1, e2]
    simp only [if_pos h]
    rfl

/-- a rung's value -/
theorem rung_val (neg : Bool) (L kept : Nat) (hL : L ≤ 2044) (hk : kept ≤ 9007199254740992) (hs : kept < 4503599627370496 → L = 0) :
    ∃ M E, double.read (double.word neg (min (L * 4503599627370496 + kept) 9218868437227405312)) = .number neg M E ∧ -1074 ≤ E ∧ (M : Rat) * p2 E = (kept : Rat) * p2 ((L : Int) - 1074) := by
  have hlt : L * 4503599627370496 + kept < 9218868437227405312 := by omega
  rw [Nat.min_eq_left (by omega), read_word neg _ hlt]
  by_cases h1 : kept < 4503599627370496
  · have h0 := hs h1
    subst h0
    rw [if_pos (by omega)]
    exact ⟨_, _, rfl, by omega, by rw [show 0 * 4503599627370496 + kept = kept by omega]; rfl⟩
  · rw [if_neg (by omega)]
    by_cases h2 : kept < 9007199254740992
    · have e1 : (L * 4503599627370496 + kept) % 4503599627370496 = kept - 4503599627370496 := by omega
      have e2 : (L * 4503599627370496 + kept) / 4503599627370496 - 1 = L := by omega
      rw [e1, e2]
      refine ⟨_, _, rfl, by omega, ?_⟩
      rw [show 4503599627370496 + (kept - 4503599627370496) = kept by omega, show (-1074 : Int) + (L : Nat) = (L : Int) - 1074 by omega]
    · obtain rfl : kept = 9007199254740992 := by omega
      have e1 : (L * 4503599627370496 + 9007199254740992) % 4503599627370496 = 0 := by omega
      have e2 : (L * 4503599627370496 + 9007199254740992) / 4503599627370496 - 1 = L + 1 := by omega
      rw [e1, e2]
      refine ⟨_, _, rfl, by omega, ?_⟩
      rw [show (-1074 : Int) + ((L + 1 : Nat) : Int) = ((L : Int) - 1074) + 1 by omega, p2_add, p2_one]
      have : ((4503599627370496 + 0 : Nat) : Rat) * 2 = ((9007199254740992 : Nat) : Rat) := by rw [show (9007199254740992 : Nat) = (4503599627370496 + 0) * 2 from rfl, Rat.natCast_mul]; rfl
      rw [← this]
      grind

/-- the cut to the nearest whole number -/
theorem cut_even (neg : Bool) (n drop : Nat) (h : drop ≤ n.log2 + 2) :
    (Toward.even.cut neg n drop = n / 2 ^ drop ∨ Toward.even.cut neg n drop = n / 2 ^ drop + 1) ∧
    2 * (Toward.even.cut neg n drop * 2 ^ drop) ≤ 2 * n + 2 ^ drop ∧ 2 * n ≤ 2 * (Toward.even.cut neg n drop * 2 ^ drop) + 2 ^ drop := by
  have hp : 0 < 2 ^ drop := Nat.two_pow_pos _
  unfold Toward.cut
  rw [Nat.min_eq_left h, Nat.shiftLeft_eq, Nat.one_mul]
  dsimp only
  have hdm := Nat.div_add_mod n (2 ^ drop)
  have hml := Nat.mod_lt n hp
  generalize n / 2 ^ drop = q at *
  generalize n % 2 ^ drop = r at *
  generalize 2 ^ drop = g at *
  cases hb : (decide (g < 2 * r) || g == 2 * r && q % 2 == 1)
  · simp only [Bool.toNat_false, Nat.add_zero, true_or, true_and]
    simp only [Bool.or_eq_false_iff, decide_eq_false_iff_not] at hb
    have h1 := hb.1
    rw [Nat.mul_comm] at hdm
    constructor <;> omega
  · simp only [Bool.toNat_true, or_true, true_and]
    have h1 : g ≤ 2 * r := by
      simp only [Bool.or_eq_true, decide_eq_true_eq, Bool.and_eq_true, beq_iff_eq] at hb
      omega
    rw [Nat.mul_comm] at hdm
    rw [Nat.add_mul, Nat.one_mul]
    constructor <;> omega
theorem cut_zero_drop (neg : Bool) (n : Nat) : Toward.even.cut neg n 0 = n := by
  have h := cut_even neg n 0 (by omega)
  simp only [Nat.pow_zero, Nat.mul_one, Nat.div_one] at h
  omega

/-! ### nearest -/
theorem pow_log (n : Nat) (h : n ≠ 0) : 2 ^ n.log2 ≤ n := Nat.log2_self_le h
theorem lt_pow_log (n : Nat) : n < 2 ^ (n.log2 + 1) := Nat.lt_log2_self

/-- WHAT 'nearest' GIVES: exactly the number, where its last place is kept; else within half a unit of the last place kept. -/
theorem nearest_spec (neg : Bool) (mag : Nat) (place : Int) (h0 : mag ≠ 0) (hbig : place + mag.log2 ≤ 1022) (hsm : -1074 ≤ place ∨ -1022 ≤ place + mag.log2) :
    ∃ M E, double.read (double.nearest neg mag place) = .number neg M E ∧ -1074 ≤ E ∧
      (M : Rat) * p2 E - (mag : Rat) * p2 place ≤ p2 (-53) * ((mag : Rat) * p2 place) ∧ (mag : Rat) * p2 place - (M : Rat) * p2 E ≤ p2 (-53) * ((mag : Rat) * p2 place) ∧
      (mag < 9007199254740992 → -1074 ≤ place → (M : Rat) * p2 E = (mag : Rat) * p2 place) := by
  have hlo := pow_log mag h0
  have hhi := lt_pow_log mag
  have hmp : (0 : Rat) ≤ (mag : Rat) * p2 place := Rat.mul_nonneg Rat.natCast_nonneg (Rat.le_of_lt (p2_pos _))
  have hpp : 0 ≤ p2 (-53) * ((mag : Rat) * p2 place) := Rat.mul_nonneg (Rat.le_of_lt (p2_pos _)) hmp
  unfold Format.nearest
  rw [if_neg h0, binade_eq, inf_eq, least_eq]
  have ef : ((double.fractionBits : Nat) : Int) = 52 := rfl
  rw [ef]
  dsimp only
  obtain ⟨last, hlast⟩ : ∃ last, last = max (place + (mag.log2 : Int) - 52) (-1074) := ⟨_, rfl⟩
  rw [← hlast]
  obtain ⟨L, hL⟩ : ∃ L : Nat, L = (last - -1074).toNat := ⟨_, rfl⟩
  rw [← hL]
  have hLe : (L : Int) - 1074 = last := by omega
  by_cases hpl : last ≤ place
  · -- every digit is kept
    have e1 : (last - place).toNat = 0 := by omega
    rw [e1, cut_zero_drop, Nat.shiftLeft_eq]
    obtain ⟨d, hd⟩ : ∃ d : Nat, d = (place - last).toNat := ⟨_, rfl⟩
    rw [← hd]
    have hlt : mag * 2 ^ d < 9007199254740992 := by
      have hd52 : d + mag.log2 ≤ 52 := by omega
      have h1 : mag * 2 ^ d < 2 ^ (mag.log2 + 1) * 2 ^ d := Nat.mul_lt_mul_of_pos_right hhi (Nat.two_pow_pos _)
      rw [← Nat.pow_add] at h1
      have h2 : 2 ^ (mag.log2 + 1 + d) ≤ 2 ^ 53 := Nat.pow_le_pow_right (by decide) (by omega)
      omega
    have hs : mag * 2 ^ d < 4503599627370496 → L = 0 := by
      intro hlt2
      rcases (show last = -1074 ∨ last = place + (mag.log2 : Int) - 52 by omega) with h | h
      · omega
      · exfalso
        have hd52 : d + mag.log2 = 52 := by omega
        have h1 : 2 ^ mag.log2 * 2 ^ d ≤ mag * 2 ^ d := Nat.mul_le_mul_right _ hlo
        rw [← Nat.pow_add, show mag.log2 + d = 52 by omega] at h1
        omega
    obtain ⟨M, E, hr, hE, hv⟩ := rung_val neg L (mag * 2 ^ d) (by omega) (by omega) hs
    have hval : (M : Rat) * p2 E = (mag : Rat) * p2 place := by
      rw [hv, hLe, Rat.natCast_mul, ← p2_nat, Rat.mul_assoc, ← p2_add, show (d : Int) + last = place by omega]
    refine ⟨M, E, hr, hE, ?_, ?_, fun _ _ => hval⟩
    · rw [hval]; grind
    · rw [hval]; grind
  · -- some digits are dropped: then the number is normal
    have hl2 : last = place + (mag.log2 : Int) - 52 := by omega
    have e1 : (place - last).toNat = 0 := by omega
    rw [e1, Nat.shiftLeft_eq, Nat.pow_zero, Nat.mul_one]
    obtain ⟨d, hd⟩ : ∃ d : Nat, d = (last - place).toNat := ⟨_, rfl⟩
    rw [← hd]
    have hdl : d + 52 = mag.log2 := by omega
    obtain ⟨hk, c1, c2⟩ := cut_even neg mag d (by omega)
    obtain ⟨kept, hkept⟩ : ∃ k, k = Toward.even.cut neg mag d := ⟨_, rfl⟩
    rw [← hkept] at hk c1 c2 ⊢
    have q1 : 4503599627370496 ≤ mag / 2 ^ d := by
      rw [Nat.le_div_iff_mul_le (Nat.two_pow_pos _)]
      have : 2 ^ 52 * 2 ^ d ≤ mag := by rw [← Nat.pow_add, show 52 + d = mag.log2 by omega]; exact hlo
      exact this
    have q2 : mag / 2 ^ d < 9007199254740992 := by
      rw [Nat.div_lt_iff_lt_mul (Nat.two_pow_pos _)]
      have : mag < 2 ^ 53 * 2 ^ d := by rw [← Nat.pow_add, show 53 + d = mag.log2 + 1 by omega]; exact hhi
      exact this
    obtain ⟨M, E, hr, hE, hv⟩ := rung_val neg L kept (by omega) (by omega) (by omega)
    -- in units of the place
    have hv2 : (M : Rat) * p2 E = ((kept * 2 ^ d : Nat) : Rat) * p2 place := by
      rw [hv, hLe, Rat.natCast_mul, ← p2_nat, Rat.mul_assoc, ← p2_add, show (d : Int) + place = last by omega]
    have hhalf : ((2 ^ d : Nat) : Rat) = p2 (-52) * ((2 ^ mag.log2 : Nat) : Rat) := by
      rw [← p2_nat, ← p2_nat, ← p2_add]; congr 1; omega
    have h53 : p2 (-52) = 2 * p2 (-53) := by
      rw [show (-52 : Int) = 1 + -53 by omega, p2_add, p2_one]
    have hlog : ((2 ^ mag.log2 : Nat) : Rat) ≤ (mag : Rat) := by exact_mod_cast hlo
    have c1r : 2 * ((kept * 2 ^ d : Nat) : Rat) ≤ 2 * (mag : Rat) + ((2 ^ d : Nat) : Rat) := by exact_mod_cast c1
    have c2r : 2 * (mag : Rat) ≤ 2 * ((kept * 2 ^ d : Nat) : Rat) + ((2 ^ d : Nat) : Rat) := by exact_mod_cast c2
    have hu := p2_pos (-53)
    have hb := Rat.mul_le_mul_of_nonneg_left hlog (Rat.le_of_lt hu)
    have hP := Rat.le_of_lt (p2_pos place)
    refine ⟨M, E, hr, hE, ?_, ?_, ?_⟩
    · rw [hv2]
      have k1 : ((kept * 2 ^ d : Nat) : Rat) - (mag : Rat) ≤ p2 (-53) * (mag : Rat) := by rw [hhalf, h53] at c1r; grind
      have k2 := Rat.mul_le_mul_of_nonneg_right k1 hP
      grind
    · rw [hv2]
      have k1 : (mag : Rat) - ((kept * 2 ^ d : Nat) : Rat) ≤ p2 (-53) * (mag : Rat) := by rw [hhalf, h53] at c2r; grind
      have k2 := Rat.mul_le_mul_of_nonneg_right k1 hP
      grind
    · intro hm hp
      exfalso
      have h1 : 2 ^ 53 ≤ 2 ^ mag.log2 := Nat.pow_le_pow_right (by decide) (by omega)
      omega
end Go.Proofs.Qxb6617533a
