/-
  Comparisons that bound a float, unary minus, int(m) and float64(n), on float64's bits.
-/
import Derived.Test.Qxb6617533aOps
import Derived.Laws.FloatArith
import GoSem.Op.Unary
namespace Go.Proofs.Qxb6617533a
open Ieee

theorem place_ge {w : Nat} {s : Bool} {m : Nat} {e : Int} (h : double.read w = .number s m e) : -1074 ≤ e := by
  unfold Format.read at h
  rw [binade_eq, sign_eq, inf_eq, least_eq] at h
  dsimp only at h
  split at h
  · cases h; omega
  · split at h
    · cases h; omega
    · split at h <;> cases h

theorem ge_spec {x y : Nat} {p q : Rat} (hx : IsVal x p) (hy : IsVal y q) : (double.order x y == some .gt || double.order x y == some .eq) = true ↔ q ≤ p := by
  rw [order_spec hx hy]
  by_cases h1 : p < q
  · rw [if_pos h1]; simp; grind
  · rw [if_neg h1]
    by_cases h2 : p = q
    · rw [if_pos h2]; simp; grind
    · rw [if_neg h2]; simp; grind
theorem le_spec {x y : Nat} {p q : Rat} (hx : IsVal x p) (hy : IsVal y q) : (double.order x y == some .lt || double.order x y == some .eq) = true ↔ p ≤ q := by
  rw [order_spec hx hy]
  by_cases h1 : p < q
  · rw [if_pos h1]; simp; grind
  · rw [if_neg h1]
    by_cases h2 : p = q
    · rw [if_pos h2]; simp; grind
    · rw [if_neg h2]; simp; grind
theorem gt_spec {x y : Nat} {p q : Rat} (hx : IsVal x p) (hy : IsVal y q) : (double.order x y == some .gt) = true ↔ q < p := by
  rw [order_spec hx hy]
  by_cases h1 : p < q
  · rw [if_pos h1]; simp; grind
  · rw [if_neg h1]
    by_cases h2 : p = q
    · rw [if_pos h2]; simp; grind
    · rw [if_neg h2]; simp; grind
theorem lt_spec {x y : Nat} {p q : Rat} (hx : IsVal x p) (hy : IsVal y q) : (double.order x y == some .lt) = true ↔ p < q := by
  rw [order_spec hx hy]
  by_cases h1 : p < q
  · rw [if_pos h1]; simp; grind
  · rw [if_neg h1]
    by_cases h2 : p = q
    · rw [if_pos h2]; simp; grind
    · rw [if_neg h2]; simp; grind
theorem eq_spec {x y : Nat} {p q : Rat} (hx : IsVal x p) (hy : IsVal y q) : (double.order x y == some .eq) = true ↔ p = q := by
  rw [order_spec hx hy]
  by_cases h1 : p < q
  · rw [if_pos h1]; simp; grind
  · rw [if_neg h1]
    by_cases h2 : p = q
    · rw [if_pos h2]; simp; grind
    · rw [if_neg h2]; simp; grind

/-- what lies between two numbers is a number -/
theorem fin_between {x c1 c2 : Nat} {q1 q2 : Rat} (h1 : IsVal c1 q1) (h2 : IsVal c2 q2)
    (g1 : double.order x c1 = some .gt ∨ double.order x c1 = some .eq) (g2 : double.order x c2 = some .lt ∨ double.order x c2 = some .eq) : ∃ p, IsVal x p := by
  obtain ⟨t, n, j, hr, _, _⟩ := h1
  obtain ⟨t', n', j', hr', _, _⟩ := h2
  cases hx : double.read x with
  | number s m e => exact ⟨_, s, m, e, hx, place_ge hx, rfl⟩
  | infinity s =>
    exfalso
    unfold Format.order at g1 g2
    rw [hx, hr] at g1
    rw [hx, hr'] at g2
    cases s <;> simp [Datum.order] at g1 g2
  | nan s k =>
    exfalso
    unfold Format.order at g1
    rw [hx] at g1
    simp [Datum.order] at g1
theorem fin_eq {x c : Nat} {q : Rat} (h1 : IsVal c q) (g : double.order x c = some .eq) : ∃ p, IsVal x p :=
  fin_between h1 h1 (.inr g) (.inr g)

/-! ### unary minus -/
theorem neg_rung (x : Nat) : (x ^^^ 9223372036854775808) % 9223372036854775808 = x % 9223372036854775808 := by
  have h := Nat.xor_mod_two_pow (a := x) (b := 2 ^ 63) (n := 63)
  rw [Nat.mod_self, Nat.xor_zero] at h
  exact h
theorem neg_sign (x : Nat) : ((x ^^^ 9223372036854775808) / 9223372036854775808 % 2 == 1) = !(x / 9223372036854775808 % 2 == 1) := by
  have h := Nat.xor_div_two_pow (a := x) (b := 2 ^ 63) (n := 63)
  have h1 : (2 : Nat) ^ 63 / 2 ^ 63 = 1 := rfl
  rw [h1] at h
  have h2 : (x ^^^ 9223372036854775808) / 9223372036854775808 = x / 9223372036854775808 ^^^ 1 := h
  rw [h2]
  have h3 := Nat.xor_mod_two_eq_one (a := x / 9223372036854775808) (b := 1)
  rw [Bool.eq_iff_iff]
  simp only [beq_iff_eq, Bool.not_eq_true', beq_eq_false_iff_ne, ne_eq]
  rw [h3]
  omega
theorem read_neg (x : Nat) : double.read (x ^^^ 9223372036854775808) = (double.read x).opposite := by
  unfold Format.read
  rw [binade_eq, sign_eq, inf_eq, least_eq]
  rw [neg_rung, neg_sign]
  dsimp only
  split
  · rfl
  · split
    · rfl
    · split <;> rfl
theorem neg_spec {x : Nat} {p : Rat} (hx : IsVal x p) : IsVal (Op.negFloat .f64 x) (-p) := by
  obtain ⟨s, m, e, hr, he, rfl⟩ := hx
  refine ⟨!s, m, e, ?_, he, (dv_not s m e).symm⟩
  show double.read (x ^^^ 9223372036854775808) = _
  rw [read_neg, hr]
  rfl

/-! ### float64(n), exact below 2^53 -/
theorem ofInt_spec (n : Int) (h0 : 0 ≤ n) (h : n < 9007199254740992) : IsVal (floatOfInt .f64 n) (n : Rat) := by
  have hz : (n.natAbs : Rat) * p2 0 = (n.natAbs : Rat) := by rw [p2_zero, Rat.mul_one]
  have hle : (n.natAbs : Rat) ≤ p2 1022 := by
    have h1 : (n.natAbs : Rat) ≤ ((2 ^ 53 : Nat) : Rat) := by
      have : n.natAbs ≤ 2 ^ 53 := by omega
      exact_mod_cast this
    rw [← p2_nat] at h1
    exact Rat.le_trans h1 (p2_le (by omega))
  obtain ⟨v, hv, _, _, he⟩ := write_spec (decide (n < 0)) n.natAbs 0 (fun _ => by rw [hz]; exact hle) (fun _ => .inl (by omega))
  have e := he (by omega) (by omega)
  have e2 := dv_natAbs n 0 (decide (n < 0)) (fun _ => rfl)
  rw [p2_zero, Rat.mul_one] at e2
  rw [e2] at e
  subst e
  exact hv

/-! ### int(m) -/
theorem cut_zero_le (neg : Bool) (n drop : Nat) : Toward.zero.cut neg n drop * 2 ^ drop ≤ n := by
  unfold Toward.cut
  simp only [Bool.toNat_false, Nat.add_zero, Nat.shiftLeft_eq, Nat.one_mul]
  by_cases h : drop ≤ n.log2 + 2
  · rw [Nat.min_eq_left h]; exact Nat.div_mul_le_self _ _
  · rw [Nat.min_eq_right (by omega)]
    have h1 := lt_pow_log n
    have h2 : n / 2 ^ (n.log2 + 2) = 0 := Nat.div_eq_of_lt (Nat.lt_of_lt_of_le h1 (Nat.pow_le_pow_right (by decide) (by omega)))
    rw [h2, Nat.zero_mul]; exact Nat.zero_le _
theorem toInt_spec {x : Nat} {p : Rat} (hx : IsVal x p) (h0 : 0 < p) (h1 : p ≤ 1048576) : ∃ n : Int, floatToIntVal .f64 x .i64 = some n ∧ 0 ≤ n ∧ n ≤ 1048576 := by
  obtain ⟨s, m, e, hr, he, rfl⟩ := hx
  have hs : s = false := by
    cases s
    · rfl
    · exfalso
      have : 0 ≤ (m : Rat) * p2 e := Rat.mul_nonneg Rat.natCast_nonneg (Rat.le_of_lt (p2_pos _))
      unfold dv sg at h0
      simp at h0
      grind
  subst hs
  obtain ⟨k, hk⟩ : ∃ k, k = Toward.zero.cut false (m <<< e.toNat) (-e).toNat := ⟨_, rfl⟩
  have hc := cut_zero_le false (m <<< e.toNat) (-e).toNat
  rw [← hk, Nat.shiftLeft_eq] at hc
  have hkr : (k : Rat) * p2 ((-e).toNat : Int) ≤ (m : Rat) * p2 (e.toNat : Int) := by
    rw [p2_nat, p2_nat]; exact_mod_cast hc
  have hle : (k : Rat) ≤ 1048576 := by
    have e1 : p2 (e.toNat : Int) = p2 ((-e).toNat : Int) * p2 e := by rw [← p2_add]; congr 1; omega
    rw [e1] at hkr
    have hp := p2_pos ((-e).toNat : Int)
    have : (k : Rat) * p2 ((-e).toNat : Int) ≤ ((m : Rat) * p2 e) * p2 ((-e).toNat : Int) := by grind
    have := Rat.le_of_mul_le_mul_right this hp
    have h1' : (m : Rat) * p2 e ≤ 1048576 := by
      unfold dv sg at h1; simpa using h1
    exact Rat.le_trans this h1'
  have hkn : k ≤ 1048576 := by exact_mod_cast hle
  refine ⟨(k : Int), ?_, by omega, by omega⟩
  unfold floatToIntVal
  have : (FloatKind.decode .f64 x).toInt .zero = some (k : Int) := by
    show (double.read x).toInt .zero = _
    rw [hr]
    unfold Datum.toInt Datum.integral
    simp only [← hk, signed, Bool.false_eq_true, if_false, Nat.shiftLeft_zero]
  rw [this]
  have b1 : IntKind.min .i64 = -9223372036854775808 := by decide
  have b2 : IntKind.max .i64 = 9223372036854775807 := by decide
  simp only [b1, b2]
  rw [if_pos (by omega)]
end Go.Proofs.Qxb6617533a
