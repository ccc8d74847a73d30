/-
  Closeness: v is r up to a relative error of c * eta. Pure arithmetic over Rat.
-/
import Derived.Test.Qxb6617533aOps
namespace Go.Proofs.Qxb6617533a

/-- v = r * (1 + d), -c*η ≤ d ≤ c*η -/
def Cl (η : Rat) (c : Nat) (v r : Rat) : Prop := ∃ d, v = r * (1 + d) ∧ -((c : Rat) * η) ≤ d ∧ d ≤ (c : Rat) * η
/-- what η is: at least eps, at most 2^-31 -/
def Eta (η : Rat) : Prop := eps ≤ η ∧ η ≤ p2 (-31)

theorem p2_m31 : p2 (-31) = 1 / 2147483648 := by decide +kernel
theorem eta_pos {η : Rat} (h : Eta η) : 0 < η := by have := eps_pos; unfold Eta at h; grind
theorem eta_small {η : Rat} (h : Eta η) : η * 2147483648 ≤ 1 := by
  have h2 := h.2
  rw [p2_m31] at h2
  grind
theorem ceta {η : Rat} (h : Eta η) (c : Nat) (hc : c ≤ 100) : (c : Rat) * η ≤ 1 / 2 ∧ 0 ≤ (c : Rat) * η := by
  have h1 := eta_small h
  have h0 := eta_pos h
  have hcr : (c : Rat) ≤ 100 := by exact_mod_cast hc
  have hm := Rat.mul_le_mul_of_nonneg_right hcr (Rat.le_of_lt h0)
  exact ⟨by grind, Rat.mul_nonneg Rat.natCast_nonneg (Rat.le_of_lt h0)⟩

theorem cl_refl {η : Rat} (_h : Eta η) (v : Rat) : Cl η 0 v v := ⟨0, by grind, by simp, by simp⟩
theorem cl_rnd {η : Rat} (h : Eta η) {v z : Rat} (hr : Rnd v z) : Cl η 1 v z := by
  obtain ⟨d, e, h1, h2⟩ := hr
  have := h.1
  exact ⟨d, e, by grind, by grind⟩
theorem cl_mono {η : Rat} (h : Eta η) {c c' : Nat} {v r : Rat} (hcl : Cl η c v r) (hc : c ≤ c') : Cl η c' v r := by
  obtain ⟨d, e, h1, h2⟩ := hcl
  have h0 := eta_pos h
  have hcr : (c : Rat) ≤ (c' : Rat) := by exact_mod_cast hc
  have hm := Rat.mul_le_mul_of_nonneg_right hcr (Rat.le_of_lt h0)
  exact ⟨d, e, by grind, by grind⟩
theorem cl_neg {η : Rat} {c : Nat} {v r : Rat} (hcl : Cl η c v r) : Cl η c (-v) (-r) := by
  obtain ⟨d, e, h1, h2⟩ := hcl
  exact ⟨d, by grind, h1, h2⟩

/-- a product of two small errors is a smaller one -/
theorem prod_small {η d1 d2 : Rat} {c1 c2 : Nat} (h : Eta η) (h1 : c1 ≤ 100) (h2 : c2 ≤ 100) (a1 : -((c1 : Rat) * η) ≤ d1) (b1 : d1 ≤ (c1 : Rat) * η) (a2 : -((c2 : Rat) * η) ≤ d2) (b2 : d2 ≤ (c2 : Rat) * η) :
    -(η / 4) ≤ d1 * d2 ∧ d1 * d2 ≤ η / 4 := by
  have h0 := eta_pos h
  have hs := eta_small h
  obtain ⟨e1, e1'⟩ := ceta h c1 h1
  obtain ⟨e2, e2'⟩ := ceta h c2 h2
  have hc1 : (c1 : Rat) ≤ 100 := by exact_mod_cast h1
  have hc2 : (c2 : Rat) ≤ 100 := by exact_mod_cast h2
  -- (c1 η)(c2 η) ≤ η
  have hbig : ((c1 : Rat) * η) * ((c2 : Rat) * η) ≤ η / 4 := by
    have m1 : ((c1 : Rat) * η) * ((c2 : Rat) * η) ≤ (100 * η) * ((c2 : Rat) * η) := Rat.mul_le_mul_of_nonneg_right (Rat.mul_le_mul_of_nonneg_right hc1 (Rat.le_of_lt h0)) e2'
    have m2 : (100 * η) * ((c2 : Rat) * η) ≤ (100 * η) * (100 * η) := Rat.mul_le_mul_of_nonneg_left (Rat.mul_le_mul_of_nonneg_right hc2 (Rat.le_of_lt h0)) (by grind)
    have m3 : (10000 * η) * η ≤ 1 / 4 * η := Rat.mul_le_mul_of_nonneg_right (by grind) (Rat.le_of_lt h0)
    grind
  generalize (c1 : Rat) * η = p at *
  generalize (c2 : Rat) * η = q at *
  have k1 := Rat.mul_nonneg (show 0 ≤ p - d1 by grind) (show 0 ≤ q - d2 by grind)
  have k2 := Rat.mul_nonneg (show 0 ≤ p + d1 by grind) (show 0 ≤ q + d2 by grind)
  have k3 := Rat.mul_nonneg (show 0 ≤ p - d1 by grind) (show 0 ≤ q + d2 by grind)
  have k4 := Rat.mul_nonneg (show 0 ≤ p + d1 by grind) (show 0 ≤ q - d2 by grind)
  constructor <;> grind

theorem cl_mul {η : Rat} (h : Eta η) {c1 c2 : Nat} {v1 r1 v2 r2 : Rat} (h1 : c1 ≤ 100) (h2 : c2 ≤ 100) (k1 : Cl η c1 v1 r1) (k2 : Cl η c2 v2 r2) : Cl η (c1 + c2 + 1) (v1 * v2) (r1 * r2) := by
  obtain ⟨d1, e1, a1, b1⟩ := k1
  obtain ⟨d2, e2, a2, b2⟩ := k2
  obtain ⟨p1, p2⟩ := prod_small h h1 h2 a1 b1 a2 b2
  refine ⟨d1 + d2 + d1 * d2, by rw [e1, e2]; grind, ?_, ?_⟩
  · rw [Rat.natCast_add, Rat.natCast_add]; grind
  · rw [Rat.natCast_add, Rat.natCast_add]; grind
theorem cl_trans {η : Rat} (h : Eta η) {c1 c2 : Nat} {v z r : Rat} (h1 : c1 ≤ 100) (h2 : c2 ≤ 100) (k1 : Cl η c1 v z) (k2 : Cl η c2 z r) : Cl η (c1 + c2 + 1) v r := by
  obtain ⟨d1, e1, a1, b1⟩ := k1
  obtain ⟨d2, e2, a2, b2⟩ := k2
  obtain ⟨p1, p2⟩ := prod_small h h1 h2 a1 b1 a2 b2
  refine ⟨d1 + d2 + d1 * d2, by rw [e1, e2]; grind, ?_, ?_⟩
  · rw [Rat.natCast_add, Rat.natCast_add]; grind
  · rw [Rat.natCast_add, Rat.natCast_add]; grind
/-- 1/(1+d) is 1 + d' -/
theorem cl_inv {η : Rat} (h : Eta η) {c : Nat} {v r : Rat} (hc : c ≤ 99) (k : Cl η c v r) (hr : r ≠ 0) : v ≠ 0 ∧ Cl η (c + 1) (v⁻¹) (r⁻¹) := by
  obtain ⟨d, e, a, b⟩ := k
  have h0 := eta_pos h
  have hs := eta_small h
  obtain ⟨e1, e1'⟩ := ceta h c (by omega)
  have hpos : 0 < 1 + d := by grind
  have hne : 1 + d ≠ 0 := Rat.ne_of_gt hpos
  have hv : v ≠ 0 := by
    rw [e]; intro h
    rcases Rat.mul_eq_zero.mp h with h | h
    · exact hr h
    · exact hne h
  refine ⟨hv, (1 + d)⁻¹ - 1, ?_, ?_, ?_⟩
  · rw [e]; grind
  all_goals
    have hi : (1 + d)⁻¹ * (1 + d) = 1 := Rat.inv_mul_cancel _ hne
    have hcc : (c : Rat) * η * ((c : Rat) * η) ≤ η / 4 := (prod_small h (by omega : c ≤ 100) (by omega : c ≤ 100) (by grind) (Rat.le_refl) (by grind) (Rat.le_refl)).2
    rw [Rat.natCast_add]
    have hq : ((c : Rat) + ((1 : Nat) : Rat)) * η = (c : Rat) * η + η := by grind
    rw [hq]
    have m3 : (c : Rat) * η * η ≤ 1 / 2 * η := Rat.mul_le_mul_of_nonneg_right e1 (Rat.le_of_lt h0)
    clear hq
    generalize (c : Rat) * η = p at *
  · have m1 := Rat.mul_nonneg (show 0 ≤ p + η by grind) (show 0 ≤ p + d by grind)
    have k : (1 - (p + η)) * (1 + d) ≤ (1 + d)⁻¹ * (1 + d) := by rw [hi]; grind
    have k2 := Rat.le_of_mul_le_mul_right k hpos
    grind
  · have m1 := Rat.mul_nonneg (show 0 ≤ p + η by grind) (show 0 ≤ p + d by grind)
    have k : (1 + d)⁻¹ * (1 + d) ≤ (1 + (p + η)) * (1 + d) := by rw [hi]; grind
    have k2 := Rat.le_of_mul_le_mul_right k hpos
    grind
theorem cl_div {η : Rat} (h : Eta η) {c1 c2 : Nat} {v1 r1 v2 r2 : Rat} (h1 : c1 ≤ 99) (h2 : c2 ≤ 99) (k1 : Cl η c1 v1 r1) (k2 : Cl η c2 v2 r2) (hr : r2 ≠ 0) : v2 ≠ 0 ∧ Cl η (c1 + c2 + 2) (v1 / v2) (r1 / r2) := by
  obtain ⟨hv, k3⟩ := cl_inv h h2 k2 hr
  refine ⟨hv, ?_⟩
  rw [Rat.div_def, Rat.div_def, show c1 + c2 + 2 = c1 + (c2 + 1) + 1 by omega]
  exact cl_mul h (by omega) (by omega) k1 k3

/-! ### the size of what is close -/
theorem cl_size {η : Rat} (h : Eta η) {c : Nat} {v r : Rat} (hc : c ≤ 100) (k : Cl η c v r) : ab v ≤ 2 * ab r ∧ ab r ≤ 2 * ab v := by
  obtain ⟨d, e, a, b⟩ := k
  obtain ⟨e1, e2⟩ := ceta h c hc
  have hp : 1 / 2 ≤ 1 + d := by grind
  have hq : 1 + d ≤ 3 / 2 := by grind
  rw [e, ab_mul, ab_pos_of (show 0 ≤ 1 + d by grind)]
  have hr := ab_nonneg r
  have m1 := Rat.mul_le_mul_of_nonneg_left hp hr
  have m2 := Rat.mul_le_mul_of_nonneg_left hq hr
  constructor <;> grind

/-! ### sums of positive numbers; a whole number taken off -/
theorem eps_eta : Eta eps := ⟨Rat.le_refl, p2_le (by omega)⟩
theorem cl_up {η : Rat} (h : Eta η) {c : Nat} {v r : Rat} (k : Cl eps c v r) : Cl η c v r := by
  obtain ⟨d, e, a, b⟩ := k
  have hm := Rat.mul_le_mul_of_nonneg_left h.1 (show (0 : Rat) ≤ (c : Rat) from Rat.natCast_nonneg)
  exact ⟨d, e, by grind, by grind⟩
theorem cl_of {η : Rat} {c : Nat} {v r : Rat} (hr : 0 < r) (h1 : v - r ≤ (c : Rat) * η * r) (h2 : r - v ≤ (c : Rat) * η * r) : Cl η c v r := by
  have hne : r ≠ 0 := Rat.ne_of_gt hr
  refine ⟨v / r - 1, by grind, ?_, ?_⟩
  · have : (1 - (c : Rat) * η) * r ≤ (v / r) * r := by rw [Rat.div_mul_cancel hne]; grind
    have := Rat.le_of_mul_le_mul_right this hr
    grind
  · have : (v / r) * r ≤ (1 + (c : Rat) * η) * r := by rw [Rat.div_mul_cancel hne]; grind
    have := Rat.le_of_mul_le_mul_right this hr
    grind
theorem cl_dist {η : Rat} {c : Nat} {v r : Rat} (hr : 0 ≤ r) (k : Cl η c v r) : v - r ≤ (c : Rat) * η * r ∧ r - v ≤ (c : Rat) * η * r := by
  obtain ⟨d, e, a, b⟩ := k
  have m1 := Rat.mul_le_mul_of_nonneg_left a hr
  have m2 := Rat.mul_le_mul_of_nonneg_left b hr
  constructor <;> grind
theorem cl_add {η : Rat} {c : Nat} {v1 r1 v2 r2 : Rat} (p1 : 0 ≤ r1) (p2 : 0 ≤ r2) (p : 0 < r1 + r2) (k1 : Cl η c v1 r1) (k2 : Cl η c v2 r2) : Cl η c (v1 + v2) (r1 + r2) := by
  obtain ⟨a1, b1⟩ := cl_dist p1 k1
  obtain ⟨a2, b2⟩ := cl_dist p2 k2
  exact cl_of p (by grind) (by grind)
/-- the sum S is known to c * eps; K (1 or 2) is taken off -/
theorem cl_less {η A : Rat} {c : Nat} {w S r : Rat} (j : Nat) (hA : 0 < A) (hη : η * A = eps * (A + 1)) (hS : 0 ≤ S) (hr : r = S - (j : Rat)) (hj : 1 ≤ j) (hle : A ≤ r) (k : Cl eps c w S) : Cl η (c * j) (w - (j : Rat)) r := by
  have hrp : 0 < r := by grind
  obtain ⟨a, b⟩ := cl_dist hS k
  have hjr : (1 : Rat) ≤ (j : Rat) := by exact_mod_cast hj
  have he := eps_pos
  -- eps * (r + 1) ≤ η * r
  have key : eps * (r + 1) ≤ η * r := by
    have hηp : 0 ≤ η - eps := by
      have : (η - eps) * A = eps := by grind
      have h0 : 0 * A ≤ (η - eps) * A := by rw [this]; grind
      exact Rat.le_of_mul_le_mul_right h0 hA
    have := Rat.mul_le_mul_of_nonneg_left hle hηp
    grind
  have key2 : eps * S ≤ (j : Rat) * (η * r) := by
    have m1 := Rat.mul_le_mul_of_nonneg_left key (show (0 : Rat) ≤ (j : Rat) by grind)
    have m2 := Rat.mul_nonneg (Rat.mul_nonneg (show (0 : Rat) ≤ (j : Rat) - 1 by grind) (Rat.le_of_lt he)) (Rat.le_of_lt hrp)
    have e : eps * S = (j : Rat) * (eps * (r + 1)) - ((j : Rat) - 1) * eps * r := by grind
    rw [e]
    generalize ((j : Rat) - 1) * eps * r = q1 at *
    generalize (j : Rat) * (eps * (r + 1)) = q2 at *
    generalize (j : Rat) * (η * r) = q3 at *
    grind
  have key3 := Rat.mul_le_mul_of_nonneg_left key2 (show (0 : Rat) ≤ (c : Rat) from Rat.natCast_nonneg)
  refine cl_of hrp ?_ ?_
  · rw [Rat.natCast_mul]; grind
  · rw [Rat.natCast_mul]; grind
end Go.Proofs.Qxb6617533a
