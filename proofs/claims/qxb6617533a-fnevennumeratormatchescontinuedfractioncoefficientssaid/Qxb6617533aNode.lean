/-
  A float64 whose value is close to an exact number and lies within known powers of two; what the operations make of such.
-/
import Derived.Test.Qxb6617533aClose
import Derived.Test.Qxb6617533aConv
namespace Go.Proofs.Qxb6617533a
open Ieee

def Node (η : Rat) (w : Nat) (r : Rat) (c : Nat) (lo hi : Int) : Prop := ∃ v, IsVal w v ∧ Cl η c v r ∧ (v = 0 ∨ p2 lo ≤ ab v) ∧ ab v ≤ p2 hi

theorem rnd_size {v z : Rat} (h : Rnd v z) : ab v ≤ 2 * ab z ∧ ab z ≤ 2 * ab v := cl_size eps_eta (by omega) (cl_rnd eps_eta h)
theorem p2_succ (e : Int) : p2 (e + 1) = 2 * p2 e := by rw [p2_add, p2_one]; grind
theorem p2_pred (e : Int) : 2 * p2 (e - 1) = p2 e := by have := p2_succ (e - 1); rw [show e - 1 + 1 = e by omega] at this; exact this.symm

theorem node_rnd {η : Rat} (h : Eta η) {w c : Nat} {v z r : Rat} {lo hi : Int} (hc : c ≤ 100) (hv : IsVal w v) (hr : Rnd v z) (k : Cl η c z r) (hl : z = 0 ∨ p2 lo ≤ ab z) (hh : ab z ≤ p2 hi) : Node η w r (c + 2) (lo - 1) (hi + 1) := by
  obtain ⟨s1, s2⟩ := rnd_size hr
  refine ⟨v, hv, ?_, ?_, ?_⟩
  · rw [show c + 2 = 1 + c + 1 by omega]
    exact cl_trans h (by omega) hc (cl_rnd h hr) k
  · rcases hl with hl | hl
    · left
      obtain ⟨d, e, _, _⟩ := hr
      rw [e, hl, Rat.zero_mul]
    · right
      have := p2_pred lo
      grind
  · rw [p2_succ]; grind
theorem node_exact {η : Rat} (h : Eta η) {w : Nat} {v : Rat} {lo hi : Int} (hv : IsVal w v) (hl : v = 0 ∨ p2 lo ≤ ab v) (hh : ab v ≤ p2 hi) : Node η w v 0 lo hi := ⟨v, hv, cl_refl h v, hl, hh⟩
theorem node_neg {η : Rat} {w c : Nat} {r : Rat} {lo hi : Int} (n : Node η w r c lo hi) : Node η (Op.negFloat .f64 w) (-r) c lo hi := by
  obtain ⟨v, hv, k, hl, hh⟩ := n
  refine ⟨-v, neg_spec hv, cl_neg k, ?_, by rw [ab_neg]; exact hh⟩
  rcases hl with hl | hl
  · left; rw [hl]; rfl
  · right; rw [ab_neg]; exact hl

theorem mul_p2_le {x y : Rat} {a b : Int} (hx : ab x ≤ p2 a) (hy : ab y ≤ p2 b) : ab (x * y) ≤ p2 (a + b) := by
  rw [ab_mul, p2_add]
  exact Rat.le_trans (Rat.mul_le_mul_of_nonneg_right hx (ab_nonneg y)) (Rat.mul_le_mul_of_nonneg_left hy (Rat.le_of_lt (p2_pos a)))
theorem mul_p2_ge {x y : Rat} {a b : Int} (hx : x = 0 ∨ p2 a ≤ ab x) (hy : y = 0 ∨ p2 b ≤ ab y) : x * y = 0 ∨ p2 (a + b) ≤ ab (x * y) := by
  rcases hx with hx | hx
  · left; rw [hx, Rat.zero_mul]
  · rcases hy with hy | hy
    · left; rw [hy, Rat.mul_zero]
    · right
      rw [ab_mul, p2_add]
      exact Rat.le_trans (Rat.mul_le_mul_of_nonneg_right hx (Rat.le_of_lt (p2_pos b))) (Rat.mul_le_mul_of_nonneg_left hy (ab_nonneg x))
theorem node_mul {η : Rat} (h : Eta η) {x y c1 c2 : Nat} {r1 r2 : Rat} {l1 h1 l2 h2 : Int} (n1 : Node η x r1 c1 l1 h1) (n2 : Node η y r2 c2 l2 h2)
    (hc : c1 + c2 + 1 ≤ 100) (hlo : -1022 ≤ l1 + l2) (hhi : h1 + h2 ≤ 1022) : ∃ w, floatBits .mul .f64 x y = some w ∧ Node η w (r1 * r2) (c1 + c2 + 3) (l1 + l2 - 1) (h1 + h2 + 1) := by
  obtain ⟨v1, hv1, k1, a1, b1⟩ := n1
  obtain ⟨v2, hv2, k2, a2, b2⟩ := n2
  have hb := mul_p2_le b1 b2
  have hl := mul_p2_ge a1 a2
  obtain ⟨w, v, hw, hv, hr⟩ := mul_spec hv1 hv2 (Rat.le_trans hb (p2_le hhi)) (by
    rcases hl with hl | hl
    · exact .inl hl
    · exact .inr (Rat.le_trans (p2_le hlo) hl))
  exact ⟨w, hw, node_rnd h (c := c1 + c2 + 1) hc hv hr (cl_mul h (by omega) (by omega) k1 k2) hl hb⟩
theorem ab_div_mul {x y : Rat} (hy : y ≠ 0) : ab (x / y) * ab y = ab x := by rw [← ab_mul, Rat.div_mul_cancel hy]
theorem node_div {η : Rat} (h : Eta η) {x y c1 c2 : Nat} {r1 r2 : Rat} {l1 h1 l2 h2 : Int} (n1 : Node η x r1 c1 l1 h1) (n2 : Node η y r2 c2 l2 h2) (hr2 : r2 ≠ 0)
    (hc : c1 + c2 + 2 ≤ 99) (hlo : -1020 ≤ l1 - h2) (hhi : h1 - l2 ≤ 1020) : ∃ w, floatBits .quo .f64 x y = some w ∧ Node η w (r1 / r2) (c1 + c2 + 4) (l1 - h2 - 1) (h1 - l2 + 1) := by
  obtain ⟨v1, hv1, k1, a1, b1⟩ := n1
  obtain ⟨v2, hv2, k2, a2, b2⟩ := n2
  obtain ⟨hv0, k3⟩ := cl_div h (c1 := c1) (c2 := c2) (by omega) (by omega) k1 k2 hr2
  have hge : p2 l2 ≤ ab v2 := by
    rcases a2 with a2 | a2
    · exact absurd a2 hv0
    · exact a2
  have hpos : 0 < ab v2 := Std.lt_of_lt_of_le (p2_pos l2) hge
  have e := ab_div_mul (x := v1) hv0
  have hb : ab (v1 / v2) ≤ p2 (h1 - l2) := by
    refine Rat.le_of_mul_le_mul_right (c := ab v2) ?_ hpos
    rw [e]
    have := Rat.mul_le_mul_of_nonneg_left hge (Rat.le_of_lt (p2_pos (h1 - l2)))
    rw [p2_sub_mul] at this
    exact Rat.le_trans b1 this
  have hl : v1 / v2 = 0 ∨ p2 (l1 - h2) ≤ ab (v1 / v2) := by
    rcases a1 with a1 | a1
    · left; rw [a1, Rat.div_def, Rat.zero_mul]
    · right
      refine Rat.le_of_mul_le_mul_right (c := ab v2) ?_ hpos
      rw [e]
      have := Rat.mul_le_mul_of_nonneg_left b2 (Rat.le_of_lt (p2_pos (l1 - h2)))
      rw [p2_sub_mul] at this
      exact Rat.le_trans this a1
  obtain ⟨w, v, hw, hv, hr⟩ := div_spec hv1 hv2 hv0 (Rat.le_trans hb (p2_le hhi)) (by
    rcases a1 with a1 | a1
    · exact .inl a1
    · rcases hl with hl | hl
      · left
        have : v1 / v2 * v2 = 0 := by rw [hl, Rat.zero_mul]
        rwa [Rat.div_mul_cancel hv0] at this
      · exact .inr (Rat.le_trans (p2_le hlo) hl))
  exact ⟨w, hw, node_rnd h (c := c1 + c2 + 2) (by omega) hv hr k3 hl hb⟩

/-! ### sums -/
/-- a positive number, known to c*η, rounded: bounds off the exact one -/
theorem node_pos {η : Rat} (h : Eta η) {w c : Nat} {v z r : Rat} {lo hi : Int} (hc : c ≤ 98) (hv : IsVal w v) (hr : Rnd v z) (k : Cl η c z r) (hr0 : p2 lo ≤ r) (hr1 : r ≤ p2 hi) : Node η w r (c + 2) (lo - 2) (hi + 2) := by
  have hrp : 0 ≤ r := Rat.le_trans (Rat.le_of_lt (p2_pos lo)) hr0
  obtain ⟨s1, s2⟩ := cl_size h (by omega) k
  rw [ab_pos_of hrp] at s1 s2
  have := node_rnd h (lo := lo - 1) (hi := hi + 1) (by omega) hv hr k (.inr (by have := p2_pred lo; grind)) (by rw [p2_succ]; grind)
  rwa [show lo - 1 - 1 = lo - 2 by omega, show hi + 1 + 1 = hi + 2 by omega] at this

theorem p2_big {z : Rat} (h : ab z ≤ 1099511627776) : ab z ≤ p2 1022 := by
  have e : p2 40 = 1099511627776 := by decide +kernel
  have := p2_le (show (40 : Int) ≤ 1022 by omega)
  grind
end Go.Proofs.Qxb6617533a
