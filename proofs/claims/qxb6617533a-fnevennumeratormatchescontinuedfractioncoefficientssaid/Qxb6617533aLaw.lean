/-
  The plain law: got and want lie within the tolerance.
-/
import Derived.Test.Qxb6617533aEven
namespace Go.Proofs.Qxb6617533a
open Ieee

theorem val_45 : IsVal 4404520435568345088 (p2 (-45)) := isVal_pow _ _ (by decide +kernel) (by omega)

/-- zzAbs, on bits -/
def absBits (w : Nat) : Nat := if double.order w 0 == some .lt then Op.negFloat .f64 w else w
theorem abs_val {w : Nat} {v : Rat} (h : IsVal w v) : IsVal (absBits w) (ab v) := by
  unfold absBits
  by_cases hv : v < 0
  · rw [if_pos ((lt_spec h val_nought).mpr hv)]
    have := neg_spec h
    rwa [ab_neg_of (Rat.le_of_lt hv)]
  · rw [if_neg (fun hc => hv ((lt_spec h val_nought).mp hc))]
    rwa [ab_pos_of (Rat.not_lt.mp hv)]

theorem eps_small : eps ≤ 1 / 1000 := by decide +kernel

/-- 1 + d lies near 1 -/
theorem rnd_low {v z : Rat} (h : Rnd v z) (hz : 0 ≤ z) : (999 / 1000) * z ≤ v := by
  obtain ⟨d, e, a, b⟩ := h
  have he := eps_small
  have := Rat.mul_le_mul_of_nonneg_left (show (999 / 1000 : Rat) ≤ 1 + d by grind) hz
  grind
theorem rnd_abs {v z : Rat} (h : Rnd v z) : ab v ≤ (1001 / 1000) * ab z := by
  obtain ⟨d, e, a, b⟩ := h
  have he := eps_small
  have hz := ab_nonneg z
  rw [e, ab_mul, ab_pos_of (show 0 ≤ 1 + d by grind)]
  have := Rat.mul_le_mul_of_nonneg_left (show 1 + d ≤ (1001 / 1000 : Rat) by grind) hz
  grind

section
variable {a b x m : Nat} {A B X N : Rat} {n : Int}

/-- the tolerance is at least 120 η, and not great -/
theorem tol_spec (d : Dom a b x m A B X N n) : ∃ q1 q2 tol τ, floatBits .quo .f64 4607182418800017408 a = some q1 ∧ floatBits .add .f64 4607182418800017408 q1 = some q2 ∧ floatBits .mul .f64 4404520435568345088 q2 = some tol ∧
    IsVal tol τ ∧ 120 * etaOf A ≤ τ ∧ p2 (-60) ≤ τ ∧ τ ≤ p2 0 := by
  have a0 := d.a0
  have a1 := d.a1
  have hA : 0 < A := by grind
  have hne : A ≠ 0 := Rat.ne_of_gt hA
  have hi : 1 / A * A = 1 := Rat.div_mul_cancel hne
  have i0 : 0 < 1 / A := by
    rw [Rat.div_def, Rat.one_mul]; exact Rat.inv_pos.mpr hA
  have i1 : 1 / A ≤ 1048576 := by
    refine Rat.le_of_mul_le_mul_right (c := A) ?_ hA
    rw [hi]; grind
  have i2 : p2 (-30) ≤ 1 / A := by
    refine Rat.le_of_mul_le_mul_right (c := A) ?_ hA
    have e : p2 (-30) = 1 / 1073741824 := by decide +kernel
    rw [hi, e]; grind
  have hab : ab (1 / A) = 1 / A := ab_pos_of (Rat.le_of_lt i0)
  obtain ⟨q1, v1, e1, hv1, r1⟩ := div_spec val_one d.va hne (by rw [hab]; exact Rat.le_trans (by rw [← p2_20] at i1; exact i1) (p2_le (by omega))) (.inr (by rw [hab]; exact Rat.le_trans (p2_le (by omega)) i2))
  have l1 := rnd_low r1 (Rat.le_of_lt i0)
  have u1 := rnd_abs r1
  rw [hab, ab_pos_of (show 0 ≤ v1 by grind)] at u1
  have s1 : ab (1 + v1) = 1 + v1 := ab_pos_of (by grind)
  obtain ⟨q2, v2, e2, hv2, r2⟩ := add_spec val_one hv1 (p2_big (by rw [s1]; grind))
  have l2 := rnd_low r2 (by grind)
  have u2 := rnd_abs r2
  rw [s1, ab_pos_of (show 0 ≤ v2 by grind)] at u2
  have hc := p2_pos (-45)
  have hcv : 0 ≤ p2 (-45) * v2 := Rat.mul_nonneg (Rat.le_of_lt hc) (by grind)
  have e45 : p2 (-45) = 1 / 35184372088832 := by decide +kernel
  have s2 : ab (p2 (-45) * v2) = p2 (-45) * v2 := ab_pos_of hcv
  have e60 : p2 (-60) = 1 / 1152921504606846976 := by decide +kernel
  have hm60 := p2_le (show (-1022 : Int) ≤ -60 by omega)
  have hm0 := p2_le (show (0 : Int) ≤ 1022 by omega)
  rw [p2_zero] at hm0
  have b1 : p2 (-45) * v2 ≤ 1 / 2 := by rw [e45]; grind
  have b2 : 1 / 100000000000000 ≤ p2 (-45) * v2 := by rw [e45]; grind
  obtain ⟨tol, τ, e3, hv3, r3⟩ := mul_spec val_45 hv2 (by rw [s2]; grind) (.inr (by rw [s2]; rw [e60] at hm60; grind))
  have l3 := rnd_low r3 hcv
  have u3 := rnd_abs r3
  rw [s2, ab_pos_of (show 0 ≤ τ by grind)] at u3
  refine ⟨q1, q2, tol, τ, e1, e2, e3, hv3, ?_, by rw [e60]; grind, by rw [p2_zero]; grind⟩
  refine Rat.le_of_mul_le_mul_right (c := A) ?_ hA
  have hm := eta_mul hA
  rw [Rat.mul_assoc, hm, eps_val]
  -- v1 * A, v2 * A, τ * A
  have m1 := Rat.mul_le_mul_of_nonneg_right l1 (Rat.le_of_lt hA)
  have m2 := Rat.mul_le_mul_of_nonneg_right l2 (Rat.le_of_lt hA)
  have m3 := Rat.mul_le_mul_of_nonneg_right l3 (Rat.le_of_lt hA)
  rw [e45] at m3
  have h1 : 999 / 1000 ≤ v1 * A := by grind
  have h2 : (999 / 1000) * ((999 / 1000) * (A + 1)) ≤ v2 * A := by grind
  grind

theorem want_spec (d : Dom a b x m A B X N n) {c1 c2 : Nat} (n1 : Node (etaOf A) c1 (formOdd A B X N) 22 (-370) 115) (n2 : Node (etaOf A) c2 (formEven A B X N) 19 (-380) 100) :
    ∃ want, floatBits .mul .f64 (Op.negFloat .f64 c1) c2 = some want ∧ Node (etaOf A) want (formG A B X N) 44 (-751) 216 := by
  have hη := eta_of d.a0
  obtain ⟨want, e, nw⟩ := node_mul hη (node_neg n1) n2 (by omega) (by omega) (by omega)
  rw [forms d] at nw
  exact ⟨want, e, node_to nw (by omega) (by omega) (by omega)⟩

/-- THE PLAIN LAW -/
theorem close_enough (d : Dom a b x m A B X N n) {got want : Nat} (ng : Node (etaOf A) got (formG A B X N) 59 (-751) 216) (nw : Node (etaOf A) want (formG A B X N) 44 (-751) 216) :
    ∃ diff q1 q2 tol rhs, floatBits .sub .f64 got want = some diff ∧ floatBits .quo .f64 4607182418800017408 a = some q1 ∧ floatBits .add .f64 4607182418800017408 q1 = some q2 ∧ floatBits .mul .f64 4404520435568345088 q2 = some tol ∧
      floatBits .mul .f64 tol (absBits want) = some rhs ∧ (double.order (absBits diff) rhs == some .lt || double.order (absBits diff) rhs == some .eq) = true := by
  have hη := eta_of d.a0
  have h0 := eta_pos hη
  have hsm := eta_small hη
  obtain ⟨G, hG, ⟨dG, eG, aG, bG⟩, _, hiG⟩ := ng
  obtain ⟨W, hW, ⟨dW, eW, aW, bW⟩, loW, hiW⟩ := nw
  obtain ⟨q1, q2, tol, τ, e1, e2, e3, hτ, t1, t2, t3⟩ := tol_spec d
  generalize formG A B X N = R at *
  generalize etaOf A = η at *
  have hR := ab_nonneg R
  -- G - W
  have hGW : ab (G - W) ≤ ab R * (103 * η) := by
    have e : G - W = R * (dG - dW) := by rw [eG, eW]; grind
    rw [e, ab_mul]
    refine Rat.mul_le_mul_of_nonneg_left ?_ hR
    unfold ab
    split <;> grind
  have hr : 103 * η ≤ 1 := by grind
  have hRW : (99 / 100) * ab R ≤ ab W := by
    rw [eW, ab_mul, ab_pos_of (show 0 ≤ 1 + dW by grind)]
    have := Rat.mul_le_mul_of_nonneg_left (show (99 / 100 : Rat) ≤ 1 + dW by grind) hR
    grind
  have hGWb : ab (G - W) ≤ p2 1022 := by
    have h1 : ab (G - W) ≤ ab G + ab W := by unfold ab; split <;> split <;> split <;> grind
    have h2 := p2_succ 216
    have h3 := p2_le (show (216 + 1 : Int) ≤ 1022 by omega)
    grind
  obtain ⟨diff, δ, e4, hδ, r4⟩ := sub_spec hG hW hGWb
  -- the right side
  have habW := ab_nonneg W
  have hτ0 : 0 ≤ τ := by have := p2_pos (-60); grind
  have hτa : ab τ = τ := ab_pos_of hτ0
  have hlo := mul_p2_ge (x := τ) (y := ab W) (a := -60) (b := -751) (.inr (by rw [hτa]; exact t2)) (by
    rcases loW with h | h
    · left; rw [h]; exact ab_zero_iff.mpr rfl
    · right; rwa [ab_pos_of habW])
  have hhi := mul_p2_le (x := τ) (y := ab W) (a := 0) (b := 216) (by rw [hτa]; exact t3) (by rw [ab_pos_of habW]; exact hiW)
  obtain ⟨rhs, ρ, e5, hρ, r5⟩ := mul_spec hτ (abs_val hW) (Rat.le_trans hhi (p2_le (by omega))) (by
    rcases hlo with h | h
    · exact .inl h
    · exact .inr (Rat.le_trans (p2_le (by omega)) h))
  refine ⟨diff, q1, q2, tol, rhs, e4, e1, e2, e3, e5, ?_⟩
  rw [le_spec (abs_val hδ) hρ]
  have u4 := rnd_abs r4
  have l5 := rnd_low r5 (Rat.mul_nonneg hτ0 habW)
  have k1 : τ * ((99 / 100) * ab R) ≤ τ * ab W := Rat.mul_le_mul_of_nonneg_left hRW hτ0
  have k2 : 120 * η * ((99 / 100) * ab R) ≤ τ * ((99 / 100) * ab R) := Rat.mul_le_mul_of_nonneg_right t1 (by grind)
  have k3 := Rat.mul_nonneg (Rat.le_of_lt h0) hR
  generalize ab R = r at *
  have e6 : r * (103 * η) = 103 * (η * r) := by grind
  have e7 : 120 * η * ((99 / 100) * r) = (11880 / 100) * (η * r) := by grind
  rw [e6] at hGW
  rw [e7] at k2
  generalize η * r = y at *
  grind
end
end Go.Proofs.Qxb6617533a
