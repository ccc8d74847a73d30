/-
  What evenNumerator and zzCFCoef reckon, on the law's domain: each result is close to the exact formula.
-/
import Derived.Test.Qxb6617533aNode
namespace Go.Proofs.Qxb6617533a
open Ieee

/-! ### constants -/
theorem isVal_pow (w : Nat) (k : Int) (h : double.read w = .number false 4503599627370496 (k - 52)) (hk : -1022 ≤ k) : IsVal w (p2 k) := by
  refine ⟨false, _, _, h, by omega, ?_⟩
  unfold dv sg
  have e : ((4503599627370496 : Nat) : Rat) = p2 ((52 : Nat) : Int) := (p2_nat 52).symm
  rw [e, if_neg (by simp), Rat.one_mul, ← p2_add, show ((52 : Nat) : Int) + (k - 52) = k by omega]
theorem val_one : IsVal 4607182418800017408 1 := by
  have := isVal_pow 4607182418800017408 0 (by decide +kernel) (by omega)
  rwa [p2_zero] at this
theorem val_two : IsVal 4611686018427387904 2 := by
  have := isVal_pow 4611686018427387904 1 (by decide +kernel) (by omega)
  rwa [p2_one] at this
theorem val_nought : IsVal 0 0 := isVal_zero false

/-- the law's domain, as rational values -/
structure Dom (a b x m : Nat) (A B X N : Rat) (n : Int) : Prop where
  va : IsVal a A
  vb : IsVal b B
  vx : IsVal x X
  vm : IsVal m N
  a0 : 1 / 1048576 ≤ A
  a1 : A ≤ 1073741824
  b0 : 0 < B
  b1 : B ≤ 1073741824
  x0 : X = 0 ∨ p2 (-256) ≤ X
  x1 : X ≤ 1
  nn : N = (n : Rat)
  n0 : 1 ≤ n
  n1 : n ≤ 1048576

def etaOf (A : Rat) : Rat := eps * (A + 1) / A
theorem eps_val : eps = 1 / 4503599627370496 := by decide +kernel
theorem eta_mul {A : Rat} (hA : 0 < A) : etaOf A * A = eps * (A + 1) := Rat.div_mul_cancel (Rat.ne_of_gt hA)
theorem eta_of {A : Rat} (hA : 1 / 1048576 ≤ A) : Eta (etaOf A) := by
  have h0 : 0 < A := by grind
  have hm := eta_mul h0
  have he := eps_pos
  have hv := eps_val
  constructor
  · refine Rat.le_of_mul_le_mul_right (c := A) ?_ h0
    rw [hm]; grind
  · refine Rat.le_of_mul_le_mul_right (c := A) ?_ h0
    rw [hm, p2_m31, hv]; grind

theorem node_to {η : Rat} {w c c' : Nat} {r : Rat} {lo hi lo' hi' : Int} (n : Node η w r c lo hi) (h1 : c = c') (h2 : lo = lo') (h3 : hi = hi') : Node η w r c' lo' hi' := by subst h1 h2 h3; exact n

section
variable {a b x m : Nat} {A B X N : Rat} {n : Int}
theorem Dom.N0 (d : Dom a b x m A B X N n) : 1 ≤ N := by rw [d.nn]; exact Rat.le_trans (by decide +kernel) (Rat.intCast_le_intCast.mpr d.n0)
theorem Dom.N1 (d : Dom a b x m A B X N n) : N ≤ 1048576 := by rw [d.nn]; exact Rat.le_trans (Rat.intCast_le_intCast.mpr d.n1) (by decide +kernel)

theorem p2_m20 : p2 (-20) = 1 / 1048576 := by decide +kernel
theorem p2_31 : p2 31 = 2147483648 := by decide +kernel
theorem p2_32 : p2 32 = 4294967296 := by decide +kernel
theorem p2_20 : p2 20 = 1048576 := by decide +kernel

/-- A + N - 1 -/
theorem ev_p1 (d : Dom a b x m A B X N n) : ∃ t11 t12, floatBits .add .f64 a m = some t11 ∧ floatBits .sub .f64 t11 4607182418800017408 = some t12 ∧ Node (etaOf A) t12 (A + N - 1) 3 (-22) 33 := by
  have hη := eta_of d.a0
  have hA : 0 < A := by have := d.a0; grind
  have N0 := d.N0
  have N1 := d.N1
  have a0 := d.a0
  have a1 := d.a1
  obtain ⟨t11, v1, e1, hv1, r1⟩ := add_spec d.va d.vm (p2_big (by rw [ab_pos_of (by grind)]; grind))
  have k1 := cl_rnd eps_eta r1
  have k2 : Cl (etaOf A) 1 (v1 - 1) (A + N - 1) := by
    have := cl_less (c := 1) (S := A + N) (r := A + N - 1) 1 hA (eta_mul hA) (by grind) (by simp) (by omega) (by grind) k1
    simpa using this
  have hs := cl_size hη (by omega) k2
  rw [ab_pos_of (show 0 ≤ A + N - 1 by grind)] at hs
  obtain ⟨t12, v2, e2, hv2, r2⟩ := sub_spec hv1 val_one (p2_big (by grind))
  exact ⟨t11, t12, e1, e2, node_to (node_pos hη (lo := -20) (hi := 31) (by omega) hv2 r2 k2 (by rw [p2_m20]; grind) (by rw [p2_31]; grind)) (by omega) (by omega) (by omega)⟩

/-- A + B + N - 1, by fl(fl(A + B) + N) - 1 -/
theorem ev_p2 (d : Dom a b x m A B X N n) : ∃ t15 t17 t18, floatBits .add .f64 a b = some t15 ∧ floatBits .add .f64 t15 m = some t17 ∧ floatBits .sub .f64 t17 4607182418800017408 = some t18 ∧ Node (etaOf A) t18 (A + B + N - 1) 5 (-22) 34 := by
  have hη := eta_of d.a0
  have hA : 0 < A := by have := d.a0; grind
  have N0 := d.N0
  have N1 := d.N1
  have a0 := d.a0
  have a1 := d.a1
  have b0 := d.b0
  have b1 := d.b1
  obtain ⟨t15, s, e1, hs, r1⟩ := add_spec d.va d.vb (p2_big (by rw [ab_pos_of (by grind)]; grind))
  have k1 := cl_rnd eps_eta r1
  have k2 : Cl eps 1 (s + N) (A + B + N) := cl_add (by grind) (by grind) (by grind) k1 (cl_mono eps_eta (cl_refl eps_eta N) (by omega))
  have z2 := cl_size eps_eta (by omega) k2
  rw [ab_pos_of (show 0 ≤ A + B + N by grind)] at z2
  obtain ⟨t17, v1, e2, hv1, r2⟩ := add_spec hs d.vm (p2_big (by grind))
  have k3 : Cl eps 3 v1 (A + B + N) := cl_trans eps_eta (c1 := 1) (c2 := 1) (by omega) (by omega) (cl_rnd eps_eta r2) k2
  have k4 : Cl (etaOf A) 3 (v1 - 1) (A + B + N - 1) := by
    have := cl_less (c := 3) (S := A + B + N) (r := A + B + N - 1) 1 hA (eta_mul hA) (by grind) (by simp) (by omega) (by grind) k3
    simpa using this
  have z4 := cl_size hη (by omega) k4
  rw [ab_pos_of (show 0 ≤ A + B + N - 1 by grind)] at z4
  obtain ⟨t18, v2, e3, hv2, r3⟩ := sub_spec hv1 val_one (p2_big (by grind))
  exact ⟨t15, t17, t18, e1, e2, e3, node_to (node_pos hη (lo := -20) (hi := 32) (by omega) hv2 r3 k4 (by rw [p2_m20]; grind) (by rw [p2_32]; grind)) (by omega) (by omega) (by omega)⟩

/-- the three denominators by fl(A + fl(2 * N)) -/
theorem ev_den (d : Dom a b x m A B X N n) : ∃ t32 t33 t34 t39, floatBits .mul .f64 4611686018427387904 m = some t32 ∧ floatBits .add .f64 a t32 = some t33 ∧ floatBits .sub .f64 t33 4611686018427387904 = some t34 ∧ floatBits .sub .f64 t33 4607182418800017408 = some t39 ∧
    Node (etaOf A) t33 (A + 2 * N) 3 (-22) 33 ∧ Node (etaOf A) t34 (A + 2 * N - 2) 8 (-22) 33 ∧ Node (etaOf A) t39 (A + 2 * N - 1) 5 (-22) 33 := by
  have hη := eta_of d.a0
  have hA : 0 < A := by have := d.a0; grind
  have N0 := d.N0
  have N1 := d.N1
  have a0 := d.a0
  have a1 := d.a1
  have hab : ab (2 * N) = 2 * N := ab_pos_of (by grind)
  obtain ⟨t32, q, e1, hq, r1⟩ := mul_spec val_two d.vm (p2_big (by rw [hab]; grind)) (.inr (by
    rw [hab]
    have := p2_le (show (-1022 : Int) ≤ 0 by omega)
    rw [p2_zero] at this
    grind))
  have k1 := cl_rnd eps_eta r1
  have k2 : Cl eps 1 (A + q) (A + 2 * N) := cl_add (by grind) (by grind) (by grind) (cl_mono eps_eta (cl_refl eps_eta A) (by omega)) k1
  have z2 := cl_size eps_eta (by omega) k2
  rw [ab_pos_of (show 0 ≤ A + 2 * N by grind)] at z2
  obtain ⟨t33, v1, e2, hv1, r2⟩ := add_spec d.va hq (p2_big (by grind))
  have k3 : Cl eps 3 v1 (A + 2 * N) := cl_trans eps_eta (c1 := 1) (c2 := 1) (by omega) (by omega) (cl_rnd eps_eta r2) k2
  have k4 : Cl (etaOf A) 6 (v1 - 2) (A + 2 * N - 2) := by
    have := cl_less (c := 3) (S := A + 2 * N) (r := A + 2 * N - 2) 2 hA (eta_mul hA) (by grind) (by simp) (by omega) (by grind) k3
    simpa using this
  have z4 := cl_size hη (by omega) k4
  rw [ab_pos_of (show 0 ≤ A + 2 * N - 2 by grind)] at z4
  have k5 : Cl (etaOf A) 3 (v1 - 1) (A + 2 * N - 1) := by
    have := cl_less (c := 3) (S := A + 2 * N) (r := A + 2 * N - 1) 1 hA (eta_mul hA) (by grind) (by simp) (by omega) (by grind) k3
    simpa using this
  have z5 := cl_size hη (by omega) k5
  rw [ab_pos_of (show 0 ≤ A + 2 * N - 1 by grind)] at z5
  obtain ⟨t34, v2, e3, hv2, r3⟩ := sub_spec hv1 val_two (p2_big (by grind))
  obtain ⟨t39, v3, e4, hv3, r4⟩ := sub_spec hv1 val_one (p2_big (by grind))
  exact ⟨t32, t33, t34, t39, e1, e2, e3, e4, node_to (node_pos hη (lo := -20) (hi := 31) (c := 1) (by omega) hv1 r2 (cl_up hη k2) (by rw [p2_m20]; grind) (by rw [p2_31]; grind)) (by omega) (by omega) (by omega),
    node_to (node_pos hη (lo := -20) (hi := 31) (by omega) hv2 r3 k4 (by rw [p2_m20]; grind) (by rw [p2_31]; grind)) (by omega) (by omega) (by omega), node_to (node_pos hη (lo := -20) (hi := 31) (by omega) hv3 r4 k5 (by rw [p2_m20]; grind) (by rw [p2_31]; grind)) (by omega) (by omega) (by omega)⟩

/-! ### B - N: nought, or at least 2^-53 -/
theorem mag_lt {w : Nat} {s : Bool} {k : Nat} {e : Int} (h : double.read w = .number s k e) : k < 9007199254740992 := by
  unfold Format.read at h
  rw [binade_eq, sign_eq, inf_eq, least_eq] at h
  dsimp only at h
  split at h
  · cases h; omega
  · split at h
    · cases h; omega
    · split at h <;> cases h
theorem place_of {w : Nat} {s : Bool} {k : Nat} {e : Int} {p : Rat} (h : double.read w = .number s k e) (hp : p = dv s k e) (hge : 1 / 2 ≤ p) : -53 ≤ e := by
  have hk := mag_lt h
  have h1 : ab p = (k : Rat) * p2 e := by rw [hp, ab_dv]
  rw [ab_pos_of (by grind)] at h1
  have h2 : (k : Rat) < p2 ((53 : Nat) : Int) := by rw [p2_nat]; exact_mod_cast hk
  have h3 := Rat.mul_lt_mul_of_pos_right h2 (p2_pos e)
  rw [← p2_add, ← h1] at h3
  have e1 : p2 (-1) = 1 / 2 := by decide +kernel
  have h4 : p2 (-1) < p2 (((53 : Nat) : Int) + e) := by rw [e1]; grind
  have := p2_lt_iff h4
  omega
theorem sub_low {s t : Bool} {k l : Nat} {i j P : Int} (hi : P ≤ i) (hj : P ≤ j) : dv s k i - dv t l j = 0 ∨ p2 P ≤ ab (dv s k i - dv t l j) := by
  have e1 := signed_at s k i P hi
  have e2 := signed_at t l j P hj
  generalize signed s k (i - P).toNat = I at *
  generalize signed t l (j - P).toNat = J at *
  have e : dv s k i - dv t l j = ((I - J : Int) : Rat) * p2 P := by rw [← e1, ← e2, Rat.intCast_sub]; grind
  rw [e]
  by_cases h : I - J = 0
  · left; rw [h]; simp
  · right
    rw [ab_mul, ab_pos_of (Rat.le_of_lt (p2_pos P))]
    have h1 : 1 ≤ ab ((I - J : Int) : Rat) := by
      rcases Int.lt_or_gt_of_ne h with h | h
      · have h2 : ((I - J : Int) : Rat) ≤ ((-1 : Int) : Rat) := Rat.intCast_le_intCast.mpr (by omega)
        have h3 : ((-1 : Int) : Rat) = -1 := rfl
        rw [ab_neg_of (by grind)]; grind
      · have h2 : ((1 : Int) : Rat) ≤ ((I - J : Int) : Rat) := Rat.intCast_le_intCast.mpr (by omega)
        have h3 : ((1 : Int) : Rat) = 1 := rfl
        rw [ab_pos_of (by grind)]; grind
    have := Rat.mul_le_mul_of_nonneg_right h1 (Rat.le_of_lt (p2_pos P))
    rwa [Rat.one_mul] at this
theorem gap_low {x y : Nat} {p q : Rat} (hx : IsVal x p) (hy : IsVal y q) (hq : 1 ≤ q) : p - q = 0 ∨ p2 (-53) ≤ ab (p - q) := by
  by_cases h : p ≤ 1 / 2
  · right
    rw [ab_neg_of (by grind)]
    have e1 : p2 (-1) = 1 / 2 := by decide +kernel
    have h2 := p2_le (show (-53 : Int) ≤ -1 by omega)
    rw [e1] at h2
    grind
  · obtain ⟨s, k, i, hr, _, e⟩ := hx
    obtain ⟨t, l, j, hr', _, e'⟩ := hy
    have := sub_low (s := s) (t := t) (k := k) (l := l) (place_of hr e (by grind)) (place_of hr' e' (by grind))
    rwa [← e, ← e'] at this

/-- B - N -/
theorem ev_t (d : Dom a b x m A B X N n) {m' : Nat} (hm : IsVal m' N) : ∃ t24, floatBits .sub .f64 b m' = some t24 ∧ Node (etaOf A) t24 (B - N) 2 (-54) 32 := by
  have hη := eta_of d.a0
  have N0 := d.N0
  have N1 := d.N1
  have b0 := d.b0
  have b1 := d.b1
  have hb : ab (B - N) ≤ 1073741824 := by unfold ab; split <;> grind
  obtain ⟨t24, v, e, hv, r⟩ := sub_spec d.vb hm (p2_big (by grind))
  exact ⟨t24, e, node_to (node_rnd hη (c := 0) (lo := -53) (hi := 31) (by omega) hv r (cl_refl hη _) (gap_low d.vb hm N0) (by rw [p2_31]; grind)) (by omega) (by omega) (by omega)⟩

theorem node_x (d : Dom a b x m A B X N n) : Node (etaOf A) x X 0 (-256) 0 := by
  have x0 := d.x0
  have x1 := d.x1
  have hp := p2_pos (-256)
  have hX : 0 ≤ X := by grind
  refine node_exact (eta_of d.a0) d.vx ?_ ?_
  · rw [ab_pos_of hX]; exact x0
  · rw [ab_pos_of hX, p2_zero]; exact x1
theorem node_n (d : Dom a b x m A B X N n) {m' : Nat} (hm : IsVal m' N) : Node (etaOf A) m' N 0 0 20 := by
  have N0 := d.N0
  have N1 := d.N1
  refine node_exact (eta_of d.a0) hm (.inr ?_) ?_
  · rw [ab_pos_of (by grind), p2_zero]; exact N0
  · rw [ab_pos_of (by grind), p2_20]; exact N1

/-! ### evenNumerator -/
structure EvenBits (a b x m r : Nat) (t11 t12 t15 t17 t18 t19 t21 t24 t25 t27 t29 t32 t33 t34 t39 t40 t46 t51 : Nat) : Prop where
  h11 : floatBits .add .f64 a m = some t11
  h12 : floatBits .sub .f64 t11 4607182418800017408 = some t12
  h15 : floatBits .add .f64 a b = some t15
  h17 : floatBits .add .f64 t15 m = some t17
  h18 : floatBits .sub .f64 t17 4607182418800017408 = some t18
  h19 : floatBits .mul .f64 t12 t18 = some t19
  h21 : floatBits .mul .f64 t19 m = some t21
  h24 : floatBits .sub .f64 b m = some t24
  h25 : floatBits .mul .f64 t21 t24 = some t25
  h27 : floatBits .mul .f64 t25 x = some t27
  h29 : floatBits .mul .f64 t27 x = some t29
  h32 : floatBits .mul .f64 4611686018427387904 m = some t32
  h33 : floatBits .add .f64 a t32 = some t33
  h34 : floatBits .sub .f64 t33 4611686018427387904 = some t34
  h39 : floatBits .sub .f64 t33 4607182418800017408 = some t39
  h40 : floatBits .mul .f64 t34 t39 = some t40
  h46 : floatBits .mul .f64 t40 t39 = some t46
  h51 : floatBits .mul .f64 t46 t33 = some t51
  h52 : floatBits .quo .f64 t29 t51 = some r

def formG (A B X N : Rat) : Rat := (A + N - 1) * (A + B + N - 1) * N * (B - N) * X * X / ((A + 2 * N - 2) * (A + 2 * N - 1) * (A + 2 * N - 1) * (A + 2 * N))

theorem den_ne (d : Dom a b x m A B X N n) : A + 2 * N - 2 ≠ 0 ∧ A + 2 * N - 1 ≠ 0 ∧ A + 2 * N ≠ 0 := by
  have N0 := d.N0
  have a0 := d.a0
  exact ⟨by grind, by grind, by grind⟩
theorem mul_ne {p q : Rat} (hp : p ≠ 0) (hq : q ≠ 0) : p * q ≠ 0 := fun h => by
  rcases Rat.mul_eq_zero.mp h with h | h
  · exact hp h
  · exact hq h

theorem even_spec (d : Dom a b x m A B X N n) : ∃ r t11 t12 t15 t17 t18 t19 t21 t24 t25 t27 t29 t32 t33 t34 t39 t40 t46 t51, EvenBits a b x m r t11 t12 t15 t17 t18 t19 t21 t24 t25 t27 t29 t32 t33 t34 t39 t40 t46 t51 ∧ Node (etaOf A) r (formG A B X N) 59 (-751) 216 := by
  have hη := eta_of d.a0
  obtain ⟨t11, t12, h11, h12, n12⟩ := ev_p1 d
  obtain ⟨t15, t17, t18, h15, h17, h18, n18⟩ := ev_p2 d
  obtain ⟨t19, h19, n19⟩ := node_mul hη n12 n18 (by omega) (by omega) (by omega)
  obtain ⟨t21, h21, n21⟩ := node_mul hη n19 (node_n d d.vm) (by omega) (by omega) (by omega)
  obtain ⟨t24, h24, n24⟩ := ev_t d d.vm
  obtain ⟨t25, h25, n25⟩ := node_mul hη n21 n24 (by omega) (by omega) (by omega)
  obtain ⟨t27, h27, n27⟩ := node_mul hη n25 (node_x d) (by omega) (by omega) (by omega)
  obtain ⟨t29, h29, n29⟩ := node_mul hη n27 (node_x d) (by omega) (by omega) (by omega)
  obtain ⟨t32, t33, t34, t39, h32, h33, h34, h39, n33, n34, n39⟩ := ev_den d
  obtain ⟨t40, h40, n40⟩ := node_mul hη n34 n39 (by omega) (by omega) (by omega)
  obtain ⟨t46, h46, n46⟩ := node_mul hη n40 n39 (by omega) (by omega) (by omega)
  obtain ⟨t51, h51, n51⟩ := node_mul hη n46 n33 (by omega) (by omega) (by omega)
  obtain ⟨z1, z2, z3⟩ := den_ne d
  obtain ⟨r, h52, n52⟩ := node_div hη n29 n51 (mul_ne (mul_ne (mul_ne z1 z2) z2) z3) (by omega) (by omega) (by omega)
  exact ⟨r, t11, t12, t15, t17, t18, t19, t21, t24, t25, t27, t29, t32, t33, t34, t39, t40, t46, t51, ⟨h11, h12, h15, h17, h18, h19, h21, h24, h25, h27, h29, h32, h33, h34, h39, h40, h46, h51, h52⟩, node_to n52 (by omega) (by omega) (by omega)⟩

/-! ### zzCFCoef: the denominator (a + (n-1)) * (a + n), n = j: j and j - 1 whole numbers -/
/-- A + k, k a whole number -/
theorem cf_add (d : Dom a b x m A B X N n) (k : Int) (h0 : 0 ≤ k) (h1 : k ≤ 2097152) : ∃ t, floatBits .add .f64 a (floatOfInt .f64 k) = some t ∧ Node (etaOf A) t (A + (k : Rat)) 2 (-22) 33 := by
  have hη := eta_of d.a0
  have a0 := d.a0
  have a1 := d.a1
  have k0 : (0 : Rat) ≤ (k : Rat) := Rat.intCast_nonneg.mpr h0
  have k1 : (k : Rat) ≤ 2097152 := Rat.le_trans (Rat.intCast_le_intCast.mpr h1) (by decide +kernel)
  obtain ⟨t, v, e, hv, r⟩ := add_spec d.va (ofInt_spec k h0 (by omega)) (p2_big (by rw [ab_pos_of (by grind)]; grind))
  exact ⟨t, e, node_to (node_pos hη (lo := -20) (hi := 31) (c := 0) (by omega) hv r (cl_refl hη _) (by rw [p2_m20]; grind) (by rw [p2_31]; grind)) (by omega) (by omega) (by omega)⟩
/-- A + B + k, by fl(A + B) + k -/
theorem cf_add2 (d : Dom a b x m A B X N n) (k : Int) (h0 : 0 ≤ k) (h1 : k ≤ 2097152) : ∃ t47 t49, floatBits .add .f64 a b = some t47 ∧ floatBits .add .f64 t47 (floatOfInt .f64 k) = some t49 ∧ Node (etaOf A) t49 (A + B + (k : Rat)) 3 (-22) 34 := by
  have hη := eta_of d.a0
  have a0 := d.a0
  have a1 := d.a1
  have b0 := d.b0
  have b1 := d.b1
  have k0 : (0 : Rat) ≤ (k : Rat) := Rat.intCast_nonneg.mpr h0
  have k1 : (k : Rat) ≤ 2097152 := Rat.le_trans (Rat.intCast_le_intCast.mpr h1) (by decide +kernel)
  obtain ⟨t47, s, e1, hs, r1⟩ := add_spec d.va d.vb (p2_big (by rw [ab_pos_of (by grind)]; grind))
  have c1 := cl_rnd eps_eta r1
  have c2 : Cl eps 1 (s + (k : Rat)) (A + B + (k : Rat)) := cl_add (by grind) (by grind) (by grind) c1 (cl_mono eps_eta (cl_refl eps_eta _) (by omega))
  have z2 := cl_size eps_eta (by omega) c2
  rw [ab_pos_of (show 0 ≤ A + B + (k : Rat) by grind)] at z2
  obtain ⟨t49, v, e2, hv, r2⟩ := add_spec hs (ofInt_spec k h0 (by omega)) (p2_big (by grind))
  exact ⟨t47, t49, e1, e2, node_to (node_pos hη (lo := -20) (hi := 32) (c := 1) (by omega) hv r2 (cl_up hη c2) (by rw [p2_m20]; grind) (by rw [p2_32]; grind)) (by omega) (by omega) (by omega)⟩

structure CoefOdd (j : Int) (a b x r : Nat) (t16 t20 t21 t43 t47 t49 t50 t52 : Nat) : Prop where
  h16 : floatBits .add .f64 a (floatOfInt .f64 (j - 1)) = some t16
  h20 : floatBits .add .f64 a (floatOfInt .f64 j) = some t20
  h21 : floatBits .mul .f64 t16 t20 = some t21
  h43 : floatBits .add .f64 a (floatOfInt .f64 ((j - 1) / 2)) = some t43
  h47 : floatBits .add .f64 a b = some t47
  h49 : floatBits .add .f64 t47 (floatOfInt .f64 ((j - 1) / 2)) = some t49
  h50 : floatBits .mul .f64 (Op.negFloat .f64 t43) t49 = some t50
  h52 : floatBits .mul .f64 t50 x = some t52
  h54 : floatBits .quo .f64 t52 t21 = some r
structure CoefEven (j : Int) (a b x r : Nat) (t16 t20 t21 t31 t32 t34 : Nat) : Prop where
  h16 : floatBits .add .f64 a (floatOfInt .f64 (j - 1)) = some t16
  h20 : floatBits .add .f64 a (floatOfInt .f64 j) = some t20
  h21 : floatBits .mul .f64 t16 t20 = some t21
  h31 : floatBits .sub .f64 b (floatOfInt .f64 (j / 2)) = some t31
  h32 : floatBits .mul .f64 (floatOfInt .f64 (j / 2)) t31 = some t32
  h34 : floatBits .mul .f64 t32 x = some t34
  h36 : floatBits .quo .f64 t34 t21 = some r

def formOdd (A B X N : Rat) : Rat := -(A + (N - 1)) * (A + B + (N - 1)) * X / ((A + (2 * N - 2)) * (A + (2 * N - 1)))
def formEven (A B X N : Rat) : Rat := N * (B - N) * X / ((A + (2 * N - 1)) * (A + 2 * N))

theorem odd_spec (d : Dom a b x m A B X N n) : ∃ r t16 t20 t21 t43 t47 t49 t50 t52, CoefOdd (2 * n - 1) a b x r t16 t20 t21 t43 t47 t49 t50 t52 ∧ Node (etaOf A) r (formOdd A B X N) 22 (-370) 115 := by
  have hη := eta_of d.a0
  have n0 := d.n0
  have n1 := d.n1
  obtain ⟨t16, h16, n16⟩ := cf_add d (2 * n - 1 - 1) (by omega) (by omega)
  obtain ⟨t20, h20, n20⟩ := cf_add d (2 * n - 1) (by omega) (by omega)
  obtain ⟨t21, h21, n21⟩ := node_mul hη n16 n20 (by omega) (by omega) (by omega)
  obtain ⟨t43, h43, n43⟩ := cf_add d ((2 * n - 1 - 1) / 2) (by omega) (by omega)
  obtain ⟨t47, t49, h47, h49, n49⟩ := cf_add2 d ((2 * n - 1 - 1) / 2) (by omega) (by omega)
  obtain ⟨t50, h50, n50⟩ := node_mul hη (node_neg n43) n49 (by omega) (by omega) (by omega)
  obtain ⟨t52, h52, n52⟩ := node_mul hη n50 (node_x d) (by omega) (by omega) (by omega)
  obtain ⟨z1, z2, z3⟩ := den_ne d
  have e1 : ((2 * n - 1 - 1 : Int) : Rat) = 2 * N - 2 := by
    rw [show 2 * n - 1 - 1 = 2 * n - 2 by omega, Rat.intCast_sub, Rat.intCast_mul, d.nn]; rfl
  have e2 : ((2 * n - 1 : Int) : Rat) = 2 * N - 1 := by
    rw [Rat.intCast_sub, Rat.intCast_mul, d.nn]; rfl
  have e3 : (((2 * n - 1 - 1) / 2 : Int) : Rat) = N - 1 := by
    rw [show (2 * n - 1 - 1) / 2 = n - 1 by omega, Rat.intCast_sub, d.nn]; rfl
  rw [e1, e2] at n21
  rw [e3] at n52
  obtain ⟨r, h54, n54⟩ := node_div hη n52 n21 (mul_ne (by grind) (by grind)) (by omega) (by omega) (by omega)
  exact ⟨r, t16, t20, t21, t43, t47, t49, t50, t52, ⟨h16, h20, h21, h43, h47, h49, h50, h52, h54⟩, node_to n54 (by omega) (by omega) (by omega)⟩
theorem evenc_spec (d : Dom a b x m A B X N n) : ∃ r t16 t20 t21 t31 t32 t34, CoefEven (2 * n) a b x r t16 t20 t21 t31 t32 t34 ∧ Node (etaOf A) r (formEven A B X N) 19 (-380) 100 := by
  have hη := eta_of d.a0
  have n0 := d.n0
  have n1 := d.n1
  obtain ⟨t16, h16, n16⟩ := cf_add d (2 * n - 1) (by omega) (by omega)
  obtain ⟨t20, h20, n20⟩ := cf_add d (2 * n) (by omega) (by omega)
  obtain ⟨t21, h21, n21⟩ := node_mul hη n16 n20 (by omega) (by omega) (by omega)
  have hk : IsVal (floatOfInt .f64 (2 * n / 2)) N := by
    rw [show 2 * n / 2 = n by omega, d.nn]; exact ofInt_spec n (by omega) (by omega)
  obtain ⟨t31, h31, n31⟩ := ev_t d hk
  obtain ⟨t32, h32, n32⟩ := node_mul hη (node_n d hk) n31 (by omega) (by omega) (by omega)
  obtain ⟨t34, h34, n34⟩ := node_mul hη n32 (node_x d) (by omega) (by omega) (by omega)
  obtain ⟨z1, z2, z3⟩ := den_ne d
  have e1 : ((2 * n - 1 : Int) : Rat) = 2 * N - 1 := by
    rw [Rat.intCast_sub, Rat.intCast_mul, d.nn]; rfl
  have e2 : ((2 * n : Int) : Rat) = 2 * N := by
    rw [Rat.intCast_mul, d.nn]; rfl
  rw [e1, e2] at n21
  obtain ⟨r, h36, n36⟩ := node_div hη n34 n21 (mul_ne (by grind) (by grind)) (by omega) (by omega) (by omega)
  exact ⟨r, t16, t20, t21, t31, t32, t34, ⟨h16, h20, h21, h31, h32, h34, h36⟩, node_to n36 (by omega) (by omega) (by omega)⟩

/-- the two forms are one number -/
theorem forms (d : Dom a b x m A B X N n) : -formOdd A B X N * formEven A B X N = formG A B X N := by
  obtain ⟨z1, z2, z3⟩ := den_ne d
  unfold formOdd formEven formG
  rw [show A + (2 * N - 2) = A + 2 * N - 2 by grind, show A + (2 * N - 1) = A + 2 * N - 1 by grind]
  generalize A + 2 * N - 2 = p at *
  generalize A + 2 * N - 1 = q at *
  generalize A + 2 * N = s at *
  grind
end
end Go.Proofs.Qxb6617533a
