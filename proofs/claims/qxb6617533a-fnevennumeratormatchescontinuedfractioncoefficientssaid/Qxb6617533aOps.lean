/-
  The four operations, unary minus, the order, int and float conversions, on float64's bits, as they act on rational values: each rounds by a relative error of at most eps = 2^-52.
-/
import Derived.Test.Qxb6617533aNum
namespace Go.Proofs.Qxb6617533a
open Ieee

def eps : Rat := p2 (-52)
/-- v is z, rounded -/
def Rnd (v z : Rat) : Prop := ∃ d, v = z * (1 + d) ∧ -eps ≤ d ∧ d ≤ eps

theorem eps_pos : 0 < eps := p2_pos _
theorem p2_53 : p2 (-53) ≤ eps := p2_le (by omega)
theorem p2_lt_iff {a b : Int} (h : p2 a < p2 b) : a < b := by
  rcases Int.lt_or_le a b with h1 | h1
  · exact h1
  · exact absurd (p2_le h1) (Rat.not_le.mpr h)

/-! ### absolute values -/
def ab (z : Rat) : Rat := if z < 0 then -z else z
theorem ab_nonneg (z : Rat) : 0 ≤ ab z := by unfold ab; split <;> grind
theorem ab_pos_of {z : Rat} (h : 0 ≤ z) : ab z = z := by unfold ab; rw [if_neg (by grind)]
theorem ab_neg_of {z : Rat} (h : z ≤ 0) : ab z = -z := by unfold ab; split <;> grind
theorem ab_neg (z : Rat) : ab (-z) = ab z := by unfold ab; split <;> split <;> grind
theorem ab_mul (x y : Rat) : ab (x * y) = ab x * ab y := by
  rcases Rat.le_total (a := 0) (b := x) with hx | hx <;> rcases Rat.le_total (a := 0) (b := y) with hy | hy
  · rw [ab_pos_of hx, ab_pos_of hy, ab_pos_of (Rat.mul_nonneg hx hy)]
  · have := Rat.mul_nonneg hx (show 0 ≤ -y by grind)
    rw [ab_pos_of hx, ab_neg_of hy, ab_neg_of (by grind)]; grind
  · have := Rat.mul_nonneg (show 0 ≤ -x by grind) hy
    rw [ab_neg_of hx, ab_pos_of hy, ab_neg_of (by grind)]; grind
  · have := Rat.mul_nonneg (show 0 ≤ -x by grind) (show 0 ≤ -y by grind)
    rw [ab_neg_of hx, ab_neg_of hy, ab_pos_of (by grind)]; grind
theorem ab_zero_iff {z : Rat} : ab z = 0 ↔ z = 0 := by unfold ab; split <;> grind

theorem ab_sg (s : Bool) : ab (sg s) = 1 := by cases s <;> rfl
theorem ab_dv (s : Bool) (m : Nat) (e : Int) : ab (dv s m e) = (m : Rat) * p2 e := by
  unfold dv
  rw [ab_mul, ab_sg, Rat.one_mul]
  exact ab_pos_of (Rat.mul_nonneg Rat.natCast_nonneg (Rat.le_of_lt (p2_pos _)))

/-! ### writing a datum -/
theorem log_le {mag : Nat} {place hi : Int} (h0 : mag ≠ 0) (h : (mag : Rat) * p2 place ≤ p2 hi) : place + mag.log2 ≤ hi := by
  have h1 : ((2 ^ mag.log2 : Nat) : Rat) ≤ (mag : Rat) := by exact_mod_cast pow_log mag h0
  have h2 := Rat.mul_le_mul_of_nonneg_right h1 (Rat.le_of_lt (p2_pos place))
  rw [← p2_nat, ← p2_add] at h2
  have h3 := Rat.le_trans h2 h
  rcases Int.lt_or_le hi (mag.log2 + place) with h4 | h4
  · exfalso
    have h5 : p2 (hi + 1) ≤ p2 hi := Rat.le_trans (p2_le (by omega)) h3
    rw [p2_add, p2_one] at h5
    have := p2_pos hi
    grind
  · omega
theorem le_log {mag : Nat} {place lo : Int} (h : p2 lo ≤ (mag : Rat) * p2 place) : lo ≤ place + mag.log2 := by
  have h1 : (mag : Rat) < ((2 ^ (mag.log2 + 1) : Nat) : Rat) := by exact_mod_cast lt_pow_log mag
  have h2 := Rat.mul_lt_mul_of_pos_right h1 (p2_pos place)
  rw [← p2_nat, ← p2_add] at h2
  have h3 : p2 lo < p2 (((mag.log2 + 1 : Nat) : Int) + place) := Std.lt_of_le_of_lt h h2
  have := p2_lt_iff h3
  omega

theorem rnd_zero : Rnd 0 0 := ⟨0, by grind, by have := eps_pos; grind, by have := eps_pos; grind⟩
theorem rnd_of {v z : Rat} (hz : z ≠ 0) (h1 : v - z ≤ eps * ab z) (h2 : z - v ≤ eps * ab z) : Rnd v z := by
  have hab : 0 < ab z := Rat.lt_of_le_of_ne (ab_nonneg z) (fun h => hz (ab_zero_iff.mp h.symm))
  refine ⟨v / z - 1, by grind, ?_, ?_⟩
  · rcases Rat.le_total (a := 0) (b := z) with hp | hp
    · rw [ab_pos_of hp] at h2 hab
      have : (1 - eps) * z ≤ (v / z) * z := by rw [Rat.div_mul_cancel hz]; grind
      have := Rat.le_of_mul_le_mul_right this hab
      grind
    · rw [ab_neg_of hp] at h1 hab
      have : (1 - eps) * (-z) ≤ (v / z) * (-z) := by
        have e : v / z * -z = -v := by rw [Rat.mul_neg, Rat.div_mul_cancel hz]
        rw [e]; grind
      have := Rat.le_of_mul_le_mul_right this hab
      grind
  · rcases Rat.le_total (a := 0) (b := z) with hp | hp
    · rw [ab_pos_of hp] at h1 hab
      have : (v / z) * z ≤ (1 + eps) * z := by rw [Rat.div_mul_cancel hz]; grind
      have := Rat.le_of_mul_le_mul_right this hab
      grind
    · rw [ab_neg_of hp] at h2 hab
      have : (v / z) * (-z) ≤ (1 + eps) * (-z) := by
        have e : v / z * -z = -v := by rw [Rat.mul_neg, Rat.div_mul_cancel hz]
        rw [e]; grind
      have := Rat.le_of_mul_le_mul_right this hab
      grind

theorem isVal_zero (s : Bool) : IsVal (double.word s 0) 0 := by
  refine ⟨s, 0, -1074, ?_, by omega, ?_⟩
  · rw [read_word s 0 (by decide), if_pos (by decide)]
  · unfold dv; cases s <;> simp [sg]

theorem write_spec (s : Bool) (mag : Nat) (place : Int) (hhi : mag ≠ 0 → (mag : Rat) * p2 place ≤ p2 1022) (hlo : mag ≠ 0 → -1074 ≤ place ∨ p2 (-1022) ≤ (mag : Rat) * p2 place) :
    ∃ v, IsVal (double.write (.number s mag place)) v ∧ v - dv s mag place ≤ p2 (-53) * ab (dv s mag place) ∧ dv s mag place - v ≤ p2 (-53) * ab (dv s mag place) ∧ (mag < 9007199254740992 → -1074 ≤ place → v = dv s mag place) := by
  show ∃ v, IsVal (double.nearest s mag place) v ∧ _
  by_cases h0 : mag = 0
  · subst h0
    have e : double.nearest s 0 place = double.word s 0 := by unfold Format.nearest; rw [if_pos rfl]
    have ez : dv s 0 place = 0 := by unfold dv; cases s <;> simp [sg]
    rw [e, ez]
    exact ⟨0, isVal_zero s, by rw [ab_pos_of (by decide)]; grind, by rw [ab_pos_of (by decide)]; grind, fun _ _ => rfl⟩
  · obtain ⟨M, E, hr, hE, k1, k2, k3⟩ := nearest_spec s mag place h0 (log_le h0 (hhi h0)) (by
      rcases hlo h0 with h | h
      · exact .inl h
      · exact .inr (le_log h))
    refine ⟨dv s M E, ⟨s, M, E, hr, hE, rfl⟩, ?_, ?_, ?_⟩
    · rw [ab_dv]; unfold dv; cases s <;> (simp only [sg, if_true, Bool.false_eq_true, if_false]; grind)
    · rw [ab_dv]; unfold dv; cases s <;> (simp only [sg, if_true, Bool.false_eq_true, if_false]; grind)
    · intro h1 h2; unfold dv; rw [k3 h1 h2]

theorem write_rnd (s : Bool) (mag : Nat) (place : Int) (hhi : ab (dv s mag place) ≤ p2 1022) (hlo : mag ≠ 0 → -1074 ≤ place ∨ p2 (-1022) ≤ ab (dv s mag place)) :
    ∃ v, IsVal (double.write (.number s mag place)) v ∧ Rnd v (dv s mag place) := by
  rw [ab_dv] at hhi hlo
  obtain ⟨v, hv, h1, h2, _⟩ := write_spec s mag place (fun _ => hhi) hlo
  refine ⟨v, hv, ?_⟩
  have hle := Rat.mul_le_mul_of_nonneg_right p2_53 (ab_nonneg (dv s mag place))
  by_cases hz : dv s mag place = 0
  · rw [hz] at h1 h2 ⊢
    rw [ab_pos_of (by decide)] at h1 h2
    have : v = 0 := by grind
    rw [this]; exact rnd_zero
  · exact rnd_of hz (Rat.le_trans h1 hle) (Rat.le_trans h2 hle)

/-! ### sums -/
theorem signed_val (s : Bool) (m up : Nat) : ((signed s m up : Int) : Rat) = sg s * ((m : Rat) * p2 (up : Int)) := by
  unfold signed sg
  rw [Nat.shiftLeft_eq, p2_nat]
  cases s
  · simp [Rat.intCast_natCast]
  · simp [Rat.intCast_natCast]; grind
theorem signed_at (s : Bool) (m : Nat) (i base : Int) (h : base ≤ i) : ((signed s m (i - base).toNat : Int) : Rat) * p2 base = dv s m i := by
  rw [signed_val, Int.toNat_of_nonneg (by omega)]
  unfold dv
  have := p2_sub_mul i base
  grind
theorem dv_natAbs (n : Int) (base : Int) (s : Bool) (hs : n ≠ 0 → s = decide (n < 0)) : dv s n.natAbs base = (n : Rat) * p2 base := by
  by_cases h0 : n = 0
  · subst h0; unfold dv; cases s <;> simp [sg]
  · rw [hs h0]
    unfold dv sg
    by_cases hn : n < 0
    · have e : (n : Rat) = -((n.natAbs : Nat) : Rat) := by
        rw [← Rat.intCast_natCast, ← Rat.intCast_neg]; congr 1; omega
      rw [e]; simp [hn]; grind
    · have e : (n : Rat) = ((n.natAbs : Nat) : Rat) := by
        rw [← Rat.intCast_natCast]; congr 1; omega
      rw [e]; simp [hn]

theorem sum_spec {x y : Datum} {s t : Bool} {m n : Nat} {i j : Int} (hx : x = .number s m i) (hy : y = .number t n j) (hi : -1074 ≤ i) (hj : -1074 ≤ j) :
    ∃ u k e, x.sum y = some (.number u k e) ∧ -1074 ≤ e ∧ dv u k e = dv s m i + dv t n j := by
  subst hx hy
  refine ⟨_, _, _, rfl, by omega, ?_⟩
  rw [dv_natAbs]
  · rw [Rat.intCast_add, Rat.add_mul, signed_at _ _ _ _ (by omega), signed_at _ _ _ _ (by omega)]
  · intro h; rw [if_neg h]

theorem add_spec {x y : Nat} {p q : Rat} (hx : IsVal x p) (hy : IsVal y q) (hb : ab (p + q) ≤ p2 1022) : ∃ r v, double.add x y = some r ∧ IsVal r v ∧ Rnd v (p + q) := by
  obtain ⟨s, m, i, hr, hi, rfl⟩ := hx
  obtain ⟨t, n, j, hr', hj, rfl⟩ := hy
  obtain ⟨u, k, e, hs, he, hv⟩ := sum_spec hr hr' hi hj
  rw [← hv] at hb ⊢
  obtain ⟨v, h1, h2⟩ := write_rnd u k e hb (fun _ => .inl he)
  exact ⟨_, v, by unfold Format.add; rw [hs]; rfl, h1, h2⟩
theorem dv_not (t : Bool) (n : Nat) (j : Int) : dv (!t) n j = -dv t n j := by
  unfold dv; cases t <;> (simp [sg]; grind)
theorem sub_spec {x y : Nat} {p q : Rat} (hx : IsVal x p) (hy : IsVal y q) (hb : ab (p - q) ≤ p2 1022) : ∃ r v, double.sub x y = some r ∧ IsVal r v ∧ Rnd v (p - q) := by
  obtain ⟨s, m, i, hr, hi, rfl⟩ := hx
  obtain ⟨t, n, j, hr', hj, rfl⟩ := hy
  obtain ⟨u, k, e, hs, he, hv⟩ := sum_spec (y := (double.read y).opposite) hr (by rw [hr']; rfl) hi hj
  rw [dv_not, ← Rat.sub_eq_add_neg] at hv
  rw [← hv] at hb ⊢
  obtain ⟨v, h1, h2⟩ := write_rnd u k e hb (fun _ => .inl he)
  exact ⟨_, v, by unfold Format.sub; rw [hs]; rfl, h1, h2⟩

/-! ### products -/
theorem sg_xor (s t : Bool) : sg (s ^^ t) = sg s * sg t := by cases s <;> cases t <;> (simp [sg]; try grind)
theorem mul_spec {x y : Nat} {p q : Rat} (hx : IsVal x p) (hy : IsVal y q) (hb : ab (p * q) ≤ p2 1022) (hl : p * q = 0 ∨ p2 (-1022) ≤ ab (p * q)) : ∃ r v, double.mul x y = some r ∧ IsVal r v ∧ Rnd v (p * q) := by
  obtain ⟨s, m, i, hr, hi, rfl⟩ := hx
  obtain ⟨t, n, j, hr', hj, rfl⟩ := hy
  have hv : dv (s ^^ t) (m * n) (i + j) = dv s m i * dv t n j := by
    unfold dv; rw [sg_xor, Rat.natCast_mul, p2_add]; grind
  rw [← hv] at hb hl ⊢
  obtain ⟨v, h1, h2⟩ := write_rnd (s ^^ t) (m * n) (i + j) hb (fun h0 => .inr (by
    rcases hl with hl | hl
    · exfalso
      have := ab_zero_iff.mpr hl
      rw [ab_dv] at this
      rcases Rat.mul_eq_zero.mp this with h | h
      · exact h0 (Rat.natCast_eq_zero_iff.mp h)
      · exact absurd h (Rat.ne_of_gt (p2_pos _))
    · exact hl))
  exact ⟨_, v, by unfold Format.mul; rw [hr, hr']; rfl, h1, h2⟩

/-! ### quotients -/
theorem rnd_two {v z z' : Rat} (h : ab (z' - z) ≤ p2 (-54) * ab z) (h1 : v - z' ≤ p2 (-53) * ab z') (h2 : z' - v ≤ p2 (-53) * ab z') : Rnd v z := by
  have e1 : p2 (-53) = 2 * p2 (-54) := by rw [show (-53 : Int) = 1 + -54 by omega, p2_add, p2_one]
  have e2 : eps = 4 * p2 (-54) := by unfold eps; rw [show (-52 : Int) = 2 + -54 by omega, p2_add]; congr 1
  have hu := p2_pos (-54)
  have hu1 : p2 (-54) ≤ 1 / 2 := by
    have := p2_le (show (-54 : Int) ≤ -1 by omega)
    have e : p2 (-1) = 1 / 2 := by decide +kernel
    rwa [e] at this
  have hz := ab_nonneg z
  have ht : ab z' ≤ ab z + p2 (-54) * ab z := by
    have : ab z' ≤ ab z + ab (z' - z) := by unfold ab; split <;> split <;> split <;> grind
    grind
  have hm := Rat.mul_le_mul_of_nonneg_left ht (Rat.le_of_lt hu)
  have hq : p2 (-54) * (p2 (-54) * ab z) ≤ 1 / 2 * (p2 (-54) * ab z) := Rat.mul_le_mul_of_nonneg_right hu1 (Rat.mul_nonneg (Rat.le_of_lt hu) hz)
  have hd1 : z' - z ≤ ab (z' - z) := by unfold ab; split <;> grind
  have hd2 : z - z' ≤ ab (z' - z) := by unfold ab; split <;> grind
  by_cases h0 : z = 0
  · subst h0
    have ea : ab 0 = 0 := ab_zero_iff.mpr rfl
    rw [ea, Rat.mul_zero] at h
    have hz0 : z' - 0 = 0 := ab_zero_iff.mp (Rat.le_antisymm h (ab_nonneg _))
    have hz1 : z' = 0 := by grind
    rw [hz1, ea] at h1 h2
    have : v = 0 := by grind
    rw [this]; exact rnd_zero
  · refine rnd_of h0 ?_ ?_
    · rw [e2]; rw [e1] at h1; grind
    · rw [e2]; rw [e1] at h2; grind

theorem quot_nat (m n more Q R c : Nat) (hm : m ≠ 0) (hD : n * Q + R = m * 2 ^ more) (hR : R < n) (hc : c = (R != 0).toNat) (hmore : 54 + n.log2 ≤ m.log2 + more) :
    n * (2 * Q + c) ≤ 2 * (m * 2 ^ more) + n ∧ 2 * (m * 2 ^ more) ≤ n * (2 * Q + c) + n ∧ 9007199254740992 * n ≤ m * 2 ^ more := by
  have h3 : 9007199254740992 * n ≤ m * 2 ^ more := by
    have h1 := lt_pow_log n
    have h2 : 2 ^ m.log2 * 2 ^ more ≤ m * 2 ^ more := Nat.mul_le_mul_right _ (pow_log m hm)
    rw [← Nat.pow_add] at h2
    have h4 : 2 ^ (53 + (n.log2 + 1)) ≤ 2 ^ (m.log2 + more) := Nat.pow_le_pow_right (by decide) (by omega)
    rw [Nat.pow_add] at h4
    have h5 : 2 ^ 53 * n ≤ 2 ^ 53 * 2 ^ (n.log2 + 1) := Nat.mul_le_mul_left _ (Nat.le_of_lt h1)
    omega
  rw [← hD] at h3 ⊢
  have hc2 : (R = 0 ∧ c = 0) ∨ (R ≠ 0 ∧ c = 1) := by
    by_cases h : R = 0
    · left; exact ⟨h, by rw [hc, h]; rfl⟩
    · right; exact ⟨h, by rw [hc]; simp [h]⟩
  rw [Nat.mul_add, Nat.mul_left_comm]
  rcases hc2 with ⟨h1, h2⟩ | ⟨h1, h2⟩
  · rw [h1, h2]
    refine ⟨by omega, by omega, by omega⟩
  · rw [h2, Nat.mul_one]
    refine ⟨by omega, by omega, by omega⟩

theorem quot_val {m n more K : Nat} {i j : Int} (hn : n ≠ 0) (h1 : n * K ≤ 2 * (m * 2 ^ more) + n) (h2 : 2 * (m * 2 ^ more) ≤ n * K + n) (h3 : 9007199254740992 * n ≤ m * 2 ^ more) (z : Rat) (hz : z * ((n : Rat) * p2 j) = (m : Rat) * p2 i) :
    (K : Rat) * p2 (i - j - more - 1) - z ≤ p2 (-54) * z ∧ z - (K : Rat) * p2 (i - j - more - 1) ≤ p2 (-54) * z := by
  have hnR : (0 : Rat) < (n : Rat) := by
    have : 0 < n := by omega
    exact_mod_cast this
  have r1 : (n : Rat) * (K : Rat) ≤ 2 * ((m : Rat) * ((2 ^ more : Nat) : Rat)) + (n : Rat) := by exact_mod_cast h1
  have r2 : 2 * ((m : Rat) * ((2 ^ more : Nat) : Rat)) ≤ (n : Rat) * (K : Rat) + (n : Rat) := by exact_mod_cast h2
  have r3 : 9007199254740992 * (n : Rat) ≤ (m : Rat) * ((2 ^ more : Nat) : Rat) := by exact_mod_cast h3
  have e53 : p2 (-54) * 2 * 9007199254740992 = 1 := by
    have : p2 (-54) * p2 54 = 1 := by rw [← p2_add]; exact p2_zero
    have e : p2 54 = 18014398509481984 := by rw [show (54 : Int) = ((54 : Nat) : Int) from rfl, p2_nat]; rfl
    rw [e] at this
    grind
  obtain ⟨c, hc⟩ : ∃ c, c = p2 (i - j - more - 1) := ⟨_, rfl⟩
  rw [← hc]
  have hcp : 0 < c := by rw [hc]; exact p2_pos _
  -- n * z in units of c
  have hzn : (n : Rat) * z = 2 * ((m : Rat) * ((2 ^ more : Nat) : Rat)) * c := by
    have e1 : p2 i = p2 j * (2 * ((2 ^ more : Nat) : Rat) * c) := by
      rw [hc, ← p2_nat, ← p2_one, ← p2_add, ← p2_add, ← p2_add]; congr 1; omega
    have hj := p2_pos j
    have : (n : Rat) * z * p2 j = 2 * ((m : Rat) * ((2 ^ more : Nat) : Rat)) * c * p2 j := by
      rw [e1] at hz; grind
    have hjn : p2 j ≠ 0 := Rat.ne_of_gt hj
    grind
  generalize ((2 ^ more : Nat) : Rat) = T at *
  generalize (m : Rat) * T = D at *
  generalize (n : Rat) = N at *
  have hu := p2_pos (-54)
  generalize p2 (-54) = u at *
  -- N ≤ u * 2D
  have hN : N ≤ u * (2 * D) := by
    have h := Rat.mul_le_mul_of_nonneg_left r3 (show 0 ≤ u * 2 by grind)
    have e : u * 2 * (9007199254740992 * N) = N := by rw [← Rat.mul_assoc, e53, Rat.one_mul]
    rw [e] at h
    grind
  constructor
  · have k1 : (N * K - 2 * D) * c ≤ (u * (2 * D)) * c := Rat.mul_le_mul_of_nonneg_right (by grind) (Rat.le_of_lt hcp)
    have k2 : N * (K * c - z) ≤ N * (u * z) := by
      have : N * (u * z) = u * (N * z) := by grind
      rw [this, hzn]; grind
    exact Rat.le_of_mul_le_mul_left k2 hnR
  · have k1 : (2 * D - N * K) * c ≤ (u * (2 * D)) * c := Rat.mul_le_mul_of_nonneg_right (by grind) (Rat.le_of_lt hcp)
    have k2 : N * (z - K * c) ≤ N * (u * z) := by
      have : N * (u * z) = u * (N * z) := by grind
      rw [this, hzn]; grind
    exact Rat.le_of_mul_le_mul_left k2 hnR

theorem div_spec {x y : Nat} {p q : Rat} (hx : IsVal x p) (hy : IsVal y q) (hq0 : q ≠ 0) (hb : ab (p / q) ≤ p2 1020) (hl : p = 0 ∨ p2 (-1020) ≤ ab (p / q)) : ∃ r v, double.div x y = some r ∧ IsVal r v ∧ Rnd v (p / q) := by
  obtain ⟨s, m, i, hr, hi, rfl⟩ := hx
  obtain ⟨t, n, j, hr', hj, rfl⟩ := hy
  have hn : n ≠ 0 := by
    intro h; subst h
    exact hq0 (by unfold dv; cases t <;> simp [sg])
  obtain ⟨more, hmore⟩ : ∃ more, more = double.fractionBits + 2 + n.log2 - m.log2 := ⟨_, rfl⟩
  have hdiv : double.div x y = some (double.write (.number (s ^^ t) (2 * (m <<< more / n) + (m <<< more % n != 0).toNat) (i - j - more - 1))) := by
    unfold Format.div
    rw [hr, hr', hmore]
    unfold Datum.quotient
    simp only [if_neg hn]
    rfl
  have hfb : double.fractionBits = 52 := rfl
  rw [hdiv]
  -- the quotient of the magnitudes
  obtain ⟨z, hz⟩ : ∃ z, z = ab (dv s m i / dv t n j) := ⟨_, rfl⟩
  have hzq : z * ((n : Rat) * p2 j) = (m : Rat) * p2 i := by
    rw [hz, ← ab_dv t n j, ← ab_mul, Rat.div_mul_cancel hq0, ab_dv]
  have hz0 : 0 ≤ z := by rw [hz]; exact ab_nonneg _
  have hnp : (0 : Rat) < (n : Rat) * p2 j := Rat.mul_pos (by
    have : 0 < n := by omega
    exact_mod_cast this) (p2_pos _)
  -- the sign
  have hsz : dv s m i / dv t n j = sg (s ^^ t) * z := by
    have h1 : sg (s ^^ t) * z * dv t n j = dv s m i := by
      unfold dv
      rw [sg_xor]
      have hs2 : sg t * sg t = 1 := by cases t <;> (simp [sg]; try grind)
      have : sg s * sg t * z * (sg t * ((n : Rat) * p2 j)) = sg s * (sg t * sg t) * (z * ((n : Rat) * p2 j)) := by grind
      rw [this, hs2, hzq]; grind
    rw [← h1, Rat.mul_div_cancel hq0]
  by_cases hm : m = 0
  · -- nought
    subst hm
    have hz1 : z = 0 := by
      have : z * ((n : Rat) * p2 j) = 0 * ((n : Rat) * p2 j) := by rw [hzq]; simp
      have hne : (n : Rat) * p2 j ≠ 0 := Rat.ne_of_gt hnp
      grind
    have e0 : 2 * (0 <<< more / n) + (0 <<< more % n != 0).toNat = 0 := by simp
    rw [e0]
    obtain ⟨v, hv, h1, h2, _⟩ := write_spec (s ^^ t) 0 (i - j - more - 1) (fun h => absurd rfl h) (fun h => absurd rfl h)
    refine ⟨_, v, rfl, hv, ?_⟩
    have ez : dv (s ^^ t) 0 (i - j - more - 1) = 0 := by unfold dv; simp
    rw [ez] at h1 h2
    rw [hsz, hz1]
    rw [ab_pos_of (by decide)] at h1 h2
    have : v = 0 := by grind
    rw [this, Rat.mul_zero]; exact rnd_zero
  · rw [Nat.shiftLeft_eq]
    have hD := Nat.div_add_mod (m * 2 ^ more) n
    have hR := Nat.mod_lt (m * 2 ^ more) (show n > 0 by omega)
    obtain ⟨g1, g2, g3⟩ := quot_nat m n more _ _ _ hm hD hR rfl (by omega)
    generalize 2 * (m * 2 ^ more / n) + (m * 2 ^ more % n != 0).toNat = K at *
    obtain ⟨b1, b2⟩ := quot_val (i := i) (j := j) hn g1 g2 g3 z hzq
    have hu1 : p2 (-54) ≤ 1 / 2 := by
      have := p2_le (show (-54 : Int) ≤ -1 by omega)
      have e : p2 (-1) = 1 / 2 := by decide +kernel
      rwa [e] at this
    have hK : 0 ≤ (K : Rat) * p2 (i - j - more - 1) := Rat.mul_nonneg Rat.natCast_nonneg (Rat.le_of_lt (p2_pos _))
    have hub := Rat.mul_le_mul_of_nonneg_right hu1 hz0
    have hzl : p2 (-1020) ≤ z := by
      rcases hl with hl | hl
      · exfalso
        have := ab_zero_iff.mpr hl
        rw [ab_dv] at this
        rcases Rat.mul_eq_zero.mp this with h | h
        · exact hm (Rat.natCast_eq_zero_iff.mp h)
        · exact absurd h (Rat.ne_of_gt (p2_pos _))
      · rw [hz]; exact hl
    rw [← hz] at hb
    have e1 : p2 1022 = 4 * p2 1020 := by rw [show (1022 : Int) = 2 + 1020 by omega, p2_add]; congr 1
    have e2 : p2 (-1020) = 4 * p2 (-1022) := by rw [show (-1020 : Int) = 2 + -1022 by omega, p2_add]; congr 1
    have hp := p2_pos (-1022)
    have hp' := p2_pos 1020
    obtain ⟨v, hv, h1, h2, _⟩ := write_spec (s ^^ t) K (i - j - more - 1) (fun _ => by grind) (fun _ => .inr (by grind))
    refine ⟨_, v, rfl, hv, ?_⟩
    refine rnd_two (z' := dv (s ^^ t) K (i - j - more - 1)) ?_ h1 h2
    rw [hsz]
    have e3 : dv (s ^^ t) K (i - j - more - 1) - sg (s ^^ t) * z = sg (s ^^ t) * ((K : Rat) * p2 (i - j - more - 1) - z) := by unfold dv; grind
    rw [e3, ab_mul, ab_mul, ab_sg, Rat.one_mul, Rat.one_mul, ab_pos_of hz0]
    unfold ab
    split <;> grind

/-! ### the order -/
theorem order_spec {x y : Nat} {p q : Rat} (hx : IsVal x p) (hy : IsVal y q) : double.order x y = some (if p < q then .lt else if p = q then .eq else .gt) := by
  obtain ⟨s, m, i, hr, hi, rfl⟩ := hx
  obtain ⟨t, n, j, hr', hj, rfl⟩ := hy
  unfold Format.order
  rw [hr, hr']
  show some (compare (signed s m (i - min i j).toNat) (signed t n (j - min i j).toNat)) = _
  have e1 := signed_at s m i (min i j) (by omega)
  have e2 := signed_at t n j (min i j) (by omega)
  have hp := p2_pos (min i j)
  generalize signed s m (i - min i j).toNat = A at *
  generalize signed t n (j - min i j).toNat = B at *
  rw [← e1, ← e2]
  congr 1
  rcases Int.lt_trichotomy A B with h | h | h
  · have h2 : (A : Rat) < (B : Rat) := by exact_mod_cast h
    rw [if_pos (Rat.mul_lt_mul_of_pos_right h2 hp)]
    exact Int.compare_eq_lt.mpr h
  · subst h
    rw [if_neg Rat.lt_irrefl, if_pos rfl]
    exact Int.compare_eq_eq.mpr rfl
  · have h2 : (B : Rat) < (A : Rat) := by exact_mod_cast h
    have h3 := Rat.mul_lt_mul_of_pos_right h2 hp
    rw [if_neg (by grind), if_neg (by grind)]
    exact Int.compare_eq_gt.mpr h
end Go.Proofs.Qxb6617533a
