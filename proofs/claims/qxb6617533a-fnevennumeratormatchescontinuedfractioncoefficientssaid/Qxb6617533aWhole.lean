/-
  The law at every input: outside the guards it returns true at once; inside them by the plain law.
-/
import Derived.Test.Qxb6617533aWalk
namespace Go.Proofs.Qxb6617533a
open Go.RowKit
open Ieee

theorem val_m20 : IsVal 4517110426252607488 (p2 (-20)) := isVal_pow _ _ (by decide +kernel) (by omega)
theorem val_30 : IsVal 4742290407621132288 (p2 30) := isVal_pow _ _ (by decide +kernel) (by omega)
theorem val_m256 : IsVal 3454260914193170432 (p2 (-256)) := isVal_pow _ _ (by decide +kernel) (by omega)
theorem val_20 : IsVal 4697254411347427328 (p2 20) := isVal_pow _ _ (by decide +kernel) (by omega)
theorem p2_30 : p2 30 = 1073741824 := by decide +kernel

theorem or_of {o : Option Ordering} {p q : Ordering} (h : (o == some p || o == some q) = true) : o = some p ∨ o = some q := by
  simpa using h

/-- the guards give the domain -/
theorem dom_of {a b x m : Nat} {n : Int}
    (A1 : (double.order a 4517110426252607488 == some .gt || double.order a 4517110426252607488 == some .eq) = true)
    (A2 : (double.order a 4742290407621132288 == some .lt || double.order a 4742290407621132288 == some .eq) = true)
    (B1 : (double.order b 0 == some .gt) = true)
    (B2 : (double.order b 4742290407621132288 == some .lt || double.order b 4742290407621132288 == some .eq) = true)
    (HX : (double.order x 0 == some .eq) = true ∨ ((double.order x 0 == some .eq) = false ∧ (double.order x 3454260914193170432 == some .gt || double.order x 3454260914193170432 == some .eq) = true ∧ (double.order x 4607182418800017408 == some .lt || double.order x 4607182418800017408 == some .eq) = true))
    (M1 : (double.order m 4607182418800017408 == some .gt || double.order m 4607182418800017408 == some .eq) = true)
    (M2 : (double.order m 4697254411347427328 == some .lt || double.order m 4697254411347427328 == some .eq) = true)
    (n0 : 0 ≤ n) (n1 : n ≤ 1048576) (NE : (double.order (floatOfInt .f64 n) m != some .eq) = false) :
    1 ≤ n ∧ ∃ A B X N, Dom a b x m A B X N n := by
  obtain ⟨A, va⟩ := fin_between val_m20 val_30 (or_of A1) (or_of A2)
  obtain ⟨B, vb⟩ := fin_between val_nought val_30 (.inl (by simpa using B1)) (or_of B2)
  obtain ⟨N, vm⟩ := fin_between val_one val_20 (or_of M1) (or_of M2)
  have a0 := (ge_spec va val_m20).mp A1
  have a1 := (le_spec va val_30).mp A2
  have b0 := (gt_spec vb val_nought).mp B1
  have b1 := (le_spec vb val_30).mp B2
  have m0 := (ge_spec vm val_one).mp M1
  rw [p2_m20] at a0
  rw [p2_30] at a1 b1
  have heq : (double.order (floatOfInt .f64 n) m == some .eq) = true := by
    cases h : (double.order (floatOfInt .f64 n) m == some .eq)
    · simp [bne, h] at NE
    · rfl
  have hn := (eq_spec (ofInt_spec n n0 (by omega)) vm).mp heq
  have hn1 : 1 ≤ n := by
    rw [← hn] at m0
    have h1 : ((1 : Int) : Rat) ≤ (n : Rat) := m0
    exact Rat.intCast_le_intCast.mp h1
  obtain ⟨X, vx, x0, x1⟩ : ∃ X, IsVal x X ∧ (X = 0 ∨ p2 (-256) ≤ X) ∧ X ≤ 1 := by
    rcases HX with X1 | ⟨_, X2, X3⟩
    · obtain ⟨X, vx⟩ := fin_eq val_nought (show double.order x 0 = some .eq by simpa using X1)
      have e := (eq_spec vx val_nought).mp X1
      exact ⟨X, vx, .inl e, by grind⟩
    · obtain ⟨X, vx⟩ := fin_between val_m256 val_one (or_of X2) (or_of X3)
      exact ⟨X, vx, .inr ((ge_spec vx val_m256).mp X2), (le_spec vx val_one).mp X3⟩
  exact ⟨hn1, A, B, X, N, ⟨va, vb, vx, vm, a0, a1, b0, b1, x0, x1, hn.symm, hn1, n1⟩⟩

set_option maxHeartbeats 2000000 in
theorem law_walk (a b x m : Nat) (w : World) :
    Calls Try.prog 3 #[.float .f64 a, .float .f64 b, .float .f64 x, .float .f64 m] w fun e w' => e = .returned (.bool true) ∧ w = w' := by
  cases A1 : (FloatKind.f64.format.order a 4517110426252607488 == some .gt || FloatKind.f64.format.order a 4517110426252607488 == some .eq)
  · go_enter Try.func3, Try.ntmps3
    go_wp2
    go_ret
    exact ⟨rfl, rfl⟩
  cases A2 : (FloatKind.f64.format.order a 4742290407621132288 == some .lt || FloatKind.f64.format.order a 4742290407621132288 == some .eq)
  · go_enter Try.func3, Try.ntmps3
    go_wp2
    go_ret
    exact ⟨rfl, rfl⟩
  cases B1 : (FloatKind.f64.format.order b 0 == some .gt)
  · go_enter Try.func3, Try.ntmps3
    go_wp2
    go_ret
    exact ⟨rfl, rfl⟩
  cases B2 : (FloatKind.f64.format.order b 4742290407621132288 == some .lt || FloatKind.f64.format.order b 4742290407621132288 == some .eq)
  · go_enter Try.func3, Try.ntmps3
    go_wp2
    go_ret
    exact ⟨rfl, rfl⟩
  have xs : ((FloatKind.f64.format.order x 0 == some .eq) = true ∨ ((FloatKind.f64.format.order x 0 == some .eq) = false ∧ (FloatKind.f64.format.order x 3454260914193170432 == some .gt || FloatKind.f64.format.order x 3454260914193170432 == some .eq) = true ∧ (FloatKind.f64.format.order x 4607182418800017408 == some .lt || FloatKind.f64.format.order x 4607182418800017408 == some .eq) = true)) ∨
      ((FloatKind.f64.format.order x 0 == some .eq) = false ∧ (FloatKind.f64.format.order x 3454260914193170432 == some .gt || FloatKind.f64.format.order x 3454260914193170432 == some .eq) = false) ∨
      ((FloatKind.f64.format.order x 0 == some .eq) = false ∧ (FloatKind.f64.format.order x 3454260914193170432 == some .gt || FloatKind.f64.format.order x 3454260914193170432 == some .eq) = true ∧ (FloatKind.f64.format.order x 4607182418800017408 == some .lt || FloatKind.f64.format.order x 4607182418800017408 == some .eq) = false) := by
    generalize (FloatKind.f64.format.order x 0 == some .eq) = p
    generalize (FloatKind.f64.format.order x 3454260914193170432 == some .gt || FloatKind.f64.format.order x 3454260914193170432 == some .eq) = q
    generalize (FloatKind.f64.format.order x 4607182418800017408 == some .lt || FloatKind.f64.format.order x 4607182418800017408 == some .eq) = r
    cases p <;> cases q <;> cases r <;> simp
  rcases xs with HX | ⟨X1, X2⟩ | ⟨X1, X2, X3⟩
  · cases M1 : (FloatKind.f64.format.order m 4607182418800017408 == some .gt || FloatKind.f64.format.order m 4607182418800017408 == some .eq)
    · rcases HX with X1 | ⟨X1, X2, X3⟩
      all_goals
        go_enter Try.func3, Try.ntmps3
        go_wp2
        go_ret
        exact ⟨rfl, rfl⟩
    cases M2 : (FloatKind.f64.format.order m 4697254411347427328 == some .lt || FloatKind.f64.format.order m 4697254411347427328 == some .eq)
    · rcases HX with X1 | ⟨X1, X2, X3⟩
      all_goals
        go_enter Try.func3, Try.ntmps3
        go_wp2
        go_ret
        exact ⟨rfl, rfl⟩
    obtain ⟨N, vm⟩ := fin_between val_one val_20 (or_of M1) (or_of M2)
    have m0 := (ge_spec vm val_one).mp M1
    have m1 := (le_spec vm val_20).mp M2
    rw [p2_20] at m1
    obtain ⟨n, hn, n0, n1⟩ := toInt_spec vm (by grind) m1
    cases NE : (FloatKind.f64.format.order (floatOfInt .f64 n) m != some .eq)
    · obtain ⟨n2, A, B, X, N', d⟩ := dom_of A1 A2 B1 B2 HX M1 M2 n0 n1 NE
      obtain ⟨got, t11, t12, t15, t17, t18, t19, t21, t24, t25, t27, t29, t32, t33, t34, t39, t40, t46, t51, he, ng⟩ := even_spec d
      obtain ⟨c1, u1, u2, u3, u4, u5, u6, u7, u8, ho, no⟩ := odd_spec d
      obtain ⟨c2, s1, s2, s3, s4, s5, s6, hv, nv⟩ := evenc_spec d
      obtain ⟨want, ew, nw⟩ := want_spec d no nv
      obtain ⟨diff, q1, q2, tol, rhs, e4, e1, e2, e3, e5, FL⟩ := close_enough d ng nw
      exact law_in A1 A2 B1 B2 HX M1 M2 hn n2 n1 NE (fun w => zz_walk he w) (fun w => odd_walk ho (by omega) (by omega) (by rw [beq_eq_false_iff_ne]; omega) w) (fun w => evenc_walk hv (by omega) (by omega) (by rw [beq_iff_eq]; omega) w) ew e1 e2 e3 e4 e5 FL w
    · have kc : ∀ w, (convert 22 3 (.float .f64 m)).run Try.prog w = .ok (.int .i64 n) w := fun w => run_convert_float_int w 22 3 .f64 .i64 m n (by rw [Try.underlying22]; rfl) Try.underlying3 hn
      clear vm m0 m1 hn
      rcases HX with X1 | ⟨X1, X2, X3⟩
      all_goals
        go_enter Try.func3, Try.ntmps3
        go_wp2
        go_ret
        exact ⟨rfl, rfl⟩
  · go_enter Try.func3, Try.ntmps3
    go_wp2
    go_ret
    exact ⟨rfl, rfl⟩
  · go_enter Try.func3, Try.ntmps3
    go_wp2
    go_ret
    exact ⟨rfl, rfl⟩
end Go.Proofs.Qxb6617533a
