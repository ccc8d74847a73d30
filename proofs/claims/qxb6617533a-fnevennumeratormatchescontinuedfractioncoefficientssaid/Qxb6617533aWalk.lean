/-
  The walks: evenNumerator (7), ZZevenNumerator (4), zzCFCoef (5), zzAbs (6).
-/
import Derived.Test.Qxb6617533aRows
import Derived.Test.Qxb6617533aLaw
import Derived.WalkKit
import Derived.WalkSpells
import Derived.WalkLawsBesides
import Derived.Laws.FloatArith
import Derived.RowKit3
namespace Go.Proofs.Qxb6617533a
open Go.RowKit

theorem run_ar (op : BinOp) {x y r : Nat} (h : floatBits op .f64 x y = some r) : ∀ w, (binOp op 22 (.float .f64 x) (.float .f64 y)).run Try.prog w = .ok (.float .f64 r) w := fun w => run_float_arith w op 22 .f64 x y r h

theorem run_neg (x : Nat) : ∀ w, (Op.unary .neg (.float .f64 x)).run Try.prog w = .ok (.float .f64 (Op.negFloat .f64 x)) w := fun _ => rfl

set_option maxHeartbeats 1000000 in
theorem even_walk {a b x m r t11 t12 t15 t17 t18 t19 t21 t24 t25 t27 t29 t32 t33 t34 t39 t40 t46 t51 : Nat} (h : EvenBits a b x m r t11 t12 t15 t17 t18 t19 t21 t24 t25 t27 t29 t32 t33 t34 t39 t40 t46 t51) (w : World) :
    Calls Try.prog 7 #[.float .f64 a, .float .f64 b, .float .f64 x, .float .f64 m] w fun e w' => e = .returned (.float .f64 r) ∧ w = w' := by
  have k11 := run_ar _ h.h11
  have k12 := run_ar _ h.h12
  have k15 := run_ar _ h.h15
  have k17 := run_ar _ h.h17
  have k18 := run_ar _ h.h18
  have k19 := run_ar _ h.h19
  have k21 := run_ar _ h.h21
  have k24 := run_ar _ h.h24
  have k25 := run_ar _ h.h25
  have k27 := run_ar _ h.h27
  have k29 := run_ar _ h.h29
  have k32 := run_ar _ h.h32
  have k33 := run_ar _ h.h33
  have k34 := run_ar _ h.h34
  have k39 := run_ar _ h.h39
  have k40 := run_ar _ h.h40
  have k46 := run_ar _ h.h46
  have k51 := run_ar _ h.h51
  have k52 := run_ar _ h.h52
  clear h
  go_enter Try.func7, Try.ntmps7
  go_wp2
  go_ret
  exact ⟨rfl, rfl⟩

theorem zz_walk {a b x m r t11 t12 t15 t17 t18 t19 t21 t24 t25 t27 t29 t32 t33 t34 t39 t40 t46 t51 : Nat} (h : EvenBits a b x m r t11 t12 t15 t17 t18 t19 t21 t24 t25 t27 t29 t32 t33 t34 t39 t40 t46 t51) (w : World) :
    Calls Try.prog 4 #[.float .f64 a, .float .f64 b, .float .f64 x, .float .f64 m] w fun e w' => e = .returned (.float .f64 r) ∧ w = w' := by
  go_enter Try.func4, Try.ntmps4
  go_wp2_with (go_at_call 7; refine (even_walk h _).mono ?_; rintro e w' ⟨rfl, rfl⟩)
  go_ret
  exact ⟨rfl, rfl⟩

theorem abs_walk (v : Nat) (w : World) : Calls Try.prog 6 #[.float .f64 v] w fun e w' => e = .returned (.float .f64 (absBits v)) ∧ w = w' := by
  cases h : (Ieee.double.order v 0 == some .lt)
  · have e : absBits v = v := by unfold absBits; rw [h]; rfl
    have h' : (FloatKind.f64.format.order v 0 == some .lt) = false := h
    rw [e]
    go_enter Try.func6, Try.ntmps6
    go_wp2
    go_ret
    exact ⟨rfl, rfl⟩
  · have e : absBits v = Op.negFloat .f64 v := by unfold absBits; rw [h]; rfl
    have h' : (FloatKind.f64.format.order v 0 == some .lt) = true := h
    have kn := run_neg v
    rw [e]
    go_enter Try.func6, Try.ntmps6
    go_wp2
    go_ret
    exact ⟨rfl, rfl⟩

set_option maxHeartbeats 1000000 in
theorem odd_walk {j : Int} {a b x r t16 t20 t21 t43 t47 t49 t50 t52 : Nat} (h : CoefOdd j a b x r t16 t20 t21 t43 t47 t49 t50 t52) (h0 : 1 ≤ j) (h1 : j ≤ 4194304) (ho : (j % 2 == 0) = false) (w : World) :
    Calls Try.prog 5 #[.int .i64 j, .float .f64 a, .float .f64 b, .float .f64 x] w fun e w' => e = .returned (.float .f64 r) ∧ w = w' := by
  have k16 := run_ar _ h.h16
  have k20 := run_ar _ h.h20
  have k21 := run_ar _ h.h21
  have k43 := run_ar _ h.h43
  have k47 := run_ar _ h.h47
  have k49 := run_ar _ h.h49
  have k50 := run_ar _ h.h50
  have k52 := run_ar _ h.h52
  have k54 := run_ar _ h.h54
  have kn := run_neg t43
  clear h
  go_enter Try.func5, Try.ntmps5
  go_wp2
  go_ret
  exact ⟨rfl, rfl⟩
set_option maxHeartbeats 1000000 in
theorem evenc_walk {j : Int} {a b x r t16 t20 t21 t31 t32 t34 : Nat} (h : CoefEven j a b x r t16 t20 t21 t31 t32 t34) (h0 : 1 ≤ j) (h1 : j ≤ 4194304) (ho : (j % 2 == 0) = true) (w : World) :
    Calls Try.prog 5 #[.int .i64 j, .float .f64 a, .float .f64 b, .float .f64 x] w fun e w' => e = .returned (.float .f64 r) ∧ w = w' := by
  have k16 := run_ar _ h.h16
  have k20 := run_ar _ h.h20
  have k21 := run_ar _ h.h21
  have k31 := run_ar _ h.h31
  have k32 := run_ar _ h.h32
  have k34 := run_ar _ h.h34
  have k36 := run_ar _ h.h36
  clear h
  go_enter Try.func5, Try.ntmps5
  go_wp2
  go_ret
  exact ⟨rfl, rfl⟩


/-- THE LAW's WALK, inside the domain -/
theorem law_in {a b x m : Nat} {n : Int} {got c1 c2 want q1 q2 tol diff rhs : Nat}
    (A1 : (FloatKind.f64.format.order a 4517110426252607488 == some .gt || FloatKind.f64.format.order a 4517110426252607488 == some .eq) = true)
    (A2 : (FloatKind.f64.format.order a 4742290407621132288 == some .lt || FloatKind.f64.format.order a 4742290407621132288 == some .eq) = true)
    (B1 : (FloatKind.f64.format.order b 0 == some .gt) = true)
    (B2 : (FloatKind.f64.format.order b 4742290407621132288 == some .lt || FloatKind.f64.format.order b 4742290407621132288 == some .eq) = true)
    (HX : (FloatKind.f64.format.order x 0 == some .eq) = true ∨ ((FloatKind.f64.format.order x 0 == some .eq) = false ∧ (FloatKind.f64.format.order x 3454260914193170432 == some .gt || FloatKind.f64.format.order x 3454260914193170432 == some .eq) = true ∧ (FloatKind.f64.format.order x 4607182418800017408 == some .lt || FloatKind.f64.format.order x 4607182418800017408 == some .eq) = true))
    (M1 : (FloatKind.f64.format.order m 4607182418800017408 == some .gt || FloatKind.f64.format.order m 4607182418800017408 == some .eq) = true)
    (M2 : (FloatKind.f64.format.order m 4697254411347427328 == some .lt || FloatKind.f64.format.order m 4697254411347427328 == some .eq) = true)
    (hn : floatToIntVal .f64 m .i64 = some n) (n0 : 1 ≤ n) (n1 : n ≤ 1048576)
    (NE : (FloatKind.f64.format.order (floatOfInt .f64 n) m != some .eq) = false)
    (hg : ∀ w, Calls Try.prog 4 #[.float .f64 a, .float .f64 b, .float .f64 x, .float .f64 m] w fun e w' => e = .returned (.float .f64 got) ∧ w = w')
    (h1 : ∀ w, Calls Try.prog 5 #[.int .i64 (2 * n - 1), .float .f64 a, .float .f64 b, .float .f64 x] w fun e w' => e = .returned (.float .f64 c1) ∧ w = w')
    (h2 : ∀ w, Calls Try.prog 5 #[.int .i64 (2 * n), .float .f64 a, .float .f64 b, .float .f64 x] w fun e w' => e = .returned (.float .f64 c2) ∧ w = w')
    (ew : floatBits .mul .f64 (Op.negFloat .f64 c1) c2 = some want)
    (e1 : floatBits .quo .f64 4607182418800017408 a = some q1) (e2 : floatBits .add .f64 4607182418800017408 q1 = some q2) (e3 : floatBits .mul .f64 4404520435568345088 q2 = some tol)
    (e4 : floatBits .sub .f64 got want = some diff) (e5 : floatBits .mul .f64 tol (absBits want) = some rhs)
    (FL : (FloatKind.f64.format.order (absBits diff) rhs == some .lt || FloatKind.f64.format.order (absBits diff) rhs == some .eq) = true)
    (w : World) :
    Calls Try.prog 3 #[.float .f64 a, .float .f64 b, .float .f64 x, .float .f64 m] w fun e w' => e = .returned (.bool true) ∧ w = w' := by
  have kc : ∀ w, (convert 22 3 (.float .f64 m)).run Try.prog w = .ok (.int .i64 n) w := fun w => run_convert_float_int w 22 3 .f64 .i64 m n (by rw [Try.underlying22]; rfl) Try.underlying3 hn
  have kw := run_ar _ ew
  have k1 := run_ar _ e1
  have k2 := run_ar _ e2
  have k3 := run_ar _ e3
  have k4 := run_ar _ e4
  have k5 := run_ar _ e5
  have kn := run_neg c1
  have HG : Hid (∀ w, Calls Try.prog 4 #[.float .f64 a, .float .f64 b, .float .f64 x, .float .f64 m] w fun e w' => e = .returned (.float .f64 got) ∧ w = w') := hg
  have H1 : Hid (∀ w, Calls Try.prog 5 #[.int .i64 (2 * n - 1), .float .f64 a, .float .f64 b, .float .f64 x] w fun e w' => e = .returned (.float .f64 c1) ∧ w = w') := h1
  have H2 : Hid (∀ w, Calls Try.prog 5 #[.int .i64 (2 * n), .float .f64 a, .float .f64 b, .float .f64 x] w fun e w' => e = .returned (.float .f64 c2) ∧ w = w') := h2
  clear hg h1 h2 ew e1 e2 e3 e4 e5 hn
  rcases HX with X1 | ⟨X1, X2, X3⟩
  all_goals
    go_enter Try.func3, Try.ntmps3
    go_wp2_with fail
    refine (HG.out _).mono ?_
    rintro e w' ⟨rfl, rfl⟩
    go_wp2_with fail
    refine (H1.out _).mono ?_
    rintro e w' ⟨rfl, rfl⟩
    go_wp2_with fail
    refine (H2.out _).mono ?_
    rintro e w' ⟨rfl, rfl⟩
    go_wp2_with (go_at_call 6; refine (abs_walk _ _).mono ?_; rintro e w' ⟨rfl, rfl⟩)
    go_ret
    exact ⟨rfl, rfl⟩
end Go.Proofs.Qxb6617533a
