/-
  THE PLAIN LAW of 'FnHasIsBitMembership' and the contracts of cron.has and cron.ZZhas.
-/
import Derived.Test.Qxb6617512aRows
import Derived.WalkKit
import Derived.Laws.ShiftsVar
namespace Go.Proofs.Qxb6617512a
open Go.RowKit

/-- is bit v of s one? -/
def bitB (s v : Int) : Bool := decide (v < 64 ∧ s / 2 ^ v.toNat % 2 = 1)

theorem bit_test (s v : Int) (hs0 : 0 ≤ s) (hs : s < 18446744073709551616) (hv : 0 ≤ v) :
    (bits BinOp.and IntKind.u64 s (IntKind.u64.wrap (2 ^ min v.toNat 64)) != 0) = bitB s v := by
  have hm : (0 : Int) ≤ 2 ^ min v.toNat 64 % 18446744073709551616 ∧ (2 : Int) ^ min v.toNat 64 % 18446744073709551616 < 18446744073709551616 :=
    ⟨Int.emod_nonneg _ (by decide), Int.emod_lt_of_pos _ (by decide)⟩
  rw [IntKind.wrap_u64, u64_and _ _ hs0 hs hm.1 hm.2]
  have h := u64_bit_test_var s v hs0 hv
  unfold bitB
  rw [Bool.eq_iff_iff]
  simp only [bne_iff_ne, ne_eq, decide_eq_true_eq, h, Decidable.not_not]

theorem ret_bool {a b : Bool} (h : a = b) : Ending.returned (.bool a) = .returned (.bool b) := by rw [h]

theorem has_any (s v : Int) (hs0 : 0 ≤ s) (hs : s < 18446744073709551616) (hv : 0 ≤ v) (w : World) :
    Calls Try.prog 5 #[.int .u64 s, .int .i64 v] w fun e w' => e = .returned (.bool (bitB s v)) ∧ w' = w := by
  have hb := bit_test s v hs0 hs hv
  go_enter Try.func5, Try.ntmps5
  go_wp2
  go_ret
  exact ⟨rfl, rfl⟩

theorem zzhas_any (s v : Int) (hs0 : 0 ≤ s) (hs : s < 18446744073709551616) (hv : 0 ≤ v) (w : World) :
    Calls Try.prog 4 #[.int .u64 s, .int .i64 v] w fun e w' => e = .returned (.bool (bitB s v)) ∧ w' = w := by
  go_enter Try.func4, Try.ntmps4
  go_wp2_with (go_at_call 5; refine (has_any s v hs0 hs hv _).mono ?_; rintro e w' ⟨rfl, rfl⟩)
  go_ret
  exact ⟨rfl, rfl⟩

/-! ### the plain law: rebuilding, halving -/
def reb (s : Int) (k : Nat) : Int := s % 2 ^ k
def wei (k : Nat) : Int := 2 ^ k % 18446744073709551616
def hal (s : Int) (k : Nat) : Int := s / 2 ^ k

theorem pos2 (k : Nat) : (0 : Int) < 2 ^ k := Int.pow_pos (by decide)
theorem pow_le {m n : Nat} (h : m ≤ n) : (2 : Int) ^ m ≤ 2 ^ n := by
  have := Nat.pow_le_pow_right (n := 2) (by decide) h
  exact_mod_cast this
theorem mod_succ (s : Int) (k : Nat) : s % 2 ^ (k + 1) = s % 2 ^ k + (s / 2 ^ k % 2) * 2 ^ k := by
  have h1 := Int.mul_ediv_add_emod s (2 ^ k)
  have h2 := Int.mul_ediv_add_emod (s / 2 ^ k) 2
  have hp := pos2 k
  have hr0 := Int.emod_nonneg s (show (2 : Int) ^ k ≠ 0 by omega)
  have hr1 := Int.emod_lt_of_pos s hp
  generalize s / 2 ^ k = q at *
  generalize s % 2 ^ k = r at *
  have hq0 := Int.emod_nonneg q (show (2 : Int) ≠ 0 by decide)
  have hq1 := Int.emod_lt_of_pos q (show (0 : Int) < 2 by decide)
  generalize q % 2 = b at *
  generalize q / 2 = d at *
  have e : s = r + b * 2 ^ k + 2 ^ (k + 1) * d := by
    rw [Int.pow_succ, ← h1, ← h2, Int.mul_add, Int.mul_comm b, Int.mul_assoc]; omega
  rw [e, Int.add_mul_emod_self_left]
  apply Int.emod_eq_of_lt
  · have : 0 ≤ b * 2 ^ k := Int.mul_nonneg hq0 (Int.le_of_lt hp)
    omega
  · have : b * 2 ^ k ≤ 1 * 2 ^ k := Int.mul_le_mul_of_nonneg_right (by omega) (Int.le_of_lt hp)
    rw [Int.pow_succ]; omega
theorem reb_yes (s : Int) (k : Nat) (hk : k < 64) (h : bitB s k = true) : (reb s k + wei k) % 18446744073709551616 = reb s (k + 1) := by
  unfold bitB at h
  have h2 : s / 2 ^ k % 2 = 1 := by simp at h; exact h.2
  unfold reb wei
  have hl : (2 : Int) ^ (k + 1) ≤ 2 ^ 64 := pow_le (by omega)
  have hp := pos2 k
  rw [Int.pow_succ] at hl
  have hw : (2 : Int) ^ k % 18446744073709551616 = 2 ^ k := Int.emod_eq_of_lt (by omega) (by omega)
  have hr0 := Int.emod_nonneg s (show (2 : Int) ^ k ≠ 0 by omega)
  have hr1 := Int.emod_lt_of_pos s hp
  rw [hw, mod_succ, h2, Int.one_mul]
  exact Int.emod_eq_of_lt (by omega) (by omega)
theorem reb_no (s : Int) (k : Nat) (hk : k < 64) (h : bitB s k = false) : reb s k = reb s (k + 1) := by
  unfold bitB at h
  have h2 : ¬ s / 2 ^ k % 2 = 1 := by simp at h; exact h (by omega)
  unfold reb
  have h0 : s / 2 ^ k % 2 = 0 := by omega
  rw [mod_succ, h0]; omega
theorem wei_succ (k : Nat) : (wei k * 2) % 18446744073709551616 = wei (k + 1) := by
  unfold wei
  rw [Int.pow_succ]; omega
theorem hal_succ (s : Int) (k : Nat) : hal s k / 2 = hal s (k + 1) := by
  unfold hal
  rw [Int.pow_succ, Int.ediv_ediv_of_nonneg (Int.le_of_lt (pos2 k))]
theorem reb_end (s : Int) (hs0 : 0 ≤ s) (hs : s < 18446744073709551616) : reb s 64 = s := Int.emod_eq_of_lt hs0 hs
theorem hal_zero (s : Int) (k v : Nat) (hk : k ≤ v) (h : hal s k = 0) : hal s v = 0 := by
  unfold hal at *
  obtain ⟨d, rfl⟩ : ∃ d, v = k + d := ⟨v - k, by omega⟩
  rw [Int.pow_add, ← Int.ediv_ediv_of_nonneg (Int.le_of_lt (pos2 k)), h]
  simp
theorem hal_bit (s : Int) (v : Nat) (hs0 : 0 ≤ s) (hs : s < 18446744073709551616) : (hal s v % 2 == 1) = bitB s v := by
  unfold hal bitB
  rw [Bool.eq_iff_iff]
  simp only [beq_iff_eq, decide_eq_true_eq, Int.toNat_natCast]
  constructor
  · intro h
    refine ⟨?_, h⟩
    by_cases c : v < 64
    · omega
    · have hl : (2 : Int) ^ 64 ≤ 2 ^ v := pow_le (by omega)
      rw [Int.ediv_eq_zero_of_lt hs0 (by omega)] at h
      omega
  · exact fun h => h.2
end Go.Proofs.Qxb6617512a
