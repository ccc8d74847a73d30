import Derived.Test.Qxb6617512aHas
import Derived.WalkKit
import Derived.WalkSpells
import Derived.WalkLawsBesides
import Derived.Deep.QuietTactic
import Derived.BigQuiet
import Derived.RowKit3
namespace Go.Proofs.Qxb6617512a
open Go.RowKit

theorem int_eq {k : IntKind} {a b : Int} (h : a = b) : Value.int k a = .int k b := by rw [h]

set_option maxHeartbeats 400000 in
theorem walk_pos (a0 : Int) (v : Nat) (h0 : 0 ≤ a0) (h1 : a0 < 18446744073709551616) (hv : (v : Int) ≤ 9223372036854775807) (w : World) :
    Calls Try.prog 3 #[.int .u64 a0, .int .i64 v] w fun e w' => e = .returned (.bool true) ∧ Grown w w' := by
  go_enter Try.func3, Try.ntmps3
  go_wp2
  go_loop [5, 6, 7] (fun r t i => ∃ k : Nat, k ≤ 64 ∧ i = .int .i64 k ∧ r = .int .u64 (reb a0 k) ∧ t = .int .u64 (wei k)) (fun _ _ i => 64 - (intOf i).toNat)
  case atStart => exact ⟨0, by omega, rfl, by simp [reb, Int.emod_one], rfl⟩
  case round =>
    obtain ⟨k, hk, rfl, rfl, rfl⟩ := hrel
    by_cases hlt : k < 64
    · cases hb : bitB a0 k
      · go_wp2_with (go_at_call 4; refine (zzhas_any a0 k h0 h1 (by omega) _).mono ?_; rintro e w' ⟨rfl, rfl⟩)
        go_round
        case rel => exact ⟨k + 1, by omega, by go_num, int_eq (reb_no a0 k hlt hb), int_eq (by rw [IntKind.wrap_u64]; exact wei_succ k)⟩
        case measure => simp [intOf]; omega
      · go_wp2_with (go_at_call 4; refine (zzhas_any a0 k h0 h1 (by omega) _).mono ?_; rintro e w' ⟨rfl, rfl⟩)
        go_round
        case rel => exact ⟨k + 1, by omega, by go_num, int_eq (by rw [IntKind.wrap_u64]; exact reb_yes a0 k hlt hb), int_eq (by rw [IntKind.wrap_u64]; exact wei_succ k)⟩
        case measure => simp [intOf]; omega
    · obtain rfl : k = 64 := by omega
      go_wp2
      go_loop [8, 9] (fun y i => ∃ k : Nat, k ≤ v ∧ i = .int .i64 k ∧ y = .int .u64 (hal a0 k)) (fun _ i => v - (intOf i).toNat)
      case atStart => exact ⟨0, by omega, rfl, by simp [hal]⟩
      case round =>
        obtain ⟨k, hk, rfl, rfl⟩ := hrel
        have hh0 : 0 ≤ hal a0 k := Int.ediv_nonneg h0 (Int.le_of_lt (pos2 k))
        have hh1 : hal a0 k ≤ a0 := Int.ediv_le_self _ h0
        have hr : (reb a0 64 == a0) = true := by rw [reb_end a0 h0 h1]; simp
        by_cases hlt : k < v
        · by_cases hz : hal a0 k = 0
          · have hb : bitB a0 v = false := by
              rw [← hal_bit a0 v h0 h1, hal_zero a0 k v hk hz]; rfl
            go_wp2_with (go_at_call 4; refine (zzhas_any a0 v h0 h1 (by omega) _).mono ?_; rintro e w' ⟨rfl, rfl⟩)
            go_ret
            exact ⟨rfl, Grown.refl _⟩
          · go_wp2
            go_round
            case rel => exact ⟨k + 1, by omega, by go_num, int_eq (hal_succ a0 k)⟩
            case measure => simp [intOf]; omega
        · obtain rfl : k = v := by omega
          have hb := hal_bit a0 k h0 h1
          go_wp2_with (go_at_call 4; refine (zzhas_any a0 k h0 h1 (by omega) _).mono ?_; rintro e w' ⟨rfl, rfl⟩)
          go_ret
          exact ⟨rfl, Grown.refl _⟩
end Go.Proofs.Qxb6617512a
