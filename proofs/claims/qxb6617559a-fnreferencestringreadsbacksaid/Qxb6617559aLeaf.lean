/-
  The leaves of FnReferenceStringReadsBack: hasByteOf (9), hasOciPrefix (10), lastIndexOfByte (11), firstIndexOfByte (12).
-/
import Derived.Test.Qxb6617559aRows
import Derived.WalkKit
import Derived.WalkSpells
import Derived.WalkLawsBesides
import Derived.RowKit3
namespace Go.Proofs.Qxb6617559a
open Go.RowKit

/-- does s hold the byte b? -/
def hasB (s : ByteArray) (b : Int) : Bool := s.data.toList.any fun c => (c.toNat : Int) == b

theorem hasB_false {s : ByteArray} {b : Int} (h : ∀ k (hk : k < s.size), (s[k].toNat : Int) ≠ b) : hasB s b = false := by
  unfold hasB
  rw [List.any_eq_false]
  intro c hc
  obtain ⟨k, hk, rfl⟩ := List.getElem_of_mem hc
  have h1 : (s.data.toList[k].toNat : Int) ≠ b := h k (by simpa using hk)
  simpa using h1
theorem hasB_true {s : ByteArray} {b : Int} {k : Nat} (hk : k < s.size) (h : (s[k].toNat : Int) = b) : hasB s b = true := by
  unfold hasB
  rw [List.any_eq_true]
  exact ⟨s[k], List.getElem_mem (by simpa using hk), by simpa using h⟩
theorem hasB_none {s : ByteArray} {b : Int} (h : hasB s b = false) : ∀ k (hk : k < s.size), (s[k].toNat : Int) ≠ b := by
  intro k hk he
  rw [hasB_true hk he] at h
  exact absurd h (by simp)

theorem ret_bool {a b : Bool} (h : a = b) : Ending.returned (.bool a) = .returned (.bool b) := by rw [h]
theorem ret_int {k : IntKind} {a b : Int} (h : a = b) : Ending.returned (.int k a) = .returned (.int k b) := by rw [h]

set_option maxHeartbeats 400000 in
theorem has_any (s : ByteArray) (b : Int) (w : World) (hs : s.size ≤ maxLen) :
    Calls Try.prog 9 #[.string s, .int .u8 b] w fun e w' => e = .returned (.bool (hasB s b)) ∧ w' = w := by
  unfold maxLen at hs
  go_enter Try.func9, Try.ntmps9
  go_wp2
  go_loop [5] (fun i => ∃ k : Nat, k ≤ s.size ∧ i = .int .i64 k ∧ ∀ j (hj : j < s.size), j < k → (s[j].toNat : Int) ≠ b) (fun i => s.size - (intOf i).toNat)
  case atStart => exact ⟨0, Nat.zero_le _, rfl, by omega⟩
  case round =>
    obtain ⟨k, hk, rfl, hb⟩ := hrel
    have H : Hid (∀ j (hj : j < s.size), j < k → (s[j].toNat : Int) ≠ b) := hb
    clear hb
    by_cases hlt : k < s.size
    · go_wp2
      · have he : ((s[k].toNat : Int) == b) = true := by assumption
        go_ret
        exact ⟨ret_bool (hasB_true hlt (by simpa using he)).symm, rfl⟩
      · have he : ((s[k].toNat : Int) == b) = false := by assumption
        go_round
        case rel =>
          refine ⟨k + 1, by omega, by go_num, fun j hj hjk => ?_⟩
          by_cases hjk' : j = k
          · subst hjk'; simpa using he
          · exact H.out j hj (by omega)
        case measure => simp [intOf]; omega
    · go_wp2
      go_ret
      exact ⟨ret_bool (hasB_false fun j hj => H.out j hj (by omega)).symm, rfl⟩

set_option maxHeartbeats 400000 in
theorem last_at (s : ByteArray) (b : Int) (p : Nat) (hp : p < s.size) (hpb : (s[p].toNat : Int) = b) (hno : ∀ j (hj : j < s.size), p < j → (s[j].toNat : Int) ≠ b) (w : World) (hs : s.size ≤ maxLen) :
    Calls Try.prog 11 #[.string s, .int .u8 b] w fun e w' => e = .returned (.int .i64 p) ∧ w' = w := by
  unfold maxLen at hs
  have H : Hid (∀ j (hj : j < s.size), p < j → (s[j].toNat : Int) ≠ b) := hno
  have HB : Hid ((s[p].toNat : Int) = b) := hpb
  clear hno hpb
  go_enter Try.func11, Try.ntmps11
  go_wp2
  go_loop [5] (fun i => ∃ k : Nat, p ≤ k ∧ k < s.size ∧ i = .int .i64 k) (fun i => (intOf i).toNat)
  case atStart => exact ⟨s.size - 1, by omega, by omega, by go_num⟩
  case round =>
    obtain ⟨k, hk, hks, rfl⟩ := hrel
    by_cases hkp : k = p
    · subst hkp
      have he : ((s[k].toNat : Int) == b) = true := by simpa using HB.out
      go_wp2
      go_ret
      exact ⟨rfl, rfl⟩
    · have he : ((s[k].toNat : Int) == b) = false := by simpa using H.out k hks (by omega)
      go_wp2
      go_round
      case rel => exact ⟨k - 1, by omega, by omega, by go_num⟩
      case measure => simp [intOf]; omega

set_option maxHeartbeats 400000 in
theorem last_none (s : ByteArray) (b : Int) (hno : ∀ j (hj : j < s.size), (s[j].toNat : Int) ≠ b) (w : World) (hs : s.size ≤ maxLen) :
    Calls Try.prog 11 #[.string s, .int .u8 b] w fun e w' => e = .returned (.int .i64 (-1)) ∧ w' = w := by
  unfold maxLen at hs
  have H : Hid (∀ j (hj : j < s.size), (s[j].toNat : Int) ≠ b) := hno
  clear hno
  go_enter Try.func11, Try.ntmps11
  go_wp2
  go_loop [5] (fun i => ∃ k : Nat, k ≤ s.size ∧ i = .int .i64 ((k : Int) - 1)) (fun i => (intOf i + 1).toNat)
  case atStart => exact ⟨s.size, by omega, by go_num⟩
  case round =>
    obtain ⟨k, hks, rfl⟩ := hrel
    by_cases hk : k = 0
    · subst hk
      go_wp2
      go_ret
      exact ⟨rfl, rfl⟩
    · obtain ⟨m, rfl⟩ : ∃ m, k = m + 1 := ⟨k - 1, by omega⟩
      have hm : m < s.size := by omega
      have he : ((s[m].toNat : Int) == b) = false := by simpa using H.out m hm
      have em : ((m + 1 : Nat) : Int) - 1 = m := by omega
      go_wp2
      go_round
      case rel => exact ⟨m, by omega, by go_num⟩
      case measure => simp [intOf]

set_option maxHeartbeats 400000 in
theorem first_at (s : ByteArray) (b : Int) (p : Nat) (hp : p < s.size) (hpb : (s[p].toNat : Int) = b) (hno : ∀ j (hj : j < s.size), j < p → (s[j].toNat : Int) ≠ b) (w : World) (hs : s.size ≤ maxLen) :
    Calls Try.prog 12 #[.string s, .int .u8 b] w fun e w' => e = .returned (.int .i64 p) ∧ w' = w := by
  unfold maxLen at hs
  have H : Hid (∀ j (hj : j < s.size), j < p → (s[j].toNat : Int) ≠ b) := hno
  have HB : Hid ((s[p].toNat : Int) = b) := hpb
  clear hno hpb
  go_enter Try.func12, Try.ntmps12
  go_wp2
  go_loop [5] (fun i => ∃ k : Nat, k ≤ p ∧ i = .int .i64 k) (fun i => p - (intOf i).toNat)
  case atStart => exact ⟨0, by omega, by go_num⟩
  case round =>
    obtain ⟨k, hk, rfl⟩ := hrel
    have hks : k < s.size := by omega
    by_cases hkp : k = p
    · subst hkp
      have he : ((s[k].toNat : Int) == b) = true := by simpa using HB.out
      go_wp2
      go_ret
      exact ⟨rfl, rfl⟩
    · have he : ((s[k].toNat : Int) == b) = false := by simpa using H.out k hks (by omega)
      go_wp2
      go_round
      case rel => exact ⟨k + 1, by omega, by go_num⟩
      case measure => simp [intOf]; omega

/-- does s begin with "oci:"? -/
def ociB (s : ByteArray) : Bool := if h : 4 ≤ s.size then ((s[0].toNat : Int) == 111) && (((s[1].toNat : Int) == 99) && (((s[2].toNat : Int) == 105) && ((s[3].toNat : Int) == 58))) else false

set_option maxHeartbeats 400000 in
theorem oci_any (s : ByteArray) (w : World) (hs : s.size ≤ maxLen) :
    Calls Try.prog 10 #[.string s] w fun e w' => e = .returned (.bool (ociB s)) ∧ w' = w := by
  unfold maxLen at hs
  by_cases h4 : 4 ≤ s.size
  · have e : ociB s = (((s[0].toNat : Int) == 111) && (((s[1].toNat : Int) == 99) && (((s[2].toNat : Int) == 105) && ((s[3].toNat : Int) == 58)))) := by unfold ociB; rw [dif_pos h4]
    cases h0 : ((s[0].toNat : Int) == 111)
    · go_enter Try.func10, Try.ntmps10
      go_wp2
      go_ret
      exact ⟨ret_bool (by rw [e, h0]; rfl), rfl⟩
    · cases h1 : ((s[1].toNat : Int) == 99)
      · go_enter Try.func10, Try.ntmps10
        go_wp2
        go_ret
        exact ⟨ret_bool (by rw [e, h0, h1]; rfl), rfl⟩
      · cases h2 : ((s[2].toNat : Int) == 105)
        · go_enter Try.func10, Try.ntmps10
          go_wp2
          go_ret
          exact ⟨ret_bool (by rw [e, h0, h1, h2]; rfl), rfl⟩
        · go_enter Try.func10, Try.ntmps10
          go_wp2
          go_ret
          exact ⟨ret_bool (by rw [e, h0, h1, h2]; simp), rfl⟩
  · go_enter Try.func10, Try.ntmps10
    go_wp2
    go_ret
    exact ⟨ret_bool (by unfold ociB; rw [dif_neg h4]), rfl⟩
end Go.Proofs.Qxb6617559a
