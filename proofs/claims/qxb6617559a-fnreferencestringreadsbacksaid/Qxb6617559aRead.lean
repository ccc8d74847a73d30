/-
  refRead (8), at a text whose last mark is known: four ways.
-/
import Derived.Test.Qxb6617559aDom
import Derived.Deep.QuietTactic
import Derived.BigQuiet
import Derived.Sort.AtCall
namespace Go.Proofs.Qxb6617559a
open Go.RowKit

theorem grown_drewN (w : World) (n : Nat) : Grown w (w.drewN n) := by
  induction n generalizing w with
  | zero => exact Grown.refl _
  | succ n ih => exact ih w.drew

set_option maxHeartbeats 400000 in
theorem read_dig_L (s h d : ByteArray) (p : Nat) (hs : s.size ≤ maxLen) (hh : h.size ≤ maxLen) (hp : p < s.size) (hpb : (s[p].toNat : Int) = 64) (hno : ∀ j (hj : j < s.size), p < j → (s[j].toNat : Int) ≠ 64)
    (e1 : s.extract 0 p = h) (e2 : s.extract (p + 1) s.size = d) (hd : d.toList.isEmpty = false) (lay : ByteArray) (ho : ociB h = true) (h4 : 4 < h.size) (e3 : h.extract 4 h.size = lay) (w : World) :
    Calls Try.prog 8 #[.string s] w fun e w' => e = .returned (.tuple #[.bool true, .string ⟨#[]⟩, .string ⟨#[]⟩, .string lay, .string ⟨#[]⟩, .string d]) ∧ Grown w w' := by
  have hc := fun w => last_at s 64 p hp hpb hno w hs
  have H : Hid (∀ w, Calls Try.prog 11 #[.string s, .int .u8 64] w fun e w' => e = .returned (.int .i64 p) ∧ w' = w) := hc
  clear hc hno hpb
  have hs' := hs
  have hh' := hh
  unfold maxLen at hs' hh'
  go_enter Try.func8, Try.ntmps8
  go_wp2_with (first | (go_at_call 11; refine (H.out _).mono ?_; rintro e w' ⟨rfl, rfl⟩) | (go_at_call 10; refine (oci_any _ _ hh).mono ?_; rintro e w' ⟨rfl, rfl⟩))
  go_quiet (fail)
  go_wp2
  exact bodyPost_ret (v := .tuple #[.bool true, .string ⟨#[]⟩, .string ⟨#[]⟩, .string lay, .string ⟨#[]⟩, .string d]) (by simp [results, Try.results8, go_sem]) rfl ⟨rfl, grown_drewN _ _⟩

set_option maxHeartbeats 400000 in
theorem read_dig_R (s h d : ByteArray) (p : Nat) (hs : s.size ≤ maxLen) (hh : h.size ≤ maxLen) (hp : p < s.size) (hpb : (s[p].toNat : Int) = 64) (hno : ∀ j (hj : j < s.size), p < j → (s[j].toNat : Int) ≠ 64)
    (e1 : s.extract 0 p = h) (e2 : s.extract (p + 1) s.size = d) (hd : d.toList.isEmpty = false) (reg repo : ByteArray) (q : Nat) (ho : ociB h = false) (hq : q < h.size) (hqb : (h[q].toNat : Int) = 47) (hnq : ∀ j (hj : j < h.size), j < q → (h[j].toNat : Int) ≠ 47) (e3 : h.extract 0 q = reg) (e4 : h.extract (q + 1) h.size = repo) (w : World) :
    Calls Try.prog 8 #[.string s] w fun e w' => e = .returned (.tuple #[.bool true, .string reg, .string repo, .string ⟨#[]⟩, .string ⟨#[]⟩, .string d]) ∧ Grown w w' := by
  have hc := fun w => last_at s 64 p hp hpb hno w hs
  have H : Hid (∀ w, Calls Try.prog 11 #[.string s, .int .u8 64] w fun e w' => e = .returned (.int .i64 p) ∧ w' = w) := hc
  clear hc hno hpb
  have hc := fun w => first_at h 47 q hq hqb hnq w hh
  have HQ : Hid (∀ w, Calls Try.prog 12 #[.string h, .int .u8 47] w fun e w' => e = .returned (.int .i64 q) ∧ w' = w) := hc
  clear hc hnq hqb
  have hs' := hs
  have hh' := hh
  unfold maxLen at hs' hh'
  go_enter Try.func8, Try.ntmps8
  go_wp2_with (first | (go_at_call 11; refine (H.out _).mono ?_; rintro e w' ⟨rfl, rfl⟩) | (go_at_call 10; refine (oci_any _ _ hh).mono ?_; rintro e w' ⟨rfl, rfl⟩) | (go_at_call 12; refine (HQ.out _).mono ?_; rintro e w' ⟨rfl, rfl⟩))
  go_quiet (fail)
  go_wp2
  exact bodyPost_ret (v := .tuple #[.bool true, .string reg, .string repo, .string ⟨#[]⟩, .string ⟨#[]⟩, .string d]) (by simp [results, Try.results8, go_sem]) rfl ⟨rfl, grown_drewN _ _⟩

set_option maxHeartbeats 400000 in
theorem read_tag_L (s h t : ByteArray) (p : Nat) (hs : s.size ≤ maxLen) (hh : h.size ≤ maxLen) (hp : p < s.size) (hpb : (s[p].toNat : Int) = 58) (hno : ∀ j (hj : j < s.size), p < j → (s[j].toNat : Int) ≠ 58)
    (e1 : s.extract 0 p = h) (e2 : s.extract (p + 1) s.size = t) (hat : ∀ j (hj : j < s.size), (s[j].toNat : Int) ≠ 64) (lay : ByteArray) (ho : ociB h = true) (h4 : 4 < h.size) (e3 : h.extract 4 h.size = lay) (w : World) :
    Calls Try.prog 8 #[.string s] w fun e w' => e = .returned (.tuple #[.bool true, .string ⟨#[]⟩, .string ⟨#[]⟩, .string lay, .string t, .string ⟨#[]⟩]) ∧ Grown w w' := by
  have hc := fun w => last_at s 58 p hp hpb hno w hs
  have H : Hid (∀ w, Calls Try.prog 11 #[.string s, .int .u8 58] w fun e w' => e = .returned (.int .i64 p) ∧ w' = w) := hc
  clear hc hno hpb
  have hc := fun w => last_none s 64 hat w hs
  have HA : Hid (∀ w, Calls Try.prog 11 #[.string s, .int .u8 64] w fun e w' => e = .returned (.int .i64 (-1)) ∧ w' = w) := hc
  clear hc hat
  have hs' := hs
  have hh' := hh
  unfold maxLen at hs' hh'
  go_enter Try.func8, Try.ntmps8
  go_wp2_with (first | (go_at_call_has 11 (Value.int .u8 64); refine (HA.out _).mono ?_; rintro e w' ⟨rfl, rfl⟩) | (go_at_call_has 11 (Value.int .u8 58); refine (H.out _).mono ?_; rintro e w' ⟨rfl, rfl⟩) | (go_at_call 10; refine (oci_any _ _ hh).mono ?_; rintro e w' ⟨rfl, rfl⟩))
  go_quiet (fail)
  go_wp2
  exact bodyPost_ret (v := .tuple #[.bool true, .string ⟨#[]⟩, .string ⟨#[]⟩, .string lay, .string t, .string ⟨#[]⟩]) (by simp [results, Try.results8, go_sem]) rfl ⟨rfl, grown_drewN _ _⟩

set_option maxHeartbeats 400000 in
theorem read_tag_R (s h t : ByteArray) (p : Nat) (hs : s.size ≤ maxLen) (hh : h.size ≤ maxLen) (hp : p < s.size) (hpb : (s[p].toNat : Int) = 58) (hno : ∀ j (hj : j < s.size), p < j → (s[j].toNat : Int) ≠ 58)
    (e1 : s.extract 0 p = h) (e2 : s.extract (p + 1) s.size = t) (hat : ∀ j (hj : j < s.size), (s[j].toNat : Int) ≠ 64) (reg repo : ByteArray) (q : Nat) (ho : ociB h = false) (hq : q < h.size) (hqb : (h[q].toNat : Int) = 47) (hnq : ∀ j (hj : j < h.size), j < q → (h[j].toNat : Int) ≠ 47) (e3 : h.extract 0 q = reg) (e4 : h.extract (q + 1) h.size = repo) (w : World) :
    Calls Try.prog 8 #[.string s] w fun e w' => e = .returned (.tuple #[.bool true, .string reg, .string repo, .string ⟨#[]⟩, .string t, .string ⟨#[]⟩]) ∧ Grown w w' := by
  have hc := fun w => last_at s 58 p hp hpb hno w hs
  have H : Hid (∀ w, Calls Try.prog 11 #[.string s, .int .u8 58] w fun e w' => e = .returned (.int .i64 p) ∧ w' = w) := hc
  clear hc hno hpb
  have hc := fun w => last_none s 64 hat w hs
  have HA : Hid (∀ w, Calls Try.prog 11 #[.string s, .int .u8 64] w fun e w' => e = .returned (.int .i64 (-1)) ∧ w' = w) := hc
  clear hc hat
  have hc := fun w => first_at h 47 q hq hqb hnq w hh
  have HQ : Hid (∀ w, Calls Try.prog 12 #[.string h, .int .u8 47] w fun e w' => e = .returned (.int .i64 q) ∧ w' = w) := hc
  clear hc hnq hqb
  have hs' := hs
  have hh' := hh
  unfold maxLen at hs' hh'
  go_enter Try.func8, Try.ntmps8
  go_wp2_with (first | (go_at_call_has 11 (Value.int .u8 64); refine (HA.out _).mono ?_; rintro e w' ⟨rfl, rfl⟩) | (go_at_call_has 11 (Value.int .u8 58); refine (H.out _).mono ?_; rintro e w' ⟨rfl, rfl⟩) | (go_at_call 10; refine (oci_any _ _ hh).mono ?_; rintro e w' ⟨rfl, rfl⟩) | (go_at_call 12; refine (HQ.out _).mono ?_; rintro e w' ⟨rfl, rfl⟩))
  go_quiet (fail)
  go_wp2
  exact bodyPost_ret (v := .tuple #[.bool true, .string reg, .string repo, .string ⟨#[]⟩, .string t, .string ⟨#[]⟩]) (by simp [results, Try.results8, go_sem]) rfl ⟨rfl, grown_drewN _ _⟩
end Go.Proofs.Qxb6617559a
