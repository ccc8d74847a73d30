/-
  The law's walk.
-/
import Derived.Test.Qxb6617559aInj
namespace Go.Proofs.Qxb6617559a
open Go.RowKit

theorem grown_trans {a b c : World} (h1 : Grown a b) (h2 : Grown b c) : Grown a c := by
  refine ⟨World.keptBut_trans h1.1 h2.1, fun x => (h2.2.1 x).trans (h1.2.1 x), Nat.le_trans h1.2.2 h2.2.2⟩
theorem grown4 {a b c d e : World} (h1 : Grown a b) (h2 : Grown b c) (h3 : Grown c d) (h4 : Grown d e) : Grown a e := grown_trans (grown_trans h1 h2) (grown_trans h3 h4)

set_option maxRecDepth 100000 in
set_option maxHeartbeats 1000000 in
theorem walk_in (a0 a1 a2 a3 a4 a5 a6 a7 a8 a9 : ByteArray) (h0 : a0.size ≤ 65536) (h1 : a1.size ≤ 65536) (h2 : a2.size ≤ 65536) (h3 : a3.size ≤ 65536) (h4 : a4.size ≤ 65536) (h5 : a5.size ≤ 65536) (h6 : a6.size ≤ 65536) (h7 : a7.size ≤ 65536) (h8 : a8.size ≤ 65536) (h9 : a9.size ≤ 65536)
    (d1 : inDom a0 a1 a2 a3 a4 = true) (d2 : inDom a5 a6 a7 a8 a9 = true) (w : World) :
    Calls Try.prog 3 #[.string a0, .string a1, .string a2, .string a3, .string a4, .string a5, .string a6, .string a7, .string a8, .string a9] w fun e w' => e = .returned (.bool true) ∧ Grown w w' := by
  have k1 := good_of d1
  have k2 := good_of d2
  go_enter Try.func3, Try.ntmps3
  go_wp2_with (first | (go_at_call 4; refine (bytes_any _ _ _ _ _ _ _ _ _ _ _).mono ?_; rintro e w' ⟨b, rfl, rfl⟩) | (go_at_call 5; refine (dom_any _ _ _ _ _ _ (by unfold maxLen; omega) (by unfold maxLen; omega) (by unfold maxLen; omega) (by unfold maxLen; omega) (by unfold maxLen; omega)).mono ?_; rintro e w' ⟨rfl, rfl⟩))
  · go_ret
    exact ⟨rfl, Grown.refl _⟩
  · refine (str_any a0 a1 a2 a3 a4 _ h0 h1 h2 h3 h4).mono ?_
    rintro e w1 ⟨rfl, g1⟩
    go_wp2_with fail
    refine (str_any a5 a6 a7 a8 a9 _ h5 h6 h7 h8 h9).mono ?_
    rintro e w2 ⟨rfl, g2⟩
    go_wp2_with fail
    refine (norm_any a0 a1 a2 a3 a4 _).mono ?_
    rintro e w3 ⟨rfl, rfl⟩
    go_wp2_with fail
    refine (norm_any a5 a6 a7 a8 a9 _).mono ?_
    rintro e w4 ⟨rfl, rfl⟩
    go_wp2_with fail
    refine (read_ref a0 a1 a2 a3 a4 d1 h0 h1 h2 h3 h4 _).mono ?_
    rintro e w5 ⟨rfl, g3⟩
    go_wp2_with fail
    refine (read_ref a5 a6 a7 a8 a9 d2 h5 h6 h7 h8 h9 _).mono ?_
    rintro e w6 ⟨rfl, g4⟩
    go_wp2
    · have n1 : (orNot a2.toList.isEmpty a0).toList = (orNot a7.toList.isEmpty a5).toList := by assumption
      have n2 : (orNot a2.toList.isEmpty a1).toList = (orNot a7.toList.isEmpty a6).toList := by assumption
      have n3 : a2.toList = a7.toList := by assumption
      have n4 : (orNot a4.toList.isEmpty a3).toList = (orNot a9.toList.isEmpty a8).toList := by assumption
      go_ret
      exact ⟨ret_bool (way_same k1 k2 n1 n2 n3 n4), grown4 g1 g2 g3 g4⟩
    · have n : ¬ (orNot a4.toList.isEmpty a3).toList = (orNot a9.toList.isEmpty a8).toList := by assumption
      go_ret
      exact ⟨ret_bool (way_part k1 k2 fun h => n h.2.2.2), grown4 g1 g2 g3 g4⟩
    · have n : ¬ a2.toList = a7.toList := by assumption
      go_ret
      exact ⟨ret_bool (way_part k1 k2 fun h => n h.2.2.1), grown4 g1 g2 g3 g4⟩
    · have n : ¬ (orNot a2.toList.isEmpty a1).toList = (orNot a7.toList.isEmpty a6).toList := by assumption
      go_ret
      exact ⟨ret_bool (way_part k1 k2 fun h => n h.2.1), grown4 g1 g2 g3 g4⟩
    · have n : ¬ (orNot a2.toList.isEmpty a0).toList = (orNot a7.toList.isEmpty a5).toList := by assumption
      go_ret
      exact ⟨ret_bool (way_part k1 k2 fun h => n h.1), grown4 g1 g2 g3 g4⟩

set_option maxRecDepth 100000 in
set_option maxHeartbeats 1000000 in
theorem walk_out (a0 a1 a2 a3 a4 a5 a6 a7 a8 a9 : ByteArray) (m0 : a0.size ≤ maxLen) (m1 : a1.size ≤ maxLen) (m2 : a2.size ≤ maxLen) (m3 : a3.size ≤ maxLen) (m4 : a4.size ≤ maxLen) (m5 : a5.size ≤ maxLen) (m6 : a6.size ≤ maxLen) (m7 : a7.size ≤ maxLen) (m8 : a8.size ≤ maxLen) (m9 : a9.size ≤ maxLen)
    (hn : ¬ ((a0.size ≤ 65536 ∧ a1.size ≤ 65536 ∧ a2.size ≤ 65536 ∧ a3.size ≤ 65536 ∧ a4.size ≤ 65536) ∧ (a5.size ≤ 65536 ∧ a6.size ≤ 65536 ∧ a7.size ≤ 65536 ∧ a8.size ≤ 65536 ∧ a9.size ≤ 65536) ∧ inDom a0 a1 a2 a3 a4 = true ∧ inDom a5 a6 a7 a8 a9 = true)) (w : World) :
    Calls Try.prog 3 #[.string a0, .string a1, .string a2, .string a3, .string a4, .string a5, .string a6, .string a7, .string a8, .string a9] w fun e w' => e = .returned (.bool true) ∧ Grown w w' := by
  have HN : Hid (¬ ((a0.size ≤ 65536 ∧ a1.size ≤ 65536 ∧ a2.size ≤ 65536 ∧ a3.size ≤ 65536 ∧ a4.size ≤ 65536) ∧ (a5.size ≤ 65536 ∧ a6.size ≤ 65536 ∧ a7.size ≤ 65536 ∧ a8.size ≤ 65536 ∧ a9.size ≤ 65536) ∧ inDom a0 a1 a2 a3 a4 = true ∧ inDom a5 a6 a7 a8 a9 = true)) := hn
  clear hn
  go_enter Try.func3, Try.ntmps3
  go_wp2_with (first | (go_at_call 4; refine (bytes_any _ _ _ _ _ _ _ _ _ _ _).mono ?_; rintro e w' ⟨b, rfl, rfl⟩) | (go_at_call 5; refine (dom_any _ _ _ _ _ _ (by assumption) (by assumption) (by assumption) (by assumption) (by assumption)).mono ?_; rintro e w' ⟨rfl, rfl⟩))
  all_goals first
    | (go_ret; exact ⟨rfl, Grown.refl _⟩)
    | (exfalso
       have i1 : (!inDom a0 a1 a2 a3 a4) = false := by assumption
       have i2 : (!inDom a5 a6 a7 a8 a9) = false := by assumption
       exact HN.out ⟨⟨by omega, by omega, by omega, by omega, by omega⟩, ⟨by omega, by omega, by omega, by omega, by omega⟩, by simpa using i1, by simpa using i2⟩)
end Go.Proofs.Qxb6617559a
