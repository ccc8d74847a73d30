/-
  refInDomain (5), refNormal (7), Reference.String (6), zzBytes (4).
-/
import Derived.Test.Qxb6617559aLeaf
namespace Go.Proofs.Qxb6617559a
open Go.RowKit

/-- the domain of a reference, as refInDomain tests it -/
def inDom (reg repo lay tag dig : ByteArray) : Bool :=
  !hasB dig 64 && (!lay.toList.isEmpty || (!hasB reg 47 && !ociB reg)) &&
    (!dig.toList.isEmpty || (!hasB tag 64 && !hasB tag 58 && !hasB lay 64 && (!lay.toList.isEmpty || (!hasB reg 64 && !hasB repo 64))))

set_option maxHeartbeats 400000 in
theorem dom_any (reg repo lay tag dig : ByteArray) (w : World) (h0 : reg.size ≤ maxLen) (h1 : repo.size ≤ maxLen) (h2 : lay.size ≤ maxLen) (h3 : tag.size ≤ maxLen) (h4 : dig.size ≤ maxLen) :
    Calls Try.prog 5 #[.string reg, .string repo, .string lay, .string tag, .string dig] w fun e w' => e = .returned (.bool (inDom reg repo lay tag dig)) ∧ w' = w := by
  go_enter Try.func5, Try.ntmps5
  go_wp2_with (first | (go_at_call 9; refine (has_any _ _ _ (by assumption)).mono ?_; rintro e w' ⟨rfl, rfl⟩) | (go_at_call 10; refine (oci_any _ _ (by assumption)).mono ?_; rintro e w' ⟨rfl, rfl⟩))
  all_goals
    go_ret
    exact ⟨ret_bool (by simp [inDom, *]), rfl⟩

/-- a field that is meant only where c holds -/
def orNot (c : Bool) (s : ByteArray) : ByteArray := if c then s else ⟨#[]⟩
theorem orNot_yes (s : ByteArray) : orNot true s = s := rfl
theorem orNot_no (s : ByteArray) : orNot false s = ⟨#[]⟩ := rfl

set_option maxHeartbeats 400000 in
theorem norm_any (reg repo lay tag dig : ByteArray) (w : World) :
    Calls Try.prog 7 #[.string reg, .string repo, .string lay, .string tag, .string dig] w fun e w' =>
      e = .returned (.tuple #[.string (orNot lay.toList.isEmpty reg), .string (orNot lay.toList.isEmpty repo), .string lay, .string (orNot dig.toList.isEmpty tag), .string dig]) ∧ w' = w := by
  cases hl : lay.toList.isEmpty
  · cases hd : dig.toList.isEmpty
    · go_enter Try.func7, Try.ntmps7
      go_wp2
      exact bodyPost_ret (v := .tuple #[.string ⟨#[]⟩, .string ⟨#[]⟩, .string lay, .string ⟨#[]⟩, .string dig]) (by simp [results, Try.results7, go_sem]) rfl ⟨rfl, rfl⟩
    · go_enter Try.func7, Try.ntmps7
      go_wp2
      exact bodyPost_ret (v := .tuple #[.string ⟨#[]⟩, .string ⟨#[]⟩, .string lay, .string tag, .string dig]) (by simp [results, Try.results7, go_sem]) rfl ⟨rfl, rfl⟩
  · cases hd : dig.toList.isEmpty
    · go_enter Try.func7, Try.ntmps7
      go_wp2
      exact bodyPost_ret (v := .tuple #[.string reg, .string repo, .string lay, .string ⟨#[]⟩, .string dig]) (by simp [results, Try.results7, go_sem]) rfl ⟨rfl, rfl⟩
    · go_enter Try.func7, Try.ntmps7
      go_wp2
      exact bodyPost_ret (v := .tuple #[.string reg, .string repo, .string lay, .string tag, .string dig]) (by simp [results, Try.results7, go_sem]) rfl ⟨rfl, rfl⟩

/-- the holder's text, and the whole text -/
def holdS (reg repo lay : ByteArray) : ByteArray := if lay.toList.isEmpty then reg ++ ⟨#[47]⟩ ++ repo else ⟨#[111, 99, 105, 58]⟩ ++ lay
def refS (reg repo lay tag dig : ByteArray) : ByteArray := if dig.toList.isEmpty then holdS reg repo lay ++ ⟨#[58]⟩ ++ tag else holdS reg repo lay ++ ⟨#[64]⟩ ++ dig
theorem ret_str {a b : ByteArray} (h : a = b) : Ending.returned (.string a) = .returned (.string b) := by rw [h]

set_option maxHeartbeats 400000 in
theorem str_any (reg repo lay tag dig : ByteArray) (w : World) (h0 : reg.size ≤ 65536) (h1 : repo.size ≤ 65536) (h2 : lay.size ≤ 65536) (h3 : tag.size ≤ 65536) (h4 : dig.size ≤ 65536) :
    Calls Try.prog 6 #[.agg #[.string reg, .string repo, .string lay, .string tag, .string dig]] w fun e w' =>
      e = .returned (.string (refS reg repo lay tag dig)) ∧ Grown w w' := by
  have b1 : ¬ 9223372036854775807 < reg.size + 1 := by omega
  have b2 : ¬ 9223372036854775807 < reg.size + 1 + repo.size := by omega
  have b3 : ¬ 9223372036854775807 < 4 + lay.size := by omega
  have b4 : ¬ 9223372036854775807 < 4 + lay.size + 1 := by omega
  have b5 : ¬ 9223372036854775807 < 4 + lay.size + 1 + dig.size := by omega
  have b6 : ¬ 9223372036854775807 < 4 + lay.size + 1 + tag.size := by omega
  have b7 : ¬ 9223372036854775807 < reg.size + 1 + repo.size + 1 := by omega
  have b8 : ¬ 9223372036854775807 < reg.size + 1 + repo.size + 1 + dig.size := by omega
  have b9 : ¬ 9223372036854775807 < reg.size + 1 + repo.size + 1 + tag.size := by omega
  go_enter Try.func6, Try.ntmps6
  go_wp2
  all_goals
    go_ret
    refine ⟨ret_str ?_, Grown.alloc (Grown.refl _) _ _⟩
    simp_all [refS, holdS]

set_option maxHeartbeats 400000 in
theorem bytes_any (a0 a1 a2 a3 a4 a5 a6 a7 a8 a9 : ByteArray) (w : World) :
    Calls Try.prog 4 #[.string a0, .string a1, .string a2, .string a3, .string a4, .string a5, .string a6, .string a7, .string a8, .string a9] w fun e w' =>
      ∃ b : Bool, e = .returned (.bool b) ∧ w' = w := by
  go_enter Try.func4, Try.ntmps4
  go_wp2
  all_goals
    go_ret
    exact ⟨_, rfl, rfl⟩
end Go.Proofs.Qxb6617559a
