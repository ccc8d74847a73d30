/-
  The plain law: a reference's text, taken apart at its mark, and refRead at it.
-/
import Derived.Test.Qxb6617559aRead
import Derived.Lib.Strings
namespace Go.Proofs.Qxb6617559a
open Go.RowKit

theorem join_size (h x : ByteArray) (c : UInt8) : (h ++ ⟨#[c]⟩ ++ x).size = h.size + 1 + x.size := by
  rw [ByteArray.size_append, ByteArray.size_append]; rfl
theorem join_mid (h x : ByteArray) (c : UInt8) (hi : h.size < (h ++ ⟨#[c]⟩ ++ x).size) : (h ++ ⟨#[c]⟩ ++ x)[h.size] = c := by
  have h1 : h.size < (h ++ (⟨#[c]⟩ : ByteArray)).size := by rw [ByteArray.size_append]; exact Nat.lt_succ_self _
  rw [ByteArray.getElem_append_left h1, ByteArray.getElem_append_right (Nat.le_refl _)]
  simp only [Nat.sub_self]
  rfl
theorem join_left (h x : ByteArray) (c : UInt8) (i : Nat) (hi : i < (h ++ ⟨#[c]⟩ ++ x).size) (hl : i < h.size) : (h ++ ⟨#[c]⟩ ++ x)[i] = h[i] := by
  have h1 : i < (h ++ (⟨#[c]⟩ : ByteArray)).size := by rw [ByteArray.size_append]; omega
  rw [ByteArray.getElem_append_left h1, ByteArray.getElem_append_left hl]
theorem join_right (h x : ByteArray) (c : UInt8) (i : Nat) (hi : i < (h ++ ⟨#[c]⟩ ++ x).size) (hl : h.size < i) : ∃ (j : Nat) (hj : j < x.size), (h ++ ⟨#[c]⟩ ++ x)[i] = x[j] := by
  have h1 : (h ++ (⟨#[c]⟩ : ByteArray)).size ≤ i := by rw [ByteArray.size_append]; exact hl
  exact ⟨i - (h ++ (⟨#[c]⟩ : ByteArray)).size, by have := join_size h x c; rw [ByteArray.size_append] at hi; omega, ByteArray.getElem_append_right h1⟩
theorem join_pre (h x : ByteArray) (c : UInt8) : (h ++ ⟨#[c]⟩ ++ x).extract 0 h.size = h := by
  rw [ByteArray.append_assoc]; exact ByteArray.extract_append_eq_left rfl
theorem join_post (h x : ByteArray) (c : UInt8) : (h ++ ⟨#[c]⟩ ++ x).extract (h.size + 1) (h ++ ⟨#[c]⟩ ++ x).size = x :=
  ByteArray.extract_append_eq_right (by rw [ByteArray.size_append]; rfl) (by rw [ByteArray.size_append])
theorem nil_of {s : ByteArray} (h : s.toList.isEmpty = true) : s = ⟨#[]⟩ := by
  rw [Lib.toList_data] at h
  have h1 : s.data = #[] := by simpa using h
  cases s with | mk d => exact congrArg _ h1
theorem pos_of {s : ByteArray} (h : s.toList.isEmpty = false) : 0 < s.size := by
  rcases Nat.eq_zero_or_pos s.size with h0 | h0
  · exfalso
    have : s.data = #[] := Array.eq_empty_of_size_eq_zero h0
    rw [Lib.toList_data, this] at h
    exact absurd h (by simp)
  · exact h0

theorem hasB_join {h x : ByteArray} {c : UInt8} {b : Int} (h1 : hasB h b = false) (h2 : hasB x b = false) (h3 : (c.toNat : Int) ≠ b) :
    ∀ j (hj : j < (h ++ ⟨#[c]⟩ ++ x).size), ((h ++ ⟨#[c]⟩ ++ x)[j].toNat : Int) ≠ b := by
  intro j hj
  rcases Nat.lt_trichotomy j h.size with hl | hl | hl
  · rw [join_left h x c j hj hl]; exact hasB_none h1 j hl
  · subst hl; rw [join_mid h x c hj]; exact h3
  · obtain ⟨k, hk, e⟩ := join_right h x c j hj hl
    rw [e]; exact hasB_none h2 k hk
theorem hasB_after {h x : ByteArray} {c : UInt8} {b : Int} (h2 : hasB x b = false) :
    ∀ j (hj : j < (h ++ ⟨#[c]⟩ ++ x).size), h.size < j → ((h ++ ⟨#[c]⟩ ++ x)[j].toNat : Int) ≠ b := by
  intro j hj hl
  obtain ⟨k, hk, e⟩ := join_right h x c j hj hl
  rw [e]; exact hasB_none h2 k hk
theorem hasB_before {h x : ByteArray} {c : UInt8} {b : Int} (h2 : hasB h b = false) :
    ∀ j (hj : j < (h ++ ⟨#[c]⟩ ++ x).size), j < h.size → ((h ++ ⟨#[c]⟩ ++ x)[j].toNat : Int) ≠ b := by
  intro j hj hl
  rw [join_left h x c j hj hl]; exact hasB_none h2 j hl

/-! ### the holder: oci:layout -/
theorem oci_size (lay : ByteArray) : ((⟨#[111, 99, 105, 58]⟩ : ByteArray) ++ lay).size = 4 + lay.size := by
  rw [ByteArray.size_append]; rfl
theorem oci_yes (lay : ByteArray) : ociB (⟨#[111, 99, 105, 58]⟩ ++ lay) = true := by
  have hs := oci_size lay
  unfold ociB
  rw [dif_pos (by omega)]
  rw [ByteArray.getElem_append_left (by decide), ByteArray.getElem_append_left (by decide), ByteArray.getElem_append_left (by decide), ByteArray.getElem_append_left (by decide)]
  decide
theorem oci_rest (lay : ByteArray) : ((⟨#[111, 99, 105, 58]⟩ : ByteArray) ++ lay).extract 4 ((⟨#[111, 99, 105, 58]⟩ : ByteArray) ++ lay).size = lay :=
  ByteArray.extract_append_eq_right rfl (by rw [ByteArray.size_append])
theorem oci_hasB {lay : ByteArray} {b : Int} (h : hasB lay b = false) (hb : b = 64) : hasB (⟨#[111, 99, 105, 58]⟩ ++ lay) b = false := by
  unfold hasB at *
  rw [ByteArray.toList_data_append, List.any_append, h]
  subst hb; decide
/-! ### the holder: host/repository -/
theorem host_no (reg repo : ByteArray) (h : ociB reg = false) : ociB (reg ++ ⟨#[47]⟩ ++ repo) = false := by
  have hs := join_size reg repo 47
  by_cases h4 : 4 ≤ reg.size
  · unfold ociB at *
    rw [dif_pos h4] at h
    rw [dif_pos (by omega), join_left _ _ _ _ _ (by omega), join_left _ _ _ _ _ (by omega), join_left _ _ _ _ _ (by omega), join_left _ _ _ _ _ (by omega)]
    exact h
  · unfold ociB
    split
    · rename_i h5
      have hm := join_mid reg repo 47 (by omega)
      rcases (show reg.size = 0 ∨ reg.size = 1 ∨ reg.size = 2 ∨ reg.size = 3 by omega) with e | e | e | e
      all_goals simp only [e] at hm; simp [hm]
    · rfl
theorem hasB_host {reg repo : ByteArray} {b : Int} (h1 : hasB reg b = false) (h2 : hasB repo b = false) (h3 : b ≠ 47) : hasB (reg ++ ⟨#[47]⟩ ++ repo) b = false :=
  hasB_false (hasB_join h1 h2 (fun h => h3 h.symm))

/-! ### refRead at the text of a reference: one theorem a kind -/
theorem ref_dig_L (lay dig : ByteArray) (d1 : hasB dig 64 = false) (hle : lay.toList.isEmpty = false) (hde : dig.toList.isEmpty = false) (h2 : lay.size ≤ 65536) (h4 : dig.size ≤ 65536) (w : World) :
    Calls Try.prog 8 #[.string ((⟨#[111, 99, 105, 58]⟩ ++ lay) ++ ⟨#[64]⟩ ++ dig)] w fun e w' =>
      e = .returned (.tuple #[.bool true, .string ⟨#[]⟩, .string ⟨#[]⟩, .string lay, .string ⟨#[]⟩, .string dig]) ∧ Grown w w' := by
  have hlp := pos_of hle
  have hl := oci_size lay
  have hy := oci_yes lay
  have hr := oci_rest lay
  generalize (⟨#[111, 99, 105, 58]⟩ : ByteArray) ++ lay = h at hl hy hr
  have hj := join_size h dig 64
  have hm := join_mid h dig 64
  have ha := hasB_after (h := h) (c := 64) d1
  have hpre := join_pre h dig 64
  have hpost := join_post h dig 64
  generalize h ++ ⟨#[64]⟩ ++ dig = s at hj hm ha hpre hpost
  exact read_dig_L s h dig h.size (by unfold maxLen; omega) (by unfold maxLen; omega) (by omega) (by rw [hm (by omega)]; rfl) ha hpre hpost hde lay hy (by omega) hr w
theorem ref_tag_L (lay tag : ByteArray) (t1 : hasB tag 64 = false) (t2 : hasB tag 58 = false) (t3 : hasB lay 64 = false) (hle : lay.toList.isEmpty = false) (h2 : lay.size ≤ 65536) (h3 : tag.size ≤ 65536) (w : World) :
    Calls Try.prog 8 #[.string ((⟨#[111, 99, 105, 58]⟩ ++ lay) ++ ⟨#[58]⟩ ++ tag)] w fun e w' =>
      e = .returned (.tuple #[.bool true, .string ⟨#[]⟩, .string ⟨#[]⟩, .string lay, .string tag, .string ⟨#[]⟩]) ∧ Grown w w' := by
  have hlp := pos_of hle
  have hl := oci_size lay
  have hy := oci_yes lay
  have hr := oci_rest lay
  have hb := oci_hasB t3 rfl
  generalize (⟨#[111, 99, 105, 58]⟩ : ByteArray) ++ lay = h at hl hy hr hb
  have hj := join_size h tag 58
  have hm := join_mid h tag 58
  have ha := hasB_after (h := h) (c := 58) t2
  have hn := hasB_join (c := 58) hb t1 (by decide)
  have hpre := join_pre h tag 58
  have hpost := join_post h tag 58
  generalize h ++ ⟨#[58]⟩ ++ tag = s at hj hm ha hn hpre hpost
  exact read_tag_L s h tag h.size (by unfold maxLen; omega) (by unfold maxLen; omega) (by omega) (by rw [hm (by omega)]; rfl) ha hpre hpost hn lay hy (by omega) hr w
theorem ref_dig_R (reg repo dig : ByteArray) (d1 : hasB dig 64 = false) (r1 : hasB reg 47 = false) (r2 : ociB reg = false) (hde : dig.toList.isEmpty = false) (h0 : reg.size ≤ 65536) (h1 : repo.size ≤ 65536) (h4 : dig.size ≤ 65536) (w : World) :
    Calls Try.prog 8 #[.string ((reg ++ ⟨#[47]⟩ ++ repo) ++ ⟨#[64]⟩ ++ dig)] w fun e w' =>
      e = .returned (.tuple #[.bool true, .string reg, .string repo, .string ⟨#[]⟩, .string ⟨#[]⟩, .string dig]) ∧ Grown w w' := by
  have hl := join_size reg repo 47
  have hy := host_no reg repo r2
  have kp := join_pre reg repo 47
  have kq := join_post reg repo 47
  have km := join_mid reg repo 47
  have kb := hasB_before (x := repo) (c := 47) r1
  generalize reg ++ ⟨#[47]⟩ ++ repo = h at hl hy kp kq km kb
  have hj := join_size h dig 64
  have hm := join_mid h dig 64
  have ha := hasB_after (h := h) (c := 64) d1
  have hpre := join_pre h dig 64
  have hpost := join_post h dig 64
  generalize h ++ ⟨#[64]⟩ ++ dig = s at hj hm ha hpre hpost
  exact read_dig_R s h dig h.size (by unfold maxLen; omega) (by unfold maxLen; omega) (by omega) (by rw [hm (by omega)]; rfl) ha hpre hpost hde reg repo reg.size hy (by omega) (by rw [km (by omega)]; rfl) kb kp kq w
theorem ref_tag_R (reg repo tag : ByteArray) (t1 : hasB tag 64 = false) (t2 : hasB tag 58 = false) (r1 : hasB reg 47 = false) (r2 : ociB reg = false) (u1 : hasB reg 64 = false) (u2 : hasB repo 64 = false) (h0 : reg.size ≤ 65536) (h1 : repo.size ≤ 65536) (h3 : tag.size ≤ 65536) (w : World) :
    Calls Try.prog 8 #[.string ((reg ++ ⟨#[47]⟩ ++ repo) ++ ⟨#[58]⟩ ++ tag)] w fun e w' =>
      e = .returned (.tuple #[.bool true, .string reg, .string repo, .string ⟨#[]⟩, .string tag, .string ⟨#[]⟩]) ∧ Grown w w' := by
  have hl := join_size reg repo 47
  have hy := host_no reg repo r2
  have kp := join_pre reg repo 47
  have kq := join_post reg repo 47
  have km := join_mid reg repo 47
  have kb := hasB_before (x := repo) (c := 47) r1
  have hb := hasB_host u1 u2 (by decide)
  generalize reg ++ ⟨#[47]⟩ ++ repo = h at hl hy kp kq km kb hb
  have hj := join_size h tag 58
  have hm := join_mid h tag 58
  have ha := hasB_after (h := h) (c := 58) t2
  have hn := hasB_join (c := 58) hb t1 (by decide)
  have hpre := join_pre h tag 58
  have hpost := join_post h tag 58
  generalize h ++ ⟨#[58]⟩ ++ tag = s at hj hm ha hn hpre hpost
  exact read_tag_R s h tag h.size (by unfold maxLen; omega) (by unfold maxLen; omega) (by omega) (by rw [hm (by omega)]; rfl) ha hpre hpost hn reg repo reg.size hy (by omega) (by rw [km (by omega)]; rfl) kb kp kq w

theorem read_ref (reg repo lay tag dig : ByteArray) (hd : inDom reg repo lay tag dig = true) (h0 : reg.size ≤ 65536) (h1 : repo.size ≤ 65536) (h2 : lay.size ≤ 65536) (h3 : tag.size ≤ 65536) (h4 : dig.size ≤ 65536) (w : World) :
    Calls Try.prog 8 #[.string (refS reg repo lay tag dig)] w fun e w' =>
      e = .returned (.tuple #[.bool true, .string (orNot lay.toList.isEmpty reg), .string (orNot lay.toList.isEmpty repo), .string lay, .string (orNot dig.toList.isEmpty tag), .string dig]) ∧ Grown w w' := by
  unfold inDom at hd
  simp only [Bool.and_eq_true, Bool.or_eq_true, Bool.not_eq_true'] at hd
  obtain ⟨⟨d1, d2⟩, d3⟩ := hd
  unfold refS holdS
  cases hle : lay.toList.isEmpty
  · cases hde : dig.toList.isEmpty
    · exact ref_dig_L lay dig d1 hle hde h2 h4 w
    · rcases d3 with d3 | ⟨⟨⟨t1, t2⟩, t3⟩, t4⟩
      · rw [hde] at d3; exact absurd d3 (by simp)
      · rw [nil_of hde]; exact ref_tag_L lay tag t1 t2 t3 hle h2 h3 w
  · obtain ⟨r1, r2⟩ : hasB reg 47 = false ∧ ociB reg = false := by
      rcases d2 with d2 | d2
      · rw [hle] at d2; exact absurd d2 (by simp)
      · exact d2
    rw [nil_of hle]
    cases hde : dig.toList.isEmpty
    · exact ref_dig_R reg repo dig d1 r1 r2 hde h0 h1 h4 w
    · rcases d3 with d3 | ⟨⟨⟨t1, t2⟩, t3⟩, t4⟩
      · rw [hde] at d3; exact absurd d3 (by simp)
      · rcases t4 with t4 | ⟨u1, u2⟩
        · rw [hle] at t4; exact absurd t4 (by simp)
        · rw [nil_of hde]; exact ref_tag_R reg repo tag t1 t2 r1 r2 u1 u2 h0 h1 h3 w
end Go.Proofs.Qxb6617559a
