/-
  The plain law, second half: two references in the domain have one text exactly when their meaningful fields agree.
-/
import Derived.Test.Qxb6617559aPlain
namespace Go.Proofs.Qxb6617559a

theorem last_unique {s : ByteArray} {b : Int} {p q : Nat} (hp : p < s.size) (hq : q < s.size) (ep : (s[p].toNat : Int) = b) (eq : (s[q].toNat : Int) = b)
    (np : ∀ j (hj : j < s.size), p < j → (s[j].toNat : Int) ≠ b) (nq : ∀ j (hj : j < s.size), q < j → (s[j].toNat : Int) ≠ b) : p = q := by
  rcases Nat.lt_trichotomy p q with h | h | h
  · exact absurd eq (np q hq h)
  · exact h
  · exact absurd ep (nq p hp h)
theorem first_unique {s : ByteArray} {b : Int} {p q : Nat} (hp : p < s.size) (hq : q < s.size) (ep : (s[p].toNat : Int) = b) (eq : (s[q].toNat : Int) = b)
    (np : ∀ j (hj : j < s.size), j < p → (s[j].toNat : Int) ≠ b) (nq : ∀ j (hj : j < s.size), j < q → (s[j].toNat : Int) ≠ b) : p = q := by
  rcases Nat.lt_trichotomy p q with h | h | h
  · exact absurd ep (nq p hp h)
  · exact h
  · exact absurd eq (np q hq h)

/-- one mark, the same on both sides, that stands in neither tail -/
theorem split_last {h x h' x' : ByteArray} {c : UInt8} {b : Int} (hb : (c.toNat : Int) = b) (n1 : hasB x b = false) (n2 : hasB x' b = false)
    (e : h ++ ⟨#[c]⟩ ++ x = h' ++ ⟨#[c]⟩ ++ x') : h = h' ∧ x = x' := by
  have s1 := join_size h x c
  have s2 := join_size h' x' c
  have m1 := join_mid h x c
  have m2 := join_mid h' x' c
  have a1 := hasB_after (h := h) (c := c) n1
  have a2 := hasB_after (h := h') (c := c) n2
  have p1 := join_pre h x c
  have p2 := join_pre h' x' c
  have q1 := join_post h x c
  have q2 := join_post h' x' c
  rw [← e] at s2 m2 a2 p2 q2
  generalize h ++ ⟨#[c]⟩ ++ x = s at *
  have hs := last_unique (s := s) (b := b) (p := h.size) (q := h'.size) (by omega) (by omega) (by rw [m1 (by omega)]; exact hb) (by rw [m2 (by omega)]; exact hb) a1 a2
  rw [← hs] at p2 q2
  exact ⟨p1.symm.trans p2, q1.symm.trans q2⟩
/-- one mark, the same on both sides, that stands in neither head -/
theorem split_first {h x h' x' : ByteArray} {c : UInt8} {b : Int} (hb : (c.toNat : Int) = b) (n1 : hasB h b = false) (n2 : hasB h' b = false)
    (e : h ++ ⟨#[c]⟩ ++ x = h' ++ ⟨#[c]⟩ ++ x') : h = h' ∧ x = x' := by
  have s1 := join_size h x c
  have s2 := join_size h' x' c
  have m1 := join_mid h x c
  have m2 := join_mid h' x' c
  have a1 := hasB_before (x := x) (c := c) n1
  have a2 := hasB_before (x := x') (c := c) n2
  have p1 := join_pre h x c
  have p2 := join_pre h' x' c
  have q1 := join_post h x c
  have q2 := join_post h' x' c
  rw [← e] at s2 m2 a2 p2 q2
  generalize h ++ ⟨#[c]⟩ ++ x = s at *
  have hs := first_unique (s := s) (b := b) (p := h.size) (q := h'.size) (by omega) (by omega) (by rw [m1 (by omega)]; exact hb) (by rw [m2 (by omega)]; exact hb) a1 a2
  rw [← hs] at p2 q2
  exact ⟨p1.symm.trans p2, q1.symm.trans q2⟩
/-- a text that holds the mark is none that doesn't -/
theorem mark_parts {h x s' : ByteArray} {c : UInt8} {b : Int} (hb : (c.toNat : Int) = b) (n : hasB s' b = false) (e : h ++ ⟨#[c]⟩ ++ x = s') : False := by
  have s1 := join_size h x c
  have m1 := join_mid h x c
  rw [e] at s1 m1
  exact hasB_none n h.size (by omega) (by rw [m1 (by omega)]; exact hb)

/-- what the domain says of one reference -/
structure Good (reg repo lay tag dig : ByteArray) : Prop where
  dig_at : hasB dig 64 = false
  host : lay.toList.isEmpty = true → hasB reg 47 = false ∧ ociB reg = false
  plain : dig.toList.isEmpty = true → hasB tag 58 = false ∧ hasB (refS reg repo lay tag dig) 64 = false

theorem good_of {reg repo lay tag dig : ByteArray} (hd : inDom reg repo lay tag dig = true) : Good reg repo lay tag dig := by
  unfold inDom at hd
  simp only [Bool.and_eq_true, Bool.or_eq_true, Bool.not_eq_true'] at hd
  obtain ⟨⟨d1, d2⟩, d3⟩ := hd
  refine ⟨d1, fun hle => ?_, fun hde => ?_⟩
  · rcases d2 with d2 | d2
    · rw [hle] at d2; exact absurd d2 (by simp)
    · exact d2
  · rcases d3 with d3 | ⟨⟨⟨t1, t2⟩, t3⟩, t4⟩
    · rw [hde] at d3; exact absurd d3 (by simp)
    · refine ⟨t2, ?_⟩
      unfold refS holdS
      rw [hde]
      cases hle : lay.toList.isEmpty
      · exact hasB_false (hasB_join (oci_hasB t3 rfl) t1 (by decide))
      · rcases t4 with t4 | ⟨u1, u2⟩
        · rw [hle] at t4; exact absurd t4 (by simp)
        · exact hasB_false (hasB_join (hasB_host u1 u2 (by decide)) t1 (by decide))

/-- one holder's text: one layout, or one host and one repository -/
theorem hold_inj {reg repo lay reg' repo' lay' : ByteArray} (g : lay.toList.isEmpty = true → hasB reg 47 = false ∧ ociB reg = false) (g' : lay'.toList.isEmpty = true → hasB reg' 47 = false ∧ ociB reg' = false)
    (e : holdS reg repo lay = holdS reg' repo' lay') :
    orNot lay.toList.isEmpty reg = orNot lay'.toList.isEmpty reg' ∧ orNot lay.toList.isEmpty repo = orNot lay'.toList.isEmpty repo' ∧ lay = lay' := by
  unfold holdS at e
  cases hl : lay.toList.isEmpty
  · cases hl' : lay'.toList.isEmpty
    · rw [hl, hl'] at e
      exact ⟨rfl, rfl, (ByteArray.append_right_inj _).mp e⟩
    · rw [hl, hl'] at e
      have h1 := oci_yes lay
      rw [show (⟨#[111, 99, 105, 58]⟩ : ByteArray) ++ lay = reg' ++ ⟨#[47]⟩ ++ repo' from e, host_no reg' repo' (g' hl').2] at h1
      exact absurd h1 (by simp)
  · cases hl' : lay'.toList.isEmpty
    · rw [hl, hl'] at e
      have h1 := oci_yes lay'
      rw [show (⟨#[111, 99, 105, 58]⟩ : ByteArray) ++ lay' = reg ++ ⟨#[47]⟩ ++ repo from e.symm, host_no reg repo (g hl).2] at h1
      exact absurd h1 (by simp)
    · rw [hl, hl'] at e
      obtain ⟨e1, e2⟩ := split_first (b := 47) rfl (g hl).1 (g' hl').1 (show reg ++ ⟨#[47]⟩ ++ repo = reg' ++ ⟨#[47]⟩ ++ repo' from e)
      exact ⟨e1, e2, (nil_of hl).trans (nil_of hl').symm⟩

theorem ref_inj {a0 a1 a2 a3 a4 a5 a6 a7 a8 a9 : ByteArray} (g : Good a0 a1 a2 a3 a4) (g' : Good a5 a6 a7 a8 a9) (e : refS a0 a1 a2 a3 a4 = refS a5 a6 a7 a8 a9) :
    orNot a2.toList.isEmpty a0 = orNot a7.toList.isEmpty a5 ∧ orNot a2.toList.isEmpty a1 = orNot a7.toList.isEmpty a6 ∧ a2 = a7 ∧ orNot a4.toList.isEmpty a3 = orNot a9.toList.isEmpty a8 ∧ a4 = a9 := by
  cases hd : a4.toList.isEmpty
  · have r : refS a0 a1 a2 a3 a4 = holdS a0 a1 a2 ++ ⟨#[64]⟩ ++ a4 := by unfold refS; rw [hd]; rfl
    cases hd' : a9.toList.isEmpty
    · have r' : refS a5 a6 a7 a8 a9 = holdS a5 a6 a7 ++ ⟨#[64]⟩ ++ a9 := by unfold refS; rw [hd']; rfl
      rw [r, r'] at e
      obtain ⟨eh, ex⟩ := split_last (b := 64) rfl g.dig_at g'.dig_at e
      obtain ⟨i1, i2, i3⟩ := hold_inj g.host g'.host eh
      exact ⟨i1, i2, i3, rfl, ex⟩
    · rw [r] at e
      exact (mark_parts (b := 64) rfl (g'.plain hd').2 e).elim
  · have r : refS a0 a1 a2 a3 a4 = holdS a0 a1 a2 ++ ⟨#[58]⟩ ++ a3 := by unfold refS; rw [hd]; rfl
    cases hd' : a9.toList.isEmpty
    · have r' : refS a5 a6 a7 a8 a9 = holdS a5 a6 a7 ++ ⟨#[64]⟩ ++ a9 := by unfold refS; rw [hd']; rfl
      rw [r'] at e
      exact (mark_parts (b := 64) rfl (g.plain hd).2 e.symm).elim
    · have r' : refS a5 a6 a7 a8 a9 = holdS a5 a6 a7 ++ ⟨#[58]⟩ ++ a8 := by unfold refS; rw [hd']; rfl
      rw [r, r'] at e
      obtain ⟨eh, ex⟩ := split_last (b := 58) rfl (g.plain hd).1 (g'.plain hd').1 e
      obtain ⟨i1, i2, i3⟩ := hold_inj g.host g'.host eh
      exact ⟨i1, i2, i3, ex, (nil_of hd).trans (nil_of hd').symm⟩

theorem ref_back {a0 a1 a2 a3 a4 a5 a6 a8 : ByteArray} (n1 : orNot a2.toList.isEmpty a0 = orNot a2.toList.isEmpty a5) (n2 : orNot a2.toList.isEmpty a1 = orNot a2.toList.isEmpty a6) (n4 : orNot a4.toList.isEmpty a3 = orNot a4.toList.isEmpty a8) :
    refS a0 a1 a2 a3 a4 = refS a5 a6 a2 a8 a4 := by
  have hh : holdS a0 a1 a2 = holdS a5 a6 a2 := by
    unfold holdS
    cases hl : a2.toList.isEmpty
    · rfl
    · rw [hl] at n1 n2; rw [show a0 = a5 from n1, show a1 = a6 from n2]
  unfold refS
  rw [hh]
  cases hd : a4.toList.isEmpty
  · rfl
  · rw [hd] at n4; rw [show a3 = a8 from n4]

theorem list_inj {a b : ByteArray} (h : a.toList = b.toList) : a = b := by
  rw [Lib.toList_data, Lib.toList_data] at h
  cases a; cases b
  exact congrArg _ (Array.toList_inj.mp h)

theorem way_same {a0 a1 a2 a3 a4 a5 a6 a7 a8 a9 : ByteArray} (g : Good a0 a1 a2 a3 a4) (g' : Good a5 a6 a7 a8 a9)
    (n1 : (orNot a2.toList.isEmpty a0).toList = (orNot a7.toList.isEmpty a5).toList) (n2 : (orNot a2.toList.isEmpty a1).toList = (orNot a7.toList.isEmpty a6).toList) (n3 : a2.toList = a7.toList) (n4 : (orNot a4.toList.isEmpty a3).toList = (orNot a9.toList.isEmpty a8).toList) :
    (((refS a0 a1 a2 a3 a4).toList == (refS a5 a6 a7 a8 a9).toList) == (a4.toList == a9.toList)) = true := by
  obtain rfl := list_inj n3
  by_cases h : a4.toList = a9.toList
  · obtain rfl := list_inj h
    rw [ref_back (list_inj n1) (list_inj n2) (list_inj n4)]
    simp
  · have : ¬ (refS a0 a1 a2 a3 a4).toList = (refS a5 a6 a2 a8 a9).toList := fun e => h (by rw [(ref_inj g g' (list_inj e)).2.2.2.2])
    rw [beq_eq_false_iff_ne.mpr this, beq_eq_false_iff_ne.mpr h]; rfl
theorem way_part {a0 a1 a2 a3 a4 a5 a6 a7 a8 a9 : ByteArray} (g : Good a0 a1 a2 a3 a4) (g' : Good a5 a6 a7 a8 a9)
    (n : ¬ ((orNot a2.toList.isEmpty a0).toList = (orNot a7.toList.isEmpty a5).toList ∧ (orNot a2.toList.isEmpty a1).toList = (orNot a7.toList.isEmpty a6).toList ∧ a2.toList = a7.toList ∧ (orNot a4.toList.isEmpty a3).toList = (orNot a9.toList.isEmpty a8).toList)) :
    (!(refS a0 a1 a2 a3 a4).toList == (refS a5 a6 a7 a8 a9).toList) = true := by
  have : ¬ (refS a0 a1 a2 a3 a4).toList = (refS a5 a6 a7 a8 a9).toList := fun e => n (by
    obtain ⟨i1, i2, i3, i4, i5⟩ := ref_inj g g' (list_inj e)
    exact ⟨by rw [i1], by rw [i2], by rw [i3], by rw [i4]⟩)
  simp [this]
end Go.Proofs.Qxb6617559a
