/-
  The plain laws: the numeral's value, the encoding is free of prefixes. No Go in sight.
-/
import Derived.Test.Qxb6617572aDoorAtom
namespace Go.Proofs.Qxb6617572aDoor
open Go.Lib (decDigits)

def step (acc : Nat) (c : UInt8) : Nat := acc * 10 + (c.toNat - 48)
def val (l : List UInt8) : Nat := l.foldl step 0
def isDig (c : UInt8) : Prop := 48 ≤ c.toNat ∧ c.toNat ≤ 57

theorem digit_toNat (d : Nat) (h : d < 10) : (UInt8.ofNat (48 + d)).toNat = 48 + d := by
  rw [UInt8.toNat_ofNat']; omega
theorem dec_small {u : Nat} (h : u < 10) : decDigits u = [UInt8.ofNat (48 + u)] := by rw [decDigits, dif_pos h]
theorem dec_big {u : Nat} (h : ¬ u < 10) : decDigits u = decDigits (u / 10) ++ [UInt8.ofNat (48 + u % 10)] := by rw [decDigits, dif_neg h]

theorem dec_val (u : Nat) : val (decDigits u) = u := by
  induction u using Nat.strongRecOn with
  | _ u ih =>
    by_cases h : u < 10
    · rw [dec_small h]; show 0 * 10 + ((UInt8.ofNat (48 + u)).toNat - 48) = u
      rw [digit_toNat u h]; omega
    · rw [dec_big h]
      have := ih (u / 10) (by omega)
      unfold val at *
      rw [List.foldl_append, this]
      show u / 10 * 10 + ((UInt8.ofNat (48 + u % 10)).toNat - 48) = u
      rw [digit_toNat _ (by omega)]; omega
theorem dec_dig (u : Nat) : ∀ c ∈ decDigits u, isDig c := by
  induction u using Nat.strongRecOn with
  | _ u ih =>
    by_cases h : u < 10
    · rw [dec_small h]; intro c hc
      simp only [List.mem_singleton] at hc
      subst hc; unfold isDig; rw [digit_toNat u h]; omega
    · rw [dec_big h]
      intro c hc
      rcases List.mem_append.mp hc with hc | hc
      · exact ih (u / 10) (by omega) c hc
      · simp only [List.mem_singleton] at hc
        subst hc; unfold isDig; rw [digit_toNat _ (by omega)]; omega
theorem dec_inj {n m : Nat} (h : decDigits n = decDigits m) : n = m := by
  rw [← dec_val n, ← dec_val m, h]
theorem dec_pos (u : Nat) : 0 < (decDigits u).length := by
  by_cases h : u < 10
  · rw [dec_small h]; simp
  · rw [dec_big h]; simp

theorem split_colon : ∀ {l1 l2 r1 r2 : List UInt8}, (∀ c ∈ l1, isDig c) → (∀ c ∈ l2, isDig c) → l1 ++ 58 :: r1 = l2 ++ 58 :: r2 → l1 = l2 ∧ r1 = r2
  | [], [], _, _, _, _, h => ⟨rfl, by simpa using h⟩
  | [], c :: l2, _, _, _, h2, h => by
    simp only [List.nil_append, List.cons_append, List.cons.injEq] at h
    have := h2 c (by simp)
    rw [← h.1] at this
    unfold isDig at this
    exact absurd this.2 (by decide)
  | c :: l1, [], _, _, h1, _, h => by
    simp only [List.nil_append, List.cons_append, List.cons.injEq] at h
    have := h1 c (by simp)
    rw [h.1] at this
    unfold isDig at this
    exact absurd this.2 (by decide)
  | c :: l1, d :: l2, r1, r2, h1, h2, h => by
    simp only [List.cons_append, List.cons.injEq] at h
    obtain ⟨e1, e2⟩ := split_colon (fun x hx => h1 x (List.mem_cons_of_mem _ hx)) (fun x hx => h2 x (List.mem_cons_of_mem _ hx)) h.2
    exact ⟨by rw [h.1, e1], e2⟩

theorem pref_iff (s p : List UInt8) : prefB s p = true ↔ ∃ r, s = p ++ r := by
  unfold prefB
  rw [beq_iff_eq]
  constructor
  · intro h; exact ⟨s.drop p.length, (List.take_append_drop p.length s).symm.trans (by rw [h])⟩
  · rintro ⟨r, rfl⟩; simp

theorem enc_free {a b r : List UInt8} (h : enc a = enc b ++ r) : a = b := by
  unfold enc at h
  rw [List.append_assoc, List.cons_append] at h
  obtain ⟨e1, e2⟩ := split_colon (dec_dig _) (dec_dig _) h
  have hl := dec_inj e1
  rw [e2, List.length_append] at hl
  have : r = [] := List.eq_nil_of_length_eq_zero (by omega)
  rw [this, List.append_nil] at e2
  exact e2

theorem free_law (d a b : List UInt8) : (prefB (d ++ enc a) (d ++ enc b) || prefB (d ++ enc b) (d ++ enc a)) = (a == b) := by
  rw [Bool.eq_iff_iff, Bool.or_eq_true, beq_iff_eq, pref_iff, pref_iff]
  constructor
  · rintro (⟨r, h⟩ | ⟨r, h⟩)
    · rw [List.append_assoc] at h; exact enc_free (List.append_cancel_left h)
    · rw [List.append_assoc] at h; exact (enc_free (List.append_cancel_left h)).symm
  · rintro rfl; exact .inl ⟨[], by simp⟩
theorem enc_len (d a : List UInt8) : d.length + a.length < (d ++ enc a).length := by
  have := dec_pos a.length
  unfold enc
  simp only [List.length_append, List.length_cons]; omega
theorem enc_le (d a : List UInt8) (hd : a.length ≤ 4194304) : (d ++ enc a).length ≤ d.length + a.length + 22 := by
  have := Lib.itoa_length_le (a.length : Nat) (by omega) (by omega)
  rw [Lib.itoa_nonneg] at this
  unfold enc
  simp only [List.length_append, List.length_cons]; omega
end Go.Proofs.Qxb6617572aDoor
