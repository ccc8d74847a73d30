/-
  parseAtom (9), at a text that bears an encoded atom at place p.
-/
import Derived.Test.Qxb6617572aDoorPlain
namespace Go.Proofs.Qxb6617572aDoor
open Go.RowKit
open Go.Lib (decDigits)

theorem ret_three {k : IntKind} {a b c d : Int} {r : Bool} (h1 : a = b) (h2 : c = d) : Ending.returned (.tuple #[.int k a, .int k c, .bool r]) = .returned (.tuple #[.int k b, .int k d, .bool r]) := by rw [h1, h2]
theorem int_eq {k : IntKind} {a b : Int} (h : a = b) : Value.int k a = .int k b := by rw [h]

set_option maxHeartbeats 1000000 in
theorem parse_zero (b off n cap p : Nat) (w : World) (hn : n ≤ 16777216) (hp : p + 1 < n)
    (g0 : w.cell? ⟨b, off + p, none⟩ = some (.int .u8 48)) (g1 : w.cell? ⟨b, off + (p + 1), none⟩ = some (.int .u8 58)) :
    Calls Tryd.prog 9 #[.slice (some ⟨b, off, none⟩) n cap, .int .i64 p] w fun e w' => e = .returned (.tuple #[.int .i64 ((p + 2 : Nat) : Int), .int .i64 ((p + 2 : Nat) : Int), .bool true]) ∧ w = w' := by
  go_enter Tryd.func9, Tryd.ntmps9
  go_wp2
  go_ret3
  exact ⟨ret_three (by omega) (by omega), rfl⟩

set_option maxHeartbeats 1000000 in
theorem parse_digits (b off n cap p m : Nat) (f : Nat → Int) (V : Nat → Nat) (w : World) (hn : n ≤ 16777216) (hm : 1 ≤ m) (hp : p + m < n) (hc : ∀ j, j < n → w.cell? ⟨b, off + j, none⟩ = some (.int .u8 (f j)))
    (hd : ∀ i, i < m → 48 ≤ f (p + i) ∧ f (p + i) ≤ 57) (h0 : f p ≠ 48) (hcol : f (p + m) = 58) (hV0 : V 0 = 0) (hV : ∀ i, i < m → (V (i + 1) : Int) = V i * 10 + (f (p + i) - 48)) (hVm : ∀ i, i ≤ m → V i ≤ 16777216) (hfit : p + m + 1 + V m ≤ n) :
    Calls Tryd.prog 9 #[.slice (some ⟨b, off, none⟩) n cap, .int .i64 p] w fun e w' => e = .returned (.tuple #[.int .i64 ((p + m + 1 : Nat) : Int), .int .i64 ((p + m + 1 + V m : Nat) : Int), .bool true]) ∧ w = w' := by
  have HC : Hid (∀ j, j < n → w.cell? ⟨b, off + j, none⟩ = some (.int .u8 (f j))) := hc
  have HD : Hid (∀ i, i < m → 48 ≤ f (p + i) ∧ f (p + i) ≤ 57) := hd
  have HV : Hid (∀ i, i < m → (V (i + 1) : Int) = V i * 10 + (f (p + i) - 48)) := hV
  have HM : Hid (∀ i, i ≤ m → V i ≤ 16777216) := hVm
  have HCol : Hid (f (p + m) = 58) := hcol
  have H0 : Hid (V 0 = 0) := hV0
  have g0 := hc p (by omega)
  have d0 := hd 0 (by omega)
  rw [Nat.add_zero] at d0
  obtain ⟨d0a, d0b⟩ := d0
  have hz : (f p == 48) = false := by simpa using h0
  clear hc hd hV hVm hcol hV0 h0
  go_enter Tryd.func9, Tryd.ntmps9
  go_wp2
  go_loop [7, 8] (fun q s => ∃ i : Nat, i ≤ m ∧ q = .int .i64 ((p + i : Nat) : Int) ∧ s = .int .i64 (V i)) (fun q _ => p + m - (intOf q).toNat)
  case atStart => exact ⟨0, by omega, rfl, by rw [H0.out]; rfl⟩
  case round =>
    obtain ⟨i, hi, rfl, rfl⟩ := hrel
    by_cases hlt : i < m
    · have g := HC.out (p + i) (by omega)
      obtain ⟨da, db⟩ := HD.out i hlt
      have b1 := HM.out i hi
      have b2 := HM.out (i + 1) hlt
      have hv := HV.out i hlt
      generalize f (p + i) = y at *
      have b3 : (V i : Int) * 10 + (y - 48) ≤ 16777216 := by omega
      have HVi : Hid ((V (i + 1) : Int) = V i * 10 + (y - 48)) := hv
      clear hv
      go_wp2
      go_round
      case rel => exact ⟨i + 1, by omega, by go_num, int_eq HVi.out.symm⟩
      case measure => simp [intOf]; omega
    · obtain rfl : i = m := by omega
      have g := HC.out (p + i) (by omega)
      rw [HCol.out] at g
      go_wp2
      go_ret3
      exact ⟨ret_three (by omega) (by omega), rfl⟩

/-! ### the numeral at its place -/
theorem dec_head (u : Nat) (h : 1 ≤ u) : ∀ c, (decDigits u)[0]? = some c → c.toNat ≠ 48 := by
  induction u using Nat.strongRecOn with
  | _ u ih =>
    intro c hc
    by_cases hu : u < 10
    · rw [dec_small hu] at hc
      simp only [List.getElem?_cons_zero, Option.some.injEq] at hc
      rw [← hc, digit_toNat u hu]; omega
    · rw [dec_big hu, List.getElem?_append_left (dec_pos _)] at hc
      exact ih (u / 10) (by omega) (by omega) c hc
theorem val_take_succ (l : List UInt8) (i : Nat) (h : i < l.length) : val (l.take (i + 1)) = val (l.take i) * 10 + (l[i].toNat - 48) := by
  unfold val
  rw [List.take_succ_eq_append_getElem h, List.foldl_append]
  rfl
theorem val_take_le (l : List UInt8) (i : Nat) : val (l.take i) ≤ val l := by
  have key : ∀ (k : Nat), i ≤ k → val (l.take i) ≤ val (l.take k) := by
    intro k hk
    induction k with
    | zero => have : i = 0 := by omega
              subst this; exact Nat.le_refl _
    | succ k ih =>
      by_cases h : i = k + 1
      · subst h; exact Nat.le_refl _
      · have := ih (by omega)
        by_cases hl : k < l.length
        · rw [val_take_succ l k hl]; omega
        · rw [List.take_of_length_le (show l.length ≤ k + 1 by omega)]
          rw [List.take_of_length_le (show l.length ≤ k by omega)] at this
          exact this
  by_cases h : i ≤ l.length
  · have := key l.length h
    rwa [List.take_length] at this
  · rw [List.take_of_length_le (by omega)]; exact Nat.le_refl _

/-- parseAtom at a text that bears an encoded atom behind 'pre' -/
theorem parse_any {w : World} {B : Nat} {s : Value} {pre ys post zs : List UInt8} (hz : zs = pre ++ enc ys ++ post) (hl : zs.length ≤ 16777216) (hs : Rd w B s zs) :
    Calls Tryd.prog 9 #[s, .int .i64 (pre.length : Nat)] w fun e w' => e = .returned (.tuple #[.int .i64 (((pre ++ enc ys).length - ys.length : Nat) : Int), .int .i64 (((pre ++ enc ys).length : Nat) : Int), .bool true]) ∧ w = w' := by
  have hdp := dec_pos ys.length
  have hlen : zs.length = pre.length + (decDigits ys.length).length + 1 + ys.length + post.length := by
    rw [hz]; simp only [enc, List.length_append, List.length_cons]; omega
  have he : (pre ++ enc ys).length = pre.length + (decDigits ys.length).length + 1 + ys.length := by
    simp only [enc, List.length_append, List.length_cons]; omega
  have gd : ∀ i (hi : i < (decDigits ys.length).length), ∃ h : pre.length + i < zs.length, zs[pre.length + i] = (decDigits ys.length)[i] := by
    intro i hi
    refine ⟨by omega, ?_⟩
    subst hz
    unfold enc
    rw [List.getElem_append_left (by simp; omega), List.getElem_append_right (by omega), List.getElem_append_left (by omega)]
    congr 1; omega
  have gc : ∃ h : pre.length + (decDigits ys.length).length < zs.length, zs[pre.length + (decDigits ys.length).length] = 58 := by
    refine ⟨by omega, ?_⟩
    subst hz
    unfold enc
    rw [List.getElem_append_left (by simp), List.getElem_append_right (by omega), List.getElem_append_right (by omega)]
    simp
  have hval := dec_val ys.length
  have hdig := dec_dig ys.length
  have hhead := dec_head ys.length
  rcases hs with ⟨rfl, h0⟩ | ⟨b, off, cap, rfl, hB, hn, hm, hc⟩
  · rw [h0] at hlen; simp at hlen; omega
  · by_cases hy : ys.length = 0
    · have hdd : decDigits ys.length = [48] := by rw [hy, dec_small (by omega)]; rfl
      obtain ⟨k0, e0⟩ := gd 0 hdp
      obtain ⟨k1, e1⟩ := gc
      simp only [hdd, List.length_cons, List.length_nil, Nat.zero_add, Nat.add_zero, List.getElem_cons_zero] at e0 e1 k0 k1 he
      have g0 := hc pre.length k0
      have g1 := hc (pre.length + 1) k1
      rw [e0] at g0
      rw [e1] at g1
      have h := parse_zero b off zs.length cap pre.length w hl (by omega) g0 g1
      rw [he, show pre.length + 1 + 1 + ys.length - ys.length = pre.length + 2 by omega, show pre.length + 1 + 1 + ys.length = pre.length + 2 by omega]
      exact h
    · obtain ⟨m, hm'⟩ : ∃ m, m = (decDigits ys.length).length := ⟨_, rfl⟩
      have h := parse_digits b off zs.length cap pre.length m (fun j => ((zs[j]?.getD 0).toNat : Int)) (fun i => val ((decDigits ys.length).take i)) w hl (by omega) (by omega)
        (fun j hj => by rw [hc j hj, List.getElem?_eq_getElem hj]; rfl)
        (fun i hi => by
          obtain ⟨k, e⟩ := gd i (by omega)
          have := hdig _ (List.getElem_mem (l := decDigits ys.length) (n := i) (by omega))
          simp only [List.getElem?_eq_getElem k, Option.getD_some, e]
          unfold isDig at this
          omega)
        (by
          obtain ⟨k, e⟩ := gd 0 hdp
          rw [Nat.add_zero] at k
          simp only [Nat.add_zero] at e
          have := hhead (by omega) _ (List.getElem?_eq_getElem hdp)
          simp only [List.getElem?_eq_getElem k, Option.getD_some, e]
          omega)
        (by
          obtain ⟨k, e⟩ := gc
          rw [← hm'] at k
          simp only [← hm'] at e
          simp only [List.getElem?_eq_getElem k, Option.getD_some, e]
          rfl)
        (by rfl)
        (fun i hi => by
          obtain ⟨k, e⟩ := gd i (by omega)
          have := hdig _ (List.getElem_mem (l := decDigits ys.length) (n := i) (by omega))
          unfold isDig at this
          simp only [List.getElem?_eq_getElem k, Option.getD_some, e]
          rw [val_take_succ _ i (by omega)]
          omega)
        (fun i hi => by
          have := val_take_le (decDigits ys.length) i
          rw [hval] at this
          show val ((decDigits ys.length).take i) ≤ 16777216
          omega)
        (by
          show pre.length + m + 1 + val ((decDigits ys.length).take m) ≤ zs.length
          rw [hm', List.take_length, hval]; omega)
      have ev : val ((decDigits ys.length).take m) = ys.length := by rw [hm', List.take_length, hval]
      rw [he, show pre.length + (decDigits ys.length).length + 1 + ys.length - ys.length = pre.length + m + 1 by omega, show pre.length + (decDigits ys.length).length + 1 + ys.length = pre.length + m + 1 + val ((decDigits ys.length).take m) by rw [ev, hm']]
      exact h
end Go.Proofs.Qxb6617572aDoor
