/-
  FnAppendAtomTwoAtomsDecodeBack (3): the law's walk.
-/
import Derived.Test.Qxb6617572aDoorFree
import Derived.Test.Qxb6617572aDoorParse
namespace Go.Proofs.Qxb6617572aDoor
open Go.RowKit
open Go.Lib (byteCells TabBelow pow10Tab)

/-- AppendAtom's result, as a slice that is not nil and reads as the text -/
theorem atom_out (B : Nat) (dst atom : Value) (xs ys zs : List UInt8) (hz : zs = xs ++ enc ys) (w : World) (hown : w.ownsRow B 5 1 dst xs.length (byteCells xs)) (hr : Rd w B atom ys) (hBw : B ≤ w.heap.size) (hx : xs.length ≤ 4194304) (hy : ys.length ≤ 4194304)
    (hT : TabBelow Tryd.prog B w powName .u64 pow10Tab) :
    Calls Tryd.prog 7 #[dst, atom] w fun e w' => ∃ g c, e = .returned (.slice (some ⟨g, 0, none⟩) zs.length c) ∧ Rd w' w'.heap.size (.slice (some ⟨g, 0, none⟩) zs.length c) zs ∧ zs.length ≤ c ∧ c ≤ maxLen ∧ Below B w w' := by
  subst hz
  refine (atom_any B dst atom xs ys w hown hr hBw hx hy hT).mono ?_
  rintro e w' ⟨v', rfl, ho, hb⟩
  have hr := rd_of_own ho
  have hl := enc_len xs ys
  obtain ⟨_, ⟨rfl, h0⟩ | ⟨g, cap, cur, rfl, _, _, hn, hm, _, _⟩⟩ := ho
  · omega
  · exact ⟨g, cap, rfl, hr, hn, hm, hb⟩

/-- a cut of a slice that reads -/
theorem rd_cut {w : World} {B g c s n : Nat} {zs ys : List UInt8} (hr : Rd w B (.slice (some ⟨g, 0, none⟩) zs.length c) zs) (h : s + n ≤ zs.length) (hy : ys = (zs.drop s).take n) : Rd w B (.slice (some ⟨g, s, none⟩) n (c - s)) ys := by
  have hyl : ys.length = n := by rw [hy, List.length_take, List.length_drop]; omega
  rcases hr with ⟨h1, _⟩ | ⟨b, off, cap, h1, hB, hn, hm, hc⟩
  · cases h1
  · simp only [Value.slice.injEq, Option.some.injEq, Addr.mk.injEq, true_and, and_true] at h1
    obtain ⟨⟨rfl, rfl⟩, rfl⟩ := h1
    refine .inr ⟨g, s, c - s, by rw [hyl], hB, by omega, by omega, fun j hj => ?_⟩
    have := hc (s + j) (by omega)
    rw [Nat.zero_add] at this
    rw [this]
    congr 3
    subst hy
    rw [List.getElem_take, List.getElem_drop]

set_option maxHeartbeats 1000000 in
theorem zz5 (x y z : Option Addr) (n m l cx cy cz : Nat) (w : World) :
    Calls Tryd.prog 5 #[.slice x n cx, .slice y m cy, .slice z l cz] w fun e w' => ∃ b : Bool, e = .returned (.bool b) ∧ w = w' := by
  go_enter Tryd.func5, Tryd.ntmps5
  go_wp2
  all_goals
    go_ret
    exact ⟨_, rfl, rfl⟩

set_option maxRecDepth 100000 in
set_option maxHeartbeats 4000000 in
theorem two_in (x y z : Option Addr) (cx cy cz : Nat) (dl al bl : List UInt8) (w : World) (hd : Src w (.slice x dl.length cx) dl) (ha : Src w (.slice y al.length cy) al) (hb : Src w (.slice z bl.length cz) bl)
    (hsum : dl.length + al.length + bl.length ≤ 1048576) (hT : TabBelow Tryd.prog w.heap.size w powName .u64 pow10Tab) :
    Calls Tryd.prog 3 #[.slice x dl.length cx, .slice y al.length cy, .slice z bl.length cz] w fun e w' => e = .returned (.bool true) ∧ Below w.heap.size w w' := by
  have HD : Hid (Src w (.slice x dl.length cx) dl) := hd
  have HA : Hid (Src w (.slice y al.length cy) al) := ha
  have HB : Hid (Src w (.slice z bl.length cz) bl) := hb
  clear hd ha hb
  obtain ⟨el, hel⟩ : ∃ el, el = dl ++ enc al := ⟨_, rfl⟩
  obtain ⟨fl, hfl⟩ : ∃ fl, fl = el ++ enc bl := ⟨_, rfl⟩
  have l1 := enc_len dl al
  have l2 := enc_len el bl
  have l3 := enc_le dl al (by omega)
  have l4 := enc_le el bl (by omega)
  rw [← hel] at l1 l3
  rw [← hfl] at l2 l4
  obtain ⟨s1, hs1⟩ : ∃ s1, s1 = el.length - al.length := ⟨_, rfl⟩
  obtain ⟨s2, hs2⟩ : ∃ s2, s2 = fl.length - bl.length := ⟨_, rfl⟩
  have k1 : s1 + al.length ≤ el.length := by omega
  have k1' : el.length ≤ s1 + al.length := by omega
  have k2 : s2 + bl.length ≤ fl.length := by omega
  have k2' : fl.length ≤ s2 + bl.length := by omega
  have hpre : prefB fl dl = true := by rw [pref_iff]; exact ⟨enc al ++ enc bl, by rw [hfl, hel, List.append_assoc]⟩
  have HX : Hid (al = (fl.drop s1).take (el.length - s1)) := by
    show al = (fl.drop s1).take (el.length - s1)
    rw [show el.length - s1 = al.length by omega]
    have hs : s1 = (dl ++ (Lib.decDigits al.length ++ [58])).length := by rw [hs1, hel]; simp [enc]; omega
    have e : fl = (dl ++ (Lib.decDigits al.length ++ [58])) ++ (al ++ enc bl) := by rw [hfl, hel]; simp [enc]
    rw [e, hs, List.drop_left, List.take_left]
  have HY : Hid (bl = (fl.drop s2).take (fl.length - s2)) := by
    show bl = (fl.drop s2).take (fl.length - s2)
    rw [show fl.length - s2 = bl.length by omega]
    have hs : s2 = (el ++ (Lib.decDigits bl.length ++ [58])).length := by rw [hs2, hfl]; simp [enc]; omega
    have e : fl = (el ++ (Lib.decDigits bl.length ++ [58])) ++ bl := by rw [hfl]; simp [enc]
    rw [e, hs, List.drop_left, List.take_length]
  have HP1 : Hid (∀ (w : World) (B : Nat) (s : Value), Rd w B s fl → Calls Tryd.prog 9 #[s, .int .i64 (dl.length : Nat)] w fun e w' => e = .returned (.tuple #[.int .i64 (s1 : Nat), .int .i64 (el.length : Nat), .bool true]) ∧ w = w') := by
    intro w B s hs
    have := parse_any (pre := dl) (ys := al) (post := enc bl) (zs := fl) (by rw [hfl, hel]) (by omega) hs
    rw [← hel, ← hs1] at this
    exact this
  have HP2 : Hid (∀ (w : World) (B : Nat) (s : Value), Rd w B s fl → Calls Tryd.prog 9 #[s, .int .i64 (el.length : Nat)] w fun e w' => e = .returned (.tuple #[.int .i64 (s2 : Nat), .int .i64 (fl.length : Nat), .bool true]) ∧ w = w') := by
    intro w B s hs
    have := parse_any (pre := el) (ys := bl) (post := []) (zs := fl) (by rw [hfl, List.append_nil]) (by omega) hs
    rw [← hfl, ← hs2] at this
    exact this
  have HEL := (show Hid _ from hel)
  have HFL := (show Hid _ from hfl)
  clear hel hfl hs1 hs2
  go_enter Tryd.func3, Tryd.ntmps3
  go_wp2_with (go_at_call 5; refine (zz5 _ _ _ _ _ _ _ _ _ _).mono ?_; rintro e w' ⟨b, rfl, rfl⟩)
  · go_ret
    exact ⟨rfl, Below.refl _ _⟩
  · refine (clone_at _ dl _ (by omega) HD.out).mono ?_
    rintro e w1 ⟨a1, c1, rfl, ho1, b1⟩
    have HO1 := (show Hid _ from ho1)
    have z1 := b1.size
    clear ho1
    go_wp2_with fail
    refine (clone_at _ al _ (by omega) (src_below HA.out b1)).mono ?_
    rintro e w2 ⟨a2, c2, rfl, ho2, b2⟩
    have HO2 := (show Hid _ from ho2)
    have z2 := b2.size
    clear ho2
    go_wp2_with fail
    refine (clone_at _ bl _ (by omega) (src_below HB.out (b1.trans (b2.mono z1)))).mono ?_
    rintro e w3 ⟨a3, c3, rfl, ho3, b3⟩
    have HO3 := (show Hid _ from ho3)
    have z3 := b3.size
    clear ho3
    have HR1 : Hid (Rd w3 w3.heap.size (.slice a1 dl.length c1) dl) := rd_mono (rd_below (rd_mono (rd_below (rd_of_own HO1.out) b2) z2) b3) z3
    have HR2 : Hid (Rd w3 w3.heap.size (.slice a2 al.length c2) al) := rd_mono (rd_below (rd_of_own HO2.out) b3) z3
    have HR3 : Hid (Rd w3 w3.heap.size (.slice a3 bl.length c3) bl) := rd_of_own HO3.out
    have bw3 : Below w.heap.size w w3 := (b1.trans (b2.mono z1)).trans (b3.mono (by omega))
    clear HO1 HO2 HO3
    go_wp2_with fail
    refine (clone_at _ dl _ (by omega) (src_of_rd HR1.out)).mono ?_
    rintro e w4 ⟨a4, c4, rfl, ho4, b4⟩
    have HO4 := (show Hid _ from ho4)
    have z4 := b4.size
    clear ho4
    have bw4 : Below w.heap.size w w4 := bw3.trans (b4.mono (by omega))
    go_wp2_with fail
    refine (atom_at w3.heap.size _ _ dl al el HEL.out w4 HO4.out (rd_below HR2.out b4) z4 (by omega) (by omega) (tab_mono (hT.on bw4) (by omega))).mono ?_
    rintro e w5 ⟨a5, c5, rfl, ho5, b5⟩
    have HO5 := (show Hid _ from ho5)
    have z5 := b5.size
    clear ho5 HO4
    have b35 := b4.trans b5
    have bw5 : Below w.heap.size w w5 := bw3.trans (b35.mono (by omega))
    go_wp2_with fail
    refine (atom_out w3.heap.size _ _ el bl fl HFL.out w5 HO5.out (rd_below HR3.out b35) (by omega) (by omega) (by omega) (tab_mono (hT.on bw5) (by omega))).mono ?_
    rintro e w6 ⟨g, c, rfl, hr6, hc6, hm6, b6⟩
    have HR6 := (show Hid _ from hr6)
    have z6 := b6.size
    clear hr6 HO5
    unfold maxLen at hm6
    have b36 := b35.trans b6
    have bw6 : Below w.heap.size w w6 := bw3.trans (b36.mono (by omega))
    have HD6 : Hid (Rd w6 w6.heap.size (.slice a1 dl.length c1) dl) := rd_mono (rd_below HR1.out b36) (by omega)
    have HA6 : Hid (Rd w6 w6.heap.size (.slice a2 al.length c2) al) := rd_mono (rd_below HR2.out b36) (by omega)
    have HB6 : Hid (Rd w6 w6.heap.size (.slice a3 bl.length c3) bl) := rd_mono (rd_below HR3.out b36) (by omega)
    clear HR1 HR2 HR3
    go_wp2_with fail
    refine (pre_any HR6.out HD6.out (by omega)).mono ?_
    rintro e w7 ⟨rfl, n7, rfl⟩
    go_wp2_with fail
    refine (HP1.out _ _ _ (rd_drewN HR6.out n7)).mono ?_
    rintro e w8 ⟨rfl, rfl⟩
    go_wp2_with fail
    refine (eq_any (rd_cut (rd_drewN HR6.out n7) (by omega) HX.out) (rd_drewN HA6.out n7)).mono ?_
    rintro e w9 ⟨rfl, n9, rfl⟩
    have hq1 : (al == al) = true := by simp
    go_wp2_with fail
    refine (HP2.out _ _ _ (rd_drewN HR6.out (n7 + n9))).mono ?_
    rintro e w10 ⟨rfl, rfl⟩
    have hq2 : (bl == bl) = true := by simp
    go_wp2_with fail
    · have hb0 : bl = [] := List.eq_nil_of_length_eq_zero (by omega)
      have hz0 : fl.length - s2 = 0 := by omega
      have hrd : Rd (w6.drewN (n7 + n9)) w6.heap.size (.slice (some ⟨g, 0, none⟩) (fl.length - s2) 0) bl := by
        rw [hz0, hb0]
        refine .inr ⟨g, 0, 0, rfl, ?_, Nat.le_refl _, Nat.zero_le _, fun j hj => absurd hj (by simp)⟩
        rcases HR6.out with ⟨h1, _⟩ | ⟨b', off', cap', h1, hB', _⟩
        · cases h1
        · simp only [Value.slice.injEq, Option.some.injEq, Addr.mk.injEq, true_and, and_true] at h1
          obtain ⟨⟨rfl, _⟩, _⟩ := h1
          exact hB'
      clear hz0 hb0
      refine (eq_any hrd (rd_drewN HB6.out _)).mono ?_
      rintro e w11 ⟨rfl, n11, rfl⟩
      go_wp2
      go_ret
      exact ⟨rfl, below_drewN bw6 _⟩
    · refine (eq_any (rd_cut (rd_drewN HR6.out _) (by omega) HY.out) (rd_drewN HB6.out _)).mono ?_
      rintro e w11 ⟨rfl, n11, rfl⟩
      go_wp2
      go_ret
      exact ⟨rfl, below_drewN bw6 _⟩

set_option maxRecDepth 100000 in
set_option maxHeartbeats 1000000 in
theorem two_out (x y z : Option Addr) (cx cy cz n m l : Nat) (w : World) (hn : n ≤ maxLen) (hm : m ≤ maxLen) (hl : l ≤ maxLen) (hsum : ¬ n + m + l ≤ 1048576) :
    Calls Tryd.prog 3 #[.slice x n cx, .slice y m cy, .slice z l cz] w fun e w' => e = .returned (.bool true) ∧ Below w.heap.size w w' := by
  unfold maxLen at hn hm hl
  go_enter Tryd.func3, Tryd.ntmps3
  go_wp2_with (go_at_call 5; refine (zz5 _ _ _ _ _ _ _ _ _ _).mono ?_; rintro e w' ⟨b, rfl, rfl⟩)
  all_goals first
    | (go_ret; exact ⟨rfl, Below.refl _ _⟩)
    | (exfalso; omega)
end Go.Proofs.Qxb6617572aDoor
