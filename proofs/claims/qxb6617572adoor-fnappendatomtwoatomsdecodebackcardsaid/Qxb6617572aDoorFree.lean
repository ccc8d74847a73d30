/-
  FnAppendAtomPrefixFree (4): the law's walk.
-/
import Derived.Test.Qxb6617572aDoorPlain
namespace Go.Proofs.Qxb6617572aDoor
open Go.RowKit
open Go.Lib (byteCells TabBelow pow10Tab)

/-! ### the contracts with the result's shape written out -/
theorem own_slice {w : World} {B : Nat} {v : Value} {xs : List UInt8} (h : w.ownsRow B 5 1 v xs.length (byteCells xs)) : ∃ a c, v = .slice a xs.length c := slice_of (rd_of_own h)

theorem clone_at (v : Value) (xs : List UInt8) (w : World) (hl : xs.length ≤ 1048576) (hr : Src w v xs) :
    Calls Tryd.prog 6 #[v] w fun e w' => ∃ a c, e = .returned (.slice a xs.length c) ∧ w'.ownsRow w.heap.size 5 1 (.slice a xs.length c) xs.length (byteCells xs) ∧ Below w.heap.size w w' := by
  refine (clone_any v xs w hl hr fun ad cap hv j u hu => ?_).mono ?_
  · rcases hr with ⟨rfl, rfl⟩ | ⟨ad', cap', rfl, hc⟩
    · simp [byteCells] at hu
    · cases hv
      exact World.block_lt_of_cell? w _ (hc j u hu)
  · rintro e w' ⟨v', rfl, ho, hb⟩
    obtain ⟨a, c, rfl⟩ := own_slice ho
    exact ⟨a, c, rfl, ho, hb⟩
theorem atom_at (B : Nat) (dst atom : Value) (xs ys zs : List UInt8) (hz : zs = xs ++ enc ys) (w : World) (hown : w.ownsRow B 5 1 dst xs.length (byteCells xs)) (hr : Rd w B atom ys) (hBw : B ≤ w.heap.size) (hx : xs.length ≤ 4194304) (hy : ys.length ≤ 4194304)
    (hT : TabBelow Tryd.prog B w powName .u64 pow10Tab) :
    Calls Tryd.prog 7 #[dst, atom] w fun e w' => ∃ a c, e = .returned (.slice a zs.length c) ∧ w'.ownsRow B 5 1 (.slice a zs.length c) zs.length (byteCells zs) ∧ Below B w w' := by
  subst hz
  refine (atom_any B dst atom xs ys w hown hr hBw hx hy hT).mono ?_
  rintro e w' ⟨v', rfl, ho, hb⟩
  obtain ⟨a, c, rfl⟩ := own_slice ho
  exact ⟨a, c, rfl, ho, hb⟩

set_option maxHeartbeats 1000000 in
theorem zz11 (x y z : Option Addr) (n m l cx cy cz : Nat) (w : World) :
    Calls Tryd.prog 11 #[.slice x n cx, .slice y m cy, .slice z l cz] w fun e w' => ∃ b : Bool, e = .returned (.bool b) ∧ w = w' := by
  go_enter Tryd.func11, Tryd.ntmps11
  go_wp2
  all_goals
    go_ret
    exact ⟨_, rfl, rfl⟩
theorem src_below {w w' : World} {v : Value} {xs : List UInt8} (h : Src w v xs) (hb : Below w.heap.size w w') : Src w' v xs := by
  rcases h with h | ⟨ad, cap, rfl, hc⟩
  · exact .inl h
  · exact .inr ⟨ad, cap, rfl, fun j u hu => (hb.cell (World.block_lt_of_cell? w _ (hc j u hu))).trans (hc j u hu)⟩
theorem tab_mono {B B' : Nat} {w : World} (h : TabBelow Tryd.prog B w powName .u64 pow10Tab) (hb : B ≤ B') : TabBelow Tryd.prog B' w powName .u64 pow10Tab :=
  fun w' hw => h w' (hw.mono hb)

set_option maxRecDepth 100000 in
set_option maxHeartbeats 4000000 in
theorem free_in (x y z : Option Addr) (cx cy cz : Nat) (dl al bl : List UInt8) (w : World) (hd : Src w (.slice x dl.length cx) dl) (ha : Src w (.slice y al.length cy) al) (hb : Src w (.slice z bl.length cz) bl)
    (hsum : dl.length + al.length + bl.length ≤ 1048576) (hT : TabBelow Tryd.prog w.heap.size w powName .u64 pow10Tab) :
    Calls Tryd.prog 4 #[.slice x dl.length cx, .slice y al.length cy, .slice z bl.length cz] w fun e w' => e = .returned (.bool true) ∧ Below w.heap.size w w' := by
  have HD : Hid (Src w (.slice x dl.length cx) dl) := hd
  have HA : Hid (Src w (.slice y al.length cy) al) := ha
  have HB : Hid (Src w (.slice z bl.length cz) bl) := hb
  clear hd ha hb
  obtain ⟨el, hel⟩ : ∃ el, el = dl ++ enc al := ⟨_, rfl⟩
  obtain ⟨fl, hfl⟩ : ∃ fl, fl = dl ++ enc bl := ⟨_, rfl⟩
  have l1 := enc_len dl al
  have l2 := enc_len dl bl
  have l3 := enc_le dl al (by omega)
  have l4 := enc_le dl bl (by omega)
  have HF : Hid ((prefB (dl ++ enc al) (dl ++ enc bl) || prefB (dl ++ enc bl) (dl ++ enc al)) = (al == bl)) := free_law dl al bl
  rw [← hel] at l1 l3 HF
  rw [← hfl] at l2 l4 HF
  have HEL := (show Hid _ from hel)
  have HFL := (show Hid _ from hfl)
  clear hel hfl
  go_enter Tryd.func4, Tryd.ntmps4
  go_wp2_with (go_at_call 11; refine (zz11 _ _ _ _ _ _ _ _ _ _).mono ?_; rintro e w' ⟨b, rfl, rfl⟩)
  · go_ret
    exact ⟨rfl, Below.refl _ _⟩
  · refine (clone_at _ dl _ (by omega) HD.out).mono ?_
    rintro e w1 ⟨a1, c1, rfl, ho1, b1⟩
    have HO1 := (show Hid _ from ho1)
    have s1 := b1.size
    clear ho1
    go_wp2_with fail
    refine (clone_at _ al _ (by omega) (src_below HA.out b1)).mono ?_
    rintro e w2 ⟨a2, c2, rfl, ho2, b2⟩
    have HO2 := (show Hid _ from ho2)
    have s2 := b2.size
    clear ho2
    go_wp2_with fail
    refine (clone_at _ bl _ (by omega) (src_below HB.out (b1.trans (b2.mono s1)))).mono ?_
    rintro e w3 ⟨a3, c3, rfl, ho3, b3⟩
    have HO3 := (show Hid _ from ho3)
    have s3 := b3.size
    clear ho3
    -- what the three clones read as, from here on: below w3's heap's size
    have HR1 : Hid (Rd w3 w3.heap.size (.slice a1 dl.length c1) dl) := rd_mono (rd_below (rd_mono (rd_below (rd_of_own HO1.out) b2) s2) b3) s3
    have HR2 : Hid (Rd w3 w3.heap.size (.slice a2 al.length c2) al) := rd_mono (rd_below (rd_of_own HO2.out) b3) s3
    have HR3 : Hid (Rd w3 w3.heap.size (.slice a3 bl.length c3) bl) := rd_of_own HO3.out
    have bw3 : Below w.heap.size w w3 := (b1.trans (b2.mono s1)).trans (b3.mono (by omega))
    clear HO1 HO2 HO3
    go_wp2_with fail
    refine (clone_at _ dl _ (by omega) (src_of_rd HR1.out)).mono ?_
    rintro e w4 ⟨a4, c4, rfl, ho4, b4⟩
    have HO4 := (show Hid _ from ho4)
    have s4 := b4.size
    clear ho4
    have bw4 : Below w.heap.size w w4 := bw3.trans (b4.mono (by omega))
    go_wp2_with fail
    refine (atom_at w3.heap.size _ _ dl al el HEL.out w4 HO4.out (rd_below HR2.out b4) s4 (by omega) (by omega) (tab_mono (hT.on bw4) (by omega))).mono ?_
    rintro e w5 ⟨a5, c5, rfl, ho5, b5⟩
    have HO5 := (show Hid _ from ho5)
    have s5 := b5.size
    clear ho5 HO4
    have b35 := b4.trans b5
    have bw5 : Below w.heap.size w w5 := bw3.trans (b35.mono (by omega))
    go_wp2_with fail
    refine (clone_at _ dl _ (by omega) (src_of_rd (rd_below HR1.out b35))).mono ?_
    rintro e w6 ⟨a6, c6, rfl, ho6, b6⟩
    have HO6 := (show Hid _ from ho6)
    have s6 := b6.size
    clear ho6
    have b36 : Below w3.heap.size w3 w6 := b35.trans (b6.mono (by omega))
    have bw6 : Below w.heap.size w w6 := bw3.trans (b36.mono (by omega))
    go_wp2_with fail
    refine (atom_at w5.heap.size _ _ dl bl fl HFL.out w6 HO6.out (rd_mono (rd_below HR3.out b36) (by omega)) s6 (by omega) (by omega) (tab_mono (hT.on bw6) (by omega))).mono ?_
    rintro e w7 ⟨a7, c7, rfl, ho7, b7⟩
    have s7 := b7.size
    have b37 : Below w3.heap.size w3 w7 := b36.trans (b7.mono (by omega))
    have bw7 : Below w.heap.size w w7 := bw3.trans (b37.mono (by omega))
    have HE1 : Hid (Rd w7 w7.heap.size (.slice a5 el.length c5) el) := rd_mono (rd_below (rd_of_own HO5.out) (b6.trans b7)) (by omega)
    have HE2 : Hid (Rd w7 w7.heap.size (.slice a7 fl.length c7) fl) := rd_of_own ho7
    have HA2 : Hid (Rd w7 w7.heap.size (.slice a2 al.length c2) al) := rd_mono (rd_below HR2.out b37) (by omega)
    have HB2 : Hid (Rd w7 w7.heap.size (.slice a3 bl.length c3) bl) := rd_mono (rd_below HR3.out b37) (by omega)
    clear HO5 HO6 ho7 HR1 HR2 HR3
    go_wp2_with fail
    refine (pre_any HE1.out HE2.out (by omega)).mono ?_
    rintro e w8 ⟨rfl, k8, rfl⟩
    go_wp2_with (first | (go_at_call 8; refine (pre_any (rd_drewN HE2.out k8) (rd_drewN HE1.out k8) (by omega)).mono ?_; rintro e w9 ⟨rfl, k9, rfl⟩) | (go_at_call 10; refine Hid.out ?_))
    · refine Lib.hid ?_
      have hp : prefB el fl = true := by assumption
      have hq : (al == bl) = true := by rw [← HF.out, hp]; rfl
      refine (eq_any (rd_drewN HA2.out _) (rd_drewN HB2.out _)).mono ?_
      rintro e w9 ⟨rfl, k9, rfl⟩
      go_wp2
      go_ret
      exact ⟨rfl, below_drewN bw7 _⟩
    · refine Lib.hid ?_
      have hp : ¬ prefB el fl = true := by assumption
      have hq : (al == bl) = prefB fl el := by rw [← HF.out, Bool.eq_false_iff.mpr hp]; rfl
      refine (eq_any (rd_drewN HA2.out _) (rd_drewN HB2.out _)).mono ?_
      rintro e w9 ⟨rfl, k9, rfl⟩
      go_wp2
      go_ret
      exact ⟨rfl, below_drewN bw7 _⟩

set_option maxRecDepth 100000 in
set_option maxHeartbeats 1000000 in
theorem free_out (x y z : Option Addr) (cx cy cz n m l : Nat) (w : World) (hn : n ≤ maxLen) (hm : m ≤ maxLen) (hl : l ≤ maxLen) (hsum : ¬ n + m + l ≤ 1048576) :
    Calls Tryd.prog 4 #[.slice x n cx, .slice y m cy, .slice z l cz] w fun e w' => e = .returned (.bool true) ∧ Below w.heap.size w w' := by
  unfold maxLen at hn hm hl
  go_enter Tryd.func4, Tryd.ntmps4
  go_wp2_with (go_at_call 11; refine (zz11 _ _ _ _ _ _ _ _ _ _).mono ?_; rintro e w' ⟨b, rfl, rfl⟩)
  all_goals first
    | (go_ret; exact ⟨rfl, Below.refl _ _⟩)
    | (exfalso; omega)
end Go.Proofs.Qxb6617572aDoor
