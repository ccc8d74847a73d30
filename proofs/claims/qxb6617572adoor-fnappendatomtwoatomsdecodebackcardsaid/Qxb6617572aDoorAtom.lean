/-
  AppendAtom (7), hasPrefix (8).
-/
import Derived.Test.Qxb6617572aDoorRead
import Derived.Lib.AppendIntMem
import Derived.Lib.ItoaLen
import Derived.Lib.Slices
import Derived.Lib.Hide
import Derived.BigCall
import Derived.Laws.AppendOwnNone
namespace Go.Proofs.Qxb6617572aDoor
open Go.RowKit
open Go.Lib (byteCells TabBelow pow10Tab)

/-- the canonical encoding of an atom -/
def enc (ys : List UInt8) : List UInt8 := Lib.decDigits ys.length ++ 58 :: ys

theorem cells_add {w : World} {b off : Nat} {ys : List UInt8} (hc : ∀ j (h : j < ys.length), w.cell? ⟨b, off + j, none⟩ = some (.int .u8 (ys[j].toNat : Int))) :
    ∀ j u, (byteCells ys)[j]? = some u → w.cell? ((⟨b, off, none⟩ : Addr).add j) = some u := by
  intro j u hu
  have hj : j < ys.length := by
    rcases Nat.lt_or_ge j ys.length with h | h
    · exact h
    · rw [List.getElem?_eq_none (by rw [length_byteCells]; exact h)] at hu; cases hu
  rw [byteCells_at ys j hj] at hu
  cases hu
  have := hc j hj
  unfold Addr.add
  split
  · rename_i h0; subst h0; exact this
  · exact this

set_option maxHeartbeats 6400000 in
set_option maxRecDepth 100000 in
theorem atom_nil (B : Nat) (dst : Value) (xs : List UInt8) (w : World) (hown : w.ownsRow B 5 1 dst xs.length (byteCells xs)) (hBw : B ≤ w.heap.size) (hx : xs.length ≤ 4194304)
    (hT : TabBelow Tryd.prog B w powName .u64 pow10Tab) :
    Calls Tryd.prog 7 #[dst, .slice none 0 0] w fun e w' => ∃ v', e = .returned v' ∧ w'.ownsRow B 5 1 v' (xs ++ enc ([] : List UInt8)).length (byteCells (xs ++ enc ([] : List UInt8))) ∧ Below B w w' := by
  obtain ⟨i0, hi, hz0, hz1, hz2⟩ := info_parts infoByte
  have la := Lib.itoa_length_le (0 : Nat) (by omega) (by omega)
  obtain ⟨L, hL⟩ : ∃ L, L = Lib.itoa ((0 : Nat) : Int) := ⟨_, rfl⟩
  rw [← hL] at la
  have HL : Hid (L = Lib.itoa ((0 : Nat) : Int)) := hL
  clear hL
  go_enter Tryd.func7, Tryd.ntmps7
  go_wp2_with (go_at_call 12; refine (Tryd.appendInt B xs.length 0 (by omega) (by omega) dst (byteCells xs) w hown hBw (by omega) hT).mono ?_; rintro e w1 ⟨v1, rfl, hown1, hnx1, -⟩; refine Hid.out ?_)
  refine Lib.hid ?_
  replace hown1 : w1.ownsRow B 5 1 v1 (xs.length + L.length) (byteCells xs ++ byteCells L) := by rw [HL.out]; exact hown1
  go_wp2_with (at_builtin; refine wpList_append_own _ rfl _ _ 22 rfl B 5 i0 (.int .u8 0) 1 1 Tryd.underlying22 hi hz0 hz1 hz2 rfl (by decide) _ _ _ rfl (hown1.alloc _) ⟨w1.heap.size, 0, none⟩ 1 1 [Value.int .u8 58] rfl rfl (by intro j u' hj; match j, hj with | 0, hj => simp at hj; subst hj; simp [Addr.add]) (by intro u' hu'; simp at hu'; subst hu'; rfl) (by unfold maxLen; omega) (by omega) (by have := hnx1.size; simp; omega) ?_)
  intro v2 w2 hown2 hgrow _
  have hnx2 : Below B w w2 := (hnx1.alloc (by have := hnx1.size; omega) _).grown hgrow (by have := hnx1.size; simp; omega) (fun k hk => (hown1.lt k hk).1)
  have hs2 := hnx2.size
  clear hgrow
  go_wp2_with (at_builtin; refine wpList_append_own_none rfl _ _ 22 rfl B 5 i0 1 Tryd.underlying22 hi v2 _ _ rfl hown2 rfl ?_)
  go_wp2
  go_ret
  refine ⟨v2, rfl, ?_, hnx2⟩
  have e1 : (xs ++ enc []).length = xs.length + L.length + 1 := by rw [HL.out, Lib.itoa_nonneg]; simp [enc]; omega
  have e2 : byteCells (xs ++ enc []) = byteCells xs ++ (byteCells L ++ [Value.int .u8 58]) := by rw [HL.out, Lib.itoa_nonneg]; simp [enc, byteCells]
  rw [e1, e2]
  exact hown2

set_option maxHeartbeats 6400000 in
set_option maxRecDepth 100000 in
theorem atom_some (B : Nat) (dst : Value) (xs ys : List UInt8) (b off cap : Nat) (w : World) (hown : w.ownsRow B 5 1 dst xs.length (byteCells xs)) (hb : b < B) (hc : ∀ j (h : j < ys.length), w.cell? ⟨b, off + j, none⟩ = some (.int .u8 (ys[j].toNat : Int))) (hBw : B ≤ w.heap.size) (hx : xs.length ≤ 4194304) (hy : ys.length ≤ 4194304)
    (hT : TabBelow Tryd.prog B w powName .u64 pow10Tab) :
    Calls Tryd.prog 7 #[dst, .slice (some ⟨b, off, none⟩) ys.length cap] w fun e w' => ∃ v', e = .returned v' ∧ w'.ownsRow B 5 1 v' (xs ++ enc ys).length (byteCells (xs ++ enc ys)) ∧ Below B w w' := by
  obtain ⟨i0, hi, hz0, hz1, hz2⟩ := info_parts infoByte
  have la := Lib.itoa_length_le (ys.length : Nat) (by omega) (by omega)
  obtain ⟨L, hL⟩ : ∃ L, L = Lib.itoa ((ys.length : Nat) : Int) := ⟨_, rfl⟩
  rw [← hL] at la
  have HL : Hid (L = Lib.itoa ((ys.length : Nat) : Int)) := hL
  clear hL
  have HC : Hid (∀ w', Below B w w' → ∀ j u, (byteCells ys)[j]? = some u → w'.cell? ((⟨b, off, none⟩ : Addr).add j) = some u) := fun w' hw' => cells_add (fun j hj => (hw'.cell (p := ⟨b, off + j, none⟩) hb).trans (hc j hj))
  clear hc
  go_enter Tryd.func7, Tryd.ntmps7
  go_wp2_with (go_at_call 12; refine (Tryd.appendInt B xs.length ys.length (by omega) (by omega) dst (byteCells xs) w hown hBw (by omega) hT).mono ?_; rintro e w1 ⟨v1, rfl, hown1, hnx1, -⟩; refine Hid.out ?_)
  refine Lib.hid ?_
  replace hown1 : w1.ownsRow B 5 1 v1 (xs.length + L.length) (byteCells xs ++ byteCells L) := by rw [HL.out]; exact hown1
  go_wp2_with (at_builtin; refine wpList_append_own _ rfl _ _ 22 rfl B 5 i0 (.int .u8 0) 1 1 Tryd.underlying22 hi hz0 hz1 hz2 rfl (by decide) _ _ _ rfl (hown1.alloc _) ⟨w1.heap.size, 0, none⟩ 1 1 [Value.int .u8 58] rfl rfl (by intro j u' hj; match j, hj with | 0, hj => simp at hj; subst hj; simp [Addr.add]) (by intro u' hu'; simp at hu'; subst hu'; rfl) (by unfold maxLen; omega) (by omega) (by have := hnx1.size; simp; omega) ?_)
  intro v2 w2 hown2 hgrow _
  have hnx2 : Below B w w2 := (hnx1.alloc (by have := hnx1.size; omega) _).grown hgrow (by have := hnx1.size; simp; omega) (fun k hk => (hown1.lt k hk).1)
  have hs2 := hnx2.size
  clear hgrow
  go_wp2_with (at_builtin; refine wpList_append_own _ rfl _ _ 22 rfl B 5 i0 (.int .u8 0) 1 1 Tryd.underlying22 hi hz0 hz1 hz2 rfl (by decide) v2 _ _ rfl hown2 ⟨b, off, none⟩ ys.length cap (byteCells ys) rfl (by rw [length_byteCells, Nat.mul_one]) (HC.out w2 hnx2) (byteCells_one' ys) (by unfold maxLen; omega) (by omega) (by omega) ?_)
  intro v3 w3 hown3 hgrow3 _
  have hnx3 : Below B w w3 := hnx2.grown hgrow3 (by omega) (fun k hk => (hown2.lt k hk).1)
  have HO := (show Hid _ from hown3)
  clear hown3
  go_wp2
  go_ret
  refine ⟨v3, rfl, ?_, hnx3⟩
  have e1 : (xs ++ enc ys).length = xs.length + L.length + 1 + ys.length := by rw [HL.out, Lib.itoa_nonneg]; simp [enc]; omega
  have e2 : byteCells (xs ++ enc ys) = byteCells xs ++ (byteCells L ++ Value.int .u8 58 :: byteCells ys) := by rw [HL.out, Lib.itoa_nonneg]; simp [enc, byteCells]
  rw [e1, e2]
  exact HO.out

theorem atom_any (B : Nat) (dst atom : Value) (xs ys : List UInt8) (w : World) (hown : w.ownsRow B 5 1 dst xs.length (byteCells xs)) (hr : Rd w B atom ys) (hBw : B ≤ w.heap.size) (hx : xs.length ≤ 4194304) (hy : ys.length ≤ 4194304)
    (hT : TabBelow Tryd.prog B w powName .u64 pow10Tab) :
    Calls Tryd.prog 7 #[dst, atom] w fun e w' => ∃ v', e = .returned v' ∧ w'.ownsRow B 5 1 v' (xs ++ enc ys).length (byteCells (xs ++ enc ys)) ∧ Below B w w' := by
  rcases hr with ⟨rfl, rfl⟩ | ⟨b, off, cap, rfl, hb, -, -, hc⟩
  · exact atom_nil B dst xs w hown hBw hx hT
  · exact atom_some B dst xs ys b off cap w hown hb hc hBw hx hy hT

/-! ### hasPrefix -/
def prefB (s p : List UInt8) : Bool := s.take p.length == p

set_option maxHeartbeats 1000000 in
theorem pre_no (x y : Option Addr) (n m cx cy : Nat) (w : World) (hnm : n < m) :
    Calls Tryd.prog 8 #[.slice x n cx, .slice y m cy] w fun e w' => e = .returned (.bool false) ∧ w' = w := by
  go_enter Tryd.func8, Tryd.ntmps8
  go_wp2
  go_ret
  exact ⟨rfl, rfl⟩

set_option maxHeartbeats 1000000 in
theorem pre_yes (b off cx : Nat) (p : Value) (n m : Nat) (y : Option Addr) (cy : Nat) (hp : p = .slice y m cy) (r : Bool) (w : World) (hnm : m ≤ n) (hn : n ≤ cx) (hc : cx ≤ 9223372036854775807)
    (h : Calls Tryd.prog 10 #[.slice (some ⟨b, off, none⟩) m cx, p] w fun e w' => e = .returned (.bool r) ∧ ∃ k, w' = w.drewN k) :
    Calls Tryd.prog 8 #[.slice (some ⟨b, off, none⟩) n cx, p] w fun e w' => e = .returned (.bool r) ∧ ∃ k, w' = w.drewN k := by
  have _hc := hc
  have H : Hid (Calls Tryd.prog 10 #[.slice (some ⟨b, off, none⟩) m cx, p] w fun e w' => e = .returned (.bool r) ∧ ∃ k, w' = w.drewN k) := h
  clear h
  subst hp
  go_enter Tryd.func8, Tryd.ntmps8
  go_wp2_with (go_at_call 10; refine H.out.mono ?_; rintro e w' ⟨rfl, k, rfl⟩)
  go_ret
  exact ⟨rfl, _, rfl⟩

theorem slice_of {w : World} {B : Nat} {x : Value} {xs : List UInt8} (hx : Rd w B x xs) : ∃ ax cx, x = .slice ax xs.length cx := by
  rcases hx with ⟨rfl, rfl⟩ | ⟨b, off, cap, rfl, -, -, -, -⟩
  · exact ⟨_, _, rfl⟩
  · exact ⟨_, _, rfl⟩

theorem pre_any {w : World} {B : Nat} {s p : Value} {xs ys : List UInt8} (hs : Rd w B s xs) (hp : Rd w B p ys) (h0 : 0 < xs.length) :
    Calls Tryd.prog 8 #[s, p] w fun e w' => e = .returned (.bool (prefB xs ys)) ∧ ∃ k, w' = w.drewN k := by
  by_cases hl : xs.length < ys.length
  · have hne : prefB xs ys = false := by
      unfold prefB
      rw [beq_eq_false_iff_ne]
      intro h
      have := congrArg List.length h
      rw [List.length_take] at this
      omega
    obtain ⟨ax, nx, rfl⟩ := slice_of hs
    obtain ⟨ay, ny, rfl⟩ := slice_of hp
    rw [hne]
    refine (pre_no ax ay xs.length ys.length nx ny w hl).mono ?_
    rintro e w' ⟨rfl, rfl⟩
    exact ⟨rfl, 0, rfl⟩
  · rcases hs with ⟨rfl, rfl⟩ | ⟨b, off, cap, rfl, hB, hn, hm, hc⟩
    · exact absurd h0 (by simp)
    · have htake : (xs.take ys.length).length = ys.length := by rw [List.length_take]; omega
      have hr : Rd w B (.slice (some ⟨b, off, none⟩) ys.length cap) (xs.take ys.length) := by
        refine .inr ⟨b, off, cap, by rw [htake], hB, by omega, hm, fun j hj => ?_⟩
        rw [hc j (by omega), List.getElem_take]
      obtain ⟨ay, ny, hay⟩ := slice_of hp
      exact pre_yes b off cap p xs.length ys.length ay ny hay (prefB xs ys) w (by omega) hn (by unfold maxLen at hm; omega) (eq_any hr hp)
end Go.Proofs.Qxb6617572aDoor
