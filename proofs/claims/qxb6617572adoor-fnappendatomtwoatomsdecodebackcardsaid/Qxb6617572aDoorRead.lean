/-
  What a byte slice reads as; cloneBytes (6), bytesEq (10).
-/
import Derived.Test.Qxb6617572aDoorRows
import Derived.Test.Qxb6617572aDoorShelf
import Derived.WalkKit
import Derived.WalkSpells
import Derived.WalkLawsBesides
import Derived.OwnWalk
import Derived.Laws.CopyOwn
import Derived.Deep.QuietTactic
import Derived.BigQuiet
namespace Go.Proofs.Qxb6617572aDoor
open Go.RowKit
open Go.Lib (byteCells run_eql_slice_nil)

theorem infoByte : (Tryd.prog.info? 5).map (fun i => (i.zero, i.size, i.bytes)) = some (some (.int .u8 0), 1, 1) := by kernel_rfl
theorem sizeByte : (Tryd.prog.info? 5).map (·.size) = some 1 := by kernel_rfl

/-- v is a slice that reads as the bytes xs, whatever its address -/
def Src (w : World) (v : Value) (xs : List UInt8) : Prop :=
  (v = .slice none 0 0 ∧ xs = []) ∨ ∃ ad cap, v = .slice (some ad) xs.length cap ∧ ∀ j u, (byteCells xs)[j]? = some u → w.cell? (ad.add j) = some u

/-- v is a slice that reads as the bytes xs, and lies below block B -/
def Rd (w : World) (B : Nat) (v : Value) (xs : List UInt8) : Prop :=
  (v = .slice none 0 0 ∧ xs = []) ∨ ∃ b off cap, v = .slice (some ⟨b, off, none⟩) xs.length cap ∧ b < B ∧ xs.length ≤ cap ∧ cap ≤ maxLen ∧ ∀ j (h : j < xs.length), w.cell? ⟨b, off + j, none⟩ = some (.int .u8 (xs[j].toNat : Int))

theorem length_byteCells (xs : List UInt8) : (byteCells xs).length = xs.length := by simp [byteCells]
theorem byteCells_at (xs : List UInt8) (j : Nat) (h : j < xs.length) : (byteCells xs)[j]? = some (.int .u8 (xs[j].toNat : Int)) := by simp [byteCells, h]
theorem byteCells_one' (xs : List UInt8) : ∀ u ∈ byteCells xs, u.oneCell' = true := by
  intro u hu
  simp only [byteCells, List.mem_map] at hu
  obtain ⟨b, _, rfl⟩ := hu
  rfl

theorem rd_of_own {w : World} {B : Nat} {v : Value} {xs : List UInt8} (h : w.ownsRow B 5 1 v xs.length (byteCells xs)) : Rd w w.heap.size v xs := by
  obtain ⟨_, ⟨rfl, h0⟩ | ⟨g, cap, cur, rfl, hb, hh, hn, hm, hs, ht⟩⟩ := h
  · exact .inl ⟨rfl, List.eq_nil_of_length_eq_zero h0⟩
  · refine .inr ⟨g, 0, cap, rfl, ?_, hn, hm, fun j hj => ?_⟩
    · rcases Nat.lt_or_ge g w.heap.size with h1 | h1
      · exact h1
      · rw [Array.getElem?_eq_none h1] at hh; cases hh
    · have e := byteCells_at xs j hj
      rw [← ht, List.getElem?_take_of_lt (by omega)] at e
      rw [Nat.zero_add]
      unfold World.cell?
      simp only [hh]
      simpa using e
theorem rd_below {w w' : World} {B : Nat} {v : Value} {xs : List UInt8} (h : Rd w B v xs) (hb : Below B w w') : Rd w' B v xs := by
  rcases h with h | ⟨b, off, cap, rfl, hB, hn, hm, hc⟩
  · exact .inl h
  · exact .inr ⟨b, off, cap, rfl, hB, hn, hm, fun j hj => (hb.cell (p := ⟨b, off + j, none⟩) hB).trans (hc j hj)⟩
theorem rd_mono {w : World} {B B' : Nat} {v : Value} {xs : List UInt8} (h : Rd w B v xs) (hb : B ≤ B') : Rd w B' v xs := by
  rcases h with h | ⟨b, off, cap, rfl, hB, hn, hm, hc⟩
  · exact .inl h
  · exact .inr ⟨b, off, cap, rfl, by omega, hn, hm, hc⟩
theorem rd_drewN {w : World} {B : Nat} {v : Value} {xs : List UInt8} (h : Rd w B v xs) (n : Nat) : Rd (w.drewN n) B v xs := h
theorem src_of_rd {w : World} {B : Nat} {v : Value} {xs : List UInt8} (h : Rd w B v xs) : Src w v xs := by
  rcases h with h | ⟨b, off, cap, rfl, hB, hn, hm, hc⟩
  · exact .inl h
  · refine .inr ⟨⟨b, off, none⟩, cap, rfl, fun j u hu => ?_⟩
    have hj : j < xs.length := by
      rcases Nat.lt_or_ge j xs.length with h | h
      · exact h
      · rw [List.getElem?_eq_none (by rw [length_byteCells]; exact h)] at hu; cases hu
    rw [byteCells_at xs j hj] at hu
    cases hu
    have := hc j hj
    unfold Addr.add
    split
    · rename_i h0; subst h0; exact this
    · exact this

set_option maxHeartbeats 1000000 in
theorem clone_nil (w : World) :
    Calls Tryd.prog 6 #[.slice none 0 0] w fun e w' => e = .returned (.slice none 0 0) ∧ w' = w := by
  have hq := fun w => run_eql_slice_nil (P := Tryd.prog) w 22 5 none 0 0 0 0 Tryd.underlying22
  go_enter Tryd.func6, Tryd.ntmps6
  go_wp2
  go_ret
  exact ⟨rfl, rfl⟩

/-- 'copy(y, x)': y a whole row of the call's own, as long as x -/
theorem copy_run (w : World) (g : Nat) (cur : Array Value) (ad : Addr) (cap : Nat) (xs : List UInt8) (hg : w.heap[g]? = some (.cells cur 5 (0, 0))) (hs : cur.size = xs.length)
    (hc : ∀ j u, (byteCells xs)[j]? = some u → w.cell? (ad.add j) = some u) :
    ∃ w', (Builtin.copy_ #[22, 22] 3 #[.slice (some ⟨g, 0, none⟩) xs.length xs.length, .slice (some ad) xs.length cap]).run Tryd.prog w = .ok (goInt xs.length) w' ∧
      w'.heap[g]? = some (.cells (byteCells xs).toArray 5 (0, 0)) ∧ Below g w w' := by
  have hl := length_byteCells xs
  have hcl : cur.toList.length = xs.length := by simpa using hs
  have hrun := run_copy_row (P := Tryd.prog) w 22 22 3 5 g 0 xs.length xs.length ad xs.length cap cur 5 (byteCells xs) Tryd.underlying22 sizeByte hg (by rw [hl]; simp) hc (by rw [hl]; omega) (byteCells_one' xs)
  have e : cur.toList.take 0 ++ byteCells xs ++ cur.toList.drop (0 + (byteCells xs).length) = byteCells xs := by
    rw [Nat.zero_add, hl, List.drop_eq_nil_of_le (by omega)]; simp
  rw [e, hl] at hrun
  exact ⟨_, hrun, setRow_heap w g _ _ 5 _ hg, below_setRow (Below.refl _ _) (Nat.le_refl _) _⟩

set_option maxHeartbeats 1000000 in
theorem clone_some (ad : Addr) (cap : Nat) (xs : List UInt8) (w : World) (hl : xs.length ≤ 1048576) (hc : ∀ j u, (byteCells xs)[j]? = some u → w.cell? (ad.add j) = some u) (hB : ∀ j u, (byteCells xs)[j]? = some u → (ad.add j).block < w.heap.size) :
    Calls Tryd.prog 6 #[.slice (some ad) xs.length cap] w fun e w' => ∃ v', e = .returned v' ∧ w'.ownsRow w.heap.size 5 1 v' xs.length (byteCells xs) ∧ Below w.heap.size w w' := by
  have hq := fun w => run_eql_slice_nil (P := Tryd.prog) w 22 5 (some ad) xs.length cap 0 0 Tryd.underlying22
  obtain ⟨i0, hi, hz0, hz1, hz2⟩ := info_parts infoByte
  go_enter Tryd.func6, Tryd.ntmps6
  go_wp2_with (at_make; refine wpList_make_full _ rfl _ _ 22 rfl w.heap.size 5 i0 (.int .u8 0) 1 Tryd.underlying22 hi hz0 hz1 _ _ _ _ xs.length rfl rfl rfl rfl (by rw [hz2]; omega) (by unfold maxLen; omega) (Nat.le_refl _) ?_)
  intro w1 hown hgrow
  obtain ⟨hlen, ⟨h1, h2⟩ | ⟨g, c1, cur, hv, hb, hh, hn, hm, hs, ht⟩⟩ := hown
  · cases h1
  · simp only [Value.slice.injEq, Option.some.injEq, Addr.mk.injEq, true_and, and_true] at hv
    obtain ⟨e1, e2⟩ := hv
    subst e1 e2
    rw [Nat.mul_one] at hs
    have hb1 : Below w.heap.size w w1 := (Below.refl _ _).grown hgrow (Nat.le_refl _) (fun k hk => by cases hk)
    obtain ⟨w2, hrun, hrow, hb2⟩ := copy_run w1 w.heap.size cur ad cap xs hh hs (fun j u hu => (hb1.cell (hB j u hu)).trans (hc j u hu))
    have HR : Hid (w2.heap[w.heap.size]? = some (.cells (byteCells xs).toArray 5 (0, 0))) := hrow
    clear hrow ht hh hs hc hB hgrow
    go_wp2
    go_ret
    exact ⟨_, rfl, ⟨by rw [length_byteCells, Nat.mul_one], .inr ⟨w.heap.size, xs.length, _, rfl, Nat.le_refl _, HR.out, Nat.le_refl _, hm, by simp [length_byteCells], by simp [← length_byteCells xs]⟩⟩, hb1.trans hb2⟩

theorem clone_any (v : Value) (xs : List UInt8) (w : World) (hl : xs.length ≤ 1048576) (hr : Src w v xs) (hB : ∀ ad cap, v = .slice (some ad) xs.length cap → ∀ j u, (byteCells xs)[j]? = some u → (ad.add j).block < w.heap.size) :
    Calls Tryd.prog 6 #[v] w fun e w' => ∃ v', e = .returned v' ∧ w'.ownsRow w.heap.size 5 1 v' xs.length (byteCells xs) ∧ Below w.heap.size w w' := by
  rcases hr with ⟨rfl, rfl⟩ | ⟨ad, cap, rfl, hc⟩
  · refine (clone_nil w).mono ?_
    rintro e w' ⟨rfl, rfl⟩
    exact ⟨_, rfl, World.ownsRow_nil _ _ _ _, Below.refl _ _⟩
  · exact clone_some ad cap xs w hl hc (hB ad cap rfl)

/-! ### bytesEq -/
set_option maxHeartbeats 1000000 in
theorem eq_len (x y : Option Addr) (n m cx cy : Nat) (w : World) (hnm : n ≠ m) :
    Calls Tryd.prog 10 #[.slice x n cx, .slice y m cy] w fun e w' => e = .returned (.bool false) ∧ w' = w := by
  have h : ((n : Int) == (m : Int)) = false := by simp; omega
  go_enter Tryd.func10, Tryd.ntmps10
  go_wp2
  go_ret
  exact ⟨rfl, rfl⟩

set_option maxHeartbeats 1000000 in
theorem eq_zero (x y : Option Addr) (cx cy : Nat) (w : World) :
    Calls Tryd.prog 10 #[.slice x 0 cx, .slice y 0 cy] w fun e w' => e = .returned (.bool true) ∧ w' = w := by
  go_enter Tryd.func10, Tryd.ntmps10
  go_wp2
  go_loop [5] (fun i => i = .int .i64 0) (fun _ => 0)
  case atStart => rfl
  case round =>
    obtain rfl := hrel
    go_wp2
    go_ret
    exact ⟨rfl, rfl⟩

def sameTo (f g : Nat → Int) (n : Nat) : Bool := decide (∀ j, j < n → f j = g j)

theorem ret_bool {a b : Bool} (h : a = b) : Ending.returned (.bool a) = .returned (.bool b) := by rw [h]
theorem drewN_drewN (w : World) (a b : Nat) : (w.drewN a).drewN b = w.drewN (a + b) := by
  show ({ w with drawn := w.drawn + a + b } : World) = { w with drawn := w.drawn + (a + b) }
  rw [Nat.add_assoc]

set_option maxHeartbeats 1000000 in
theorem eq_loop (bx ox by' oy cx cy n : Nat) (f g : Nat → Int) (w : World) (hm : n ≤ maxLen)
    (hx : ∀ j, j < n → w.cell? ⟨bx, ox + j, none⟩ = some (.int .u8 (f j))) (hy : ∀ j, j < n → w.cell? ⟨by', oy + j, none⟩ = some (.int .u8 (g j))) :
    Calls Tryd.prog 10 #[.slice (some ⟨bx, ox, none⟩) n cx, .slice (some ⟨by', oy, none⟩) n cy] w fun e w' => e = .returned (.bool (sameTo f g n)) ∧ ∃ k, w' = w.drewN k := by
  unfold maxLen at hm
  have HX : Hid (∀ j, j < n → w.cell? ⟨bx, ox + j, none⟩ = some (.int .u8 (f j))) := hx
  have HY : Hid (∀ j, j < n → w.cell? ⟨by', oy + j, none⟩ = some (.int .u8 (g j))) := hy
  clear hx hy
  go_enter Tryd.func10, Tryd.ntmps10
  go_wp2
  go_loopw [5] (fun i wr => ∃ k m : Nat, k ≤ n ∧ i = .int .i64 k ∧ wr = w.drewN m ∧ Hid (∀ j, j < k → f j = g j)) (fun i _ => n - (intOf i).toNat)
  case atStart => exact ⟨0, 0, Nat.zero_le _, rfl, rfl, fun j hj => by omega⟩
  case round =>
    obtain ⟨k, m, hk, rfl, rfl, hs⟩ := hrel
    by_cases hlt : k < n
    · have g1 := HX.out k hlt
      have g2 := HY.out k hlt
      cases he : (f k == g k)
      · go_wp2
        go_quiet (fail)
        go_wp2
        go_ret
        refine ⟨ret_bool ?_, m + _, drewN_drewN _ _ _⟩
        symm
        unfold sameTo
        rw [decide_eq_false_iff_not]
        intro h
        have := h k hlt
        simp [this] at he
      · go_wp2
        go_quiet (fail)
        go_wp2
        go_roundw
        case rel => exact ⟨k + 1, m + _, by omega, by go_num, rfl, fun j hj => by
          by_cases e : j = k
          · subst e; simpa using he
          · exact hs.out j (by omega)⟩
        case measure => simp [intOf]; omega
    · obtain rfl : k = n := by omega
      go_wp2
      go_ret
      refine ⟨ret_bool ?_, m, rfl⟩
      symm
      unfold sameTo
      rw [decide_eq_true_eq]
      exact hs.out

theorem same_lists (xs ys : List UInt8) (h : xs.length = ys.length) : sameTo (fun j => ((xs[j]?.getD 0).toNat : Int)) (fun j => ((ys[j]?.getD 0).toNat : Int)) xs.length = (xs == ys) := by
  unfold sameTo
  rw [Bool.eq_iff_iff, decide_eq_true_eq, beq_iff_eq]
  constructor
  · intro hs
    refine List.ext_getElem h fun j h1 h2 => ?_
    have e := hs j h1
    simp only [List.getElem?_eq_getElem h1, List.getElem?_eq_getElem h2, Option.getD_some] at e
    exact UInt8.toNat_inj.mp (by omega)
  · rintro rfl j _; rfl

theorem eq_any {w : World} {B : Nat} {x y : Value} {xs ys : List UInt8} (hx : Rd w B x xs) (hy : Rd w B y ys) :
    Calls Tryd.prog 10 #[x, y] w fun e w' => e = .returned (.bool (xs == ys)) ∧ ∃ k, w' = w.drewN k := by
  by_cases hl : xs.length = ys.length
  · rcases hx with ⟨rfl, rfl⟩ | ⟨b, off, cap, rfl, hB, hn, hm, hc⟩
    · have hy0 : ys = [] := List.eq_nil_of_length_eq_zero hl.symm
      subst hy0
      rcases hy with ⟨rfl, -⟩ | ⟨b, off, cap, rfl, -, -, -, -⟩
      · refine (eq_zero none none 0 0 w).mono ?_
        rintro e w' ⟨rfl, rfl⟩
        exact ⟨rfl, 0, rfl⟩
      · refine (eq_zero none (some ⟨b, off, none⟩) 0 cap w).mono ?_
        rintro e w' ⟨rfl, rfl⟩
        exact ⟨rfl, 0, rfl⟩
    · rcases hy with ⟨rfl, rfl⟩ | ⟨b', off', cap', rfl, hB', hn', hm', hc'⟩
      · have hx0 : xs = [] := List.eq_nil_of_length_eq_zero hl
        subst hx0
        refine (eq_zero (some ⟨b, off, none⟩) none cap 0 w).mono ?_
        rintro e w' ⟨rfl, rfl⟩
        exact ⟨rfl, 0, rfl⟩
      · have h := eq_loop b off b' off' cap cap' xs.length (fun j => ((xs[j]?.getD 0).toNat : Int)) (fun j => ((ys[j]?.getD 0).toNat : Int)) w (by omega)
          (fun j hj => by rw [hc j hj, List.getElem?_eq_getElem hj]; rfl) (fun j hj => by rw [hc' j (by omega), List.getElem?_eq_getElem (show j < ys.length by omega)]; rfl)
        rw [same_lists xs ys hl] at h
        rw [← hl]
        exact h
  · have hne : (xs == ys) = false := by
      rw [beq_eq_false_iff_ne]; rintro rfl; exact hl rfl
    obtain ⟨ax, nx, rfl⟩ : ∃ ax cx, x = .slice ax xs.length cx := by
      rcases hx with ⟨rfl, rfl⟩ | ⟨b, off, cap, rfl, -, -, -, -⟩
      · exact ⟨_, _, rfl⟩
      · exact ⟨_, _, rfl⟩
    obtain ⟨ay, ny, rfl⟩ : ∃ ay cy, y = .slice ay ys.length cy := by
      rcases hy with ⟨rfl, rfl⟩ | ⟨b, off, cap, rfl, -, -, -, -⟩
      · exact ⟨_, _, rfl⟩
      · exact ⟨_, _, rfl⟩
    rw [hne]
    refine (eq_len ax ay xs.length ys.length nx ny w hl).mono ?_
    rintro e w' ⟨rfl, rfl⟩
    exact ⟨rfl, 0, rfl⟩
end Go.Proofs.Qxb6617572aDoor
