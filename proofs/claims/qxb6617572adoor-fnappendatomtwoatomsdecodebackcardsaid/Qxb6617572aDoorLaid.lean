/-
  From the row's condition ('laid') to the table that strconv reads; a slice that came in as bytes.
-/
import Derived.Test.Qxb6617572aDoorPlain
import Derived.ProofKit
import Derived.OpenShut
import Derived.LaidMore
import Derived.Stop.Joined
import Derived.Lib.LaidTab
import Derived.Stop.LaidErr
namespace Go.Proofs.Qxb6617572aDoor
open Go.ChangeShapes Go.WideShapes Go.ChangeAt Go.RowKit
open Go.Lib (byteCells TabIs pow10Tab tabData)

theorem own : ownKnob Tryd.prog.godebug = none := by kernel_rfl
theorem laidOut : laidOutB Tryd.prog = true := by kernel_rfl

/-- what the two rows list -/
def laid3 : List (String × DataW Unit) := Rows.fnAppendAtomPrefixFreeRow.laid
/-- a listed variable's name -/
def nameAt (n : Nat) : String := match laid3.drop n with | x :: _ => x.1 | _ => ""
theorem laid3_eq : laid3 = [(nameAt 0, Rows.laid_math_bits_deBruijn32tab), (nameAt 1, Rows.laid_math_bits_deBruijn64tab), (powName, Rows.laid_internal_strconv_uint64pow10)] := rfl

/-- The door's own heap meets the condition: three closed facts. -/
theorem door_met (os : Os) (args : Array Value) : laidMetH Tryd.prog laid3 ((World.doorLaid Tryd.prog 24 os).forCall (fun _ _ => 0) ⟨#[], args, []⟩).memory :=
  laidMetH_of_parts3 (fuel := 8) (laidMet_of_run' 8 (by kernel_rfl) (by kernel_rfl)) (by kernel_rfl) (by kernel_rfl)

theorem gPow : Tryd.prog.globalNamed powName = some 0 := by kernel_rfl
theorem tPow : (Tryd.prog.globals[0]?).map (·.type) = some 40 := by kernel_rfl
theorem cells30 : Tryd.prog.cellsOf 30 = 1 := by kernel_rfl
theorem cells40 : Tryd.prog.cellsOf 40 = 20 := by kernel_rfl
theorem datum_eq : (Rows.laid_internal_strconv_uint64pow10 : DataW Unit) = tabData .u64 pow10Tab := by rfl

theorem tab_of_laid {W : World} (h : laidMetH Tryd.prog laid3 W) : TabIs Tryd.prog W powName .u64 pow10Tab := by
  rw [MakeChecks.laidMetH_plain _ _ _ (by kernel_rfl), laid3_eq, datum_eq] at h
  exact Lib.tabIs_of_head gPow tPow Tryd.underlying40 Tryd.underlying30 cells30 cells40 (laidMet.tail (laidMet.tail h))

/-- WHAT THE WALK IS TOLD OF A SLICE OF INTEGERS THAT CAME IN: it is nil; or it leads to a row of 'cap' cells, the numbers 'zs' (the first 'len' are its elements, the rest its spare room), each fitting its kind. -/
def IsRow (k : IntKind) (w : World) (a : Option Addr) (len cap : Nat) (zs : List Int) : Prop :=
  (a = none ∧ len = 0 ∧ cap = 0 ∧ zs = []) ∨
  ∃ x, a = some x ∧ len ≤ cap ∧ cap ≤ maxLen ∧ zs.length = cap ∧ (∀ i, i < zs.length → w.cell? (x.add i) = some (.int k (zs.getD i 0))) ∧ ∀ n ∈ zs, (Lit.int k n).wf = true

theorem src_of_row {w : World} {a : Option Addr} {len cap : Nat} {zs : List Int} (h : IsRow .u8 w a len cap zs) : ∃ xs : List UInt8, xs.length = len ∧ Src w (.slice a len cap) xs ∧ len ≤ maxLen := by
  rcases h with ⟨rfl, rfl, rfl, rfl⟩ | ⟨x, rfl, hl, hm, hz, hc, hw⟩
  · exact ⟨[], rfl, .inl ⟨rfl, rfl⟩, Nat.zero_le _⟩
  · refine ⟨(zs.take len).map fun z => UInt8.ofNat z.toNat, by simp; omega, .inr ⟨x, cap, ?_, fun j u hu => ?_⟩, by omega⟩
    · congr 1; simp; omega
    · have hj : j < len := by
        rcases Nat.lt_or_ge j len with h | h
        · exact h
        · rw [List.getElem?_eq_none (by simp [byteCells]; omega)] at hu; cases hu
      have hjz : j < zs.length := by omega
      have hbd := bounds_u8 (hw (zs[j]) (List.getElem_mem hjz))
      have e : (byteCells ((zs.take len).map fun z => UInt8.ofNat z.toNat))[j]? = some (.int .u8 zs[j]) := by
        rw [byteCells_at _ j (by simp; omega)]
        congr 2
        simp only [List.getElem_map, List.getElem_take, UInt8.toNat_ofNat']
        omega
      rw [e] at hu
      cases hu
      rw [hc j hjz]
      simp [List.getD, hjz]
end Go.Proofs.Qxb6617572aDoor
