import Derived.Test.Qxb6608882aDoorShelf
import Derived.Lib.LaidTab
import Derived.LaidMore
import Derived.Stop.LaidErr
import Derived.ProofKit
namespace Go.Proofs.Qxb6608882aDoor
open Go.ChangeShapes Go.WideShapes Go.ChangeAt Go.RowKit

theorem Tryd.cells9 : Tryd.prog.cellsOf 9 = 1 := by kernel_rfl
theorem Tryd.cells90 : Tryd.prog.cellsOf 90 = 1 := by kernel_rfl
theorem gTab : Tryd.prog.globalNamed tabName = some 2 := by kernel_rfl
theorem tTab : (Tryd.prog.globals[2]?).map (·.type) = some 80 := by kernel_rfl
theorem cells52 : Tryd.prog.cellsOf 52 = 1 := by kernel_rfl
theorem cells80 : Tryd.prog.cellsOf 80 = 20 := by kernel_rfl
theorem tabEq : Rows.laid_internal_strconv_uint64pow10 = Lib.tabData (H := Unit) .u64 Lib.pow10Tab := by kernel_rfl

theorem gSyn : Tryd.prog.globalNamed "strconv.ErrSyntax" = some 0 := by kernel_rfl
theorem tSyn : (Tryd.prog.globals[0]?).map (·.type) = some 44 := by kernel_rfl
theorem gRng : Tryd.prog.globalNamed "strconv.ErrRange" = some 1 := by kernel_rfl
theorem tRng : (Tryd.prog.globals[1]?).map (·.type) = some 44 := by kernel_rfl
theorem star : "*" ++ "errors.errorString" = "*errors.errorString" := by decide
/-- The one type of that name. -/
theorem row88 (u : TypeId) (h : Tryd.prog.typeName? 3 u = some "*errors.errorString") : u = 88 :=
  typeName_ptr_named (nm := "errors.errorString") (by rw [star]; kernel_rfl) (by kernel_rfl) (by decide) u (by rw [star]; exact h)

/-- WHAT THE CONDITION GIVES THE WALKS: the table of the powers of ten, the two errors. -/
theorem laid_of {W : World} (h : laidMetH Tryd.prog Rows.fnQuotesExactlyRow.laid W) : Lib.TabIs Tryd.prog W tabName .u64 Lib.pow10Tab ∧ IsErr W 0 ∧ IsErr W 1 := by
  rw [MakeChecks.laidMetH_plain _ _ _ (by kernel_rfl)] at h
  have h2 := laidMet.tail (laidMet.tail h)
  have h3 := laidMet.tail h2
  have h4 := laidMet.tail h3
  rw [tabEq] at h2
  obtain ⟨a1, s1, hv1, _⟩ := laid_sentinel h3 gRng tRng Tryd.underlying44 row88 Tryd.underlying88 Tryd.underlying90 rfl rfl Tryd.underlying9 Tryd.cells90 Tryd.cells9
  obtain ⟨a0, s0, hv0, _⟩ := laid_sentinel h4 gSyn tSyn Tryd.underlying44 row88 Tryd.underlying88 Tryd.underlying90 rfl rfl Tryd.underlying9 Tryd.cells90 Tryd.cells9
  refine ⟨Lib.tabIs_of_head (name := tabName) gTab tTab Tryd.underlying80 Tryd.underlying52 cells52 cells80 h2, ⟨_, by have h0 := World.var?_cell gSyn hv0 0; simpa using h0, Or.inr ⟨_, _, rfl⟩⟩, ⟨_, by have h0 := World.var?_cell gRng hv1 0; simpa using h0, Or.inr ⟨_, _, rfl⟩⟩⟩

/-- The door's own heap meets the condition. -/
theorem door_met (os : Os) (args : Array Value) : laidMetH Tryd.prog Rows.fnQuotesExactlyRow.laid ((World.doorLaid Tryd.prog 72 os).forCall (fun _ _ => 0) ⟨#[], args, []⟩).memory :=
  laidMetH_of_parts3 (fuel := 8) (laidMet_of_run' 8 (by kernel_rfl) (by kernel_rfl)) (by kernel_rfl) (by kernel_rfl)

end Go.Proofs.Qxb6608882aDoor
