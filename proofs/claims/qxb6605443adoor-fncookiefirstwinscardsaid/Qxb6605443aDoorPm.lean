import Derived.Test.Qxb6605443aDoorWit
namespace Go.Proofs.Qxb6605443aDoor
open Go.ChangeShapes Go.WideShapes Go.ChangeAt Go.RowKit Go.Lib
open Go.ChangeMaps (open_string shut_string)
set_option linter.unusedVariables false

def nmFirst : String := (laidC.map (·.1)).getD 4 ""
set_option maxRecDepth 100000 in
theorem met3 (os : Os) : laidMetH Tryd.prog laidC (({ World.doorLaid Tryd.prog 400 os with heap := (((World.doorLaid Tryd.prog 400 os).heap.modify 3 fun | .cells _ t frozen => .cells (firstTab.map (Value.int .u8)).toArray t frozen | o => o).modify 2 fun | .cells _ t frozen => .cells #[.slice (some ⟨(World.doorLaid Tryd.prog 400 os).heap.size, 0, none⟩) caseA.size caseA.size] t frozen | o => o).push (.cells caseCells5 70 (0, 0)) } : World).forCall (fun _ _ => 0) ⟨#[], #[.slice none 0 0, .string ⟨#[]⟩, .string ⟨#[]⟩, .string ⟨#[]⟩], []⟩).memory := by
  refine laidMetH_of_parts3 (fuel := 8) ?_ (by kernel_rfl) (by kernel_rfl)
  have hl : (laidC.filter fun x => x.2.handleName?.isNone) = (laidC.take 3) ++ [("unicode.CaseRanges", caseData), (nmFirst, Rows.laid_unicode_utf8_first)] := by kernel_rfl
  rw [hl]
  refine laidMet_swap2 _ _ _ ?_
  have h2 : laidC.take 3 ++ [(nmFirst, Rows.laid_unicode_utf8_first), ("unicode.CaseRanges", caseData)] = (laidC.take 3 ++ [(nmFirst, Rows.laid_unicode_utf8_first)]) ++ [("unicode.CaseRanges", caseData)] := by simp
  rw [h2]
  exact laidMet_with_case Tryd.lays274 (by kernel_rfl) extra274 8 (by kernel_rfl) (by kernel_rfl) (by kernel_rfl) (World.doorLaid Tryd.prog 400 os).heap.size 70 (of_decide_eq_true (by kernel_rfl)) (by kernel_rfl) (by kernel_rfl) (by kernel_rfl)
end Go.Proofs.Qxb6605443aDoor
