import Derived.Test.Qxb6605443aDoorPm
namespace Go.Proofs.Qxb6605443aDoor
open Go.ChangeShapes Go.WideShapes Go.ChangeAt Go.RowKit Go.Lib
open Go.ChangeMaps (open_string shut_string)
set_option linter.unusedVariables false

set_option maxRecDepth 100000 in
theorem shape3 (os : Os) : (({ World.doorLaid Tryd.prog 400 os with heap := (((World.doorLaid Tryd.prog 400 os).heap.modify 3 fun | .cells _ t frozen => .cells (firstTab.map (Value.int .u8)).toArray t frozen | o => o).modify 2 fun | .cells _ t frozen => .cells #[.slice (some ⟨(World.doorLaid Tryd.prog 400 os).heap.size, 0, none⟩) caseA.size caseA.size] t frozen | o => o).push (.cells caseCells5 70 (0, 0)) } : World).forCall (fun _ _ => 0) ⟨#[], #[.slice none 0 0, .string ⟨#[]⟩, .string ⟨#[]⟩, .string ⟨#[]⟩], []⟩).Shaped Tryd.prog :=
  World.shaped_of_RefB (by kernel_rfl) (by kernel_rfl)
end Go.Proofs.Qxb6605443aDoor
