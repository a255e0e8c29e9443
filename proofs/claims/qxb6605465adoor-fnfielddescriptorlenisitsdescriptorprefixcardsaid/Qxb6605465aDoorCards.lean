/-
  DERIVED. GIVEN WITH THE SEED: THE CARDS: each row of Qxb6605465aDoorRows.lean that lists a variable, with what it lists TIED to the program's text (the seventh form; the later family's looks); each row that meets fmt, with fmt's text TOLD by the authors' own Lean function (tested against real Go, not proved from fmt's source: count such statements apart). THE CARD IS WHAT COUNTS. Prove the row's statement (the work); the ties are given (Qxb6605465aDoorTie.lean); close each card by the builder's one call (the guide's Derived/Test/ToyasCard.lean, 'card_holds'). Laid BY PROGRAM, IN A SANDBOX (cutbox-door.mjs). By AI agents, Wed Nov 11 2026. No macro, syntax, notation, axiom, sorry.
-/
import Derived.Test.Qxb6605465aDoorRows
import GoSem.ClaimSeven
namespace Go.Proofs.Qxb6605465aDoor
namespace Rows

/-- THE TIED CARD OF 'zzlaws_classfile_b1.FnFieldDescriptorLenIsItsDescriptorPrefix'. -/
def fnFieldDescriptorLenIsItsDescriptorPrefixCard : Claim7 := { stood := { row := fnFieldDescriptorLenIsItsDescriptorPrefixRow, standIns := [], harness := (true, "b1092095b774ff656c2e1777646ac643d58b22f6b3a2e303d288ea435763e1d4"), looks := false }, kinds := [], alts := [], laidByText := true, laidKinds := [.data, .pinned], laidTests := true, laidLooks := .later }
def FnFieldDescriptorLenIsItsDescriptorPrefixCardSaid : Prop := Claim7.holds Tryd.pinned (.plain (OpenSpec.ofChange fnFieldDescriptorLenIsItsDescriptorPrefixSpec)) fnFieldDescriptorLenIsItsDescriptorPrefixCard

/-- THE TIED CARD OF 'zzlaws_classfile_b1.FnFieldDescriptorLenOfBuiltObjectType'. -/
def fnFieldDescriptorLenOfBuiltObjectTypeCard : Claim7 := { stood := { row := fnFieldDescriptorLenOfBuiltObjectTypeRow, standIns := [], harness := (true, "b1092095b774ff656c2e1777646ac643d58b22f6b3a2e303d288ea435763e1d4"), looks := false }, kinds := [], alts := [], laidByText := true, laidKinds := [.data, .pinned], laidTests := true, laidLooks := .later }
def FnFieldDescriptorLenOfBuiltObjectTypeCardSaid : Prop := Claim7.holds Tryd.pinned (.plain (OpenSpec.ofChange fnFieldDescriptorLenOfBuiltObjectTypeSpec)) fnFieldDescriptorLenOfBuiltObjectTypeCard
end Rows
end Go.Proofs.Qxb6605465aDoor
