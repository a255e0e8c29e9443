/-
  DERIVED. GIVEN WITH THE SEED: THE CARDS: each row of Qxb6605252aDoorRows.lean that lists a variable, with what it lists TIED to the program's text (the seventh form; the later family's looks); each row that meets fmt, with fmt's text TOLD by the authors' own Lean function (tested against real Go, not proved from fmt's source: count such statements apart). THE CARD IS WHAT COUNTS. Prove the row's statement (the work); the ties are given (Qxb6605252aDoorTie.lean); close each card by the builder's one call (the guide's Derived/Test/ToyasCard.lean, 'card_holds'). Laid BY PROGRAM, IN A SANDBOX (cutbox-door.mjs). By AI agents, Wed Nov 11 2026. No macro, syntax, notation, axiom, sorry.
-/
import Derived.Test.Qxb6605252aDoorRows
import GoSem.ClaimSeven
namespace Go.Proofs.Qxb6605252aDoor
namespace Rows

/-- THE TIED CARD OF 'zzlaws_pkg_awsapi_b1.FnCanonicalURIMatchesModel'. -/
def fnCanonicalURIMatchesModelCard : Claim7 := { stood := { row := fnCanonicalURIMatchesModelRow, standIns := [], harness := (true, "afd47c6791a05c17ff0d0e2836b0b2b201f6f2813fb67f61f5341d931c6e2e6b"), looks := false }, kinds := [], alts := [], laidByText := true, laidKinds := [.data, .pinned], laidTests := true, laidLooks := .later }
def FnCanonicalURIMatchesModelCardSaid : Prop := Claim7.holds Tryd.pinned (.plain (OpenSpec.ofChange fnCanonicalURIMatchesModelSpec)) fnCanonicalURIMatchesModelCard

/-- THE TIED CARD OF 'zzlaws_pkg_awsapi_b1.FnCanonicalURIStableUnderDecode'. -/
def fnCanonicalURIStableUnderDecodeCard : Claim7 := { stood := { row := fnCanonicalURIStableUnderDecodeRow, standIns := [], harness := (true, "afd47c6791a05c17ff0d0e2836b0b2b201f6f2813fb67f61f5341d931c6e2e6b"), looks := false }, kinds := [], alts := [], laidByText := true, laidKinds := [.data, .pinned], laidTests := true, laidLooks := .later }
def FnCanonicalURIStableUnderDecodeCardSaid : Prop := Claim7.holds Tryd.pinned (.plain (OpenSpec.ofChange fnCanonicalURIStableUnderDecodeSpec)) fnCanonicalURIStableUnderDecodeCard
end Rows
end Go.Proofs.Qxb6605252aDoor
