/-
  DERIVED. GIVEN WITH THE SEED: THE CARDS: each row of Qxb6600587aDoorRows.lean that lists a variable, with what it lists TIED to the program's text (the seventh form; the later family's looks); each row that meets fmt, with fmt's text TOLD by the authors' own Lean function (tested against real Go, not proved from fmt's source: count such statements apart). THE CARD IS WHAT COUNTS. Prove the row's statement (the work); the ties are given (Qxb6600587aDoorTie.lean); close each card by the builder's one call (the guide's Derived/Test/ToyasCard.lean, 'card_holds'). Laid BY PROGRAM, IN A SANDBOX (cutbox-door.mjs). By AI agents, Wed Nov 11 2026. No macro, syntax, notation, axiom, sorry.
-/
import Derived.Test.Qxb6600587aDoorRows
import GoSem.ClaimSeven
namespace Go.Proofs.Qxb6600587aDoor
namespace Rows

/-- THE TIED CARD OF 'zzlaws_internal_sse_b1.FnCutLineAnswersByCaseTable'. -/
def fnCutLineAnswersByCaseTableCard : Claim7 := { stood := { row := fnCutLineAnswersByCaseTableRow, standIns := [], harness := (true, "ae519bd17d6e237ad0b2d52f4ad8e91bb8755303fcf4df770e117a599e8db630"), looks := false }, kinds := [], alts := [], laidByText := true, laidKinds := [.data, .pinned], laidTests := true, laidLooks := .later }
def FnCutLineAnswersByCaseTableCardSaid : Prop := Claim7.holds Tryd.pinned (.plain (OpenSpec.ofChange fnCutLineAnswersByCaseTableSpec)) fnCutLineAnswersByCaseTableCard

/-- THE TIED CARD OF 'zzlaws_internal_sse_b1.FnCutLineAtEOFSplitsWholeStream'. -/
def fnCutLineAtEOFSplitsWholeStreamCard : Claim7 := { stood := { row := fnCutLineAtEOFSplitsWholeStreamRow, standIns := [], harness := (true, "ae519bd17d6e237ad0b2d52f4ad8e91bb8755303fcf4df770e117a599e8db630"), looks := false }, kinds := [], alts := [], laidByText := true, laidKinds := [.data, .pinned], laidTests := true, laidLooks := .later }
def FnCutLineAtEOFSplitsWholeStreamCardSaid : Prop := Claim7.holds Tryd.pinned (.plain (OpenSpec.ofChange fnCutLineAtEOFSplitsWholeStreamSpec)) fnCutLineAtEOFSplitsWholeStreamCard

/-- THE TIED CARD OF 'zzlaws_internal_sse_b1.FnCutLineNeverRevisesAnAnswer'. -/
def fnCutLineNeverRevisesAnAnswerCard : Claim7 := { stood := { row := fnCutLineNeverRevisesAnAnswerRow, standIns := [], harness := (true, "ae519bd17d6e237ad0b2d52f4ad8e91bb8755303fcf4df770e117a599e8db630"), looks := false }, kinds := [], alts := [], laidByText := true, laidKinds := [.data, .pinned], laidTests := true, laidLooks := .later }
def FnCutLineNeverRevisesAnAnswerCardSaid : Prop := Claim7.holds Tryd.pinned (.plain (OpenSpec.ofChange fnCutLineNeverRevisesAnAnswerSpec)) fnCutLineNeverRevisesAnAnswerCard
end Rows
end Go.Proofs.Qxb6600587aDoor
