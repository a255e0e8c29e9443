/-
  DERIVED. GIVEN WITH THE SEED: THE CARDS: each row of Qxb6605443aDoorRows.lean that lists a variable, with what it lists TIED to the program's text (the seventh form; the later family's looks); each row that meets fmt, with fmt's text TOLD by the authors' own Lean function (tested against real Go, not proved from fmt's source: count such statements apart). THE CARD IS WHAT COUNTS. Prove the row's statement (the work); the ties are given (Qxb6605443aDoorTie.lean); close each card by the builder's one call (the guide's Derived/Test/ToyasCard.lean, 'card_holds'). Laid BY PROGRAM, IN A SANDBOX (cutbox-door.mjs). By AI agents, Wed Nov 11 2026. No macro, syntax, notation, axiom, sorry.
-/
import Derived.Test.Qxb6605443aDoorRows
import GoSem.ClaimSeven
namespace Go.Proofs.Qxb6605443aDoor
namespace Rows

/-- THE TIED CARD OF 'zzlaws_engine_b1.FnCookieFirstWins'. -/
def fnCookieFirstWinsCard : Claim7 := { stood := { row := fnCookieFirstWinsRow, standIns := [], harness := (true, "f13553effd7ee9925fc71647d23c2342fe3e519bd8319c80d6bd285c07781f72"), looks := false }, kinds := [], alts := [], laidByText := true, laidKinds := [.data, .data, .data, .pinned, .pinned], laidTests := true, laidLooks := .later }
def FnCookieFirstWinsCardSaid : Prop := Claim7.holds Tryd.pinned (.plain (OpenSpec.ofChange fnCookieFirstWinsSpec)) fnCookieFirstWinsCard

/-- THE TIED CARD OF 'zzlaws_engine_b1.FnIsRegNameMatchesGrammar'. -/
def fnIsRegNameMatchesGrammarCard : Claim7 := { stood := { row := fnIsRegNameMatchesGrammarRow, standIns := [], harness := (true, "f13553effd7ee9925fc71647d23c2342fe3e519bd8319c80d6bd285c07781f72"), looks := false }, kinds := [], alts := [], laidByText := true, laidKinds := [.data, .pinned], laidTests := true, laidLooks := .later }
def FnIsRegNameMatchesGrammarCardSaid : Prop := Claim7.holds Tryd.pinned (.plain (OpenSpec.ofChange fnIsRegNameMatchesGrammarSpec)) fnIsRegNameMatchesGrammarCard

/-- THE TIED CARD OF 'zzlaws_engine_b1.FnIsRegNameAcceptsEscapedText'. -/
def fnIsRegNameAcceptsEscapedTextCard : Claim7 := { stood := { row := fnIsRegNameAcceptsEscapedTextRow, standIns := [], harness := (true, "f13553effd7ee9925fc71647d23c2342fe3e519bd8319c80d6bd285c07781f72"), looks := false }, kinds := [], alts := [], laidByText := true, laidKinds := [.data, .pinned], laidTests := true, laidLooks := .later }
def FnIsRegNameAcceptsEscapedTextCardSaid : Prop := Claim7.holds Tryd.pinned (.plain (OpenSpec.ofChange fnIsRegNameAcceptsEscapedTextSpec)) fnIsRegNameAcceptsEscapedTextCard
end Rows
end Go.Proofs.Qxb6605443aDoor
