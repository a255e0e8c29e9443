/-
  NARROWER THAN 'FOR EVERY INPUT', by the rows' own cells (each row's printed sentence says how): FnCutLineAnswersByCaseTable: laid · FnCutLineAtEOFSplitsWholeStream: laid · FnCutLineNeverRevisesAnAnswer: laid.
  DERIVED. THE GIVEN ROWS OF THIS SEAT. 3 by the template 'for every input the law returns true; each argument reads behind the call as it read before'; 0 by the template 'total and deterministic' (their statements: Qxb6600587aDoorTotals.lean).
  GIVEN WITH THE SEED: the statements are not yours to turn. If you find one false, say at which input.
  Laid BY PROGRAM, IN A SANDBOX (cutbox-rows.mjs): the forced cells as the released guide's own fill.sh prints them over the translation 23b7ff99ac3cd5b0… (all of the seat's roots in one cut). By AI agents, Wed Nov 11 2026. No macro, syntax, notation, axiom, sorry.
-/
import Derived.Test.Qxb6600587aDoorChecked
import GoSem.PinnedTables
import GoSem.Claim
import GoSem.ClaimJoined
import GoSem.ClaimMapViews
import Derived.JoinedTies
import Derived.KernelRfl
namespace Go.Proofs.Qxb6600587aDoor
/- THE CELL 'sum', in the pinned program and in every row, IS THE sha256 OF THE DUMP (.gsa) THAT Qxb6600587aDoorProg.lean LOADS. Nothing in Lean hashes anything: it is a label: what it is worth is what the hold of that sum in a sandbox is worth. -/
noncomputable def Tryd.pinned : Pinned := { name := "qxb6600587adoor", sum := "23b7ff99ac3cd5b0f23465ca0076385925453c653f52fc850ba594186b8e2304", checked := Tryd.checked }
namespace Rows
def none {H : Type} : Left H := { results := [], args := [] }

/- WHAT THE LISTED PACKAGE-LEVEL VARIABLES READ AS WHEN THE CALL BEGINS. Each datum BY PROGRAM (the guide's laid-datum.mjs) off the statement by which the dump's own 'gosem.cut.vars' lays the variable. In a bare row this is a premise. The card (Qxb6600587aDoorCards.lean) ties it to the program's text. -/
def laid_unicode_utf8_acceptRanges {H : Type} : DataW H := .agg [.agg [.lit (.int .u8 128), .lit (.int .u8 191)], .agg [.lit (.int .u8 160), .lit (.int .u8 191)], .agg [.lit (.int .u8 128), .lit (.int .u8 159)], .agg [.lit (.int .u8 144), .lit (.int .u8 191)], .agg [.lit (.int .u8 128), .lit (.int .u8 143)], .agg [.lit (.int .u8 0), .lit (.int .u8 0)], .agg [.lit (.int .u8 0), .lit (.int .u8 0)], .agg [.lit (.int .u8 0), .lit (.int .u8 0)], .agg [.lit (.int .u8 0), .lit (.int .u8 0)], .agg [.lit (.int .u8 0), .lit (.int .u8 0)], .agg [.lit (.int .u8 0), .lit (.int .u8 0)], .agg [.lit (.int .u8 0), .lit (.int .u8 0)], .agg [.lit (.int .u8 0), .lit (.int .u8 0)], .agg [.lit (.int .u8 0), .lit (.int .u8 0)], .agg [.lit (.int .u8 0), .lit (.int .u8 0)], .agg [.lit (.int .u8 0), .lit (.int .u8 0)]]
/-- One of Go's own tables, pinned by name: the form's constant. -/
def laid_unicode_utf8_first : DataW Unit := Go.Pinned.utf8First

/-- 'zzlaws_internal_sse_b1.FnCutLineAnswersByCaseTable': WHATEVER THE INPUT: true; the input reads as it did. -/
def fnCutLineAnswersByCaseTableSpec : ChangeSpec := { name := "fnCutLineAnswersByCaseTable", fn := fun _ => fun
  | [d1, d2] => { results := [.lit (.bool true)], args := [d1, d2] }
  | _ => none }
def fnCutLineAnswersByCaseTableRow : OpenClaim := { program := "qxb6600587adoor", sum := "23b7ff99ac3cd5b0f23465ca0076385925453c653f52fc850ba594186b8e2304", func := "example.com/vireo/vireo/zzlaws_internal_sse_b1.FnCutLineAnswersByCaseTable", spec := "fnCutLineAnswersByCaseTable", inPlace := ["internal/bytealg.IndexByteString", "internal/bytealg.IndexByte", "internal/bytealg.Index", "internal/bytealg.IndexString"], named := ["internal/bytealg.MaxLen", "unicode/utf8.first", "unicode/utf8.acceptRanges"], apart := false, laid := [("unicode/utf8.acceptRanges", laid_unicode_utf8_acceptRanges), ("unicode/utf8.first", laid_unicode_utf8_first)] }
def FnCutLineAnswersByCaseTableSaid : Prop := fnCutLineAnswersByCaseTableRow.holds Tryd.pinned (OpenSpec.ofChange fnCutLineAnswersByCaseTableSpec)

/-- ITS FALSE NEIGHBOUR: 'it returns false'. Refute it at one input. -/
def fnCutLineAnswersByCaseTableWrong : ChangeSpec := { name := "fnCutLineAnswersByCaseTable", fn := fun _ => fun
  | [d1, d2] => { results := [.lit (.bool false)], args := [d1, d2] }
  | _ => none }
def FnCutLineAnswersByCaseTableWrongFalsely : Prop := fnCutLineAnswersByCaseTableRow.holds Tryd.pinned (OpenSpec.ofChange fnCutLineAnswersByCaseTableWrong)

/-- 'zzlaws_internal_sse_b1.FnCutLineAtEOFSplitsWholeStream': WHATEVER THE INPUT: true; the input reads as it did. -/
def fnCutLineAtEOFSplitsWholeStreamSpec : ChangeSpec := { name := "fnCutLineAtEOFSplitsWholeStream", fn := fun _ => fun
  | [d] => { results := [.lit (.bool true)], args := [d] }
  | _ => none }
def fnCutLineAtEOFSplitsWholeStreamRow : OpenClaim := { program := "qxb6600587adoor", sum := "23b7ff99ac3cd5b0f23465ca0076385925453c653f52fc850ba594186b8e2304", func := "example.com/vireo/vireo/zzlaws_internal_sse_b1.FnCutLineAtEOFSplitsWholeStream", spec := "fnCutLineAtEOFSplitsWholeStream", inPlace := ["internal/bytealg.IndexByteString", "internal/bytealg.IndexByte", "internal/bytealg.Index", "internal/bytealg.IndexString"], named := ["internal/bytealg.MaxLen", "unicode/utf8.first", "unicode/utf8.acceptRanges"], apart := false, laid := [("unicode/utf8.acceptRanges", laid_unicode_utf8_acceptRanges), ("unicode/utf8.first", laid_unicode_utf8_first)] }
def FnCutLineAtEOFSplitsWholeStreamSaid : Prop := fnCutLineAtEOFSplitsWholeStreamRow.holds Tryd.pinned (OpenSpec.ofChange fnCutLineAtEOFSplitsWholeStreamSpec)

/-- ITS FALSE NEIGHBOUR: 'it returns false'. Refute it at one input. -/
def fnCutLineAtEOFSplitsWholeStreamWrong : ChangeSpec := { name := "fnCutLineAtEOFSplitsWholeStream", fn := fun _ => fun
  | [d] => { results := [.lit (.bool false)], args := [d] }
  | _ => none }
def FnCutLineAtEOFSplitsWholeStreamWrongFalsely : Prop := fnCutLineAtEOFSplitsWholeStreamRow.holds Tryd.pinned (OpenSpec.ofChange fnCutLineAtEOFSplitsWholeStreamWrong)

/-- 'zzlaws_internal_sse_b1.FnCutLineNeverRevisesAnAnswer': WHATEVER THE INPUT: true; the input reads as it did. -/
def fnCutLineNeverRevisesAnAnswerSpec : ChangeSpec := { name := "fnCutLineNeverRevisesAnAnswer", fn := fun _ => fun
  | [d1, d2, d3] => { results := [.lit (.bool true)], args := [d1, d2, d3] }
  | _ => none }
def fnCutLineNeverRevisesAnAnswerRow : OpenClaim := { program := "qxb6600587adoor", sum := "23b7ff99ac3cd5b0f23465ca0076385925453c653f52fc850ba594186b8e2304", func := "example.com/vireo/vireo/zzlaws_internal_sse_b1.FnCutLineNeverRevisesAnAnswer", spec := "fnCutLineNeverRevisesAnAnswer", inPlace := ["internal/bytealg.IndexByteString", "internal/bytealg.IndexByte", "internal/bytealg.Index", "internal/bytealg.IndexString"], named := ["internal/bytealg.MaxLen", "unicode/utf8.first", "unicode/utf8.acceptRanges"], apart := false, laid := [("unicode/utf8.acceptRanges", laid_unicode_utf8_acceptRanges), ("unicode/utf8.first", laid_unicode_utf8_first)] }
def FnCutLineNeverRevisesAnAnswerSaid : Prop := fnCutLineNeverRevisesAnAnswerRow.holds Tryd.pinned (OpenSpec.ofChange fnCutLineNeverRevisesAnAnswerSpec)

/-- ITS FALSE NEIGHBOUR: 'it returns false'. Refute it at one input. -/
def fnCutLineNeverRevisesAnAnswerWrong : ChangeSpec := { name := "fnCutLineNeverRevisesAnAnswer", fn := fun _ => fun
  | [d1, d2, d3] => { results := [.lit (.bool false)], args := [d1, d2, d3] }
  | _ => none }
def FnCutLineNeverRevisesAnAnswerWrongFalsely : Prop := fnCutLineNeverRevisesAnAnswerRow.holds Tryd.pinned (OpenSpec.ofChange fnCutLineNeverRevisesAnAnswerWrong)

end Rows
end Go.Proofs.Qxb6600587aDoor
