/-
  NARROWER THAN 'FOR EVERY INPUT', by the rows' own cells (each row's printed sentence says how): FnCanonicalURIMatchesModel: laid · FnCanonicalURIStableUnderDecode: laid.
  DERIVED. THE GIVEN ROWS OF THIS SEAT. 2 by the template 'for every input the law returns true; each argument reads behind the call as it read before'; 0 by the template 'total and deterministic' (their statements: Qxb6605252aDoorTotals.lean).
  GIVEN WITH THE SEED: the statements are not yours to turn. If you find one false, say at which input.
  Laid BY PROGRAM, IN A SANDBOX (cutbox-rows.mjs): the forced cells as the released guide's own fill.sh prints them over the translation 8da088e8fb141092… (all of the seat's roots in one cut). By AI agents, Wed Nov 11 2026. No macro, syntax, notation, axiom, sorry.
-/
import Derived.Test.Qxb6605252aDoorChecked
import GoSem.PinnedTables
import GoSem.Claim
import GoSem.ClaimJoined
import GoSem.ClaimMapViews
import Derived.JoinedTies
import Derived.KernelRfl
namespace Go.Proofs.Qxb6605252aDoor
/- THE CELL 'sum', in the pinned program and in every row, IS THE sha256 OF THE DUMP (.gsa) THAT Qxb6605252aDoorProg.lean LOADS. Nothing in Lean hashes anything: it is a label: what it is worth is what the hold of that sum in a sandbox is worth. -/
noncomputable def Tryd.pinned : Pinned := { name := "qxb6605252adoor", sum := "8da088e8fb141092ec7b509fb253edc965fec5a0c29c30df1e58714b36b64600", checked := Tryd.checked }
namespace Rows
def none {H : Type} : Left H := { results := [], args := [] }

/- WHAT THE LISTED PACKAGE-LEVEL VARIABLES READ AS WHEN THE CALL BEGINS. Each datum BY PROGRAM (the guide's laid-datum.mjs) off the statement by which the dump's own 'gosem.cut.vars' lays the variable. In a bare row this is a premise. The card (Qxb6605252aDoorCards.lean) ties it to the program's text. -/
def laid_unicode_utf8_acceptRanges {H : Type} : DataW H := .agg [.agg [.lit (.int .u8 128), .lit (.int .u8 191)], .agg [.lit (.int .u8 160), .lit (.int .u8 191)], .agg [.lit (.int .u8 128), .lit (.int .u8 159)], .agg [.lit (.int .u8 144), .lit (.int .u8 191)], .agg [.lit (.int .u8 128), .lit (.int .u8 143)], .agg [.lit (.int .u8 0), .lit (.int .u8 0)], .agg [.lit (.int .u8 0), .lit (.int .u8 0)], .agg [.lit (.int .u8 0), .lit (.int .u8 0)], .agg [.lit (.int .u8 0), .lit (.int .u8 0)], .agg [.lit (.int .u8 0), .lit (.int .u8 0)], .agg [.lit (.int .u8 0), .lit (.int .u8 0)], .agg [.lit (.int .u8 0), .lit (.int .u8 0)], .agg [.lit (.int .u8 0), .lit (.int .u8 0)], .agg [.lit (.int .u8 0), .lit (.int .u8 0)], .agg [.lit (.int .u8 0), .lit (.int .u8 0)], .agg [.lit (.int .u8 0), .lit (.int .u8 0)]]
/-- One of Go's own tables, pinned by name: the form's constant. -/
def laid_unicode_utf8_first : DataW Unit := Go.Pinned.utf8First

/-- 'zzlaws_pkg_awsapi_b1.FnCanonicalURIMatchesModel': WHATEVER THE INPUT: true; the input reads as it did. -/
def fnCanonicalURIMatchesModelSpec : ChangeSpec := { name := "fnCanonicalURIMatchesModel", fn := fun _ => fun
  | [d] => { results := [.lit (.bool true)], args := [d] }
  | _ => none }
def fnCanonicalURIMatchesModelRow : OpenClaim := { program := "qxb6605252adoor", sum := "8da088e8fb141092ec7b509fb253edc965fec5a0c29c30df1e58714b36b64600", func := "example.com/vouchsafe/vouchsafe/zzlaws_pkg_awsapi_b1.FnCanonicalURIMatchesModel", spec := "fnCanonicalURIMatchesModel", inPlace := ["internal/bytealg.CountString", "internal/bytealg.IndexByteString", "internal/bytealg.IndexString", "internal/abi.NoEscape", "internal/bytealg.MakeNoZero"], named := ["unicode/utf8.first", "unicode/utf8.acceptRanges", "internal/bytealg.MaxLen"], apart := false, laid := [("unicode/utf8.acceptRanges", laid_unicode_utf8_acceptRanges), ("unicode/utf8.first", laid_unicode_utf8_first)] }
def FnCanonicalURIMatchesModelSaid : Prop := fnCanonicalURIMatchesModelRow.holds Tryd.pinned (OpenSpec.ofChange fnCanonicalURIMatchesModelSpec)

/-- ITS FALSE NEIGHBOUR: 'it returns false'. Refute it at one input. -/
def fnCanonicalURIMatchesModelWrong : ChangeSpec := { name := "fnCanonicalURIMatchesModel", fn := fun _ => fun
  | [d] => { results := [.lit (.bool false)], args := [d] }
  | _ => none }
def FnCanonicalURIMatchesModelWrongFalsely : Prop := fnCanonicalURIMatchesModelRow.holds Tryd.pinned (OpenSpec.ofChange fnCanonicalURIMatchesModelWrong)

/-- 'zzlaws_pkg_awsapi_b1.FnCanonicalURIStableUnderDecode': WHATEVER THE INPUT: true; the input reads as it did. -/
def fnCanonicalURIStableUnderDecodeSpec : ChangeSpec := { name := "fnCanonicalURIStableUnderDecode", fn := fun _ => fun
  | [d] => { results := [.lit (.bool true)], args := [d] }
  | _ => none }
def fnCanonicalURIStableUnderDecodeRow : OpenClaim := { program := "qxb6605252adoor", sum := "8da088e8fb141092ec7b509fb253edc965fec5a0c29c30df1e58714b36b64600", func := "example.com/vouchsafe/vouchsafe/zzlaws_pkg_awsapi_b1.FnCanonicalURIStableUnderDecode", spec := "fnCanonicalURIStableUnderDecode", inPlace := ["internal/bytealg.CountString", "internal/bytealg.IndexByteString", "internal/bytealg.IndexString", "internal/abi.NoEscape", "internal/bytealg.MakeNoZero"], named := ["unicode/utf8.first", "unicode/utf8.acceptRanges", "internal/bytealg.MaxLen"], apart := false, laid := [("unicode/utf8.acceptRanges", laid_unicode_utf8_acceptRanges), ("unicode/utf8.first", laid_unicode_utf8_first)] }
def FnCanonicalURIStableUnderDecodeSaid : Prop := fnCanonicalURIStableUnderDecodeRow.holds Tryd.pinned (OpenSpec.ofChange fnCanonicalURIStableUnderDecodeSpec)

/-- ITS FALSE NEIGHBOUR: 'it returns false'. Refute it at one input. -/
def fnCanonicalURIStableUnderDecodeWrong : ChangeSpec := { name := "fnCanonicalURIStableUnderDecode", fn := fun _ => fun
  | [d] => { results := [.lit (.bool false)], args := [d] }
  | _ => none }
def FnCanonicalURIStableUnderDecodeWrongFalsely : Prop := fnCanonicalURIStableUnderDecodeRow.holds Tryd.pinned (OpenSpec.ofChange fnCanonicalURIStableUnderDecodeWrong)

end Rows
end Go.Proofs.Qxb6605252aDoor
