/-
  NARROWER THAN 'FOR EVERY INPUT', by the rows' own cells (each row's printed sentence says how): FnWriteDescriptionMatchesLineModel: laid · FnWriteDescriptionIndentUnseenByParser: laid.
  DERIVED. THE GIVEN ROWS OF THIS SEAT. 2 by the template 'for every input the law returns true; each argument reads behind the call as it read before'; 0 by the template 'total and deterministic' (their statements: Qxb6602381aDoorTotals.lean).
  GIVEN WITH THE SEED: the statements are not yours to turn. If you find one false, say at which input.
  Laid BY PROGRAM, IN A SANDBOX (cutbox-rows.mjs): the forced cells as the released guide's own fill.sh prints them over the translation 77d4e0016bb43dc2… (all of the seat's roots in one cut). By AI agents, Wed Nov 11 2026. No macro, syntax, notation, axiom, sorry.
-/
import Derived.Test.Qxb6602381aDoorChecked
import GoSem.PinnedTables
import GoSem.Claim
import GoSem.ClaimJoined
import GoSem.ClaimMapViews
import Derived.JoinedTies
import Derived.KernelRfl
namespace Go.Proofs.Qxb6602381aDoor
/- THE CELL 'sum', in the pinned program and in every row, IS THE sha256 OF THE DUMP (.gsa) THAT Qxb6602381aDoorProg.lean LOADS. Nothing in Lean hashes anything: it is a label: what it is worth is what the hold of that sum in a sandbox is worth. -/
noncomputable def Tryd.pinned : Pinned := { name := "qxb6602381adoor", sum := "77d4e0016bb43dc2680a1d86cf00d4322d9ba9ca794ef140832694c325bd5b77", checked := Tryd.checked }
namespace Rows
def none {H : Type} : Left H := { results := [], args := [] }

/- WHAT THE LISTED PACKAGE-LEVEL VARIABLES READ AS WHEN THE CALL BEGINS. Each datum BY PROGRAM (the guide's laid-datum.mjs) off the statement by which the dump's own 'gosem.cut.vars' lays the variable. In a bare row this is a premise. The card (Qxb6602381aDoorCards.lean) ties it to the program's text. -/
def laid_unicode_utf8_acceptRanges {H : Type} : DataW H := .agg [.agg [.lit (.int .u8 128), .lit (.int .u8 191)], .agg [.lit (.int .u8 160), .lit (.int .u8 191)], .agg [.lit (.int .u8 128), .lit (.int .u8 159)], .agg [.lit (.int .u8 144), .lit (.int .u8 191)], .agg [.lit (.int .u8 128), .lit (.int .u8 143)], .agg [.lit (.int .u8 0), .lit (.int .u8 0)], .agg [.lit (.int .u8 0), .lit (.int .u8 0)], .agg [.lit (.int .u8 0), .lit (.int .u8 0)], .agg [.lit (.int .u8 0), .lit (.int .u8 0)], .agg [.lit (.int .u8 0), .lit (.int .u8 0)], .agg [.lit (.int .u8 0), .lit (.int .u8 0)], .agg [.lit (.int .u8 0), .lit (.int .u8 0)], .agg [.lit (.int .u8 0), .lit (.int .u8 0)], .agg [.lit (.int .u8 0), .lit (.int .u8 0)], .agg [.lit (.int .u8 0), .lit (.int .u8 0)], .agg [.lit (.int .u8 0), .lit (.int .u8 0)]]
/-- One of Go's own tables, pinned by name: the form's constant. -/
def laid_unicode_utf8_first : DataW Unit := Go.Pinned.utf8First

/-- 'zzlaws_internal_sdlfile_b1.FnWriteDescriptionMatchesLineModel': WHATEVER THE INPUT: true; the input reads as it did. -/
def fnWriteDescriptionMatchesLineModelSpec : ChangeSpec := { name := "fnWriteDescriptionMatchesLineModel", fn := fun _ => fun
  | [d1, d2, d3] => { results := [.lit (.bool true)], args := [d1, d2, d3] }
  | _ => none }
def fnWriteDescriptionMatchesLineModelRow : OpenClaim := { program := "qxb6602381adoor", sum := "77d4e0016bb43dc2680a1d86cf00d4322d9ba9ca794ef140832694c325bd5b77", func := "example.com/tagwright/tagwright/zzlaws_internal_sdlfile_b1.FnWriteDescriptionMatchesLineModel", spec := "fnWriteDescriptionMatchesLineModel", inPlace := ["internal/abi.NoEscape", "internal/bytealg.CountString", "internal/bytealg.IndexByteString", "internal/bytealg.IndexString", "internal/bytealg.MakeNoZero"], named := ["internal/bytealg.MaxLen", "unicode/utf8.first", "unicode/utf8.acceptRanges"], apart := false, laid := [("unicode/utf8.acceptRanges", laid_unicode_utf8_acceptRanges), ("unicode/utf8.first", laid_unicode_utf8_first)] }
def FnWriteDescriptionMatchesLineModelSaid : Prop := fnWriteDescriptionMatchesLineModelRow.holds Tryd.pinned (OpenSpec.ofChange fnWriteDescriptionMatchesLineModelSpec)

/-- ITS FALSE NEIGHBOUR: 'it returns false'. Refute it at one input. -/
def fnWriteDescriptionMatchesLineModelWrong : ChangeSpec := { name := "fnWriteDescriptionMatchesLineModel", fn := fun _ => fun
  | [d1, d2, d3] => { results := [.lit (.bool false)], args := [d1, d2, d3] }
  | _ => none }
def FnWriteDescriptionMatchesLineModelWrongFalsely : Prop := fnWriteDescriptionMatchesLineModelRow.holds Tryd.pinned (OpenSpec.ofChange fnWriteDescriptionMatchesLineModelWrong)

/-- 'zzlaws_internal_sdlfile_b1.FnWriteDescriptionIndentUnseenByParser': WHATEVER THE INPUT: true; the input reads as it did. -/
def fnWriteDescriptionIndentUnseenByParserSpec : ChangeSpec := { name := "fnWriteDescriptionIndentUnseenByParser", fn := fun _ => fun
  | [d1, d2] => { results := [.lit (.bool true)], args := [d1, d2] }
  | _ => none }
def fnWriteDescriptionIndentUnseenByParserRow : OpenClaim := { program := "qxb6602381adoor", sum := "77d4e0016bb43dc2680a1d86cf00d4322d9ba9ca794ef140832694c325bd5b77", func := "example.com/tagwright/tagwright/zzlaws_internal_sdlfile_b1.FnWriteDescriptionIndentUnseenByParser", spec := "fnWriteDescriptionIndentUnseenByParser", inPlace := ["internal/abi.NoEscape", "internal/bytealg.CountString", "internal/bytealg.IndexByteString", "internal/bytealg.IndexString", "internal/bytealg.MakeNoZero"], named := ["internal/bytealg.MaxLen", "unicode/utf8.first", "unicode/utf8.acceptRanges"], apart := false, laid := [("unicode/utf8.acceptRanges", laid_unicode_utf8_acceptRanges), ("unicode/utf8.first", laid_unicode_utf8_first)] }
def FnWriteDescriptionIndentUnseenByParserSaid : Prop := fnWriteDescriptionIndentUnseenByParserRow.holds Tryd.pinned (OpenSpec.ofChange fnWriteDescriptionIndentUnseenByParserSpec)

/-- ITS FALSE NEIGHBOUR: 'it returns false'. Refute it at one input. -/
def fnWriteDescriptionIndentUnseenByParserWrong : ChangeSpec := { name := "fnWriteDescriptionIndentUnseenByParser", fn := fun _ => fun
  | [d1, d2] => { results := [.lit (.bool false)], args := [d1, d2] }
  | _ => none }
def FnWriteDescriptionIndentUnseenByParserWrongFalsely : Prop := fnWriteDescriptionIndentUnseenByParserRow.holds Tryd.pinned (OpenSpec.ofChange fnWriteDescriptionIndentUnseenByParserWrong)

end Rows
end Go.Proofs.Qxb6602381aDoor
