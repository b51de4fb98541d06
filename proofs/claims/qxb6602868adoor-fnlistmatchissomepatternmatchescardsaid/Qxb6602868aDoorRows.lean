/-
  NARROWER THAN 'FOR EVERY INPUT', by the rows' own cells (each row's printed sentence says how): FnListMatchIsSomePatternMatches: laid · FnListMatchAgreesWithUnmatched: laid · FnListUnmatchedIsThoseMatchingNoName: laid · FnListUnmatchedComposes: laid.
  DERIVED. THE GIVEN ROWS OF THIS SEAT. 4 by the template 'for every input the law returns true; each argument reads behind the call as it read before'; 0 by the template 'total and deterministic' (their statements: Qxb6602868aDoorTotals.lean).
  GIVEN WITH THE SEED: the statements are not yours to turn. If you find one false, say at which input.
  Laid BY PROGRAM, IN A SANDBOX (cutbox-rows.mjs): the forced cells as the released guide's own fill.sh prints them over the translation 09e18f540de0078e… (all of the seat's roots in one cut). By AI agents, Wed Nov 11 2026. No macro, syntax, notation, axiom, sorry.
-/
import Derived.Test.Qxb6602868aDoorChecked
import GoSem.PinnedTables
import GoSem.Claim
import GoSem.ClaimJoined
import GoSem.ClaimMapViews
import Derived.JoinedTies
import Derived.KernelRfl
namespace Go.Proofs.Qxb6602868aDoor
/- THE CELL 'sum', in the pinned program and in every row, IS THE sha256 OF THE DUMP (.gsa) THAT Qxb6602868aDoorProg.lean LOADS. Nothing in Lean hashes anything: it is a label: what it is worth is what the hold of that sum in a sandbox is worth. -/
noncomputable def Tryd.pinned : Pinned := { name := "qxb6602868adoor", sum := "09e18f540de0078ee29c4a5a234e141fd9f0dd563e9313b8b88dd891f5f2420d", checked := Tryd.checked }
namespace Rows
def none {H : Type} : Left H := { results := [], args := [] }

/- WHAT THE LISTED PACKAGE-LEVEL VARIABLES READ AS WHEN THE CALL BEGINS. Each datum BY PROGRAM (the guide's laid-datum.mjs) off the statement by which the dump's own 'gosem.cut.vars' lays the variable. In a bare row this is a premise. The card (Qxb6602868aDoorCards.lean) ties it to the program's text. -/
def laid_unicode_utf8_acceptRanges {H : Type} : DataW H := .agg [.agg [.lit (.int .u8 128), .lit (.int .u8 191)], .agg [.lit (.int .u8 160), .lit (.int .u8 191)], .agg [.lit (.int .u8 128), .lit (.int .u8 159)], .agg [.lit (.int .u8 144), .lit (.int .u8 191)], .agg [.lit (.int .u8 128), .lit (.int .u8 143)], .agg [.lit (.int .u8 0), .lit (.int .u8 0)], .agg [.lit (.int .u8 0), .lit (.int .u8 0)], .agg [.lit (.int .u8 0), .lit (.int .u8 0)], .agg [.lit (.int .u8 0), .lit (.int .u8 0)], .agg [.lit (.int .u8 0), .lit (.int .u8 0)], .agg [.lit (.int .u8 0), .lit (.int .u8 0)], .agg [.lit (.int .u8 0), .lit (.int .u8 0)], .agg [.lit (.int .u8 0), .lit (.int .u8 0)], .agg [.lit (.int .u8 0), .lit (.int .u8 0)], .agg [.lit (.int .u8 0), .lit (.int .u8 0)], .agg [.lit (.int .u8 0), .lit (.int .u8 0)]]
/-- One of Go's own tables, pinned by name: the form's constant. -/
def laid_unicode_utf8_first : DataW Unit := Go.Pinned.utf8First

/-- 'zzlaws_internal_pattern_b1.FnListMatchIsSomePatternMatches': WHATEVER THE INPUT: true; the input reads as it did. -/
def fnListMatchIsSomePatternMatchesSpec : ChangeSpec := { name := "fnListMatchIsSomePatternMatches", fn := fun _ => fun
  | [d1, d2] => { results := [.lit (.bool true)], args := [d1, d2] }
  | _ => none }
def fnListMatchIsSomePatternMatchesRow : OpenClaim := { program := "qxb6602868adoor", sum := "09e18f540de0078ee29c4a5a234e141fd9f0dd563e9313b8b88dd891f5f2420d", func := "example.com/wireproof/wireproof/zzlaws_internal_pattern_b1.FnListMatchIsSomePatternMatches", spec := "fnListMatchIsSomePatternMatches", inPlace := ["internal/bytealg.CountString", "internal/bytealg.IndexByteString", "internal/bytealg.IndexString"], unfollowed := true, recurses := true, named := ["unicode/utf8.first", "unicode/utf8.acceptRanges", "internal/bytealg.MaxLen"], apart := false, laid := [("unicode/utf8.acceptRanges", laid_unicode_utf8_acceptRanges), ("unicode/utf8.first", laid_unicode_utf8_first)] }
def FnListMatchIsSomePatternMatchesSaid : Prop := fnListMatchIsSomePatternMatchesRow.holds Tryd.pinned (OpenSpec.ofChange fnListMatchIsSomePatternMatchesSpec)

/-- ITS FALSE NEIGHBOUR: 'it returns false'. Refute it at one input. -/
def fnListMatchIsSomePatternMatchesWrong : ChangeSpec := { name := "fnListMatchIsSomePatternMatches", fn := fun _ => fun
  | [d1, d2] => { results := [.lit (.bool false)], args := [d1, d2] }
  | _ => none }
def FnListMatchIsSomePatternMatchesWrongFalsely : Prop := fnListMatchIsSomePatternMatchesRow.holds Tryd.pinned (OpenSpec.ofChange fnListMatchIsSomePatternMatchesWrong)

/-- 'zzlaws_internal_pattern_b1.FnListMatchAgreesWithUnmatched': WHATEVER THE INPUT: true; the input reads as it did. -/
def fnListMatchAgreesWithUnmatchedSpec : ChangeSpec := { name := "fnListMatchAgreesWithUnmatched", fn := fun _ => fun
  | [d1, d2] => { results := [.lit (.bool true)], args := [d1, d2] }
  | _ => none }
def fnListMatchAgreesWithUnmatchedRow : OpenClaim := { program := "qxb6602868adoor", sum := "09e18f540de0078ee29c4a5a234e141fd9f0dd563e9313b8b88dd891f5f2420d", func := "example.com/wireproof/wireproof/zzlaws_internal_pattern_b1.FnListMatchAgreesWithUnmatched", spec := "fnListMatchAgreesWithUnmatched", inPlace := ["internal/bytealg.CountString", "internal/bytealg.IndexByteString", "internal/bytealg.IndexString"], unfollowed := true, recurses := true, named := ["unicode/utf8.first", "unicode/utf8.acceptRanges", "internal/bytealg.MaxLen"], apart := false, laid := [("unicode/utf8.acceptRanges", laid_unicode_utf8_acceptRanges), ("unicode/utf8.first", laid_unicode_utf8_first)] }
def FnListMatchAgreesWithUnmatchedSaid : Prop := fnListMatchAgreesWithUnmatchedRow.holds Tryd.pinned (OpenSpec.ofChange fnListMatchAgreesWithUnmatchedSpec)

/-- ITS FALSE NEIGHBOUR: 'it returns false'. Refute it at one input. -/
def fnListMatchAgreesWithUnmatchedWrong : ChangeSpec := { name := "fnListMatchAgreesWithUnmatched", fn := fun _ => fun
  | [d1, d2] => { results := [.lit (.bool false)], args := [d1, d2] }
  | _ => none }
def FnListMatchAgreesWithUnmatchedWrongFalsely : Prop := fnListMatchAgreesWithUnmatchedRow.holds Tryd.pinned (OpenSpec.ofChange fnListMatchAgreesWithUnmatchedWrong)

/-- 'zzlaws_internal_pattern_b1.FnListUnmatchedIsThoseMatchingNoName': WHATEVER THE INPUT: true; the input reads as it did. -/
def fnListUnmatchedIsThoseMatchingNoNameSpec : ChangeSpec := { name := "fnListUnmatchedIsThoseMatchingNoName", fn := fun _ => fun
  | [d1, d2] => { results := [.lit (.bool true)], args := [d1, d2] }
  | _ => none }
def fnListUnmatchedIsThoseMatchingNoNameRow : OpenClaim := { program := "qxb6602868adoor", sum := "09e18f540de0078ee29c4a5a234e141fd9f0dd563e9313b8b88dd891f5f2420d", func := "example.com/wireproof/wireproof/zzlaws_internal_pattern_b1.FnListUnmatchedIsThoseMatchingNoName", spec := "fnListUnmatchedIsThoseMatchingNoName", inPlace := ["internal/bytealg.CountString", "internal/bytealg.IndexByteString", "internal/bytealg.IndexString"], unfollowed := true, recurses := true, named := ["unicode/utf8.first", "unicode/utf8.acceptRanges", "internal/bytealg.MaxLen"], apart := false, laid := [("unicode/utf8.acceptRanges", laid_unicode_utf8_acceptRanges), ("unicode/utf8.first", laid_unicode_utf8_first)] }
def FnListUnmatchedIsThoseMatchingNoNameSaid : Prop := fnListUnmatchedIsThoseMatchingNoNameRow.holds Tryd.pinned (OpenSpec.ofChange fnListUnmatchedIsThoseMatchingNoNameSpec)

/-- ITS FALSE NEIGHBOUR: 'it returns false'. Refute it at one input. -/
def fnListUnmatchedIsThoseMatchingNoNameWrong : ChangeSpec := { name := "fnListUnmatchedIsThoseMatchingNoName", fn := fun _ => fun
  | [d1, d2] => { results := [.lit (.bool false)], args := [d1, d2] }
  | _ => none }
def FnListUnmatchedIsThoseMatchingNoNameWrongFalsely : Prop := fnListUnmatchedIsThoseMatchingNoNameRow.holds Tryd.pinned (OpenSpec.ofChange fnListUnmatchedIsThoseMatchingNoNameWrong)

/-- 'zzlaws_internal_pattern_b1.FnListUnmatchedComposes': WHATEVER THE INPUT: true; the input reads as it did. -/
def fnListUnmatchedComposesSpec : ChangeSpec := { name := "fnListUnmatchedComposes", fn := fun _ => fun
  | [d1, d2, d3] => { results := [.lit (.bool true)], args := [d1, d2, d3] }
  | _ => none }
def fnListUnmatchedComposesRow : OpenClaim := { program := "qxb6602868adoor", sum := "09e18f540de0078ee29c4a5a234e141fd9f0dd563e9313b8b88dd891f5f2420d", func := "example.com/wireproof/wireproof/zzlaws_internal_pattern_b1.FnListUnmatchedComposes", spec := "fnListUnmatchedComposes", inPlace := ["internal/bytealg.CountString", "internal/bytealg.IndexByteString", "internal/bytealg.IndexString"], unfollowed := true, recurses := true, named := ["unicode/utf8.first", "unicode/utf8.acceptRanges", "internal/bytealg.MaxLen"], apart := false, laid := [("unicode/utf8.acceptRanges", laid_unicode_utf8_acceptRanges), ("unicode/utf8.first", laid_unicode_utf8_first)] }
def FnListUnmatchedComposesSaid : Prop := fnListUnmatchedComposesRow.holds Tryd.pinned (OpenSpec.ofChange fnListUnmatchedComposesSpec)

/-- ITS FALSE NEIGHBOUR: 'it returns false'. Refute it at one input. -/
def fnListUnmatchedComposesWrong : ChangeSpec := { name := "fnListUnmatchedComposes", fn := fun _ => fun
  | [d1, d2, d3] => { results := [.lit (.bool false)], args := [d1, d2, d3] }
  | _ => none }
def FnListUnmatchedComposesWrongFalsely : Prop := fnListUnmatchedComposesRow.holds Tryd.pinned (OpenSpec.ofChange fnListUnmatchedComposesWrong)

end Rows
end Go.Proofs.Qxb6602868aDoor
