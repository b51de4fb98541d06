/-
  NARROWER THAN 'FOR EVERY INPUT', by the rows' own cells (each row's printed sentence says how): FnNormalizePathIdempotent: laid · FnNormalizePathNoLonger: laid · FnAuthorizationFieldsRoundTrip: laid · FnAuthorizationFieldsRefusesRepeat: laid.
  DERIVED. THE GIVEN ROWS OF THIS SEAT. 4 by the template 'for every input the law returns true; each argument reads behind the call as it read before'; 0 by the template 'total and deterministic' (their statements: Qxb6601943aDoorTotals.lean).
  GIVEN WITH THE SEED: the statements are not yours to turn. If you find one false, say at which input.
  Laid BY PROGRAM, IN A SANDBOX (cutbox-rows.mjs): the forced cells as the released guide's own fill.sh prints them over the translation fba7e7733f721178… (all of the seat's roots in one cut). By AI agents, Wed Nov 11 2026. No macro, syntax, notation, axiom, sorry.
-/
import Derived.Test.Qxb6601943aDoorChecked
import GoSem.PinnedTables
import GoSem.Claim
import GoSem.ClaimJoined
import GoSem.ClaimMapViews
import Derived.JoinedTies
import Derived.KernelRfl
namespace Go.Proofs.Qxb6601943aDoor
/- THE CELL 'sum', in the pinned program and in every row, IS THE sha256 OF THE DUMP (.gsa) THAT Qxb6601943aDoorProg.lean LOADS. Nothing in Lean hashes anything: it is a label: what it is worth is what the hold of that sum in a sandbox is worth. -/
noncomputable def Tryd.pinned : Pinned := { name := "qxb6601943adoor", sum := "fba7e7733f721178c3d29cb7ad6575e7ae08441c52f961575be98ed7e0c0f334", checked := Tryd.checked }
namespace Rows
def none {H : Type} : Left H := { results := [], args := [] }

/- WHAT THE LISTED PACKAGE-LEVEL VARIABLES READ AS WHEN THE CALL BEGINS. Each datum BY PROGRAM (the guide's laid-datum.mjs) off the statement by which the dump's own 'gosem.cut.vars' lays the variable. In a bare row this is a premise. The card (Qxb6601943aDoorCards.lean) ties it to the program's text. -/
def laid_unicode_utf8_acceptRanges {H : Type} : DataW H := .agg [.agg [.lit (.int .u8 128), .lit (.int .u8 191)], .agg [.lit (.int .u8 160), .lit (.int .u8 191)], .agg [.lit (.int .u8 128), .lit (.int .u8 159)], .agg [.lit (.int .u8 144), .lit (.int .u8 191)], .agg [.lit (.int .u8 128), .lit (.int .u8 143)], .agg [.lit (.int .u8 0), .lit (.int .u8 0)], .agg [.lit (.int .u8 0), .lit (.int .u8 0)], .agg [.lit (.int .u8 0), .lit (.int .u8 0)], .agg [.lit (.int .u8 0), .lit (.int .u8 0)], .agg [.lit (.int .u8 0), .lit (.int .u8 0)], .agg [.lit (.int .u8 0), .lit (.int .u8 0)], .agg [.lit (.int .u8 0), .lit (.int .u8 0)], .agg [.lit (.int .u8 0), .lit (.int .u8 0)], .agg [.lit (.int .u8 0), .lit (.int .u8 0)], .agg [.lit (.int .u8 0), .lit (.int .u8 0)], .agg [.lit (.int .u8 0), .lit (.int .u8 0)]]
/-- One of Go's own tables, pinned by name: the form's constant. -/
def laid_unicode_utf8_first : DataW Unit := Go.Pinned.utf8First

/-- 'zzlaws_root_b1.FnNormalizePathIdempotent': WHATEVER THE INPUT: true; the input reads as it did. -/
def fnNormalizePathIdempotentSpec : ChangeSpec := { name := "fnNormalizePathIdempotent", fn := fun _ => fun
  | [d] => { results := [.lit (.bool true)], args := [d] }
  | _ => none }
def fnNormalizePathIdempotentRow : OpenClaim := { program := "qxb6601943adoor", sum := "fba7e7733f721178c3d29cb7ad6575e7ae08441c52f961575be98ed7e0c0f334", func := "example.com/request-signer/request-signer/zzlaws_root_b1.FnNormalizePathIdempotent", spec := "fnNormalizePathIdempotent", inPlace := ["internal/bytealg.CountString", "internal/bytealg.IndexByteString", "internal/bytealg.IndexString", "internal/abi.NoEscape", "internal/bytealg.MakeNoZero"], unfollowed := true, recurses := true, named := ["internal/bytealg.MaxLen", "unicode/utf8.first", "unicode/utf8.acceptRanges"], apart := false, laid := [("unicode/utf8.acceptRanges", laid_unicode_utf8_acceptRanges), ("unicode/utf8.first", laid_unicode_utf8_first)] }
def FnNormalizePathIdempotentSaid : Prop := fnNormalizePathIdempotentRow.holds Tryd.pinned (OpenSpec.ofChange fnNormalizePathIdempotentSpec)

/-- ITS FALSE NEIGHBOUR: 'it returns false'. Refute it at one input. -/
def fnNormalizePathIdempotentWrong : ChangeSpec := { name := "fnNormalizePathIdempotent", fn := fun _ => fun
  | [d] => { results := [.lit (.bool false)], args := [d] }
  | _ => none }
def FnNormalizePathIdempotentWrongFalsely : Prop := fnNormalizePathIdempotentRow.holds Tryd.pinned (OpenSpec.ofChange fnNormalizePathIdempotentWrong)

/-- 'zzlaws_root_b1.FnNormalizePathNoLonger': WHATEVER THE INPUT: true; the input reads as it did. -/
def fnNormalizePathNoLongerSpec : ChangeSpec := { name := "fnNormalizePathNoLonger", fn := fun _ => fun
  | [d] => { results := [.lit (.bool true)], args := [d] }
  | _ => none }
def fnNormalizePathNoLongerRow : OpenClaim := { program := "qxb6601943adoor", sum := "fba7e7733f721178c3d29cb7ad6575e7ae08441c52f961575be98ed7e0c0f334", func := "example.com/request-signer/request-signer/zzlaws_root_b1.FnNormalizePathNoLonger", spec := "fnNormalizePathNoLonger", inPlace := ["internal/bytealg.CountString", "internal/bytealg.IndexByteString", "internal/bytealg.IndexString", "internal/abi.NoEscape", "internal/bytealg.MakeNoZero"], unfollowed := true, recurses := true, named := ["internal/bytealg.MaxLen", "unicode/utf8.first", "unicode/utf8.acceptRanges"], apart := false, laid := [("unicode/utf8.acceptRanges", laid_unicode_utf8_acceptRanges), ("unicode/utf8.first", laid_unicode_utf8_first)] }
def FnNormalizePathNoLongerSaid : Prop := fnNormalizePathNoLongerRow.holds Tryd.pinned (OpenSpec.ofChange fnNormalizePathNoLongerSpec)

/-- ITS FALSE NEIGHBOUR: 'it returns false'. Refute it at one input. -/
def fnNormalizePathNoLongerWrong : ChangeSpec := { name := "fnNormalizePathNoLonger", fn := fun _ => fun
  | [d] => { results := [.lit (.bool false)], args := [d] }
  | _ => none }
def FnNormalizePathNoLongerWrongFalsely : Prop := fnNormalizePathNoLongerRow.holds Tryd.pinned (OpenSpec.ofChange fnNormalizePathNoLongerWrong)

/-- 'zzlaws_root_b1.FnAuthorizationFieldsRoundTrip': WHATEVER THE INPUT: true; the input reads as it did. -/
def fnAuthorizationFieldsRoundTripSpec : ChangeSpec := { name := "fnAuthorizationFieldsRoundTrip", fn := fun _ => fun
  | [d1, d2, d3, d4, d5] => { results := [.lit (.bool true)], args := [d1, d2, d3, d4, d5] }
  | _ => none }
def fnAuthorizationFieldsRoundTripRow : OpenClaim := { program := "qxb6601943adoor", sum := "fba7e7733f721178c3d29cb7ad6575e7ae08441c52f961575be98ed7e0c0f334", func := "example.com/request-signer/request-signer/zzlaws_root_b1.FnAuthorizationFieldsRoundTrip", spec := "fnAuthorizationFieldsRoundTrip", inPlace := ["internal/bytealg.IndexByteString", "internal/bytealg.IndexString"], unfollowed := true, recurses := true, named := ["unicode/utf8.first", "unicode/utf8.acceptRanges", "internal/bytealg.MaxLen"], apart := false, laid := [("unicode/utf8.acceptRanges", laid_unicode_utf8_acceptRanges), ("unicode/utf8.first", laid_unicode_utf8_first)] }
def FnAuthorizationFieldsRoundTripSaid : Prop := fnAuthorizationFieldsRoundTripRow.holds Tryd.pinned (OpenSpec.ofChange fnAuthorizationFieldsRoundTripSpec)

/-- ITS FALSE NEIGHBOUR: 'it returns false'. Refute it at one input. -/
def fnAuthorizationFieldsRoundTripWrong : ChangeSpec := { name := "fnAuthorizationFieldsRoundTrip", fn := fun _ => fun
  | [d1, d2, d3, d4, d5] => { results := [.lit (.bool false)], args := [d1, d2, d3, d4, d5] }
  | _ => none }
def FnAuthorizationFieldsRoundTripWrongFalsely : Prop := fnAuthorizationFieldsRoundTripRow.holds Tryd.pinned (OpenSpec.ofChange fnAuthorizationFieldsRoundTripWrong)

/-- 'zzlaws_root_b1.FnAuthorizationFieldsRefusesRepeat': WHATEVER THE INPUT: true; the input reads as it did. -/
def fnAuthorizationFieldsRefusesRepeatSpec : ChangeSpec := { name := "fnAuthorizationFieldsRefusesRepeat", fn := fun _ => fun
  | [d1, d2, d3] => { results := [.lit (.bool true)], args := [d1, d2, d3] }
  | _ => none }
def fnAuthorizationFieldsRefusesRepeatRow : OpenClaim := { program := "qxb6601943adoor", sum := "fba7e7733f721178c3d29cb7ad6575e7ae08441c52f961575be98ed7e0c0f334", func := "example.com/request-signer/request-signer/zzlaws_root_b1.FnAuthorizationFieldsRefusesRepeat", spec := "fnAuthorizationFieldsRefusesRepeat", inPlace := ["internal/bytealg.IndexByteString", "internal/bytealg.IndexString"], unfollowed := true, recurses := true, named := ["unicode/utf8.first", "unicode/utf8.acceptRanges", "internal/bytealg.MaxLen"], apart := false, laid := [("unicode/utf8.acceptRanges", laid_unicode_utf8_acceptRanges), ("unicode/utf8.first", laid_unicode_utf8_first)] }
def FnAuthorizationFieldsRefusesRepeatSaid : Prop := fnAuthorizationFieldsRefusesRepeatRow.holds Tryd.pinned (OpenSpec.ofChange fnAuthorizationFieldsRefusesRepeatSpec)

/-- ITS FALSE NEIGHBOUR: 'it returns false'. Refute it at one input. -/
def fnAuthorizationFieldsRefusesRepeatWrong : ChangeSpec := { name := "fnAuthorizationFieldsRefusesRepeat", fn := fun _ => fun
  | [d1, d2, d3] => { results := [.lit (.bool false)], args := [d1, d2, d3] }
  | _ => none }
def FnAuthorizationFieldsRefusesRepeatWrongFalsely : Prop := fnAuthorizationFieldsRefusesRepeatRow.holds Tryd.pinned (OpenSpec.ofChange fnAuthorizationFieldsRefusesRepeatWrong)

end Rows
end Go.Proofs.Qxb6601943aDoor
