/-
  DERIVED. GIVEN WITH THE SEED: THE CARDS: each row of Qxb6601943aDoorRows.lean that lists a variable, with what it lists TIED to the program's text (the seventh form; the later family's looks); each row that meets fmt, with fmt's text TOLD by the authors' own Lean function (tested against real Go, not proved from fmt's source: count such statements apart). THE CARD IS WHAT COUNTS. Prove the row's statement (the work); the ties are given (Qxb6601943aDoorTie.lean); close each card by the builder's one call (the guide's Derived/Test/ToyasCard.lean, 'card_holds'). Laid BY PROGRAM, IN A SANDBOX (cutbox-door.mjs). By AI agents, Wed Nov 11 2026. No macro, syntax, notation, axiom, sorry.
-/
import Derived.Test.Qxb6601943aDoorRows
import GoSem.ClaimSeven
namespace Go.Proofs.Qxb6601943aDoor
namespace Rows

/-- THE TIED CARD OF 'zzlaws_root_b1.FnNormalizePathIdempotent'. -/
def fnNormalizePathIdempotentCard : Claim7 := { stood := { row := fnNormalizePathIdempotentRow, standIns := [], harness := (true, "625202b7f2de3d981d23d3127eaf0216cb3e93c879d70f41cc4b31e78339920d"), looks := false }, kinds := [], alts := [], laidByText := true, laidKinds := [.data, .pinned], laidTests := true, laidLooks := .later }
def FnNormalizePathIdempotentCardSaid : Prop := Claim7.holds Tryd.pinned (.plain (OpenSpec.ofChange fnNormalizePathIdempotentSpec)) fnNormalizePathIdempotentCard

/-- THE TIED CARD OF 'zzlaws_root_b1.FnNormalizePathNoLonger'. -/
def fnNormalizePathNoLongerCard : Claim7 := { stood := { row := fnNormalizePathNoLongerRow, standIns := [], harness := (true, "625202b7f2de3d981d23d3127eaf0216cb3e93c879d70f41cc4b31e78339920d"), looks := false }, kinds := [], alts := [], laidByText := true, laidKinds := [.data, .pinned], laidTests := true, laidLooks := .later }
def FnNormalizePathNoLongerCardSaid : Prop := Claim7.holds Tryd.pinned (.plain (OpenSpec.ofChange fnNormalizePathNoLongerSpec)) fnNormalizePathNoLongerCard

/-- THE TIED CARD OF 'zzlaws_root_b1.FnAuthorizationFieldsRoundTrip'. -/
def fnAuthorizationFieldsRoundTripCard : Claim7 := { stood := { row := fnAuthorizationFieldsRoundTripRow, standIns := [], harness := (true, "625202b7f2de3d981d23d3127eaf0216cb3e93c879d70f41cc4b31e78339920d"), looks := false }, kinds := [], alts := [], laidByText := true, laidKinds := [.data, .pinned], laidTests := true, laidLooks := .later }
def FnAuthorizationFieldsRoundTripCardSaid : Prop := Claim7.holds Tryd.pinned (.plain (OpenSpec.ofChange fnAuthorizationFieldsRoundTripSpec)) fnAuthorizationFieldsRoundTripCard

/-- THE TIED CARD OF 'zzlaws_root_b1.FnAuthorizationFieldsRefusesRepeat'. -/
def fnAuthorizationFieldsRefusesRepeatCard : Claim7 := { stood := { row := fnAuthorizationFieldsRefusesRepeatRow, standIns := [], harness := (true, "625202b7f2de3d981d23d3127eaf0216cb3e93c879d70f41cc4b31e78339920d"), looks := false }, kinds := [], alts := [], laidByText := true, laidKinds := [.data, .pinned], laidTests := true, laidLooks := .later }
def FnAuthorizationFieldsRefusesRepeatCardSaid : Prop := Claim7.holds Tryd.pinned (.plain (OpenSpec.ofChange fnAuthorizationFieldsRefusesRepeatSpec)) fnAuthorizationFieldsRefusesRepeatCard
end Rows
end Go.Proofs.Qxb6601943aDoor
