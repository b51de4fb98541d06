/-
  DERIVED. GIVEN WITH THE SEED: THE CARDS: each row of Qxb6602868aDoorRows.lean that lists a variable, with what it lists TIED to the program's text (the seventh form; the later family's looks); each row that meets fmt, with fmt's text TOLD by the authors' own Lean function (tested against real Go, not proved from fmt's source: count such statements apart). THE CARD IS WHAT COUNTS. Prove the row's statement (the work); the ties are given (Qxb6602868aDoorTie.lean); close each card by the builder's one call (the guide's Derived/Test/ToyasCard.lean, 'card_holds'). Laid BY PROGRAM, IN A SANDBOX (cutbox-door.mjs). By AI agents, Wed Nov 11 2026. No macro, syntax, notation, axiom, sorry.
-/
import Derived.Test.Qxb6602868aDoorRows
import GoSem.ClaimSeven
namespace Go.Proofs.Qxb6602868aDoor
namespace Rows

/-- THE TIED CARD OF 'zzlaws_internal_pattern_b1.FnListMatchIsSomePatternMatches'. -/
def fnListMatchIsSomePatternMatchesCard : Claim7 := { stood := { row := fnListMatchIsSomePatternMatchesRow, standIns := [], harness := (true, "8b1f5deca6bb3ed7cc806683063008dc8a4906175bf033b9077a45abd8fe2e12"), looks := false }, kinds := [], alts := [], laidByText := true, laidKinds := [.data, .pinned], laidTests := true, laidLooks := .later }
def FnListMatchIsSomePatternMatchesCardSaid : Prop := Claim7.holds Tryd.pinned (.plain (OpenSpec.ofChange fnListMatchIsSomePatternMatchesSpec)) fnListMatchIsSomePatternMatchesCard

/-- THE TIED CARD OF 'zzlaws_internal_pattern_b1.FnListMatchAgreesWithUnmatched'. -/
def fnListMatchAgreesWithUnmatchedCard : Claim7 := { stood := { row := fnListMatchAgreesWithUnmatchedRow, standIns := [], harness := (true, "8b1f5deca6bb3ed7cc806683063008dc8a4906175bf033b9077a45abd8fe2e12"), looks := false }, kinds := [], alts := [], laidByText := true, laidKinds := [.data, .pinned], laidTests := true, laidLooks := .later }
def FnListMatchAgreesWithUnmatchedCardSaid : Prop := Claim7.holds Tryd.pinned (.plain (OpenSpec.ofChange fnListMatchAgreesWithUnmatchedSpec)) fnListMatchAgreesWithUnmatchedCard

/-- THE TIED CARD OF 'zzlaws_internal_pattern_b1.FnListUnmatchedIsThoseMatchingNoName'. -/
def fnListUnmatchedIsThoseMatchingNoNameCard : Claim7 := { stood := { row := fnListUnmatchedIsThoseMatchingNoNameRow, standIns := [], harness := (true, "8b1f5deca6bb3ed7cc806683063008dc8a4906175bf033b9077a45abd8fe2e12"), looks := false }, kinds := [], alts := [], laidByText := true, laidKinds := [.data, .pinned], laidTests := true, laidLooks := .later }
def FnListUnmatchedIsThoseMatchingNoNameCardSaid : Prop := Claim7.holds Tryd.pinned (.plain (OpenSpec.ofChange fnListUnmatchedIsThoseMatchingNoNameSpec)) fnListUnmatchedIsThoseMatchingNoNameCard

/-- THE TIED CARD OF 'zzlaws_internal_pattern_b1.FnListUnmatchedComposes'. -/
def fnListUnmatchedComposesCard : Claim7 := { stood := { row := fnListUnmatchedComposesRow, standIns := [], harness := (true, "8b1f5deca6bb3ed7cc806683063008dc8a4906175bf033b9077a45abd8fe2e12"), looks := false }, kinds := [], alts := [], laidByText := true, laidKinds := [.data, .pinned], laidTests := true, laidLooks := .later }
def FnListUnmatchedComposesCardSaid : Prop := Claim7.holds Tryd.pinned (.plain (OpenSpec.ofChange fnListUnmatchedComposesSpec)) fnListUnmatchedComposesCard
end Rows
end Go.Proofs.Qxb6602868aDoor
