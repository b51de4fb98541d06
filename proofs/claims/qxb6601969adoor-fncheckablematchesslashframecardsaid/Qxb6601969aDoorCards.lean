/-
  DERIVED. GIVEN WITH THE SEED: THE CARDS: each row of Qxb6601969aDoorRows.lean that lists a variable, with what it lists TIED to the program's text (the seventh form; the later family's looks); each row that meets fmt, with fmt's text TOLD by the authors' own Lean function (tested against real Go, not proved from fmt's source: count such statements apart). THE CARD IS WHAT COUNTS. Prove the row's statement (the work); the ties are given (Qxb6601969aDoorTie.lean); close each card by the builder's one call (the guide's Derived/Test/ToyasCard.lean, 'card_holds'). Laid BY PROGRAM, IN A SANDBOX (cutbox-door.mjs). By AI agents, Wed Nov 11 2026. No macro, syntax, notation, axiom, sorry.
-/
import Derived.Test.Qxb6601969aDoorRows
import GoSem.ClaimSeven
namespace Go.Proofs.Qxb6601969aDoor
namespace Rows

/-- THE TIED CARD OF 'zzlaws_pkg_git_b1.FnCheckableMatchesSlashFrame'. -/
def fnCheckableMatchesSlashFrameCard : Claim7 := { stood := { row := fnCheckableMatchesSlashFrameRow, standIns := [], harness := (true, "6f39af98774f648e63bc838d5f7cf80bf97f86392807436d56cc5cbf49247dde"), looks := false }, kinds := [], alts := [], laidByText := true, laidKinds := [.data, .pinned], laidTests := true, laidLooks := .later }
def FnCheckableMatchesSlashFrameCardSaid : Prop := Claim7.holds Tryd.pinned (.plain (OpenSpec.ofChange fnCheckableMatchesSlashFrameSpec)) fnCheckableMatchesSlashFrameCard

/-- THE TIED CARD OF 'zzlaws_pkg_git_b1.FnCheckableJoinIffBoth'. -/
def fnCheckableJoinIffBothCard : Claim7 := { stood := { row := fnCheckableJoinIffBothRow, standIns := [], harness := (true, "6f39af98774f648e63bc838d5f7cf80bf97f86392807436d56cc5cbf49247dde"), looks := false }, kinds := [], alts := [], laidByText := true, laidKinds := [.data, .pinned], laidTests := true, laidLooks := .later }
def FnCheckableJoinIffBothCardSaid : Prop := Claim7.holds Tryd.pinned (.plain (OpenSpec.ofChange fnCheckableJoinIffBothSpec)) fnCheckableJoinIffBothCard
end Rows
end Go.Proofs.Qxb6601969aDoor
