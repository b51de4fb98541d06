/-
  DERIVED. GIVEN WITH THE SEED: THE CARDS: each row of Qxb6602381aDoorRows.lean that lists a variable, with what it lists TIED to the program's text (the seventh form; the later family's looks); each row that meets fmt, with fmt's text TOLD by the authors' own Lean function (tested against real Go, not proved from fmt's source: count such statements apart). THE CARD IS WHAT COUNTS. Prove the row's statement (the work); the ties are given (Qxb6602381aDoorTie.lean); close each card by the builder's one call (the guide's Derived/Test/ToyasCard.lean, 'card_holds'). Laid BY PROGRAM, IN A SANDBOX (cutbox-door.mjs). By AI agents, Wed Nov 11 2026. No macro, syntax, notation, axiom, sorry.
-/
import Derived.Test.Qxb6602381aDoorRows
import GoSem.ClaimSeven
namespace Go.Proofs.Qxb6602381aDoor
namespace Rows

/-- THE TIED CARD OF 'zzlaws_internal_sdlfile_b1.FnWriteDescriptionMatchesLineModel'. -/
def fnWriteDescriptionMatchesLineModelCard : Claim7 := { stood := { row := fnWriteDescriptionMatchesLineModelRow, standIns := [], harness := (true, "cbd5a6f6d59f7f5449a75ffa568148317ffb30b43720a8312889ace90120641b"), looks := false }, kinds := [], alts := [], laidByText := true, laidKinds := [.data, .pinned], laidTests := true, laidLooks := .later }
def FnWriteDescriptionMatchesLineModelCardSaid : Prop := Claim7.holds Tryd.pinned (.plain (OpenSpec.ofChange fnWriteDescriptionMatchesLineModelSpec)) fnWriteDescriptionMatchesLineModelCard

/-- THE TIED CARD OF 'zzlaws_internal_sdlfile_b1.FnWriteDescriptionIndentUnseenByParser'. -/
def fnWriteDescriptionIndentUnseenByParserCard : Claim7 := { stood := { row := fnWriteDescriptionIndentUnseenByParserRow, standIns := [], harness := (true, "cbd5a6f6d59f7f5449a75ffa568148317ffb30b43720a8312889ace90120641b"), looks := false }, kinds := [], alts := [], laidByText := true, laidKinds := [.data, .pinned], laidTests := true, laidLooks := .later }
def FnWriteDescriptionIndentUnseenByParserCardSaid : Prop := Claim7.holds Tryd.pinned (.plain (OpenSpec.ofChange fnWriteDescriptionIndentUnseenByParserSpec)) fnWriteDescriptionIndentUnseenByParserCard
end Rows
end Go.Proofs.Qxb6602381aDoor
