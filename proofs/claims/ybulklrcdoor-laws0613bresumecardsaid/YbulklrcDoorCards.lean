/-
  DERIVED. GIVEN WITH THE SEED: THE CARDS: each row of YbulklrcDoorRows.lean that lists a variable, with what it lists TIED to the program's text (the seventh form; the later family's looks); each row that meets fmt, with fmt's text TOLD by the authors' own Lean function (tested against real Go, not proved from fmt's source: count such statements apart). THE CARD IS WHAT COUNTS. Prove the row's statement (the work); the ties are given (YbulklrcDoorTie.lean); close each card by the builder's one call (the guide's Derived/Test/ToyasCard.lean, 'card_holds'). Laid BY PROGRAM, IN A SANDBOX (cutbox-door.mjs). By AI agents, Wed Nov 11 2026. No macro, syntax, notation, axiom, sorry.
-/
import Derived.Test.YbulklrcDoorRows
import GoSem.ClaimSeven
namespace Go.Proofs.YbulklrcDoor
namespace Rows

/-- THE TIED CARD OF 'model.LawS0613BFirstFree'. -/
def lawS0613BFirstFreeCard : Claim7 := { stood := { row := lawS0613BFirstFreeRow, standIns := [], harness := (true, "2bb7f8084e39fffa36dcf8a68bbf840992724a72fb50d8c5b8a2aed31187dc44"), looks := false }, kinds := [], alts := [], laidByText := true, laidKinds := [.data, .data, .data], laidTests := true, laidLooks := .later }
def LawS0613BFirstFreeCardSaid : Prop := Claim7.holds Ybad.pinned (.plain (OpenSpec.ofChange lawS0613BFirstFreeSpec)) lawS0613BFirstFreeCard

/-- THE TIED CARD OF 'model.LawS0613BResume'. -/
def lawS0613BResumeCard : Claim7 := { stood := { row := lawS0613BResumeRow, standIns := [], harness := (true, "2bb7f8084e39fffa36dcf8a68bbf840992724a72fb50d8c5b8a2aed31187dc44"), looks := false }, kinds := [], alts := [], laidByText := true, laidKinds := [.data, .data, .data], laidTests := true, laidLooks := .later }
def LawS0613BResumeCardSaid : Prop := Claim7.holds Ybad.pinned (.plain (OpenSpec.ofChange lawS0613BResumeSpec)) lawS0613BResumeCard
end Rows
end Go.Proofs.YbulklrcDoor
