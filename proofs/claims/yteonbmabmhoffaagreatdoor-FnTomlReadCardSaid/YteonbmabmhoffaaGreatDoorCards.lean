/-
  DERIVED. GIVEN WITH THE SEED: THE CARDS: each row of YteonbmabmhoffaaGreatDoorRows.lean that lists a variable, with what it lists TIED to the program's text (the seventh form; the later family's looks); each row that meets fmt, with fmt's text TOLD by the authors' own Lean function (tested against real Go, not proved from fmt's source: count such statements apart). THE CARD IS WHAT COUNTS. Prove the row's statement (the work); the ties are given (YteonbmabmhoffaaGreatDoorTie.lean); close each card by the builder's one call (the guide's Derived/Test/ToyasCard.lean, 'card_holds'). Laid BY PROGRAM, IN A SANDBOX (cutbox-door.mjs). By AI agents, Wed Nov 11 2026. No macro, syntax, notation, axiom, sorry.
-/
import Derived.Test.YteonbmabmhoffaaGreatDoorRows
import GoSem.ClaimSeven
namespace Go.Proofs.YteonbmabmhoffaaGreatDoor
namespace Rows

/-- THE TIED CARD OF 'laws.FnTomlRead'. -/
def fnTomlReadCard : Claim7 := { stood := { row := fnTomlReadRow, standIns := [], harness := (true, "208114223b67b8c306f9091188ac81c319f2f03e2edfa0f491314d11d9aeecd9"), looks := true }, kinds := [], alts := [], laidByText := true, laidKinds := [.data, .pinned], laidTests := true, laidLooks := .later }
def FnTomlReadCardSaid : Prop := Claim7.holds Tryz.pinned (.plain (OpenSpec.ofChange fnTomlReadSpec)) fnTomlReadCard

/-- THE SECOND FORM's CARD OF 'laws.FnTomlRead'. -/
def fnTomlReadUptoCard : Claim7 := { stood := { row := fnTomlReadUptoRow, standIns := [], harness := (true, "208114223b67b8c306f9091188ac81c319f2f03e2edfa0f491314d11d9aeecd9"), looks := true }, kinds := [], alts := [], laidByText := true, laidKinds := [.data, .pinned], laidTests := true, laidLooks := .later }
def FnTomlReadUptoCardSaid : Prop := Claim7.holds Tryz.pinned (.plain (OpenSpec.upto fnTomlReadSpec)) fnTomlReadUptoCard
end Rows
end Go.Proofs.YteonbmabmhoffaaGreatDoor
