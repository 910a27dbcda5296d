/-
  DERIVED. GIVEN WITH THE SEED: THE CARDS: each row of YtpmoaghhccioaaaGreatDoorRows.lean that lists a variable, with what it lists TIED to the program's text (the seventh form; the later family's looks); each row that meets fmt, with fmt's text TOLD by the authors' own Lean function (tested against real Go, not proved from fmt's source: count such statements apart). THE CARD IS WHAT COUNTS. Prove the row's statement (the work); the ties are given (YtpmoaghhccioaaaGreatDoorTie.lean); close each card by the builder's one call (the guide's Derived/Test/ToyasCard.lean, 'card_holds'). Laid BY PROGRAM, IN A SANDBOX (cutbox-door.mjs). By AI agents, Wed Nov 11 2026. No macro, syntax, notation, axiom, sorry.
-/
import Derived.Test.YtpmoaghhccioaaaGreatDoorRows
import GoSem.ClaimSeven
namespace Go.Proofs.YtpmoaghhccioaaaGreatDoor
namespace Rows

/-- THE TIED CARD OF 'laws.FnTokenDots'. -/
def fnTokenDotsCard : Claim7 := { stood := { row := fnTokenDotsRow, standIns := [], harness := (true, "456557e750f58fbdf5c9e7b29d466d7454d66c100f0780957be6c01ff33d79d3"), looks := true }, kinds := [], alts := [], laidByText := true, laidKinds := [.sentinel], laidTests := true, laidLooks := .later }
def FnTokenDotsCardSaid : Prop := Claim7.holds Tryz.pinned (.plain (OpenSpec.ofChange fnTokenDotsSpec)) fnTokenDotsCard

/-- THE SECOND FORM's CARD OF 'laws.FnTokenDots'. -/
def fnTokenDotsUptoCard : Claim7 := { stood := { row := fnTokenDotsUptoRow, standIns := [], harness := (true, "456557e750f58fbdf5c9e7b29d466d7454d66c100f0780957be6c01ff33d79d3"), looks := true }, kinds := [], alts := [], laidByText := true, laidKinds := [.sentinel], laidTests := true, laidLooks := .later }
def FnTokenDotsUptoCardSaid : Prop := Claim7.holds Tryz.pinned (.plain (OpenSpec.upto fnTokenDotsSpec)) fnTokenDotsUptoCard
end Rows
end Go.Proofs.YtpmoaghhccioaaaGreatDoor
