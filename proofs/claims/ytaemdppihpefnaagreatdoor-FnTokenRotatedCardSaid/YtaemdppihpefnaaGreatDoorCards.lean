/-
  DERIVED. GIVEN WITH THE SEED: THE CARDS: each row of YtaemdppihpefnaaGreatDoorRows.lean that lists a variable, with what it lists TIED to the program's text (the seventh form; the later family's looks); each row that meets fmt, with fmt's text TOLD by the authors' own Lean function (tested against real Go, not proved from fmt's source: count such statements apart). THE CARD IS WHAT COUNTS. Prove the row's statement (the work); the ties are given (YtaemdppihpefnaaGreatDoorTie.lean); close each card by the builder's one call (the guide's Derived/Test/ToyasCard.lean, 'card_holds'). Laid BY PROGRAM, IN A SANDBOX (cutbox-door.mjs). By AI agents, Wed Nov 11 2026. No macro, syntax, notation, axiom, sorry.
-/
import Derived.Test.YtaemdppihpefnaaGreatDoorRows
import GoSem.ClaimSeven
namespace Go.Proofs.YtaemdppihpefnaaGreatDoor
namespace Rows

/-- THE TIED CARD OF 'laws.FnTokenNested'. -/
def fnTokenNestedCard : Claim7 := { stood := { row := fnTokenNestedRow, standIns := [], harness := (true, "5aad41a7c5f8aa4ebfa5e2f71c74d5341d45143390b8fbd23d41ae660c9a2fd1"), looks := true }, kinds := [], alts := [], laidByText := true, laidKinds := [.data, .data, .data, .sentinel, .sentinel, .sentinel], laidTests := true, laidLooks := .later }
def FnTokenNestedCardSaid : Prop := Claim7.holds Tryz.pinned (.plain (OpenSpec.ofChange fnTokenNestedSpec)) fnTokenNestedCard

/-- THE TIED CARD OF 'laws.FnTokenRotated'. -/
def fnTokenRotatedCard : Claim7 := { stood := { row := fnTokenRotatedRow, standIns := [], harness := (true, "5aad41a7c5f8aa4ebfa5e2f71c74d5341d45143390b8fbd23d41ae660c9a2fd1"), looks := true }, kinds := [], alts := [], laidByText := true, laidKinds := [.data, .data, .data, .sentinel, .sentinel, .sentinel, .sentinel], laidTests := true, laidLooks := .later }
def FnTokenRotatedCardSaid : Prop := Claim7.holds Tryz.pinned (.plain (OpenSpec.ofChange fnTokenRotatedSpec)) fnTokenRotatedCard

/-- THE SECOND FORM's CARD OF 'laws.FnTokenNested'. -/
def fnTokenNestedUptoCard : Claim7 := { stood := { row := fnTokenNestedUptoRow, standIns := [], harness := (true, "5aad41a7c5f8aa4ebfa5e2f71c74d5341d45143390b8fbd23d41ae660c9a2fd1"), looks := true }, kinds := [], alts := [], laidByText := true, laidKinds := [.data, .data, .data, .sentinel, .sentinel, .sentinel], laidTests := true, laidLooks := .later }
def FnTokenNestedUptoCardSaid : Prop := Claim7.holds Tryz.pinned (.plain (OpenSpec.upto fnTokenNestedSpec)) fnTokenNestedUptoCard

/-- THE SECOND FORM's CARD OF 'laws.FnTokenRotated'. -/
def fnTokenRotatedUptoCard : Claim7 := { stood := { row := fnTokenRotatedUptoRow, standIns := [], harness := (true, "5aad41a7c5f8aa4ebfa5e2f71c74d5341d45143390b8fbd23d41ae660c9a2fd1"), looks := true }, kinds := [], alts := [], laidByText := true, laidKinds := [.data, .data, .data, .sentinel, .sentinel, .sentinel, .sentinel], laidTests := true, laidLooks := .later }
def FnTokenRotatedUptoCardSaid : Prop := Claim7.holds Tryz.pinned (.plain (OpenSpec.upto fnTokenRotatedSpec)) fnTokenRotatedUptoCard
end Rows
end Go.Proofs.YtaemdppihpefnaaGreatDoor
