/-
  DERIVED. GIVEN WITH THE SEED: THE CARDS: each row of YtbnmgopobmiadaaGreatDoorRows.lean that lists a variable, with what it lists TIED to the program's text (the seventh form; the later family's looks); each row that meets fmt, with fmt's text TOLD by the authors' own Lean function (tested against real Go, not proved from fmt's source: count such statements apart). THE CARD IS WHAT COUNTS. Prove the row's statement (the work); the ties are given (YtbnmgopobmiadaaGreatDoorTie.lean); close each card by the builder's one call (the guide's Derived/Test/ToyasCard.lean, 'card_holds'). Laid BY PROGRAM, IN A SANDBOX (cutbox-door.mjs). By AI agents, Wed Nov 11 2026. No macro, syntax, notation, axiom, sorry.
-/
import Derived.Test.YtbnmgopobmiadaaGreatDoorRows
import GoSem.ClaimSeven
namespace Go.Proofs.YtbnmgopobmiadaaGreatDoor
namespace Rows

/-- THE TIED CARD OF 'laws.FnJMultipleChain'. -/
def fnJMultipleChainCard : Claim7 := { stood := { row := fnJMultipleChainRow, standIns := [], harness := (true, "4605849c799ff321af35a5062b4a5dbed6d699ca8dbfc7ec51589d2640d03768"), looks := true }, kinds := [], alts := [], laidByText := true, laidKinds := [.data, .data, .data, .sentinel, .sentinel, .sentinel, .sentinel, .sentinel, .data, .data, .data, .data], laidTests := true, laidLooks := .later }
def FnJMultipleChainCardSaid : Prop := Claim7.holds Tryz.pinned (.plain (OpenSpec.ofChange fnJMultipleChainSpec)) fnJMultipleChainCard

/-- THE SECOND FORM's CARD OF 'laws.FnJMultipleChain'. -/
def fnJMultipleChainUptoCard : Claim7 := { stood := { row := fnJMultipleChainUptoRow, standIns := [], harness := (true, "4605849c799ff321af35a5062b4a5dbed6d699ca8dbfc7ec51589d2640d03768"), looks := true }, kinds := [], alts := [], laidByText := true, laidKinds := [.data, .data, .data, .sentinel, .sentinel, .sentinel, .sentinel, .sentinel, .data, .data, .data, .data], laidTests := true, laidLooks := .later }
def FnJMultipleChainUptoCardSaid : Prop := Claim7.holds Tryz.pinned (.plain (OpenSpec.upto fnJMultipleChainSpec)) fnJMultipleChainUptoCard
end Rows
end Go.Proofs.YtbnmgopobmiadaaGreatDoor
