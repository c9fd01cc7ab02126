/-
  DERIVED. GIVEN WITH THE SEED: THE CARDS: each row of YtoindammaphefaaGreatDoorRows.lean that lists a variable, with what it lists TIED to the program's text (the seventh form; the later family's looks); each row that meets fmt, with fmt's text TOLD by the authors' own Lean function (tested against real Go, not proved from fmt's source: count such statements apart). THE CARD IS WHAT COUNTS. Prove the row's statement (the work); the ties are given (YtoindammaphefaaGreatDoorTie.lean); close each card by the builder's one call (the guide's Derived/Test/ToyasCard.lean, 'card_holds'). Laid BY PROGRAM, IN A SANDBOX (cutbox-door.mjs). By AI agents, Wed Nov 11 2026. No macro, syntax, notation, axiom, sorry.
-/
import Derived.Test.YtoindammaphefaaGreatDoorRows
import GoSem.ClaimSeven
namespace Go.Proofs.YtoindammaphefaaGreatDoor
namespace Rows

/-- THE TIED CARD OF 'laws.FnSpecificity'. -/
def fnSpecificityCard : Claim7 := { stood := { row := fnSpecificityRow, standIns := [], harness := (true, "4eca278cacfda20fec16ad1ed49eb9c5563f37634f89a989fc55f859b3c8d56f"), looks := true }, kinds := [], alts := [], laidByText := true, laidKinds := [.data, .data, .data, .data, .sentinel, .sentinel, .sentinel, .sentinel, .sentinel, .pinned, .pinned], laidTests := true, laidLooks := .later }
def FnSpecificityCardSaid : Prop := Claim7.holds Tryz.pinned (.plain (OpenSpec.ofChange fnSpecificitySpec)) fnSpecificityCard

/-- THE TIED CARD OF 'laws.FnTextTwice'. -/
def fnTextTwiceCard : Claim7 := { stood := { row := fnTextTwiceRow, standIns := [], harness := (true, "4eca278cacfda20fec16ad1ed49eb9c5563f37634f89a989fc55f859b3c8d56f"), looks := true }, kinds := [], alts := [], laidByText := true, laidKinds := [.data, .data, .data, .data, .sentinel, .sentinel, .sentinel, .sentinel, .sentinel, .pinned, .pinned], laidTests := true, laidLooks := .later }
def FnTextTwiceCardSaid : Prop := Claim7.holds Tryz.pinned (.plain (OpenSpec.ofChange fnTextTwiceSpec)) fnTextTwiceCard

/-- THE SECOND FORM's CARD OF 'laws.FnSpecificity'. -/
def fnSpecificityUptoCard : Claim7 := { stood := { row := fnSpecificityUptoRow, standIns := [], harness := (true, "4eca278cacfda20fec16ad1ed49eb9c5563f37634f89a989fc55f859b3c8d56f"), looks := true }, kinds := [], alts := [], laidByText := true, laidKinds := [.data, .data, .data, .data, .sentinel, .sentinel, .sentinel, .sentinel, .sentinel, .pinned, .pinned], laidTests := true, laidLooks := .later }
def FnSpecificityUptoCardSaid : Prop := Claim7.holds Tryz.pinned (.plain (OpenSpec.upto fnSpecificitySpec)) fnSpecificityUptoCard

/-- THE SECOND FORM's CARD OF 'laws.FnTextTwice'. -/
def fnTextTwiceUptoCard : Claim7 := { stood := { row := fnTextTwiceUptoRow, standIns := [], harness := (true, "4eca278cacfda20fec16ad1ed49eb9c5563f37634f89a989fc55f859b3c8d56f"), looks := true }, kinds := [], alts := [], laidByText := true, laidKinds := [.data, .data, .data, .data, .sentinel, .sentinel, .sentinel, .sentinel, .sentinel, .pinned, .pinned], laidTests := true, laidLooks := .later }
def FnTextTwiceUptoCardSaid : Prop := Claim7.holds Tryz.pinned (.plain (OpenSpec.upto fnTextTwiceSpec)) fnTextTwiceUptoCard
end Rows
end Go.Proofs.YtoindammaphefaaGreatDoor
