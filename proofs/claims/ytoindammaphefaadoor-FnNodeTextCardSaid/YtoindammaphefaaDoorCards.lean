/-
  DERIVED. GIVEN WITH THE SEED: THE CARDS: each row of YtoindammaphefaaDoorRows.lean that lists a variable, with what it lists TIED to the program's text (the seventh form; the later family's looks); each row that meets fmt, with fmt's text TOLD by the authors' own Lean function (tested against real Go, not proved from fmt's source: count such statements apart). THE CARD IS WHAT COUNTS. Prove the row's statement (the work); the ties are given (YtoindammaphefaaDoorTie.lean); close each card by the builder's one call (the guide's Derived/Test/ToyasCard.lean, 'card_holds'). Laid BY PROGRAM, IN A SANDBOX (cutbox-door.mjs). By AI agents, Wed Nov 11 2026. No macro, syntax, notation, axiom, sorry.
-/
import Derived.Test.YtoindammaphefaaDoorRows
import GoSem.ClaimSeven
namespace Go.Proofs.YtoindammaphefaaDoor
namespace Rows

/-- THE TIED CARD OF 'laws.FnNodeText'. -/
def fnNodeTextCard : Claim7 := { stood := { row := fnNodeTextRow, standIns := [], harness := (true, "be068169230591ba85aabd9b3f52810eaea76723cdf6e5285f2c9b90dfab93e3"), looks := true }, kinds := [], alts := [], laidByText := true, laidKinds := [.sentinel], laidTests := true, laidLooks := .later }
def FnNodeTextCardSaid : Prop := Claim7.holds Tryd.pinned (.plain (OpenSpec.ofChange fnNodeTextSpec)) fnNodeTextCard

/-- THE TIED CARD OF 'laws.FnStringToken'. -/
def fnStringTokenCard : Claim7 := { stood := { row := fnStringTokenRow, standIns := [], harness := (true, "be068169230591ba85aabd9b3f52810eaea76723cdf6e5285f2c9b90dfab93e3"), looks := true }, kinds := [], alts := [], laidByText := true, laidKinds := [.data, .data, .data, .sentinel, .sentinel], laidTests := true, laidLooks := .later }
def FnStringTokenCardSaid : Prop := Claim7.holds Tryd.pinned (.plain (OpenSpec.ofChange fnStringTokenSpec)) fnStringTokenCard

/-- THE TIED CARD OF 'laws.FnIdentifier'. -/
def fnIdentifierCard : Claim7 := { stood := { row := fnIdentifierRow, standIns := [], harness := (true, "be068169230591ba85aabd9b3f52810eaea76723cdf6e5285f2c9b90dfab93e3"), looks := true }, kinds := [], alts := [], laidByText := true, laidKinds := [.data, .data, .data, .sentinel, .sentinel], laidTests := true, laidLooks := .later }
def FnIdentifierCardSaid : Prop := Claim7.holds Tryd.pinned (.plain (OpenSpec.ofChange fnIdentifierSpec)) fnIdentifierCard

/-- THE TIED CARD OF 'laws.FnEscaped'. -/
def fnEscapedCard : Claim7 := { stood := { row := fnEscapedRow, standIns := [], harness := (true, "be068169230591ba85aabd9b3f52810eaea76723cdf6e5285f2c9b90dfab93e3"), looks := true }, kinds := [], alts := [], laidByText := true, laidKinds := [.data, .data, .data, .sentinel, .sentinel], laidTests := true, laidLooks := .later }
def FnEscapedCardSaid : Prop := Claim7.holds Tryd.pinned (.plain (OpenSpec.ofChange fnEscapedSpec)) fnEscapedCard

/-- THE TIED CARD OF 'laws.FnNthWords'. -/
def fnNthWordsCard : Claim7 := { stood := { row := fnNthWordsRow, standIns := [], harness := (true, "be068169230591ba85aabd9b3f52810eaea76723cdf6e5285f2c9b90dfab93e3"), looks := true }, kinds := [], alts := [], laidByText := true, laidKinds := [.data, .data, .data, .sentinel, .sentinel], laidTests := true, laidLooks := .later }
def FnNthWordsCardSaid : Prop := Claim7.holds Tryd.pinned (.plain (OpenSpec.ofChange fnNthWordsSpec)) fnNthWordsCard

/-- THE TIED CARD OF 'laws.FnParseNth'. -/
def fnParseNthCard : Claim7 := { stood := { row := fnParseNthRow, standIns := [], harness := (true, "be068169230591ba85aabd9b3f52810eaea76723cdf6e5285f2c9b90dfab93e3"), looks := true }, kinds := [], alts := [], laidByText := true, laidKinds := [.data, .data, .data, .sentinel, .sentinel], laidTests := true, laidLooks := .later }
def FnParseNthCardSaid : Prop := Claim7.holds Tryd.pinned (.plain (OpenSpec.ofChange fnParseNthSpec)) fnParseNthCard

/-- THE SECOND FORM's CARD OF 'laws.FnNodeText'. -/
def fnNodeTextUptoCard : Claim7 := { stood := { row := fnNodeTextUptoRow, standIns := [], harness := (true, "be068169230591ba85aabd9b3f52810eaea76723cdf6e5285f2c9b90dfab93e3"), looks := true }, kinds := [], alts := [], laidByText := true, laidKinds := [.sentinel], laidTests := true, laidLooks := .later }
def FnNodeTextUptoCardSaid : Prop := Claim7.holds Tryd.pinned (.plain (OpenSpec.upto fnNodeTextSpec)) fnNodeTextUptoCard

/-- THE SECOND FORM's CARD OF 'laws.FnStringToken'. -/
def fnStringTokenUptoCard : Claim7 := { stood := { row := fnStringTokenUptoRow, standIns := [], harness := (true, "be068169230591ba85aabd9b3f52810eaea76723cdf6e5285f2c9b90dfab93e3"), looks := true }, kinds := [], alts := [], laidByText := true, laidKinds := [.data, .data, .data, .sentinel, .sentinel], laidTests := true, laidLooks := .later }
def FnStringTokenUptoCardSaid : Prop := Claim7.holds Tryd.pinned (.plain (OpenSpec.upto fnStringTokenSpec)) fnStringTokenUptoCard

/-- THE SECOND FORM's CARD OF 'laws.FnIdentifier'. -/
def fnIdentifierUptoCard : Claim7 := { stood := { row := fnIdentifierUptoRow, standIns := [], harness := (true, "be068169230591ba85aabd9b3f52810eaea76723cdf6e5285f2c9b90dfab93e3"), looks := true }, kinds := [], alts := [], laidByText := true, laidKinds := [.data, .data, .data, .sentinel, .sentinel], laidTests := true, laidLooks := .later }
def FnIdentifierUptoCardSaid : Prop := Claim7.holds Tryd.pinned (.plain (OpenSpec.upto fnIdentifierSpec)) fnIdentifierUptoCard

/-- THE SECOND FORM's CARD OF 'laws.FnEscaped'. -/
def fnEscapedUptoCard : Claim7 := { stood := { row := fnEscapedUptoRow, standIns := [], harness := (true, "be068169230591ba85aabd9b3f52810eaea76723cdf6e5285f2c9b90dfab93e3"), looks := true }, kinds := [], alts := [], laidByText := true, laidKinds := [.data, .data, .data, .sentinel, .sentinel], laidTests := true, laidLooks := .later }
def FnEscapedUptoCardSaid : Prop := Claim7.holds Tryd.pinned (.plain (OpenSpec.upto fnEscapedSpec)) fnEscapedUptoCard

/-- THE SECOND FORM's CARD OF 'laws.FnNthWords'. -/
def fnNthWordsUptoCard : Claim7 := { stood := { row := fnNthWordsUptoRow, standIns := [], harness := (true, "be068169230591ba85aabd9b3f52810eaea76723cdf6e5285f2c9b90dfab93e3"), looks := true }, kinds := [], alts := [], laidByText := true, laidKinds := [.data, .data, .data, .sentinel, .sentinel], laidTests := true, laidLooks := .later }
def FnNthWordsUptoCardSaid : Prop := Claim7.holds Tryd.pinned (.plain (OpenSpec.upto fnNthWordsSpec)) fnNthWordsUptoCard

/-- THE SECOND FORM's CARD OF 'laws.FnParseNth'. -/
def fnParseNthUptoCard : Claim7 := { stood := { row := fnParseNthUptoRow, standIns := [], harness := (true, "be068169230591ba85aabd9b3f52810eaea76723cdf6e5285f2c9b90dfab93e3"), looks := true }, kinds := [], alts := [], laidByText := true, laidKinds := [.data, .data, .data, .sentinel, .sentinel], laidTests := true, laidLooks := .later }
def FnParseNthUptoCardSaid : Prop := Claim7.holds Tryd.pinned (.plain (OpenSpec.upto fnParseNthSpec)) fnParseNthUptoCard
end Rows
end Go.Proofs.YtoindammaphefaaDoor
