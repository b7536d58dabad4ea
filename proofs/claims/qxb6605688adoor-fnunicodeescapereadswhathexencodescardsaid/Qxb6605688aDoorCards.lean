/-
  DERIVED. GIVEN WITH THE SEED: THE CARDS: each row of Qxb6605688aDoorRows.lean that lists a variable, with what it lists TIED to the program's text (the seventh form; the later family's looks); each row that meets fmt, with fmt's text TOLD by the authors' own Lean function (tested against real Go, not proved from fmt's source: count such statements apart). THE CARD IS WHAT COUNTS. Prove the row's statement (the work); the ties are given (Qxb6605688aDoorTie.lean); close each card by the builder's one call (the guide's Derived/Test/ToyasCard.lean, 'card_holds'). Laid BY PROGRAM, IN A SANDBOX (cutbox-door.mjs). By AI agents, Wed Nov 11 2026. No macro, syntax, notation, axiom, sorry.
-/
import Derived.Test.Qxb6605688aDoorRows
import GoSem.ClaimSeven
namespace Go.Proofs.Qxb6605688aDoor
namespace Rows

/-- THE TIED CARD OF 'zzlaws_internal_jsonutf8_b1.FnUnicodeEscapeMatchesHexModel'. -/
def fnUnicodeEscapeMatchesHexModelCard : Claim7 := { stood := { row := fnUnicodeEscapeMatchesHexModelRow, standIns := [], harness := (true, "b742c33151333fab8dc32166d3adb611b9398aa53b3d202c5d827c966eb382ac"), looks := true }, kinds := [], alts := [], laidByText := true, laidKinds := [.data, .data, .data, .sentinel, .sentinel], laidTests := true, laidLooks := .later }
def FnUnicodeEscapeMatchesHexModelCardSaid : Prop := Claim7.holds Tryd.pinned (.plain (OpenSpec.ofChange fnUnicodeEscapeMatchesHexModelSpec)) fnUnicodeEscapeMatchesHexModelCard

/-- THE TIED CARD OF 'zzlaws_internal_jsonutf8_b1.FnUnicodeEscapeReadsWhatHexEncodes'. -/
def fnUnicodeEscapeReadsWhatHexEncodesCard : Claim7 := { stood := { row := fnUnicodeEscapeReadsWhatHexEncodesRow, standIns := [], harness := (true, "b742c33151333fab8dc32166d3adb611b9398aa53b3d202c5d827c966eb382ac"), looks := true }, kinds := [], alts := [], laidByText := true, laidKinds := [.data, .data, .data, .sentinel, .sentinel], laidTests := true, laidLooks := .later }
def FnUnicodeEscapeReadsWhatHexEncodesCardSaid : Prop := Claim7.holds Tryd.pinned (.plain (OpenSpec.ofChange fnUnicodeEscapeReadsWhatHexEncodesSpec)) fnUnicodeEscapeReadsWhatHexEncodesCard

/-- THE TIED CARD OF 'zzlaws_internal_jsonutf8_b1.FnHasLoneSurrogateMatchesPairingModel'. -/
def fnHasLoneSurrogateMatchesPairingModelCard : Claim7 := { stood := { row := fnHasLoneSurrogateMatchesPairingModelRow, standIns := [], harness := (true, "b742c33151333fab8dc32166d3adb611b9398aa53b3d202c5d827c966eb382ac"), looks := true }, kinds := [], alts := [], laidByText := true, laidKinds := [.data, .data, .data, .sentinel, .sentinel], laidTests := true, laidLooks := .later }
def FnHasLoneSurrogateMatchesPairingModelCardSaid : Prop := Claim7.holds Tryd.pinned (.plain (OpenSpec.ofChange fnHasLoneSurrogateMatchesPairingModelSpec)) fnHasLoneSurrogateMatchesPairingModelCard

/-- THE TIED CARD OF 'zzlaws_internal_jsonutf8_b1.FnHasLoneSurrogateOnEscapedCodePoint'. -/
def fnHasLoneSurrogateOnEscapedCodePointCard : Claim7 := { stood := { row := fnHasLoneSurrogateOnEscapedCodePointRow, standIns := [], harness := (true, "b742c33151333fab8dc32166d3adb611b9398aa53b3d202c5d827c966eb382ac"), looks := true }, kinds := [], alts := [], laidByText := true, laidKinds := [.data, .data, .data, .sentinel, .sentinel], laidTests := true, laidLooks := .later }
def FnHasLoneSurrogateOnEscapedCodePointCardSaid : Prop := Claim7.holds Tryd.pinned (.plain (OpenSpec.ofChange fnHasLoneSurrogateOnEscapedCodePointSpec)) fnHasLoneSurrogateOnEscapedCodePointCard
end Rows
end Go.Proofs.Qxb6605688aDoor
