/-
  DERIVED. GIVEN WITH THE SEED: THE CARDS: each row of Qxb6604126aDoorRows.lean that lists a variable, with what it lists TIED to the program's text (the seventh form; the later family's looks); each row that meets fmt, with fmt's text TOLD by the authors' own Lean function (tested against real Go, not proved from fmt's source: count such statements apart). THE CARD IS WHAT COUNTS. Prove the row's statement (the work); the ties are given (Qxb6604126aDoorTie.lean); close each card by the builder's one call (the guide's Derived/Test/ToyasCard.lean, 'card_holds'). Laid BY PROGRAM, IN A SANDBOX (cutbox-door.mjs). By AI agents, Wed Nov 11 2026. No macro, syntax, notation, axiom, sorry.
-/
import Derived.Test.Qxb6604126aDoorRows
import GoSem.ClaimSeven
namespace Go.Proofs.Qxb6604126aDoor
namespace Rows

/-- THE TIED CARD OF 'zzlaws_pkg_jsonutf8_b1.FnUnicodeEscapeMatchesHexModel'. -/
def fnUnicodeEscapeMatchesHexModelCard : Claim7 := { stood := { row := fnUnicodeEscapeMatchesHexModelRow, standIns := [], harness := (true, "dbecda20ccee5c6c43fb61045d9c21af59fd3ba85de64448c368ce4910ff5e32"), looks := true }, kinds := [], alts := [], laidByText := true, laidKinds := [.data, .data, .data, .sentinel, .sentinel], laidTests := true, laidLooks := .later }
def FnUnicodeEscapeMatchesHexModelCardSaid : Prop := Claim7.holds Tryd.pinned (.plain (OpenSpec.ofChange fnUnicodeEscapeMatchesHexModelSpec)) fnUnicodeEscapeMatchesHexModelCard

/-- THE TIED CARD OF 'zzlaws_pkg_jsonutf8_b1.FnUnicodeEscapeInvertsHexEncoding'. -/
def fnUnicodeEscapeInvertsHexEncodingCard : Claim7 := { stood := { row := fnUnicodeEscapeInvertsHexEncodingRow, standIns := [], harness := (true, "dbecda20ccee5c6c43fb61045d9c21af59fd3ba85de64448c368ce4910ff5e32"), looks := true }, kinds := [], alts := [], laidByText := true, laidKinds := [.data, .data, .data, .sentinel, .sentinel], laidTests := true, laidLooks := .later }
def FnUnicodeEscapeInvertsHexEncodingCardSaid : Prop := Claim7.holds Tryd.pinned (.plain (OpenSpec.ofChange fnUnicodeEscapeInvertsHexEncodingSpec)) fnUnicodeEscapeInvertsHexEncodingCard
end Rows
end Go.Proofs.Qxb6604126aDoor
