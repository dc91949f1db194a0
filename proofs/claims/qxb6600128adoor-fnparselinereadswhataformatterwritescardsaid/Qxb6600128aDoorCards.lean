/-
  DERIVED. GIVEN WITH THE SEED: THE CARDS: each row of Qxb6600128aDoorRows.lean that lists a variable, with what it lists TIED to the program's text (the seventh form; the later family's looks); each row that meets fmt, with fmt's text TOLD by the authors' own Lean function (tested against real Go, not proved from fmt's source: count such statements apart). THE CARD IS WHAT COUNTS. Prove the row's statement (the work); the ties are given (Qxb6600128aDoorTie.lean); close each card by the builder's one call (the guide's Derived/Test/ToyasCard.lean, 'card_holds'). Laid BY PROGRAM, IN A SANDBOX (cutbox-door.mjs). By AI agents, Wed Nov 11 2026. No macro, syntax, notation, axiom, sorry.
-/
import Derived.Test.Qxb6600128aDoorRows
import GoSem.ClaimSeven
namespace Go.Proofs.Qxb6600128aDoor
namespace Rows

/-- THE TIED CARD OF 'zzlaws_pkg_mountinfo_b1.FnParseLineReadsWhatAFormatterWrites'. -/
def fnParseLineReadsWhatAFormatterWritesCard : Claim7 := { stood := { row := fnParseLineReadsWhatAFormatterWritesRow, standIns := [], harness := (true, "357450070ab344ccffa7ec85c11ed91ebe65ea5c9f81be67ab031a75665edec2"), looks := true }, kinds := [], alts := [], laidByText := true, laidKinds := [.data, .data, .data, .sentinel, .sentinel, .listed, .data], laidTests := true, laidLooks := .later }
def FnParseLineReadsWhatAFormatterWritesCardSaid : Prop := Claim7.holds Tryd.pinned (.plain (OpenSpec.ofChange fnParseLineReadsWhatAFormatterWritesSpec)) fnParseLineReadsWhatAFormatterWritesCard

/-- THE TIED CARD OF 'zzlaws_pkg_mountinfo_b1.FnParseLineNumberFieldExact'. -/
def fnParseLineNumberFieldExactCard : Claim7 := { stood := { row := fnParseLineNumberFieldExactRow, standIns := [], harness := (true, "357450070ab344ccffa7ec85c11ed91ebe65ea5c9f81be67ab031a75665edec2"), looks := true }, kinds := [], alts := [], laidByText := true, laidKinds := [.data, .data, .data, .sentinel, .sentinel, .listed, .data], laidTests := true, laidLooks := .later }
def FnParseLineNumberFieldExactCardSaid : Prop := Claim7.holds Tryd.pinned (.plain (OpenSpec.ofChange fnParseLineNumberFieldExactSpec)) fnParseLineNumberFieldExactCard

/-- THE TIED CARD OF 'zzlaws_pkg_mountinfo_b1.FnParseLineRefusesLineWithoutSeparator'. -/
def fnParseLineRefusesLineWithoutSeparatorCard : Claim7 := { stood := { row := fnParseLineRefusesLineWithoutSeparatorRow, standIns := [], harness := (true, "357450070ab344ccffa7ec85c11ed91ebe65ea5c9f81be67ab031a75665edec2"), looks := true }, kinds := [], alts := [], laidByText := true, laidKinds := [.data, .data, .data, .sentinel, .sentinel, .listed, .data], laidTests := true, laidLooks := .later }
def FnParseLineRefusesLineWithoutSeparatorCardSaid : Prop := Claim7.holds Tryd.pinned (.plain (OpenSpec.ofChange fnParseLineRefusesLineWithoutSeparatorSpec)) fnParseLineRefusesLineWithoutSeparatorCard

/-- THE TIED CARD OF 'zzlaws_pkg_mountinfo_b1.FnUnescapeInvertsEscape'. -/
def fnUnescapeInvertsEscapeCard : Claim7 := { stood := { row := fnUnescapeInvertsEscapeRow, standIns := [], harness := (true, "357450070ab344ccffa7ec85c11ed91ebe65ea5c9f81be67ab031a75665edec2"), looks := true }, kinds := [], alts := [], laidByText := true, laidKinds := [.data, .data, .data, .sentinel, .sentinel], laidTests := true, laidLooks := .later }
def FnUnescapeInvertsEscapeCardSaid : Prop := Claim7.holds Tryd.pinned (.plain (OpenSpec.ofChange fnUnescapeInvertsEscapeSpec)) fnUnescapeInvertsEscapeCard

/-- THE TIED CARD OF 'zzlaws_pkg_mountinfo_b1.FnUnescapeShrinksByWholeEscapes'. -/
def fnUnescapeShrinksByWholeEscapesCard : Claim7 := { stood := { row := fnUnescapeShrinksByWholeEscapesRow, standIns := [], harness := (true, "357450070ab344ccffa7ec85c11ed91ebe65ea5c9f81be67ab031a75665edec2"), looks := true }, kinds := [], alts := [], laidByText := true, laidKinds := [.data, .data, .data, .sentinel, .sentinel], laidTests := true, laidLooks := .later }
def FnUnescapeShrinksByWholeEscapesCardSaid : Prop := Claim7.holds Tryd.pinned (.plain (OpenSpec.ofChange fnUnescapeShrinksByWholeEscapesSpec)) fnUnescapeShrinksByWholeEscapesCard
end Rows
end Go.Proofs.Qxb6600128aDoor
