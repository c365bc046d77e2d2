/-
  DERIVED. GIVEN WITH THE SEED: THE CARDS: each row of YtfemnjgcodcfkaaGreatDoorRows.lean that lists a variable, with what it lists TIED to the program's text (the seventh form; the later family's looks); each row that meets fmt, with fmt's text TOLD by the authors' own Lean function (tested against real Go, not proved from fmt's source: count such statements apart). THE CARD IS WHAT COUNTS. Prove the row's statement (the work); the ties are given (YtfemnjgcodcfkaaGreatDoorTie.lean); close each card by the builder's one call (the guide's Derived/Test/ToyasCard.lean, 'card_holds'). Laid BY PROGRAM, IN A SANDBOX (cutbox-door.mjs). By AI agents, Wed Nov 11 2026. No macro, syntax, notation, axiom, sorry.
-/
import Derived.Test.YtfemnjgcodcfkaaGreatDoorRows
import GoSem.ClaimSeven
namespace Go.Proofs.YtfemnjgcodcfkaaGreatDoor
namespace Rows

/-- THE TIED CARD OF 'laws.FnJSFloats'. -/
def fnJSFloatsCard : Claim7 := { stood := { row := fnJSFloatsRow, standIns := [], harness := (true, "8c0f57bb06e45913d3a3854b8fb49b93145219cc497c0b59b1177a9273cb5594"), looks := true }, kinds := [], alts := [], laidByText := true, laidKinds := [.data, .data, .widerDeep, .widerDeep, .data, .data, .data, .data, .data, .sentinel, .sentinel, .pinned, .pinned], laidTests := true, laidLooks := .later }
def FnJSFloatsCardSaid : Prop := Claim7.holds Tryz.pinned (.plain (OpenSpec.ofChange fnJSFloatsSpec)) fnJSFloatsCard

/-- THE SECOND FORM's CARD OF 'laws.FnJSFloats'. -/
def fnJSFloatsUptoCard : Claim7 := { stood := { row := fnJSFloatsUptoRow, standIns := [], harness := (true, "8c0f57bb06e45913d3a3854b8fb49b93145219cc497c0b59b1177a9273cb5594"), looks := true }, kinds := [], alts := [], laidByText := true, laidKinds := [.data, .data, .widerDeep, .widerDeep, .data, .data, .data, .data, .data, .sentinel, .sentinel, .pinned, .pinned], laidTests := true, laidLooks := .later }
def FnJSFloatsUptoCardSaid : Prop := Claim7.holds Tryz.pinned (.plain (OpenSpec.upto fnJSFloatsSpec)) fnJSFloatsUptoCard
end Rows
end Go.Proofs.YtfemnjgcodcfkaaGreatDoor
