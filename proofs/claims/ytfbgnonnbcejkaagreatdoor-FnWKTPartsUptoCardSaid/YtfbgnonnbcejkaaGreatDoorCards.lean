/-
  DERIVED. GIVEN WITH THE SEED: THE CARDS: each row of YtfbgnonnbcejkaaGreatDoorRows.lean that lists a variable, with what it lists TIED to the program's text (the seventh form; the later family's looks); each row that meets fmt, with fmt's text TOLD by the authors' own Lean function (tested against real Go, not proved from fmt's source: count such statements apart). THE CARD IS WHAT COUNTS. Prove the row's statement (the work); the ties are given (YtfbgnonnbcejkaaGreatDoorTie.lean); close each card by the builder's one call (the guide's Derived/Test/ToyasCard.lean, 'card_holds'). Laid BY PROGRAM, IN A SANDBOX (cutbox-door.mjs). By AI agents, Wed Nov 11 2026. No macro, syntax, notation, axiom, sorry.
-/
import Derived.Test.YtfbgnonnbcejkaaGreatDoorRows
import GoSem.ClaimSeven
namespace Go.Proofs.YtfbgnonnbcejkaaGreatDoor
namespace Rows

/-- THE TIED CARD OF 'laws.FnWKTParts'. -/
def fnWKTPartsCard : Claim7 := { stood := { row := fnWKTPartsRow, standIns := [], harness := (true, "bd1e8cf1b6c8dd2b41685c217d2d4bc08f8a7566fe8cbb9edfc378728925552f"), looks := true }, kinds := [], alts := [], laidByText := true, laidKinds := [.data, .data, .data, .data, .pinned, .pinned], laidTests := true, laidLooks := .later }
def FnWKTPartsCardSaid : Prop := Claim7.holds Tryz.pinned (.plain (OpenSpec.ofChange fnWKTPartsSpec)) fnWKTPartsCard

/-- THE SECOND FORM's CARD OF 'laws.FnWKTParts'. -/
def fnWKTPartsUptoCard : Claim7 := { stood := { row := fnWKTPartsUptoRow, standIns := [], harness := (true, "bd1e8cf1b6c8dd2b41685c217d2d4bc08f8a7566fe8cbb9edfc378728925552f"), looks := true }, kinds := [], alts := [], laidByText := true, laidKinds := [.data, .data, .data, .data, .pinned, .pinned], laidTests := true, laidLooks := .later }
def FnWKTPartsUptoCardSaid : Prop := Claim7.holds Tryz.pinned (.plain (OpenSpec.upto fnWKTPartsSpec)) fnWKTPartsUptoCard
end Rows
end Go.Proofs.YtfbgnonnbcejkaaGreatDoor
