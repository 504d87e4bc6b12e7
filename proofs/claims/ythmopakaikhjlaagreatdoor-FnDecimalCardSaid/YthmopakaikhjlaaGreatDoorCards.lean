/-
  DERIVED. GIVEN WITH THE SEED: THE CARDS: each row of YthmopakaikhjlaaGreatDoorRows.lean that lists a variable, with what it lists TIED to the program's text (the seventh form; the later family's looks); each row that meets fmt, with fmt's text TOLD by the authors' own Lean function (tested against real Go, not proved from fmt's source: count such statements apart). THE CARD IS WHAT COUNTS. Prove the row's statement (the work); the ties are given (YthmopakaikhjlaaGreatDoorTie.lean); close each card by the builder's one call (the guide's Derived/Test/ToyasCard.lean, 'card_holds'). Laid BY PROGRAM, IN A SANDBOX (cutbox-door.mjs). By AI agents, Wed Nov 11 2026. No macro, syntax, notation, axiom, sorry.
-/
import Derived.Test.YthmopakaikhjlaaGreatDoorRows
import GoSem.ClaimSeven
namespace Go.Proofs.YthmopakaikhjlaaGreatDoor
namespace Rows

/-- THE TIED CARD OF 'laws.FnDecimal'. -/
def fnDecimalCard : Claim7 := { stood := { row := fnDecimalRow, standIns := [], harness := (true, "6c1a6da2f6deea9f46a76741295fdace1f34b21265ebbaf3f45724f9f8ff9c42"), looks := true }, kinds := [], alts := [], laidByText := true, laidKinds := [.sentinel, .sentinel, .sentinel, .data, .data, .data], laidTests := true, laidLooks := .later }
def FnDecimalCardSaid : Prop := Claim7.holds Tryz.pinned (.plain (OpenSpec.ofChange fnDecimalSpec)) fnDecimalCard

/-- THE SECOND FORM's CARD OF 'laws.FnDecimal'. -/
def fnDecimalUptoCard : Claim7 := { stood := { row := fnDecimalUptoRow, standIns := [], harness := (true, "6c1a6da2f6deea9f46a76741295fdace1f34b21265ebbaf3f45724f9f8ff9c42"), looks := true }, kinds := [], alts := [], laidByText := true, laidKinds := [.sentinel, .sentinel, .sentinel, .data, .data, .data], laidTests := true, laidLooks := .later }
def FnDecimalUptoCardSaid : Prop := Claim7.holds Tryz.pinned (.plain (OpenSpec.upto fnDecimalSpec)) fnDecimalUptoCard
end Rows
end Go.Proofs.YthmopakaikhjlaaGreatDoor
