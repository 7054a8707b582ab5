/-
  DERIVED. GIVEN WITH THE SEED: THE CARDS: each row of YtkidgehblodbcaaGreatDoorRows.lean that lists a variable, with what it lists TIED to the program's text (the seventh form; the later family's looks); each row that meets fmt, with fmt's text TOLD by the authors' own Lean function (tested against real Go, not proved from fmt's source: count such statements apart). THE CARD IS WHAT COUNTS. Prove the row's statement (the work); the ties are given (YtkidgehblodbcaaGreatDoorTie.lean); close each card by the builder's one call (the guide's Derived/Test/ToyasCard.lean, 'card_holds'). Laid BY PROGRAM, IN A SANDBOX (cutbox-door.mjs). By AI agents, Wed Nov 11 2026. No macro, syntax, notation, axiom, sorry.
-/
import Derived.Test.YtkidgehblodbcaaGreatDoorRows
import GoSem.ClaimSeven
namespace Go.Proofs.YtkidgehblodbcaaGreatDoor
namespace Rows

/-- THE TIED CARD OF 'laws.FnTextFirst'. -/
def fnTextFirstCard : Claim7 := { stood := { row := fnTextFirstRow, standIns := [], harness := (true, "aec5c209156b59f3f83c7578c75a7ded575467e281e896b4af0ff350840bfd89"), looks := true }, kinds := [], alts := [], laidByText := true, laidKinds := [.data, .data, .data, .data, .sentinel, .sentinel, .listed, .data, .data, .data, .data, .data, .data, .data, .data, .pinned, .pinned], laidTests := true, laidLooks := .later }
def FnTextFirstCardSaid : Prop := Claim7.holds Tryz.pinned (.plain (OpenSpec.ofChange fnTextFirstSpec)) fnTextFirstCard

/-- THE SECOND FORM's CARD OF 'laws.FnTextFirst'. -/
def fnTextFirstUptoCard : Claim7 := { stood := { row := fnTextFirstUptoRow, standIns := [], harness := (true, "aec5c209156b59f3f83c7578c75a7ded575467e281e896b4af0ff350840bfd89"), looks := true }, kinds := [], alts := [], laidByText := true, laidKinds := [.data, .data, .data, .data, .sentinel, .sentinel, .listed, .data, .data, .data, .data, .data, .data, .data, .data, .pinned, .pinned], laidTests := true, laidLooks := .later }
def FnTextFirstUptoCardSaid : Prop := Claim7.holds Tryz.pinned (.plain (OpenSpec.upto fnTextFirstSpec)) fnTextFirstUptoCard
end Rows
end Go.Proofs.YtkidgehblodbcaaGreatDoor
