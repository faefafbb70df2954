/-
  DERIVED. GIVEN WITH THE SEED: THE CARDS: each row of YtcnallabiffemaaGreatDoorRows.lean that lists a variable, with what it lists TIED to the program's text (the seventh form; the later family's looks); each row that meets fmt, with fmt's text TOLD by the authors' own Lean function (tested against real Go, not proved from fmt's source: count such statements apart). THE CARD IS WHAT COUNTS. Prove the row's statement (the work); the ties are given (YtcnallabiffemaaGreatDoorTie.lean); close each card by the builder's one call (the guide's Derived/Test/ToyasCard.lean, 'card_holds'). Laid BY PROGRAM, IN A SANDBOX (cutbox-door.mjs). By AI agents, Wed Nov 11 2026. No macro, syntax, notation, axiom, sorry.
-/
import Derived.Test.YtcnallabiffemaaGreatDoorRows
import GoSem.ClaimSeven
namespace Go.Proofs.YtcnallabiffemaaGreatDoor
namespace Rows

/-- THE TIED CARD OF 'laws.FnReadText'. -/
def fnReadTextCard : Claim7 := { stood := { row := fnReadTextRow, standIns := [], harness := (true, "1ced994f0740f44b5abf72493605ecc4fae73bc0667f3aada84da113eda7603d"), looks := false }, kinds := [], alts := [], laidByText := true, laidKinds := [.data, .data, .data, .data, .pinned], laidTests := true, laidLooks := .later }
def FnReadTextCardSaid : Prop := Claim7.holds Tryz.pinned (.plain (OpenSpec.ofChange fnReadTextSpec)) fnReadTextCard

/-- THE SECOND FORM's CARD OF 'laws.FnReadText'. -/
def fnReadTextUptoCard : Claim7 := { stood := { row := fnReadTextUptoRow, standIns := [], harness := (true, "1ced994f0740f44b5abf72493605ecc4fae73bc0667f3aada84da113eda7603d"), looks := false }, kinds := [], alts := [], laidByText := true, laidKinds := [.data, .data, .data, .data, .pinned], laidTests := true, laidLooks := .later }
def FnReadTextUptoCardSaid : Prop := Claim7.holds Tryz.pinned (.plain (OpenSpec.upto fnReadTextSpec)) fnReadTextUptoCard
end Rows
end Go.Proofs.YtcnallabiffemaaGreatDoor
