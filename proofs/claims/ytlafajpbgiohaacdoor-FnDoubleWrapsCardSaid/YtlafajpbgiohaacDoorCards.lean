/-
  DERIVED. GIVEN WITH THE SEED: THE CARDS: each row of YtlafajpbgiohaacDoorRows.lean that lists a variable, with what it lists TIED to the program's text (the seventh form; the later family's looks); each row that meets fmt, with fmt's text TOLD by the authors' own Lean function (tested against real Go, not proved from fmt's source: count such statements apart). THE CARD IS WHAT COUNTS. Prove the row's statement (the work); the ties are given (YtlafajpbgiohaacDoorTie.lean); close each card by the builder's one call (the guide's Derived/Test/ToyasCard.lean, 'card_holds'). Laid BY PROGRAM, IN A SANDBOX (cutbox-door.mjs). By AI agents, Wed Nov 11 2026. No macro, syntax, notation, axiom, sorry.
-/
import Derived.Test.YtlafajpbgiohaacDoorRows
import GoSem.ClaimSeven
namespace Go.Proofs.YtlafajpbgiohaacDoor
namespace Rows

/-- THE TIED CARD OF 'laws.FnDoubleWraps'. -/
def fnDoubleWrapsCard : Claim7 := { stood := { row := fnDoubleWrapsRow, standIns := [], harness := (true, "3ee7c5df18cb00841794bac4fed8618da2d33473732e77c0d43baebe44a4cb3d"), looks := false }, kinds := [], alts := [], laidByText := true, laidKinds := [.data], laidTests := true, laidLooks := .later }
def FnDoubleWrapsCardSaid : Prop := Claim7.holds Tryd.pinned (.plain (OpenSpec.ofChange fnDoubleWrapsSpec)) fnDoubleWrapsCard

/-- THE SECOND FORM's CARD OF 'laws.FnDoubleWraps'. -/
def fnDoubleWrapsUptoCard : Claim7 := { stood := { row := fnDoubleWrapsUptoRow, standIns := [], harness := (true, "3ee7c5df18cb00841794bac4fed8618da2d33473732e77c0d43baebe44a4cb3d"), looks := false }, kinds := [], alts := [], laidByText := true, laidKinds := [.data], laidTests := true, laidLooks := .later }
def FnDoubleWrapsUptoCardSaid : Prop := Claim7.holds Tryd.pinned (.plain (OpenSpec.upto fnDoubleWrapsSpec)) fnDoubleWrapsUptoCard
end Rows
end Go.Proofs.YtlafajpbgiohaacDoor
