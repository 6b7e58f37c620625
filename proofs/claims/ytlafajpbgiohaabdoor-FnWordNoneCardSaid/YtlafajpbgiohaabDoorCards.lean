/-
  DERIVED. GIVEN WITH THE SEED: THE CARDS: each row of YtlafajpbgiohaabDoorRows.lean that lists a variable, with what it lists TIED to the program's text (the seventh form; the later family's looks); each row that meets fmt, with fmt's text TOLD by the authors' own Lean function (tested against real Go, not proved from fmt's source: count such statements apart). THE CARD IS WHAT COUNTS. Prove the row's statement (the work); the ties are given (YtlafajpbgiohaabDoorTie.lean); close each card by the builder's one call (the guide's Derived/Test/ToyasCard.lean, 'card_holds'). Laid BY PROGRAM, IN A SANDBOX (cutbox-door.mjs). By AI agents, Wed Nov 11 2026. No macro, syntax, notation, axiom, sorry.
-/
import Derived.Test.YtlafajpbgiohaabDoorRows
import GoSem.ClaimSeven
namespace Go.Proofs.YtlafajpbgiohaabDoor
namespace Rows

/-- THE TIED CARD OF 'laws.FnWordNone'. -/
def fnWordNoneCard : Claim7 := { stood := { row := fnWordNoneRow, standIns := [], harness := (true, "5f1148051d16e76f2af454c1eb7a609c15e6f016ced6eb1361b15abb50cd8cbd"), looks := false }, kinds := [], alts := [], laidByText := true, laidKinds := [.data], laidTests := true, laidLooks := .later }
def FnWordNoneCardSaid : Prop := Claim7.holds Tryd.pinned (.plain (OpenSpec.ofChange fnWordNoneSpec)) fnWordNoneCard

/-- THE SECOND FORM's CARD OF 'laws.FnWordNone'. -/
def fnWordNoneUptoCard : Claim7 := { stood := { row := fnWordNoneUptoRow, standIns := [], harness := (true, "5f1148051d16e76f2af454c1eb7a609c15e6f016ced6eb1361b15abb50cd8cbd"), looks := false }, kinds := [], alts := [], laidByText := true, laidKinds := [.data], laidTests := true, laidLooks := .later }
def FnWordNoneUptoCardSaid : Prop := Claim7.holds Tryd.pinned (.plain (OpenSpec.upto fnWordNoneSpec)) fnWordNoneUptoCard
end Rows
end Go.Proofs.YtlafajpbgiohaabDoor
