/-
  DERIVED. GIVEN WITH THE SEED: THE CARDS: each row of Qxb6621686aDoorRows.lean that lists a variable, with what it lists TIED to the program's text (the seventh form; the later family's looks); each row that meets fmt, with fmt's text TOLD by the authors' own Lean function (tested against real Go, not proved from fmt's source: count such statements apart). THE CARD IS WHAT COUNTS. Prove the row's statement (the work); the ties are given (Qxb6621686aDoorTie.lean); close each card by the builder's one call (the guide's Derived/Test/ToyasCard.lean, 'card_holds'). Laid BY PROGRAM, IN A SANDBOX (cutbox-door.mjs). By AI agents, Wed Nov 11 2026. No macro, syntax, notation, axiom, sorry.
-/
import Derived.Test.Qxb6621686aDoorRows
import GoSem.ClaimSeven
namespace Go.Proofs.Qxb6621686aDoor
namespace Rows

/-- THE TIED CARD OF 'zzlaws_tracker_b1.FnEventStringParsesBack'. -/
def fnEventStringParsesBackCard : Claim7 := { stood := { row := fnEventStringParsesBackRow, standIns := [], harness := (true, "51899a56bbb2654806b70f7b580bdd285cc7a2620c4cb0f8c56810025a2eb48c"), looks := false }, kinds := [], alts := [], laidByText := true, laidKinds := [.data, .data, .data], laidTests := true, laidLooks := .later }
def FnEventStringParsesBackCardSaid : Prop := Claim7.holds Tryd.pinned (.plain (OpenSpec.ofChange fnEventStringParsesBackSpec)) fnEventStringParsesBackCard
end Rows
end Go.Proofs.Qxb6621686aDoor
