/-
  DERIVED. GIVEN WITH THE SEED: THE CARDS: each row of Qxb6619558aDoorRows.lean that lists a variable, with what it lists TIED to the program's text (the seventh form; the later family's looks); each row that meets fmt, with fmt's text TOLD by the authors' own Lean function (tested against real Go, not proved from fmt's source: count such statements apart). THE CARD IS WHAT COUNTS. Prove the row's statement (the work); the ties are given (Qxb6619558aDoorTie.lean); close each card by the builder's one call (the guide's Derived/Test/ToyasCard.lean, 'card_holds'). Laid BY PROGRAM, IN A SANDBOX (cutbox-door.mjs). By AI agents, Wed Nov 11 2026. No macro, syntax, notation, axiom, sorry.
-/
import Derived.Test.Qxb6619558aDoorRows
import GoSem.ClaimSeven
namespace Go.Proofs.Qxb6619558aDoor
namespace Rows

/-- THE TIED CARD OF 'zzlaws_root_b1.FnVCWriterAppendSplitsAtAnyCut'. -/
def fnVCWriterAppendSplitsAtAnyCutCard : Claim7 := { stood := { row := fnVCWriterAppendSplitsAtAnyCutRow, standIns := [], harness := (true, "272c78889741bdbea03346216faea9961b88e204e2ce9ee9c0ff7af9ced247d1"), looks := false }, kinds := [], alts := [], laidByText := true, laidKinds := [.data, .data, .data], laidTests := true, laidLooks := .later }
def FnVCWriterAppendSplitsAtAnyCutCardSaid : Prop := Claim7.holds Tryd.pinned (.plain (OpenSpec.ofChange fnVCWriterAppendSplitsAtAnyCutSpec)) fnVCWriterAppendSplitsAtAnyCutCard
end Rows
end Go.Proofs.Qxb6619558aDoor
