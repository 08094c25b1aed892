/-
  No cell of these rows narrows 'for every input' (looked for: loops, veiled, ifaces, maps, wideKeys, modest, calm, conditions, laid).
  DERIVED. THE GIVEN ROWS OF THIS SEAT. 3 by the template 'for every input the law returns true; each argument reads behind the call as it read before'; 0 by the template 'total and deterministic' (their statements: Qxb6619558aTotals.lean).
  GIVEN WITH THE SEED: the statements are not yours to turn. If you find one false, say at which input.
  Laid BY PROGRAM, IN A SANDBOX (cutbox-rows.mjs): the forced cells as the released guide's own fill.sh prints them over the translation 105d907d6e146593… (all of the seat's roots in one cut). By AI agents, Wed Nov 11 2026. No macro, syntax, notation, axiom, sorry.
-/
import Derived.Test.Qxb6619558aChecked
import GoSem.Claim
import GoSem.ClaimJoined
import GoSem.ClaimMapViews
import Derived.JoinedTies
import Derived.KernelRfl
namespace Go.Proofs.Qxb6619558a
/- THE CELL 'sum', in the pinned program and in every row, IS THE sha256 OF THE DUMP (.gsa) THAT Qxb6619558aProg.lean LOADS. Nothing in Lean hashes anything: it is a label: what it is worth is what the hold of that sum in a sandbox is worth. -/
noncomputable def Try.pinned : Pinned := { name := "qxb6619558a", sum := "105d907d6e1465932f67f92deed18f635d68a42e4b569bfc66409377d1c8fa5e", checked := Try.checked }
namespace Rows
def none {H : Type} : Left H := { results := [], args := [] }

/-- 'zzlaws_root_b1.FnReadyHeapPopsInSortedOrder': WHATEVER THE INPUT: true; the input reads as it did. -/
def fnReadyHeapPopsInSortedOrderSpec : ChangeSpec := { name := "fnReadyHeapPopsInSortedOrder", fn := fun _ => fun
  | [d] => { results := [.lit (.bool true)], args := [d] }
  | _ => none }
def fnReadyHeapPopsInSortedOrderRow : OpenClaim := { program := "qxb6619558a", sum := "105d907d6e1465932f67f92deed18f635d68a42e4b569bfc66409377d1c8fa5e", func := "example.com/skewline/skewline/zzlaws_root_b1.FnReadyHeapPopsInSortedOrder", spec := "fnReadyHeapPopsInSortedOrder", apart := false }
def FnReadyHeapPopsInSortedOrderSaid : Prop := fnReadyHeapPopsInSortedOrderRow.holds Try.pinned (OpenSpec.ofChange fnReadyHeapPopsInSortedOrderSpec)

/-- ITS FALSE NEIGHBOUR: 'it returns false'. Refute it at one input. -/
def fnReadyHeapPopsInSortedOrderWrong : ChangeSpec := { name := "fnReadyHeapPopsInSortedOrder", fn := fun _ => fun
  | [d] => { results := [.lit (.bool false)], args := [d] }
  | _ => none }
def FnReadyHeapPopsInSortedOrderWrongFalsely : Prop := fnReadyHeapPopsInSortedOrderRow.holds Try.pinned (OpenSpec.ofChange fnReadyHeapPopsInSortedOrderWrong)

/-- 'zzlaws_root_b1.FnMessageTableReleaseRebuilds': WHATEVER THE INPUT: true; the input reads as it did. -/
def fnMessageTableReleaseRebuildsSpec : ChangeSpec := { name := "fnMessageTableReleaseRebuilds", fn := fun _ => fun
  | [d1, d2, d3, d4, d5] => { results := [.lit (.bool true)], args := [d1, d2, d3, d4, d5] }
  | _ => none }
def fnMessageTableReleaseRebuildsRow : OpenClaim := { program := "qxb6619558a", sum := "105d907d6e1465932f67f92deed18f635d68a42e4b569bfc66409377d1c8fa5e", func := "example.com/skewline/skewline/zzlaws_root_b1.FnMessageTableReleaseRebuilds", spec := "fnMessageTableReleaseRebuilds", apart := false }
def FnMessageTableReleaseRebuildsSaid : Prop := fnMessageTableReleaseRebuildsRow.holds Try.pinned (OpenSpec.ofChange fnMessageTableReleaseRebuildsSpec)

/-- ITS FALSE NEIGHBOUR: 'it returns false'. Refute it at one input. -/
def fnMessageTableReleaseRebuildsWrong : ChangeSpec := { name := "fnMessageTableReleaseRebuilds", fn := fun _ => fun
  | [d1, d2, d3, d4, d5] => { results := [.lit (.bool false)], args := [d1, d2, d3, d4, d5] }
  | _ => none }
def FnMessageTableReleaseRebuildsWrongFalsely : Prop := fnMessageTableReleaseRebuildsRow.holds Try.pinned (OpenSpec.ofChange fnMessageTableReleaseRebuildsWrong)

/-- 'zzlaws_root_b1.FnReadyHeapDownMendsRoot': WHATEVER THE INPUT: true; the input reads as it did. -/
def fnReadyHeapDownMendsRootSpec : ChangeSpec := { name := "fnReadyHeapDownMendsRoot", fn := fun _ => fun
  | [d] => { results := [.lit (.bool true)], args := [d] }
  | _ => none }
def fnReadyHeapDownMendsRootRow : OpenClaim := { program := "qxb6619558a", sum := "105d907d6e1465932f67f92deed18f635d68a42e4b569bfc66409377d1c8fa5e", func := "example.com/skewline/skewline/zzlaws_root_b1.FnReadyHeapDownMendsRoot", spec := "fnReadyHeapDownMendsRoot", apart := false }
def FnReadyHeapDownMendsRootSaid : Prop := fnReadyHeapDownMendsRootRow.holds Try.pinned (OpenSpec.ofChange fnReadyHeapDownMendsRootSpec)

/-- ITS FALSE NEIGHBOUR: 'it returns false'. Refute it at one input. -/
def fnReadyHeapDownMendsRootWrong : ChangeSpec := { name := "fnReadyHeapDownMendsRoot", fn := fun _ => fun
  | [d] => { results := [.lit (.bool false)], args := [d] }
  | _ => none }
def FnReadyHeapDownMendsRootWrongFalsely : Prop := fnReadyHeapDownMendsRootRow.holds Try.pinned (OpenSpec.ofChange fnReadyHeapDownMendsRootWrong)

end Rows
end Go.Proofs.Qxb6619558a
