/-
  No cell of these rows narrows 'for every input' (looked for: loops, veiled, ifaces, maps, wideKeys, modest, calm, conditions, laid).
  DERIVED. THE GIVEN ROWS OF THIS SEAT. 3 by the template 'for every input the law returns true; each argument reads behind the call as it read before'; 0 by the template 'total and deterministic' (their statements: Qxb6621686aTotals.lean).
  GIVEN WITH THE SEED: the statements are not yours to turn. If you find one false, say at which input.
  Laid BY PROGRAM, IN A SANDBOX (cutbox-rows.mjs): the forced cells as the released guide's own fill.sh prints them over the translation 095fa3ae8de195c1… (all of the seat's roots in one cut). By AI agents, Wed Nov 11 2026. No macro, syntax, notation, axiom, sorry.
-/
import Derived.Test.Qxb6621686aChecked
import GoSem.Claim
import GoSem.ClaimJoined
import GoSem.ClaimMapViews
import Derived.JoinedTies
import Derived.KernelRfl
namespace Go.Proofs.Qxb6621686a
/- THE CELL 'sum', in the pinned program and in every row, IS THE sha256 OF THE DUMP (.gsa) THAT Qxb6621686aProg.lean LOADS. Nothing in Lean hashes anything: it is a label: what it is worth is what the hold of that sum in a sandbox is worth. -/
noncomputable def Try.pinned : Pinned := { name := "qxb6621686a", sum := "095fa3ae8de195c1791393b38894c51df613f9deef0c1b432e3939192f6abc48", checked := Try.checked }
namespace Rows
def none {H : Type} : Left H := { results := [], args := [] }

/-- 'zzlaws_tracker_b1.FnEscapeIsCanonicalPercentEncoding': WHATEVER THE INPUT: true; the input reads as it did. -/
def fnEscapeIsCanonicalPercentEncodingSpec : ChangeSpec := { name := "fnEscapeIsCanonicalPercentEncoding", fn := fun _ => fun
  | [d] => { results := [.lit (.bool true)], args := [d] }
  | _ => none }
def fnEscapeIsCanonicalPercentEncodingRow : OpenClaim := { program := "qxb6621686a", sum := "095fa3ae8de195c1791393b38894c51df613f9deef0c1b432e3939192f6abc48", func := "example.com/playhead/playhead/zzlaws_tracker_b1.FnEscapeIsCanonicalPercentEncoding", spec := "fnEscapeIsCanonicalPercentEncoding", inPlace := ["internal/abi.NoEscape"], apart := false }
def FnEscapeIsCanonicalPercentEncodingSaid : Prop := fnEscapeIsCanonicalPercentEncodingRow.holds Try.pinned (OpenSpec.ofChange fnEscapeIsCanonicalPercentEncodingSpec)

/-- ITS FALSE NEIGHBOUR: 'it returns false'. Refute it at one input. -/
def fnEscapeIsCanonicalPercentEncodingWrong : ChangeSpec := { name := "fnEscapeIsCanonicalPercentEncoding", fn := fun _ => fun
  | [d] => { results := [.lit (.bool false)], args := [d] }
  | _ => none }
def FnEscapeIsCanonicalPercentEncodingWrongFalsely : Prop := fnEscapeIsCanonicalPercentEncodingRow.holds Try.pinned (OpenSpec.ofChange fnEscapeIsCanonicalPercentEncodingWrong)

/-- 'zzlaws_tracker_b1.FnEscapeSplitsAtAnyCut': WHATEVER THE INPUT: true; the input reads as it did. -/
def fnEscapeSplitsAtAnyCutSpec : ChangeSpec := { name := "fnEscapeSplitsAtAnyCut", fn := fun _ => fun
  | [d1, d2] => { results := [.lit (.bool true)], args := [d1, d2] }
  | _ => none }
def fnEscapeSplitsAtAnyCutRow : OpenClaim := { program := "qxb6621686a", sum := "095fa3ae8de195c1791393b38894c51df613f9deef0c1b432e3939192f6abc48", func := "example.com/playhead/playhead/zzlaws_tracker_b1.FnEscapeSplitsAtAnyCut", spec := "fnEscapeSplitsAtAnyCut", inPlace := ["internal/abi.NoEscape"], apart := false }
def FnEscapeSplitsAtAnyCutSaid : Prop := fnEscapeSplitsAtAnyCutRow.holds Try.pinned (OpenSpec.ofChange fnEscapeSplitsAtAnyCutSpec)

/-- ITS FALSE NEIGHBOUR: 'it returns false'. Refute it at one input. -/
def fnEscapeSplitsAtAnyCutWrong : ChangeSpec := { name := "fnEscapeSplitsAtAnyCut", fn := fun _ => fun
  | [d1, d2] => { results := [.lit (.bool false)], args := [d1, d2] }
  | _ => none }
def FnEscapeSplitsAtAnyCutWrongFalsely : Prop := fnEscapeSplitsAtAnyCutRow.holds Try.pinned (OpenSpec.ofChange fnEscapeSplitsAtAnyCutWrong)

/-- 'zzlaws_tracker_b1.FnEscapeTwiceOnlyEscapesThePercent': WHATEVER THE INPUT: true; the input reads as it did. -/
def fnEscapeTwiceOnlyEscapesThePercentSpec : ChangeSpec := { name := "fnEscapeTwiceOnlyEscapesThePercent", fn := fun _ => fun
  | [d] => { results := [.lit (.bool true)], args := [d] }
  | _ => none }
def fnEscapeTwiceOnlyEscapesThePercentRow : OpenClaim := { program := "qxb6621686a", sum := "095fa3ae8de195c1791393b38894c51df613f9deef0c1b432e3939192f6abc48", func := "example.com/playhead/playhead/zzlaws_tracker_b1.FnEscapeTwiceOnlyEscapesThePercent", spec := "fnEscapeTwiceOnlyEscapesThePercent", inPlace := ["internal/abi.NoEscape"], apart := false }
def FnEscapeTwiceOnlyEscapesThePercentSaid : Prop := fnEscapeTwiceOnlyEscapesThePercentRow.holds Try.pinned (OpenSpec.ofChange fnEscapeTwiceOnlyEscapesThePercentSpec)

/-- ITS FALSE NEIGHBOUR: 'it returns false'. Refute it at one input. -/
def fnEscapeTwiceOnlyEscapesThePercentWrong : ChangeSpec := { name := "fnEscapeTwiceOnlyEscapesThePercent", fn := fun _ => fun
  | [d] => { results := [.lit (.bool false)], args := [d] }
  | _ => none }
def FnEscapeTwiceOnlyEscapesThePercentWrongFalsely : Prop := fnEscapeTwiceOnlyEscapesThePercentRow.holds Try.pinned (OpenSpec.ofChange fnEscapeTwiceOnlyEscapesThePercentWrong)

end Rows
end Go.Proofs.Qxb6621686a
