import Derived.Test.Qxb6619558aRows
import Derived.Test.Qxb6619558aMem
import Derived.Deep.Slices
import Derived.Deep.SlicePairs
import Derived.ProofKit
import Derived.OpenShut
namespace Go.Proofs.Qxb6619558a
open Go.ChangeShapes Go.WideShapes Go.ChangeAt Go.RowKit Go.Deep

theorem cells32 : Try.prog.cellsOf 32 = 3 := by kernel_rfl

/-- a slice of nodes that came in: what a walk is told of it -/
theorem open_nodes {H : Type} {enc : TypeId × Value → H} {w : World} {base : Nat} {spare : Nat → Bool} {held : Bool} {fuel : Nat} {a0 : Option Addr} {len cap : Nat} {x : DataW H × List MemPlace}
    (h : DataW.trod enc Try.prog w base spare held fuel 22 [.slice a0 len cap] = some x) : ∃ L : List Hp.Node, L.length = len ∧ NodesAt w a0 L ∧ (a0 = none → L.length = 0) := by
  rcases open_slice Try.underlying22 h with ⟨h0, _⟩ | ⟨a, len', cap', m, n, D, Pl, hcs, _, hl, _, hmm, _, hx⟩
  · cases h0
    exact ⟨[], rfl, fun i hi => absurd hi (by simp), fun _ => rfl⟩
  · cases hcs
    have hlm : len ≤ m := by rw [hmm]; split <;> omega
    have each : ∀ i, i < len → ∃ q : Hp.Node, w.cell? (a.add (i * 3)) = some (.int .i64 q.1) ∧ w.cell? (a.add (i * 3 + 1)) = some (.int .u64 q.2.1) ∧ w.cell? (a.add (i * 3 + 2)) = some (.int .i64 q.2.2) := by
      intro i hi
      obtain ⟨cs', h1, h2⟩ := hx i (by omega)
      rw [cells32] at h1
      obtain ⟨_, hlen, hcell⟩ := World.cells?_some h1
      obtain ⟨xs, k, hk, hxy, _, hxl, hf⟩ := DataW.trod_struct Try.underlying32 h2
      match xs, hxl, cs', hlen with
      | [y0, y1, y2], _, [v0, v1, v2], _ =>
        have g0 := hf 0 _ rfl
        have g1 := hf 1 _ rfl
        have g2 := hf 2 _ rfl
        have c2 : Try.prog.cellsOf 2 = 1 := by kernel_rfl
        have c30 : Try.prog.cellsOf 30 = 1 := by kernel_rfl
        have c3 : Try.prog.cellsOf 3 = 1 := by kernel_rfl
        simp [c2, c30, c3] at g0 g1 g2
        obtain ⟨z0, e0, _, _⟩ := DataW.trod_int Try.underlying2 g0
        obtain ⟨z1, e1, _, _⟩ := DataW.trod_int Try.underlying30 g1
        obtain ⟨z2, e2, _, _⟩ := DataW.trod_int Try.underlying3 g2
        have f0 := hcell 0 (by omega)
        have f1 := hcell 1 (by omega)
        have f2 := hcell 2 (by omega)
        rw [add_add] at f0 f1 f2
        simp at e0 e1 e2
        subst e0 e1 e2
        exact ⟨(z0, z1, z2), by simpa using f0, by simpa using f1, by simpa using f2⟩
    obtain ⟨q, hq⟩ := choose_lt each
    refine ⟨(List.range len).map q, by simp, ?_, fun e => by cases e⟩
    intro i hi
    simp at hi
    obtain ⟨h0, h1, h2⟩ := hq i hi
    obtain ⟨b, off, spot⟩ := a
    have hspot : spot = none := by
      have := World.cell?_spot (hq 0 (by omega)).1
      simpa [Addr.add] using this
    subst hspot
    rw [add_plain] at h0 h1 h2
    have e : Hp.at' ((List.range len).map q) i = q i := by rw [Hp.at_eq _ _ (by simpa using hi)]; simp
    rw [e]
    exact ⟨b, off, rfl, World.block_lt_of_cell? w _ h0, h0, by rw [Nat.add_assoc]; exact h1, by rw [Nat.add_assoc]; exact h2⟩

end Go.Proofs.Qxb6619558a
