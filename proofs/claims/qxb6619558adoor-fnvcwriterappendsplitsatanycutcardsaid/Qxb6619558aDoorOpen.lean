/-
  SLICES THAT CAME IN: what the walk is told of them.
-/
import Derived.Test.Qxb6619558aDoorLaw
import Derived.Deep.Slices
import Derived.Deep.SlicePairs
import Derived.ProofKit
import Derived.OpenShut
namespace Go.Proofs.Qxb6619558aDoor
open Go.ChangeShapes Go.WideShapes Go.ChangeAt Go.RowKit Go.Deep

theorem row_of {w : World} {a : Addr} {cs : List Value} (h : ∀ i, i < cs.length → w.cell? (a.add i) = cs[i]?) : RowAt w (some a) cs := by
  intro i hi
  obtain ⟨b, off, spot⟩ := a
  have h0 := h 0 (by omega)
  have hs : (w.cell? ((⟨b, off, spot⟩ : Addr).add 0)).isSome = true := by rw [h0, List.getElem?_eq_getElem (by omega)]; rfl
  obtain ⟨v, hv⟩ := Option.isSome_iff_exists.1 hs
  have hspot : spot = none := by
    have := World.cell?_spot hv
    simpa [Addr.add] using this
  subst hspot
  have hi' := h i hi
  rw [add_plain] at hi'
  have hlt : b < w.heap.size := by
    have e : w.cell? ⟨b, off + i, none⟩ = some cs[i] := by rw [hi', List.getElem?_eq_getElem hi]
    exact World.block_lt_of_cell? w _ e
  exact ⟨b, off, rfl, hlt, hi'⟩

theorem open_intsT {H : Type} {enc : TypeId × Value → H} {w : World} {base : Nat} {spare : Nat → Bool} {held : Bool} {fuel : Nat} {a0 : Option Addr} {len cap : Nat} {x : DataW H × List MemPlace}
    (h : DataW.trod enc Tryd.prog w base spare held fuel 23 [.slice a0 len cap] = some x) : ∃ L : List Int, L.length = len ∧ IntsAt w a0 L ∧ (a0 = none → L.length = 0) := by
  rcases open_ints Tryd.underlying23 Tryd.underlying3 (by kernel_rfl) h with ⟨hcs, _⟩ | ⟨y, l, c, zs, hcs, _, hl, hm, hz, _, hcell, hwz⟩
  · cases hcs
    exact ⟨[], rfl, fun i hi => absurd hi (by simp [icells]), fun _ => rfl⟩
  · cases hcs
    have hlz : len ≤ zs.length := by rw [hz]; split <;> omega
    refine ⟨zs.take len, by rw [List.length_take]; omega, row_of fun i hi => ?_, fun e => by cases e⟩
    rw [icells_len, List.length_take] at hi
    rw [icells_at _ _ (by rw [List.length_take]; omega), hcell i (by omega)]
    simp [List.getD_eq_getElem?_getD, show i < len by omega]

theorem open_bytesT {H : Type} {enc : TypeId × Value → H} {w : World} {base : Nat} {spare : Nat → Bool} {held : Bool} {fuel : Nat} {a0 : Option Addr} {len cap : Nat} {x : DataW H × List MemPlace}
    (h : DataW.trod enc Tryd.prog w base spare held fuel 22 [.slice a0 len cap] = some x) : ∃ L : List UInt8, L.length = len ∧ BytesAt w a0 L ∧ (a0 = none → L.length = 0) := by
  rcases open_ints Tryd.underlying22 Tryd.underlying5 (by kernel_rfl) h with ⟨hcs, _⟩ | ⟨y, l, c, zs, hcs, _, hl, hm, hz, _, hcell, hwz⟩
  · cases hcs
    exact ⟨[], rfl, fun i hi => absurd hi (by simp [bcells, Lib.byteCells]), fun _ => rfl⟩
  · cases hcs
    have hlz : len ≤ zs.length := by rw [hz]; split <;> omega
    refine ⟨(zs.take len).map fun z => UInt8.ofNat z.toNat, by rw [List.length_map, List.length_take]; omega, row_of fun i hi => ?_, fun e => by cases e⟩
    rw [bcells_len, List.length_map, List.length_take] at hi
    rw [bcells_at _ _ (by rw [List.length_map, List.length_take]; omega), hcell i (by omega)]
    have hb := bounds_u8 (hwz zs[i] (List.getElem_mem (by omega)))
    have e1 : zs.getD i 0 = zs[i] := by simp [List.getD_eq_getElem?_getD, List.getElem?_eq_getElem (show i < zs.length by omega)]
    have e2 : ((zs.take len).map fun z => UInt8.ofNat z.toNat).getD i 0 = UInt8.ofNat zs[i].toNat := by
      simp [List.getD_eq_getElem?_getD, show i < len by omega, List.getElem?_eq_getElem (show i < zs.length by omega)]
    rw [e1, e2, UInt8.toNat_ofNat_of_lt' (by simp; omega)]
    congr 2
    omega

theorem open_counts {H : Type} {enc : TypeId × Value → H} {w : World} {base : Nat} {spare : Nat → Bool} {held : Bool} {fuel : Nat} {a0 : Option Addr} {len cap : Nat} {x : DataW H × List MemPlace}
    (h : DataW.trod enc Tryd.prog w base spare held fuel 24 [.slice a0 len cap] = some x) : ∃ L : List Vc.Cnt, L.length = len ∧ PairsAt w a0 L ∧ (a0 = none → L.length = 0) ∧ Wf L := by
  rcases open_slice Tryd.underlying24 h with ⟨h0, _⟩ | ⟨a, len', cap', m, n, D, Pl, hcs, _, hl, _, hmm, _, hx⟩
  · cases h0
    exact ⟨[], rfl, fun i hi => absurd hi (by simp), fun _ => rfl, fun c hc => by cases hc⟩
  · cases hcs
    have hlm : len ≤ m := by rw [hmm]; split <;> omega
    have each : ∀ i, i < len → ∃ q : Vc.Cnt, w.cell? (a.add (i * 2)) = some (.int .i64 q.1) ∧ w.cell? (a.add (i * 2 + 1)) = some (.int .i64 q.2) ∧ (-9223372036854775808 ≤ q.2 ∧ q.2 ≤ 9223372036854775807) := by
      intro i hi
      obtain ⟨cs', h1, h2⟩ := hx i (by omega)
      have c38 : Tryd.prog.cellsOf 38 = 2 := by kernel_rfl
      rw [c38] at h1
      obtain ⟨_, hlen, hcell⟩ := World.cells?_some h1
      obtain ⟨xs, k, hk, hxy, _, hxl, hf⟩ := DataW.trod_struct Tryd.underlying38 h2
      match xs, hxl, cs', hlen with
      | [y0, y1], _, [v0, v1], _ =>
        have g0 := hf 0 _ rfl
        have g1 := hf 1 _ rfl
        have c2 : Tryd.prog.cellsOf 2 = 1 := by kernel_rfl
        have c3 : Tryd.prog.cellsOf 3 = 1 := by kernel_rfl
        simp [c2, c3] at g0 g1
        obtain ⟨z0, e0, _, _⟩ := DataW.trod_int Tryd.underlying3 g0
        obtain ⟨z1, e1, _, wf1⟩ := DataW.trod_int Tryd.underlying2 g1
        have f0 := hcell 0 (by omega)
        have f1 := hcell 1 (by omega)
        rw [add_add] at f0 f1
        simp at e0 e1
        subst e0 e1
        exact ⟨(z0, z1), by simpa using f0, by simpa using f1, bounds_i64 wf1⟩
    obtain ⟨q, hq⟩ := choose_lt each
    refine ⟨(List.range len).map q, by simp, ?_, (fun e => by cases e), ?_⟩
    · intro i hi
      simp at hi
      obtain ⟨h0, h1, _⟩ := hq i hi
      obtain ⟨b, off, spot⟩ := a
      have hspot : spot = none := by
        have := World.cell?_spot (hq 0 (by omega)).1
        simpa [Addr.add] using this
      subst hspot
      rw [add_plain] at h0 h1
      have e : at' ((List.range len).map q) i = q i := by rw [at_eq _ _ (by simpa using hi)]; simp
      rw [e]
      exact ⟨b, off, rfl, World.block_lt_of_cell? w _ h0, h0, by rw [Nat.add_assoc]; exact h1⟩
    · intro c hc
      simp at hc
      obtain ⟨i, hi, rfl⟩ := hc
      exact (hq i hi).2.2
end Go.Proofs.Qxb6619558aDoor
