/-
  NODES AND NUMBERS IN MEMORY: rows that the call itself made (known whole), slices that are only read.
-/
import Derived.Test.Qxb6619558aSortPlain
import Derived.Test.Qxb6619558aProg
import Derived.WalkKit
import Derived.BigCall
import Derived.WalkSpells
import Derived.Deep.QuietTactic
import Derived.BigQuiet
import Derived.Lib.Builder
namespace Go.Proofs.Qxb6619558a
open Go.RowKit

/-- a row of the call's own, known whole -/
def Own (w : World) (g : Nat) (T : TypeId) (cs : List Value) : Prop := w.heap[g]? = some (.cells cs.toArray T (0, 0))

theorem Own.lt {w : World} {g : Nat} {T : TypeId} {cs : List Value} (h : Own w g T cs) : g < w.heap.size := (Array.getElem?_eq_some_iff.1 h).1
theorem Own.cell {w : World} {g : Nat} {T : TypeId} {cs : List Value} (h : Own w g T cs) (i : Nat) : w.cell? ⟨g, i, none⟩ = cs[i]? := by
  unfold Own at h; rw [Lib.cell_of_heap h]; simp
theorem Own.frozen {w : World} {g : Nat} {T : TypeId} {cs : List Value} (h : Own w g T cs) (i : Nat) : w.frozen? ⟨g, i, none⟩ = false := Lib.frozen_of_heap h i
theorem Own.set {w : World} {g : Nat} {T : TypeId} {cs : List Value} (h : Own w g T cs) (i : Nat) (v : Value) : Own (w.setCell ⟨g, i, none⟩ v) g T (cs.set i v) := by
  unfold Own at *
  rw [heap_setCell_same w g i cs.toArray T v h]
  simp
theorem Own.other {w : World} {g k : Nat} {T : TypeId} {cs : List Value} (h : Own w g T cs) (hk : g ≠ k) (i : Nat) (v : Value) : Own (w.setCell ⟨k, i, none⟩ v) g T cs := by
  unfold Own at *
  rw [heap_setCell_other w _ g v hk]; exact h
theorem Own.below {w w' : World} {g : Nat} {T : TypeId} {cs : List Value} (h : Own w g T cs) {B : Nat} (hB : g < B) (hb : Below B w w') : Own w' g T cs := by
  unfold Own at *
  rw [hb.block g hB]; exact h
theorem Own.alloc {w : World} {g : Nat} {T : TypeId} {cs : List Value} (h : Own w g T cs) (o : Obj) : Own (w.alloc o) g T cs :=
  h.below h.lt ((Below.refl _ w).alloc (Nat.le_refl _) o)
theorem Own.new (w : World) (T : TypeId) (cs : List Value) : Own (w.alloc (.cells cs.toArray T)) w.heap.size T cs := heap_alloc_new w _

/-- a node's three cells -/
def cells3 (n : Hp.Node) : List Value := [.int .i64 n.1, .int .u64 n.2.1, .int .i64 n.2.2]
def ncells (L : List Hp.Node) : List Value := L.flatMap cells3

theorem ncells_length (L : List Hp.Node) : (ncells L).length = L.length * 3 := by
  induction L with
  | nil => rfl
  | cons a L ih => simp [ncells, cells3] at ih ⊢; omega
theorem ncells_cons (a : Hp.Node) (L : List Hp.Node) : ncells (a :: L) = .int .i64 a.1 :: .int .u64 a.2.1 :: .int .i64 a.2.2 :: ncells L := by simp [ncells, cells3]
theorem ncells_at (L : List Hp.Node) (i : Nat) (h : i < L.length) :
    (ncells L)[i * 3]? = some (.int .i64 (Hp.at' L i).1) ∧ (ncells L)[i * 3 + 1]? = some (.int .u64 (Hp.at' L i).2.1) ∧ (ncells L)[i * 3 + 2]? = some (.int .i64 (Hp.at' L i).2.2) := by
  induction L generalizing i with
  | nil => simp at h
  | cons a L ih =>
    rw [ncells_cons]
    cases i with
    | zero => exact ⟨rfl, rfl, rfl⟩
    | succ i =>
      have := ih i (by simpa using h)
      have e : Hp.at' (a :: L) (i + 1) = Hp.at' L i := rfl
      rw [e, show (i + 1) * 3 = i * 3 + 3 by omega]
      simpa using this
theorem ncells_set (L : List Hp.Node) (i : Nat) (x : Hp.Node) (h : i < L.length) :
    (((ncells L).set (i * 3) (.int .i64 x.1)).set (i * 3 + 1) (.int .u64 x.2.1)).set (i * 3 + 2) (.int .i64 x.2.2) = ncells (L.set i x) := by
  induction L generalizing i with
  | nil => simp at h
  | cons a L ih =>
    cases i with
    | zero => simp [ncells_cons]
    | succ i =>
      rw [ncells_cons, List.set_cons_succ, ncells_cons, ← ih i (by simpa using h), show (i + 1) * 3 = i * 3 + 3 by omega]
      simp
theorem ncells_append (a b : List Hp.Node) : ncells (a ++ b) = ncells a ++ ncells b := List.flatMap_append

/-- a slice of nodes that is read -/
def NodesAt (w : World) (a : Option Addr) (L : List Hp.Node) : Prop :=
  ∀ i, i < L.length → ∃ b off, a = some ⟨b, off, none⟩ ∧ b < w.heap.size ∧ w.cell? ⟨b, off + i * 3, none⟩ = some (.int .i64 (Hp.at' L i).1) ∧
    w.cell? ⟨b, off + i * 3 + 1, none⟩ = some (.int .u64 (Hp.at' L i).2.1) ∧ w.cell? ⟨b, off + i * 3 + 2, none⟩ = some (.int .i64 (Hp.at' L i).2.2)

theorem NodesAt.below {w w' : World} {a : Option Addr} {L : List Hp.Node} (h : NodesAt w a L) {B : Nat} (hB : w.heap.size ≤ B) (hb : Below B w w') : NodesAt w' a L := by
  intro i hi
  obtain ⟨b, off, e, hlt, h0, h1, h2⟩ := h i hi
  refine ⟨b, off, e, by have := hb.size; omega, ?_, ?_, ?_⟩
  · rw [hb.cell (p := ⟨b, off + i * 3, none⟩) (show b < B by omega)]; exact h0
  · rw [hb.cell (p := ⟨b, off + i * 3 + 1, none⟩) (show b < B by omega)]; exact h1
  · rw [hb.cell (p := ⟨b, off + i * 3 + 2, none⟩) (show b < B by omega)]; exact h2
theorem NodesAt.old {w w' : World} {a : Option Addr} {L : List Hp.Node} (h : NodesAt w a L) (hb : Below w.heap.size w w') : NodesAt w' a L := h.below (Nat.le_refl _) hb

theorem Own.nodes {w : World} {g : Nat} {T : TypeId} {L : List Hp.Node} (h : Own w g T (ncells L)) : NodesAt w (some ⟨g, 0, none⟩) L := by
  intro i hi
  obtain ⟨h0, h1, h2⟩ := ncells_at L i hi
  refine ⟨g, 0, rfl, h.lt, ?_, ?_, ?_⟩
  · rw [Nat.zero_add, h.cell]; exact h0
  · rw [Nat.zero_add, h.cell]; exact h1
  · rw [Nat.zero_add, h.cell]; exact h2
/-- a node is stored into a row of the call's own -/
theorem Own.store {w : World} {g : Nat} {T : TypeId} {L : List Hp.Node} (h : Own w g T (ncells L)) (i : Nat) (x : Hp.Node) (hi : i < L.length) :
    Own (((w.setCell ⟨g, i * 3, none⟩ (.int .i64 x.1)).setCell ⟨g, i * 3 + 1, none⟩ (.int .u64 x.2.1)).setCell ⟨g, i * 3 + 2, none⟩ (.int .i64 x.2.2)) g T (ncells (L.set i x)) := by
  rw [← ncells_set L i x hi]
  exact ((h.set _ _).set _ _).set _ _

/-- rows of zero nodes -/
def zeros (n : Nat) : List Hp.Node := List.replicate n (0, 0, 0)
theorem zeros_length (n : Nat) : (zeros n).length = n := by simp [zeros]

theorem made_nodes (n : Nat) : (madeCells #[Value.int .i64 0, Value.int .u64 0, Value.int .i64 0] (n * 3)).toList = ncells (zeros n) := by
  apply List.ext_getElem?
  intro k
  by_cases hk : k < n * 3
  · have h1 : (madeCells #[Value.int .i64 0, Value.int .u64 0, Value.int .i64 0] (n * 3)).toList[k]? = some (#[Value.int .i64 0, Value.int .u64 0, Value.int .i64 0][k % 3]!) := by
      rw [Array.getElem?_toList]
      unfold madeCells
      rw [Array.getElem?_map]
      have : (Array.range (n * 3))[k]? = some k := by simp [hk]
      rw [this]; rfl
    obtain ⟨c0, c1, c2⟩ := ncells_at (zeros n) (k / 3) (by rw [zeros_length]; omega)
    have hz : Hp.at' (zeros n) (k / 3) = (0, 0, 0) := by
      rw [Hp.at_eq _ _ (by rw [zeros_length]; omega)]; simp [zeros]
    rw [hz] at c0 c1 c2
    rw [h1]
    have hm : k % 3 = 0 ∨ k % 3 = 1 ∨ k % 3 = 2 := by omega
    rcases hm with hm | hm | hm
    · rw [hm, show k = k / 3 * 3 by omega, c0]; rfl
    · rw [hm, show k = k / 3 * 3 + 1 by omega, c1]; rfl
    · rw [hm, show k = k / 3 * 3 + 2 by omega, c2]; rfl
  · rw [List.getElem?_eq_none (by simp [madeCells]; omega), List.getElem?_eq_none (by rw [ncells_length, zeros_length]; omega)]

theorem info32 : (Try.prog.info? 32).map (fun i => (i.zero, i.size, i.bytes)) = some (some (.agg #[.int .i64 0, .int .u64 0, .int .i64 0]), 3, 24) := by kernel_rfl
theorem info60 : (Try.prog.info? 60).map (fun i => (i.zero, i.size, i.bytes)) = some (some (.agg #[.int .i64 0, .int .u64 0, .int .i64 0]), 3, 24) := by kernel_rfl
theorem info2 : (Try.prog.info? 2).map (fun i => (i.zero, i.size, i.bytes)) = some (some (.int .i64 0), 1, 8) := by kernel_rfl
theorem info30 : (Try.prog.info? 30).map (fun i => (i.zero, i.size, i.bytes)) = some (some (.int .u64 0), 1, 8) := by kernel_rfl
theorem info3 : (Try.prog.info? 3).map (fun i => (i.zero, i.size, i.bytes)) = some (some (.int .i64 0), 1, 8) := by kernel_rfl

theorem make_nodes {T E : TypeId} (hT : Try.prog.underlying T = some (.slice E)) (hE : (Try.prog.info? E).map (fun i => (i.zero, i.size, i.bytes)) = some (some (.agg #[.int .i64 0, .int .u64 0, .int .i64 0]), 3, 24)) (n : Nat) (hn : n ≤ 1048576) (W : World) :
    (Instr.makeSlice T (.int .i64 (n : Int)) (.int .i64 (n : Int))).run Try.prog W = .ok (.slice (some ⟨W.heap.size, 0, none⟩) n n) (W.alloc (.cells (ncells (zeros n)).toArray E)) := by
  obtain ⟨i0, hi, hz0, hz1, hz2⟩ := info_parts hE
  rw [run_make (P := Try.prog) W T E i0 _ hT hi hz0 .i64 .i64 (n : Int) (n : Int) (by omega) (by omega) (by rw [hz2]; omega) (by omega)]
  have e : (Value.agg #[.int .i64 0, .int .u64 0, .int .i64 0]).cells = #[Value.int .i64 0, Value.int .u64 0, Value.int .i64 0] := rfl
  rw [e, hz1, ← made_nodes]
  simp

/-- rows of numbers -/
def icells (k : IntKind) (l : List Int) : List Value := l.map (Value.int k)
theorem icells_at (k : IntKind) (l : List Int) (i : Nat) (h : i < l.length) : (icells k l)[i]? = some (.int k (l.getD i 0)) := by
  simp [icells, List.getElem?_eq_getElem h, List.getD_eq_getElem?_getD]
theorem icells_set (k : IntKind) (l : List Int) (i : Nat) (x : Int) : (icells k l).set i (.int k x) = icells k (l.set i x) := by simp [icells]

theorem make_ints {T E : TypeId} {k : IntKind} (hT : Try.prog.underlying T = some (.slice E)) (hE : (Try.prog.info? E).map (fun i => (i.zero, i.size, i.bytes)) = some (some (.int k 0), 1, 8)) (n : Nat) (hn : n ≤ 1048576) (W : World) :
    (Instr.makeSlice T (.int .i64 (n : Int)) (.int .i64 (n : Int))).run Try.prog W = .ok (.slice (some ⟨W.heap.size, 0, none⟩) n n) (W.alloc (.cells (icells k (List.replicate n 0)).toArray E)) := by
  obtain ⟨i0, hi, hz0, hz1, hz2⟩ := info_parts hE
  rw [run_make (P := Try.prog) W T E i0 _ hT hi hz0 .i64 .i64 (n : Int) (n : Int) (by omega) (by omega) (by rw [hz2]; omega) (by omega)]
  have e : madeCells (Value.int k 0).cells ((n : Int).toNat * i0.size) = (icells k (List.replicate n 0)).toArray := by
    rw [hz1]
    have ec : (Value.int k 0).cells = #[Value.int k 0] := rfl
    rw [ec]
    apply Array.ext_getElem?
    intro j
    unfold madeCells icells
    by_cases hj : j < n
    · have : (Array.range ((n : Int).toNat * 1))[j]? = some j := by simp [hj]
      rw [Array.getElem?_map, this]
      simp [hj, Nat.mod_one]
    · rw [Array.getElem?_eq_none (by simp; omega), Array.getElem?_eq_none (by simp; omega)]
  rw [e]
  simp

end Go.Proofs.Qxb6619558a
