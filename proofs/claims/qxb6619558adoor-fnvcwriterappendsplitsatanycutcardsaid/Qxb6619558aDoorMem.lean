/-
  BYTES, NUMBERS AND PAIRS IN MEMORY: rows that the call itself made (known whole), slices that are only read.
-/
import Derived.Test.Qxb6619558aDoorPlain
import Derived.Test.Qxb6619558aDoorProg
import Derived.WalkKit
import Derived.BigCall
import Derived.WalkSpells
import Derived.Deep.QuietTactic
import Derived.BigQuiet
import Derived.Lib.Builder
import Derived.Lib.AppendIntMem
namespace Go.Proofs.Qxb6619558aDoor
open Go.RowKit

def Own (w : World) (g : Nat) (T : TypeId) (cs : List Value) : Prop := w.heap[g]? = some (.cells cs.toArray T (0, 0))

theorem Own.lt {w : World} {g : Nat} {T : TypeId} {cs : List Value} (h : Own w g T cs) : g < w.heap.size := (Array.getElem?_eq_some_iff.1 h).1
theorem Own.cell {w : World} {g : Nat} {T : TypeId} {cs : List Value} (h : Own w g T cs) (i : Nat) : w.cell? ⟨g, i, none⟩ = cs[i]? := by
  unfold Own at h; rw [Lib.cell_of_heap h]; simp
theorem Own.frozen {w : World} {g : Nat} {T : TypeId} {cs : List Value} (h : Own w g T cs) (i : Nat) : w.frozen? ⟨g, i, none⟩ = false := Lib.frozen_of_heap h i
theorem Own.set {w : World} {g : Nat} {T : TypeId} {cs : List Value} (h : Own w g T cs) (i : Nat) (v : Value) : Own (w.setCell ⟨g, i, none⟩ v) g T (cs.set i v) := by
  unfold Own at *
  rw [heap_setCell_same w g i cs.toArray T v h]
  simp
theorem Own.other {w : World} {g k : Nat} {T : TypeId} {cs : List Value} (h : Own w g T cs) (hk : g ≠ k) (i : Nat) (v : Value) : Own (w.setCell ⟨k, i, none⟩ v) g T cs := by
  unfold Own at *
  rw [heap_setCell_other w _ g v hk]; exact h
theorem Own.below {w w' : World} {g : Nat} {T : TypeId} {cs : List Value} (h : Own w g T cs) {B : Nat} (hB : g < B) (hb : Below B w w') : Own w' g T cs := by
  unfold Own at *
  rw [hb.block g hB]; exact h
theorem Own.alloc {w : World} {g : Nat} {T : TypeId} {cs : List Value} (h : Own w g T cs) (o : Obj) : Own (w.alloc o) g T cs :=
  h.below h.lt ((Below.refl _ w).alloc (Nat.le_refl _) o)
theorem Own.new (w : World) (T : TypeId) (cs : List Value) : Own (w.alloc (.cells cs.toArray T)) w.heap.size T cs := heap_alloc_new w _

/-- a row of one-cell things that is read -/
def RowAt (w : World) (a : Option Addr) (cs : List Value) : Prop :=
  ∀ i, i < cs.length → ∃ b off, a = some ⟨b, off, none⟩ ∧ b < w.heap.size ∧ w.cell? ⟨b, off + i, none⟩ = cs[i]?

theorem RowAt.below {w w' : World} {a : Option Addr} {l : List Value} (h : RowAt w a l) {B : Nat} (hB : w.heap.size ≤ B) (hb : Below B w w') : RowAt w' a l := by
  intro i hi
  obtain ⟨b, off, e, hlt, hc⟩ := h i hi
  refine ⟨b, off, e, by have := hb.size; omega, ?_⟩
  rw [hb.cell (p := ⟨b, off + i, none⟩) (show b < B by omega)]; exact hc
theorem RowAt.old {w w' : World} {a : Option Addr} {l : List Value} (h : RowAt w a l) (hb : Below w.heap.size w w') : RowAt w' a l := h.below (Nat.le_refl _) hb
theorem Own.row {w : World} {g : Nat} {T : TypeId} {cs : List Value} (h : Own w g T cs) : RowAt w (some ⟨g, 0, none⟩) cs := by
  intro i hi
  exact ⟨g, 0, rfl, h.lt, by rw [Nat.zero_add]; exact h.cell i⟩

abbrev bcells (l : List UInt8) : List Value := Lib.byteCells l
def icells (l : List Int) : List Value := l.map (Value.int .i64)
theorem bcells_len (l : List UInt8) : (bcells l).length = l.length := Lib.byteCells_length l
theorem icells_len (l : List Int) : (icells l).length = l.length := by simp [icells]
theorem bcells_at (l : List UInt8) (i : Nat) (h : i < l.length) : (bcells l)[i]? = some (.int .u8 ((l.getD i 0).toNat : Int)) := by
  simp [bcells, Lib.byteCells, List.getElem?_eq_getElem h, List.getD_eq_getElem?_getD]
theorem icells_at (l : List Int) (i : Nat) (h : i < l.length) : (icells l)[i]? = some (.int .i64 (l.getD i 0)) := by
  simp [icells, List.getElem?_eq_getElem h, List.getD_eq_getElem?_getD]

abbrev BytesAt (w : World) (a : Option Addr) (l : List UInt8) : Prop := RowAt w a (bcells l)
abbrev IntsAt (w : World) (a : Option Addr) (l : List Int) : Prop := RowAt w a (icells l)

theorem BytesAt.at {w : World} {a : Option Addr} {l : List UInt8} (h : BytesAt w a l) (i : Nat) (hi : i < l.length) : ∃ b off, a = some ⟨b, off, none⟩ ∧ b < w.heap.size ∧ w.cell? ⟨b, off + i, none⟩ = some (.int .u8 ((l.getD i 0).toNat : Int)) := by
  obtain ⟨b, off, e, h1, h2⟩ := h i (by rw [bcells_len]; exact hi)
  exact ⟨b, off, e, h1, h2.trans (bcells_at l i hi)⟩
theorem IntsAt.at {w : World} {a : Option Addr} {l : List Int} (h : IntsAt w a l) (i : Nat) (hi : i < l.length) : ∃ b off, a = some ⟨b, off, none⟩ ∧ b < w.heap.size ∧ w.cell? ⟨b, off + i, none⟩ = some (.int .i64 (l.getD i 0)) := by
  obtain ⟨b, off, e, h1, h2⟩ := h i (by rw [icells_len]; exact hi)
  exact ⟨b, off, e, h1, h2.trans (icells_at l i hi)⟩

/-- a count's two cells -/
def at' (C : List Vc.Cnt) (i : Nat) : Vc.Cnt := C.getD i (0, 0)
theorem at_eq (C : List Vc.Cnt) (i : Nat) (h : i < C.length) : at' C i = C[i] := by simp [at', List.getD_eq_getElem?_getD, List.getElem?_eq_getElem h]
def cells2 (c : Vc.Cnt) : List Value := [.int .i64 c.1, .int .i64 c.2]
def pcells (C : List Vc.Cnt) : List Value := C.flatMap cells2
theorem pcells_length (L : List Vc.Cnt) : (pcells L).length = L.length * 2 := by
  induction L with
  | nil => rfl
  | cons a L ih => simp [pcells, cells2] at ih ⊢; omega
theorem pcells_cons (a : Vc.Cnt) (L : List Vc.Cnt) : pcells (a :: L) = .int .i64 a.1 :: .int .i64 a.2 :: pcells L := by simp [pcells, cells2]
theorem pcells_at (L : List Vc.Cnt) (i : Nat) (h : i < L.length) :
    (pcells L)[i * 2]? = some (.int .i64 (at' L i).1) ∧ (pcells L)[i * 2 + 1]? = some (.int .i64 (at' L i).2) := by
  induction L generalizing i with
  | nil => simp at h
  | cons a L ih =>
    rw [pcells_cons]
    cases i with
    | zero => exact ⟨rfl, rfl⟩
    | succ i =>
      have := ih i (by simpa using h)
      have e : at' (a :: L) (i + 1) = at' L i := rfl
      rw [e, show (i + 1) * 2 = i * 2 + 2 by omega]
      simpa using this
theorem pcells_set (L : List Vc.Cnt) (i : Nat) (x : Vc.Cnt) (h : i < L.length) :
    ((pcells L).set (i * 2) (.int .i64 x.1)).set (i * 2 + 1) (.int .i64 x.2) = pcells (L.set i x) := by
  induction L generalizing i with
  | nil => simp at h
  | cons a L ih =>
    cases i with
    | zero => simp [pcells_cons]
    | succ i =>
      rw [pcells_cons, List.set_cons_succ, pcells_cons, ← ih i (by simpa using h), show (i + 1) * 2 = i * 2 + 2 by omega]
      simp

def PairsAt (w : World) (a : Option Addr) (L : List Vc.Cnt) : Prop :=
  ∀ i, i < L.length → ∃ b off, a = some ⟨b, off, none⟩ ∧ b < w.heap.size ∧ w.cell? ⟨b, off + i * 2, none⟩ = some (.int .i64 (at' L i).1) ∧ w.cell? ⟨b, off + i * 2 + 1, none⟩ = some (.int .i64 (at' L i).2)
theorem PairsAt.below {w w' : World} {a : Option Addr} {L : List Vc.Cnt} (h : PairsAt w a L) {B : Nat} (hB : w.heap.size ≤ B) (hb : Below B w w') : PairsAt w' a L := by
  intro i hi
  obtain ⟨b, off, e, hlt, h0, h1⟩ := h i hi
  refine ⟨b, off, e, by have := hb.size; omega, ?_, ?_⟩
  · rw [hb.cell (p := ⟨b, off + i * 2, none⟩) (show b < B by omega)]; exact h0
  · rw [hb.cell (p := ⟨b, off + i * 2 + 1, none⟩) (show b < B by omega)]; exact h1
theorem PairsAt.old {w w' : World} {a : Option Addr} {L : List Vc.Cnt} (h : PairsAt w a L) (hb : Below w.heap.size w w') : PairsAt w' a L := h.below (Nat.le_refl _) hb
theorem Own.pairs {w : World} {g : Nat} {T : TypeId} {L : List Vc.Cnt} (h : Own w g T (pcells L)) : PairsAt w (some ⟨g, 0, none⟩) L := by
  intro i hi
  obtain ⟨h0, h1⟩ := pcells_at L i hi
  refine ⟨g, 0, rfl, h.lt, ?_, ?_⟩
  · rw [Nat.zero_add, h.cell]; exact h0
  · rw [Nat.zero_add, h.cell]; exact h1
theorem Own.store2 {w : World} {g : Nat} {T : TypeId} {L : List Vc.Cnt} (h : Own w g T (pcells L)) (i : Nat) (x : Vc.Cnt) (hi : i < L.length) :
    Own ((w.setCell ⟨g, i * 2, none⟩ (.int .i64 x.1)).setCell ⟨g, i * 2 + 1, none⟩ (.int .i64 x.2)) g T (pcells (L.set i x)) := by
  rw [← pcells_set L i x hi]
  exact (h.set _ _).set _ _
theorem Own.ready2 {w : World} {g : Nat} {T : TypeId} {L : List Vc.Cnt} (h : Own w g T (pcells L)) (k : Nat) (hk : k < L.length) :
    (∃ v, w.cell? ⟨g, k * 2, none⟩ = some v) ∧ (∃ v, w.cell? ⟨g, k * 2 + 1, none⟩ = some v) ∧ w.frozen? ⟨g, k * 2, none⟩ = false ∧ w.frozen? ⟨g, k * 2 + 1, none⟩ = false := by
  obtain ⟨h0, h1⟩ := pcells_at L k hk
  exact ⟨⟨_, (h.cell _).trans h0⟩, ⟨_, (h.cell _).trans h1⟩, h.frozen _, h.frozen _⟩
/-- what a walk asks of a row of one-cell things ahead of a store at k -/
theorem Own.ready1 {w : World} {g : Nat} {T : TypeId} {cs : List Value} (h : Own w g T cs) (k : Nat) (hk : k < cs.length) : (∃ v, w.cell? ⟨g, k, none⟩ = some v) ∧ w.frozen? ⟨g, k, none⟩ = false :=
  ⟨⟨_, (h.cell k).trans (List.getElem?_eq_getElem hk)⟩, h.frozen _⟩

/-- rows that are filled from the front -/
theorem fill_step {α : Type} (D L : List α) (k : Nat) (x : α) (hl : D.length = L.length) (hk : k < L.length) (h : D.take k = L.take k) (hx : L[k]? = some x) : (D.set k x).take (k + 1) = L.take (k + 1) := by
  rw [List.take_add_one, List.take_add_one, List.take_set_of_le (Nat.le_refl _), h, hx]
  simp [hl, hk]
theorem fill_end {α : Type} {D L : List α} {k : Nat} (hl : D.length = L.length) (hk : L.length ≤ k) (h : D.take k = L.take k) : D = L := by
  rwa [List.take_of_length_le (by omega), List.take_of_length_le hk] at h

def zeros (n : Nat) : List Vc.Cnt := List.replicate n (0, 0)
theorem zeros_length (n : Nat) : (zeros n).length = n := by simp [zeros]
theorem made_pairs (n : Nat) : (madeCells #[Value.int .i64 0, Value.int .i64 0] (n * 2)).toList = pcells (zeros n) := by
  apply List.ext_getElem?
  intro k
  by_cases hk : k < n * 2
  · have h1 : (madeCells #[Value.int .i64 0, Value.int .i64 0] (n * 2)).toList[k]? = some (#[Value.int .i64 0, Value.int .i64 0][k % 2]!) := by
      rw [Array.getElem?_toList]
      unfold madeCells
      rw [Array.getElem?_map]
      have : (Array.range (n * 2))[k]? = some k := by simp [hk]
      rw [this]; rfl
    obtain ⟨c0, c1⟩ := pcells_at (zeros n) (k / 2) (by rw [zeros_length]; omega)
    have hz : at' (zeros n) (k / 2) = (0, 0) := by
      rw [at_eq _ _ (by rw [zeros_length]; omega)]; simp [zeros]
    rw [hz] at c0 c1
    rw [h1]
    have hm : k % 2 = 0 ∨ k % 2 = 1 := by omega
    rcases hm with hm | hm
    · rw [hm, show k = k / 2 * 2 by omega, c0]; rfl
    · rw [hm, show k = k / 2 * 2 + 1 by omega, c1]; rfl
  · rw [List.getElem?_eq_none (by simp [madeCells]; omega), List.getElem?_eq_none (by rw [pcells_length, zeros_length]; omega)]

theorem info5 : (Tryd.prog.info? 5).map (fun i => (i.zero, i.size, i.bytes)) = some (some (.int .u8 0), 1, 1) := by kernel_rfl
theorem info3 : (Tryd.prog.info? 3).map (fun i => (i.zero, i.size, i.bytes)) = some (some (.int .i64 0), 1, 8) := by kernel_rfl
theorem info2 : (Tryd.prog.info? 2).map (fun i => (i.zero, i.size, i.bytes)) = some (some (.int .i64 0), 1, 8) := by kernel_rfl
theorem info38 : (Tryd.prog.info? 38).map (fun i => (i.zero, i.size, i.bytes)) = some (some (.agg #[.int .i64 0, .int .i64 0]), 2, 16) := by kernel_rfl
theorem info46 : (Tryd.prog.info? 46).map (fun i => (i.zero, i.size, i.bytes)) = some (some (.agg #[.int .i64 0, .int .i64 0]), 2, 16) := by kernel_rfl

theorem make_pairs {T E : TypeId} (hT : Tryd.prog.underlying T = some (.slice E)) (hE : (Tryd.prog.info? E).map (fun i => (i.zero, i.size, i.bytes)) = some (some (.agg #[.int .i64 0, .int .i64 0]), 2, 16)) (n : Nat) (hn : n ≤ 1048576) (W : World) :
    (Instr.makeSlice T (.int .i64 (n : Int)) (.int .i64 (n : Int))).run Tryd.prog W = .ok (.slice (some ⟨W.heap.size, 0, none⟩) n n) (W.alloc (.cells (pcells (zeros n)).toArray E)) := by
  obtain ⟨i0, hi, hz0, hz1, hz2⟩ := info_parts hE
  rw [run_make (P := Tryd.prog) W T E i0 _ hT hi hz0 .i64 .i64 (n : Int) (n : Int) (by omega) (by omega) (by rw [hz2]; omega) (by omega)]
  have e : (Value.agg #[.int .i64 0, .int .i64 0]).cells = #[Value.int .i64 0, Value.int .i64 0] := rfl
  rw [e, hz1, ← made_pairs]
  simp

/-- 'make' of one-cell things -/
theorem make_ones {T E : TypeId} {z : Value} {by' : Nat} (hT : Tryd.prog.underlying T = some (.slice E)) (hE : (Tryd.prog.info? E).map (fun i => (i.zero, i.size, i.bytes)) = some (some z, 1, by')) (hz : z.cells = #[z]) (hb8 : by' ≤ 8) (m n : Nat) (hmn : m ≤ n) (hn : n ≤ 1000000000000) (W : World) :
    (Instr.makeSlice T (.int .i64 (m : Int)) (.int .i64 (n : Int))).run Tryd.prog W = .ok (.slice (some ⟨W.heap.size, 0, none⟩) m n) (W.alloc (.cells (List.replicate n z).toArray E)) := by
  obtain ⟨i0, hi, hz0, hz1, hz2⟩ := info_parts hE
  have hmul : (i0.bytes : Int) * (n : Int) ≤ 281474976710656 := by
    rw [hz2]
    have : by' * n ≤ 8 * n := Nat.mul_le_mul_right n hb8
    have e : ((by' * n : Nat) : Int) = (by' : Int) * (n : Int) := by simp
    omega
  rw [run_make (P := Tryd.prog) W T E i0 _ hT hi hz0 .i64 .i64 (m : Int) (n : Int) (by omega) (by omega) hmul (by omega)]
  have e : madeCells z.cells ((n : Int).toNat * i0.size) = (List.replicate n z).toArray := by
    rw [hz1, hz]
    apply Array.ext_getElem?
    intro j
    unfold madeCells
    by_cases hj : j < n
    · have : (Array.range ((n : Int).toNat * 1))[j]? = some j := by simp [hj]
      rw [Array.getElem?_map, this]
      simp [hj, Nat.mod_one]
    · rw [Array.getElem?_eq_none (by simp; omega), Array.getElem?_eq_none (by simp; omega)]
  rw [e]
  simp

end Go.Proofs.Qxb6619558aDoor
