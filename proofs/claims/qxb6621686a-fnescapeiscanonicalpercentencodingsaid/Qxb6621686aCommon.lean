import Derived.Test.Qxb6621686aEscape
import Derived.WalkSpells
import Derived.OpenShut
import Derived.Laws.CopyOwn
namespace Go.Proofs.Qxb6621686a
open Go.RowKit

/-- the escaped string, kept behind a name -/
theorem zzEsc (a : Option Addr) (n cap : Nat) (l : List UInt8) (w : World) (hn : n = l.length) (hl : l.length ≤ 1048576) (hc : BytesAt w a l) :
    Calls Try.prog 7 #[.slice a n cap] w fun e w' => ∃ s : ByteArray, e = .returned (.string s) ∧ Hid (s.data.toList = Esc.esc l) ∧ Below w.heap.size w w' := by
  subst hn
  refine (zzEscape a cap l w hl hc).mono ?_
  rintro e w' ⟨rfl, hb⟩
  exact ⟨_, rfl, (show _ = _ by simp), hb⟩

theorem bytes_of_ints (zs : List Int) (len : Nat) (h : len ≤ zs.length) (hwf : ∀ n ∈ zs, (Lit.int .u8 n).wf = true) :
    ∃ l : List UInt8, l.length = len ∧ ∀ i, i < l.length → zs.getD i 0 = ((l.getD i 0).toNat : Int) := by
  refine ⟨(zs.take len).map fun z => UInt8.ofNat z.toNat, by simp; omega, ?_⟩
  intro i hi
  have hi2 : i < len ∧ i < zs.length := by simp at hi; omega
  have hb := bounds_u8 (hwf zs[i] (List.getElem_mem hi2.2))
  simp only [List.getD_eq_getElem?_getD, List.getElem?_map, List.getElem?_take, if_pos hi2.1, List.getElem?_eq_getElem hi2.2, Option.map_some, Option.getD_some]
  rw [UInt8.toNat_ofNat_of_lt' (by simp; omega)]
  omega

/-- a new row holds the bytes that were copied into it -/
theorem bytesAt_row {w : World} {g : Nat} {cs : List Value} {t : TypeId} {fr : Nat × Nat} (l : List UInt8) (h : w.heap[g]? = some (.cells cs.toArray t fr)) (hcs : ∀ i, i < l.length → cs[i]? = some (.int .u8 ((l.getD i 0).toNat : Int))) :
    BytesAt w (some ⟨g, 0, none⟩) l := by
  intro i hi
  refine ⟨g, 0, rfl, (Array.getElem?_eq_some_iff.1 h).1, ?_⟩
  rw [Lib.cell_of_heap h]
  simpa using hcs i hi

theorem info5 : (Try.prog.info? 5).map (fun i => (i.zero, i.size, i.bytes)) = some (some (.int .u8 0), 1, 1) := by kernel_rfl

/-- 'make([]byte, n)': a new row of n cells -/
theorem make_bytes (n : Nat) (hn : n ≤ 1048576) : ∃ Z : List Value, Z.length = n ∧
    ∀ W : World, (Instr.makeSlice 22 (.int .i64 (n : Int)) (.int .i64 (n : Int))).run Try.prog W = .ok (.slice (some ⟨W.heap.size, 0, none⟩) n n) (W.alloc (.cells Z.toArray 5)) := by
  obtain ⟨i0, hi, hz0, hz1, hz2⟩ := info_parts info5
  refine ⟨(madeCells (Value.int .u8 0).cells n).toList, by simp [madeCells], fun W => ?_⟩
  rw [run_make (P := Try.prog) W 22 5 i0 (.int .u8 0) Try.underlying22 hi hz0 .i64 .i64 (n : Int) (n : Int) (by omega) (by omega) (by rw [hz2]; omega) (by omega)]
  simp [hz1]

/-- '[]byte(s)' -/
theorem conv_bytes (s : ByteArray) (W : World) : ∃ (c : Nat) (fr : Nat × Nat) (cs : List Value), (∀ i, i < s.data.toList.length → cs[i]? = some (.int .u8 ((s.data.toList.getD i 0).toNat : Int))) ∧
    (convert 9 22 (.string s)).run Try.prog W = .ok (.slice (some ⟨W.heap.size, 0, none⟩) s.size c) (W.drew.alloc (.cells cs.toArray 5 fr)) := by
  refine ⟨grownCap W s.size 0 5, ((bytesRow s (grownCap W s.size 0 5)).size, (bytesRow s (grownCap W s.size 0 5)).size + 1), (bytesRow s (grownCap W s.size 0 5)).toList, ?_, ?_⟩
  rotate_left
  · rw [run_bytes_of_string (P := Try.prog) W 9 22 5 s Try.underlying9 Try.underlying22 Try.underlying5]
  · intro i hi
    have := bytesRow_at s (grownCap W s.size 0 5) i (by simpa using hi)
    simp only [Array.getElem?_toList]
    rw [this]
    have hi' : i < s.data.size := by simpa using hi
    simp [List.getD_eq_getElem?_getD, Array.getElem?_eq_getElem hi']

theorem block_lt {w : World} {x : Addr} {v : Value} (h : w.cell? (x.add 0) = some v) : x.block < w.heap.size := by
  have e : x.add 0 = x := by simp [Addr.add]
  rw [e] at h
  exact World.block_lt_of_cell? w _ h

theorem size_len (s : ByteArray) : s.data.toList.length = s.size := by simp
theorem size_le {s : ByteArray} {l : List UInt8} (h : s.data.toList = Esc.esc l) : s.size ≤ 3 * l.length := by
  rw [← size_len, h]; exact (Esc.esc_len_le l).2

theorem cells_one (l : List UInt8) : ∀ v ∈ Lib.byteCells l, v.oneCell' = true := by
  intro v hv
  simp only [Lib.byteCells, List.mem_map] at hv
  obtain ⟨b, _, rfl⟩ := hv
  rfl

/-- the source's bytes go over into the new row -/
theorem copy_src {w : World} {x : Addr} (l : List UInt8) (o : Obj) (hx : l.length ≠ 0 → x.block < w.heap.size) (hc : ∀ i, i < l.length → w.cell? (x.add i) = some (.int .u8 ((l.getD i 0).toNat : Int))) :
    ∀ j v, (Lib.byteCells l)[j]? = some v → (w.alloc o).cell? (x.add j) = some v := by
  intro j v hj
  have hjl : j < l.length := by
    have := (List.getElem?_eq_some_iff.1 hj).1
    simpa [Lib.byteCells] using this
  have e0 : (w.alloc o).cell? (x.add j) = w.cell? (x.add j) := World.cell?_alloc_lt w o _ (by have := hx (by omega); unfold Addr.add; split <;> simpa using this)
  rw [e0, hc j hjl]
  simp only [Lib.byteCells, List.getElem?_map, List.getElem?_eq_getElem hjl, Option.map_some, Option.some.injEq] at hj
  rw [← hj, List.getD_eq_getElem?_getD, List.getElem?_eq_getElem hjl, Option.getD_some]

theorem splice_all (Z : List Value) (l : List UInt8) : ∀ i, i < l.length → (splice Z 0 (Lib.byteCells l))[i]? = some (.int .u8 ((l.getD i 0).toNat : Int)) := by
  intro i hi
  unfold splice
  rw [List.take_zero, List.nil_append, List.getElem?_append_left (by simpa [Lib.byteCells] using hi)]
  simp [Lib.byteCells, List.getElem?_eq_getElem hi, List.getD_eq_getElem?_getD]

end Go.Proofs.Qxb6621686a
