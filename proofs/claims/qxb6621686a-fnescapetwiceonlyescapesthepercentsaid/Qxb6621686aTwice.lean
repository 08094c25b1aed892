import Derived.Test.Qxb6621686aCommon
namespace Go.Proofs.Qxb6621686a
open Go.RowKit

/-- how many '%' stand among the first k bytes -/
def cnt (s : ByteArray) (k : Nat) : Nat := (s.data.toList.take k).count 37
/-- how far the second escaping has come behind k bytes of the first -/
def pos (s : ByteArray) (k : Nat) : Nat := (Esc.esc (s.data.toList.take k)).length

theorem size_len (s : ByteArray) : s.data.toList.length = s.size := by simp
theorem size_le {s : ByteArray} {l : List UInt8} (h : s.data.toList = Esc.esc l) : s.size ≤ 3 * l.length := by
  rw [← size_len, h]; exact (Esc.esc_len_le l).2

theorem get_list (s : ByteArray) (k : Nat) (h : k < s.size) : s.data.toList[k]'(by rw [size_len]; exact h) = s[k] := rfl
theorem get_at (s : ByteArray) (k : Nat) (h : k < s.size) : s.data.toList[k]? = some s[k] := by
  rw [List.getElem?_eq_getElem (by rw [size_len]; exact h), get_list s k h]

theorem cnt_succ (s : ByteArray) (k : Nat) (h : k < s.size) : cnt s (k + 1) = cnt s k + if s[k].toNat = 37 then 1 else 0 := by
  have e : (s[k] = 37) = (s[k].toNat = 37) := propext ⟨fun h => by rw [h]; rfl, fun h => UInt8.toNat_inj.1 h⟩
  unfold cnt
  rw [Esc.count_take_succ _ k (by rw [size_len]; exact h), get_list s k h]
  simp only [e]
theorem cnt_le (s : ByteArray) (k : Nat) : cnt s k ≤ k := by
  unfold cnt
  exact Nat.le_trans List.count_le_length (List.length_take_le _ _)

theorem twice_facts (l : List UInt8) (s1 s2 : ByteArray) (h1 : s1.data.toList = Esc.esc l) (h2 : s2.data.toList = Esc.esc s1.data.toList) :
    s1.size = l.length + 2 * cnt s1 s1.size ∧ s2.size = s1.size + 2 * cnt s1 s1.size ∧ pos s1 s1.size = s2.size := by
  have t : s1.data.toList.take s1.size = s1.data.toList := List.take_of_length_le (by rw [size_len]; omega)
  have e1 := Esc.esc_len l
  have e2 := Esc.esc_len s1.data.toList
  rw [← h1, size_len] at e1
  rw [← h2, size_len, size_len] at e2
  refine ⟨by unfold cnt; rw [t]; exact e1, ?_, by unfold pos; rw [t, ← h2, size_len]⟩
  have e3 : s2.data.toList = s1.data.toList.flatMap (fun d => if d = 37 then [37, 50, 53] else [d]) := by rw [h2, h1, Esc.esc_esc]
  have e4 : ∀ m : List UInt8, (m.flatMap (fun d => if d = 37 then [37, 50, 53] else [d])).length = m.length + 2 * m.count 37 := by
    intro m
    induction m with
    | nil => rfl
    | cons a m ih =>
      rw [List.flatMap_cons, List.length_append, ih, List.count_cons]
      by_cases ha : a = 37 <;> simp [ha] <;> omega
  have e5 := e4 s1.data.toList
  rw [← e3, size_len, size_len] at e5
  unfold cnt; rw [t]; exact e5

/-- one byte of the first escaping, met again in the second -/
theorem twice_step (l : List UInt8) (s1 s2 : ByteArray) (h1 : s1.data.toList = Esc.esc l) (h2 : s2.data.toList = Esc.esc s1.data.toList) (k : Nat) (h : k < s1.size) :
    (s1[k].toNat = 37 → ∃ h0 : pos s1 k + 2 < s2.size, pos s1 (k + 1) = pos s1 k + 3 ∧ s2[pos s1 k].toNat = 37 ∧ s2[pos s1 k + 1].toNat = 50 ∧ s2[pos s1 k + 2].toNat = 53) ∧
    (s1[k].toNat ≠ 37 → ∃ h0 : pos s1 k < s2.size, pos s1 (k + 1) = pos s1 k + 1 ∧ s2[pos s1 k].toNat = s1[k].toNat) := by
  have hk : k < s1.data.toList.length := by rw [size_len]; exact h
  have hmem : s1[k] ∈ Esc.esc l := by rw [← h1, ← get_list s1 k h]; exact List.getElem_mem _
  have e1 := Esc.esc1_of_mem hmem
  have hs := Esc.esc_take_succ s1.data.toList k hk
  have hlen := Esc.esc_take_len s1.data.toList k hk
  have hat := Esc.esc_at s1.data.toList k hk
  rw [get_list s1 k h] at hs hlen hat
  rw [← h2, size_len] at hlen
  rw [← h2] at hat
  have hpos : pos s1 (k + 1) = pos s1 k + (Esc.esc1 s1[k]).length := by unfold pos; rw [hs, List.length_append]
  have fin : ∀ i (hi : i < (Esc.esc1 s1[k]).length) (hb : pos s1 k + i < s2.size), s2[pos s1 k + i] = (Esc.esc1 s1[k])[i] := by
    intro i hi hb
    have := hat i hi
    rw [List.getElem?_eq_getElem hi] at this
    have e := get_at s2 (pos s1 k + i) hb
    unfold pos at e ⊢
    rw [this] at e
    exact (Option.some.inj e).symm
  have hlen' : pos s1 k + (Esc.esc1 s1[k]).length ≤ s2.size := hlen
  constructor
  · intro hc
    have hc' : s1[k] = 37 := UInt8.toNat_inj.1 hc
    rw [hc', if_pos rfl] at e1
    rw [hc'] at hpos fin hlen'
    have hl3 : (Esc.esc1 37).length = 3 := by rw [e1]; rfl
    refine ⟨by omega, by omega, ?_, ?_, ?_⟩
    · have := fin 0 (by omega) (by omega); simp only [e1] at this; simp at this; rw [this]; rfl
    · have := fin 1 (by omega) (by omega); simp only [e1] at this; simp at this; rw [this]; rfl
    · have := fin 2 (by omega) (by omega); simp only [e1] at this; simp at this; rw [this]; rfl
  · intro hc
    have hc' : ¬ s1[k] = 37 := fun e => hc (by rw [e]; rfl)
    rw [if_neg hc'] at e1
    have hl1 : (Esc.esc1 s1[k]).length = 1 := by rw [e1]; rfl
    refine ⟨by omega, by omega, ?_⟩
    have := fin 0 (by omega) (by omega); simp only [e1] at this; simp at this; rw [this]

set_option maxHeartbeats 1000000 in
set_option maxRecDepth 100000 in
theorem twice_walk (a : Option Addr) (cap : Nat) (l : List UInt8) (w : World) (hm : l.length ≤ 65536) (hx : ∀ x, a = some x → l.length ≠ 0 → x.block < w.heap.size)
    (hcell : ∀ x, a = some x → ∀ i, i < l.length → w.cell? (x.add i) = some (.int .u8 ((l.getD i 0).toNat : Int))) (ha : a = none → l.length = 0) :
    Calls Try.prog 5 #[.slice a l.length cap] w fun e w' => e = .returned (.bool true) ∧ Below w.heap.size w w' := by
  have hnn := fun W n c => run_neq_slice_nil_any (P := Try.prog) W 22 5 a n c 0 0 Try.underlying22
  obtain ⟨Z, hZ, hmk⟩ := make_bytes l.length (by omega)
  have HZ : Hid (Z.length = l.length) := hZ
  clear hZ
  cases a
  case' none =>
    have H0 : Hid (l.length = 0) := ha rfl
    clear ha hcell hx
    go_enter Try.func5, Try.ntmps5
    go_wp2_with (go_at_call 11; go_in)
    refine (zzEsc none l.length cap l w rfl (by omega) (fun i hi => absurd hi (by rw [H0.out]; omega))).mono ?_
    rintro e W1 ⟨s1, rfl, HS1, hb2⟩
    clear H0
  case' some x =>
    have HS : Hid (∀ j v, (Lib.byteCells l)[j]? = some v → (w.alloc (.cells Z.toArray 5)).cell? (x.add j) = some v) := copy_src l _ (hx x rfl) (hcell x rfl)
    clear ha hcell hx
    go_enter Try.func5, Try.ntmps5
    go_wp2_with (first | (go_at_call 11; go_in) | (refine wpList_copy_splice rfl (.tmp 22) (.tmp 23) 22 22 rfl 5 Try.underlying22 (by kernel_rfl) _ _ _ _ _ _ rfl rfl w.heap.size 0 Z 5 (heap_alloc_new _ _) (Lib.byteCells l) (by simp [Lib.byteCells_length]) (fun _ => ⟨rfl, _, rfl, HS.out⟩) (by rw [Lib.byteCells_length, HZ.out]; omega) (cells_one l) w.heap.size w ((Below.refl _ w).alloc (Nat.le_refl _) _) (Nat.le_refl _) ?_; intro w1 hg1 hb1))
    refine (zzEsc (some ⟨w.heap.size, 0, none⟩) l.length l.length l w1 rfl (by omega) (bytesAt_row l hg1.out (splice_all Z l))).mono ?_
    rintro e W1 ⟨s1, rfl, HS1, hb2'⟩
    have hb2 : Below w.heap.size w W1 := hb1.trans (hb2'.mono hb1.size)
    clear hb2' hb1 hg1 HS
  all_goals
    clear hnn hmk HZ
    have z1 : s1.size ≤ 196608 := by have := size_le HS1.out; omega
    have sz1 : s1.data.toList.length = s1.size := by simp
    have Sz1 : Hid (s1.data.toList.length = s1.size) := sz1
    clear sz1
    obtain ⟨c1, fr1, cs1, hcs1, hcv⟩ := conv_bytes s1 W1
    have Hcs1 : Hid _ := hcs1
    clear hcs1
    go_wp2_with fail
    refine (zzEsc (some ⟨W1.heap.size, 0, none⟩) s1.size c1 s1.data.toList _ Sz1.out.symm (by rw [Sz1.out]; omega) (by exact bytesAt_row _ (heap_alloc_new W1 _) Hcs1.out)).mono ?_
    rintro e W2 ⟨s2, rfl, HS2, hb3'⟩
    have hb3 : Below w.heap.size w W2 := ((hb2.alloc hb2.size _).drew).trans (hb3'.mono (by have := hb2.size; simp; omega))
    clear hb3' Hcs1 hcv hb2
    have Sz2 : Hid (s2.data.toList.length = s2.size) := (show _ = _ by simp)
    have F := twice_facts l s1 s2 HS1.out HS2.out
    have g1 : l.length + 2 * cnt s1 s1.size ≤ s1.size := Nat.le_of_eq F.1.symm
    have g2 : s1.size ≤ l.length + 2 * cnt s1 s1.size := Nat.le_of_eq F.1
    have g3 : s1.size + 2 * cnt s1 s1.size ≤ s2.size := Nat.le_of_eq F.2.1.symm
    have g4 : s2.size ≤ s1.size + 2 * cnt s1 s1.size := Nat.le_of_eq F.2.1
    have g5 : pos s1 s1.size ≤ s2.size := Nat.le_of_eq F.2.2
    have g6 : s2.size ≤ pos s1 s1.size := Nat.le_of_eq F.2.2.symm
    have T : Hid (∀ k (h : k < s1.size), _) := fun k h => twice_step l s1 s2 HS1.out HS2.out k h
    clear F HS1 HS2
    go_wp2
    go_loop [6, 7] (fun p i => ∃ k : Nat, k ≤ s1.size ∧ i = .int .i64 k ∧ p = .int .i64 (cnt s1 k : Nat)) (fun _ i => s1.size - (intOf i).toNat)
    case atStart => exact ⟨0, Nat.zero_le _, rfl, rfl⟩
    case round =>
      obtain ⟨k, hk, rfl, rfl⟩ := hrel
      have hck := cnt_le s1 k
      by_cases hlt : k < s1.size
      · have HC : Hid (cnt s1 (k + 1) = cnt s1 k + if s1[k].toNat = 37 then 1 else 0) := cnt_succ s1 k hlt
        by_cases h37 : s1[k].toNat = 37
        · have HH : Hid (s1[k].toNat = 37) := h37
          have hb : ((s1[k].toNat : Int) == 37) = true := by rw [h37]; rfl
          clear h37
          go_wp2
          go_round
          case rel => exact ⟨k + 1, by omega, by go_num, by rw [HC.out, if_pos HH.out]; go_num⟩
          case measure => simp [intOf]; omega
        · have HH : Hid (¬ s1[k].toNat = 37) := h37
          have hb : ((s1[k].toNat : Int) == 37) = false := by rw [beq_eq_false_iff_ne]; omega
          clear h37
          go_wp2
          go_round
          case rel => exact ⟨k + 1, by omega, by go_num, by rw [HC.out, if_neg HH.out]; go_num⟩
          case measure => simp [intOf]; omega
      · obtain rfl : k = s1.size := by omega
        go_wp2
        go_loop [8, 9, 10] (fun p i _ => ∃ k : Nat, k ≤ s1.size ∧ i = .int .i64 k ∧ p = .int .i64 (pos s1 k : Nat) ∧ pos s1 k ≤ s2.size) (fun _ i _ => s1.size - (intOf i).toNat)
        case atStart => exact ⟨0, Nat.zero_le _, rfl, rfl, Nat.zero_le _⟩
        case round =>
          obtain ⟨k, hk, rfl, rfl, hp⟩ := hrel
          by_cases hlt : k < s1.size
          · have TS := T.out k hlt
            by_cases h37 : s1[k].toNat = 37
            · obtain ⟨h0, h1, h2, h3, h4⟩ := TS.1 h37
              have HH : Hid (pos s1 (k + 1) = pos s1 k + 3) := h1
              have hb : ((s1[k].toNat : Int) == 37) = true := by rw [h37]; rfl
              clear h37 h1 TS
              go_wp2
              go_round
              case rel => exact ⟨k + 1, by omega, by go_num, by rw [HH.out]; go_num, by rw [HH.out]; omega⟩
              case measure => simp [intOf]; omega
            · obtain ⟨h0, h1, h2⟩ := TS.2 h37
              have HH : Hid (pos s1 (k + 1) = pos s1 k + 1) := h1
              have hb : ((s1[k].toNat : Int) == 37) = false := by rw [beq_eq_false_iff_ne]; omega
              clear h37 h1 TS
              go_wp2
              go_round
              case rel => exact ⟨k + 1, by omega, by go_num, by rw [HH.out]; go_num, by rw [HH.out]; omega⟩
              case measure => simp [intOf]; omega
          · obtain rfl : k = s1.size := by omega
            go_wp2
            go_ret
            refine ⟨?_, hb3⟩
            have : pos s1 s1.size = s2.size := by omega
            simp [this]

/-- a slice that is longer than the law speaks of -/
theorem twice_big (a : Option Addr) (len cap : Nat) (w : World) (h : 65536 < len) :
    Calls Try.prog 5 #[.slice a len cap] w fun e w' => e = .returned (.bool true) ∧ Below w.heap.size w w' := by
  by_cases h2 : 1048576 < len
  · go_enter Try.func5, Try.ntmps5
    go_wp2
    go_ret
    exact ⟨rfl, Below.refl _ _⟩
  · go_enter Try.func5, Try.ntmps5
    go_wp2
    go_ret
    exact ⟨rfl, Below.refl _ _⟩
end Go.Proofs.Qxb6621686a
