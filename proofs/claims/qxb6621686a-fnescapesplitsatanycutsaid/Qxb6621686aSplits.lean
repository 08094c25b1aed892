import Derived.Test.Qxb6621686aUnres
namespace Go.Proofs.Qxb6621686a
open Go.RowKit

theorem BytesAt.take {w : World} {a : Option Addr} {l : List UInt8} (h : BytesAt w a l) (n : Nat) : BytesAt w a (l.take n) := by
  intro i hi
  have hi2 : i < n ∧ i < l.length := by simp at hi; omega
  obtain ⟨b, off, e, hb, hc⟩ := h i hi2.2
  refine ⟨b, off, e, hb, ?_⟩
  rw [hc, List.getD_eq_getElem?_getD, List.getD_eq_getElem?_getD, List.getElem?_take, if_pos hi2.1]
theorem BytesAt.drop {w : World} {b off : Nat} {l : List UInt8} (h : BytesAt w (some ⟨b, off, none⟩) l) (n : Nat) : BytesAt w (some ⟨b, off + n, none⟩) (l.drop n) := by
  intro i hi
  have hi2 : n + i < l.length := by simp at hi; omega
  obtain ⟨b', off', e, hb, hc⟩ := h (n + i) hi2
  cases e
  refine ⟨b, off + n, rfl, hb, ?_⟩
  rw [Nat.add_assoc, hc, List.getD_eq_getElem?_getD, List.getD_eq_getElem?_getD, List.getElem?_drop]
theorem BytesAt.none (w : World) (a : Option Addr) (l : List UInt8) (h : l.length = 0) : BytesAt w a l := fun i hi => by omega

theorem splits_eq (l : List UInt8) (cut : Nat) (s0 s1 s2 : ByteArray) (h0 : s0.data.toList = Esc.esc l) (h1 : s1.data.toList = Esc.esc (l.take cut)) (h2 : s2.data.toList = Esc.esc (l.drop cut)) :
    (s0.toList == (s1 ++ s2).toList) = true := by
  have e : s0 = s1 ++ s2 := by
    apply ByteArray.ext
    apply Array.toList_inj.1
    rw [ByteArray.data_append, Array.toList_append, h0, h1, h2, ← Esc.esc_append, List.take_append_drop]
  rw [e]; simp
theorem splits_len (l : List UInt8) (cut : Nat) (s1 : ByteArray) (hc : cut ≤ l.length) (h1 : s1.data.toList = Esc.esc (l.take cut)) : s1.size = cut + 2 * Esc.nu l cut := by
  rw [← size_len, h1, Esc.esc_len_nu]
  unfold Esc.nu
  simp; omega

set_option maxHeartbeats 1000000 in
set_option maxRecDepth 100000 in
theorem splits_walk (a : Option Addr) (cap : Nat) (l : List UInt8) (cut : Nat) (w : World) (hm : l.length ≤ 65536) (hcut : cut ≤ l.length) (hx : ∀ x, a = some x → l.length ≠ 0 → x.block < w.heap.size)
    (hcell : ∀ x, a = some x → ∀ i, i < l.length → w.cell? (x.add i) = some (.int .u8 ((l.getD i 0).toNat : Int))) (ha : a = none → l.length = 0 ∧ cap = 0) :
    Calls Try.prog 4 #[.slice a l.length cap, .int .i64 (cut : Int)] w fun e w' => e = .returned (.bool true) ∧ Below w.heap.size w w' := by
  have hnn := fun W n c => run_neq_slice_nil_any (P := Try.prog) W 22 5 a n c 0 0 Try.underlying22
  obtain ⟨Z, hZ, hmk⟩ := make_bytes l.length (by omega)
  have HZ : Hid (Z.length = l.length) := hZ
  clear hZ
  cases a
  case' none =>
    obtain ⟨h0, rfl⟩ := ha rfl
    obtain rfl : l = [] := List.eq_nil_of_length_eq_zero h0
    obtain rfl : cut = 0 := by simpa using hcut
    clear ha hcell hx hmk HZ h0
    go_enter Try.func4, Try.ntmps4
    go_wp2_with (go_at_call 10; go_in)
    refine (zzEsc Option.none 0 0 [] w rfl (by simp) (BytesAt.none _ _ _ rfl)).mono ?_
    rintro e W1 ⟨s0, rfl, HS0, hb2⟩
    go_wp2_with fail
    refine (zzEsc Option.none 0 0 [] W1 rfl (by simp) (BytesAt.none _ _ _ rfl)).mono ?_
    rintro e W2 ⟨s1, rfl, HS1, hb3⟩
    go_wp2_with fail
    refine (zzEsc Option.none 0 0 [] W2 rfl (by simp) (BytesAt.none _ _ _ rfl)).mono ?_
    rintro e W3 ⟨s2, rfl, HS2, hb4⟩
    have hb5 : Below w.heap.size w W3 := (hb2.trans (hb3.mono hb2.size)).trans (hb4.mono (by have := hb2.size; have := hb3.size; omega))
    have heq : (s0.toList == (s1 ++ s2).toList) = true := splits_eq [] 0 s0 s1 s2 HS0.out HS1.out HS2.out
    have z1 : s1.size ≤ 0 := by have := size_le HS1.out; simpa using this
    have z2 : s2.size ≤ 0 := by have := size_le HS2.out; simpa using this
    clear HS0 HS1 HS2 hb2 hb3 hb4
    go_wp2
    go_loop [9, 10] (fun p i => p = .int .i64 0 ∧ i = .int .i64 0) (fun _ _ => 0)
    case atStart => exact ⟨rfl, rfl⟩
    case round =>
      obtain ⟨rfl, rfl⟩ := hrel
      go_wp2
      go_ret
      refine ⟨?_, hb5⟩
      have : s1.size = 0 := by omega
      simp [this]
  case' some x =>
    have HS : Hid (∀ j v, (Lib.byteCells l)[j]? = some v → (w.alloc (.cells Z.toArray 5)).cell? (x.add j) = some v) := copy_src l _ (hx x rfl) (hcell x rfl)
    clear ha hcell hx
    go_enter Try.func4, Try.ntmps4
    go_wp2_with (first | (go_at_call 10; go_in) | (refine wpList_copy_splice rfl (.tmp 31) (.tmp 32) 22 22 rfl 5 Try.underlying22 (by kernel_rfl) _ _ _ _ _ _ rfl rfl w.heap.size 0 Z 5 (heap_alloc_new _ _) (Lib.byteCells l) (by simp [Lib.byteCells_length]) (fun _ => ⟨rfl, _, rfl, HS.out⟩) (by rw [Lib.byteCells_length, HZ.out]; omega) (cells_one l) w.heap.size w ((Below.refl _ w).alloc (Nat.le_refl _) _) (Nat.le_refl _) ?_; intro w1 hg1 hb1))
    have hat : BytesAt w1 (some ⟨w.heap.size, 0, none⟩) l := bytesAt_row l hg1.out (splice_all Z l)
    have HB : Hid (BytesAt w1 (some ⟨w.heap.size, 0, none⟩) l) := hat
    clear hg1 HS hat
    refine (zzEsc (some ⟨w.heap.size, 0, none⟩) l.length l.length l w1 rfl (by omega) HB.out).mono ?_
    rintro e W1 ⟨s0, rfl, HS0, hb2'⟩
    have hb2 : Below w.heap.size w W1 := hb1.trans (hb2'.mono hb1.size)
    have HB1 : Hid (BytesAt W1 (some ⟨w.heap.size, 0, none⟩) l) := HB.out.below (Nat.le_refl _) hb2'
    clear hb2' hb1 HB
    go_wp2_with fail
    refine (zzEsc (some ⟨w.heap.size, 0, none⟩) cut l.length (l.take cut) W1 (by simp; omega) (by simp; omega) (HB1.out.take cut)).mono ?_
    rintro e W2 ⟨s1, rfl, HS1, hb3'⟩
    have hb3 : Below w.heap.size w W2 := hb2.trans (hb3'.mono hb2.size)
    have HB2 : Hid (BytesAt W2 (some ⟨w.heap.size, 0, none⟩) l) := HB1.out.below (Nat.le_refl _) hb3'
    clear hb3' hb2 HB1
    go_wp2_with fail
    case' inl => refine (zzEsc (some ⟨w.heap.size, 0, none⟩) 0 0 (l.drop cut) W2 (by simp; omega) (by simp; omega) (BytesAt.none _ _ _ (by simp; omega))).mono ?_
    case' inr => refine (zzEsc (some ⟨w.heap.size, cut, none⟩) (l.length - cut) (l.length - cut) (l.drop cut) W2 (by simp) (by simp; omega) (by have := HB2.out.drop cut; simpa using this)).mono ?_
    all_goals
      rintro e W3 ⟨s2, rfl, HS2, hb4'⟩
      have hb4 : Below w.heap.size w W3 := hb3.trans (hb4'.mono hb3.size)
      have HB3 : Hid (BytesAt W3 (some ⟨w.heap.size, 0, none⟩) l) := HB2.out.below (Nat.le_refl _) hb4'
      clear hb4' hb3 HB2 hmk hnn HZ
      have z1 : s1.size ≤ 196608 := by have := size_le HS1.out; simp at this; omega
      have z2 : s2.size ≤ 196608 := by have := size_le HS2.out; simp at this; omega
      have heq : (s0.toList == (s1 ++ s2).toList) = true := splits_eq l cut s0 s1 s2 HS0.out HS1.out HS2.out
      have hl1 := splits_len l cut s1 hcut HS1.out
      have HL1 : Hid (s1.size = cut + 2 * Esc.nu l cut) := hl1
      clear hl1 HS0 HS1 HS2
      go_wp2
      go_loop [9, 10] (fun p i => ∃ k : Nat, k ≤ cut ∧ i = .int .i64 k ∧ p = .int .i64 ((cut : Int) + 2 * (Esc.nu l k : Nat))) (fun _ i => cut - (intOf i).toNat)
      case atStart => exact ⟨0, Nat.zero_le _, rfl, by simp [Esc.nu]⟩
      case round =>
        obtain ⟨k, hk, rfl, rfl⟩ := hrel
        have hnl := Esc.nu_le l k
        by_cases hlt : k < cut
        · have hkl : k < l.length := by omega
          obtain ⟨c, hce⟩ : ∃ c, c = l[k] := ⟨_, rfl⟩
          have hcx : W3.cell? ⟨w.heap.size, k, none⟩ = some (.int .u8 (c.toNat : Int)) := by
            obtain ⟨b, off, e, _, hc⟩ := HB3.out k hkl
            cases e
            rw [Nat.zero_add] at hc
            rw [hc, hce, List.getD_eq_getElem?_getD, List.getElem?_eq_getElem hkl, Option.getD_some]
          have HN : Hid (Esc.nu l (k + 1) = Esc.nu l k + if Esc.unres c then 0 else 1) := by rw [hce]; exact Esc.nu_succ l k hkl
          clear hce
          by_cases hu : Esc.unres c = true
          · go_wp2_with (go_at_call 9; refine (unres_call c _).mono ?_; rintro e W4 ⟨rfl, rfl⟩)
            go_round
            case rel => exact ⟨k + 1, by omega, by go_num, by rw [HN.out, if_pos hu]; go_num⟩
            case measure => simp [intOf]; omega
          · have hu' : Esc.unres c = false := by simpa using hu
            clear hu
            go_wp2_with (go_at_call 9; refine (unres_call c _).mono ?_; rintro e W4 ⟨rfl, rfl⟩)
            go_round
            case rel => exact ⟨k + 1, by omega, by go_num, by rw [HN.out, hu']; go_num⟩
            case measure => simp [intOf]; omega
        · obtain rfl : k = cut := by omega
          go_wp2
          go_ret
          refine ⟨?_, hb4⟩
          have := HL1.out
          simp [this]

/-- what the law does not speak of: a longer slice, a cut outside -/
theorem splits_out (a : Option Addr) (len cap : Nat) (cut : Int) (w : World) (h : 65536 < len ∨ (len ≤ 65536 ∧ (cut < 0 ∨ (len : Int) < cut))) :
    Calls Try.prog 4 #[.slice a len cap, .int .i64 cut] w fun e w' => e = .returned (.bool true) ∧ Below w.heap.size w w' := by
  rcases h with h | ⟨h, h1 | h1⟩
  · by_cases h2 : 1048576 < len
    · go_enter Try.func4, Try.ntmps4
      go_wp2
      go_ret
      exact ⟨rfl, Below.refl _ _⟩
    · go_enter Try.func4, Try.ntmps4
      go_wp2
      go_ret
      exact ⟨rfl, Below.refl _ _⟩
  · go_enter Try.func4, Try.ntmps4
    go_wp2
    go_ret
    exact ⟨rfl, Below.refl _ _⟩
  · have h2 : 0 ≤ cut := by omega
    go_enter Try.func4, Try.ntmps4
    go_wp2
    go_ret
    exact ⟨rfl, Below.refl _ _⟩
end Go.Proofs.Qxb6621686a
