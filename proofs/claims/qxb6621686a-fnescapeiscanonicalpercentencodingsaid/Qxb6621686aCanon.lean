import Derived.Test.Qxb6621686aUnres
namespace Go.Proofs.Qxb6621686a
open Go.RowKit

theorem hexd_lo (n : UInt8) (h : n.toNat < 10) : (Esc.hexd n).toNat = 48 + n.toNat := by
  have h' : n < 10 := by rw [UInt8.lt_iff_toNat_lt]; simpa using h
  unfold Esc.hexd; rw [if_pos h']; simp; omega
theorem hexd_hi (n : UInt8) (h : 10 ≤ n.toNat) (h2 : n.toNat < 16) : (Esc.hexd n).toNat = 55 + n.toNat := by
  have h' : ¬ n < 10 := by rw [UInt8.lt_iff_toNat_lt]; simpa using h
  unfold Esc.hexd; rw [if_neg h']; simp; omega

/-- zzUpperHex reads back what 'hexd' wrote -/
theorem upper_call (n : UInt8) (w : World) (z : Int) (h : n.toNat < 16) (hz : z = ((Esc.hexd n).toNat : Int)) : Calls Try.prog 8 #[.int .u8 z] w fun e w' => e = .returned (.tuple #[.int .u8 (n.toNat : Int), .bool true]) ∧ w' = w := by
  by_cases h10 : n.toNat < 10
  · rw [hexd_lo n h10] at hz
    have z1 : 48 ≤ z := by omega
    have z2 : z ≤ 57 := by omega
    have HZ : Hid (z = ((48 + n.toNat : Nat) : Int)) := hz
    clear hz
    go_enter Try.func8, Try.ntmps8
    go_wp2
    go_ret2
    refine ⟨?_, rfl⟩
    rw [show z - 48 = (n.toNat : Int) by have := HZ.out; omega]
    rfl
  · rw [hexd_hi n (by omega) h] at hz
    have z1 : 65 ≤ z := by omega
    have z2 : z ≤ 70 := by omega
    have HZ : Hid (z = ((55 + n.toNat : Nat) : Int)) := hz
    clear hz
    go_enter Try.func8, Try.ntmps8
    go_wp2
    go_ret2
    refine ⟨?_, rfl⟩
    rw [show z - 65 + 10 = (n.toNat : Int) by have := HZ.out; omega]
    rfl

/-- the two digits, put together -/
theorem or_back (c : UInt8) : bits BinOp.or IntKind.u8 ((c.toNat : Int) / 16 * 16) ((c.toNat : Int) % 16) = (c.toNat : Int) := by
  revert c; apply Esc.all_bytes; decide +kernel

/-- where the text of the first k bytes ends -/
def epos (l : List UInt8) (k : Nat) : Nat := (Esc.esc (l.take k)).length

theorem canon_step (l : List UInt8) (s : ByteArray) (h1 : s.data.toList = Esc.esc l) (k : Nat) (h : k < l.length) :
    (Esc.unres l[k] = true → ∃ h0 : epos l k < s.size, epos l (k + 1) = epos l k + 1 ∧ s[epos l k].toNat = l[k].toNat) ∧
    (¬ Esc.unres l[k] = true → ∃ h0 : epos l k + 2 < s.size, epos l (k + 1) = epos l k + 3 ∧ s[epos l k].toNat = 37 ∧ s[epos l k + 1] = Esc.hexd (l[k] / 16) ∧ s[epos l k + 2] = Esc.hexd (l[k] % 16)) := by
  have hs := Esc.esc_take_succ l k h
  have hlen := Esc.esc_take_len l k h
  have hat := Esc.esc_at l k h
  rw [← h1, size_len] at hlen
  rw [← h1] at hat
  have hpos : epos l (k + 1) = epos l k + (Esc.esc1 l[k]).length := by unfold epos; rw [hs, List.length_append]
  have fin : ∀ i (hi : i < (Esc.esc1 l[k]).length) (hb : epos l k + i < s.size), s[epos l k + i] = (Esc.esc1 l[k])[i] := by
    intro i hi hb
    have := hat i hi
    rw [List.getElem?_eq_getElem hi] at this
    have e : s.data.toList[epos l k + i]? = some s[epos l k + i] := by rw [List.getElem?_eq_getElem (by rw [size_len]; exact hb)]; rfl
    unfold epos at e ⊢
    rw [this] at e
    exact (Option.some.inj e).symm
  have hlen' : epos l k + (Esc.esc1 l[k]).length ≤ s.size := hlen
  constructor
  · intro hc
    have e1 := Esc.esc1_yes _ hc
    have hl1 : (Esc.esc1 l[k]).length = 1 := by rw [e1]; rfl
    refine ⟨by omega, by omega, ?_⟩
    have := fin 0 (by omega) (by omega); simp only [e1] at this; simp at this; rw [this]
  · intro hc
    have e1 := Esc.esc1_no _ hc
    have hl3 : (Esc.esc1 l[k]).length = 3 := by rw [e1]; rfl
    refine ⟨by omega, by omega, ?_, ?_, ?_⟩
    · have := fin 0 (by omega) (by omega); simp only [e1] at this; simp at this; rw [this]; rfl
    · have := fin 1 (by omega) (by omega); simp only [e1] at this; simp at this; rw [this]
    · have := fin 2 (by omega) (by omega); simp only [e1] at this; simp at this; rw [this]

set_option maxHeartbeats 1000000 in
set_option maxRecDepth 100000 in
theorem canon_walk (a : Option Addr) (cap : Nat) (l : List UInt8) (w : World) (hm : l.length ≤ 65536) (hx : ∀ x, a = some x → l.length ≠ 0 → x.block < w.heap.size)
    (hcell : ∀ x, a = some x → ∀ i, i < l.length → w.cell? (x.add i) = some (.int .u8 ((l.getD i 0).toNat : Int))) (ha : a = none → l.length = 0) :
    Calls Try.prog 3 #[.slice a l.length cap] w fun e w' => e = .returned (.bool true) ∧ Below w.heap.size w w' := by
  have hnn := fun W n c => run_neq_slice_nil_any (P := Try.prog) W 22 5 a n c 0 0 Try.underlying22
  obtain ⟨Z, hZ, hmk⟩ := make_bytes l.length (by omega)
  have HZ : Hid (Z.length = l.length) := hZ
  clear hZ
  cases a
  case' none =>
    have H0 : Hid (l.length = 0) := ha rfl
    clear ha hcell hx
    go_enter Try.func3, Try.ntmps3
    go_wp2_with (go_at_call 6; go_in)
    refine (zzEsc none l.length cap l w rfl (by omega) (fun i hi => absurd hi (by rw [H0.out]; omega))).mono ?_
    rintro e W1 ⟨s1, rfl, HS1, hb2⟩
    have HB1 : Hid (BytesAt W1 none l) := fun i hi => absurd hi (by rw [H0.out]; omega)
    clear H0
  case' some x =>
    have HS : Hid (∀ j v, (Lib.byteCells l)[j]? = some v → (w.alloc (.cells Z.toArray 5)).cell? (x.add j) = some v) := copy_src l _ (hx x rfl) (hcell x rfl)
    clear ha hcell hx
    go_enter Try.func3, Try.ntmps3
    go_wp2_with (first | (go_at_call 6; go_in) | (refine wpList_copy_splice rfl (.tmp 24) (.tmp 25) 22 22 rfl 5 Try.underlying22 (by kernel_rfl) _ _ _ _ _ _ rfl rfl w.heap.size 0 Z 5 (heap_alloc_new _ _) (Lib.byteCells l) (by simp [Lib.byteCells_length]) (fun _ => ⟨rfl, _, rfl, HS.out⟩) (by rw [Lib.byteCells_length, HZ.out]; omega) (cells_one l) w.heap.size w ((Below.refl _ w).alloc (Nat.le_refl _) _) (Nat.le_refl _) ?_; intro w1 hg1 hb1))
    refine (zzEsc (some ⟨w.heap.size, 0, none⟩) l.length l.length l w1 rfl (by omega) (bytesAt_row l hg1.out (splice_all Z l))).mono ?_
    rintro e W1 ⟨s1, rfl, HS1, hb2'⟩
    have hb2 : Below w.heap.size w W1 := hb1.trans (hb2'.mono hb1.size)
    have HB1 : Hid (BytesAt W1 (some ⟨w.heap.size, 0, none⟩) l) := (bytesAt_row l hg1.out (splice_all Z l)).below (Nat.le_refl _) hb2'
    clear hb2' hb1 hg1 HS
  all_goals
    clear hnn hmk HZ
    have z1 : s1.size ≤ 196608 := by have := size_le HS1.out; omega
    have T : Hid (∀ k (h : k < l.length), _) := fun k h => canon_step l s1 HS1.out k h
    have HE : Hid (∀ k, epos l k < s1.size → k < l.length) := fun k h => Esc.esc_take_lt l k (by rw [← HS1.out, size_len]; exact h)
    have HF : Hid (epos l l.length = s1.size) := (show _ = _ by unfold epos; rw [List.take_length, ← HS1.out, size_len])
    clear HS1
    go_wp2
    go_loop [5, 6] (fun p i => ∃ k : Nat, k ≤ l.length ∧ i = .int .i64 k ∧ p = .int .i64 (epos l k : Nat) ∧ epos l k ≤ s1.size) (fun p _ => s1.size - (intOf p).toNat)
    case atStart => exact ⟨0, Nat.zero_le _, rfl, rfl, Nat.zero_le _⟩
    case round =>
      obtain ⟨k, hk, rfl, rfl, hp⟩ := hrel
      by_cases hlt : epos l k < s1.size
      · have hkl := HE.out k hlt
        have TS := T.out k hkl
        obtain ⟨c, hce⟩ : ∃ c, c = l[k] := ⟨_, rfl⟩
        obtain ⟨b, off, e0, _, hc0⟩ := HB1.out k hkl
        cases e0
        all_goals
          have hcx : W1.cell? ⟨w.heap.size, k, none⟩ = some (.int .u8 (c.toNat : Int)) := by
            rw [Nat.zero_add] at hc0
            rw [hc0, hce, List.getD_eq_getElem?_getD, List.getElem?_eq_getElem hkl, Option.getD_some]
          rw [← hce] at TS
          clear hce hc0
          by_cases hu : Esc.unres c = true
          · obtain ⟨h0, h1, h2⟩ := TS.1 hu
            have HH : Hid (epos l (k + 1) = epos l k + 1) := h1
            have hz := Esc.unres_yes c hu
            clear h1 TS
            go_wp2_with (go_at_call 9; refine (unres_call c _).mono ?_; rintro e W4 ⟨rfl, rfl⟩)
            go_round
            case rel => exact ⟨k + 1, by omega, by go_num, by rw [HH.out]; go_num, by rw [HH.out]; omega⟩
            case measure => simp [intOf]; omega
          · obtain ⟨h0, h1, h2, h3, h4⟩ := TS.2 hu
            have HH : Hid (epos l (k + 1) = epos l k + 3) := h1
            have hu' : Esc.unres c = false := by simpa using hu
            have h255 := c.toNat_lt
            have hn1 : (c / 16).toNat < 16 := by simp; omega
            have hn2 : (c % 16).toNat < 16 := by simp; omega
            have hor := or_back c
            clear h1 TS hu
            go_wp2_with fail
            refine (upper_call (c / 16) _ _ hn1 rfl).mono ?_
            rintro e W4 ⟨rfl, rfl⟩
            go_wp2_with fail
            refine (upper_call (c % 16) _ _ hn2 rfl).mono ?_
            rintro e W4 ⟨rfl, rfl⟩
            go_wp2_with (go_at_call 9; refine (unres_call c _).mono ?_; rintro e W5 ⟨rfl, rfl⟩)
            go_round
            case rel => exact ⟨k + 1, by omega, by go_num, by rw [HH.out]; go_num, by rw [HH.out]; omega⟩
            case measure => simp [intOf]; omega
      · obtain rfl : k = l.length := by
          rcases Nat.lt_or_ge k l.length with h' | h'
          · by_cases hu : Esc.unres l[k] = true
            · obtain ⟨h0, _⟩ := (T.out k h').1 hu; omega
            · obtain ⟨h0, _⟩ := (T.out k h').2 hu; omega
          · omega
        go_wp2
        go_ret
        exact ⟨rfl, hb2⟩

/-- a slice that is longer than the law speaks of -/
theorem canon_big (a : Option Addr) (len cap : Nat) (w : World) (h : 65536 < len) :
    Calls Try.prog 3 #[.slice a len cap] w fun e w' => e = .returned (.bool true) ∧ Below w.heap.size w w' := by
  by_cases h2 : 1048576 < len
  · go_enter Try.func3, Try.ntmps3
    go_wp2
    go_ret
    exact ⟨rfl, Below.refl _ _⟩
  · go_enter Try.func3, Try.ntmps3
    go_wp2
    go_ret
    exact ⟨rfl, Below.refl _ _⟩
end Go.Proofs.Qxb6621686a
