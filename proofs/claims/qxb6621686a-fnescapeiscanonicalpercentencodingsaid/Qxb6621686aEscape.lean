import Derived.Test.Qxb6621686aShelf
import Derived.Test.Qxb6621686aPlain
import Derived.WalkKit
import Derived.BigCall
namespace Go.Proofs.Qxb6621686a
open Go.RowKit

/-- the bytes 'l' lie in the cells from 'a' on, all of them in blocks that are there -/
def BytesAt (w : World) (a : Option Addr) (l : List UInt8) : Prop :=
  ∀ i, i < l.length → ∃ b off, a = some ⟨b, off, none⟩ ∧ b < w.heap.size ∧ w.cell? ⟨b, off + i, none⟩ = some (.int .u8 ((l.getD i 0).toNat : Int))

theorem BytesAt.below {w w' : World} {a : Option Addr} {l : List UInt8} (h : BytesAt w a l) {B : Nat} (hB : w.heap.size ≤ B) (hb : Below B w w') : BytesAt w' a l := by
  intro i hi
  obtain ⟨b, off, e, hlt, hc⟩ := h i hi
  refine ⟨b, off, e, by have := hb.size; omega, ?_⟩
  rw [hb.cell (p := ⟨b, off + i, none⟩) (show b < B by omega)]; exact hc

theorem hex_at (n : Nat) (h : n < 16) : (({ data := #[48, 49, 50, 51, 52, 53, 54, 55, 56, 57, 65, 66, 67, 68, 69, 70] } : ByteArray)[n]'h) = Esc.hexd (UInt8.ofNat n) := by
  match n, h with
  | 0, _ => rfl
  | 1, _ => rfl
  | 2, _ => rfl
  | 3, _ => rfl
  | 4, _ => rfl
  | 5, _ => rfl
  | 6, _ => rfl
  | 7, _ => rfl
  | 8, _ => rfl
  | 9, _ => rfl
  | 10, _ => rfl
  | 11, _ => rfl
  | 12, _ => rfl
  | 13, _ => rfl
  | 14, _ => rfl
  | 15, _ => rfl
  | n + 16, h => exact absurd h (by omega)

theorem cells_hex (acc : List UInt8) (c : UInt8) (h1 : c.toNat / 16 < 16) (h2 : c.toNat % 16 < 16) :
    Lib.byteCells (acc ++ [37, Esc.hexd (c / 16), Esc.hexd (c % 16)]) = Lib.byteCells acc ++ [Value.int .u8 37]
      ++ [Value.int .u8 ((({ data := #[48, 49, 50, 51, 52, 53, 54, 55, 56, 57, 65, 66, 67, 68, 69, 70] } : ByteArray)[c.toNat / 16]'h1).toNat : Int)]
      ++ [Value.int .u8 ((({ data := #[48, 49, 50, 51, 52, 53, 54, 55, 56, 57, 65, 66, 67, 68, 69, 70] } : ByteArray)[c.toNat % 16]'h2).toNat : Int)] := by
  rw [hex_at _ h1, hex_at _ h2]
  have e1 : UInt8.ofNat (c.toNat / 16) = c / 16 := by apply UInt8.toNat_inj.1; simp; have := c.toNat_lt; omega
  have e2 : UInt8.ofNat (c.toNat % 16) = c % 16 := by apply UInt8.toNat_inj.1; simp; omega
  rw [e1, e2]
  simp [Lib.byteCells]

set_option maxHeartbeats 4000000 in
set_option maxRecDepth 1000000 in
theorem escape_walk (a : Option Addr) (cap : Nat) (l : List UInt8) (w : World) (hl : l.length ≤ 1048576) (hc : BytesAt w a l) :
    Calls Try.prog 12 #[.slice a l.length cap] w fun e w' => e = .returned (.string ⟨(Esc.esc l).toArray⟩) ∧ Below w.heap.size w w' := by
  go_enter Try.func12, Try.ntmps12
  go_wp2
  go_loopw [8] (fun i wr => ∃ k : Nat, k ≤ l.length ∧ i = .int .i64 k ∧ Lib.IsBuilderF 32 5 w.heap.size w.heap.size (Lib.byteCells (Esc.esc (l.take k))) wr ∧ Below w.heap.size w wr) (fun i _ => l.length - (intOf i).toNat)
  case atStart =>
    exact ⟨0, Nat.zero_le _, rfl, Lib.IsBuilderF.of (Lib.fresh_isBuilder 32 5 w), (Below.refl _ w).alloc (Nat.le_refl _) _⟩
  case round =>
    obtain ⟨k, hk, rfl, hI, hbw⟩ := hrel
    have hsz : w.heap.size ≤ wr.heap.size := hbw.size
    have hlen := Esc.esc_len_le (l.take k)
    have htk : (l.take k).length ≤ k := List.length_take_le _ _
    by_cases hlt : k < l.length
    · obtain ⟨c, hce⟩ : ∃ c, c = l[k] := ⟨_, rfl⟩
      obtain ⟨b, off, rfl, hb, hcell⟩ := hc k hlt
      clear hc
      have hcx : wr.cell? ⟨b, off + k, none⟩ = some (.int .u8 (c.toNat : Int)) := by
        rw [hbw.cell (p := ⟨b, off + k, none⟩) hb, hcell, hce]; simp [List.getD_eq_getElem?_getD, hlt]
      have HS : Hid (Esc.esc (l.take (k + 1)) = Esc.esc (l.take k) ++ Esc.esc1 c) := by
        rw [hce]; exact Esc.esc_take_succ l k hlt
      clear hce hcell
      obtain ⟨acc, hacc⟩ : ∃ acc, acc = Esc.esc (l.take k) := ⟨_, rfl⟩
      rw [← hacc] at hI hlen HS
      clear hacc
      have h255 : (c.toNat : Int) ≤ 255 := by have := c.toNat_lt; omega
      by_cases hu : Esc.unres c = true
      · have hz := Esc.unres_yes c hu
        have H1 : Hid (Esc.esc1 c = [c]) := Esc.esc1_yes c hu
        clear hu
        go_wp2_with (go_at_call 13; refine (Try.Builder_WriteByte_k w.heap.size w.heap.size _ (c.toNat : Int) _ hI (by rw [Lib.byteCells_length]; omega) hsz).mono ?_; rintro e W1 ⟨rfl, h1, b1, k1⟩)
        all_goals
          go_roundw
          case rel =>
            refine ⟨k + 1, by omega, by go_num, ?_, hbw.trans b1⟩
            rw [HS.out, H1.out, Lib.byteCells_append]; exact Or.inr h1
          case measure => simp [intOf]; omega
      · have hz := Esc.unres_no c hu
        have H1 : Hid (Esc.esc1 c = [37, Esc.hexd (c / 16), Esc.hexd (c % 16)]) := Esc.esc1_no c hu
        clear hu
        go_wp2_with (go_at_call_of 13 (Value.int .u8 37); refine (Try.Builder_WriteByte_k w.heap.size w.heap.size _ 37 _ hI (by rw [Lib.byteCells_length]; omega) hsz).mono ?_; rintro e W1 ⟨rfl, h1, b1, k1⟩)
        all_goals
          refine (Try.Builder_WriteByte_k w.heap.size w.heap.size _ _ _ (Or.inr h1) (by simp [Lib.byteCells_length]; omega) (by have := b1.size; omega)).mono ?_
          rintro e W2 ⟨rfl, h2, b2, k2⟩
          go_wp2_with fail
          refine (Try.Builder_WriteByte_k w.heap.size w.heap.size _ _ _ (Or.inr h2) (by simp [Lib.byteCells_length]; omega) (by have := b1.size; have := b2.size; omega)).mono ?_
          rintro e W3 ⟨rfl, h3, b3, k3⟩
          go_wp2
          go_roundw
          case rel =>
            refine ⟨k + 1, by omega, by go_num, ?_, ((hbw.trans b1).trans b2).trans b3⟩
            rw [HS.out, H1.out, cells_hex acc c (by have := c.toNat_lt; omega) (by omega)]; exact Or.inr h3
          case measure => simp [intOf]; omega
    · clear hc
      go_wp2_with (go_at_call 14; refine (Try.Builder_String_any_k w.heap.size w.heap.size _ _ hI hsz).mono ?_; rintro e W1 ⟨rfl, h1, b1, k1⟩)
      go_ret
      have : l.take k = l := List.take_of_length_le (by omega)
      rw [this]
      exact ⟨rfl, hbw.trans b1⟩

/-- ZZEscape hands on -/
theorem zzEscape (a : Option Addr) (cap : Nat) (l : List UInt8) (w : World) (hl : l.length ≤ 1048576) (hc : BytesAt w a l) :
    Calls Try.prog 7 #[.slice a l.length cap] w fun e w' => e = .returned (.string ⟨(Esc.esc l).toArray⟩) ∧ Below w.heap.size w w' := by
  go_enter Try.func7, Try.ntmps7
  go_wp2_with (go_at_call 12; refine (escape_walk a cap l _ hl hc).mono ?_; rintro e W1 ⟨rfl, b1⟩)
  go_ret
  exact ⟨rfl, b1⟩
end Go.Proofs.Qxb6621686a
