/-
  appendDec: how many bytes she writes.
-/
import Derived.Test.Qxb6619558aDoorReads
import Derived.OwnWalk
import Derived.Lib.SmallJoins
namespace Go.Proofs.Qxb6619558aDoor
open Go.RowKit

/-- the array of twenty bytes -/
def Row20 (w : World) (p : Nat) : Prop := ∃ D : List Value, D.length = 20 ∧ (∀ j, j < 20 → ∃ x : Int, D[j]? = some (.int .u8 x)) ∧ Own w p 50 D
theorem Row20.at {w : World} {p : Nat} (h : Row20 w p) (j : Nat) (hj : j < 20) : ∃ x : Int, w.cell? ⟨p, j, none⟩ = some (.int .u8 x) ∧ w.frozen? ⟨p, j, none⟩ = false := by
  obtain ⟨D, _, h2, h3⟩ := h
  obtain ⟨x, hx⟩ := h2 j hj
  exact ⟨x, (h3.cell j).trans hx, h3.frozen j⟩
theorem Row20.set {w : World} {p : Nat} (h : Row20 w p) (j : Nat) (x : Int) : Row20 (w.setCell ⟨p, j, none⟩ (.int .u8 x)) p := by
  obtain ⟨D, h1, h2, h3⟩ := h
  refine ⟨_, by rw [List.length_set]; exact h1, fun i hi => ?_, h3.set j _⟩
  by_cases e : j = i
  · subst e; exact ⟨x, by rw [List.getElem?_set_self (by omega)]⟩
  · rw [List.getElem?_set_ne e]; exact h2 i hi
theorem row20_new (w : World) : Row20 (w.alloc (.cells (List.replicate 20 (Value.int .u8 0)).toArray 50)) w.heap.size :=
  ⟨_, by simp, fun j hj => ⟨0, by rw [List.getElem?_replicate, if_pos hj]⟩, Own.new w 50 _⟩
theorem Row20.below {w w' : World} {p : Nat} (h : Row20 w p) {B : Nat} (hB : p < B) (hb : Below B w w') : Row20 w' p := by
  obtain ⟨D, h1, h2, h3⟩ := h
  exact ⟨D, h1, h2, h3.below hB hb⟩

theorem digits_go {u U j : Nat} (h : 20 - j + Lib.nDigits u = Lib.nDigits U) (hj : j ≤ 20) (hU : U ≤ 9223372036854775808) : 1 ≤ j := by
  have h1 := Lib.nDigits_pos u
  have h2 := Lib.nDigits_le20 U (by omega)
  omega

theorem ownsRow_form' {w : World} {base size n : Nat} {e : TypeId} {v : Value} {xs : List Value} (h : w.ownsRow base e size v n xs) : ∃ a cap, v = .slice a n cap := by
  rcases h.2 with ⟨rfl, rfl⟩ | ⟨g, cap, cur, rfl, _⟩
  · exact ⟨_, _, rfl⟩
  · exact ⟨_, _, rfl⟩

/-- the cell of a one-byte literal -/
theorem lit_cell (w : World) (H : Nat) (hH : w.heap.size = H) (x : Int) : ∀ (j : Nat) (u : Value), [Value.int .u8 x][j]? = some u → (w.alloc (.cells #[.int .u8 x] 5)).cell? ((⟨H, 0, none⟩ : Addr).add j) = some u := by
  subst hH
  intro j u hj
  match j, hj with
  | 0, hj =>
    simp at hj
    subst hj
    simp [Addr.add]
theorem lit_one (x : Int) : ∀ u ∈ [Value.int .u8 x], u.oneCell' = true := by
  intro u hu
  simp at hu
  subst hu
  rfl

set_option maxHeartbeats 1000000 in
set_option maxRecDepth 100000 in
theorem dec_nonneg (U : Nat) (hU : (U : Int) ≤ 9223372036854775807) (w : World) :
    Calls Tryd.prog 16 #[.slice none 0 0, .int .i64 (U : Int)] w fun e w' => ∃ a cap, e = .returned (.slice a (Lib.nDigits U) cap) ∧ Below w.heap.size w w' := by
  obtain ⟨i0, hi, hz0, hz1, hz2⟩ := info_parts info5
  go_enter Tryd.func16, Tryd.ntmps16
  go_wp2
  go_loopw [6, 8] (fun i v wr => ∃ j u : Nat, i = .int .i64 (j : Int) ∧ v = .int .u64 (u : Int) ∧ j ≤ 20 ∧ u ≤ 9223372036854775808 ∧ Hid (20 - j + Lib.nDigits u = Lib.nDigits U) ∧ Hid (Row20 wr w.heap.size) ∧ Below w.heap.size w wr) (fun i _ _ => (intOf i).toNat)
  case atStart => exact ⟨20, U, rfl, rfl, Nat.le_refl _, by omega, (show _ = _ by omega), row20_new w, (Below.refl _ w).alloc (Nat.le_refl _) _⟩
  case round =>
    obtain ⟨j, u, rfl, rfl, hj, hu, HD, HR, hb⟩ := hrel
    obtain ⟨t, rfl⟩ : ∃ t, j = t + 1 := ⟨j - 1, by have := digits_go HD.out hj (by omega); omega⟩
    rw [show ((t + 1 : Nat) : Int) = (t : Int) + 1 by omega]
    obtain ⟨x, c0, f0⟩ := HR.out.at t (by omega)
    by_cases hu10 : u < 10
    · have hq : (u : Int) / 10 = 0 := by omega
      have HT : Hid ((20 - t) = Lib.nDigits U) := by
        have h := HD.out
        rw [Lib.nDigits_small hu10] at h
        show _ = _
        omega
      go_wp2
      go_loopw [0, 6] (fun d i wr2 => ∃ (j : Nat), i = .int .i64 (j : Int) ∧ t ≤ j ∧ j ≤ 20 ∧ Hid (∃ xs, wr2.ownsRow (w.heap.size + 1) 5 1 d ((j - t)) xs) ∧ Hid (Row20 wr2 w.heap.size) ∧ Below w.heap.size w wr2) (fun _ i _ => 20 - (intOf i).toNat)
      case atStart => exact ⟨t, rfl, Nat.le_refl _, by omega, ⟨[], by simpa using World.ownsRow_nil _ _ _ _⟩, HR.out.set t _, one_set hb (Nat.le_refl _) _ _⟩
      case round =>
        obtain ⟨j, rfl, hj1, hj2, HO, HR2, hb2⟩ := hrel
        by_cases hlt : j < 20
        · obtain ⟨y, d0, g0⟩ := HR2.out.at j hlt
          obtain ⟨xs, hown⟩ := HO.out
          have hwl : w.heap.size + 1 ≤ wr.heap.size := by obtain ⟨D, _, _, h3⟩ := HR2.out; exact h3.lt
          go_wp2_with (at_builtin; refine wpList_append_own _ rfl _ _ 22 rfl (w.heap.size + 1) 5 i0 (.int .u8 0) 1 1 Tryd.underlying22 hi hz0 hz1 hz2 rfl (by decide) _ _ _ rfl (hown.alloc _) ⟨wr.heap.size, 0, none⟩ 1 1 [Value.int .u8 y] rfl rfl (lit_cell _ _ (by simp) y) (lit_one y) (by unfold maxLen; omega) (by omega) (by simp; omega) ?_)
          intro v2 W2 hown2 hgrow2 _
          have hbg : Below (w.heap.size + 1) wr W2 := ((Below.refl _ _).alloc hwl _).grown hgrow2 (by simp; omega) (fun k hk => (hown.lt k hk).1)
          have HR3 : Hid (Row20 W2 w.heap.size) := HR2.out.below (Nat.lt_succ_self _) hbg
          have hb3 : Below w.heap.size w W2 := hb2.trans (hbg.mono (Nat.le_succ _))
          have HO2 : Hid (∃ xs, W2.ownsRow (w.heap.size + 1) 5 1 v2 ((j + 1 - t)) xs) := ⟨_, by rw [show (j + 1 - t) = (j - t) + 1 by omega]; exact hown2⟩
          clear hown2 hgrow2 hbg hown HO
          go_wp2
          go_roundw
          case rel => exact ⟨j + 1, by go_num, by omega, by omega, HO2, HR3, hb3⟩
          case measure => simp [intOf]; omega
        · obtain ⟨xs, hown⟩ := HO.out
          obtain ⟨av, cv, rfl⟩ := ownsRow_form' hown
          go_wp2
          go_ret
          obtain rfl : j = 20 := by omega
          exact ⟨av, cv, by rw [← HT.out]; rfl, hb2⟩
    · have hq : (u : Int) / 10 ≠ 0 := by omega
      go_wp2
      go_roundw
      case rel => exact ⟨t, u / 10, rfl, by simp, by omega, by omega, (by have h := HD.out; rw [Lib.nDigits_big hu10] at h; show _ = _; omega), HR.out.set t _, one_set hb (Nat.le_refl _) _ _⟩
      case measure => simp [intOf]

set_option maxHeartbeats 1000000 in
set_option maxRecDepth 100000 in
theorem dec_neg (n : Int) (h0 : -9223372036854775808 ≤ n) (h1 : n < 0) (w : World) :
    Calls Tryd.prog 16 #[.slice none 0 0, .int .i64 n] w fun e w' => ∃ a cap, e = .returned (.slice a (Lib.nDigits n.natAbs + 1) cap) ∧ Below w.heap.size w w' := by
  obtain ⟨i0, hi, hz0, hz1, hz2⟩ := info_parts info5
  go_enter Tryd.func16, Tryd.ntmps16
  go_wp2
  go_loopw [6, 8] (fun i v wr => ∃ j u : Nat, i = .int .i64 (j : Int) ∧ v = .int .u64 (u : Int) ∧ j ≤ 20 ∧ u ≤ 9223372036854775808 ∧ Hid (20 - j + Lib.nDigits u = Lib.nDigits n.natAbs) ∧ Hid (Row20 wr w.heap.size) ∧ Below w.heap.size w wr) (fun i _ _ => (intOf i).toNat)
  case atStart => exact ⟨20, n.natAbs, rfl, (by rw [show -(n + 1) + 1 = ((n.natAbs : Nat) : Int) by omega]), Nat.le_refl _, by omega, (show _ = _ by omega), row20_new w, (Below.refl _ w).alloc (Nat.le_refl _) _⟩
  case round =>
    obtain ⟨j, u, rfl, rfl, hj, hu, HD, HR, hb⟩ := hrel
    obtain ⟨t, rfl⟩ : ∃ t, j = t + 1 := ⟨j - 1, by have := digits_go HD.out hj (by omega); omega⟩
    rw [show ((t + 1 : Nat) : Int) = (t : Int) + 1 by omega]
    obtain ⟨x, c0, f0⟩ := HR.out.at t (by omega)
    by_cases hu10 : u < 10
    · have hq : (u : Int) / 10 = 0 := by omega
      have HT : Hid (1 + (20 - t) = Lib.nDigits n.natAbs + 1) := by
        have h := HD.out
        rw [Lib.nDigits_small hu10] at h
        show _ = _
        omega
      have HRx : Hid (Row20 (wr.setCell ⟨w.heap.size, t, none⟩ (.int .u8 (48 + (u : Int) % 10))) w.heap.size) := HR.out.set t _
      have hbx : Below w.heap.size w (wr.setCell ⟨w.heap.size, t, none⟩ (.int .u8 (48 + (u : Int) % 10))) := one_set hb (Nat.le_refl _) _ _
      have hwl : w.heap.size + 1 ≤ (wr.setCell ⟨w.heap.size, t, none⟩ (.int .u8 (48 + (u : Int) % 10))).heap.size := by obtain ⟨D, _, _, h3⟩ := HRx.out; exact h3.lt
      go_wp2_with (at_builtin; refine wpList_append_own _ rfl _ _ 22 rfl (w.heap.size + 1) 5 i0 (.int .u8 0) 1 1 Tryd.underlying22 hi hz0 hz1 hz2 rfl (by decide) _ _ _ rfl (World.ownsRow_nil _ _ _ _) ⟨wr.heap.size, 0, none⟩ 1 1 [Value.int .u8 45] rfl rfl (lit_cell _ _ (by simp) 45) (lit_one 45) (by unfold maxLen; omega) (by omega) (by simp at hwl ⊢; omega) ?_)
      intro v1 W1 hown1 hgrow1 _
      have hbg : Below (w.heap.size + 1) (wr.setCell ⟨w.heap.size, t, none⟩ (.int .u8 (48 + (u : Int) % 10))) W1 := ((Below.refl _ _).alloc hwl _).grown hgrow1 (by simp at hwl ⊢; omega) (fun k hk => by cases hk)
      have HR1 : Hid (Row20 W1 w.heap.size) := HRx.out.below (Nat.lt_succ_self _) hbg
      have hb1 : Below w.heap.size w W1 := hbx.trans (hbg.mono (Nat.le_succ _))
      have HO1 : Hid (∃ xs, W1.ownsRow (w.heap.size + 1) 5 1 v1 1 xs) := ⟨_, by simpa using hown1⟩
      clear hown1 hgrow1 hbg hbx HRx hwl
      go_wp2
      go_loopw [0, 6] (fun d i wr2 => ∃ (j : Nat), i = .int .i64 (j : Int) ∧ t ≤ j ∧ j ≤ 20 ∧ Hid (∃ xs, wr2.ownsRow (w.heap.size + 1) 5 1 d (1 + (j - t)) xs) ∧ Hid (Row20 wr2 w.heap.size) ∧ Below w.heap.size w wr2) (fun _ i _ => 20 - (intOf i).toNat)
      case atStart => exact ⟨t, rfl, Nat.le_refl _, by omega, (by obtain ⟨xs, h⟩ := HO1.out; exact ⟨xs, by simpa using h⟩), HR1, hb1⟩
      case round =>
        obtain ⟨j, rfl, hj1, hj2, HO, HR2, hb2⟩ := hrel
        by_cases hlt : j < 20
        · obtain ⟨y, d0, g0⟩ := HR2.out.at j hlt
          obtain ⟨xs, hown⟩ := HO.out
          have hwl : w.heap.size + 1 ≤ wr.heap.size := by obtain ⟨D, _, _, h3⟩ := HR2.out; exact h3.lt
          go_wp2_with (at_builtin; refine wpList_append_own _ rfl _ _ 22 rfl (w.heap.size + 1) 5 i0 (.int .u8 0) 1 1 Tryd.underlying22 hi hz0 hz1 hz2 rfl (by decide) _ _ _ rfl (hown.alloc _) ⟨wr.heap.size, 0, none⟩ 1 1 [Value.int .u8 y] rfl rfl (lit_cell _ _ (by simp) y) (lit_one y) (by unfold maxLen; omega) (by omega) (by simp; omega) ?_)
          intro v2 W2 hown2 hgrow2 _
          have hbg : Below (w.heap.size + 1) wr W2 := ((Below.refl _ _).alloc hwl _).grown hgrow2 (by simp; omega) (fun k hk => (hown.lt k hk).1)
          have HR3 : Hid (Row20 W2 w.heap.size) := HR2.out.below (Nat.lt_succ_self _) hbg
          have hb3 : Below w.heap.size w W2 := hb2.trans (hbg.mono (Nat.le_succ _))
          have HO2 : Hid (∃ xs, W2.ownsRow (w.heap.size + 1) 5 1 v2 (1 + (j + 1 - t)) xs) := ⟨_, by rw [show 1 + (j + 1 - t) = 1 + (j - t) + 1 by omega]; exact hown2⟩
          clear hown2 hgrow2 hbg hown HO
          go_wp2
          go_roundw
          case rel => exact ⟨j + 1, by go_num, by omega, by omega, HO2, HR3, hb3⟩
          case measure => simp [intOf]; omega
        · obtain ⟨xs, hown⟩ := HO.out
          obtain ⟨av, cv, rfl⟩ := ownsRow_form' hown
          go_wp2
          go_ret
          obtain rfl : j = 20 := by omega
          exact ⟨av, cv, by rw [← HT.out]; rfl, hb2⟩
    · have hq : (u : Int) / 10 ≠ 0 := by omega
      go_wp2
      go_roundw
      case rel => exact ⟨t, u / 10, rfl, by simp, by omega, by omega, (by have h := HD.out; rw [Lib.nDigits_big hu10] at h; show _ = _; omega), HR.out.set t _, one_set hb (Nat.le_refl _) _ _⟩
      case measure => simp [intOf]

/-- appendDec(nil, n): as many bytes as the decimal numeral has -/
theorem dec_call (n : Int) (h0 : -9223372036854775808 ≤ n) (h1 : n ≤ 9223372036854775807) (w : World) :
    Calls Tryd.prog 16 #[.slice none 0 0, .int .i64 n] w fun e w' => ∃ a cap, e = .returned (.slice a (Lib.itoa n).length cap) ∧ Below w.heap.size w w' := by
  by_cases hn : n < 0
  · have e : (Lib.itoa n).length = Lib.nDigits n.natAbs + 1 := by unfold Lib.itoa; rw [if_pos hn, List.length_cons, Lib.decDigits_length]
    rw [e]; exact dec_neg n h0 hn w
  · obtain ⟨U, rfl⟩ : ∃ U : Nat, n = (U : Int) := ⟨n.toNat, by omega⟩
    have e : (Lib.itoa (U : Int)).length = Lib.nDigits U := by unfold Lib.itoa; rw [if_neg hn, Lib.decDigits_length]; rfl
    rw [e]; exact dec_nonneg U h1 w
end Go.Proofs.Qxb6619558aDoor
