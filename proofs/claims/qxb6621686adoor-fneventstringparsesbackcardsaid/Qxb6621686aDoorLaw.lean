import Derived.Test.Qxb6621686aDoorParse
import Derived.WalkSmall
namespace Go.Proofs.Qxb6621686aDoor
open Go.RowKit

theorem evL_else {n : Int} (h : n < 0 ∨ 4 ≤ n) : Ev.evL n = [69, 118, 101, 110, 116, 40] ++ Lib.itoa n ++ [41] := by
  unfold Ev.evL
  rw [if_neg (by omega), if_neg (by omega), if_neg (by omega), if_neg (by omega)]

theorem itoa_inj {a b : Int} (h : Lib.itoa a = Lib.itoa b) : a = b := by
  have key : ∀ u : Nat, ∀ c ∈ Lib.decDigits u, c ≠ 45 := by
    intro u c hc e
    have := (Ev.dec_facts u).2.1 c hc
    rw [e] at this
    exact absurd this.1 (by decide)
  have inj : ∀ u v : Nat, Lib.decDigits u = Lib.decDigits v → u = v := by
    intro u v e
    rw [← (Ev.dec_facts u).1, e, (Ev.dec_facts v).1]
  have mix : ∀ u v : Nat, 45 :: Lib.decDigits u ≠ Lib.decDigits v := by
    intro u v e
    exact key v 45 (by rw [← e]; simp) rfl
  unfold Lib.itoa at h
  by_cases ha : a < 0
  · by_cases hb : b < 0
    · rw [if_pos ha, if_pos hb] at h
      have := inj _ _ (List.cons.inj h).2
      omega
    · rw [if_pos ha, if_neg hb] at h
      exact absurd h (mix _ _)
  · by_cases hb : b < 0
    · rw [if_neg ha, if_pos hb] at h
      exact absurd h.symm (mix _ _)
    · rw [if_neg ha, if_neg hb] at h
      have := inj _ _ h
      omega

theorem evL_small {n : Int} (h0 : 0 ≤ n) (h3 : n ≤ 3) : n = 0 ∨ n = 1 ∨ n = 2 ∨ n = 3 := by omega

theorem evL_inj {a b : Int} (h : Ev.evL a = Ev.evL b) : a = b := by
  have big : ∀ {n : Int}, (n < 0 ∨ 4 ≤ n) → (Ev.evL n).head? = some 69 := by
    intro n hn
    rw [evL_else hn]; simp
  have small : ∀ {n : Int}, 0 ≤ n → n ≤ 3 → (Ev.evL n).head? ≠ some 69 := by
    intro n h0 h3
    rcases evL_small h0 h3 with rfl | rfl | rfl | rfl <;> decide
  by_cases ha : a < 0 ∨ 4 ≤ a
  · by_cases hb : b < 0 ∨ 4 ≤ b
    · rw [evL_else ha, evL_else hb] at h
      simp only [List.append_assoc, List.append_cancel_left_eq, List.append_cancel_right_eq] at h
      exact itoa_inj h
    · exact absurd (h ▸ big ha) (small (by omega) (by omega))
  · by_cases hb : b < 0 ∨ 4 ≤ b
    · exact absurd (h ▸ big hb) (small (by omega) (by omega))
    · rcases evL_small (n := a) (by omega) (by omega) with rfl | rfl | rfl | rfl <;> rcases evL_small (n := b) (by omega) (by omega) with rfl | rfl | rfl | rfl <;> first | rfl | exact absurd h (by decide)

set_option maxRecDepth 100000 in
/-- zzParseEvent reads an event's text back -/
theorem parse_call (n : Int) (h0 : -9223372036854775808 ≤ n) (h1 : n ≤ 9223372036854775807) (s : ByteArray) (hs : s.data.toList = Ev.evL n) (w : World) :
    Calls Tryd.prog 5 #[.string s] w fun e w' => e = .returned (.tuple #[.int .i64 n, .bool true]) ∧ w' = w := by
  by_cases hb : n < 0 ∨ 4 ≤ n
  · rw [evL_else hb] at hs
    have hle := Lib.itoa_length_le n h0 h1
    by_cases hn : n < 0
    · obtain ⟨m, rfl⟩ : ∃ m : Nat, n = -(m : Int) := ⟨n.natAbs, by omega⟩
      rw [Lib.itoa_neg m (by omega)] at hs hle
      obtain ⟨f1, f2, f3, f4⟩ := Ev.dec_facts m
      exact parse_neg s m (Lib.decDigits m) hs (by omega) (by omega) f1 f2 f3 (by simp at hle; omega) (f4 (by omega)) w
    · obtain ⟨m, rfl⟩ : ∃ m : Nat, n = (m : Int) := ⟨n.toNat, by omega⟩
      rw [Lib.itoa_nonneg m] at hs hle
      obtain ⟨f1, f2, f3, f4⟩ := Ev.dec_facts m
      exact parse_pos s m (Lib.decDigits m) hs (by omega) (by omega) f1 f2 f3 hle (f4 (by omega)) w
  · rcases evL_small (n := n) (by omega) (by omega) with rfl | rfl | rfl | rfl
    · have t1 : s.toList = [110, 111, 110, 101] := by rw [Lib.toList_data, hs]; rfl
      clear hs
      go_enter Tryd.func5, Tryd.ntmps5
      go_wp2
      go_ret2
      exact ⟨rfl, rfl⟩
    · have t1 : s.toList = [115, 116, 97, 114, 116, 101, 100] := by rw [Lib.toList_data, hs]; rfl
      clear hs
      go_enter Tryd.func5, Tryd.ntmps5
      go_wp2
      go_ret2
      exact ⟨rfl, rfl⟩
    · have t1 : s.toList = [99, 111, 109, 112, 108, 101, 116, 101, 100] := by rw [Lib.toList_data, hs]; rfl
      clear hs
      go_enter Tryd.func5, Tryd.ntmps5
      go_wp2
      go_ret2
      exact ⟨rfl, rfl⟩
    · have t1 : s.toList = [115, 116, 111, 112, 112, 101, 100] := by rw [Lib.toList_data, hs]; rfl
      clear hs
      go_enter Tryd.func5, Tryd.ntmps5
      go_wp2
      go_ret2
      exact ⟨rfl, rfl⟩

theorem tab_below {w w' : World} (h : Below w.heap.size w w') (ht : Lib.TabIs Tryd.prog w powName .u64 Lib.pow10Tab) : Lib.TabIs Tryd.prog w' powName .u64 Lib.pow10Tab := by
  have hg : Tryd.prog.globalNamed powName = some 0 := by kernel_rfl
  unfold Lib.TabIs at ht ⊢
  refine var?_below h hg ?_ ht
  unfold World.var? at ht
  rw [hg, Option.bind_some] at ht
  rcases Nat.lt_or_ge 0 w.heap.size with h2 | h2
  · exact h2
  · rw [Array.getElem?_eq_none h2] at ht
    cases ht

set_option maxRecDepth 100000 in
theorem law_walk (a b : Int) (a0 : -9223372036854775808 ≤ a) (a1 : a ≤ 9223372036854775807) (b0 : -9223372036854775808 ≤ b) (b1 : b ≤ 9223372036854775807) (w : World) (htab : Lib.TabIs Tryd.prog w powName .u64 Lib.pow10Tab) :
    Calls Tryd.prog 3 #[.int .i64 a, .int .i64 b] w fun e w' => e = .returned (.bool true) ∧ Below w.heap.size w w' := by
  have HT : Hid (Lib.TabIs Tryd.prog w powName .u64 Lib.pow10Tab) := htab
  clear htab
  go_enter Tryd.func3, Tryd.ntmps3
  go_wp2_with fail
  refine (string_call a a0 a1 _ HT.out).mono ?_
  rintro e W1 ⟨sa, rfl, HA, hb1⟩
  have HT1 : Hid (Lib.TabIs Tryd.prog W1 powName .u64 Lib.pow10Tab) := tab_below hb1 HT.out
  clear HT
  go_wp2_with fail
  refine (string_call b b0 b1 _ HT1.out).mono ?_
  rintro e W2 ⟨sb, rfl, HB, hb2'⟩
  have hb2 : Below w.heap.size w W2 := hb1.trans (hb2'.mono hb1.size)
  clear HT1 hb1 hb2'
  go_wp2_with fail
  refine (parse_call a a0 a1 sa HA.out _).mono ?_
  rintro e W3 ⟨rfl, rfl⟩
  go_wp2_with fail
  refine (parse_call b b0 b1 sb HB.out _).mono ?_
  rintro e W3 ⟨rfl, rfl⟩
  have heq : (sa.toList == sb.toList) = (a == b) := by
    by_cases e : a = b
    · subst e
      have : sa.toList = sb.toList := by rw [Lib.toList_data, Lib.toList_data, HA.out, HB.out]
      simp [this]
    · have n1 : (a == b) = false := by simpa using e
      rw [n1, beq_eq_false_iff_ne, Lib.toList_data, Lib.toList_data, HA.out, HB.out]
      exact fun h => e (evL_inj h)
  clear HA HB
  go_wp2
  go_ret
  exact ⟨by simp, hb2⟩
end Go.Proofs.Qxb6621686aDoor
