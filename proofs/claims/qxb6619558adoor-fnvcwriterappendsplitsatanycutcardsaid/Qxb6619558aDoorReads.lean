/-
  WHAT ONLY READS: keyBounds, sameBytes, braced, zzBytes, vcDomain.
-/
import Derived.Test.Qxb6619558aDoorClone
namespace Go.Proofs.Qxb6619558aDoor
open Go.RowKit

theorem lo_zero (E : List Int) : Vc.lo E ((0 : Nat) : Int) = 0 := rfl
theorem lo_succ (E : List Int) (q : Nat) : Vc.lo E ((q + 1 : Nat) : Int) = E.getD q 0 := by
  unfold Vc.lo
  rw [if_pos (by omega), show (((q + 1 : Nat) : Int) - 1).toNat = q by omega]
theorem hi_nat (E : List Int) (q : Nat) : Vc.hi E (q : Int) = E.getD q 0 := by simp [Vc.hi]

set_option maxHeartbeats 1000000 in
set_option maxRecDepth 100000 in
theorem keyBounds_call (a : Option Addr) (cap : Nat) (E : List Int) (q : Nat) (w : World) (hn : E.length ≤ 65536) (hq : q < E.length) (hE : IntsAt w a E) :
    Calls Tryd.prog 14 #[.slice a E.length cap, .int .i64 (q : Int)] w fun e w' => e = .returned (.tuple #[.int .i64 (Vc.lo E q), .int .i64 (Vc.hi E q)]) ∧ ∃ n, w' = w.drewN n := by
  obtain ⟨b, off, rfl, _, x0⟩ := IntsAt.at hE q hq
  have HE : Hid (IntsAt w (some ⟨b, off, none⟩) E) := hE
  clear hE
  rw [hi_nat]
  obtain ⟨y, hy⟩ : ∃ y : Int, y = E.getD q 0 := ⟨_, rfl⟩
  rw [← hy] at x0 ⊢
  have HY : Hid (y = E.getD q 0) := hy
  clear hy
  have hqi : (q : Int) < (E.length : Int) := by omega
  cases q with
  | zero =>
    rw [lo_zero]
    rw [Nat.add_zero] at x0
    go_enter Tryd.func14, Tryd.ntmps14
    go_wp2
    go_quiet (fail)
    go_wp2
    exact bodyPost_ret (v := .tuple #[.int .i64 0, .int .i64 y]) (by simp [results, Tryd.results14, go_sem]) rfl ⟨rfl, _, rfl⟩
  | succ p =>
    obtain ⟨b', off', e', _, z0⟩ := IntsAt.at HE.out p (by omega)
    cases e'
    rw [lo_succ]
    obtain ⟨z, hz⟩ : ∃ z : Int, z = E.getD p 0 := ⟨_, rfl⟩
    rw [← hz] at z0 ⊢
    have HZ : Hid (z = E.getD p 0) := hz
    clear hz
    have hpi : (p : Int) < (E.length : Int) := by omega
    go_enter Tryd.func14, Tryd.ntmps14
    go_wp2
    go_quiet (fail)
    go_wp2
    exact bodyPost_ret (v := .tuple #[.int .i64 z, .int .i64 y]) (by simp [results, Tryd.results14, go_sem]) rfl ⟨rfl, _, rfl⟩

set_option maxHeartbeats 1000000 in
set_option maxRecDepth 100000 in
/-- sameBytes at two slices that hold the same bytes -/
theorem same_call (a1 a2 : Option Addr) (c1 c2 : Nat) (L : List UInt8) (w : World) (hn : L.length ≤ 1000000000000) (hL : BytesAt w a1 L) (hM : BytesAt w a2 L) :
    Calls Tryd.prog 12 #[.slice a1 L.length c1, .slice a2 L.length c2] w fun e w' => e = .returned (.bool true) ∧ ∃ n, w' = w.drewN n := by
  have HL : Hid (BytesAt w a1 L) := hL
  have HM : Hid (BytesAt w a2 L) := hM
  clear hL hM
  go_enter Tryd.func12, Tryd.ntmps12
  go_wp2
  go_loopw [5] (fun i wr => ∃ k : Nat, k ≤ L.length ∧ i = .int .i64 k ∧ ∃ n, wr = w.drewN n) (fun i _ => L.length - (intOf i).toNat)
  case atStart => exact ⟨0, Nat.zero_le _, rfl, 0, rfl⟩
  case round =>
    obtain ⟨k, hk, rfl, n, rfl⟩ := hrel
    by_cases hlt : k < L.length
    · obtain ⟨b, off, rfl, _, x0⟩ := BytesAt.at HL.out k hlt
      obtain ⟨b', off', rfl, _, y0⟩ := BytesAt.at HM.out k hlt
      obtain ⟨x, hx⟩ : ∃ x : Int, x = ((L.getD k 0).toNat : Int) := ⟨_, rfl⟩
      rw [← hx] at x0 y0
      clear hx
      have hki : (k : Int) < (L.length : Int) := by omega
      go_wp2
      go_quiet (fail)
      go_wp2
      go_roundw
      case rel => exact ⟨k + 1, by omega, by go_num, _, rfl⟩
      case measure => simp [intOf]; omega
    · go_wp2
      go_ret
      exact ⟨rfl, n, rfl⟩

set_option maxHeartbeats 1000000 in
set_option maxRecDepth 100000 in
theorem braced_call (a : Option Addr) (cap : Nat) (L : List UInt8) (w : World) (hn : L.length ≤ 1000000000000) (h2 : 2 ≤ L.length) (h0 : L.getD 0 0 = 123) (h1 : L.getD (L.length - 1) 0 = 125) (hL : BytesAt w a L) :
    Calls Tryd.prog 11 #[.slice a L.length cap] w fun e w' => e = .returned (.bool true) ∧ w' = w := by
  obtain ⟨b, off, rfl, _, x0⟩ := BytesAt.at hL 0 (by omega)
  obtain ⟨b', off', e, _, y0⟩ := BytesAt.at hL (L.length - 1) (by omega)
  cases e
  rw [h0, Nat.add_zero] at x0
  rw [h1] at y0
  clear h0 h1 hL
  obtain ⟨n, hn'⟩ : ∃ n, L.length = n + 1 + 1 := ⟨L.length - 2, by omega⟩
  rw [hn'] at y0 hn h2 ⊢
  simp only [Nat.add_sub_cancel] at y0
  clear hn'
  have e0 : ((123 : UInt8).toNat : Int) = 123 := rfl
  have e1 : ((125 : UInt8).toNat : Int) = 125 := rfl
  rw [e0] at x0
  rw [e1] at y0
  clear e0 e1
  go_enter Tryd.func11, Tryd.ntmps11
  go_wp2
  go_ret
  exact ⟨rfl, rfl⟩

theorem zz_call (a1 a2 a3 a4 a5 : Option Addr) (n1 n2 n3 n4 n5 c1 c2 c3 c4 c5 : Nat) (k : Int) (w : World) :
    Calls Tryd.prog 4 #[.slice a1 n1 c1, .slice a2 n2 c2, .slice a3 n3 c3, .slice a4 n4 c4, .slice a5 n5 c5, .int .i64 k] w fun e w' => ∃ r : Bool, e = .returned (.bool r) ∧ w' = w := by
  go_enter Tryd.func4, Tryd.ntmps4
  go_wp2
  all_goals (go_ret; exact ⟨_, rfl, rfl⟩)
end Go.Proofs.Qxb6619558aDoor
