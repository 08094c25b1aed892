import Derived.Test.Qxb6619558aReads
namespace Go.Proofs.Qxb6619558a
open Go.RowKit Go.Sort

theorem regrown_at (w : World) (b o : Nat) (v : Value) (h : w.cell? ⟨b, o, none⟩ = some v) : ∀ d os, (grow (redrawn w d) os).cell? ⟨b, o, none⟩ = some v := fun d os => cell_regrown h d os

theorem half_wrap (k p : Nat) (h1 : 1 ≤ k) (hk : k ≤ 1048576) (hp : p = (k - 1) / 2) : IntKind.i64.wrap ((IntKind.i64.wrap ((k : Int) - 1)).tdiv 2) = (p : Int) := by
  have e1 : IntKind.i64.wrap ((k : Int) - 1) = (k : Int) - 1 := by rw [IntKind.wrap_i64]; omega
  rw [e1, Int.tdiv_eq_ediv_of_nonneg (by omega), IntKind.wrap_i64]
  omega

set_option maxHeartbeats 1000000 in
set_option maxRecDepth 100000 in
theorem isHeap_call (a : Option Addr) (cap : Nat) (L : List Hp.Node) (w : World) (hn : L.length ≤ 1048576) (hL : NodesAt w a L) :
    Calls Try.prog 27 #[.slice a L.length cap] w fun e w' => ∃ r : Bool, e = .returned (.bool r) ∧ Hid (r = true ↔ Hp.IsHeap L) ∧ Below w.heap.size w w' := by
  have HL : Hid (NodesAt w a L) := hL
  clear hL
  go_enter Try.func27, Try.ntmps27
  go_wp2
  go_loopw [3] (fun i wr => ∃ k : Nat, 1 ≤ k ∧ (k ≤ L.length ∨ k = 1) ∧ i = .int .i64 k ∧ Hid (∀ j, 1 ≤ j → j < k → ¬ Hp.bef (Hp.at' L j) (Hp.at' L ((j - 1) / 2)) = true) ∧ Below w.heap.size w wr) (fun i _ => L.length - (intOf i).toNat)
  case atStart => exact ⟨1, Nat.le_refl _, .inr rfl, rfl, (show ∀ j, _ from fun j h1 h2 => by omega), Below.refl _ _⟩
  case round =>
    obtain ⟨k, hk1, hk2, rfl, HJ, hb⟩ := hrel
    by_cases hlt : k < L.length
    · obtain ⟨p, hp⟩ : ∃ p, p = (k - 1) / 2 := ⟨_, rfl⟩
      have hw : IntKind.i64.wrap ((IntKind.i64.wrap ((k : Int) - 1)).tdiv 2) = (p : Int) := half_wrap k p hk1 (by omega) hp
      have hpl : p < L.length := by omega
      have hpi : (p : Int) < (L.length : Int) := by omega
      have hki : (k : Int) < (L.length : Int) := by omega
      obtain ⟨b, off, rfl, hbs, x0, x1, x2⟩ := (HL.out.old hb) k hlt
      obtain ⟨b', off', e', _, y0, y1, y2⟩ := (HL.out.old hb) p hpl
      obtain ⟨rfl, rfl⟩ : b' = b ∧ off' = off := by cases e'; exact ⟨rfl, rfl⟩
      clear e' hbs
      obtain ⟨x, hx⟩ : ∃ x, x = Hp.at' L k := ⟨_, rfl⟩
      obtain ⟨y, hy⟩ : ∃ y, y = Hp.at' L p := ⟨_, rfl⟩
      rw [← hx] at x0 x1 x2
      rw [← hy] at y0 y1 y2
      rw [hp] at hy
      have X : Hid (x = Hp.at' L k) := hx
      have Y : Hid (y = Hp.at' L ((k - 1) / 2)) := hy
      have x0 := regrown_at _ _ _ _ x0
      have x1 := regrown_at _ _ _ _ x1
      have x2 := regrown_at _ _ _ _ x2
      have y0 := regrown_at _ _ _ _ y0
      have y1 := regrown_at _ _ _ _ y1
      have y2 := regrown_at _ _ _ _ y2
      have hk2' : k ≤ L.length := by omega
      clear hx hy hk2 hp hpl
      go_wp2
      refine wp_region_quiet_below (by kernel_rfl) (by kernel_rfl) ?_
      repeat (quiet_step (exact Calls.regrown_of (bef_call x y _)))
      refine wpQuiet_nil ?_
      intro _ hw'
      obtain ⟨⟨dq, osq⟩, hw''⟩ := hw'
      subst hw''
      have hb' : Below w.heap.size w (grow (redrawn wr dq) osq) := hb.trans ((below_regrown wr dq osq).mono hb.size)
      clear x0 x1 x2 y0 y1 y2 hw hpi hki
      by_cases hbb : Hp.bef x y = true
      · rw [hbb]
        go_wp2
        go_ret
        refine ⟨false, rfl, ?_, hb'⟩
        show false = true ↔ _
        refine ⟨fun h => (by cases h), fun h => ?_⟩
        have := h k hk1 hlt
        rw [← X.out, ← Y.out] at this
        exact absurd hbb this
      · have hbf : Hp.bef x y = false := by simpa using hbb
        have HBB : Hid (¬ Hp.bef x y = true) := hbb
        clear hbb
        rw [hbf]
        go_wp2
        go_roundw
        case rel =>
          exact ⟨k + 1, by omega, .inl (by omega), by go_num, (show ∀ j, 1 ≤ j → j < k + 1 → _ from fun j h1 h2 => by
            by_cases hj : j = k
            · subst hj; rw [← X.out, ← Y.out]; exact HBB.out
            · exact HJ.out j h1 (by omega)), hb'⟩
        case measure => simp [intOf]; omega
    · go_wp2
      go_ret
      refine ⟨true, rfl, ?_, hb⟩
      show true = true ↔ _
      exact ⟨fun _ j h1 h2 => HJ.out j h1 (by omega), fun _ => rfl⟩
set_option maxHeartbeats 1000000 in
set_option maxRecDepth 100000 in
theorem rootOut_call (a : Option Addr) (cap : Nat) (L : List Hp.Node) (w : World) (hn : L.length ≤ 1048576) (hL : NodesAt w a L) :
    Calls Try.prog 25 #[.slice a L.length cap] w fun e w' => ∃ r : Bool, e = .returned (.bool r) ∧ Hid (r = true ↔ Hp.RootOut L) ∧ Below w.heap.size w w' := by
  have HL : Hid (NodesAt w a L) := hL
  clear hL
  go_enter Try.func25, Try.ntmps25
  go_wp2
  go_loopw [3] (fun i wr => ∃ k : Nat, 3 ≤ k ∧ (k ≤ L.length ∨ k = 3) ∧ i = .int .i64 k ∧ Hid (∀ j, 3 ≤ j → j < k → ¬ Hp.bef (Hp.at' L j) (Hp.at' L ((j - 1) / 2)) = true) ∧ Below w.heap.size w wr) (fun i _ => L.length - (intOf i).toNat)
  case atStart => exact ⟨3, Nat.le_refl _, .inr rfl, rfl, (show ∀ j, _ from fun j h1 h2 => by omega), Below.refl _ _⟩
  case round =>
    obtain ⟨k, hk1, hk2, rfl, HJ, hb⟩ := hrel
    by_cases hlt : k < L.length
    · obtain ⟨p, hp⟩ : ∃ p, p = (k - 1) / 2 := ⟨_, rfl⟩
      have hw : IntKind.i64.wrap ((IntKind.i64.wrap ((k : Int) - 1)).tdiv 2) = (p : Int) := half_wrap k p (by omega) (by omega) hp
      have hpl : p < L.length := by omega
      have hpi : (p : Int) < (L.length : Int) := by omega
      have hki : (k : Int) < (L.length : Int) := by omega
      obtain ⟨b, off, rfl, hbs, x0, x1, x2⟩ := (HL.out.old hb) k hlt
      obtain ⟨b', off', e', _, y0, y1, y2⟩ := (HL.out.old hb) p hpl
      obtain ⟨rfl, rfl⟩ : b' = b ∧ off' = off := by cases e'; exact ⟨rfl, rfl⟩
      clear e' hbs
      obtain ⟨x, hx⟩ : ∃ x, x = Hp.at' L k := ⟨_, rfl⟩
      obtain ⟨y, hy⟩ : ∃ y, y = Hp.at' L p := ⟨_, rfl⟩
      rw [← hx] at x0 x1 x2
      rw [← hy] at y0 y1 y2
      rw [hp] at hy
      have X : Hid (x = Hp.at' L k) := hx
      have Y : Hid (y = Hp.at' L ((k - 1) / 2)) := hy
      have x0 := regrown_at _ _ _ _ x0
      have x1 := regrown_at _ _ _ _ x1
      have x2 := regrown_at _ _ _ _ x2
      have y0 := regrown_at _ _ _ _ y0
      have y1 := regrown_at _ _ _ _ y1
      have y2 := regrown_at _ _ _ _ y2
      have hk2' : k ≤ L.length := by omega
      clear hx hy hk2 hp hpl
      go_wp2
      refine wp_region_quiet_below (by kernel_rfl) (by kernel_rfl) ?_
      repeat (quiet_step (exact Calls.regrown_of (bef_call x y _)))
      refine wpQuiet_nil ?_
      intro _ hw'
      obtain ⟨⟨dq, osq⟩, hw''⟩ := hw'
      subst hw''
      have hb' : Below w.heap.size w (grow (redrawn wr dq) osq) := hb.trans ((below_regrown wr dq osq).mono hb.size)
      clear x0 x1 x2 y0 y1 y2 hw hpi hki
      by_cases hbb : Hp.bef x y = true
      · rw [hbb]
        go_wp2
        go_ret
        refine ⟨false, rfl, ?_, hb'⟩
        show false = true ↔ _
        refine ⟨fun h => (by cases h), fun h => ?_⟩
        have := h k hk1 hlt
        rw [← X.out, ← Y.out] at this
        exact absurd hbb this
      · have hbf : Hp.bef x y = false := by simpa using hbb
        have HBB : Hid (¬ Hp.bef x y = true) := hbb
        clear hbb
        rw [hbf]
        go_wp2
        go_roundw
        case rel =>
          exact ⟨k + 1, by omega, .inl (by omega), by go_num, (show ∀ j, 3 ≤ j → j < k + 1 → _ from fun j h1 h2 => by
            by_cases hj : j = k
            · subst hj; rw [← X.out, ← Y.out]; exact HBB.out
            · exact HJ.out j h1 (by omega)), hb'⟩
        case measure => simp [intOf]; omega
    · go_wp2
      go_ret
      refine ⟨true, rfl, ?_, hb⟩
      show true = true ↔ _
      exact ⟨fun _ j h1 h2 => HJ.out j h1 (by omega), fun _ => rfl⟩
end Go.Proofs.Qxb6619558a
