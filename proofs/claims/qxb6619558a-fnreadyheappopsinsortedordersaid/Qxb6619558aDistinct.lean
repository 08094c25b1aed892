import Derived.Test.Qxb6619558aSort
import Derived.WalkSmall
namespace Go.Proofs.Qxb6619558a
open Go.RowKit Go.Sort

set_option maxHeartbeats 1000000 in
set_option maxRecDepth 100000 in
theorem distinct_call (a : Option Addr) (cap : Nat) (L : List Hp.Node) (w : World) (hn : L.length ≤ 1048576) (hL : NodesAt w a L) :
    Calls Try.prog 28 #[.slice a L.length cap] w fun e w' => ∃ r : Bool, e = .returned (.bool r) ∧ Hid (r = true ↔ Hp.Distinct L) ∧ Below w.heap.size w w' := by
  have HL : Hid (NodesAt w a L) := hL
  clear hL
  go_enter Try.func28, Try.ntmps28
  go_wp2_with fail
  refine (sort_call a cap L w hn HL.out).mono ?_
  rintro e W1 ⟨a', S, rfl, HS, hb1⟩
  have HSL : Hid (S.length = L.length) := HS.out.2.1.length_eq
  go_wp2
  go_loopw [4] (fun i wr => ∃ k : Nat, 1 ≤ k ∧ (k ≤ L.length ∨ k = 1) ∧ i = .int .i64 k ∧ Hid (∀ j, 1 ≤ j → j < k → ¬ ((Hp.at' S j).1 = (Hp.at' S (j - 1)).1 ∧ (Hp.at' S j).2.1 = (Hp.at' S (j - 1)).2.1)) ∧ ∃ n, wr = W1.drewN n) (fun i _ => L.length - (intOf i).toNat)
  case atStart => exact ⟨1, Nat.le_refl _, .inr rfl, rfl, (show ∀ j, _ from fun j h1 h2 => by omega), 0, rfl⟩
  case round =>
    obtain ⟨k, hk1, hk2, rfl, HJ, n, rfl⟩ := hrel
    by_cases hlt : k < L.length
    · have hk2' : k ≤ L.length := by omega
      clear hk2
      obtain ⟨b, off, rfl, _, x0, x1, x2⟩ := HS.out.1 k (by rw [HSL.out]; exact hlt)
      obtain ⟨b', off', e', _, y0, y1, y2⟩ := HS.out.1 (k - 1) (by rw [HSL.out]; omega)
      obtain ⟨rfl, rfl⟩ : b' = b ∧ off' = off := by cases e'; exact ⟨rfl, rfl⟩
      clear e'
      obtain ⟨x, hx⟩ : ∃ x, x = Hp.at' S k := ⟨_, rfl⟩
      obtain ⟨y, hy⟩ : ∃ y, y = Hp.at' S (k - 1) := ⟨_, rfl⟩
      rw [← hx] at x0 x1 x2
      rw [← hy] at y0 y1 y2
      have X : Hid (x = Hp.at' S k) := hx
      have Y : Hid (y = Hp.at' S (k - 1)) := hy
      clear hx hy
      obtain ⟨p1, p2, p3⟩ := x
      obtain ⟨q1, q2, q3⟩ := y
      simp only at x0 x1 x2 y0 y1 y2
      have hki : (k : Int) < (L.length : Int) := by omega
      by_cases e1 : p1 = q1
      · subst e1
        by_cases e2 : p2 = q2
        · subst e2
          go_wp2
          go_quiet (fail)
          go_wp2
          go_ret
          refine ⟨false, rfl, ?_, below_drewN (below_drewN hb1 _) _⟩
          show false = true ↔ _
          refine ⟨fun h => (by cases h), fun h => ?_⟩
          have := Hp.adjacent_of_distinct (Hp.distinct_perm HS.out.2.1.symm h) k hk1 (by rw [HSL.out]; exact hlt)
          rw [← X.out, ← Y.out] at this
          exact absurd ⟨rfl, rfl⟩ this
        · have hq : (p2 == q2) = false := by simpa using e2
          have HN : Hid (¬ p2 = q2) := e2
          clear e2
          go_wp2
          go_quiet (fail)
          go_wp2
          go_roundw
          case rel =>
            exact ⟨k + 1, by omega, .inl (by omega), by go_num, (show ∀ j, 1 ≤ j → j < k + 1 → _ from fun j h1 h2 => by
              by_cases hj : j = k
              · subst hj; rw [← X.out, ← Y.out]; exact fun e => HN.out e.2
              · exact HJ.out j h1 (by omega)), _, rfl⟩
          case measure => simp [intOf]; omega
      · have hq : (p1 == q1) = false := by simpa using e1
        have HN : Hid (¬ p1 = q1) := e1
        clear e1
        go_wp2
        go_quiet (fail)
        go_wp2
        go_roundw
        case rel =>
          exact ⟨k + 1, by omega, .inl (by omega), by go_num, (show ∀ j, 1 ≤ j → j < k + 1 → _ from fun j h1 h2 => by
            by_cases hj : j = k
            · subst hj; rw [← X.out, ← Y.out]; exact fun e => HN.out e.1
            · exact HJ.out j h1 (by omega)), _, rfl⟩
        case measure => simp [intOf]; omega
    · go_wp2
      go_ret
      refine ⟨true, rfl, ?_, below_drewN hb1 _⟩
      show true = true ↔ _
      refine ⟨fun _ => Hp.distinct_perm HS.out.2.1 (Hp.distinct_of_adjacent HS.out.2.2 fun i h1 h2 => HJ.out i h1 (by rw [HSL.out] at h2; omega)), fun _ => rfl⟩

/-- popsPremise: a heap, no key twice -/
theorem premise_call (a : Option Addr) (cap : Nat) (L : List Hp.Node) (w : World) (hn : L.length ≤ 1048576) (hL : NodesAt w a L) :
    Calls Try.prog 7 #[.slice a L.length cap] w fun e w' => ∃ r : Bool, e = .returned (.bool r) ∧ Hid (r = true ↔ Hp.IsHeap L ∧ Hp.Distinct L) ∧ Below w.heap.size w w' := by
  have HL : Hid (NodesAt w a L) := hL
  clear hL
  go_enter Try.func7, Try.ntmps7
  go_wp2_with fail
  refine (isHeap_call a cap L w hn HL.out).mono ?_
  rintro e W1 ⟨r, rfl, HR, hb1⟩
  cases r
  · go_wp2_with fail
    go_ret
    refine ⟨false, rfl, ?_, hb1⟩
    show false = true ↔ _
    exact ⟨fun h => (by cases h), fun h => HR.out.2 h.1⟩
  · have HH : Hid (Hp.IsHeap L) := HR.out.1 rfl
    clear HR
    go_wp2_with fail
    refine (distinct_call a cap L W1 hn (HL.out.old hb1)).mono ?_
    rintro e W2 ⟨r, rfl, HR2, hb2⟩
    go_wp2
    go_ret
    refine ⟨r, rfl, ?_, hb1.trans (hb2.mono hb1.size)⟩
    show r = true ↔ _
    exact ⟨fun h => ⟨HH.out, HR2.out.1 h⟩, fun h => HR2.out.2 h.2⟩
end Go.Proofs.Qxb6619558a
