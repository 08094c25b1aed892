import Derived.Test.Qxb6619558aHeap
namespace Go.Proofs.Qxb6619558a
open Go.RowKit Go.Sort

theorem take_set_step (D L : List Hp.Node) (k : Nat) (hl : D.length = L.length) (hk : k < L.length) (h : D.take k = L.take k) : (D.set k (Hp.at' L k)).take (k + 1) = L.take (k + 1) := by
  rw [List.take_succ_eq_append_getElem (by simp; omega), List.take_succ_eq_append_getElem hk, List.take_set_of_le (Nat.le_refl _), h, List.getElem_set_self, Hp.at_eq L k hk]

/-- what a walk asks of a row of its own ahead of a store at k -/
theorem Own.ready {w : World} {g : Nat} {T : TypeId} {L : List Hp.Node} (h : Own w g T (ncells L)) (k : Nat) (hk : k < L.length) :
    (∃ v, w.cell? ⟨g, k * 3, none⟩ = some v) ∧ (∃ v, w.cell? ⟨g, k * 3 + 1, none⟩ = some v) ∧ (∃ v, w.cell? ⟨g, k * 3 + 2, none⟩ = some v) ∧
    w.frozen? ⟨g, k * 3, none⟩ = false ∧ w.frozen? ⟨g, k * 3 + 1, none⟩ = false ∧ w.frozen? ⟨g, k * 3 + 2, none⟩ = false := by
  obtain ⟨h0, h1, h2⟩ := ncells_at L k hk
  exact ⟨⟨_, (h.cell _).trans h0⟩, ⟨_, (h.cell _).trans h1⟩, ⟨_, (h.cell _).trans h2⟩, h.frozen _, h.frozen _, h.frozen _⟩

theorem three_sets {B : Nat} {w w' : World} (h : Below B w w') {g : Nat} (hg : B ≤ g) (i j k : Nat) (x y z : Value) : Below B w (((w'.setCell ⟨g, i, none⟩ x).setCell ⟨g, j, none⟩ y).setCell ⟨g, k, none⟩ z) :=
  ((h.setCell (p := ⟨g, i, none⟩) hg _).setCell (p := ⟨g, j, none⟩) hg _).setCell (p := ⟨g, k, none⟩) hg _

set_option maxHeartbeats 1000000 in
set_option maxRecDepth 100000 in
theorem clone_call (a : Option Addr) (cap : Nat) (L : List Hp.Node) (w : World) (hn : L.length ≤ 1048576) (hL : NodesAt w a L) (ha : a = none → L.length = 0) :
    Calls Try.prog 8 #[.slice a L.length cap] w fun e w' => ∃ a' cap', e = .returned (.slice a' L.length cap') ∧ Hid (NodesAt w' a' L) ∧ Below w.heap.size w w' := by
  have HL : Hid (NodesAt w a L) := hL
  clear hL
  have hnn := fun W n c => Lib.run_eql_slice_nil (P := Try.prog) W 22 32 a n c 0 0 Try.underlying22
  have hmk := make_nodes Try.underlying22 info32 L.length hn
  cases a with
  | none =>
    have H0 : Hid (L.length = 0) := ha rfl
    clear ha
    go_enter Try.func8, Try.ntmps8
    go_wp2
    go_ret
    exact ⟨none, 0, by rw [H0.out]; rfl, HL, Below.refl _ _⟩
  | some x =>
    clear ha
    go_enter Try.func8, Try.ntmps8
    go_wp2
    go_loopw [4] (fun i wr => ∃ k : Nat, k ≤ L.length ∧ i = .int .i64 k ∧ (∃ D : List Hp.Node, Hid (D.length = L.length ∧ D.take k = L.take k) ∧ Own wr w.heap.size 32 (ncells D)) ∧ Below w.heap.size w wr) (fun i _ => L.length - (intOf i).toNat)
    case atStart => exact ⟨0, Nat.zero_le _, rfl, ⟨zeros L.length, ⟨zeros_length _, by simp⟩, Own.new w 32 _⟩, (Below.refl _ w).alloc (Nat.le_refl _) _⟩
    case round =>
      obtain ⟨k, hk, rfl, ⟨D, HD, hown⟩, hb⟩ := hrel
      by_cases hlt : k < L.length
      · obtain ⟨b, off, ex, hbs, x0, x1, x2⟩ := (HL.out) k hlt
        cases ex
        rw [← hb.cell (p := ⟨b, off + k * 3, none⟩) hbs] at x0
        rw [← hb.cell (p := ⟨b, off + k * 3 + 1, none⟩) hbs] at x1
        rw [← hb.cell (p := ⟨b, off + k * 3 + 2, none⟩) hbs] at x2
        obtain ⟨⟨v0, r0⟩, ⟨v1, r1⟩, ⟨v2, r2⟩, f0, f1, f2⟩ := hown.ready k (by rw [HD.out.1]; exact hlt)
        have R := hown.store k (Hp.at' L k) (by rw [HD.out.1]; exact hlt)
        have HR : Hid _ := R
        have hb' := three_sets hb (Nat.le_refl w.heap.size) (k * 3) (k * 3 + 1) (k * 3 + 2) (.int .i64 (Hp.at' L k).1) (.int .u64 (Hp.at' L k).2.1) (.int .i64 (Hp.at' L k).2.2)
        have HB' : Hid _ := hb'
        clear R hb' hown
        go_wp2
        go_roundw
        case rel => exact ⟨k + 1, by omega, by go_num, ⟨_, ⟨by rw [List.length_set]; exact HD.out.1, take_set_step D L k HD.out.1 hlt HD.out.2⟩, HR.out⟩, HB'.out⟩
        case measure => simp [intOf]; omega
      · go_wp2
        go_ret
        refine ⟨_, _, rfl, ?_, hb⟩
        have e : D = L := by
          have h2 := HD.out.2
          rw [List.take_of_length_le (by have := HD.out.1; omega), List.take_of_length_le (by omega)] at h2
          exact h2
        subst e
        exact hown.nodes

set_option maxHeartbeats 1000000 in
set_option maxRecDepth 100000 in
/-- sameNodes: only reads -/
theorem same_call (a1 a2 : Option Addr) (c1 c2 : Nat) (L M : List Hp.Node) (w : World) (hn : L.length ≤ 1048576) (hL : NodesAt w a1 L) (hM : NodesAt w a2 M) :
    Calls Try.prog 12 #[.slice a1 L.length c1, .slice a2 M.length c2] w fun e w' => ∃ r : Bool, e = .returned (.bool r) ∧ Hid (r = true ↔ L = M) ∧ ∃ n, w' = w.drewN n := by
  have HL : Hid (NodesAt w a1 L) := hL
  have HM : Hid (NodesAt w a2 M) := hM
  clear hL hM
  by_cases hlen : L.length = M.length
  · have hle1 : M.length ≤ L.length := by omega
    have hle2 : L.length ≤ M.length := by omega
    have HE : Hid (L.length = M.length) := hlen
    clear hlen
    go_enter Try.func12, Try.ntmps12
    go_wp2
    go_loopw [5] (fun i wr => ∃ k : Nat, k ≤ L.length ∧ i = .int .i64 k ∧ Hid (∀ j, j < k → Hp.at' L j = Hp.at' M j) ∧ ∃ n, wr = w.drewN n) (fun i _ => L.length - (intOf i).toNat)
    case atStart => exact ⟨0, Nat.zero_le _, rfl, (show ∀ j, _ from fun j h => by omega), 0, rfl⟩
    case round =>
      obtain ⟨k, hk, rfl, HJ, n, rfl⟩ := hrel
      by_cases hlt : k < L.length
      · obtain ⟨b, off, rfl, _, x0, x1, x2⟩ := HL.out k hlt
        obtain ⟨b', off', rfl, _, y0, y1, y2⟩ := HM.out k (by omega)
        obtain ⟨x, hx⟩ : ∃ x, x = Hp.at' L k := ⟨_, rfl⟩
        obtain ⟨y, hy⟩ : ∃ y, y = Hp.at' M k := ⟨_, rfl⟩
        rw [← hx] at x0 x1 x2
        rw [← hy] at y0 y1 y2
        have X : Hid (x = Hp.at' L k) := hx
        have Y : Hid (y = Hp.at' M k) := hy
        clear hx hy
        obtain ⟨p1, p2, p3⟩ := x
        obtain ⟨q1, q2, q3⟩ := y
        simp only at x0 x1 x2 y0 y1 y2
        have hki : (k : Int) < (L.length : Int) := by omega
        have hki2 : (k : Int) < (M.length : Int) := by omega
        by_cases e1 : p1 = q1
        · subst e1
          by_cases e2 : p2 = q2
          · subst e2
            by_cases e3 : p3 = q3
            · subst e3
              go_wp2
              go_quiet (fail)
              go_wp2
              go_roundw
              case rel =>
                exact ⟨k + 1, by omega, by go_num, (show ∀ j, j < k + 1 → _ from fun j h => by
                  by_cases hj : j = k
                  · subst hj; rw [← X.out, ← Y.out]
                  · exact HJ.out j (by omega)), _, rfl⟩
              case measure => simp [intOf]; omega
            · have hq : (p3 != q3) = true := by simpa using e3
              have HN : Hid (¬ p3 = q3) := e3
              clear e3
              go_wp2
              go_quiet (fail)
              go_wp2
              go_ret
              refine ⟨false, rfl, ?_, n + nq, World.drewN_drewN _ _ _⟩
              show false = true ↔ _
              refine ⟨fun h => (by cases h), fun h => ?_⟩
              have e := X.out
              rw [h, ← Y.out] at e
              simp only [Prod.mk.injEq] at e
              exact absurd e.2.2 HN.out
          · have hq : (p2 != q2) = true := by simpa using e2
            have HN : Hid (¬ p2 = q2) := e2
            clear e2
            go_wp2
            go_quiet (fail)
            go_wp2
            go_ret
            refine ⟨false, rfl, ?_, n + nq, World.drewN_drewN _ _ _⟩
            show false = true ↔ _
            refine ⟨fun h => (by cases h), fun h => ?_⟩
            have e := X.out
            rw [h, ← Y.out] at e
            simp only [Prod.mk.injEq] at e
            exact absurd e.2.1 HN.out
        · have hq : (p1 != q1) = true := by simpa using e1
          have HN : Hid (¬ p1 = q1) := e1
          clear e1
          go_wp2
          go_quiet (fail)
          go_wp2
          go_ret
          refine ⟨false, rfl, ?_, n + nq, World.drewN_drewN _ _ _⟩
          show false = true ↔ _
          refine ⟨fun h => (by cases h), fun h => ?_⟩
          have e := X.out
          rw [h, ← Y.out] at e
          simp only [Prod.mk.injEq] at e
          exact absurd e.1 HN.out
      · go_wp2
        go_ret
        refine ⟨true, rfl, ?_, n, rfl⟩
        show true = true ↔ _
        refine ⟨fun _ => ?_, fun _ => rfl⟩
        apply List.ext_getElem HE.out
        intro j h1 h2
        have := HJ.out j (by omega)
        rw [Hp.at_eq L j h1, Hp.at_eq M j h2] at this
        exact this
  · have hb : ((L.length : Int) != (M.length : Int)) = true := by simp; omega
    have HE : Hid (¬ L.length = M.length) := hlen
    clear hlen
    go_enter Try.func12, Try.ntmps12
    go_wp2
    go_ret
    refine ⟨false, rfl, ?_, 0, rfl⟩
    show false = true ↔ _
    exact ⟨fun h => (by cases h), fun h => absurd (congrArg List.length h) HE.out⟩
end Go.Proofs.Qxb6619558a
