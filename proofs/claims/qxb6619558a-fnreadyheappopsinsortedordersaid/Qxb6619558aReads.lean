import Derived.Test.Qxb6619558aMem
import Derived.Lib.QuietBelow
namespace Go.Proofs.Qxb6619558a
open Go.RowKit Go.Sort

/-- a node as a value -/
def agg3 (n : Hp.Node) : Value := .agg #[.int .i64 n.1, .int .u64 n.2.1, .int .i64 n.2.2]

theorem two_new (w : World) (o1 o2 : Obj) : Below w.heap.size w ((w.alloc o1).alloc o2) := ((Below.refl _ w).alloc (Nat.le_refl _) _).alloc (by simp) _

theorem bef_call (a b : Hp.Node) (w : World) : Calls Try.prog 33 #[agg3 a, agg3 b] w fun e w' => e = .returned (.bool (Hp.bef a b)) ∧ Below w.heap.size w w' := by
  obtain ⟨a1, a2, a3⟩ := a
  obtain ⟨b1, b2, b3⟩ := b
  unfold agg3
  by_cases h1 : a1 < b1
  · have H : Hid (Hp.bef (a1, a2, a3) (b1, b2, b3) = true) := (show _ = _ by rw [Hp.bef_iff]; exact .inl h1)
    go_enter Try.func33, Try.ntmps33
    go_wp2
    go_ret
    rw [H.out]
    exact ⟨rfl, two_new _ _ _⟩
  · by_cases h2 : a1 = b1
    · subst h2
      by_cases h3 : a2 < b2
      · have H : Hid (Hp.bef (a1, a2, a3) (a1, b2, b3) = true) := (show _ = _ by rw [Hp.bef_iff]; exact .inr ⟨rfl, h3⟩)
        go_enter Try.func33, Try.ntmps33
        go_wp2
        go_ret
        rw [H.out]
        exact ⟨rfl, two_new _ _ _⟩
      · have H : Hid (Hp.bef (a1, a2, a3) (a1, b2, b3) = false) := (show _ = _ by rw [Bool.eq_false_iff, ne_eq, Hp.bef_iff]; simp; omega)
        go_enter Try.func33, Try.ntmps33
        go_wp2
        go_ret
        rw [H.out]
        exact ⟨by simp, two_new _ _ _⟩
    · have H : Hid (Hp.bef (a1, a2, a3) (b1, b2, b3) = false) := (show _ = _ by rw [Bool.eq_false_iff, ne_eq, Hp.bef_iff]; simp; omega)
      have h2' : (a1 == b1) = false := by simpa using h2
      clear h2
      go_enter Try.func33, Try.ntmps33
      go_wp2
      go_ret
      rw [H.out]
      exact ⟨rfl, two_new _ _ _⟩

theorem lss_call (a b : Hp.Node) (w : World) : Calls Try.prog 29 #[agg3 a, agg3 b] w fun e w' => e = .returned (.bool (Hp.lss a b)) ∧ Below w.heap.size w w' := by
  obtain ⟨a1, a2, a3⟩ := a
  obtain ⟨b1, b2, b3⟩ := b
  unfold agg3
  by_cases h1 : a1 = b1
  · subst h1
    by_cases h2 : a2 = b2
    · subst h2
      have H : Hid (Hp.lss (a1, a2, a3) (a1, a2, b3) = decide (a3 < b3)) := (show _ = _ by simp [Hp.lss])
      go_enter Try.func29, Try.ntmps29
      go_wp2
      go_ret
      rw [H.out]
      exact ⟨rfl, two_new _ _ _⟩
    · have H : Hid (Hp.lss (a1, a2, a3) (a1, b2, b3) = decide (a2 < b2)) := (show _ = _ by simp [Hp.lss, h2])
      have h2' : (a2 != b2) = true := by simpa using h2
      clear h2
      go_enter Try.func29, Try.ntmps29
      go_wp2
      go_ret
      rw [H.out]
      exact ⟨rfl, two_new _ _ _⟩
  · have H : Hid (Hp.lss (a1, a2, a3) (b1, b2, b3) = decide (a1 < b1)) := (show _ = _ by simp [Hp.lss, h1])
    have h1' : (a1 != b1) = true := by simpa using h1
    clear h1
    go_enter Try.func29, Try.ntmps29
    go_wp2
    go_ret
    rw [H.out]
    exact ⟨rfl, two_new _ _ _⟩

/-- readyNode.before: it only reads -/
theorem before_call (b1 o1 b2 o2 : Nat) (x y : Hp.Node) (w : World) (x0 : w.cell? ⟨b1, o1, none⟩ = some (.int .i64 x.1)) (x1 : w.cell? ⟨b1, o1 + 1, none⟩ = some (.int .u64 x.2.1))
    (y0 : w.cell? ⟨b2, o2, none⟩ = some (.int .i64 y.1)) (y1 : w.cell? ⟨b2, o2 + 1, none⟩ = some (.int .u64 y.2.1)) :
    Calls Try.prog 34 #[.pointer (some ⟨b1, o1, none⟩), .pointer (some ⟨b2, o2, none⟩)] w fun e w' => e = .returned (.bool (Hp.bef x y)) ∧ ∃ n, w' = w.drewN n := by
  obtain ⟨a1, a2, a3⟩ := x
  obtain ⟨c1, c2, c3⟩ := y
  simp only at x0 x1 y0 y1
  by_cases h1 : a1 < c1
  · have H : Hid (Hp.bef (a1, a2, a3) (c1, c2, c3) = true) := (show _ = _ by rw [Hp.bef_iff]; exact .inl h1)
    go_enter Try.func34, Try.ntmps34
    go_wp2
    go_quiet (fail)
    go_wp2
    go_ret
    rw [H.out]
    exact ⟨rfl, nq, rfl⟩
  · have h1' : decide (a1 < c1) = false := by simpa using h1
    by_cases h2 : a1 = c1
    · subst h2
      by_cases h3 : a2 < c2
      · have H : Hid (Hp.bef (a1, a2, a3) (a1, c2, c3) = true) := (show _ = _ by rw [Hp.bef_iff]; exact .inr ⟨rfl, h3⟩)
        go_enter Try.func34, Try.ntmps34
        go_wp2
        go_quiet (fail)
        go_wp2
        go_ret
        rw [H.out]
        exact ⟨rfl, nq, rfl⟩
      · have H : Hid (Hp.bef (a1, a2, a3) (a1, c2, c3) = false) := (show _ = _ by rw [Bool.eq_false_iff, ne_eq, Hp.bef_iff]; simp; omega)
        have h3' : decide (a2 < c2) = false := by simpa using h3
        go_enter Try.func34, Try.ntmps34
        go_wp2
        go_quiet (fail)
        go_wp2
        go_ret
        rw [H.out]
        exact ⟨rfl, nq, rfl⟩
    · have H : Hid (Hp.bef (a1, a2, a3) (c1, c2, c3) = false) := (show _ = _ by rw [Bool.eq_false_iff, ne_eq, Hp.bef_iff]; simp; omega)
      have h2' : (a1 == c1) = false := by simpa using h2
      clear h2
      go_enter Try.func34, Try.ntmps34
      go_wp2
      go_quiet (fail)
      go_wp2
      go_ret
      rw [H.out]
      exact ⟨rfl, nq, rfl⟩

end Go.Proofs.Qxb6619558a
