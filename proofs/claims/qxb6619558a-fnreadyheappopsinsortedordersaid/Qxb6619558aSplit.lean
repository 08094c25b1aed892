import Derived.Test.Qxb6619558aDistinct
namespace Go.Proofs.Qxb6619558a
open Go.RowKit Go.Sort

theorem itake_set_step (D M : List Int) (k : Nat) (x : Int) (hl : D.length = M.length) (hk : k < M.length) (h : D.take k = M.take k) (hx : x = M.getD k 0) : (D.set k x).take (k + 1) = M.take (k + 1) := by
  rw [List.take_succ_eq_append_getElem (by simp; omega), List.take_succ_eq_append_getElem hk, List.take_set_of_le (Nat.le_refl _), h, List.getElem_set_self, hx, List.getD_eq_getElem?_getD, List.getElem?_eq_getElem hk, Option.getD_some]

def secs (L : List Hp.Node) : List Int := L.map (·.1)
def ties (L : List Hp.Node) : List Int := L.map (·.2.1)
def ids (L : List Hp.Node) : List Int := L.map (·.2.2)

theorem secs_at (L : List Hp.Node) (k : Nat) : (secs L).getD k 0 = (Hp.at' L k).1 := by
  unfold secs Hp.at'; rw [List.getD_eq_getElem?_getD, List.getD_eq_getElem?_getD, List.getElem?_map]; cases L[k]? <;> rfl
theorem ties_at (L : List Hp.Node) (k : Nat) : (ties L).getD k 0 = (Hp.at' L k).2.1 := by
  unfold ties Hp.at'; rw [List.getD_eq_getElem?_getD, List.getD_eq_getElem?_getD, List.getElem?_map]; cases L[k]? <;> rfl
theorem ids_at (L : List Hp.Node) (k : Nat) : (ids L).getD k 0 = (Hp.at' L k).2.2 := by
  unfold ids Hp.at'; rw [List.getD_eq_getElem?_getD, List.getD_eq_getElem?_getD, List.getElem?_map]; cases L[k]? <;> rfl
theorem secs_len (L : List Hp.Node) : (secs L).length = L.length := by simp [secs]
theorem ties_len (L : List Hp.Node) : (ties L).length = L.length := by simp [ties]
theorem ids_len (L : List Hp.Node) : (ids L).length = L.length := by simp [ids]

/-- what a walk asks of a row of numbers ahead of a store at k -/
theorem Own.iready {w : World} {g : Nat} {T : TypeId} {q : IntKind} {l : List Int} (h : Own w g T (icells q l)) (k : Nat) (hk : k < l.length) :
    w.cell? ⟨g, k, none⟩ = some (.int q (l.getD k 0)) ∧ w.frozen? ⟨g, k, none⟩ = false := ⟨(h.cell _).trans (icells_at q l k hk), h.frozen _⟩
theorem Own.istore {w : World} {g : Nat} {T : TypeId} {q : IntKind} {l : List Int} (h : Own w g T (icells q l)) (k : Nat) (x : Int) : Own (w.setCell ⟨g, k, none⟩ (.int q x)) g T (icells q (l.set k x)) := by
  rw [← icells_set]; exact h.set k _

/-- the three rows, filled up to k -/
structure Rows3 (L : List Hp.Node) (w : World) (g1 g2 g3 : Nat) (k : Nat) (A B C : List Int) : Prop where
  oa : Own w g1 2 (icells .i64 A)
  ob : Own w g2 30 (icells .u64 B)
  oc : Own w g3 3 (icells .i64 C)
  la : A.length = L.length
  lb : B.length = L.length
  lc : C.length = L.length
  ta : A.take k = (secs L).take k
  tb : B.take k = (ties L).take k
  tc : C.take k = (ids L).take k

theorem Rows3.step {L : List Hp.Node} {w : World} {g1 g2 g3 k : Nat} {A B C : List Int} (h : Rows3 L w g1 g2 g3 k A B C) (hk : k < L.length) (h12 : g1 ≠ g2) (h13 : g1 ≠ g3) (h23 : g2 ≠ g3) :
    Rows3 L (((w.setCell ⟨g1, k, none⟩ (.int .i64 (Hp.at' L k).1)).setCell ⟨g2, k, none⟩ (.int .u64 (Hp.at' L k).2.1)).setCell ⟨g3, k, none⟩ (.int .i64 (Hp.at' L k).2.2)) g1 g2 g3 (k + 1)
      (A.set k (Hp.at' L k).1) (B.set k (Hp.at' L k).2.1) (C.set k (Hp.at' L k).2.2) where
  oa := ((h.oa.istore k _).other h12 _ _).other h13 _ _
  ob := ((h.ob.other (Ne.symm h12) _ _).istore k _).other h23 _ _
  oc := ((h.oc.other (Ne.symm h13) _ _).other (Ne.symm h23) _ _).istore k _
  la := by rw [List.length_set]; exact h.la
  lb := by rw [List.length_set]; exact h.lb
  lc := by rw [List.length_set]; exact h.lc
  ta := itake_set_step A (secs L) k _ (by rw [secs_len]; exact h.la) (by rw [secs_len]; exact hk) h.ta (secs_at L k).symm
  tb := itake_set_step B (ties L) k _ (by rw [ties_len]; exact h.lb) (by rw [ties_len]; exact hk) h.tb (ties_at L k).symm
  tc := itake_set_step C (ids L) k _ (by rw [ids_len]; exact h.lc) (by rw [ids_len]; exact hk) h.tc (ids_at L k).symm

/-- the three rows, whole -/
structure Three (L : List Hp.Node) (w : World) (g1 g2 g3 : Nat) : Prop where
  oa : Own w g1 2 (icells .i64 (secs L))
  ob : Own w g2 30 (icells .u64 (ties L))
  oc : Own w g3 3 (icells .i64 (ids L))

theorem Rows3.whole {L : List Hp.Node} {w : World} {g1 g2 g3 k : Nat} {A B C : List Int} (h : Rows3 L w g1 g2 g3 k A B C) (hk : L.length ≤ k) : Three L w g1 g2 g3 := by
  have e1 : A = secs L := by have := h.ta; rwa [List.take_of_length_le (by rw [h.la]; exact hk), List.take_of_length_le (by rw [secs_len]; exact hk)] at this
  have e2 : B = ties L := by have := h.tb; rwa [List.take_of_length_le (by rw [h.lb]; exact hk), List.take_of_length_le (by rw [ties_len]; exact hk)] at this
  have e3 : C = ids L := by have := h.tc; rwa [List.take_of_length_le (by rw [h.lc]; exact hk), List.take_of_length_le (by rw [ids_len]; exact hk)] at this
  subst e1 e2 e3
  exact ⟨h.oa, h.ob, h.oc⟩

theorem Three.below {L : List Hp.Node} {w w' : World} {g1 g2 g3 : Nat} (h : Three L w g1 g2 g3) (hb : Below w.heap.size w w') : Three L w' g1 g2 g3 :=
  ⟨h.oa.below h.oa.lt hb, h.ob.below h.ob.lt hb, h.oc.below h.oc.lt hb⟩

theorem three_news (w : World) (x y z : List Value) (T1 T2 T3 : TypeId) : Own (((w.alloc (.cells x.toArray T1)).alloc (.cells y.toArray T2)).alloc (.cells z.toArray T3)) w.heap.size T1 x ∧
    Own (((w.alloc (.cells x.toArray T1)).alloc (.cells y.toArray T2)).alloc (.cells z.toArray T3)) (w.heap.size + 1) T2 y ∧ Own (((w.alloc (.cells x.toArray T1)).alloc (.cells y.toArray T2)).alloc (.cells z.toArray T3)) (w.heap.size + 1 + 1) T3 z := by
  refine ⟨((Own.new w T1 x).alloc _).alloc _, ?_, ?_⟩
  · have := (Own.new (w.alloc (.cells x.toArray T1)) T2 y).alloc (.cells z.toArray T3)
    simpa using this
  · have := Own.new ((w.alloc (.cells x.toArray T1)).alloc (.cells y.toArray T2)) T3 z
    simpa using this

theorem rows3_start (L : List Hp.Node) (w : World) (g1 g2 g3 : Nat) (h : Own w g1 2 (icells .i64 (List.replicate L.length 0)) ∧ Own w g2 30 (icells .u64 (List.replicate L.length 0)) ∧ Own w g3 3 (icells .i64 (List.replicate L.length 0))) :
    Rows3 L w g1 g2 g3 0 (List.replicate L.length 0) (List.replicate L.length 0) (List.replicate L.length 0) :=
  ⟨h.1, h.2.1, h.2.2, by simp, by simp, by simp, by simp, by simp, by simp⟩

theorem one_set3 {B : Nat} {w w' : World} (h : Below B w w') {g1 g2 g3 : Nat} (h1 : B ≤ g1) (h2 : B ≤ g2) (h3 : B ≤ g3) (i j k : Nat) (x y z : Value) : Below B w (((w'.setCell ⟨g1, i, none⟩ x).setCell ⟨g2, j, none⟩ y).setCell ⟨g3, k, none⟩ z) :=
  ((h.setCell (p := ⟨g1, i, none⟩) h1 _).setCell (p := ⟨g2, j, none⟩) h2 _).setCell (p := ⟨g3, k, none⟩) h3 _

set_option maxHeartbeats 1000000 in
set_option maxRecDepth 100000 in
theorem split_call (a : Option Addr) (cap : Nat) (L : List Hp.Node) (w : World) (hn : L.length ≤ 1048576) (hL : NodesAt w a L) :
    Calls Try.prog 10 #[.slice a L.length cap] w fun e w' => ∃ g1 g2 g3 : Nat, e = .returned (.tuple #[.slice (some ⟨g1, 0, none⟩) L.length L.length, .slice (some ⟨g2, 0, none⟩) L.length L.length, .slice (some ⟨g3, 0, none⟩) L.length L.length]) ∧
      w.heap.size ≤ g1 ∧ w.heap.size ≤ g2 ∧ w.heap.size ≤ g3 ∧ g1 ≠ g2 ∧ g1 ≠ g3 ∧ g2 ≠ g3 ∧ Hid (Three L w' g1 g2 g3) ∧ Below w.heap.size w w' := by
  have HL : Hid (NodesAt w a L) := hL
  clear hL
  have hm1 := make_ints Try.underlying25 info2 L.length hn
  have hm2 := make_ints Try.underlying26 info30 L.length hn
  have hm3 := make_ints Try.underlying27 info3 L.length hn
  go_enter Try.func10, Try.ntmps10
  go_wp2
  go_loopw [8] (fun i wr => ∃ k : Nat, k ≤ L.length ∧ i = .int .i64 k ∧ (∃ A B C, Hid (Rows3 L wr w.heap.size (w.heap.size + 1) (w.heap.size + 1 + 1) k A B C)) ∧ Below w.heap.size w wr) (fun i _ => L.length - (intOf i).toNat)
  case atStart => exact ⟨0, Nat.zero_le _, rfl, ⟨_, _, _, rows3_start L _ _ _ _ (three_news w _ _ _ _ _ _)⟩, (((Below.refl _ w).alloc (Nat.le_refl _) _).alloc (by simp) _).alloc (by simp; omega) _⟩
  case round =>
    obtain ⟨k, hk, rfl, ⟨A, B, C, HR⟩, hb⟩ := hrel
    by_cases hlt : k < L.length
    · obtain ⟨b, off, rfl, hbs, x0, x1, x2⟩ := (HL.out) k hlt
      have hbs' : b ≠ w.heap.size ∧ b ≠ w.heap.size + 1 ∧ b ≠ w.heap.size + 1 + 1 := ⟨by omega, by omega, by omega⟩
      rw [← hb.cell (p := ⟨b, off + k * 3, none⟩) hbs] at x0
      rw [← hb.cell (p := ⟨b, off + k * 3 + 1, none⟩) hbs] at x1
      rw [← hb.cell (p := ⟨b, off + k * 3 + 2, none⟩) hbs] at x2
      obtain ⟨r0, f0⟩ := HR.out.oa.iready k (by rw [HR.out.la]; exact hlt)
      obtain ⟨r1, f1⟩ := HR.out.ob.iready k (by rw [HR.out.lb]; exact hlt)
      obtain ⟨r2, f2⟩ := HR.out.oc.iready k (by rw [HR.out.lc]; exact hlt)
      have HN : Hid _ := HR.out.step hlt (by omega) (by omega) (by omega)
      have HB' : Hid _ := one_set3 hb (g1 := w.heap.size) (g2 := w.heap.size + 1) (g3 := w.heap.size + 1 + 1) (by omega) (by omega) (by omega) k k k (.int .i64 (Hp.at' L k).1) (.int .u64 (Hp.at' L k).2.1) (.int .i64 (Hp.at' L k).2.2)
      go_wp2
      go_roundw
      case rel => exact ⟨k + 1, by omega, by go_num, ⟨_, _, _, HN.out⟩, HB'.out⟩
      case measure => simp [intOf]; omega
    · go_wp2
      go_ret3
      exact ⟨_, _, _, rfl, by omega, by omega, by omega, by omega, by omega, by omega, HR.out.whole (by omega), hb⟩
end Go.Proofs.Qxb6619558a
