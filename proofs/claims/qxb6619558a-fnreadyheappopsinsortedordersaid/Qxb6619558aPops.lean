import Derived.Test.Qxb6619558aShim
import Derived.Deep.RegionLaw
namespace Go.Proofs.Qxb6619558a
open Go.RowKit Go.Sort

/-- w' is w but for block g -/
structure Upd (g : Nat) (w w' : World) : Prop where
  os : w'.os = w.os
  tape : w'.tape = w.tape
  output : w'.output = w.output
  size : w'.heap.size = w.heap.size
  block : ∀ k, k ≠ g → w'.heap[k]? = w.heap[k]?

theorem Upd.below {g B : Nat} {w0 w w' : World} (h : Upd g w w') (hb : Below B w0 w) (hB : B ≤ g) : Below B w0 w' :=
  hb.trans ⟨h.os, h.tape, h.output, by rw [h.size]; exact Nat.le_refl _, fun k hk => h.block k (by omega)⟩
theorem Upd.own {g k : Nat} {w w' : World} {T : TypeId} {cs : List Value} (h : Upd g w w') (ho : Own w k T cs) (hk : k ≠ g) : Own w' k T cs := by
  unfold Own at *; rw [h.block k hk]; exact ho

theorem upd_sets (w : World) (g i j k : Nat) (x y z : Value) : Upd g w (((w.setCell ⟨g, i, none⟩ x).setCell ⟨g, j, none⟩ y).setCell ⟨g, k, none⟩ z) := by
  refine ⟨rfl, rfl, rfl, by simp [World.setCell], fun m hm => ?_⟩
  rw [heap_setCell_other _ _ m _ hm, heap_setCell_other _ _ m _ hm, heap_setCell_other _ _ m _ hm]

/-- 'got = append(got, node)' within the capacity, as one step of a region that draws -/
theorem step_append_node {ops : Array Oper} {o : Oper} {a : Act} {w : World} {K : Act → World → Prop} {Q : Exit → Act → World → Prop} {E : Prop}
    (hg : o.guard = none) (s x : Operand) (hop : o.op = Op.call { callee := Callee.builtin Builtin.append, args := #[s, x], argTypes := #[22, 22] })
    (gg k cap : Nat) (R : List Hp.Node) (n : Hp.Node) (hs : a.eval s = .slice (some ⟨gg, 0, none⟩) k cap) (ad : Nat) (hx : a.eval x = .slice (some ⟨ad, 0, none⟩) 1 1)
    (c0 : w.cell? ⟨ad, 0, none⟩ = some (.int .i64 n.1)) (c1 : w.cell? ⟨ad, 1, none⟩ = some (.int .u64 n.2.1)) (c2 : w.cell? ⟨ad, 2, none⟩ = some (.int .i64 n.2.2))
    (hown : Own w gg 32 (ncells R)) (hk : k < R.length) (hcap : k + 1 ≤ cap)
    (hK : ∀ w', Hid (Own w' gg 32 (ncells (R.set k n))) → Upd gg w w' → K (a.put o.dst (.slice (some ⟨gg, 0, none⟩) (k + 1) cap)) w') :
    if Region.wanted o (yielded ops a.tmps) = true then Oper.wp Try.prog o a w K Q else E := by
  obtain ⟨i0, hi, hz0, hz1, hz2⟩ := info_parts info32
  have key : ∀ j : Nat, j < 3 → (w.cell? ⟨gg, k * 3 + j, none⟩).isSome = true := by
    intro j hj
    obtain ⟨h0, h1, h2⟩ := own_at hown k hk
    match j, hj with
    | 0, _ => rw [Nat.add_zero, h0]; rfl
    | 1, _ => rw [h1]; rfl
    | 2, _ => rw [h2]; rfl
  refine step_append_room hg s x 22 hop 32 i0 3 Try.underlying22 hi hz1 gg 0 k cap hs ⟨ad, 0, none⟩ 1 1 (cells3 n) hx rfl ?_ ?_ hcap ?_ ?_
  · intro j u hj
    match j, hj with
    | 0, hj => cases hj; exact c0
    | 1, hj => cases hj; exact c1
    | 2, hj => cases hj; exact c2
  · intro u hu
    simp [cells3] at hu
    rcases hu with rfl | rfl | rfl <;> rfl
  · intro j hj
    rw [Nat.zero_add]
    exact ⟨key j hj, hown.frozen _⟩
  · have e : w.setCells gg (0 + k * 3) (cells3 n) = ((w.setCell ⟨gg, k * 3, none⟩ (.int .i64 n.1)).setCell ⟨gg, k * 3 + 1, none⟩ (.int .u64 n.2.1)).setCell ⟨gg, k * 3 + 2, none⟩ (.int .i64 n.2.2) := by
      rw [Nat.zero_add]; rfl
    rw [e]
    exact hK _ (hown.store k n hk) (upd_sets w gg _ _ _ _ _ _)

theorem make_nodes0 (n : Nat) (hn : n ≤ 1048576) (W : World) :
    (Instr.makeSlice 22 (.int .i64 0) (.int .i64 (n : Int))).run Try.prog W = .ok (.slice (some ⟨W.heap.size, 0, none⟩) 0 n) (W.alloc (.cells (ncells (zeros n)).toArray 32)) := by
  obtain ⟨i0, hi, hz0, hz1, hz2⟩ := info_parts info32
  rw [run_make (P := Try.prog) W 22 32 i0 _ Try.underlying22 hi hz0 .i64 .i64 0 (n : Int) (by omega) (by omega) (by rw [hz2]; omega) (by omega)]
  have e : (Value.agg #[.int .i64 0, .int .u64 0, .int .i64 0]).cells = #[Value.int .i64 0, Value.int .u64 0, Value.int .i64 0] := rfl
  rw [e, hz1, ← made_nodes]
  simp

/-- the last node put in the root's place -/
theorem Three.pop {H : List Hp.Node} {w : World} {g1 g2 g3 q : Nat} (h : Three H w g1 g2 g3) (hq : H.length = q + 1) (h12 : g1 ≠ g2) (h13 : g1 ≠ g3) (h23 : g2 ≠ g3) :
    Read3 (Hp.popped H) (((w.setCell ⟨g1, 0, none⟩ (.int .i64 (Hp.at' H q).1)).setCell ⟨g2, 0, none⟩ (.int .u64 (Hp.at' H q).2.1)).setCell ⟨g3, 0, none⟩ (.int .i64 (Hp.at' H q).2.2)) g1 g2 g3 := by
  have key : Three (H.set 0 (Hp.at' H q)) (((w.setCell ⟨g1, 0, none⟩ (.int .i64 (Hp.at' H q).1)).setCell ⟨g2, 0, none⟩ (.int .u64 (Hp.at' H q).2.1)).setCell ⟨g3, 0, none⟩ (.int .i64 (Hp.at' H q).2.2)) g1 g2 g3 := by
    have e1 : secs (H.set 0 (Hp.at' H q)) = (secs H).set 0 (Hp.at' H q).1 := by simp [secs]
    have e2 : ties (H.set 0 (Hp.at' H q)) = (ties H).set 0 (Hp.at' H q).2.1 := by simp [ties]
    have e3 : ids (H.set 0 (Hp.at' H q)) = (ids H).set 0 (Hp.at' H q).2.2 := by simp [ids]
    refine ⟨?_, ?_, ?_⟩
    · rw [e1]; exact ((h.oa.istore 0 _).other h12 _ _).other h13 _ _
    · rw [e2]; exact ((h.ob.other (Ne.symm h12) _ _).istore 0 _).other h23 _ _
    · rw [e3]; exact ((h.oc.other (Ne.symm h13) _ _).other (Ne.symm h23) _ _).istore 0 _
  obtain ⟨a, b, c, hr⟩ := key.read
  refine ⟨a, b, c, fun i hi => ?_⟩
  have hi' : i < q := by rw [Hp.popped_len, hq] at hi; omega
  have e : Hp.at' (Hp.popped H) i = Hp.at' (H.set 0 (Hp.at' H q)) i := by
    unfold Hp.popped
    rw [hq, Nat.add_sub_cancel, Hp.at_take _ _ _ hi']
  rw [e]
  exact hr i (by rw [List.length_set]; omega)

theorem three_upd {H : List Hp.Node} {w w' : World} {o : Obj} {gg g1 g2 g3 : Nat} (h : Three H w g1 g2 g3) (hu : Upd gg (w.drew.alloc o) w') (h1 : g1 ≠ gg) (h2 : g2 ≠ gg) (h3 : g3 ≠ gg) : Three H w' g1 g2 g3 := by
  have h' : Three H w.drew g1 g2 g3 := ⟨h.oa, h.ob, h.oc⟩
  exact ⟨hu.own (h'.oa.alloc o) h1, hu.own (h'.ob.alloc o) h2, hu.own (h'.oc.alloc o) h3⟩
theorem below_upd {gg : Nat} {w0 w w' : World} {o : Obj} (hb : Below w0.heap.size w0 w) (hu : Upd gg (w.drew.alloc o) w') (hB : w0.heap.size ≤ gg) : Below w0.heap.size w0 w' := by
  have h1 : Below w0.heap.size w0 w.drew := hb.trans ⟨rfl, rfl, rfl, Nat.le_refl _, fun _ _ => rfl⟩
  exact hu.below (h1.alloc h1.size o) hB

structure PopSt (L : List Hp.Node) (B gg : Nat) (wr : World) (q : Nat) (G H : List Hp.Node) (g1 g2 g3 c1 c2 c3 : Nat) : Prop where
  hl : H.length = q
  gl : G.length + q = L.length
  three : 0 < q → Three H wr g1 g2 g3
  row : ∃ R : List Hp.Node, R.length = L.length ∧ R.take G.length = G ∧ Own wr gg 32 (ncells R)
  n12 : g1 ≠ g2
  n13 : g1 ≠ g3
  n23 : g2 ≠ g3
  m1 : g1 ≠ gg
  m2 : g2 ≠ gg
  m3 : g3 ≠ gg
  b1 : B ≤ g1
  b2 : B ≤ g2
  b3 : B ≤ g3
  k1 : q ≤ c1
  k2 : q ≤ c2
  k3 : q ≤ c3
  pops : Hp.Pops L G H

theorem take_set_next {R G : List Hp.Node} {n : Nat} (x : Hp.Node) (h1 : R.length = n) (h2 : R.take G.length = G) (h3 : G.length < n) : (R.set G.length x).take (G.length + 1) = G ++ [x] := by
  have e := List.take_add_one (l := R.set G.length x) (i := G.length)
  rw [e, List.take_set_of_le (Nat.le_refl _), h2]
  simp [h1, h3]

theorem PopSt.nil {L G H R : List Hp.Node} {B gg : Nat} {wr WW : World} {g1 g2 g3 c1 c2 c3 : Nat} (h : PopSt L B gg wr (0 + 1) G H g1 g2 g3 c1 c2 c3) (h1 : R.length = L.length) (h2 : R.take G.length = G)
    (ho : Own WW gg 32 (ncells (R.set G.length (Hp.at' H 0)))) : PopSt L B gg WW 0 (G ++ [Hp.at' H 0]) (Hp.popped H) g1 g2 g3 c1 c2 c3 := by
  have gl := h.gl
  have hl := h.hl
  have hp : (Hp.popped H).length = 0 := by rw [Hp.popped_len]; omega
  exact ⟨hp, by simp; omega, fun h => absurd h (by omega), ⟨_, by rw [List.length_set]; exact h1, by rw [List.length_append]; exact take_set_next _ h1 h2 (by omega), ho⟩, h.n12, h.n13, h.n23, h.m1, h.m2, h.m3, h.b1, h.b2, h.b3, Nat.zero_le _, Nat.zero_le _, Nat.zero_le _,
    Hp.pops_step h.pops (by omega) (Hp.post_nil hp)⟩

theorem PopSt.next {L G H R L' : List Hp.Node} {B gg q : Nat} {wr WW WX : World} {g1 g2 g3 c1 c2 c3 h1 h2 h3 : Nat} (h : PopSt L B gg wr (q + 1) G H g1 g2 g3 c1 c2 c3) (r1 : R.length = L.length) (r2 : R.take G.length = G)
    (ho : Own WW gg 32 (ncells (R.set G.length (Hp.at' H 0)))) (hb : Below WW.heap.size WW WX) (hB : B ≤ WW.heap.size) (l1 : WW.heap.size ≤ h1) (l2 : WW.heap.size ≤ h2) (l3 : WW.heap.size ≤ h3)
    (n12 : h1 ≠ h2) (n13 : h1 ≠ h3) (n23 : h2 ≠ h3) (ht : Three L' WX h1 h2 h3) (hp : Hp.Post (Hp.popped H) L') : PopSt L B gg WX q (G ++ [Hp.at' H 0]) L' h1 h2 h3 q q q := by
  have gl := h.gl
  have hl := h.hl
  have lt := ho.lt
  exact ⟨by rw [hp.len, Hp.popped_len]; omega, by simp; omega, fun _ => ht, ⟨_, by rw [List.length_set]; exact r1, by rw [List.length_append]; exact take_set_next _ r1 r2 (by omega), ho.below lt hb⟩, n12, n13, n23, by omega, by omega, by omega, by omega, by omega, by omega,
    Nat.le_refl _, Nat.le_refl _, Nat.le_refl _, Hp.pops_step h.pops (by omega) hp⟩

set_option maxHeartbeats 1000000 in
set_option maxRecDepth 100000 in
theorem pops_walk (a : Option Addr) (cap : Nat) (L : List Hp.Node) (w : World) (hm : L.length ≤ 4096) (hL : NodesAt w a L) (ha : a = none → L.length = 0) :
    Calls Try.prog 3 #[.slice a L.length cap] w fun e w' => e = .returned (.bool true) ∧ Below w.heap.size w w' := by
  have HL : Hid (NodesAt w a L) := hL
  have HA : Hid (a = none → L.length = 0) := ha
  clear hL ha
  have hmk := make_nodes0 L.length (by omega)
  go_enter Try.func3, Try.ntmps3
  go_wp2_with (go_at_call 6; go_in)
  refine (premise_call a cap L w (by omega) HL.out).mono ?_
  rintro e W1 ⟨r1, rfl, HR1, hb1⟩
  have HL1 : Hid (NodesAt W1 a L) := HL.out.old hb1
  cases r1
  · go_wp2_with fail
    go_ret
    exact ⟨rfl, hb1⟩
  have HPR : Hid (Hp.IsHeap L ∧ Hp.Distinct L) := HR1.out.1 rfl
  clear HR1 HL
  go_wp2_with fail
  refine (clone_call a cap L W1 (by omega) HL1.out HA.out).mono ?_
  rintro e W2 ⟨a2, cap2, rfl, HL2, hb2⟩
  have hb02 : Below w.heap.size w W2 := hb1.trans (hb2.mono hb1.size)
  clear HL1 HA hb1 hb2
  go_wp2_with fail
  refine (sort_call a2 cap2 L W2 (by omega) HL2.out).mono ?_
  rintro e W3 ⟨a3, S, rfl, HS, hb3⟩
  have hb03 : Below w.heap.size w W3 := hb02.trans (hb3.mono hb02.size)
  have HL3 : Hid (NodesAt W3 a2 L) := HL2.out.old hb3
  clear HL2 hb3 hb02
  go_wp2_with fail
  refine (split_call a2 cap2 L W3 (by omega) HL3.out).mono ?_
  rintro e W4 ⟨g1, g2, g3, rfl, k1, k2, k3, n1, n2, n3, HT, hb4⟩
  have HP0 : Hid (PopSt L W3.heap.size W4.heap.size (W4.alloc (.cells (ncells (zeros L.length)).toArray 32)) L.length [] L g1 g2 g3 L.length L.length L.length) :=
    ⟨rfl, by simp, fun _ => HT.out.below ((Below.refl _ W4).alloc (Nat.le_refl _) _), ⟨_, zeros_length _, by simp, Own.new W4 32 _⟩, n1, n2, n3, Nat.ne_of_lt HT.out.oa.lt, Nat.ne_of_lt HT.out.ob.lt, Nat.ne_of_lt HT.out.oc.lt, k1, k2, k3, Nat.le_refl _, Nat.le_refl _, Nat.le_refl _, Hp.pops_start HPR.out.1⟩
  have hgg := hb4.size
  have HB0 : Hid (Below W3.heap.size W3 (W4.alloc (.cells (ncells (zeros L.length)).toArray 32))) := hb4.alloc hgg _
  clear HT k1 k2 k3 n1 n2 n3 HL3
  go_wp2
  go_loopw [4, 5, 6, 7, 8] (fun s t d g m wr => ∃ (q : Nat) (G H : List Hp.Node) (g1 g2 g3 c1 c2 c3 : Nat), s = .slice (some ⟨g1, 0, none⟩) q c1 ∧ t = .slice (some ⟨g2, 0, none⟩) q c2 ∧ d = .slice (some ⟨g3, 0, none⟩) q c3 ∧
    g = .slice (some ⟨W4.heap.size, 0, none⟩) G.length L.length ∧ m = .int .i64 q ∧ Hid (PopSt L W3.heap.size W4.heap.size wr q G H g1 g2 g3 c1 c2 c3) ∧ Below W3.heap.size W3 wr) (fun _ _ _ _ m _ => (intOf m).toNat)
  case atStart => exact ⟨L.length, [], L, g1, g2, g3, _, _, _, rfl, rfl, rfl, rfl, rfl, HP0, HB0.out⟩
  case round =>
    clear HP0 HB0 hb4
    obtain ⟨m, G, H, g1, g2, g3, c1, c2, c3, rfl, rfl, rfl, rfl, rfl, HP, hb⟩ := hrel
    cases m with
    | zero =>
      have HPe : Hid (H = []) := List.eq_nil_of_length_eq_zero HP.out.hl
      have HGL : Hid (G.length = L.length) := HP.out.gl
      have HGS : Hid (G = S) := Hp.pops_end (HPe.out ▸ HP.out.pops) HPR.out.2 HS.out.2.2 HS.out.2.1
      obtain ⟨R, r1, r2, ho⟩ := HP.out.row
      have hRG : R = G := by rw [← r2, List.take_of_length_le (by rw [r1, HGL.out]; exact Nat.le_refl _)]
      have HN : Hid (NodesAt wr (some ⟨W4.heap.size, 0, none⟩) G) := (hRG ▸ ho).nodes
      clear r1 r2 ho hRG
      have E8 : Hid (S.length = L.length) := HS.out.2.1.length_eq
      have I := same_call (some ⟨W4.heap.size, 0, none⟩) a3 L.length L.length G S wr (by rw [HGL.out]; omega) HN.out (HS.out.1.old hb)
      rw [E8.out] at I
      have HI : Hid _ := I
      clear I
      go_wp2_with fail
      refine Calls.mono HI.out ?_
      rintro e W9 ⟨r9, rfl, HR9, m9, rfl⟩
      obtain rfl : r9 = true := HR9.out.2 HGS.out
      clear HI HR9
      go_wp2
      go_ret
      exact ⟨rfl, below_drewN (hb03.trans (hb.mono hb03.size)) m9⟩
    | succ q =>
      obtain ⟨R, hR⟩ := HP.out.row
      have HR : Hid _ := hR
      clear hR
      have hT := HP.out.three (by omega)
      have HTh : Hid _ := hT
      have hHl := HP.out.hl
      have hGl := HP.out.gl
      obtain ⟨x0, _⟩ := hT.oa.iready 0 (by rw [secs_len]; omega)
      obtain ⟨x1, _⟩ := hT.ob.iready 0 (by rw [ties_len]; omega)
      obtain ⟨x2, _⟩ := hT.oc.iready 0 (by rw [ids_len]; omega)
      rw [secs_at] at x0
      rw [ties_at] at x1
      rw [ids_at] at x2
      clear hT
      have hro : Own wr.drew W4.heap.size 32 (ncells R) := HR.out.2.2
      have HRO : Hid (Own wr.drew W4.heap.size 32 (ncells R)) := hro
      clear hro
      go_wp2
      go_region_law (refine step_append_node rfl (.tmp 37) (.tmp 48) rfl W4.heap.size G.length L.length R (Hp.at' H 0) (by simp [Act.eval]) wr.drew.heap.size (by simp [Act.eval]) (by simp) (by simp) (by simp) (HRO.out.alloc _) (by have := HR.out.1; omega) (by omega) ?_; intro w' hO hU)
      all_goals
        have HTw : Hid (Three H w' g1 g2 g3) := three_upd HTh.out hU HP.out.m1 HP.out.m2 HP.out.m3
        have hbw : Below W3.heap.size W3 w' := below_upd hb hU hgg
        clear hU hb x0 x1 x2 HRO
        obtain ⟨y0, f0⟩ := HTw.out.oa.iready 0 (by rw [secs_len]; omega)
        obtain ⟨y1, f1⟩ := HTw.out.ob.iready 0 (by rw [ties_len]; omega)
        obtain ⟨y2, f2⟩ := HTw.out.oc.iready 0 (by rw [ids_len]; omega)
        obtain ⟨z0, _⟩ := HTw.out.oa.iready q (by rw [secs_len]; omega)
        obtain ⟨z1, _⟩ := HTw.out.ob.iready q (by rw [ties_len]; omega)
        obtain ⟨z2, _⟩ := HTw.out.oc.iready q (by rw [ids_len]; omega)
        rw [secs_at] at z0 y0
        rw [ties_at] at z1 y1
        rw [ids_at] at z2 y2
        have n12 := HP.out.n12
        have n13 := HP.out.n13
        have n23 := HP.out.n23
        have k1 := HP.out.k1
        have k2 := HP.out.k2
        have k3 := HP.out.k3
        have HR3 : Hid (Read3 (Hp.popped H) (((w'.setCell ⟨g1, 0, none⟩ (.int .i64 (Hp.at' H q).1)).setCell ⟨g2, 0, none⟩ (.int .u64 (Hp.at' H q).2.1)).setCell ⟨g3, 0, none⟩ (.int .i64 (Hp.at' H q).2.2)) g1 g2 g3) := HTw.out.pop hHl n12 n13 n23
        have HB3 : Hid (Below W3.heap.size W3 (((w'.setCell ⟨g1, 0, none⟩ (.int .i64 (Hp.at' H q).1)).setCell ⟨g2, 0, none⟩ (.int .u64 (Hp.at' H q).2.1)).setCell ⟨g3, 0, none⟩ (.int .i64 (Hp.at' H q).2.2))) := one_set3 hbw HP.out.b1 HP.out.b2 HP.out.b3 0 0 0 _ _ _
        have HO3 : Hid (Own (((w'.setCell ⟨g1, 0, none⟩ (.int .i64 (Hp.at' H q).1)).setCell ⟨g2, 0, none⟩ (.int .u64 (Hp.at' H q).2.1)).setCell ⟨g3, 0, none⟩ (.int .i64 (Hp.at' H q).2.2)) W4.heap.size 32 (ncells (R.set G.length (Hp.at' H 0)))) := ((hO.out.other (Ne.symm HP.out.m1) 0 _).other (Ne.symm HP.out.m2) 0 _).other (Ne.symm HP.out.m3) 0 _
        clear hO hbw
        by_cases hq : q = 0
        · subst hq
          go_wp2
          go_roundw
          case rel => exact ⟨0, G ++ [Hp.at' H 0], Hp.popped H, g1, g2, g3, c1, c2, c3, rfl, rfl, rfl, by rw [List.length_append, ← hGl]; rfl, rfl, HP.out.nil HR.out.1 HR.out.2.1 HO3.out, HB3.out⟩
          case measure => simp [intOf]
        · go_wp2_with fail
          generalize (((w'.setCell ⟨g1, 0, none⟩ (.int .i64 (Hp.at' H q).1)).setCell ⟨g2, 0, none⟩ (.int .u64 (Hp.at' H q).2.1)).setCell ⟨g3, 0, none⟩ (.int .i64 (Hp.at' H q).2.2)) = WW at *
          have HPL : Hid ((Hp.popped H).length = q) := (show _ = _ by rw [Hp.popped_len]; omega)
          have I := shim_call g1 g2 g3 c1 c2 c3 (Hp.popped H) WW (by rw [HPL.out]; omega) HR3.out
          rw [HPL.out] at I
          have HI : Hid _ := I
          clear I
          refine Calls.mono HI.out ?_
          rintro e WX ⟨h1, h2, h3, rfl, l1, l2, l3, m12, m13, m23, HX, hbX⟩
          obtain ⟨L', hT', hP'⟩ := HX.out
          have HN : Hid (PopSt L W3.heap.size W4.heap.size WX q (G ++ [Hp.at' H 0]) L' h1 h2 h3 q q q) := HP.out.next HR.out.1 HR.out.2.1 HO3.out hbX HB3.out.size l1 l2 l3 m12 m13 m23 hT' hP'
          have HBX : Hid (Below W3.heap.size W3 WX) := HB3.out.trans (hbX.mono HB3.out.size)
          clear HI HX hT' hP' hbX HR3 HB3 HO3 HPL HTw
          go_wp2
          go_roundw
          case rel => exact ⟨q, G ++ [Hp.at' H 0], L', h1, h2, h3, q, q, q, rfl, rfl, rfl, by rw [List.length_append]; rfl, by go_num, HN, HBX.out⟩
          case measure => simp [intOf]

theorem pops_big (a : Option Addr) (len cap : Nat) (w : World) (h : 4096 < len) :
    Calls Try.prog 3 #[.slice a len cap] w fun e w' => e = .returned (.bool true) ∧ Below w.heap.size w w' := by
  by_cases h2 : 1048576 < len
  · go_enter Try.func3, Try.ntmps3
    go_wp2
    go_ret
    exact ⟨rfl, Below.refl _ _⟩
  · go_enter Try.func3, Try.ntmps3
    go_wp2
    go_ret
    exact ⟨rfl, Below.refl _ _⟩

end Go.Proofs.Qxb6619558a
