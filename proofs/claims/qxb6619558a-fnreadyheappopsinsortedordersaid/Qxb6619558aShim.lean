import Derived.Test.Qxb6619558aDown
namespace Go.Proofs.Qxb6619558a
open Go.RowKit Go.Sort

/-- three rows of numbers that are read -/
def Read3 (L : List Hp.Node) (w : World) (g1 g2 g3 : Nat) : Prop :=
  g1 < w.heap.size ∧ g2 < w.heap.size ∧ g3 < w.heap.size ∧ ∀ i, i < L.length → w.cell? ⟨g1, i, none⟩ = some (.int .i64 (Hp.at' L i).1) ∧ w.cell? ⟨g2, i, none⟩ = some (.int .u64 (Hp.at' L i).2.1) ∧ w.cell? ⟨g3, i, none⟩ = some (.int .i64 (Hp.at' L i).2.2)

theorem Three.read {L : List Hp.Node} {w : World} {g1 g2 g3 : Nat} (h : Three L w g1 g2 g3) : Read3 L w g1 g2 g3 := by
  refine ⟨h.oa.lt, h.ob.lt, h.oc.lt, fun i hi => ⟨?_, ?_, ?_⟩⟩
  · rw [← secs_at]; exact (h.oa.iready i (by rw [secs_len]; exact hi)).1
  · rw [← ties_at]; exact (h.ob.iready i (by rw [ties_len]; exact hi)).1
  · rw [← ids_at]; exact (h.oc.iready i (by rw [ids_len]; exact hi)).1

theorem Read3.below {L : List Hp.Node} {w w' : World} {g1 g2 g3 : Nat} (h : Read3 L w g1 g2 g3) (hb : Below w.heap.size w w') : Read3 L w' g1 g2 g3 := by
  obtain ⟨a, b, c, hr⟩ := h
  have := hb.size
  refine ⟨by omega, by omega, by omega, fun i hi => ?_⟩
  obtain ⟨x, y, z⟩ := hr i hi
  exact ⟨(hb.cell (p := ⟨g1, i, none⟩) a).trans x, (hb.cell (p := ⟨g2, i, none⟩) b).trans y, (hb.cell (p := ⟨g3, i, none⟩) c).trans z⟩

set_option maxHeartbeats 1000000 in
set_option maxRecDepth 100000 in
theorem join_call (g1 g2 g3 c1 c2 c3 : Nat) (L : List Hp.Node) (w : World) (hn : L.length ≤ 1048576) (hL : Read3 L w g1 g2 g3) :
    Calls Try.prog 26 #[.slice (some ⟨g1, 0, none⟩) L.length c1, .slice (some ⟨g2, 0, none⟩) L.length c2, .slice (some ⟨g3, 0, none⟩) L.length c3] w fun e w' =>
      ∃ a', e = .returned (.slice a' L.length L.length) ∧ Hid (NodesAt w' a' L) ∧ Below w.heap.size w w' := by
  have HL : Hid (Read3 L w g1 g2 g3) := hL
  clear hL
  have hmk := make_nodes Try.underlying22 info32 L.length hn
  go_enter Try.func26, Try.ntmps26
  go_wp2
  go_loopw [9] (fun i wr => ∃ k : Nat, k ≤ L.length ∧ i = .int .i64 k ∧ (∃ D : List Hp.Node, Hid (D.length = L.length ∧ D.take k = L.take k ∧ Own wr w.heap.size 32 (ncells D))) ∧ Below w.heap.size w wr) (fun i _ => L.length - (intOf i).toNat)
  case atStart => exact ⟨0, Nat.zero_le _, rfl, ⟨zeros L.length, zeros_length _, by simp, Own.new w 32 _⟩, (Below.refl _ w).alloc (Nat.le_refl _) _⟩
  case round =>
    obtain ⟨k, hk, rfl, ⟨D, HD⟩, hb⟩ := hrel
    by_cases hlt : k < L.length
    · obtain ⟨l1, l2, l3, hr⟩ := HL.out
      obtain ⟨x0, x1, x2⟩ := hr k hlt
      rw [← hb.cell (p := ⟨g1, k, none⟩) l1] at x0
      rw [← hb.cell (p := ⟨g2, k, none⟩) l2] at x1
      rw [← hb.cell (p := ⟨g3, k, none⟩) l3] at x2
      clear hr
      obtain ⟨⟨v0, r0⟩, ⟨v1, r1⟩, ⟨v2, r2⟩, f0, f1, f2⟩ := HD.out.2.2.ready k (by rw [HD.out.1]; exact hlt)
      have HR : Hid _ := HD.out.2.2.store k (Hp.at' L k) (by rw [HD.out.1]; exact hlt)
      have HB' : Hid _ := three_sets hb (Nat.le_refl w.heap.size) (k * 3) (k * 3 + 1) (k * 3 + 2) (.int .i64 (Hp.at' L k).1) (.int .u64 (Hp.at' L k).2.1) (.int .i64 (Hp.at' L k).2.2)
      have hki : (k : Int) < (L.length : Int) := by omega
      go_wp2
      go_region
      go_wp2
      go_roundw
      case rel => exact ⟨k + 1, by omega, by go_num, ⟨_, by rw [List.length_set]; exact HD.out.1, take_set_step D L k HD.out.1 hlt HD.out.2.1, HR.out⟩, HB'.out.trans ⟨rfl, rfl, rfl, Nat.le_refl _, fun _ _ => rfl⟩⟩
      case measure => simp [intOf]; omega
    · go_wp2
      go_ret
      have e : D = L := by
        have h2 := HD.out.2.1
        rw [List.take_of_length_le (by have := HD.out.1; omega), List.take_of_length_le (by omega)] at h2
        exact h2
      exact ⟨_, rfl, (e ▸ HD.out.2.2).nodes, hb⟩

set_option maxHeartbeats 1000000 in
set_option maxRecDepth 100000 in
theorem shim_call (g1 g2 g3 c1 c2 c3 : Nat) (L : List Hp.Node) (w : World) (hn : L.length ≤ 1048576) (hL : Read3 L w g1 g2 g3) :
    Calls Try.prog 11 #[.slice (some ⟨g1, 0, none⟩) L.length c1, .slice (some ⟨g2, 0, none⟩) L.length c2, .slice (some ⟨g3, 0, none⟩) L.length c3] w fun e w' =>
      ∃ h1 h2 h3 : Nat, e = .returned (.tuple #[.slice (some ⟨h1, 0, none⟩) L.length L.length, .slice (some ⟨h2, 0, none⟩) L.length L.length, .slice (some ⟨h3, 0, none⟩) L.length L.length]) ∧
      w.heap.size ≤ h1 ∧ w.heap.size ≤ h2 ∧ w.heap.size ≤ h3 ∧ h1 ≠ h2 ∧ h1 ≠ h3 ∧ h2 ≠ h3 ∧ Hid (∃ L', Three L' w' h1 h2 h3 ∧ Hp.Post L L') ∧ Below w.heap.size w w' := by
  have HL : Hid (Read3 L w g1 g2 g3) := hL
  clear hL
  have hmk := make_nodes Try.underlying58 info60 L.length hn
  have hm1 := make_ints Try.underlying25 info2 L.length hn
  have hm2 := make_ints Try.underlying26 info30 L.length hn
  have hm3 := make_ints Try.underlying27 info3 L.length hn
  go_enter Try.func11, Try.ntmps11
  go_wp2
  go_loopw [20] (fun i wr => ∃ k : Nat, k ≤ L.length ∧ i = .int .i64 k ∧ (∃ D : List Hp.Node, Hid (D.length = L.length ∧ D.take k = L.take k ∧ Own wr w.heap.size 60 (ncells D))) ∧ Below w.heap.size w wr) (fun i _ => L.length - (intOf i).toNat)
  case atStart => exact ⟨0, Nat.zero_le _, rfl, ⟨zeros L.length, zeros_length _, by simp, Own.new w 60 _⟩, (Below.refl _ w).alloc (Nat.le_refl _) _⟩
  case round =>
    obtain ⟨k, hk, rfl, ⟨D, HD⟩, hb⟩ := hrel
    by_cases hlt : k < L.length
    · obtain ⟨l1, l2, l3, hr⟩ := HL.out
      obtain ⟨x0, x1, x2⟩ := hr k hlt
      rw [← hb.cell (p := ⟨g1, k, none⟩) l1] at x0
      rw [← hb.cell (p := ⟨g2, k, none⟩) l2] at x1
      rw [← hb.cell (p := ⟨g3, k, none⟩) l3] at x2
      clear hr
      obtain ⟨⟨v0, r0⟩, ⟨v1, r1⟩, ⟨v2, r2⟩, f0, f1, f2⟩ := HD.out.2.2.ready k (by rw [HD.out.1]; exact hlt)
      have HR : Hid _ := HD.out.2.2.store k (Hp.at' L k) (by rw [HD.out.1]; exact hlt)
      have HB' : Hid _ := three_sets hb (Nat.le_refl w.heap.size) (k * 3) (k * 3 + 1) (k * 3 + 2) (.int .i64 (Hp.at' L k).1) (.int .u64 (Hp.at' L k).2.1) (.int .i64 (Hp.at' L k).2.2)
      have hki : (k : Int) < (L.length : Int) := by omega
      go_wp2
      go_region
      go_wp2
      go_roundw
      case rel => exact ⟨k + 1, by omega, by go_num, ⟨_, by rw [List.length_set]; exact HD.out.1, take_set_step D L k HD.out.1 hlt HD.out.2.1, HR.out⟩, HB'.out.trans ⟨rfl, rfl, rfl, Nat.le_refl _, fun _ _ => rfl⟩⟩
      case measure => simp [intOf]; omega
    · have HO : Hid (Own wr w.heap.size 60 (ncells L)) := by
        have h2 := HD.out.2.1
        rw [List.take_of_length_le (by have := HD.out.1; omega), List.take_of_length_le (by omega)] at h2
        exact h2 ▸ HD.out.2.2
      clear HD
      go_wp2_with fail
      refine (down_call w.heap.size L w.heap.size wr hn HO.out (Nat.le_refl _)).mono ?_
      rintro e W1 ⟨rfl, ⟨L', HD⟩, hb1'⟩
      have hb1 : Below w.heap.size w W1 := hb.trans hb1'
      clear hb hb1' HO
      have HLE : Hid (L'.length = L.length) := HD.out.2.len
      have hgl := HD.out.1.lt
      have HT0 : Hid _ := rows3_start L' _ _ _ _ (by rw [HLE.out]; exact three_news W1 (icells .i64 (List.replicate L.length 0)) (icells .u64 (List.replicate L.length 0)) (icells .i64 (List.replicate L.length 0)) 2 30 3)
      have HG0 : Hid _ := ((HD.out.1.alloc (.cells (icells .i64 (List.replicate L.length 0)).toArray 2)).alloc (.cells (icells .u64 (List.replicate L.length 0)).toArray 30)).alloc (.cells (icells .i64 (List.replicate L.length 0)).toArray 3)
      go_wp2
      go_loopw [53] (fun i wr2 => ∃ k : Nat, k ≤ L.length ∧ i = .int .i64 k ∧ (∃ A B C, Hid (Rows3 L' wr2 W1.heap.size (W1.heap.size + 1) (W1.heap.size + 1 + 1) k A B C ∧ Own wr2 w.heap.size 60 (ncells L'))) ∧ Below w.heap.size w wr2) (fun i _ => L.length - (intOf i).toNat)
      case atStart => exact ⟨0, Nat.zero_le _, rfl, ⟨_, _, _, HT0.out, HG0.out⟩, ((hb1.alloc hb1.size _).alloc (by have := hb1.size; simp; omega) _).alloc (by have := hb1.size; simp; omega) _⟩
      case round =>
        clear HT0 HG0
        obtain ⟨k, hk, rfl, ⟨A, B, C, HR⟩, hb⟩ := hrel
        by_cases hlt : k < L.length
        · obtain ⟨x0, x1, x2⟩ := own_at HR.out.2 k (by rw [HLE.out]; exact hlt)
          obtain ⟨r0, f0⟩ := HR.out.1.oa.iready k (by rw [HR.out.1.la, HLE.out]; exact hlt)
          obtain ⟨r1, f1⟩ := HR.out.1.ob.iready k (by rw [HR.out.1.lb, HLE.out]; exact hlt)
          obtain ⟨r2, f2⟩ := HR.out.1.oc.iready k (by rw [HR.out.1.lc, HLE.out]; exact hlt)
          have hne : w.heap.size ≠ W1.heap.size ∧ w.heap.size ≠ W1.heap.size + 1 ∧ w.heap.size ≠ W1.heap.size + 1 + 1 := ⟨by omega, by omega, by omega⟩
          have HN : Hid _ := HR.out.1.step (by rw [HLE.out]; exact hlt) (by omega) (by omega) (by omega)
          have HN2 : Hid _ := ((HR.out.2.other hne.1 k (.int .i64 (Hp.at' L' k).1)).other hne.2.1 k (.int .u64 (Hp.at' L' k).2.1)).other hne.2.2 k (.int .i64 (Hp.at' L' k).2.2)
          have HB' : Hid _ := one_set3 hb (g1 := W1.heap.size) (g2 := W1.heap.size + 1) (g3 := W1.heap.size + 1 + 1) hb1.size (by have := hb1.size; omega) (by have := hb1.size; omega) k k k (.int .i64 (Hp.at' L' k).1) (.int .u64 (Hp.at' L' k).2.1) (.int .i64 (Hp.at' L' k).2.2)
          go_wp2
          go_roundw
          case rel => exact ⟨k + 1, by omega, by go_num, ⟨_, _, _, HN.out, HN2.out⟩, HB'.out⟩
          case measure => simp [intOf]; omega
        · go_wp2
          go_ret3
          have := hb1.size
          exact ⟨_, _, _, rfl, by omega, by omega, by omega, by omega, by omega, by omega, ⟨L', HR.out.1.whole (by rw [HLE.out]; omega), HD.out.2⟩, hb⟩
end Go.Proofs.Qxb6619558a
