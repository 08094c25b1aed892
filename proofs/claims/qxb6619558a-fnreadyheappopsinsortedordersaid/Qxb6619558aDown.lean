import Derived.Test.Qxb6619558aSplit
namespace Go.Proofs.Qxb6619558a
open Go.RowKit Go.Sort

set_option maxHeartbeats 1000000 in
set_option maxRecDepth 100000 in
theorem down_call (g : Nat) (L : List Hp.Node) (B : Nat) (w : World) (hn : L.length ≤ 1048576) (hO : Own w g 60 (ncells L)) (hB : B ≤ g) :
    Calls Try.prog 30 #[.slice (some ⟨g, 0, none⟩) L.length L.length] w fun e w' => e = .returned (.tuple #[]) ∧ (∃ L', Hid (Own w' g 60 (ncells L') ∧ Hp.Post L L')) ∧ Below B w w' := by
  have HO : Hid (Own w g 60 (ncells L)) := hO
  have hgl := hO.lt
  clear hO
  by_cases h0 : L.length = 0
  · have HH : Hid (L.length = 0) := h0
    have hb : ((L.length : Int) == 0) = true := by simp [h0]
    clear h0
    go_enter Try.func30, Try.ntmps30
    go_wp2
    exact bodyPost_ret (v := .tuple #[]) (by simp [results, Try.results30, go_sem]) rfl ⟨rfl, ⟨L, HO.out, Hp.post_nil HH.out⟩, Below.refl _ _⟩
  · have hpos : 0 < L.length := by omega
    have hb : ((L.length : Int) == 0) = false := by rw [beq_eq_false_iff_ne]; omega
    clear h0
    have hbi : (0 : Int) < (L.length : Int) := by omega
    obtain ⟨x0, x1, x2⟩ := own_at HO.out 0 hpos
    simp only [Nat.zero_mul, Nat.zero_add] at x0 x1 x2
    obtain ⟨r, hr⟩ : ∃ r, r = Hp.at' L 0 := ⟨_, rfl⟩
    rw [← hr] at x0 x1 x2
    have HR : Hid (r = Hp.at' L 0) := hr
    clear hr
    go_enter Try.func30, Try.ntmps30
    go_wp2
    have HBX : Hid (Own (w.alloc (.cells #[.int .i64 r.1, .int .u64 r.2.1, .int .i64 r.2.2] 60)) w.heap.size 60 [.int .i64 r.1, .int .u64 r.2.1, .int .i64 r.2.2]) := Own.new w 60 _
    have HOA : Hid (Own (w.alloc (.cells #[.int .i64 r.1, .int .u64 r.2.1, .int .i64 r.2.2] 60)) g 60 (ncells L)) := HO.out.alloc _
    clear x0 x1 x2
    go_loopw [3] (fun vi wr => ∃ (i : Nat) (h : List Hp.Node), vi = .int .i64 i ∧ i < L.length ∧ Hid (Hp.Inv L r h i ∧ Own wr g 60 (ncells h) ∧ Own wr w.heap.size 60 [.int .i64 r.1, .int .u64 r.2.1, .int .i64 r.2.2]) ∧ Below B w wr) (fun vi _ => L.length - (intOf vi).toNat)
    case atStart => exact ⟨0, L, rfl, hpos, ⟨by rw [HR.out]; exact Hp.inv_start L hpos, HOA.out, HBX.out⟩, (Below.refl _ w).alloc (by omega) _⟩
    case round =>
      clear HBX HOA
      obtain ⟨i, h, rfl, hi, HI, hbl⟩ := hrel
      have hlen : Hid (h.length = L.length) := HI.out.1.len
      obtain ⟨q0, q1, q2⟩ : wr.cell? ⟨w.heap.size, 0, none⟩ = some (.int .i64 r.1) ∧ wr.cell? ⟨w.heap.size, 1, none⟩ = some (.int .u64 r.2.1) ∧ wr.cell? ⟨w.heap.size, 2, none⟩ = some (.int .i64 r.2.2) :=
        ⟨HI.out.2.2.cell 0, HI.out.2.2.cell 1, HI.out.2.2.cell 2⟩
      by_cases hc : 2 * i + 1 < L.length
      · obtain ⟨y0, y1, y2⟩ := own_at HI.out.2.1 (2 * i + 1) (by rw [hlen.out]; exact hc)
        by_cases hc2 : 2 * i + 2 < L.length
        · obtain ⟨z0, z1, z2⟩ := own_at HI.out.2.1 (2 * i + 1 + 1) (by rw [hlen.out]; exact hc2)
          obtain ⟨y, hy⟩ : ∃ y, y = Hp.at' h (2 * i + 1) := ⟨_, rfl⟩
          obtain ⟨z, hz⟩ : ∃ z, z = Hp.at' h (2 * i + 1 + 1) := ⟨_, rfl⟩
          rw [← hy] at y0 y1 y2
          rw [← hz] at z0 z1 z2
          have Y : Hid (y = Hp.at' h (2 * i + 1)) := hy
          have Z : Hid (z = Hp.at' h (2 * i + 1 + 1)) := hz
          clear hy hz
          have hci : 2 * (i : Int) + 1 < (L.length : Int) := by omega
          have hc2i : 2 * (i : Int) + 1 + 1 < (L.length : Int) := by omega
          go_wp2
          go_quiet ((go_at_call 34; exact Calls.quiet_of (before_call g ((2 * i + 1 + 1) * 3) g ((2 * i + 1) * 3) z y _ z0 z1 y0 y1)))
          by_cases hzy : Hp.bef z y = true
          · rw [hzy]
            have HC : Hid (Hp.child h i = 2 * i + 1 + 1) := (show _ = _ by unfold Hp.child; rw [if_pos ⟨by rw [hlen.out]; exact hc2, by rw [← Y.out]; rw [show 2 * i + 2 = 2 * i + 1 + 1 by omega, ← Z.out]; exact hzy⟩])
            clear hzy
            go_wp2_with fail
            refine (before_call g ((2 * i + 1 + 1) * 3) w.heap.size 0 z r (wr.drewN nq) z0 z1 q0 q1).mono ?_
            rintro e W2 ⟨rfl, mq, rfl⟩
            by_cases hbr : Hp.bef z r = true
            · rw [hbr]
              obtain ⟨⟨v0, r0⟩, ⟨v1, r1⟩, ⟨v2, r2⟩, f0, f1, f2⟩ := HI.out.2.1.ready i (by rw [hlen.out]; exact hi)
              have HST : Hid _ := HI.out.2.1.store i z (by rw [hlen.out]; exact hi)
              have HBX : Hid _ := own_other3 HI.out.2.2 (show w.heap.size ≠ g by omega) (i * 3) (i * 3 + 1) (i * 3 + 2) (.int .i64 z.1) (.int .u64 z.2.1) (.int .i64 z.2.2)
              have HBB : Hid _ := three_sets hbl hB (i * 3) (i * 3 + 1) (i * 3 + 2) (.int .i64 z.1) (.int .u64 z.2.1) (.int .i64 z.2.2)
              have HIN : Hid (Hp.Inv L r (h.set i z) (2 * i + 1 + 1)) := (by
                have := Hp.inv_step HI.out.1 (by rw [hlen.out]; exact hc) (by rw [HC.out, ← Z.out]; exact hbr)
                rw [HC.out, ← Z.out] at this
                exact this)
              clear hbr
              go_wp2
              go_roundw
              case rel => exact ⟨2 * i + 1 + 1, _, by go_num, by omega, ⟨HIN.out, HST.out, HBX.out⟩, HBB.out.trans ⟨rfl, rfl, rfl, Nat.le_refl _, fun _ _ => rfl⟩⟩
              case measure => simp [intOf]; omega
            · have hbf : Hp.bef z r = false := by simpa using hbr
              rw [hbf]
              obtain ⟨⟨v0, r0⟩, ⟨v1, r1⟩, ⟨v2, r2⟩, f0, f1, f2⟩ := HI.out.2.1.ready i (by rw [hlen.out]; exact hi)
              have HST : Hid _ := HI.out.2.1.store i r (by rw [hlen.out]; exact hi)
              have HPO : Hid (Hp.Post L (h.set i r)) := Hp.inv_end HI.out.1 (fun _ => by rw [HC.out, ← Z.out]; exact hbr)
              have HBB : Hid _ := three_sets hbl hB (i * 3) (i * 3 + 1) (i * 3 + 2) (.int .i64 r.1) (.int .u64 r.2.1) (.int .i64 r.2.2)
              clear hbr
              go_wp2
              go_end0
              exact ⟨rfl, ⟨_, HST.out, HPO.out⟩, HBB.out.trans ⟨rfl, rfl, rfl, Nat.le_refl _, fun _ _ => rfl⟩⟩
          · have hzf : Hp.bef z y = false := by simpa using hzy
            rw [hzf]
            have HC : Hid (Hp.child h i = 2 * i + 1) := (show _ = _ by unfold Hp.child; rw [if_neg (fun e => hzy (by have := e.2; rw [← Y.out, show 2 * i + 2 = 2 * i + 1 + 1 by omega, ← Z.out] at this; exact this))])
            clear hzy hzf
            go_wp2_with fail
            refine (before_call g ((2 * i + 1) * 3) w.heap.size 0 y r (wr.drewN nq) y0 y1 q0 q1).mono ?_
            rintro e W2 ⟨rfl, mq, rfl⟩
            by_cases hbr : Hp.bef y r = true
            · rw [hbr]
              obtain ⟨⟨v0, r0⟩, ⟨v1, r1⟩, ⟨v2, r2⟩, f0, f1, f2⟩ := HI.out.2.1.ready i (by rw [hlen.out]; exact hi)
              have HST : Hid _ := HI.out.2.1.store i y (by rw [hlen.out]; exact hi)
              have HBX : Hid _ := own_other3 HI.out.2.2 (show w.heap.size ≠ g by omega) (i * 3) (i * 3 + 1) (i * 3 + 2) (.int .i64 y.1) (.int .u64 y.2.1) (.int .i64 y.2.2)
              have HBB : Hid _ := three_sets hbl hB (i * 3) (i * 3 + 1) (i * 3 + 2) (.int .i64 y.1) (.int .u64 y.2.1) (.int .i64 y.2.2)
              have HIN : Hid (Hp.Inv L r (h.set i y) (2 * i + 1)) := (by
                have := Hp.inv_step HI.out.1 (by rw [hlen.out]; exact hc) (by rw [HC.out, ← Y.out]; exact hbr)
                rw [HC.out, ← Y.out] at this
                exact this)
              clear hbr
              go_wp2
              go_roundw
              case rel => exact ⟨2 * i + 1, _, by go_num, by omega, ⟨HIN.out, HST.out, HBX.out⟩, HBB.out.trans ⟨rfl, rfl, rfl, Nat.le_refl _, fun _ _ => rfl⟩⟩
              case measure => simp [intOf]; omega
            · have hbf : Hp.bef y r = false := by simpa using hbr
              rw [hbf]
              obtain ⟨⟨v0, r0⟩, ⟨v1, r1⟩, ⟨v2, r2⟩, f0, f1, f2⟩ := HI.out.2.1.ready i (by rw [hlen.out]; exact hi)
              have HST : Hid _ := HI.out.2.1.store i r (by rw [hlen.out]; exact hi)
              have HPO : Hid (Hp.Post L (h.set i r)) := Hp.inv_end HI.out.1 (fun _ => by rw [HC.out, ← Y.out]; exact hbr)
              have HBB : Hid _ := three_sets hbl hB (i * 3) (i * 3 + 1) (i * 3 + 2) (.int .i64 r.1) (.int .u64 r.2.1) (.int .i64 r.2.2)
              clear hbr
              go_wp2
              go_end0
              exact ⟨rfl, ⟨_, HST.out, HPO.out⟩, HBB.out.trans ⟨rfl, rfl, rfl, Nat.le_refl _, fun _ _ => rfl⟩⟩
        · obtain ⟨y, hy⟩ : ∃ y, y = Hp.at' h (2 * i + 1) := ⟨_, rfl⟩
          rw [← hy] at y0 y1 y2
          have Y : Hid (y = Hp.at' h (2 * i + 1)) := hy
          clear hy
          have hci : 2 * (i : Int) + 1 < (L.length : Int) := by omega
          have hc2i : decide (2 * (i : Int) + 1 + 1 < (L.length : Int)) = false := by simp; omega
          have HC : Hid (Hp.child h i = 2 * i + 1) := (show _ = _ by unfold Hp.child; rw [if_neg (fun e => hc2 (by have := e.1; rw [hlen.out] at this; exact this))])
          go_wp2
          go_quiet (fail)
          go_wp2_with fail
          refine (before_call g ((2 * i + 1) * 3) w.heap.size 0 y r (wr.drewN nq) y0 y1 q0 q1).mono ?_
          rintro e W2 ⟨rfl, mq, rfl⟩
          by_cases hbr : Hp.bef y r = true
          · rw [hbr]
            obtain ⟨⟨v0, r0⟩, ⟨v1, r1⟩, ⟨v2, r2⟩, f0, f1, f2⟩ := HI.out.2.1.ready i (by rw [hlen.out]; exact hi)
            have HST : Hid _ := HI.out.2.1.store i y (by rw [hlen.out]; exact hi)
            have HBX : Hid _ := own_other3 HI.out.2.2 (show w.heap.size ≠ g by omega) (i * 3) (i * 3 + 1) (i * 3 + 2) (.int .i64 y.1) (.int .u64 y.2.1) (.int .i64 y.2.2)
            have HBB : Hid _ := three_sets hbl hB (i * 3) (i * 3 + 1) (i * 3 + 2) (.int .i64 y.1) (.int .u64 y.2.1) (.int .i64 y.2.2)
            have HIN : Hid (Hp.Inv L r (h.set i y) (2 * i + 1)) := (by
              have := Hp.inv_step HI.out.1 (by rw [hlen.out]; exact hc) (by rw [HC.out, ← Y.out]; exact hbr)
              rw [HC.out, ← Y.out] at this
              exact this)
            clear hbr
            go_wp2
            go_roundw
            case rel => exact ⟨2 * i + 1, _, by go_num, by omega, ⟨HIN.out, HST.out, HBX.out⟩, HBB.out.trans ⟨rfl, rfl, rfl, Nat.le_refl _, fun _ _ => rfl⟩⟩
            case measure => simp [intOf]; omega
          · have hbf : Hp.bef y r = false := by simpa using hbr
            rw [hbf]
            obtain ⟨⟨v0, r0⟩, ⟨v1, r1⟩, ⟨v2, r2⟩, f0, f1, f2⟩ := HI.out.2.1.ready i (by rw [hlen.out]; exact hi)
            have HST : Hid _ := HI.out.2.1.store i r (by rw [hlen.out]; exact hi)
            have HPO : Hid (Hp.Post L (h.set i r)) := Hp.inv_end HI.out.1 (fun _ => by rw [HC.out, ← Y.out]; exact hbr)
            have HBB : Hid _ := three_sets hbl hB (i * 3) (i * 3 + 1) (i * 3 + 2) (.int .i64 r.1) (.int .u64 r.2.1) (.int .i64 r.2.2)
            clear hbr
            go_wp2
            go_end0
            exact ⟨rfl, ⟨_, HST.out, HPO.out⟩, HBB.out.trans ⟨rfl, rfl, rfl, Nat.le_refl _, fun _ _ => rfl⟩⟩
      · have hci : (L.length : Int) ≤ 2 * (i : Int) + 1 := by omega
        obtain ⟨⟨v0, r0⟩, ⟨v1, r1⟩, ⟨v2, r2⟩, f0, f1, f2⟩ := HI.out.2.1.ready i (by rw [hlen.out]; exact hi)
        have HST : Hid _ := HI.out.2.1.store i r (by rw [hlen.out]; exact hi)
        have HPO : Hid (Hp.Post L (h.set i r)) := Hp.inv_end HI.out.1 (fun e => absurd (by rw [hlen.out] at e; exact e) hc)
        have HBB : Hid _ := three_sets hbl hB (i * 3) (i * 3 + 1) (i * 3 + 2) (.int .i64 r.1) (.int .u64 r.2.1) (.int .i64 r.2.2)
        go_wp2
        go_end0
        exact ⟨rfl, ⟨_, HST.out, HPO.out⟩, HBB.out.trans ⟨rfl, rfl, rfl, Nat.le_refl _, fun _ _ => rfl⟩⟩
end Go.Proofs.Qxb6619558a
