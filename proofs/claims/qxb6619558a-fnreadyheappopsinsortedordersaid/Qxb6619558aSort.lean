import Derived.Test.Qxb6619558aClone
namespace Go.Proofs.Qxb6619558a
open Go.RowKit Go.Sort

theorem own_at {w : World} {g : Nat} {T : TypeId} {S : List Hp.Node} (h : Own w g T (ncells S)) (k : Nat) (hk : k < S.length) :
    w.cell? ⟨g, k * 3, none⟩ = some (.int .i64 (Hp.at' S k).1) ∧ w.cell? ⟨g, k * 3 + 1, none⟩ = some (.int .u64 (Hp.at' S k).2.1) ∧ w.cell? ⟨g, k * 3 + 2, none⟩ = some (.int .i64 (Hp.at' S k).2.2) := by
  obtain ⟨h0, h1, h2⟩ := ncells_at S k hk
  exact ⟨(h.cell _).trans h0, (h.cell _).trans h1, (h.cell _).trans h2⟩
theorem own_other3 {w : World} {g k : Nat} {T : TypeId} {cs : List Value} (h : Own w g T cs) (hk : g ≠ k) (i j l : Nat) (x y z : Value) :
    Own (((w.setCell ⟨k, i, none⟩ x).setCell ⟨k, j, none⟩ y).setCell ⟨k, l, none⟩ z) g T cs := ((h.other hk _ _).other hk _ _).other hk _ _

set_option maxHeartbeats 4000000 in
set_option maxRecDepth 100000 in
theorem sort_call (a : Option Addr) (cap : Nat) (L : List Hp.Node) (w : World) (hn : L.length ≤ 1048576) (hL : NodesAt w a L) :
    Calls Try.prog 9 #[.slice a L.length cap] w fun e w' => ∃ a' S, e = .returned (.slice a' L.length L.length) ∧ Hid (NodesAt w' a' S ∧ S.Perm L ∧ Hp.Sorted S) ∧ Below w.heap.size w w' := by
  have HL : Hid (NodesAt w a L) := hL
  clear hL
  have hmk := make_nodes Try.underlying22 info32 L.length hn
  go_enter Try.func9, Try.ntmps9
  go_wp2
  go_loopw [5] (fun i wr => ∃ k : Nat, k ≤ L.length ∧ i = .int .i64 k ∧ (∃ D : List Hp.Node, Hid (D.length = L.length ∧ D.take k = L.take k) ∧ Own wr w.heap.size 32 (ncells D)) ∧ Below w.heap.size w wr) (fun i _ => L.length - (intOf i).toNat)
  case atStart => exact ⟨0, Nat.zero_le _, rfl, ⟨zeros L.length, ⟨zeros_length _, by simp⟩, Own.new w 32 _⟩, (Below.refl _ w).alloc (Nat.le_refl _) _⟩
  case round =>
    obtain ⟨k, hk, rfl, ⟨D, HD, hown⟩, hb⟩ := hrel
    by_cases hlt : k < L.length
    · obtain ⟨b, off, rfl, hbs, x0, x1, x2⟩ := (HL.out) k hlt
      rw [← hb.cell (p := ⟨b, off + k * 3, none⟩) hbs] at x0
      rw [← hb.cell (p := ⟨b, off + k * 3 + 1, none⟩) hbs] at x1
      rw [← hb.cell (p := ⟨b, off + k * 3 + 2, none⟩) hbs] at x2
      obtain ⟨⟨v0, r0⟩, ⟨v1, r1⟩, ⟨v2, r2⟩, f0, f1, f2⟩ := hown.ready k (by rw [HD.out.1]; exact hlt)
      have R := hown.store k (Hp.at' L k) (by rw [HD.out.1]; exact hlt)
      have HR : Hid _ := R
      have hb' := three_sets hb (Nat.le_refl w.heap.size) (k * 3) (k * 3 + 1) (k * 3 + 2) (.int .i64 (Hp.at' L k).1) (.int .u64 (Hp.at' L k).2.1) (.int .i64 (Hp.at' L k).2.2)
      have HB' : Hid _ := hb'
      clear R hb' hown
      go_wp2
      go_roundw
      case rel => exact ⟨k + 1, by omega, by go_num, ⟨_, ⟨by rw [List.length_set]; exact HD.out.1, take_set_step D L k HD.out.1 hlt HD.out.2⟩, HR.out⟩, HB'.out⟩
      case measure => simp [intOf]; omega
    · have e : L = D := by
        have h2 := HD.out.2
        rw [List.take_of_length_le (by have := HD.out.1; omega), List.take_of_length_le (by omega)] at h2
        exact h2.symm
      subst e
      have hgl := hown.lt
      have HO1 : Hid (Own (wr.alloc (.cells (ncells (zeros L.length)).toArray 32)) w.heap.size 32 (ncells L)) := hown.alloc _
      have HO2 : Hid (Own (wr.alloc (.cells (ncells (zeros L.length)).toArray 32)) wr.heap.size 32 (ncells (zeros L.length))) := Own.new wr 32 _
      have HB1 : Hid (Below w.heap.size w (wr.alloc (.cells (ncells (zeros L.length)).toArray 32))) := hb.alloc hb.size _
      clear HD hown hb
      go_wp2
      go_loopw [4, 6, 7] (fun s d q W1 => ∃ (gs gd ww : Nat) (S D : List Hp.Node), s = .slice (some ⟨gs, 0, none⟩) L.length L.length ∧ d = .slice (some ⟨gd, 0, none⟩) L.length L.length ∧ q = .int .i64 ww ∧ 1 ≤ ww ∧ ww ≤ 2097152 ∧ w.heap.size ≤ gs ∧ w.heap.size ≤ gd ∧ gs ≠ gd ∧
          Hid (Own W1 gs 32 (ncells S) ∧ Own W1 gd 32 (ncells D) ∧ S.length = L.length ∧ D.length = L.length ∧ Hp.Outer L S ww) ∧ Below w.heap.size w W1) (fun _ _ q _ => L.length - (intOf q).toNat)
      case atStart => exact ⟨_, _, 1, L, zeros L.length, rfl, rfl, rfl, by omega, by omega, Nat.le_refl _, by omega, by omega, ⟨HO1.out, HO2.out, rfl, zeros_length _, Hp.outer_start L⟩, HB1.out⟩
      case round =>
        clear HO1 HO2 HB1
        obtain ⟨gs, gd, ww, S, D, rfl, rfl, rfl, hw1, hw2, hgs, hgd, hne, HS, hb⟩ := hrel
        by_cases hlt : ww < L.length
        · go_wp2
          go_loopw [8] (fun l W2 => ∃ (t lo : Nat) (D1 : List Hp.Node), l = .int .i64 lo ∧ Hid (lo = t * (2 * ww)) ∧ lo ≤ 4194304 ∧ Hid (Own W2 gs 32 (ncells S) ∧ Own W2 gd 32 (ncells D1) ∧ Hp.Middle S D1 ww t) ∧ Below w.heap.size w W2) (fun l _ => L.length - (intOf l).toNat)
          case atStart => exact ⟨0, 0, D, rfl, (show _ = _ by simp), by omega, ⟨HS.out.1, HS.out.2.1, Hp.middle_start S D ww (by rw [HS.out.2.2.1, HS.out.2.2.2.1])⟩, hb⟩
          case round =>
            obtain ⟨t, lo, D1, rfl, Hlo, hlo, HM, hb2⟩ := hrel
            by_cases hl2 : lo < L.length
            · obtain ⟨mid, hmid⟩ : ∃ mid, mid = min (lo + ww) L.length := ⟨_, rfl⟩
              obtain ⟨hi, hhi⟩ : ∃ hi, hi = min (lo + 2 * ww) L.length := ⟨_, rfl⟩
              have HMID : Hid (mid = min (lo + ww) L.length) := hmid
              have HHI : Hid (hi = min (lo + 2 * ww) L.length) := hhi
              have hm1 : mid ≤ lo + ww := by omega
              have hm2 : mid ≤ L.length := by omega
              have hm3 : lo + ww ≤ mid ∨ L.length ≤ mid := by omega
              have hh1 : hi ≤ lo + 2 * ww := by omega
              have hh2 : hi ≤ L.length := by omega
              have hh3 : lo + 2 * ww ≤ hi ∨ L.length ≤ hi := by omega
              have hlm : lo ≤ mid := by omega
              have hmh : mid ≤ hi := by omega
              clear hmid hhi
              have hcs : (lo + ww ≤ L.length ∧ lo + 2 * ww ≤ L.length) ∨ (lo + ww ≤ L.length ∧ L.length < lo + 2 * ww) ∨ L.length < lo + ww := by omega
              rcases hcs with ⟨h1, h2⟩ | ⟨h1, h2⟩ | h1
              all_goals
                go_wp2
                go_loopw [11, 12, 13] (fun vi vj vk W3 => ∃ (ki kj kk : Nat) (D2 : List Hp.Node), vi = .int .i64 ki ∧ vj = .int .i64 kj ∧ vk = .int .i64 kk ∧ lo ≤ ki ∧ ki ≤ mid ∧ mid ≤ kj ∧ kj ≤ hi ∧ lo ≤ kk ∧ kk ≤ hi ∧
                    Hid (Own W3 gs 32 (ncells S) ∧ Own W3 gd 32 (ncells D2) ∧ Hp.Inner S D1 D2 (Hp.rest S mid hi lo mid) lo mid hi kk ki kj) ∧ Below w.heap.size w W3) (fun _ _ vk _ => hi - (intOf vk).toNat)
                case atStart => exact ⟨lo, mid, lo, D1, rfl, by go_num, rfl, by omega, by omega, by omega, by omega, by omega, by omega, ⟨HM.out.1, HM.out.2.1, Hp.inner_start S D1 lo mid hi HM.out.2.2.len hlm hmh (by rw [HS.out.2.2.1]; exact hh2)⟩, hb2⟩
                case round =>
                  obtain ⟨ki, kj, kk, D2, rfl, rfl, rfl, a1, a2, a3, a4, a5, a6, HI, hb3⟩ := hrel
                  by_cases hkk : kk < hi
                  · have hcs2 : hi ≤ kj ∨ (kj < hi ∧ ki < mid) ∨ (kj < hi ∧ mid ≤ ki) := by omega
                    rcases hcs2 with hj | ⟨hjh, hjm⟩ | ⟨hjh, hjm⟩
                    · obtain ⟨x, y⟩ : Hp.Node × Hp.Node := ((0, 0, 0), (0, 0, 0))
                      try have d1 : (lo : Int) + 2 * (ww : Int) ≤ (kj : Int) := by omega
                      try have d2 : (L.length : Int) ≤ (kj : Int) := by omega
                      try have d2n : L.length ≤ kj := by omega
                      go_wp2
                      refine wp_region_quiet_below (by kernel_rfl) (by kernel_rfl) ?_
                      repeat (go_big_quiet_step (exact Calls.regrown_of (lss_call y x _)))
                      refine wpQuiet_nil ?_
                      intro _ hw'
                      obtain ⟨⟨dq, osq⟩, hw''⟩ := hw'
                      subst hw''
                      have hb4 : Below w.heap.size w (grow (redrawn wr dq) osq) := hb3.trans ((below_regrown wr dq osq).mono hb3.size)
                      have HO3 : Hid (Own (grow (redrawn wr dq) osq) gs 32 (ncells S)) := HI.out.1.below HI.out.1.lt (below_regrown wr dq osq)
                      have HO4 : Hid (Own (grow (redrawn wr dq) osq) gd 32 (ncells D2)) := HI.out.2.1.below HI.out.2.1.lt (below_regrown wr dq osq)
                      generalize grow (redrawn wr dq) osq = W4 at *
                      have T := Hp.inner_left HI.out.2.2 hkk (.inl hj)
                      obtain ⟨x0, x1, x2⟩ := own_at HO3.out ki T.1
                      obtain ⟨⟨v0, r0⟩, ⟨v1, r1⟩, ⟨v2, r2⟩, f0, f1, f2⟩ := HO4.out.ready kk (by rw [HI.out.2.2.len]; have := HI.out.2.2.hlen; omega)
                      have HR : Hid _ := HO4.out.store kk (Hp.at' S ki) (by rw [HI.out.2.2.len]; have := HI.out.2.2.hlen; omega)
                      have HR2 : Hid _ := own_other3 HO3.out hne (kk * 3) (kk * 3 + 1) (kk * 3 + 2) (.int .i64 (Hp.at' S ki).1) (.int .u64 (Hp.at' S ki).2.1) (.int .i64 (Hp.at' S ki).2.2)
                      have HB5 : Hid _ := three_sets hb4 hgd (kk * 3) (kk * 3 + 1) (kk * 3 + 2) (.int .i64 (Hp.at' S ki).1) (.int .u64 (Hp.at' S ki).2.1) (.int .i64 (Hp.at' S ki).2.2)
                      have HT : Hid _ := T.2.2
                      have hidx : ki < L.length := by have := T.1; rw [HS.out.2.2.1] at this; exact this
                      have hkl : kk < L.length := by omega
                      have him : ki < mid := T.2.1
                      clear T
                      go_wp2
                      go_roundw
                      case rel => exact ⟨ki + 1, kj, kk + 1, _, by go_num, rfl, by go_num, by omega, by omega, by omega, by omega, by omega, by omega, ⟨HR2.out, HR.out, HT.out⟩, HB5.out⟩
                      case measure => simp [intOf]; omega

                    · try (exfalso; omega)
                      all_goals
                        obtain ⟨x, hx⟩ : ∃ x, x = Hp.at' S ki := ⟨_, rfl⟩
                        obtain ⟨y, hy⟩ : ∃ y, y = Hp.at' S kj := ⟨_, rfl⟩
                        have hkil : ki < L.length := by omega
                        have hkjl : kj < L.length := by omega
                        obtain ⟨x0, x1, x2⟩ := own_at HI.out.1 ki (by rw [HS.out.2.2.1]; exact hkil)
                        obtain ⟨y0, y1, y2⟩ := own_at HI.out.1 kj (by rw [HS.out.2.2.1]; exact hkjl)
                        rw [← hx] at x0 x1 x2
                        rw [← hy] at y0 y1 y2
                        have X : Hid (x = Hp.at' S ki) := hx
                        have Y : Hid (y = Hp.at' S kj) := hy
                        clear hx hy
                        have x0 := regrown_at _ _ _ _ x0
                        have x1 := regrown_at _ _ _ _ x1
                        have x2 := regrown_at _ _ _ _ x2
                        have y0 := regrown_at _ _ _ _ y0
                        have y1 := regrown_at _ _ _ _ y1
                        have y2 := regrown_at _ _ _ _ y2
                        have hkii : (ki : Int) < (L.length : Int) := by omega
                        have hkji : (kj : Int) < (L.length : Int) := by omega
                        have d1 : decide ((lo : Int) + 2 * (ww : Int) ≤ (kj : Int)) = false := by simp; omega
                        have d2 : decide ((L.length : Int) ≤ (kj : Int)) = false := by simp; omega
                        have d2n : decide (L.length ≤ kj) = false := by simp; omega
                        have d3 : (ki : Int) < (lo : Int) + (ww : Int) := by omega
                        go_wp2
                        refine wp_region_quiet_below (by kernel_rfl) (by kernel_rfl) ?_
                        repeat (go_big_quiet_step (exact Calls.regrown_of (lss_call y x _)))
                        refine wpQuiet_nil ?_
                        intro _ hw'
                        obtain ⟨⟨dq, osq⟩, hw''⟩ := hw'
                        subst hw''
                        have hb4 : Below w.heap.size w (grow (redrawn wr dq) osq) := hb3.trans ((below_regrown wr dq osq).mono hb3.size)
                        have HO3 : Hid (Own (grow (redrawn wr dq) osq) gs 32 (ncells S)) := HI.out.1.below HI.out.1.lt (below_regrown wr dq osq)
                        have HO4 : Hid (Own (grow (redrawn wr dq) osq) gd 32 (ncells D2)) := HI.out.2.1.below HI.out.2.1.lt (below_regrown wr dq osq)
                        generalize grow (redrawn wr dq) osq = W4 at *

                        clear x0 x1 x2 y0 y1 y2 d1 d2 d2n d3 hkii hkji
                        by_cases hle : Hp.le x y = true
                        · have hls : Hp.lss y x = false := by simpa [Hp.le] using hle
                          rw [hls]
                          have HLE : Hid (Hp.le (Hp.at' S ki) (Hp.at' S kj) = true) := (show _ = _ by rw [← X.out, ← Y.out]; exact hle)
                          clear hle hls X Y
                          have T := Hp.inner_left HI.out.2.2 hkk (.inr ⟨hjm, HLE.out⟩)
                          obtain ⟨x0, x1, x2⟩ := own_at HO3.out ki T.1
                          obtain ⟨⟨v0, r0⟩, ⟨v1, r1⟩, ⟨v2, r2⟩, f0, f1, f2⟩ := HO4.out.ready kk (by rw [HI.out.2.2.len]; have := HI.out.2.2.hlen; omega)
                          have HR : Hid _ := HO4.out.store kk (Hp.at' S ki) (by rw [HI.out.2.2.len]; have := HI.out.2.2.hlen; omega)
                          have HR2 : Hid _ := own_other3 HO3.out hne (kk * 3) (kk * 3 + 1) (kk * 3 + 2) (.int .i64 (Hp.at' S ki).1) (.int .u64 (Hp.at' S ki).2.1) (.int .i64 (Hp.at' S ki).2.2)
                          have HB5 : Hid _ := three_sets hb4 hgd (kk * 3) (kk * 3 + 1) (kk * 3 + 2) (.int .i64 (Hp.at' S ki).1) (.int .u64 (Hp.at' S ki).2.1) (.int .i64 (Hp.at' S ki).2.2)
                          have HT : Hid _ := T.2.2
                          have hidx : ki < L.length := by have := T.1; rw [HS.out.2.2.1] at this; exact this
                          have hkl : kk < L.length := by omega
                          have him : ki < mid := T.2.1
                          clear T
                          go_wp2
                          go_roundw
                          case rel => exact ⟨ki + 1, kj, kk + 1, _, by go_num, rfl, by go_num, by omega, by omega, by omega, by omega, by omega, by omega, ⟨HR2.out, HR.out, HT.out⟩, HB5.out⟩
                          case measure => simp [intOf]; omega

                        · have hls : Hp.lss y x = true := by simpa [Hp.le] using hle
                          rw [hls]
                          have HLE : Hid (¬ Hp.le (Hp.at' S ki) (Hp.at' S kj) = true) := (show ¬ _ by rw [← X.out, ← Y.out]; exact hle)
                          clear hle hls X Y
                          have T := Hp.inner_right HI.out.2.2 hkk hjh (.inr HLE.out)
                          obtain ⟨x0, x1, x2⟩ := own_at HO3.out kj T.1
                          obtain ⟨⟨v0, r0⟩, ⟨v1, r1⟩, ⟨v2, r2⟩, f0, f1, f2⟩ := HO4.out.ready kk (by rw [HI.out.2.2.len]; have := HI.out.2.2.hlen; omega)
                          have HR : Hid _ := HO4.out.store kk (Hp.at' S kj) (by rw [HI.out.2.2.len]; have := HI.out.2.2.hlen; omega)
                          have HR2 : Hid _ := own_other3 HO3.out hne (kk * 3) (kk * 3 + 1) (kk * 3 + 2) (.int .i64 (Hp.at' S kj).1) (.int .u64 (Hp.at' S kj).2.1) (.int .i64 (Hp.at' S kj).2.2)
                          have HB5 : Hid _ := three_sets hb4 hgd (kk * 3) (kk * 3 + 1) (kk * 3 + 2) (.int .i64 (Hp.at' S kj).1) (.int .u64 (Hp.at' S kj).2.1) (.int .i64 (Hp.at' S kj).2.2)
                          have HT : Hid _ := T.2
                          have hidx : kj < L.length := by have := T.1; rw [HS.out.2.2.1] at this; exact this
                          have hkl : kk < L.length := by omega
                          skip
                          clear T
                          go_wp2
                          go_roundw
                          case rel => exact ⟨ki, kj + 1, kk + 1, _, rfl, by go_num, by go_num, by omega, by omega, by omega, by omega, by omega, by omega, ⟨HR2.out, HR.out, HT.out⟩, HB5.out⟩
                          case measure => simp [intOf]; omega

                    · try (exfalso; omega)
                      all_goals
                        obtain ⟨x, y⟩ : Hp.Node × Hp.Node := ((0, 0, 0), (0, 0, 0))
                        have d1 : decide ((lo : Int) + 2 * (ww : Int) ≤ (kj : Int)) = false := by simp; omega
                        have d2 : decide ((L.length : Int) ≤ (kj : Int)) = false := by simp; omega
                        have d2n : decide (L.length ≤ kj) = false := by simp; omega
                        try have d3 : decide ((ki : Int) < (lo : Int) + (ww : Int)) = false := by simp; omega
                        try have d4 : decide ((ki : Int) < (L.length : Int)) = false := by simp; omega
                        try have d4n : decide (ki < L.length) = false := by simp; omega
                        go_wp2
                        refine wp_region_quiet_below (by kernel_rfl) (by kernel_rfl) ?_
                        repeat (go_big_quiet_step (exact Calls.regrown_of (lss_call y x _)))
                        refine wpQuiet_nil ?_
                        intro _ hw'
                        obtain ⟨⟨dq, osq⟩, hw''⟩ := hw'
                        subst hw''
                        have hb4 : Below w.heap.size w (grow (redrawn wr dq) osq) := hb3.trans ((below_regrown wr dq osq).mono hb3.size)
                        have HO3 : Hid (Own (grow (redrawn wr dq) osq) gs 32 (ncells S)) := HI.out.1.below HI.out.1.lt (below_regrown wr dq osq)
                        have HO4 : Hid (Own (grow (redrawn wr dq) osq) gd 32 (ncells D2)) := HI.out.2.1.below HI.out.2.1.lt (below_regrown wr dq osq)
                        generalize grow (redrawn wr dq) osq = W4 at *
                        have T := Hp.inner_right HI.out.2.2 hkk hjh (.inl hjm)
                        obtain ⟨x0, x1, x2⟩ := own_at HO3.out kj T.1
                        obtain ⟨⟨v0, r0⟩, ⟨v1, r1⟩, ⟨v2, r2⟩, f0, f1, f2⟩ := HO4.out.ready kk (by rw [HI.out.2.2.len]; have := HI.out.2.2.hlen; omega)
                        have HR : Hid _ := HO4.out.store kk (Hp.at' S kj) (by rw [HI.out.2.2.len]; have := HI.out.2.2.hlen; omega)
                        have HR2 : Hid _ := own_other3 HO3.out hne (kk * 3) (kk * 3 + 1) (kk * 3 + 2) (.int .i64 (Hp.at' S kj).1) (.int .u64 (Hp.at' S kj).2.1) (.int .i64 (Hp.at' S kj).2.2)
                        have HB5 : Hid _ := three_sets hb4 hgd (kk * 3) (kk * 3 + 1) (kk * 3 + 2) (.int .i64 (Hp.at' S kj).1) (.int .u64 (Hp.at' S kj).2.1) (.int .i64 (Hp.at' S kj).2.2)
                        have HT : Hid _ := T.2
                        have hidx : kj < L.length := by have := T.1; rw [HS.out.2.2.1] at this; exact this
                        have hkl : kk < L.length := by omega
                        skip
                        clear T
                        go_wp2
                        go_roundw
                        case rel => exact ⟨ki, kj + 1, kk + 1, _, rfl, by go_num, by go_num, by omega, by omega, by omega, by omega, by omega, by omega, ⟨HR2.out, HR.out, HT.out⟩, HB5.out⟩
                        case measure => simp [intOf]; omega

                  · have hd := Hp.inner_end HI.out.2.2 (by omega)
                    have HMN : Hid (Hp.Middle S D2 ww (t + 1)) := Hp.middle_step (mid := mid) (hi := hi) HS.out.2.2.2.2 HM.out.2.2 (by rw [← Hlo.out, HS.out.2.2.1]; exact hl2) (by rw [← Hlo.out, HS.out.2.2.1]; exact HMID.out) (by rw [← Hlo.out, HS.out.2.2.1]; exact HHI.out) HI.out.2.2.len (by rw [← Hlo.out]; exact HI.out.2.2.head) (by rw [← Hlo.out]; exact hd)
                    clear hd
                    go_wp2
                    go_roundw
                    case rel => exact ⟨t + 1, lo + 2 * ww, D2, by go_num, (show _ = _ by rw [Nat.add_mul, Nat.one_mul, ← Hlo.out]), by omega, ⟨HI.out.1, HI.out.2.1, HMN.out⟩, hb3⟩
                    case measure => simp [intOf]; omega
            · have HON : Hid (Hp.Outer L D1 (ww * 2)) := Hp.middle_end HS.out.2.2.2.2 HM.out.2.2 (by rw [← Hlo.out, HS.out.2.2.1]; omega)
              go_wp2
              go_roundw
              case rel => exact ⟨gd, gs, ww * 2, D1, S, rfl, rfl, by go_num, by omega, by omega, hgd, hgs, fun e => hne e.symm, ⟨HM.out.2.1, HM.out.1, by rw [HM.out.2.2.len, HS.out.2.2.1], HS.out.2.2.1, HON.out⟩, hb2⟩
              case measure => simp [intOf]; omega
        · go_wp2
          go_ret
          exact ⟨_, S, rfl, ⟨HS.out.1.nodes, HS.out.2.2.2.2.perm, Hp.outer_end HS.out.2.2.2.2 (by rw [HS.out.2.2.1]; omega)⟩, hb⟩
end Go.Proofs.Qxb6619558a
