/-
  THE SMALL FUNCTIONS: clones, the split, what is only read.
-/
import Derived.Test.Qxb6619558aDoorMem
namespace Go.Proofs.Qxb6619558aDoor
open Go.RowKit

theorem one_set {B : Nat} {w w' : World} (h : Below B w w') {g : Nat} (hg : B ≤ g) (i : Nat) (x : Value) : Below B w (w'.setCell ⟨g, i, none⟩ x) := h.setCell (p := ⟨g, i, none⟩) hg _
theorem two_sets {B : Nat} {w w' : World} (h : Below B w w') {g : Nat} (hg : B ≤ g) (i j : Nat) (x y : Value) : Below B w ((w'.setCell ⟨g, i, none⟩ x).setCell ⟨g, j, none⟩ y) := one_set (one_set h hg i x) hg j y
theorem below_drewN {B : Nat} {w w' : World} (h : Below B w w') (n : Nat) : Below B w (w'.drewN n) := h.trans ⟨rfl, rfl, rfl, Nat.le_refl _, fun _ _ => rfl⟩
theorem below_drew {B : Nat} {w w' : World} (h : Below B w w') : Below B w w'.drew := h.trans ⟨rfl, rfl, rfl, Nat.le_refl _, fun _ _ => rfl⟩

set_option maxHeartbeats 1000000 in
set_option maxRecDepth 100000 in
theorem cloneBytes_call (a : Option Addr) (cap : Nat) (L : List UInt8) (w : World) (hn : L.length ≤ 65536) (hL : RowAt w a (bcells L)) (ha : a = none → L.length = 0) :
    Calls Tryd.prog 6 #[.slice a L.length cap] w fun e w' => ∃ a', e = .returned (.slice a' L.length L.length) ∧ Hid (RowAt w' a' (bcells L) ∧ ((a' = none ∧ L.length = 0) ∨ ∃ g, a' = some ⟨g, 0, none⟩ ∧ g < w'.heap.size)) ∧ Below w.heap.size w w' := by
  have HL : Hid (RowAt w a (bcells L)) := hL
  clear hL
  have hnn := fun W n c => Lib.run_eql_slice_nil (P := Tryd.prog) W 22 5 a n c 0 0 Tryd.underlying22
  have hmk := make_ones Tryd.underlying22 info5 (by rfl) (by omega) L.length L.length (Nat.le_refl _) (by omega)
  cases a with
  | none =>
    have H0 : Hid (L.length = 0) := ha rfl
    clear ha
    go_enter Tryd.func6, Tryd.ntmps6
    go_wp2
    go_ret
    exact ⟨none, by rw [H0.out]; rfl, ⟨HL.out, .inl ⟨rfl, H0.out⟩⟩, Below.refl _ _⟩
  | some x =>
    clear ha
    go_enter Tryd.func6, Tryd.ntmps6
    go_wp2
    go_loopw [4] (fun i wr => ∃ k : Nat, k ≤ L.length ∧ i = .int .i64 k ∧ (∃ D : List Value, Hid (D.length = (bcells L).length ∧ D.take k = (bcells L).take k ∧ Own wr w.heap.size 5 D)) ∧ Below w.heap.size w wr) (fun i _ => L.length - (intOf i).toNat)
    case atStart => exact ⟨0, Nat.zero_le _, rfl, ⟨_, by rw [List.length_replicate, bcells_len], by simp, Own.new w 5 _⟩, (Below.refl _ w).alloc (Nat.le_refl _) _⟩
    case round =>
      obtain ⟨k, hk, rfl, ⟨D, HD⟩, hb⟩ := hrel
      by_cases hlt : k < L.length
      · obtain ⟨b, off, ex, hbs, x0⟩ := BytesAt.at HL.out k hlt
        cases ex
        rw [← hb.cell (p := ⟨b, off + k, none⟩) hbs] at x0
        obtain ⟨x, hx⟩ : ∃ x : Int, x = ((L.getD k 0).toNat : Int) := ⟨_, rfl⟩
        rw [← hx] at x0
        have HX : Hid ((bcells L)[k]? = some (.int .u8 x)) := (show _ = _ by rw [hx]; exact bcells_at L k hlt)
        clear hx
        have HkD : Hid (k < D.length) := (show k < D.length by rw [HD.out.1, bcells_len]; exact hlt)
        obtain ⟨⟨v0, r0⟩, f0⟩ := HD.out.2.2.ready1 k HkD.out
        have HR : Hid _ := HD.out.2.2.set k (.int .u8 x)
        have HB' : Hid _ := one_set hb (Nat.le_refl w.heap.size) k (.int .u8 x)
        go_wp2
        go_roundw
        case rel => exact ⟨k + 1, by omega, by go_num, ⟨_, by rw [List.length_set]; exact HD.out.1, fill_step D _ k _ HD.out.1 (by rw [bcells_len]; exact hlt) HD.out.2.1 HX.out, HR.out⟩, HB'.out⟩
        case measure => simp [intOf]; omega
      · go_wp2
        go_ret
        have e : D = bcells L := fill_end HD.out.1 (by rw [bcells_len]; omega) HD.out.2.1
        exact ⟨_, rfl, ⟨e ▸ HD.out.2.2.row, .inr ⟨_, rfl, HD.out.2.2.lt⟩⟩, hb⟩

set_option maxHeartbeats 1000000 in
set_option maxRecDepth 100000 in
theorem cloneInts_call (a : Option Addr) (cap : Nat) (L : List Int) (w : World) (hn : L.length ≤ 65536) (hL : RowAt w a (icells L)) (ha : a = none → L.length = 0) :
    Calls Tryd.prog 7 #[.slice a L.length cap] w fun e w' => ∃ a', e = .returned (.slice a' L.length L.length) ∧ Hid (RowAt w' a' (icells L) ∧ ((a' = none ∧ L.length = 0) ∨ ∃ g, a' = some ⟨g, 0, none⟩ ∧ g < w'.heap.size)) ∧ Below w.heap.size w w' := by
  have HL : Hid (RowAt w a (icells L)) := hL
  clear hL
  have hnn := fun W n c => Lib.run_eql_slice_nil (P := Tryd.prog) W 23 3 a n c 0 0 Tryd.underlying23
  have hmk := make_ones Tryd.underlying23 info3 (by rfl) (by omega) L.length L.length (Nat.le_refl _) (by omega)
  cases a with
  | none =>
    have H0 : Hid (L.length = 0) := ha rfl
    clear ha
    go_enter Tryd.func7, Tryd.ntmps7
    go_wp2
    go_ret
    exact ⟨none, by rw [H0.out]; rfl, ⟨HL.out, .inl ⟨rfl, H0.out⟩⟩, Below.refl _ _⟩
  | some x =>
    clear ha
    go_enter Tryd.func7, Tryd.ntmps7
    go_wp2
    go_loopw [4] (fun i wr => ∃ k : Nat, k ≤ L.length ∧ i = .int .i64 k ∧ (∃ D : List Value, Hid (D.length = (icells L).length ∧ D.take k = (icells L).take k ∧ Own wr w.heap.size 3 D)) ∧ Below w.heap.size w wr) (fun i _ => L.length - (intOf i).toNat)
    case atStart => exact ⟨0, Nat.zero_le _, rfl, ⟨_, by rw [List.length_replicate, icells_len], by simp, Own.new w 3 _⟩, (Below.refl _ w).alloc (Nat.le_refl _) _⟩
    case round =>
      obtain ⟨k, hk, rfl, ⟨D, HD⟩, hb⟩ := hrel
      by_cases hlt : k < L.length
      · obtain ⟨b, off, ex, hbs, x0⟩ := IntsAt.at HL.out k hlt
        cases ex
        rw [← hb.cell (p := ⟨b, off + k, none⟩) hbs] at x0
        obtain ⟨x, hx⟩ : ∃ x : Int, x = (L.getD k 0) := ⟨_, rfl⟩
        rw [← hx] at x0
        have HX : Hid ((icells L)[k]? = some (.int .i64 x)) := (show _ = _ by rw [hx]; exact icells_at L k hlt)
        clear hx
        have HkD : Hid (k < D.length) := (show k < D.length by rw [HD.out.1, icells_len]; exact hlt)
        obtain ⟨⟨v0, r0⟩, f0⟩ := HD.out.2.2.ready1 k HkD.out
        have HR : Hid _ := HD.out.2.2.set k (.int .i64 x)
        have HB' : Hid _ := one_set hb (Nat.le_refl w.heap.size) k (.int .i64 x)
        go_wp2
        go_roundw
        case rel => exact ⟨k + 1, by omega, by go_num, ⟨_, by rw [List.length_set]; exact HD.out.1, fill_step D _ k _ HD.out.1 (by rw [icells_len]; exact hlt) HD.out.2.1 HX.out, HR.out⟩, HB'.out⟩
        case measure => simp [intOf]; omega
      · go_wp2
        go_ret
        have e : D = icells L := fill_end HD.out.1 (by rw [icells_len]; omega) HD.out.2.1
        exact ⟨_, rfl, ⟨e ▸ HD.out.2.2.row, .inr ⟨_, rfl, HD.out.2.2.lt⟩⟩, hb⟩

set_option maxHeartbeats 1000000 in
set_option maxRecDepth 100000 in
theorem cloneCounts_call (a : Option Addr) (cap : Nat) (L : List Vc.Cnt) (w : World) (hn : L.length ≤ 65536) (hL : PairsAt w a L) (ha : a = none → L.length = 0) :
    Calls Tryd.prog 8 #[.slice a L.length cap] w fun e w' => ∃ a', e = .returned (.slice a' L.length L.length) ∧ Hid (PairsAt w' a' L) ∧ Below w.heap.size w w' := by
  have HL : Hid (PairsAt w a L) := hL
  clear hL
  have hnn := fun W n c => Lib.run_eql_slice_nil (P := Tryd.prog) W 24 38 a n c 0 0 Tryd.underlying24
  have hmk := make_pairs Tryd.underlying24 info38 L.length (by omega)
  cases a with
  | none =>
    have H0 : Hid (L.length = 0) := ha rfl
    clear ha
    go_enter Tryd.func8, Tryd.ntmps8
    go_wp2
    go_ret
    exact ⟨none, by rw [H0.out]; rfl, HL, Below.refl _ _⟩
  | some x =>
    clear ha
    go_enter Tryd.func8, Tryd.ntmps8
    go_wp2
    go_loopw [4] (fun i wr => ∃ k : Nat, k ≤ L.length ∧ i = .int .i64 k ∧ (∃ D : List Vc.Cnt, Hid (D.length = L.length ∧ D.take k = L.take k ∧ Own wr w.heap.size 38 (pcells D))) ∧ Below w.heap.size w wr) (fun i _ => L.length - (intOf i).toNat)
    case atStart => exact ⟨0, Nat.zero_le _, rfl, ⟨zeros L.length, zeros_length _, by simp, Own.new w 38 _⟩, (Below.refl _ w).alloc (Nat.le_refl _) _⟩
    case round =>
      obtain ⟨k, hk, rfl, ⟨D, HD⟩, hb⟩ := hrel
      by_cases hlt : k < L.length
      · obtain ⟨b, off, ex, hbs, x0, x1⟩ := (HL.out) k hlt
        cases ex
        rw [← hb.cell (p := ⟨b, off + k * 2, none⟩) hbs] at x0
        rw [← hb.cell (p := ⟨b, off + k * 2 + 1, none⟩) hbs] at x1
        obtain ⟨⟨v0, r0⟩, ⟨v1, r1⟩, f0, f1⟩ := HD.out.2.2.ready2 k (by rw [HD.out.1]; exact hlt)
        have HR : Hid _ := HD.out.2.2.store2 k (at' L k) (by rw [HD.out.1]; exact hlt)
        have HB' : Hid _ := two_sets hb (Nat.le_refl w.heap.size) (k * 2) (k * 2 + 1) (.int .i64 (at' L k).1) (.int .i64 (at' L k).2)
        go_wp2
        go_roundw
        case rel => exact ⟨k + 1, by omega, by go_num, ⟨_, by rw [List.length_set]; exact HD.out.1, fill_step D L k _ HD.out.1 hlt HD.out.2.1 (by rw [at_eq L k hlt]; exact List.getElem?_eq_getElem hlt), HR.out⟩, HB'.out⟩
        case measure => simp [intOf]; omega
      · go_wp2
        go_ret
        have e : D = L := fill_end HD.out.1 (by omega) HD.out.2.1
        exact ⟨_, rfl, (e ▸ HD.out.2.2).pairs, hb⟩

/-- the two rows that the split makes -/
def ranks (L : List Vc.Cnt) : List Int := L.map (·.1)
def ns (L : List Vc.Cnt) : List Int := L.map (·.2)
theorem ranks_len (L : List Vc.Cnt) : (ranks L).length = L.length := by simp [ranks]
theorem ns_len (L : List Vc.Cnt) : (ns L).length = L.length := by simp [ns]
theorem ranks_at (L : List Vc.Cnt) (k : Nat) (h : k < L.length) : (ranks L).getD k 0 = (at' L k).1 := by
  simp [ranks, at_eq L k h, List.getD_eq_getElem?_getD, List.getElem?_eq_getElem h]
theorem ns_at (L : List Vc.Cnt) (k : Nat) (h : k < L.length) : (ns L).getD k 0 = (at' L k).2 := by
  simp [ns, at_eq L k h, List.getD_eq_getElem?_getD, List.getElem?_eq_getElem h]

structure Two (L : List Vc.Cnt) (w : World) (g1 g2 k : Nat) (A B : List Value) : Prop where
  oa : Own w g1 3 A
  ob : Own w g2 2 B
  la : A.length = (icells (ranks L)).length
  lb : B.length = (icells (ns L)).length
  ta : A.take k = (icells (ranks L)).take k
  tb : B.take k = (icells (ns L)).take k

theorem Two.step {L : List Vc.Cnt} {w : World} {g1 g2 k : Nat} {A B : List Value} (h : Two L w g1 g2 k A B) (hk : k < L.length) (h12 : g1 ≠ g2) :
    Two L ((w.setCell ⟨g1, k, none⟩ (.int .i64 (at' L k).1)).setCell ⟨g2, k, none⟩ (.int .i64 (at' L k).2)) g1 g2 (k + 1) (A.set k (.int .i64 (at' L k).1)) (B.set k (.int .i64 (at' L k).2)) where
  oa := (h.oa.set k _).other h12 _ _
  ob := (h.ob.other (Ne.symm h12) _ _).set k _
  la := by rw [List.length_set]; exact h.la
  lb := by rw [List.length_set]; exact h.lb
  ta := fill_step A _ k _ h.la (by rw [icells_len, ranks_len]; exact hk) h.ta (by rw [icells_at _ _ (by rw [ranks_len]; exact hk), ranks_at L k hk])
  tb := fill_step B _ k _ h.lb (by rw [icells_len, ns_len]; exact hk) h.tb (by rw [icells_at _ _ (by rw [ns_len]; exact hk), ns_at L k hk])

theorem two_news (w : World) (x y : List Value) (T1 T2 : TypeId) : Own ((w.alloc (.cells x.toArray T1)).alloc (.cells y.toArray T2)) w.heap.size T1 x ∧ Own ((w.alloc (.cells x.toArray T1)).alloc (.cells y.toArray T2)) (w.heap.size + 1) T2 y := by
  refine ⟨(Own.new w T1 x).alloc _, ?_⟩
  have := Own.new (w.alloc (.cells x.toArray T1)) T2 y
  simpa using this

set_option maxHeartbeats 1000000 in
set_option maxRecDepth 100000 in
theorem split_call (a : Option Addr) (cap : Nat) (L : List Vc.Cnt) (w : World) (hn : L.length ≤ 65536) (hL : PairsAt w a L) :
    Calls Tryd.prog 9 #[.slice a L.length cap] w fun e w' => ∃ g1 g2 : Nat, e = .returned (.tuple #[.slice (some ⟨g1, 0, none⟩) L.length L.length, .slice (some ⟨g2, 0, none⟩) L.length L.length]) ∧
      Hid (IntsAt w' (some ⟨g1, 0, none⟩) (ranks L) ∧ IntsAt w' (some ⟨g2, 0, none⟩) (ns L)) ∧ Below w.heap.size w w' := by
  have HL : Hid (PairsAt w a L) := hL
  clear hL
  have hm1 := make_ones Tryd.underlying23 info3 (by rfl) (by omega) L.length L.length (Nat.le_refl _) (by omega)
  have hm2 := make_ones Tryd.underlying30 info2 (by rfl) (by omega) L.length L.length (Nat.le_refl _) (by omega)
  go_enter Tryd.func9, Tryd.ntmps9
  go_wp2
  go_loopw [6] (fun i wr => ∃ k : Nat, k ≤ L.length ∧ i = .int .i64 k ∧ (∃ A B, Hid (Two L wr w.heap.size (w.heap.size + 1) k A B)) ∧ Below w.heap.size w wr) (fun i _ => L.length - (intOf i).toNat)
  case atStart => exact ⟨0, Nat.zero_le _, rfl, ⟨_, _, ⟨(two_news w _ _ _ _).1, (two_news w _ _ _ _).2, by rw [List.length_replicate, icells_len, ranks_len], by rw [List.length_replicate, icells_len, ns_len], by simp, by simp⟩⟩, ((Below.refl _ w).alloc (Nat.le_refl _) _).alloc (by simp) _⟩
  case round =>
    obtain ⟨k, hk, rfl, ⟨A, B, HR⟩, hb⟩ := hrel
    by_cases hlt : k < L.length
    · obtain ⟨b, off, rfl, hbs, x0, x1⟩ := (HL.out) k hlt
      rw [← hb.cell (p := ⟨b, off + k * 2, none⟩) hbs] at x0
      rw [← hb.cell (p := ⟨b, off + k * 2 + 1, none⟩) hbs] at x1
      have hb1 : b ≠ w.heap.size := by omega
      have hb2 : b ≠ w.heap.size + 1 := by omega
      obtain ⟨⟨v0, r0⟩, f0⟩ := HR.out.oa.ready1 k (by rw [HR.out.la, icells_len, ranks_len]; exact hlt)
      obtain ⟨⟨v1, r1⟩, f1⟩ := HR.out.ob.ready1 k (by rw [HR.out.lb, icells_len, ns_len]; exact hlt)
      have HN : Hid _ := HR.out.step hlt (by omega)
      have HB' : Hid _ := one_set (one_set hb (Nat.le_refl w.heap.size) k (.int .i64 (at' L k).1)) (Nat.le_succ w.heap.size) k (.int .i64 (at' L k).2)
      go_wp2
      go_roundw
      case rel => exact ⟨k + 1, by omega, by go_num, ⟨_, _, HN.out⟩, HB'.out⟩
      case measure => simp [intOf]; omega
    · go_wp2
      have e1 : A = icells (ranks L) := fill_end HR.out.la (by rw [icells_len, ranks_len]; omega) HR.out.ta
      have e2 : B = icells (ns L) := fill_end HR.out.lb (by rw [icells_len, ns_len]; omega) HR.out.tb
      refine bodyPost_ret (v := .tuple #[.slice (some ⟨w.heap.size, 0, none⟩) L.length L.length, .slice (some ⟨w.heap.size + 1, 0, none⟩) L.length L.length]) (by simp [results, Tryd.results9, go_sem]) rfl ?_
      exact ⟨_, _, rfl, ⟨(e1 ▸ HR.out.oa : Own _ _ _ (icells (ranks L))).row, (e2 ▸ HR.out.ob : Own _ _ _ (icells (ns L))).row⟩, hb⟩
end Go.Proofs.Qxb6619558aDoor
