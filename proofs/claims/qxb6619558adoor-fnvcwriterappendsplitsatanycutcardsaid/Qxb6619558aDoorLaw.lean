/-
  THE LAW's WALK.
-/
import Derived.Test.Qxb6619558aDoorTail
namespace Go.Proofs.Qxb6619558aDoor
open Go.RowKit

/-- what the law holds in memory behind its clones -/
structure Env (w : World) (ka ea ba wa ca : Option Addr) (g1 g2 : Nat) (K : List UInt8) (E : List Int) (bs : List UInt8) (C : List Vc.Cnt) : Prop where
  k : BytesAt w ka K
  kk : (ka = none ∧ K.length = 0) ∨ ∃ kb, ka = some ⟨kb, 0, none⟩ ∧ kb < w.heap.size
  e : IntsAt w ea E
  b : BytesAt w ba bs
  w0 : BytesAt w wa bs
  c : PairsAt w ca C
  r : IntsAt w (some ⟨g1, 0, none⟩) (ranks C)
  n : IntsAt w (some ⟨g2, 0, none⟩) (ns C)
  t : Lib.TabIs Tryd.prog w powName .u64 Lib.pow10Tab

theorem tab_old {w w' : World} (h : Lib.TabIs Tryd.prog w powName .u64 Lib.pow10Tab) (hb : Below w.heap.size w w') : Lib.TabIs Tryd.prog w' powName .u64 Lib.pow10Tab := Lib.tabBelow_of_tabIs h w' hb
theorem kk_old {w w' : World} {ka : Option Addr} {n : Nat} (h : (ka = none ∧ n = 0) ∨ ∃ kb, ka = some ⟨kb, 0, none⟩ ∧ kb < w.heap.size) (hb : w.heap.size ≤ w'.heap.size) : (ka = none ∧ n = 0) ∨ ∃ kb, ka = some ⟨kb, 0, none⟩ ∧ kb < w'.heap.size := by
  rcases h with h | ⟨kb, h1, h2⟩
  · exact .inl h
  · exact .inr ⟨kb, h1, by omega⟩
theorem Env.old {w w' : World} {ka ea ba wa ca : Option Addr} {g1 g2 : Nat} {K : List UInt8} {E : List Int} {bs : List UInt8} {C : List Vc.Cnt} (h : Env w ka ea ba wa ca g1 g2 K E bs C) (hb : Below w.heap.size w w') : Env w' ka ea ba wa ca g1 g2 K E bs C :=
  ⟨h.k.old hb, kk_old h.kk hb.size, h.e.old hb, h.b.old hb, h.w0.old hb, h.c.old hb, h.r.old hb, h.n.old hb, tab_old h.t hb⟩

theorem none_zero {w : World} {a : Option Addr} {n : Nat} (h : (a = none ∧ n = 0) ∨ ∃ g, a = some ⟨g, 0, none⟩ ∧ g < w.heap.size) : a = none → n = 0 := by
  rcases h with h | ⟨g, h1, _⟩
  · exact fun _ => h.2
  · intro e; rw [e] at h1; cases h1

set_option maxHeartbeats 2000000 in
set_option maxRecDepth 100000 in
theorem law_walk (a1 a2 a3 a4 a5 : Option Addr) (c1 c2 c3 c4 c5 : Nat) (K : List UInt8) (E R : List Int) (bs : List UInt8) (C : List Vc.Cnt) (k : Int) (w : World)
    (hK : BytesAt w a1 K) (hE : IntsAt w a2 E) (hR : IntsAt w a3 R) (hB : BytesAt w a4 bs) (hC : PairsAt w a5 C)
    (n1 : a1 = none → K.length = 0) (n2 : a2 = none → E.length = 0) (n3 : a3 = none → R.length = 0) (n4 : a4 = none → bs.length = 0) (n5 : a5 = none → C.length = 0) (hW : Wf C)
    (htab : Lib.TabIs Tryd.prog w powName .u64 Lib.pow10Tab) :
    Calls Tryd.prog 3 #[.slice a1 K.length c1, .slice a2 E.length c2, .slice a3 R.length c3, .slice a4 bs.length c4, .slice a5 C.length c5, .int .i64 k] w fun e w' => e = .returned (.bool true) ∧ Below w.heap.size w w' := by
  have HK : Hid (BytesAt w a1 K ∧ (a1 = none → K.length = 0)) := ⟨hK, n1⟩
  have HE : Hid (IntsAt w a2 E ∧ (a2 = none → E.length = 0)) := ⟨hE, n2⟩
  have HR : Hid (IntsAt w a3 R ∧ (a3 = none → R.length = 0)) := ⟨hR, n3⟩
  have HB : Hid (BytesAt w a4 bs ∧ (a4 = none → bs.length = 0)) := ⟨hB, n4⟩
  have HC : Hid (PairsAt w a5 C ∧ (a5 = none → C.length = 0)) := ⟨hC, n5⟩
  have HW : Hid (Wf C) := hW
  have HT : Hid (Lib.TabIs Tryd.prog w powName .u64 Lib.pow10Tab) := htab
  clear hK hE hR hB hC n1 n2 n3 n4 n5 hW htab
  go_enter Tryd.func3, Tryd.ntmps3
  go_wp2_with fail
  refine (zz_call a1 a2 a3 a4 a5 K.length E.length R.length bs.length C.length c1 c2 c3 c4 c5 k w).mono ?_
  rintro e W0 ⟨r, rfl, hw⟩
  rw [hw]
  clear hw W0
  cases r
  · go_wp2
    go_ret
    exact ⟨rfl, Below.refl _ _⟩
  by_cases l1 : 65536 < K.length
  · go_wp2
    go_ret
    exact ⟨rfl, Below.refl _ _⟩
  by_cases l2 : 65536 < E.length
  · go_wp2
    go_ret
    exact ⟨rfl, Below.refl _ _⟩
  by_cases l3 : 65536 < R.length
  · go_wp2
    go_ret
    exact ⟨rfl, Below.refl _ _⟩
  by_cases l4 : 65536 < bs.length
  · go_wp2
    go_ret
    exact ⟨rfl, Below.refl _ _⟩
  by_cases l5 : 65536 < C.length
  · go_wp2
    go_ret
    exact ⟨rfl, Below.refl _ _⟩
  by_cases ls : 1048576 < K.length + 8 * E.length + 8 * R.length + bs.length + 16 * C.length
  · go_wp2
    go_ret
    exact ⟨rfl, Below.refl _ _⟩
  by_cases k0 : k < 0
  · go_wp2
    go_ret
    exact ⟨rfl, Below.refl _ _⟩
  by_cases k1 : (C.length : Int) < k
  · go_wp2
    go_ret
    exact ⟨rfl, Below.refl _ _⟩
  obtain ⟨kk, rfl⟩ : ∃ kk : Nat, k = (kk : Int) := ⟨k.toNat, by omega⟩
  have hkk : kk ≤ C.length := by omega
  have hkki : (kk : Int) ≤ (C.length : Int) := by omega
  go_wp2_with fail
  refine (domain_call a1 a2 a5 c1 c2 c5 K E C w (by omega) (by omega) (by omega) HE.out.1 HC.out.1).mono ?_
  rintro e W1 ⟨r, rfl, HDm, hb1⟩
  cases r
  · go_wp2
    go_ret
    exact ⟨rfl, hb1⟩
  have HD : Hid (Vc.Dom K E C) := HDm.out rfl
  clear HDm
  go_wp2_with fail
  refine (cloneBytes_call a1 c1 K W1 (by omega) (HK.out.1.old hb1) HK.out.2).mono ?_
  rintro e W2 ⟨ka, rfl, HKc, hb2'⟩
  have hb2 : Below w.heap.size w W2 := hb1.trans (hb2'.mono hb1.size)
  clear hb2' hb1 HK
  go_wp2_with fail
  refine (cloneInts_call a2 c2 E W2 (by omega) (HE.out.1.old hb2) HE.out.2).mono ?_
  rintro e W3 ⟨ea, rfl, HEc, hb3'⟩
  have hb3 : Below w.heap.size w W3 := hb2.trans (hb3'.mono hb2.size)
  have HK3 : Hid (BytesAt W3 ka K ∧ ((ka = none ∧ K.length = 0) ∨ ∃ kb, ka = some ⟨kb, 0, none⟩ ∧ kb < W3.heap.size)) := ⟨HKc.out.1.old hb3', kk_old HKc.out.2 hb3'.size⟩
  clear hb3' hb2 HE HKc
  go_wp2_with fail
  refine (cloneInts_call a3 c3 R W3 (by omega) (HR.out.1.old hb3) HR.out.2).mono ?_
  rintro e W4 ⟨ra, rfl, _, hb4'⟩
  have hb4 : Below w.heap.size w W4 := hb3.trans (hb4'.mono hb3.size)
  have HK4 : Hid (BytesAt W4 ka K ∧ ((ka = none ∧ K.length = 0) ∨ ∃ kb, ka = some ⟨kb, 0, none⟩ ∧ kb < W4.heap.size)) := ⟨HK3.out.1.old hb4', kk_old HK3.out.2 hb4'.size⟩
  have HE4 : Hid (IntsAt W4 ea E) := HEc.out.1.old hb4'
  clear hb4' hb3 HR HK3 HEc
  go_wp2_with fail
  refine (cloneBytes_call a4 c4 bs W4 (by omega) (HB.out.1.old hb4) HB.out.2).mono ?_
  rintro e W5 ⟨ba, rfl, HBc, hb5'⟩
  have hb5 : Below w.heap.size w W5 := hb4.trans (hb5'.mono hb4.size)
  have HK5 : Hid (BytesAt W5 ka K ∧ ((ka = none ∧ K.length = 0) ∨ ∃ kb, ka = some ⟨kb, 0, none⟩ ∧ kb < W5.heap.size)) := ⟨HK4.out.1.old hb5', kk_old HK4.out.2 hb5'.size⟩
  have HE5 : Hid (IntsAt W5 ea E) := HE4.out.old hb5'
  clear hb5' hb4 HB HK4 HE4
  go_wp2_with fail
  refine (cloneCounts_call a5 c5 C W5 (by omega) (HC.out.1.old hb5) HC.out.2).mono ?_
  rintro e W6 ⟨ca, rfl, HCc, hb6'⟩
  have hb6 : Below w.heap.size w W6 := hb5.trans (hb6'.mono hb5.size)
  have HK6 : Hid (BytesAt W6 ka K ∧ ((ka = none ∧ K.length = 0) ∨ ∃ kb, ka = some ⟨kb, 0, none⟩ ∧ kb < W6.heap.size)) := ⟨HK5.out.1.old hb6', kk_old HK5.out.2 hb6'.size⟩
  have HE6 : Hid (IntsAt W6 ea E) := HE5.out.old hb6'
  have HB6 : Hid (BytesAt W6 ba bs ∧ (ba = none → bs.length = 0)) := ⟨HBc.out.1.old hb6', none_zero HBc.out.2⟩
  clear hb6' hb5 HC HK5 HE5 HBc
  go_wp2_with fail
  refine (cloneBytes_call ba bs.length bs W6 (by omega) HB6.out.1 HB6.out.2).mono ?_
  rintro e W7 ⟨wa, rfl, HWc, hb7'⟩
  have hb7 : Below w.heap.size w W7 := hb6.trans (hb7'.mono hb6.size)
  have HK7 : Hid (BytesAt W7 ka K ∧ ((ka = none ∧ K.length = 0) ∨ ∃ kb, ka = some ⟨kb, 0, none⟩ ∧ kb < W7.heap.size)) := ⟨HK6.out.1.old hb7', kk_old HK6.out.2 hb7'.size⟩
  have HE7 : Hid (IntsAt W7 ea E) := HE6.out.old hb7'
  have HB7 : Hid (BytesAt W7 ba bs ∧ (ba = none → bs.length = 0)) := ⟨HB6.out.1.old hb7', HB6.out.2⟩
  have HC7 : Hid (PairsAt W7 ca C) := HCc.out.old hb7'
  clear hb7' hb6 HK6 HE6 HB6 HCc
  go_wp2_with fail
  refine (split_call ca C.length C W7 (by omega) HC7.out).mono ?_
  rintro e W8 ⟨g1, g2, rfl, HS, hb8'⟩
  have hb8 : Below w.heap.size w W8 := hb7.trans (hb8'.mono hb7.size)
  have HV8 : Hid (Env W8 ka ea ba wa ca g1 g2 K E bs C) :=
    ⟨HK7.out.1.old hb8', kk_old HK7.out.2 hb8'.size, HE7.out.old hb8', HB7.out.1.old hb8', HWc.out.1.old hb8', HC7.out.old hb8', HS.out.1, HS.out.2, tab_old HT.out hb8⟩
  have HBA : Hid (ba = none → bs.length = 0) := HB7.out.2
  have HWA : Hid ((wa = none ∧ bs.length = 0) ∨ ∃ g, wa = some ⟨g, 0, none⟩) := by
    rcases HWc.out.2 with h | ⟨g, h, _⟩
    · exact .inl h
    · exact .inr ⟨g, h⟩
  clear hb8' hb7 HK7 HE7 HB7 HC7 HWc HS HT
  go_wp2_with fail
  refine (zzappend_call ka ea ra ba (some ⟨g1, 0, none⟩) (some ⟨g2, 0, none⟩) E.length R.length R.length C.length C.length K E bs C W8 (by omega) (by omega) (by omega) (by omega) HV8.out.kk HV8.out.k HV8.out.e HV8.out.r HV8.out.n HV8.out.b HBA.out HD.out HW.out HV8.out.t).mono ?_
  rintro e W9 ⟨XW, gW, capW, rfl, HXW, HBW, hb9'⟩
  have hb9 : Below w.heap.size w W9 := hb8.trans (hb9'.mono hb8.size)
  have HV9 : Hid (Env W9 ka ea ba wa ca g1 g2 K E bs C) := HV8.out.old hb9'
  clear hb9' hb8 HV8
  have hCl : C.length ≤ 65536 := by omega
  have hKl : K.length ≤ 65536 := by omega
  have hEl : E.length ≤ 65536 := by omega
  have hbl : bs.length ≤ 65536 := by omega
  clear l1 l2 l3 l4 l5 ls k0 k1
  -- the left part
  have hTk : (C.take kk).length = kk := by rw [List.length_take]; omega
  have hDk : (C.drop kk).length = C.length - kk := List.length_drop
  have HVd : Hid (Env W9.drew ka ea ba wa ca g1 g2 K E bs C) := HV9.out.old (below_drew (Below.refl _ _))
  have I := zzappend_call ka ea ra none (some ⟨g1, 0, none⟩) (some ⟨g2, 0, none⟩) E.length R.length R.length C.length C.length K E [] (C.take kk) W9.drew hKl hEl (by omega) (by simp) HVd.out.kk HVd.out.k HVd.out.e (ranks_take HVd.out.r kk) (ns_take HVd.out.n kk) (fun i hi => absurd hi (by simp [bcells, Lib.byteCells])) (fun _ => rfl) (dom_take HD.out kk) (wf_take HW.out kk) HVd.out.t
  rw [hTk, List.length_nil] at I
  have HI : Hid _ := I
  have HL9 : Hid ((C.take kk).length = kk ∧ (C.drop kk).length = C.length - kk) := ⟨hTk, hDk⟩
  clear I hTk hDk
  go_wp2
  go_region_held3 (fun _ => True) (trivial) ((go_at_call 10; refine Calls.mono HI.out ?_; rintro e W10 ⟨XL, gL, capL, rfl, HXL, HBL, hb10'⟩))
  have hb10a : Below W9.heap.size W9 W10 := (below_drew (Below.refl _ _)).trans hb10'
  have hb10 : Below w.heap.size w W10 := hb9.trans (hb10a.mono hb9.size)
  have HV10 : Hid (Env W10 ka ea ba wa ca g1 g2 K E bs C) := HV9.out.old hb10a
  have HBW10 : Hid (BytesAt W10 (some ⟨gW, 0, none⟩) XW ∧ XW.length ≤ capW) := ⟨HBW.out.1.old hb10a, HBW.out.2⟩
  clear hb10' hb10a hb9 HV9 HVd HI HBW
  -- the right part
  have HVd : Hid (Env W10.drew ka ea ba wa ca g1 g2 K E bs C) := HV10.out.old (below_drew (Below.refl _ _))
  obtain ⟨dr, hdr, HDR⟩ := ranks_drop HVd.out.r kk
  obtain ⟨dn, hdn, HDN⟩ := ns_drop HVd.out.n kk
  have I := zzappend_call ka ea ra none dr dn E.length R.length R.length (C.length - kk) (C.length - kk) K E [] (C.drop kk) W10.drew hKl hEl (by rw [HL9.out.2]; omega) (by simp) HVd.out.kk HVd.out.k HVd.out.e HDR.out HDN.out (fun i hi => absurd hi (by simp [bcells, Lib.byteCells])) (fun _ => rfl) (dom_drop HD.out kk) (wf_drop HW.out kk) HVd.out.t
  rw [HL9.out.2, List.length_nil] at I
  have HI : Hid _ := I
  clear I
  go_wp2
  go_region_held3 (fun _ => True) (trivial) ((go_at_call 10; refine Calls.mono HI.out ?_; rintro e W11 ⟨XR, gR, capR, rfl, HXR, HBR, hb11'⟩))
  have hb11a : Below W10.heap.size W10 W11 := (below_drew (Below.refl _ _)).trans hb11'
  have hb11 : Below w.heap.size w W11 := hb10.trans (hb11a.mono hb10.size)
  have HV11 : Hid (Env W11 ka ea ba wa ca g1 g2 K E bs C) := HV10.out.old hb11a
  have HBW11 : Hid (BytesAt W11 (some ⟨gW, 0, none⟩) XW ∧ XW.length ≤ capW) := ⟨HBW10.out.1.old hb11a, HBW10.out.2⟩
  have HBL11 : Hid (BytesAt W11 (some ⟨gL, 0, none⟩) XL ∧ XL.length ≤ capL) := ⟨HBL.out.1.old hb11a, HBL.out.2⟩
  clear hb11' hb11a hb10 HV10 HVd HI HBW10 HBL hdr hdn HDR HDN HL9
  -- the insides
  obtain ⟨IL, hIL⟩ : ∃ IL, IL = Vc.inside K E (C.take kk) := ⟨_, rfl⟩
  obtain ⟨IR, hIR⟩ : ∃ IR, IR = Vc.inside K E (C.drop kk) := ⟨_, rfl⟩
  have HXL' : Hid (XL = [] ++ [123] ++ IL ++ [125]) := (show _ = _ by rw [HXL.out, hIL])
  have HXR' : Hid (XR = [] ++ [123] ++ IR ++ [125]) := (show _ = _ by rw [HXR.out, hIR])
  have HJ : Hid (Vc.inside K E C = Vc.join IL IR) := cut_eq kk hIL hIR
  have hILl : IL.length ≤ 5000000000 := by
    have := Vc.inside_le (dom_take HD.out kk) hKl (wf_take HW.out kk)
    rw [← hIL, List.length_take] at this
    have : min kk C.length * 65558 ≤ 65536 * 65558 := Nat.mul_le_mul_right _ (by omega)
    omega
  have hIRl : IR.length ≤ 5000000000 := by
    have := Vc.inside_le (dom_drop HD.out kk) hKl (wf_drop HW.out kk)
    rw [← hIR, List.length_drop] at this
    have : (C.length - kk) * 65558 ≤ 65536 * 65558 := Nat.mul_le_mul_right _ (by omega)
    omega
  clear hIL hIR HXL HXR
  have hlL := brace_len HXL'.out
  have hlR := brace_len HXR'.out
  have HlL : Hid (XL.length = IL.length + 1 + 1) := hlL
  have HlR : Hid (XR.length = IR.length + 1 + 1) := hlR
  have hcL : IL.length + 1 + 1 ≤ capL := by have := HBL11.out.2; omega
  have hcR : IR.length + 1 + 1 ≤ capR := by have := HBR.out.2; omega
  clear hlL hlR
  go_wp2_with fail
  refine (braced_call (some ⟨gL, 0, none⟩) capL XL W11 (by rw [HlL.out]; omega) (by rw [HlL.out]; omega) (brace_first HXL'.out) (brace_last HXL'.out) HBL11.out.1).mono ?_
  rintro e W11' ⟨rfl, hw⟩
  rw [hw]
  clear hw W11'
  go_wp2_with fail
  refine (braced_call (some ⟨gR, 0, none⟩) capR XR W11 (by rw [HlR.out]; omega) (by rw [HlR.out]; omega) (brace_first HXR'.out) (brace_last HXR'.out) HBR.out.1).mono ?_
  rintro e W11' ⟨rfl, hw⟩
  rw [hw]
  clear hw W11'
  rw [HlL.out, HlR.out]
  -- what is wanted
  obtain ⟨N, hN⟩ : ∃ N : Nat, (bs.length : Int) + (IL.length : Int) + (IR.length : Int) + 3 = (N : Int) := ⟨bs.length + IL.length + IR.length + 3, by omega⟩
  have hNl : N ≤ 1000000000000 := by omega
  have hmk : ∀ W : World, (Instr.makeSlice 22 (.int .i64 0) (.int .i64 (N : Int))).run Tryd.prog W = .ok (.slice (some ⟨W.heap.size, 0, none⟩) 0 N) (W.alloc (.cells (List.replicate N (Value.int .u8 0)).toArray 5)) := fun W => make_ones Tryd.underlying22 info5 (by rfl) (by omega) 0 N (Nat.zero_le _) hNl W
  have hXWl : Hid (XW.length = bs.length + 1 + (Vc.inside K E C).length + 1) := (show _ = _ by rw [HXW.out]; simp; omega)
  have hinl : (Vc.inside K E C).length ≤ 5000000000 := by
    have := Vc.inside_le HD.out hKl HW.out
    have : C.length * 65558 ≤ 65536 * 65558 := Nat.mul_le_mul_right _ hCl
    omega
  have HNW : Hid (XW.length ≤ 1000000000000) := (show XW.length ≤ 1000000000000 by rw [hXWl.out]; omega)
  clear hinl
  go_wp2_with (at_builtin; refine wpList_bufo rfl _ _ rfl W11.heap.size W11.heap.size N [] bs rfl (buf_new W11 N hNl) wa rfl HWA.out (HV11.out.w0.old ((Below.refl _ W11).alloc (Nat.le_refl _) _)) (by simp; omega) ?_)
  intro X1 h1 q1 V1 HX1 HF1 HG1
  have hv1 : Below W11.heap.size W11 V1 := ((Below.refl _ W11).alloc (Nat.le_refl _) _).trans (grown_below HG1.out (Nat.le_refl _) (by simp))
  have hx1 : X1.length ≤ 65536 := by rw [HX1.out]; exact hbl
  clear HG1
  go_wp2_with (at_builtin; refine wpList_buf rfl _ _ rfl W11.heap.size h1 q1 X1 [123] rfl (HF1.out.alloc _) ⟨V1.heap.size, 0, none⟩ 1 rfl (lit_bytes _ _ (by simp) 123 123 rfl) (by simp; omega) ?_)
  intro X2 h2 q2 V2 HX2 HF2 HG2
  have hv2 : Below W11.heap.size W11 V2 := (hv1.alloc hv1.size _).trans (grown_below HG2.out HF1.out.lt.1 (by have := hv1.size; simp; omega))
  have HX2' : Hid (X2 = bs ++ [123]) := (show _ = _ by rw [HX2.out, HX1.out])
  have hx2 : X2.length ≤ 65537 := by rw [HX2.out, List.length_append, List.length_singleton]; omega
  clear HG2 HX2 HX1 HF1 hx1
  go_wp2_with (at_builtin; refine wpList_bufm rfl _ _ rfl W11.heap.size h2 q2 X2 IL rfl HF2.out ⟨gL, 1, none⟩ IL.length (capL - 1) rfl rfl (inner_cells HBL11.out.1 HXL'.out hv2) (by omega) ?_)
  intro X3 h3 q3 V3 HX3 HF3 HG3
  have hv3 : Below W11.heap.size W11 V3 := hv2.trans (grown_below HG3.out HF2.out.lt.1 hv2.size)
  have HX3' : Hid (X3 = bs ++ [123] ++ IL) := (show _ = _ by rw [HX3.out, HX2'.out])
  have hx3 : X3.length ≤ 6000000000 := by rw [HX3.out, List.length_append]; omega
  clear HG3 HX3 HX2' HF2 hx2
  rcases (show (¬ 0 < IL.length) ∨ (0 < IL.length ∧ ¬ 0 < IR.length) ∨ (0 < IL.length ∧ 0 < IR.length) by omega) with hm1 | ⟨hm1, hm2⟩ | ⟨hm1, hm2⟩
  case' inr.inr =>
    go_wp2_with (at_builtin; refine wpList_buf rfl _ _ rfl W11.heap.size h3 q3 X3 [44] rfl (HF3.out.alloc _) ⟨V3.heap.size, 0, none⟩ 1 rfl (lit_bytes _ _ (by simp) 44 44 rfl) (by simp; omega) ?_)
    have HFO := HF3
    have HXO := HX3'
    have hvO := hv3
    have hxO := hx3
    clear HF3 HX3' hv3 hx3
    intro X3 h3 q3 V3 HX3 HF3 HG3
    have hv3 : Below W11.heap.size W11 V3 := (hvO.alloc hvO.size _).trans (grown_below HG3.out HFO.out.lt.1 (by have := hvO.size; simp; omega))
    have HXc : Hid (X3 ++ IR = bs ++ [123] ++ Vc.join IL IR) := (show _ = _ by rw [HX3.out, HXO.out, join_comma hm1 hm2]; simp [List.append_assoc])
    have hx3 : X3.length ≤ 6000000001 := by rw [HX3.out, List.length_append, List.length_singleton]; omega
    clear HG3 HX3 HXO HFO hvO hxO
  case' inl =>
    have HXc : Hid (X3 ++ IR = bs ++ [123] ++ Vc.join IL IR) := (show _ = _ by rw [HX3'.out, join_plain (fun h => hm1 h.1)]; simp [List.append_assoc])
    clear HX3'
  case' inr.inl =>
    have HXc : Hid (X3 ++ IR = bs ++ [123] ++ Vc.join IL IR) := (show _ = _ by rw [HX3'.out, join_plain (fun h => hm2 h.2)]; simp [List.append_assoc])
    clear HX3'
  all_goals
    go_wp2_with (at_builtin; refine wpList_bufm rfl _ _ rfl W11.heap.size h3 q3 X3 IR rfl HF3.out ⟨gR, 1, none⟩ IR.length (capR - 1) rfl rfl (inner_cells HBR.out.1 HXR'.out hv3) (by omega) ?_)
    intro X5 h5 q5 V5 HX5 HF5 HG5
    have hv5 : Below W11.heap.size W11 V5 := hv3.trans (grown_below HG5.out HF3.out.lt.1 hv3.size)
    have HX5' : Hid (X5 = bs ++ [123] ++ Vc.join IL IR) := (show _ = _ by rw [HX5.out, HXc.out])
    have hx5 : X5.length ≤ 12000000000 := by rw [HX5.out, List.length_append]; omega
    clear HG5 HX5 HXc HF3
    go_wp2_with (at_builtin; refine wpList_buf rfl _ _ rfl W11.heap.size h5 q5 X5 [125] rfl (HF5.out.alloc _) ⟨V5.heap.size, 0, none⟩ 1 rfl (lit_bytes _ _ (by simp) 125 125 rfl) (by simp; omega) ?_)
    intro X6 h6 q6 V6 HX6 HF6 HG6
    have hv6 : Below W11.heap.size W11 V6 := (hv5.alloc hv5.size _).trans (grown_below HG6.out HF5.out.lt.1 (by have := hv5.size; simp; omega))
    have HEQ : X6 = XW := by rw [HX6.out, HX5'.out, HXW.out, HJ.out]
    rw [HEQ] at HF6
    rw [HEQ]
    clear HG6 HX6 HX5' HF5 HEQ X6
    go_wp2_with fail
    refine (same_call (some ⟨gW, 0, none⟩) (some ⟨h6, 0, none⟩) capW q6 XW V6 HNW.out (HBW11.out.1.old hv6) HF6.out.row).mono ?_
    rintro e V7 ⟨rfl, n7, rfl⟩
    have hv7 : Below W11.heap.size W11 (V6.drewN n7) := below_drewN hv6 n7
    have hlen : Vc.lenEnd (Vc.lens E (bs.length : Int) C) = (XW.length : Int) := by rw [Vc.lens_end K E (bs.length : Int) C HD.out, hXWl.out]; omega
    have I := spelled_call (.slice ka K.length K.length) ea ca E.length C.length K E C bs.length (V6.drewN n7) hKl hEl hCl hbl (HV11.out.e.old hv7) (HV11.out.c.old hv7) HD.out HW.out
    rw [hlen] at I
    have HI : Hid _ := I
    clear I hlen
    go_wp2_with fail
    refine Calls.mono HI.out ?_
    rintro e V8 ⟨rfl, hv8'⟩
    have hv8 : Below W11.heap.size W11 V8 := hv7.trans (hv8'.mono hv7.size)
    go_wp2
    go_ret
    exact ⟨rfl, hb11.trans (hv8.mono hb11.size)⟩
end Go.Proofs.Qxb6619558aDoor
