import Derived.Test.Qxb6619558aShim
namespace Go.Proofs.Qxb6619558a
open Go.RowKit Go.Sort

theorem bool_of_iff {r : Bool} {P : Prop} (h : r = true ↔ P) (hp : P) : r = true := h.2 hp

set_option maxHeartbeats 1000000 in
set_option maxRecDepth 100000 in
theorem mends_walk (a : Option Addr) (cap : Nat) (L : List Hp.Node) (w : World) (hm : L.length ≤ 32768) (hL : NodesAt w a L) (ha : a = none → L.length = 0) :
    Calls Try.prog 5 #[.slice a L.length cap] w fun e w' => e = .returned (.bool true) ∧ Below w.heap.size w w' := by
  have HL : Hid (NodesAt w a L) := hL
  have HA : Hid (a = none → L.length = 0) := ha
  clear hL ha
  go_enter Try.func5, Try.ntmps5
  go_wp2_with (go_at_call 24; go_in)
  refine (rootOut_call a cap L w (by omega) HL.out).mono ?_
  rintro e W1 ⟨r1, rfl, HR1, hb1⟩
  have HL1 : Hid (NodesAt W1 a L) := HL.out.old hb1
  cases r1
  · go_wp2_with fail
    go_ret
    exact ⟨rfl, hb1⟩
  have HRO : Hid (Hp.RootOut L) := HR1.out.1 rfl
  clear HR1 HL
  go_wp2_with fail
  refine (clone_call a cap L W1 (by omega) HL1.out HA.out).mono ?_
  rintro e W2 ⟨a2, cap2, rfl, HL2, hb2⟩
  have hb02 : Below w.heap.size w W2 := hb1.trans (hb2.mono hb1.size)
  clear HL1 HA hb1 hb2
  go_wp2_with fail
  refine (split_call a2 cap2 L W2 (by omega) HL2.out).mono ?_
  rintro e W3 ⟨g1, g2, g3, rfl, k1, k2, k3, n1, n2, n3, HT, hb3⟩
  have hb03 : Below w.heap.size w W3 := hb02.trans (hb3.mono hb02.size)
  have HL3 : Hid (NodesAt W3 a2 L) := HL2.out.old hb3
  clear HL2 hb3 hb02 k1 k2 k3 n1 n2 n3
  go_wp2_with fail
  refine (shim_call g1 g2 g3 L.length L.length L.length L W3 (by omega) HT.out.read).mono ?_
  rintro e W4 ⟨h1, h2, h3, rfl, k1, k2, k3, n1, n2, n3, HT4, hb4⟩
  have hb04 : Below w.heap.size w W4 := hb03.trans (hb4.mono hb03.size)
  have HL4 : Hid (NodesAt W4 a2 L) := HL3.out.old hb4
  clear HL3 hb4 hb03 k1 k2 k3 n1 n2 n3 HT
  obtain ⟨L', hT, hP⟩ := HT4.out
  have HP : Hid (Hp.Post L L') := hP
  have HLE : Hid (L'.length = L.length) := hP.len
  have J := join_call h1 h2 h3 L.length L.length L.length L' W4 (by rw [HLE.out]; omega) hT.read
  rw [HLE.out] at J
  have HJ : Hid _ := J
  clear HT4 hT hP J
  go_wp2_with fail
  refine Calls.mono HJ.out ?_
  rintro e W5 ⟨a5, rfl, HG5, hb5⟩
  have hb05 : Below w.heap.size w W5 := hb04.trans (hb5.mono hb04.size)
  have HL5 : Hid (NodesAt W5 a2 L) := HL4.out.old hb5
  clear HL4 hb5 hb04 HJ
  have I := isHeap_call a5 L.length L' W5 (by rw [HLE.out]; omega) HG5.out
  rw [HLE.out] at I
  have HI : Hid _ := I
  clear I
  go_wp2_with fail
  refine Calls.mono HI.out ?_
  rintro e W6 ⟨r6, rfl, HR6, hb6⟩
  obtain rfl : r6 = true := HR6.out.2 (HP.out.heap HRO.out)
  have hb06 : Below w.heap.size w W6 := hb05.trans (hb6.mono hb05.size)
  have HL6 : Hid (NodesAt W6 a2 L) := HL5.out.old hb6
  have HG6 : Hid (NodesAt W6 a5 L') := HG5.out.old hb6
  clear HL5 HG5 hb6 hb05 HI HR6
  have I := sort_call a5 L.length L' W6 (by rw [HLE.out]; omega) HG6.out
  rw [HLE.out] at I
  have HI : Hid _ := I
  clear I
  go_wp2_with fail
  refine Calls.mono HI.out ?_
  rintro e W7 ⟨a7, S7, rfl, HS7, hb7⟩
  have hb07 : Below w.heap.size w W7 := hb06.trans (hb7.mono hb06.size)
  have HL7 : Hid (NodesAt W7 a2 L) := HL6.out.old hb7
  have HG7 : Hid (NodesAt W7 a5 L') := HG6.out.old hb7
  clear HL6 HG6 hb7 hb06 HI
  go_wp2_with fail
  refine (sort_call a2 cap2 L W7 (by omega) HL7.out).mono ?_
  rintro e W8 ⟨a8, S8, rfl, HS8, hb8⟩
  have hb08 : Below w.heap.size w W8 := hb07.trans (hb8.mono hb07.size)
  have HL8 : Hid (NodesAt W8 a2 L) := HL7.out.old hb8
  have HG8 : Hid (NodesAt W8 a5 L') := HG7.out.old hb8
  have HEQ : Hid (S7 = S8) := Hp.sorted_unique HS7.out.2.2 HS8.out.2.2 ((HS7.out.2.1.trans HP.out.perm).trans HS8.out.2.1.symm)
  have E7 : Hid (S7.length = L.length) := (show _ = _ by rw [HS7.out.2.1.length_eq, HLE.out])
  have E8 : Hid (S8.length = L.length) := HS8.out.2.1.length_eq
  have I := same_call a7 a8 L.length L.length S7 S8 W8 (by rw [E7.out]; omega) (HS7.out.1.old hb8) HS8.out.1
  rw [E7.out, E8.out] at I
  have HI : Hid _ := I
  clear HL7 HG7 hb8 hb07 I
  go_wp2_with fail
  refine Calls.mono HI.out ?_
  rintro e W9 ⟨r9, rfl, HR9, m9, rfl⟩
  obtain rfl : r9 = true := HR9.out.2 HEQ.out
  clear HI HR9 HEQ HS7 HS8 E7 E8
  have hb09 : Below w.heap.size w (W8.drewN m9) := below_drewN hb08 m9
  have HL9 : Hid (NodesAt (W8.drewN m9) a2 L) := HL8.out.old (below_drewN (Below.refl _ _) m9)
  have HG9 : Hid (NodesAt (W8.drewN m9) a5 L') := HG8.out.old (below_drewN (Below.refl _ _) m9)
  clear HL8 HG8 hb08
  generalize W8.drewN m9 = W9 at *
  go_wp2_with fail
  refine (isHeap_call a2 cap2 L W9 (by omega) HL9.out).mono ?_
  rintro e WA ⟨rA, rfl, HRA, hbA⟩
  have hb0A : Below w.heap.size w WA := hb09.trans (hbA.mono hb09.size)
  cases rA
  · go_wp2_with fail
    go_ret
    exact ⟨rfl, hb0A⟩
  have HST : Hid (L' = L) := HP.out.stay (HRA.out.1 rfl)
  have I := same_call a5 a2 L.length cap2 L' L WA (by rw [HLE.out]; omega) (HG9.out.old hbA) (HL9.out.old hbA)
  rw [HLE.out] at I
  have HI : Hid _ := I
  clear I HRA
  go_wp2_with fail
  refine Calls.mono HI.out ?_
  rintro e WB ⟨rB, rfl, HRB, mB, rfl⟩
  obtain rfl : rB = true := HRB.out.2 HST.out
  clear HI HRB HST
  go_wp2
  go_ret
  exact ⟨rfl, below_drewN hb0A mB⟩

theorem mends_big (a : Option Addr) (len cap : Nat) (w : World) (h : 32768 < len) :
    Calls Try.prog 5 #[.slice a len cap] w fun e w' => e = .returned (.bool true) ∧ Below w.heap.size w w' := by
  by_cases h2 : 1048576 < len
  · go_enter Try.func5, Try.ntmps5
    go_wp2
    go_ret
    exact ⟨rfl, Below.refl _ _⟩
  · go_enter Try.func5, Try.ntmps5
    go_wp2
    go_ret
    exact ⟨rfl, Below.refl _ _⟩
end Go.Proofs.Qxb6619558a
