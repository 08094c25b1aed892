/-
  ZZVCWriterAppend: the writer and the counts are made, then append.
-/
import Derived.Test.Qxb6619558aDoorAppend
namespace Go.Proofs.Qxb6619558aDoor
open Go.RowKit

set_option maxHeartbeats 2000000 in
set_option maxRecDepth 100000 in
theorem zzappend_call (ka ea rka ba ra na : Option Addr) (ec rkl rkc rc nc : Nat) (K : List UInt8) (E : List Int) (bs : List UInt8) (C : List Vc.Cnt) (w : World)
    (hKl : K.length ≤ 65536) (hEl : E.length ≤ 65536) (hCl : C.length ≤ 65536) (hbl : bs.length ≤ 65536)
    (hka : (ka = none ∧ K.length = 0) ∨ ∃ kb, ka = some ⟨kb, 0, none⟩ ∧ kb < w.heap.size)
    (hK : BytesAt w ka K) (hE : IntsAt w ea E) (hR : IntsAt w ra (ranks C)) (hN : IntsAt w na (ns C)) (hb : BytesAt w ba bs) (hba : ba = none → bs.length = 0) (hD : Vc.Dom K E C) (hW : Wf C)
    (htab : Lib.TabIs Tryd.prog w powName .u64 Lib.pow10Tab) :
    Calls Tryd.prog 10 #[.slice ka K.length K.length, .slice ea E.length ec, .slice rka rkl rkc, .slice ba bs.length bs.length, .slice ra C.length rc, .slice na C.length nc] w fun e w' => ∃ (X : List UInt8) (g cap : Nat), e = .returned (.slice (some ⟨g, 0, none⟩) X.length cap) ∧
      Hid (X = bs ++ [123] ++ Vc.inside K E C ++ [125]) ∧ Hid (BytesAt w' (some ⟨g, 0, none⟩) X ∧ X.length ≤ cap) ∧ Below w.heap.size w w' := by
  have HK : Hid (BytesAt w ka K) := hK
  have HE : Hid (IntsAt w ea E) := hE
  have HR : Hid (IntsAt w ra (ranks C)) := hR
  have HN : Hid (IntsAt w na (ns C)) := hN
  have HD : Hid (Vc.Dom K E C) := hD
  have HW : Hid (Wf C) := hW
  have HT : Hid (Lib.TabBelow Tryd.prog w.heap.size w powName .u64 Lib.pow10Tab) := Lib.tabBelow_of_tabIs htab
  have HBS : Hid (BytesAt w ba bs) := hb
  have HBA : Hid (ba = none → bs.length = 0) := hba
  have HKA : Hid ((ka = none ∧ K.length = 0) ∨ ∃ kb, ka = some ⟨kb, 0, none⟩ ∧ kb < w.heap.size) := hka
  clear hK hE hR hN hD hW htab hb hba hka
  have hmk := make_pairs Tryd.underlying44 info46 C.length (by omega)
  go_enter Tryd.func10, Tryd.ntmps10
  go_wp2
  go_loopw [26] (fun i wr => ∃ k : Nat, k ≤ C.length ∧ i = .int .i64 k ∧ (∃ D : List Vc.Cnt, Hid (D.length = C.length ∧ D.take k = C.take k ∧ Own wr (w.heap.size + 1) 46 (pcells D))) ∧ Hid (Own wr w.heap.size 43 [.slice ka K.length K.length, .slice ea E.length ec, .slice rka rkl rkc]) ∧ Below w.heap.size w wr) (fun i _ => C.length - (intOf i).toNat)
  case atStart => exact ⟨0, Nat.zero_le _, rfl, ⟨zeros C.length, zeros_length _, by simp, (two_news w _ _ _ _).2⟩, (two_news w _ _ _ _).1, ((Below.refl _ w).alloc (Nat.le_refl _) _).alloc (by simp) _⟩
  case round =>
    obtain ⟨k, hk, rfl, ⟨D, HDD⟩, HO, hb⟩ := hrel
    by_cases hlt : k < C.length
    · obtain ⟨b1, o1, rfl, hbs1, x0⟩ := IntsAt.at HR.out k (by rw [ranks_len]; exact hlt)
      obtain ⟨b2, o2, rfl, hbs2, x1⟩ := IntsAt.at HN.out k (by rw [ns_len]; exact hlt)
      rw [ranks_at C k hlt, ← hb.cell (p := ⟨b1, o1 + k, none⟩) hbs1] at x0
      rw [ns_at C k hlt, ← hb.cell (p := ⟨b2, o2 + k, none⟩) hbs2] at x1
      obtain ⟨⟨v0, r0⟩, ⟨v1, r1⟩, f0, f1⟩ := HDD.out.2.2.ready2 k (by rw [HDD.out.1]; exact hlt)
      have HS : Hid _ := HDD.out.2.2.store2 k (at' C k) (by rw [HDD.out.1]; exact hlt)
      have HS2 : Hid (Own ((wr.setCell ⟨w.heap.size + 1, k * 2, none⟩ (.int .i64 (at' C k).1)).setCell ⟨w.heap.size + 1, k * 2 + 1, none⟩ (.int .i64 (at' C k).2)) w.heap.size 43 [.slice ka K.length K.length, .slice ea E.length ec, .slice rka rkl rkc]) := (HO.out.other (by omega) _ _).other (by omega) _ _
      have HB' : Hid _ := two_sets hb (Nat.le_succ w.heap.size) (k * 2) (k * 2 + 1) (.int .i64 (at' C k).1) (.int .i64 (at' C k).2)
      have hki : (k : Int) < (C.length : Int) := by omega
      go_wp2
      go_region
      go_wp2
      go_roundw
      case rel => exact ⟨k + 1, by omega, by go_num, ⟨_, by rw [List.length_set]; exact HDD.out.1, fill_step D C k _ HDD.out.1 hlt HDD.out.2.1 (by rw [at_eq C k hlt]; exact List.getElem?_eq_getElem hlt), HS.out⟩, HS2.out, HB'.out.trans ⟨rfl, rfl, rfl, Nat.le_refl _, fun _ _ => rfl⟩⟩
      case measure => simp [intOf]; omega
    · have e : D = C := fill_end HDD.out.1 (by omega) HDD.out.2.1
      have HC : Hid (PairsAt wr (some ⟨w.heap.size + 1, 0, none⟩) C) := (e ▸ HDD.out.2.2).pairs
      have HKA2 : Hid ((ka = none ∧ K.length = 0) ∨ ∃ kb, ka = some ⟨kb, 0, none⟩ ∧ kb < wr.heap.size) := by
        rcases HKA.out with h | ⟨kb, h1, h2⟩
        · exact .inl h
        · exact .inr ⟨kb, h1, by have := hb.size; omega⟩
      clear e
      go_wp2_with fail
      refine (append_call w.heap.size ec C.length ka ea ba (some ⟨w.heap.size + 1, 0, none⟩) K E bs C wr hKl hEl hCl hbl (HO.out.cell 0) (HO.out.cell 1) HKA2.out (HK.out.old hb) (HE.out.old hb) HC.out (HBS.out.old hb) HBA.out HD.out HW.out (HT.out wr hb)).mono ?_
      rintro e W1 ⟨X, g, cap, rfl, HX, HBX, hb1⟩
      go_wp2
      go_ret
      exact ⟨X, g, cap, rfl, HX, HBX, hb.trans (hb1.mono hb.size)⟩
end Go.Proofs.Qxb6619558aDoor
