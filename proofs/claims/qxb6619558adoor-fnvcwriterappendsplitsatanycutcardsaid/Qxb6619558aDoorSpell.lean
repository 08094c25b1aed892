/-
  spelledLen: the length that the law asks for.
-/
import Derived.Test.Qxb6619558aDoorDec
import Derived.Test.Qxb6619558aDoorDomain
namespace Go.Proofs.Qxb6619558aDoor
open Go.RowKit

/-- every count is an int64 -/
def Wf (C : List Vc.Cnt) : Prop := ∀ c ∈ C, -9223372036854775808 ≤ c.2 ∧ c.2 ≤ 9223372036854775807

theorem at_mem (C : List Vc.Cnt) (k : Nat) (h : k < C.length) : at' C k ∈ C := by rw [at_eq C k h]; exact List.getElem_mem _
theorem take_snoc (C : List Vc.Cnt) (k : Nat) (h : k < C.length) : C.take (k + 1) = C.take k ++ [at' C k] := by
  rw [List.take_add_one, List.getElem?_eq_getElem h, at_eq C k h]; rfl
theorem dom_take {K : List UInt8} {E : List Int} {C : List Vc.Cnt} (h : Vc.Dom K E C) (k : Nat) : Vc.Dom K E (C.take k) := fun c hc => h c (List.mem_of_mem_take hc)
theorem dom_drop {K : List UInt8} {E : List Int} {C : List Vc.Cnt} (h : Vc.Dom K E C) (k : Nat) : Vc.Dom K E (C.drop k) := fun c hc => h c (List.mem_of_mem_drop hc)
theorem wf_take {C : List Vc.Cnt} (h : Wf C) (k : Nat) : Wf (C.take k) := fun c hc => h c (List.mem_of_mem_take hc)
theorem wf_drop {C : List Vc.Cnt} (h : Wf C) (k : Nat) : Wf (C.drop k) := fun c hc => h c (List.mem_of_mem_drop hc)

theorem lens_bounds {K : List UInt8} {E : List Int} (lb : Int) {C : List Vc.Cnt} (h : Vc.Dom K E C) (hK : K.length ≤ 65536) (hC : Wf C) :
    lb + 2 ≤ (Vc.lens E lb C).1 ∧ (Vc.lens E lb C).1 ≤ lb + 2 + (C.length * 65557 : Nat) ∧ 0 ≤ (Vc.lens E lb C).2 ∧ (Vc.lens E lb C).2 ≤ (C.length : Int) := by
  induction C using Vc.snoc_ind with
  | nil => simp [Vc.lens]
  | snoc C c ih =>
    obtain ⟨i1, i2, i3, i4⟩ := ih (fun x hx => h x (by simp [hx])) (fun x hx => hC x (by simp [hx]))
    rw [Vc.lens_snoc, List.length_append, List.length_singleton, Nat.add_mul, Nat.one_mul]
    generalize C.length * 65557 = M at i2 ⊢
    unfold Vc.lenStep
    by_cases hz : c.2 = 0
    · rw [if_pos hz]
      exact ⟨i1, by omega, i3, by omega⟩
    · rw [if_neg hz]
      have hok := h c (by simp)
      obtain ⟨a1, a2, a3, a4, a5⟩ := hok hz
      have hil := Lib.itoa_length_le c.2 (hC c (by simp)).1 (hC c (by simp)).2
      refine ⟨?_, ?_, ?_, ?_⟩
      · show _ ≤ (Vc.lens E lb C).1 + Vc.hi E c.1 - Vc.lo E c.1 + ((Lib.itoa c.2).length : Int); omega
      · show (Vc.lens E lb C).1 + Vc.hi E c.1 - Vc.lo E c.1 + ((Lib.itoa c.2).length : Int) ≤ _; omega
      · show 0 ≤ (Vc.lens E lb C).2 + 1; omega
      · show (Vc.lens E lb C).2 + 1 ≤ _; omega

set_option maxHeartbeats 1000000 in
set_option maxRecDepth 100000 in
theorem spelled_call (kv : Value) (ea ca : Option Addr) (ec cc : Nat) (K : List UInt8) (E : List Int) (C : List Vc.Cnt) (lb : Nat) (w : World) (hK : K.length ≤ 65536) (hEl : E.length ≤ 65536) (hCl : C.length ≤ 65536) (hlb : lb ≤ 65536)
    (hE : IntsAt w ea E) (hC : PairsAt w ca C) (hD : Vc.Dom K E C) (hW : Wf C) :
    Calls Tryd.prog 13 #[kv, .slice ea E.length ec, .int .i64 (lb : Int), .slice ca C.length cc] w fun e w' => e = .returned (.int .i64 (Vc.lenEnd (Vc.lens E lb C))) ∧ Below w.heap.size w w' := by
  have HE : Hid (IntsAt w ea E) := hE
  have HC : Hid (PairsAt w ca C) := hC
  have HD : Hid (Vc.Dom K E C) := hD
  have HW : Hid (Wf C) := hW
  clear hE hC hD hW
  go_enter Tryd.func13, Tryd.ntmps13
  go_wp2
  go_loopw [9, 10, 11] (fun n z i wr => ∃ (k : Nat) (N Z : Int), k ≤ C.length ∧ n = .int .i64 N ∧ z = .int .i64 Z ∧ i = .int .i64 k ∧ Hid (Vc.lens E lb (C.take k) = (N, Z)) ∧ Below w.heap.size w wr) (fun _ _ i _ => C.length - (intOf i).toNat)
  case atStart => exact ⟨0, _, _, Nat.zero_le _, rfl, rfl, rfl, rfl, Below.refl _ _⟩
  case round =>
    obtain ⟨k, N, Z, hk, rfl, rfl, rfl, HN, hb⟩ := hrel
    obtain ⟨b1, b2, b3, b4⟩ := lens_bounds (lb : Int) (dom_take HD.out k) hK (wf_take HW.out k)
    rw [HN.out] at b1 b2 b3 b4
    have hN0 : 0 ≤ N := by simp only at b1; omega
    have hN1 : N ≤ 5000000000 := by simp only [List.length_take] at b2; omega
    have hZ0 : 0 ≤ Z := b3
    have hZ1 : Z ≤ 65536 := by simp only [List.length_take] at b4; omega
    clear b1 b2 b3 b4
    by_cases hlt : k < C.length
    · obtain ⟨b, off, rfl, hbs, x0, x1⟩ := (HC.out.old hb) k hlt
      have HS : Hid (Vc.lens E lb (C.take (k + 1)) = Vc.lenStep E (N, Z) (at' C k)) := (show _ = _ by rw [take_snoc C k hlt, Vc.lens_snoc, HN.out])
      have HOK : Hid (Vc.Ok K E (at' C k)) := HD.out _ (at_mem C k hlt)
      have hwf := HW.out _ (at_mem C k hlt)
      obtain ⟨c, hc⟩ : ∃ c, c = at' C k := ⟨_, rfl⟩
      rw [← hc] at x0 x1 HS HOK hwf
      clear hc
      obtain ⟨r, n⟩ := c
      simp only at x0 x1 hwf
      have hki : (k : Int) < (C.length : Int) := by omega
      by_cases hz : n = 0
      · subst hz
        go_wp2
        go_roundw
        case rel => exact ⟨k + 1, N, Z, by omega, rfl, rfl, by go_num, (HS.out.trans (if_pos rfl)), hb⟩
        case measure => simp [intOf]; omega
      · obtain ⟨o1, o2, o3, o4, o5⟩ := HOK.out hz
        simp only at o1 o2 o3 o4 o5
        obtain ⟨q, rfl⟩ : ∃ q : Nat, r = (q : Int) := ⟨r.toNat, by omega⟩
        have hq : q < E.length := by omega
        go_wp2_with fail
        refine (keyBounds_call ea ec E q wr hEl hq (HE.out.old hb)).mono ?_
        rintro e W1 ⟨rfl, n1, rfl⟩
        obtain ⟨l, hl⟩ : ∃ l, l = Vc.lo E q := ⟨_, rfl⟩
        obtain ⟨h, hh⟩ : ∃ h, h = Vc.hi E q := ⟨_, rfl⟩
        rw [← hl] at o3 o4 ⊢
        rw [← hh] at o4 o5 ⊢
        have HL : Hid (l = Vc.lo E q) := hl
        have HH : Hid (h = Vc.hi E q) := hh
        clear hl hh o1 o2
        have hb1 : Below w.heap.size w (wr.drewN n1) := below_drewN hb n1
        go_wp2_with fail
        refine (dec_call n hwf.1 hwf.2 _).mono ?_
        rintro e W2 ⟨av, cv, rfl, hb2'⟩
        have hb2 : Below w.heap.size w W2 := hb1.trans (hb2'.mono hb1.size)
        have hil := Lib.itoa_length_le n hwf.1 hwf.2
        have HI : Hid (Vc.lens E lb (C.take (k + 1)) = (N + h - l + (Lib.itoa n).length, Z + 1)) := (show _ = _ by rw [HS.out, HL.out, HH.out]; exact if_neg hz)
        clear HS HOK hb2' hb1 hb HL HH
        obtain ⟨il, hil'⟩ : ∃ il, il = (Lib.itoa n).length := ⟨_, rfl⟩
        rw [← hil'] at hil HI ⊢
        clear hil'
        go_wp2
        go_roundw
        case rel => exact ⟨k + 1, _, _, by omega, rfl, rfl, by go_num, HI, hb2⟩
        case measure => simp [intOf]; omega
    · have HF : Hid (Vc.lens E lb C = (N, Z)) := by
        have h := HN.out
        rw [List.take_of_length_le (by omega)] at h
        exact h
      by_cases hz1 : 1 < Z
      · go_wp2
        go_ret
        exact ⟨by rw [HF.out]; simp [Vc.lenEnd, hz1], hb⟩
      · go_wp2
        go_ret
        exact ⟨by rw [HF.out]; simp [Vc.lenEnd]; omega, hb⟩
end Go.Proofs.Qxb6619558aDoor
