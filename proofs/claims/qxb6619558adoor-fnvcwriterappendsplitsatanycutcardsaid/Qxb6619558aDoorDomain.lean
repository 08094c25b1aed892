/-
  vcDomain: if she says yes, every nonzero count's key lies inside keys.
-/
import Derived.Test.Qxb6619558aDoorReads
namespace Go.Proofs.Qxb6619558aDoor
open Go.RowKit

theorem ok_zero {K : List UInt8} {E : List Int} {c : Vc.Cnt} (h : c.2 = 0) : Vc.Ok K E c := fun h' => absurd h h'

theorem upto_step {p : Vc.Cnt → Prop} {C : List Vc.Cnt} {k : Nat} (h : ∀ j, j < k → p (at' C j)) (hk : p (at' C k)) : ∀ j, j < k + 1 → p (at' C j) := by
  intro j hj
  by_cases e : j = k
  · subst e; exact hk
  · exact h j (by omega)

theorem dom_of {K : List UInt8} {E : List Int} {C : List Vc.Cnt} (h : ∀ j, j < C.length → Vc.Ok K E (at' C j)) : Vc.Dom K E C := by
  intro c hc
  obtain ⟨j, hj, e⟩ := List.getElem_of_mem hc
  have := h j hj
  rwa [at_eq C j hj, e] at this

theorem alloc_set2 {B : Nat} {w w' : World} (h : Below B w w') (hB : B ≤ w'.heap.size) (o : Obj) (x y : Value) :
    Below B w (((w'.alloc o).setCell ⟨w'.heap.size, 0, none⟩ x).setCell ⟨w'.heap.size, 1, none⟩ y) := two_sets (h.alloc hB o) hB 0 1 x y

set_option maxHeartbeats 1000000 in
set_option maxRecDepth 100000 in
theorem domain_call (ka ea ca : Option Addr) (kc ec cc : Nat) (K : List UInt8) (E : List Int) (C : List Vc.Cnt) (w : World) (_hK : K.length ≤ 65536) (hEl : E.length ≤ 65536) (hCl : C.length ≤ 65536)
    (hE : IntsAt w ea E) (hC : PairsAt w ca C) :
    Calls Tryd.prog 5 #[.slice ka K.length kc, .slice ea E.length ec, .slice ca C.length cc] w fun e w' => ∃ r : Bool, e = .returned (.bool r) ∧ Hid (r = true → Vc.Dom K E C) ∧ Below w.heap.size w w' := by
  have HE : Hid (IntsAt w ea E) := hE
  have HC : Hid (PairsAt w ca C) := hC
  clear hE hC
  go_enter Tryd.func5, Tryd.ntmps5
  go_wp2
  go_loopw [7, 8] (fun o i wr => ∃ (x : Int) (k : Nat), k ≤ C.length ∧ o = .int .i64 x ∧ i = .int .i64 k ∧ Hid (∀ j, j < k → Vc.Ok K E (at' C j)) ∧ Below w.heap.size w wr) (fun _ i _ => C.length - (intOf i).toNat)
  case atStart => exact ⟨0, 0, Nat.zero_le _, rfl, rfl, (show ∀ j, _ from fun j h => by omega), Below.refl _ _⟩
  case round =>
    obtain ⟨x, k, hk, rfl, rfl, HJ, hb⟩ := hrel
    by_cases hlt : k < C.length
    · obtain ⟨b, off, rfl, hbs, x0, x1⟩ := (HC.out.old hb) k hlt
      obtain ⟨c, hc⟩ : ∃ c, c = at' C k := ⟨_, rfl⟩
      rw [← hc] at x0 x1
      have HCk : Hid (c = at' C k) := hc
      clear hc
      obtain ⟨r, n⟩ := c
      simp only at x0 x1
      have HBW : Hid (Below w.heap.size w (wr.alloc (.cells #[.int .i64 r, .int .i64 n] 38))) := hb.alloc hb.size _
      have hki : (k : Int) < (C.length : Int) := by omega
      by_cases hz : n = 0
      · subst hz
        go_wp2
        go_roundw
        case rel => exact ⟨x, k + 1, by omega, rfl, by go_num, upto_step HJ.out (HCk.out ▸ ok_zero rfl), HBW.out⟩
        case measure => simp [intOf]; omega
      · by_cases hr0 : r < 0
        · go_wp2
          go_ret
          first | exact ⟨false, rfl, (show _ → _ from fun h => by cases h), HBW.out⟩ | exact Or.inl ⟨rfl, trivial, HBW.out⟩
        by_cases hr1 : (E.length : Int) ≤ r
        · go_wp2
          go_ret
          first | exact ⟨false, rfl, (show _ → _ from fun h => by cases h), HBW.out⟩ | exact Or.inl ⟨rfl, trivial, HBW.out⟩
        obtain ⟨q, rfl⟩ : ∃ q : Nat, r = (q : Int) := ⟨r.toNat, by omega⟩
        have hq : q < E.length := by omega
        go_wp2_with fail
        refine (keyBounds_call ea ec E q _ hEl hq (HE.out.old HBW.out)).mono ?_
        rintro e W1 ⟨rfl, n1, rfl⟩
        obtain ⟨l, hl⟩ : ∃ l, l = Vc.lo E q := ⟨_, rfl⟩
        obtain ⟨h, hh⟩ : ∃ h, h = Vc.hi E q := ⟨_, rfl⟩
        rw [← hl, ← hh]
        have HL : Hid (l = Vc.lo E q) := hl
        have HH : Hid (h = Vc.hi E q) := hh
        clear hl hh hr0 hr1
        have HB1 : Hid (Below w.heap.size w ((wr.alloc (.cells #[.int .i64 (q : Int), .int .i64 n] 38)).drewN n1)) := below_drewN HBW.out n1
        by_cases h1 : l < 0
        · go_wp2
          go_ret
          exact ⟨false, rfl, (show _ → _ from fun h => by cases h), HB1.out⟩
        by_cases h2 : h < l
        · go_wp2
          go_ret
          exact ⟨false, rfl, (show _ → _ from fun h => by cases h), HB1.out⟩
        by_cases h3 : (K.length : Int) < h
        · go_wp2
          go_ret
          exact ⟨false, rfl, (show _ → _ from fun h => by cases h), HB1.out⟩
        have HOK : Hid (Vc.Ok K E (at' C k)) := by
          show Vc.Ok K E (at' C k)
          rw [← HCk.out]
          intro _
          refine ⟨by simp, by simpa using hq, ?_, ?_, ?_⟩
          · show 0 ≤ Vc.lo E (q : Int); rw [← HL.out]; omega
          · show Vc.lo E (q : Int) ≤ Vc.hi E (q : Int); rw [← HL.out, ← HH.out]; omega
          · show Vc.hi E (q : Int) ≤ _; rw [← HH.out]; omega
        go_wp2
        · go_ret
          exact ⟨false, rfl, (show _ → _ from fun h => by cases h), HB1.out⟩
        · go_roundw
          case rel => exact ⟨_, k + 1, by omega, rfl, by go_num, upto_step HJ.out HOK.out, HB1.out⟩
          case measure => simp [intOf]; omega
    · go_wp2
      go_ret
      exact ⟨true, rfl, (show _ → _ from fun _ => dom_of fun j hj => HJ.out j (by omega)), hb⟩
end Go.Proofs.Qxb6619558aDoor
