import Derived.Test.Qxb6621686aDoorShelf
import Derived.Test.Qxb6621686aDoorPlain
import Derived.Lib.ItoaLen
import Derived.Lib.AppendIntMem
import Derived.WalkKit
import Derived.BigCall
import Derived.WalkSpells
namespace Go.Proofs.Qxb6621686aDoor
open Go.RowKit

set_option maxRecDepth 100000 in
/-- Event.String: the text 'evL n' -/
theorem string_call (n : Int) (h0 : -9223372036854775808 ≤ n) (h1 : n ≤ 9223372036854775807) (w : World) (htab : Lib.TabIs Tryd.prog w powName .u64 Lib.pow10Tab) :
    Calls Tryd.prog 4 #[.int .i64 n] w fun e w' => ∃ s : ByteArray, e = .returned (.string s) ∧ Hid (s.data.toList = Ev.evL n) ∧ Below w.heap.size w w' := by
  have HT : Hid (Lib.TabIs Tryd.prog w powName .u64 Lib.pow10Tab) := htab
  clear htab
  by_cases e0 : n = 0
  · subst e0
    go_enter Tryd.func4, Tryd.ntmps4
    go_wp2
    go_ret
    exact ⟨_, rfl, rfl, Below.refl _ _⟩
  by_cases e1 : n = 1
  · subst e1
    go_enter Tryd.func4, Tryd.ntmps4
    go_wp2
    go_ret
    exact ⟨_, rfl, rfl, Below.refl _ _⟩
  by_cases e2 : n = 2
  · subst e2
    go_enter Tryd.func4, Tryd.ntmps4
    go_wp2
    go_ret
    exact ⟨_, rfl, rfl, Below.refl _ _⟩
  by_cases e3 : n = 3
  · subst e3
    go_enter Tryd.func4, Tryd.ntmps4
    go_wp2
    go_ret
    exact ⟨_, rfl, rfl, Below.refl _ _⟩
  have b0 : (n == 0) = false := by simpa using e0
  have b1 : (n == 1) = false := by simpa using e1
  have b2 : (n == 2) = false := by simpa using e2
  have b3 : (n == 3) = false := by simpa using e3
  have HE : Hid (Ev.evL n = [69, 118, 101, 110, 116, 40] ++ Lib.itoa n ++ [41]) := (show _ = _ by unfold Ev.evL; rw [if_neg e0, if_neg e1, if_neg e2, if_neg e3])
  have hle := Lib.itoa_length_le n h0 h1
  clear e0 e1 e2 e3
  obtain ⟨t, ht⟩ : ∃ t : ByteArray, t = ⟨(Lib.itoa n).toArray⟩ := ⟨_, rfl⟩
  have hts : t.size ≤ 21 := by rw [ht]; simpa [ByteArray.size] using hle
  have HT2 : Hid (t.data.toList = Lib.itoa n) := (show _ = _ by rw [ht])
  have HT3 : Hid (t = ⟨(Lib.itoa n).toArray⟩) := ht
  clear ht hle
  go_enter Tryd.func4, Tryd.ntmps4
  go_wp2_with (go_at_call 6; refine (Tryd.strconv_Itoa n h0 h1 _ HT.out).mono ?_; rw [← HT3.out]; rintro e w' ⟨rfl, k, os, rfl⟩)
  go_ret
  refine ⟨_, rfl, ?_, Lib.below_grow _ _ (Nat.le_refl _) _ _⟩
  show _ = _
  rw [HE.out]
  simp [ByteArray.data_append, HT2.out]
end Go.Proofs.Qxb6621686aDoor
