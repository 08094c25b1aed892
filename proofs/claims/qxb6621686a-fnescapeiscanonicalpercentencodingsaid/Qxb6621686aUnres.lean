import Derived.Test.Qxb6621686aCommon
namespace Go.Proofs.Qxb6621686a
open Go.RowKit

/-- zzUnreserved says 'unres' -/
theorem unres_call (c : UInt8) (w : World) : Calls Try.prog 9 #[.int .u8 (c.toNat : Int)] w fun e w' => e = .returned (.bool (Esc.unres c)) ∧ w' = w := by
  by_cases hu : Esc.unres c = true
  · have hz := Esc.unres_yes c hu
    have H : Hid (Esc.unres c = true) := hu
    clear hu
    go_enter Try.func9, Try.ntmps9
    go_wp2
    all_goals
      go_ret
      rw [H.out]
      first | exact ⟨rfl, rfl⟩ | exact ⟨by simp; omega, rfl⟩
  · have hz := Esc.unres_no c hu
    have H : Hid (Esc.unres c = false) := (show Esc.unres c = false by simpa using hu)
    clear hu
    go_enter Try.func9, Try.ntmps9
    go_wp2
    all_goals
      go_ret
      rw [H.out]
      first | exact ⟨rfl, rfl⟩ | exact ⟨by simp; omega, rfl⟩
end Go.Proofs.Qxb6621686a
