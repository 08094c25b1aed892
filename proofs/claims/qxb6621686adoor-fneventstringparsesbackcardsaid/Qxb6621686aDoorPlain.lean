import Derived.Lib.ItoaMem
namespace Go.Proofs.Qxb6621686aDoor.Ev
open Go.Lib

/-- the number that a row of decimal digits spells -/
def val (l : List UInt8) : Nat := l.foldl (fun a c => a * 10 + (c.toNat - 48)) 0

theorem val_snoc (l : List UInt8) (c : UInt8) : val (l ++ [c]) = val l * 10 + (c.toNat - 48) := by simp [val]
theorem val_take_succ (l : List UInt8) (k : Nat) (h : k < l.length) : val (l.take (k + 1)) = val (l.take k) * 10 + (l[k].toNat - 48) := by
  rw [List.take_succ_eq_append_getElem h, val_snoc]
theorem val_take_le (l : List UInt8) (k : Nat) (h : k < l.length) : val (l.take k) ≤ val (l.take (k + 1)) := by
  rw [val_take_succ l k h]; omega
theorem val_take_mono (l : List UInt8) (k : Nat) (h : k ≤ l.length) : val (l.take k) ≤ val l := by
  obtain ⟨m, hm⟩ : ∃ m, l.length = k + m := ⟨l.length - k, by omega⟩
  clear h
  induction m generalizing k with
  | zero => rw [List.take_of_length_le (by omega)]; exact Nat.le_refl _
  | succ m ih => exact Nat.le_trans (val_take_le l k (by omega)) (ih (k + 1) (by omega))

def digits (l : List UInt8) : Prop := ∀ c ∈ l, 48 ≤ c.toNat ∧ c.toNat ≤ 57

theorem ofNat_digit (d : Nat) (h : d < 10) : (UInt8.ofNat (48 + d)).toNat = 48 + d := by
  rw [UInt8.toNat_ofNat_of_lt' (by have : UInt8.size = 256 := rfl; omega)]

theorem dec_facts (u : Nat) : val (decDigits u) = u ∧ digits (decDigits u) ∧ 1 ≤ (decDigits u).length ∧ (1 ≤ u → ∀ h : 0 < (decDigits u).length, (decDigits u)[0].toNat ≠ 48) := by
  induction u using Nat.strongRecOn with
  | _ u ih =>
    by_cases h : u < 10
    · have e : decDigits u = [UInt8.ofNat (48 + u)] := decDigits_one h
      rw [e]
      refine ⟨?_, ?_, by simp, ?_⟩
      · show 0 * 10 + ((UInt8.ofNat (48 + u)).toNat - 48) = u
        rw [ofNat_digit u h]; omega
      · intro c hc
        rw [List.mem_singleton] at hc
        rw [hc, ofNat_digit u h]; omega
      · intro h1 _
        show (UInt8.ofNat (48 + u)).toNat ≠ 48
        rw [ofNat_digit u h]; omega
    · have e : decDigits u = decDigits (u / 10) ++ [UInt8.ofNat (48 + u % 10)] := by
        conv => lhs; rw [decDigits]
        rw [dif_neg h]
      obtain ⟨i1, i2, i3, i4⟩ := ih (u / 10) (by omega)
      rw [e]
      refine ⟨?_, ?_, by simp, ?_⟩
      · rw [val_snoc, i1, ofNat_digit _ (by omega)]; omega
      · intro c hc
        rw [List.mem_append, List.mem_singleton] at hc
        rcases hc with hc | hc
        · exact i2 c hc
        · rw [hc, ofNat_digit _ (by omega)]; omega
      · intro h1 h2
        rw [List.getElem_append_left (by omega)]
        exact i4 (by omega) (by omega)

/-- the text of an event -/
def evL (n : Int) : List UInt8 :=
  if n = 0 then [110, 111, 110, 101] else if n = 1 then [115, 116, 97, 114, 116, 101, 100] else if n = 2 then [99, 111, 109, 112, 108, 101, 116, 101, 100]
  else if n = 3 then [115, 116, 111, 112, 112, 101, 100] else [69, 118, 101, 110, 116, 40] ++ itoa n ++ [41]

end Go.Proofs.Qxb6621686aDoor.Ev
