/-
  THE PLAIN LAW: percent-encoding of bytes, no Go in sight.
-/
import Init
namespace Go.Proofs.Qxb6621686a.Esc

def unres (c : UInt8) : Bool := (decide (97 ≤ c) && decide (c ≤ 122)) || (decide (65 ≤ c) && decide (c ≤ 90)) || (decide (48 ≤ c) && decide (c ≤ 57)) || c == 45 || c == 46 || c == 95 || c == 126

def hexd (n : UInt8) : UInt8 := if n < 10 then 48 + n else 55 + n

def esc1 (c : UInt8) : List UInt8 := if unres c then [c] else [37, hexd (c / 16), hexd (c % 16)]

def esc (l : List UInt8) : List UInt8 := l.flatMap esc1

theorem esc_nil : esc [] = [] := rfl
theorem esc_append (a b : List UInt8) : esc (a ++ b) = esc a ++ esc b := List.flatMap_append
theorem esc_cons (a : UInt8) (b : List UInt8) : esc (a :: b) = esc1 a ++ esc b := by simp [esc]

theorem all_bytes {p : UInt8 → Prop} [DecidablePred p] (h : ∀ n : Fin 256, p (UInt8.ofNat n.val)) : ∀ c : UInt8, p c := by
  intro c
  have := h ⟨c.toNat, c.toNat_lt⟩
  simpa using this

theorem esc1_len (c : UInt8) : (esc1 c).length = 1 + 2 * (esc1 c).count 37 := by
  revert c; apply all_bytes; decide +kernel
theorem esc1_len_le (c : UInt8) : 1 ≤ (esc1 c).length ∧ (esc1 c).length ≤ 3 := by
  unfold esc1; split <;> simp
theorem esc1_len' (c : UInt8) : (esc1 c).length = 1 + (if unres c then 0 else 2) := by
  unfold esc1; split <;> simp_all
theorem esc1_esc1 (c : UInt8) : esc (esc1 c) = (esc1 c).flatMap (fun d => if d = 37 then [37, 50, 53] else [d]) := by
  revert c; apply all_bytes; decide +kernel

theorem esc_len (l : List UInt8) : (esc l).length = l.length + 2 * (esc l).count 37 := by
  induction l with
  | nil => rfl
  | cons a l ih => rw [esc_cons]; simp [List.count_append, ih, esc1_len a]; omega

theorem esc_len_le (l : List UInt8) : l.length ≤ (esc l).length ∧ (esc l).length ≤ 3 * l.length := by
  induction l with
  | nil => simp [esc_nil]
  | cons a l ih => rw [esc_cons]; have := esc1_len_le a; simp; omega

theorem esc_esc (l : List UInt8) : esc (esc l) = (esc l).flatMap (fun d => if d = 37 then [37, 50, 53] else [d]) := by
  induction l with
  | nil => rfl
  | cons a l ih => rw [esc_cons, esc_append, List.flatMap_append, ih, esc1_esc1]

/-- every byte of an escaped text: escaped again, the percent sign becomes three bytes and all else stays -/
theorem esc1_of_mem {l : List UInt8} {d : UInt8} (h : d ∈ esc l) : esc1 d = if d = 37 then [37, 50, 53] else [d] := by
  simp only [esc, List.mem_flatMap] at h
  obtain ⟨c, _, hd⟩ := h
  have : ∀ c : UInt8, ∀ d ∈ esc1 c, esc1 d = if d = 37 then [37, 50, 53] else [d] := by
    apply all_bytes; decide +kernel
  exact this c d hd

theorem esc_take_succ (l : List UInt8) (k : Nat) (h : k < l.length) : esc (l.take (k + 1)) = esc (l.take k) ++ esc1 l[k] := by
  rw [List.take_succ_eq_append_getElem h, esc_append]; simp [esc]

theorem esc_split (l : List UInt8) (k : Nat) (h : k < l.length) : esc l = esc (l.take k) ++ (esc1 l[k] ++ esc (l.drop (k + 1))) := by
  conv => lhs; rw [← List.take_append_drop k l]
  rw [esc_append, List.drop_eq_getElem_cons h, esc_cons]

theorem esc_at (l : List UInt8) (k : Nat) (h : k < l.length) (i : Nat) (hi : i < (esc1 l[k]).length) :
    (esc l)[(esc (l.take k)).length + i]? = (esc1 l[k])[i]? := by
  rw [esc_split l k h, List.getElem?_append_right (by omega)]
  rw [List.getElem?_append_left (by omega)]
  congr 1; omega

theorem esc_take_len (l : List UInt8) (k : Nat) (h : k < l.length) : (esc (l.take k)).length + (esc1 l[k]).length ≤ (esc l).length := by
  rw [esc_split l k h]; simp

theorem esc_take_lt (l : List UInt8) (k : Nat) : (esc (l.take k)).length < (esc l).length → k < l.length := by
  intro h
  rcases Nat.lt_or_ge k l.length with h' | h'
  · exact h'
  · rw [List.take_of_length_le h'] at h; omega

theorem count_take_succ (l : List UInt8) (k : Nat) (h : k < l.length) : (l.take (k + 1)).count 37 = (l.take k).count 37 + if l[k] = 37 then 1 else 0 := by
  rw [List.take_succ_eq_append_getElem h, List.count_append]
  simp [List.count_singleton]

theorem unres_iff (c : UInt8) : Esc.unres c = decide ((97 ≤ c.toNat ∧ c.toNat ≤ 122) ∨ (65 ≤ c.toNat ∧ c.toNat ≤ 90) ∨ (48 ≤ c.toNat ∧ c.toNat ≤ 57) ∨ c.toNat = 45 ∨ c.toNat = 46 ∨ c.toNat = 95 ∨ c.toNat = 126) := by
  revert c; apply all_bytes; decide +kernel
theorem unres_yes (c : UInt8) (h : unres c = true) : (97 ≤ (c.toNat : Int) ∧ (c.toNat : Int) ≤ 122) ∨ (65 ≤ (c.toNat : Int) ∧ (c.toNat : Int) ≤ 90) ∨ (48 ≤ (c.toNat : Int) ∧ (c.toNat : Int) ≤ 57) ∨ (c.toNat : Int) = 45 ∨ (c.toNat : Int) = 46 ∨ (c.toNat : Int) = 95 ∨ (c.toNat : Int) = 126 := by
  rw [unres_iff, decide_eq_true_eq] at h; omega
theorem unres_no (c : UInt8) (h : ¬ unres c = true) : ((c.toNat : Int) < 97 ∨ 122 < (c.toNat : Int)) ∧ ((c.toNat : Int) < 65 ∨ 90 < (c.toNat : Int)) ∧ ((c.toNat : Int) < 48 ∨ 57 < (c.toNat : Int)) ∧ ((c.toNat : Int) < 45 ∨ 46 < (c.toNat : Int)) ∧ ((c.toNat : Int) < 95 ∨ 95 < (c.toNat : Int)) ∧ ((c.toNat : Int) < 126 ∨ 126 < (c.toNat : Int)) := by
  rw [unres_iff, decide_eq_true_eq] at h; omega
theorem esc1_yes (c : UInt8) (h : unres c = true) : esc1 c = [c] := by simp [esc1, h]
theorem esc1_no (c : UInt8) (h : ¬ unres c = true) : esc1 c = [37, hexd (c / 16), hexd (c % 16)] := by simp [esc1, h]

/-- how many of the first k bytes are escaped -/
def nu (l : List UInt8) (k : Nat) : Nat := ((l.take k).filter fun c => !unres c).length
theorem nu_le (l : List UInt8) (k : Nat) : nu l k ≤ k := Nat.le_trans (List.length_filter_le _ _) (List.length_take_le _ _)
theorem nu_succ (l : List UInt8) (k : Nat) (h : k < l.length) : nu l (k + 1) = nu l k + if unres l[k] then 0 else 1 := by
  unfold nu
  rw [List.take_succ_eq_append_getElem h, List.filter_append, List.length_append]
  by_cases hu : unres l[k] = true <;> simp [hu]
theorem esc_len_nu (m : List UInt8) : (esc m).length = m.length + 2 * (m.filter fun c => !unres c).length := by
  induction m with
  | nil => rfl
  | cons a m ih =>
    rw [esc_cons, List.length_append, ih, esc1_len']
    by_cases hu : unres a = true <;> simp [hu] <;> omega

end Go.Proofs.Qxb6621686a.Esc
