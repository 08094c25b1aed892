/-
  THE PLAIN SIDE OF 'FnVCWriterAppendSplitsAtAnyCut': no Go in sight.
-/
import Derived.Lib.ItoaLen
import Derived.NoCompiler
namespace Go.Proofs.Qxb6619558aDoor
namespace Vc

abbrev Cnt := Int × Int

theorem snoc_ind {α : Type} {p : List α → Prop} (nil : p []) (snoc : ∀ l a, p l → p (l ++ [a])) (l : List α) : p l := by
  have key : ∀ m : List α, p m.reverse := by
    intro m
    induction m with
    | nil => exact nil
    | cons a m ih => rw [List.reverse_cons]; exact snoc _ _ ih
  have := key l.reverse
  rwa [List.reverse_reverse] at this

/-- where rank r's key begins and ends -/
def lo (E : List Int) (r : Int) : Int := if 0 < r then E.getD (r - 1).toNat 0 else 0
def hi (E : List Int) (r : Int) : Int := E.getD r.toNat 0

/-- the bytes K[s:t] -/
def sub (K : List UInt8) (s t : Nat) : List UInt8 := (K.drop s).take (t - s)
def key (K : List UInt8) (E : List Int) (r : Int) : List UInt8 := sub K (lo E r).toNat (hi E r).toNat
def item (K : List UInt8) (E : List Int) (c : Cnt) : List UInt8 := key K E c.1 ++ Lib.itoa c.2

/-- one count -/
def emit (K : List UInt8) (E : List Int) (acc : List UInt8) (c : Cnt) : List UInt8 :=
  if c.2 = 0 then acc else (if acc.length = 0 then acc else acc ++ [44]) ++ item K E c
/-- what stands between the braces -/
def inside (K : List UInt8) (E : List Int) (C : List Cnt) : List UInt8 := C.foldl (emit K E) []

/-- what vcDomain asks of a count -/
def Ok (K : List UInt8) (E : List Int) (c : Cnt) : Prop :=
  c.2 ≠ 0 → 0 ≤ c.1 ∧ c.1 < E.length ∧ 0 ≤ lo E c.1 ∧ lo E c.1 ≤ hi E c.1 ∧ hi E c.1 ≤ K.length
def Dom (K : List UInt8) (E : List Int) (C : List Cnt) : Prop := ∀ c ∈ C, Ok K E c

theorem itoa_pos (n : Int) : 0 < (Lib.itoa n).length := by
  unfold Lib.itoa
  split
  · simp
  · rw [Lib.decDigits_length, Lib.nDigits]; split <;> omega

theorem item_pos (K : List UInt8) (E : List Int) (c : Cnt) : 0 < (item K E c).length := by
  unfold item; rw [List.length_append]; have := itoa_pos c.2; omega

theorem inside_nil (K : List UInt8) (E : List Int) : inside K E [] = [] := rfl
theorem inside_snoc (K : List UInt8) (E : List Int) (C : List Cnt) (c : Cnt) : inside K E (C ++ [c]) = emit K E (inside K E C) c := by simp [inside, List.foldl_append]

/-- two insides joined -/
def join (a b : List UInt8) : List UInt8 := if a.length = 0 then b else if b.length = 0 then a else a ++ [44] ++ b

theorem emit_join (K : List UInt8) (E : List Int) (a b : List UInt8) (c : Cnt) : emit K E (join a b) c = join a (emit K E b c) := by
  have hp := item_pos K E c
  unfold emit join
  by_cases hc : c.2 = 0
  · simp [hc]
  · by_cases ha : a.length = 0
    · have : a = [] := List.eq_nil_of_length_eq_zero ha
      subst this
      simp [hc]
    · by_cases hb : b.length = 0
      · have : b = [] := List.eq_nil_of_length_eq_zero hb
        subst this
        simp only [hc, ha, if_false, List.length_nil, if_true, List.nil_append]
        rw [if_neg (by omega)]
      · simp only [hc, ha, hb, if_false]
        rw [if_neg (by simp), if_neg (by simp)]
        simp [List.append_assoc]

theorem fold_join (K : List UInt8) (E : List Int) (a : List UInt8) (B : List Cnt) : ∀ b, B.foldl (emit K E) (join a b) = join a (B.foldl (emit K E) b) := by
  induction B with
  | nil => intro b; rfl
  | cons c B ih => intro b; rw [List.foldl_cons, List.foldl_cons, emit_join]; exact ih _

theorem join_nil (a : List UInt8) : join a [] = a := by
  unfold join
  by_cases ha : a.length = 0
  · have : a = [] := List.eq_nil_of_length_eq_zero ha
    subst this; simp
  · rw [if_neg ha, if_pos (by rfl)]

/-- THE CUT -/
theorem inside_append (K : List UInt8) (E : List Int) (A B : List Cnt) : inside K E (A ++ B) = join (inside K E A) (inside K E B) := by
  unfold inside
  rw [List.foldl_append]
  have := fold_join K E (A.foldl (emit K E) []) B []
  rw [join_nil] at this
  exact this

/-- spelledLen's two running numbers -/
def lenStep (E : List Int) (p : Int × Int) (c : Cnt) : Int × Int :=
  if c.2 = 0 then p else (p.1 + hi E c.1 - lo E c.1 + (Lib.itoa c.2).length, p.2 + 1)
def lens (E : List Int) (lb : Int) (C : List Cnt) : Int × Int := C.foldl (lenStep E) (lb + 2, 0)
def lenEnd (p : Int × Int) : Int := if 1 < p.2 then p.1 + p.2 - 1 else p.1

theorem lens_snoc (E : List Int) (lb : Int) (C : List Cnt) (c : Cnt) : lens E lb (C ++ [c]) = lenStep E (lens E lb C) c := by simp [lens, List.foldl_append]

theorem key_len {K : List UInt8} {E : List Int} {c : Cnt} (h : Ok K E c) (hc : c.2 ≠ 0) : ((key K E c.1).length : Int) = hi E c.1 - lo E c.1 := by
  obtain ⟨h1, h2, h3, h4, h5⟩ := h hc
  unfold key sub
  rw [List.length_take, List.length_drop]
  omega

/-- what the running numbers are: the length of b, the two braces, the inside, less the commas -/
theorem lens_inv (K : List UInt8) (E : List Int) (lb : Int) (C : List Cnt) (h : Dom K E C) :
    0 ≤ (lens E lb C).2 ∧ (lens E lb C).2 ≤ C.length ∧ ((lens E lb C).2 = 0 → (inside K E C).length = 0 ∧ (lens E lb C).1 = lb + 2) ∧
    (1 ≤ (lens E lb C).2 → 0 < (inside K E C).length ∧ lb + 2 + ((inside K E C).length : Int) = (lens E lb C).1 + (lens E lb C).2 - 1) := by
  induction C using snoc_ind with
  | nil => simp [lens, inside]
  | snoc C c ih =>
    have ih := ih (fun x hx => h x (by simp [hx]))
    have hc := h c (by simp)
    rw [lens_snoc, inside_snoc]
    unfold lenStep emit
    by_cases hz : c.2 = 0
    · rw [if_pos hz, if_pos hz]
      rw [List.length_append]
      refine ⟨ih.1, by have := ih.2.1; simp; omega, ih.2.2⟩
    · rw [if_neg hz, if_neg hz]
      have hk := key_len hc hz
      have hil : ((item K E c).length : Int) = hi E c.1 - lo E c.1 + (Lib.itoa c.2).length := by unfold item; rw [List.length_append]; omega
      have hip := item_pos K E c
      obtain ⟨i1, i2, i3, i4⟩ := ih
      refine ⟨by show 0 ≤ _ + 1; omega, by show _ + 1 ≤ _; rw [List.length_append]; simp; omega, fun h0 => ?_, fun _ => ?_⟩
      · have h0 : (lens E lb C).2 + 1 = 0 := h0
        omega
      · show 0 < _ ∧ _ = ((lens E lb C).1 + hi E c.1 - lo E c.1 + (Lib.itoa c.2).length) + ((lens E lb C).2 + 1) - 1
        rw [List.length_append]
        by_cases h0 : (lens E lb C).2 = 0
        · obtain ⟨j1, j2⟩ := i3 h0
          rw [if_pos j1]
          omega
        · obtain ⟨j1, j2⟩ := i4 (by omega)
          rw [if_neg (by omega), List.length_append, List.length_singleton]
          omega

theorem lens_end (K : List UInt8) (E : List Int) (lb : Int) (C : List Cnt) (h : Dom K E C) : lenEnd (lens E lb C) = lb + 2 + (inside K E C).length := by
  obtain ⟨i1, i2, i3, i4⟩ := lens_inv K E lb C h
  unfold lenEnd
  by_cases h0 : (lens E lb C).2 = 0
  · obtain ⟨j1, j2⟩ := i3 h0
    rw [if_neg (by omega)]; omega
  · obtain ⟨j1, j2⟩ := i4 (by omega)
    split <;> omega

/-- no great lengths -/
theorem item_le {K : List UInt8} {E : List Int} {c : Cnt} (h : Ok K E c) (hc : c.2 ≠ 0) (hK : K.length ≤ 65536) (h0 : -9223372036854775808 ≤ c.2) (h1 : c.2 ≤ 9223372036854775807) : (item K E c).length ≤ 65557 := by
  have hk := key_len h hc
  obtain ⟨_, _, a3, a4, a5⟩ := h hc
  have := Lib.itoa_length_le c.2 h0 h1
  unfold item; rw [List.length_append]; omega

theorem inside_le {K : List UInt8} {E : List Int} {C : List Cnt} (h : Dom K E C) (hK : K.length ≤ 65536) (hC : ∀ c ∈ C, -9223372036854775808 ≤ c.2 ∧ c.2 ≤ 9223372036854775807) : (inside K E C).length ≤ C.length * 65558 := by
  induction C using snoc_ind with
  | nil => simp [inside]
  | snoc C c ih =>
    have ih := ih (fun x hx => h x (by simp [hx])) (fun x hx => hC x (by simp [hx]))
    rw [inside_snoc, List.length_append, List.length_singleton, Nat.add_mul, Nat.one_mul]
    generalize C.length * 65558 = M at ih ⊢
    unfold emit
    by_cases hz : c.2 = 0
    · rw [if_pos hz]; omega
    · have hi := item_le (h c (by simp)) hz hK (hC c (by simp)).1 (hC c (by simp)).2
      rw [if_neg hz, List.length_append]
      split
      · omega
      · rw [List.length_append, List.length_singleton]; omega

end Vc
end Go.Proofs.Qxb6619558aDoor
