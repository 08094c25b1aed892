/-
  THE PLAIN LAW OF THE BOTTOM-UP MERGE SORT: what its three loops keep. No Go in sight.
-/
import Derived.Test.Qxb6619558aPlain
namespace Go.Proofs.Qxb6619558a.Hp

def Blocks (w : Nat) (S : List Node) : Prop := ∀ b, Sorted ((S.drop (b * w)).take w)

/-- the outer loop -/
structure Outer (A S : List Node) (w : Nat) : Prop where
  perm : S.Perm A
  blocks : Blocks w S
  pos : 1 ≤ w

theorem outer_start (A : List Node) : Outer A A 1 := by
  refine ⟨List.Perm.refl _, fun b => ?_, Nat.le_refl _⟩
  unfold Sorted
  match h : (A.drop (b * 1)).take 1 with
  | [] => exact List.Pairwise.nil
  | [x] => exact List.pairwise_singleton _ _
  | x :: y :: t =>
    have := congrArg List.length h
    rw [List.length_take] at this
    simp at this
    omega

theorem outer_end {A S : List Node} {w : Nat} (H : Outer A S w) (h : S.length ≤ w) : Sorted S := by
  have := H.blocks 0
  rw [Nat.zero_mul, List.drop_zero, List.take_of_length_le h] at this
  exact this

/-- the middle loop: the first t pairs of blocks are merged into D -/
structure Middle (S D : List Node) (w t : Nat) : Prop where
  len : D.length = S.length
  perm : (D.take (t * (2 * w))).Perm (S.take (t * (2 * w)))
  sorted : ∀ b, b < t → Sorted ((D.drop (b * (2 * w))).take (2 * w))

theorem middle_start (S D : List Node) (w : Nat) (h : D.length = S.length) : Middle S D w 0 :=
  ⟨h, by simp, fun b hb => by omega⟩

theorem middle_end {A S D : List Node} {w t : Nat} (O : Outer A S w) (H : Middle S D w t) (h : S.length ≤ t * (2 * w)) : Outer A D (w * 2) := by
  have hp := H.perm
  rw [List.take_of_length_le (by rw [H.len]; exact h), List.take_of_length_le h] at hp
  refine ⟨hp.trans O.perm, fun b => ?_, by have := O.pos; omega⟩
  rw [Nat.mul_comm w 2]
  by_cases hb : b < t
  · exact H.sorted b hb
  · have : S.length ≤ b * (2 * w) := Nat.le_trans h (Nat.mul_le_mul_right _ (by omega))
    rw [List.drop_eq_nil_of_le (by rw [H.len]; exact this), List.take_nil]
    exact List.Pairwise.nil

/-- what is still to be merged -/
def rest (S : List Node) (mid hi i j : Nat) : List Node := ((S.take mid).drop i).merge ((S.take hi).drop j) le

theorem drop_take_cons (S : List Node) (m i : Nat) (h : i < m) (hl : i < S.length) : (S.take m).drop i = at' S i :: (S.take m).drop (i + 1) := by
  rw [List.drop_eq_getElem_cons (by simp; omega), at_eq S i hl, List.getElem_take]
theorem drop_take_nil (S : List Node) (m i : Nat) (h : m ≤ i) : (S.take m).drop i = [] := by
  apply List.drop_eq_nil_of_le; rw [List.length_take]; omega

theorem rest_left (S : List Node) (mid hi i j : Nat) (hi1 : i < mid) (hil : i < S.length) (h : hi ≤ j ∨ (j < S.length ∧ le (at' S i) (at' S j) = true)) :
    rest S mid hi i j = at' S i :: rest S mid hi (i + 1) j := by
  unfold rest
  rw [drop_take_cons S mid i hi1 hil]
  by_cases hj : hi ≤ j
  · rw [drop_take_nil S hi j hj, List.merge_right, List.merge_right]
  · rcases h with h | ⟨hjl, h⟩
    · omega
    · rw [drop_take_cons S hi j (by omega) hjl, List.cons_merge_cons, if_pos h]
theorem rest_right (S : List Node) (mid hi i j : Nat) (hj1 : j < hi) (hjl : j < S.length) (h : mid ≤ i ∨ (i < S.length ∧ ¬ le (at' S i) (at' S j) = true)) :
    rest S mid hi i j = at' S j :: rest S mid hi i (j + 1) := by
  unfold rest
  rw [drop_take_cons S hi j hj1 hjl]
  by_cases hi : mid ≤ i
  · rw [drop_take_nil S mid i hi, List.nil_merge, List.nil_merge]
  · rcases h with h | ⟨hil, h⟩
    · omega
    · rw [drop_take_cons S mid i (by omega) hil, List.cons_merge_cons, if_neg h]

/-- the inner loop: M is the merge of the two blocks -/
structure Inner (S D D' M : List Node) (lo mid hi k i j : Nat) : Prop where
  len : D'.length = S.length
  head : D'.take lo = D.take lo
  done : (D'.drop lo).take (k - lo) ++ rest S mid hi i j = M
  ilo : lo ≤ i
  imid : i ≤ mid
  jmid : mid ≤ j
  jhi : j ≤ hi
  cnt : (i - lo) + (j - mid) = k - lo
  klo : lo ≤ k
  khi : k ≤ hi
  hlen : hi ≤ S.length

theorem inner_start (S D : List Node) (lo mid hi : Nat) (h : D.length = S.length) (h1 : lo ≤ mid) (h2 : mid ≤ hi) (h3 : hi ≤ S.length) : Inner S D D (rest S mid hi lo mid) lo mid hi lo lo mid :=
  ⟨h, rfl, by simp, Nat.le_refl _, h1, Nat.le_refl _, h2, by omega, Nat.le_refl _, by omega, h3⟩

theorem take_set_snoc (D : List Node) (lo k : Nat) (x : Node) (h1 : lo ≤ k) (h2 : k < D.length) : ((D.set k x).drop lo).take (k + 1 - lo) = (D.drop lo).take (k - lo) ++ [x] := by
  apply List.ext_getElem?
  intro m
  have hl : ((D.drop lo).take (k - lo)).length = k - lo := by simp; omega
  rw [List.getElem?_take, List.getElem?_drop]
  by_cases hm : m < k - lo
  · rw [if_pos (by omega), List.getElem?_append_left (by omega), List.getElem?_take, if_pos hm, List.getElem?_drop, List.getElem?_set_ne (by omega)]
  · rw [List.getElem?_append_right (by omega), hl]
    by_cases hm2 : m = k - lo
    · rw [if_pos (by omega), show lo + m = k by omega, List.getElem?_set_self h2, hm2]
      simp
    · rw [if_neg (by omega), show m - (k - lo) = (m - (k - lo) - 1) + 1 by omega]
      simp

theorem inner_left {S D D' M : List Node} {lo mid hi k i j : Nat} (H : Inner S D D' M lo mid hi k i j) (hk : k < hi) (h : hi ≤ j ∨ (i < mid ∧ le (at' S i) (at' S j) = true)) :
    i < S.length ∧ i < mid ∧ Inner S D (D'.set k (at' S i)) M lo mid hi (k + 1) (i + 1) j := by
  obtain ⟨len, head, done, ilo, imid, jmid, jhi, cnt, klo, khi, hlen⟩ := H
  have him : i < mid := by
    rcases h with h | h
    · omega
    · exact h.1
  have hil : i < S.length := by omega
  refine ⟨hil, him, by simpa using len, ?_, ?_, by omega, by omega, jmid, jhi, by omega, by omega, by omega, hlen⟩
  · rw [List.take_set_of_le klo]; exact head
  · rw [take_set_snoc D' lo k _ klo (by omega), List.append_assoc, List.singleton_append, ← rest_left S mid hi i j him hil]
    · exact done
    · rcases h with h | h
      · exact .inl h
      · by_cases hj : hi ≤ j
        · exact .inl hj
        · exact .inr ⟨by omega, h.2⟩

theorem inner_right {S D D' M : List Node} {lo mid hi k i j : Nat} (H : Inner S D D' M lo mid hi k i j) (hk : k < hi) (hj : j < hi) (h : mid ≤ i ∨ ¬ le (at' S i) (at' S j) = true) :
    j < S.length ∧ Inner S D (D'.set k (at' S j)) M lo mid hi (k + 1) i (j + 1) := by
  obtain ⟨len, head, done, ilo, imid, jmid, jhi, cnt, klo, khi, hlen⟩ := H
  have hjl : j < S.length := by omega
  refine ⟨hjl, by simpa using len, ?_, ?_, ilo, imid, by omega, by omega, by omega, by omega, by omega, hlen⟩
  · rw [List.take_set_of_le klo]; exact head
  · rw [take_set_snoc D' lo k _ klo (by omega), List.append_assoc, List.singleton_append, ← rest_right S mid hi i j hj hjl]
    · exact done
    · rcases h with h | h
      · exact .inl h
      · exact .inr ⟨by omega, h⟩

theorem inner_end {S D D' M : List Node} {lo mid hi k i j : Nat} (H : Inner S D D' M lo mid hi k i j) (hk : hi ≤ k) : (D'.drop lo).take (hi - lo) = M := by
  obtain ⟨len, head, done, ilo, imid, jmid, jhi, cnt, klo, khi, hlen⟩ := H
  have hkk : k = hi := by omega
  subst hkk
  rw [← done]
  unfold rest
  rw [drop_take_nil S mid i (by omega), drop_take_nil S k j (by omega), List.nil_merge, List.append_nil]

theorem take_eq_of {E : List Node} {a b : Nat} (h : min a E.length = min b E.length) : E.take a = E.take b := by
  rw [List.take_eq_take_min (i := a), List.take_eq_take_min (i := b), h]

/-- one pair of blocks more -/
theorem middle_step {A S D D' : List Node} {w t mid hi : Nat} (O : Outer A S w) (H : Middle S D w t) (hlo : t * (2 * w) < S.length)
    (hmid : mid = min (t * (2 * w) + w) S.length) (hhi : hi = min (t * (2 * w) + 2 * w) S.length)
    (hl : D'.length = S.length) (hh : D'.take (t * (2 * w)) = D.take (t * (2 * w))) (hd : (D'.drop (t * (2 * w))).take (hi - t * (2 * w)) = rest S mid hi (t * (2 * w)) mid) : Middle S D' w (t + 1) := by
  have hw := O.pos
  have elo : (t + 1) * (2 * w) = t * (2 * w) + 2 * w := by rw [Nat.add_mul, Nat.one_mul]
  have e1 : (2 * t) * w = t * (2 * w) := by rw [Nat.mul_comm 2 t, Nat.mul_assoc]
  have e2 : (2 * t + 1) * w = t * (2 * w) + w := by rw [Nat.add_mul, e1, Nat.one_mul]
  have b1 := O.blocks (2 * t)
  have b2 := O.blocks (2 * t + 1)
  rw [e1] at b1
  rw [e2] at b2
  have hbl : ∀ b, b < t → (b + 1) * (2 * w) ≤ t * (2 * w) := fun b hb => Nat.mul_le_mul_right _ hb
  generalize hloe : t * (2 * w) = lo at *
  -- the two blocks
  have x1 : (S.take mid).drop lo = (S.drop lo).take w := by
    rw [List.drop_take]; exact take_eq_of (by simp; omega)
  have x2 : (S.take hi).drop mid = (S.drop (lo + w)).take w := by
    by_cases hc : lo + w ≤ S.length
    · have : mid = lo + w := by omega
      rw [this, List.drop_take]; exact take_eq_of (by simp; omega)
    · rw [drop_take_nil S hi mid (by omega), List.drop_eq_nil_of_le (by omega), List.take_nil]
  have x3 : (D'.drop lo).take (2 * w) = ((S.drop lo).take w).merge ((S.drop (lo + w)).take w) le := by
    rw [← x1, ← x2]
    show _ = rest S mid hi lo mid
    rw [← hd]; exact take_eq_of (by simp; omega)
  refine ⟨hl, ?_, ?_⟩
  · rw [elo, List.take_add, x3, hh, List.take_add]
    have x4 : (S.drop lo).take (2 * w) = (S.drop lo).take w ++ (S.drop (lo + w)).take w := by
      rw [show 2 * w = w + w by omega, List.take_add, List.drop_drop]
    rw [x4]
    exact List.Perm.append (hloe ▸ H.perm) (List.merge_perm_append le)
  · intro b hb
    by_cases hbt : b < t
    · have := H.sorted b hbt
      have hle := hbl b hbt
      rw [Nat.add_mul, Nat.one_mul] at hle
      have cut : ∀ E : List Node, (E.drop (b * (2 * w))).take (2 * w) = ((E.take lo).drop (b * (2 * w))).take (2 * w) := by
        intro E
        rw [List.drop_take, List.take_take, Nat.min_eq_left (by omega)]
      rw [cut] at this ⊢
      rw [hh]; exact this
    · have hbe : b = t := by omega
      rw [hbe, hloe, x3]
      exact List.pairwise_merge le_trans le_total _ _ b1 b2

end Go.Proofs.Qxb6619558a.Hp
