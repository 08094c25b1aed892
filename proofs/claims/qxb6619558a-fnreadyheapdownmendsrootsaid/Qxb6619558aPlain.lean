/-
  THE PLAIN LAW: ready nodes, their order, the heap and its 'down', the sorted list. No Go in sight.
-/
import Init
namespace Go.Proofs.Qxb6619558a.Hp

/-- a node: its seconds, its tie word, its id -/
abbrev Node := Int × Int × Int

/-- 'before': by seconds, then by the tie word -/
def bef (a b : Node) : Bool := decide (a.1 < b.1) || (decide (a.1 = b.1) && decide (a.2.1 < b.2.1))
/-- 'less': by seconds, the tie word, the id -/
def lss (a b : Node) : Bool := decide (a.1 < b.1) || (decide (a.1 = b.1) && (decide (a.2.1 < b.2.1) || (decide (a.2.1 = b.2.1) && decide (a.2.2 < b.2.2))))
def le (a b : Node) : Bool := !lss b a

theorem bef_iff (a b : Node) : bef a b = true ↔ a.1 < b.1 ∨ (a.1 = b.1 ∧ a.2.1 < b.2.1) := by simp [bef]
theorem lss_iff (a b : Node) : lss a b = true ↔ a.1 < b.1 ∨ (a.1 = b.1 ∧ (a.2.1 < b.2.1 ∨ (a.2.1 = b.2.1 ∧ a.2.2 < b.2.2))) := by simp [lss]
theorem le_iff (a b : Node) : le a b = true ↔ ¬ (b.1 < a.1 ∨ (b.1 = a.1 ∧ (b.2.1 < a.2.1 ∨ (b.2.1 = a.2.1 ∧ b.2.2 < a.2.2)))) := by
  rw [← lss_iff]; simp [le]

theorem le_trans (a b c : Node) (h1 : le a b = true) (h2 : le b c = true) : le a c = true := by
  rw [le_iff] at h1 h2 ⊢; omega
theorem le_total (a b : Node) : (le a b || le b a) = true := by
  rw [Bool.or_eq_true, le_iff, le_iff]; omega
theorem le_antisymm (a b : Node) (h1 : le a b = true) (h2 : le b a = true) : a = b := by
  rw [le_iff] at h1 h2
  obtain ⟨a1, a2, a3⟩ := a
  obtain ⟨b1, b2, b3⟩ := b
  simp only [Prod.mk.injEq] at *
  omega

def Sorted (l : List Node) : Prop := l.Pairwise fun a b => le a b = true

theorem sorted_unique {a b : List Node} (ha : Sorted a) (hb : Sorted b) (h : a.Perm b) : a = b :=
  List.Perm.eq_of_pairwise (fun x y _ _ h1 h2 => le_antisymm x y h1 h2) ha hb h

/-- the node at i -/
def at' (l : List Node) (i : Nat) : Node := l.getD i (0, 0, 0)

theorem at_eq (l : List Node) (i : Nat) (h : i < l.length) : at' l i = l[i] := by
  unfold at'; rw [List.getD_eq_getElem?_getD, List.getElem?_eq_getElem h, Option.getD_some]
theorem at_set_same (l : List Node) (i : Nat) (x : Node) (h : i < l.length) : at' (l.set i x) i = x := by
  rw [at_eq _ _ (by simpa using h)]; simp
theorem at_set_other (l : List Node) (i j : Nat) (x : Node) (h : j ≠ i) : at' (l.set i x) j = at' l j := by
  unfold at'; rw [List.getD_eq_getElem?_getD, List.getD_eq_getElem?_getD, List.getElem?_set_ne (Ne.symm h)]

def IsHeap (l : List Node) : Prop := ∀ j, 1 ≤ j → j < l.length → ¬ bef (at' l j) (at' l ((j - 1) / 2)) = true
def RootOut (l : List Node) : Prop := ∀ j, 3 ≤ j → j < l.length → ¬ bef (at' l j) (at' l ((j - 1) / 2)) = true

theorem heap_rootOut {l : List Node} (h : IsHeap l) : RootOut l := fun j h3 hj => h j (by omega) hj

theorem bef_asymm {a b : Node} (h : bef a b = true) : ¬ bef b a = true := by rw [bef_iff] at *; omega
theorem bef_neg_trans {a b c : Node} (h1 : ¬ bef a b = true) (h2 : ¬ bef b c = true) : ¬ bef a c = true := by rw [bef_iff] at *; omega

/-- two entries changed round -/
theorem swap_perm (l : List Node) (i j : Nat) (hi : i < l.length) (hj : j < l.length) (hne : i ≠ j) (x : Node) :
    ((l.set i (at' l j)).set j x).Perm (l.set i x) := by
  rw [List.perm_iff_count]
  intro a
  rw [List.count_set (by simpa using hj), List.count_set hi, List.count_set hi]
  have e1 : (l.set i (at' l j))[j]'(by simpa using hj) = l[j] := by rw [List.getElem_set_ne (by omega)]
  rw [e1, at_eq l j hj]
  have p1 : (if (l[i] == a) = true then 1 else 0) ≤ l.count a := by
    split
    · rename_i h; rw [beq_iff_eq] at h; rw [← h]; exact List.count_pos_iff.2 (List.getElem_mem _)
    · omega
  have p2 : (if (l[i] == a) = true then 1 else 0) + (if (l[j] == a) = true then 1 else 0) ≤ l.count a + (if (l[j] == a) = true then 1 else 0) := by omega
  omega

/-- what the loop of 'down' keeps: 'h' with a hole at 'i' into which 'r' belongs -/
structure Inv (L : List Node) (r : Node) (h : List Node) (i : Nat) : Prop where
  len : h.length = L.length
  lt : i < L.length
  perm : (h.set i r).Perm L
  heap : RootOut L → (∀ j, 1 ≤ j → j < h.length → (j - 1) / 2 ≠ i → j ≠ i → ¬ bef (at' h j) (at' h ((j - 1) / 2)) = true) ∧
    (1 ≤ i → bef (at' h ((i - 1) / 2)) r = true) ∧ (1 ≤ i → ∀ j, 1 ≤ j → j < h.length → (j - 1) / 2 = i → ¬ bef (at' h j) (at' h ((i - 1) / 2)) = true)
  stay : IsHeap L → i = 0 ∧ h = L ∧ r = at' L 0

/-- what 'down' leaves -/
structure Post (L L' : List Node) : Prop where
  len : L'.length = L.length
  perm : L'.Perm L
  heap : RootOut L → IsHeap L'
  stay : IsHeap L → L' = L

theorem set_at_self (l : List Node) (i : Nat) (h : i < l.length) : l.set i (at' l i) = l := by
  rw [at_eq l i h]; exact List.set_getElem_self h

theorem inv_start (L : List Node) (h : 0 < L.length) : Inv L (at' L 0) L 0 where
  len := rfl
  lt := h
  perm := by rw [set_at_self L 0 h]
  heap := fun hr => ⟨fun j h1 h2 h3 _ => hr j (by omega) h2, fun h => by omega, fun h => by omega⟩
  stay := fun _ => ⟨rfl, rfl, rfl⟩

/-- the child that comes first -/
def child (h : List Node) (i : Nat) : Nat := if 2 * i + 2 < h.length ∧ bef (at' h (2 * i + 2)) (at' h (2 * i + 1)) = true then 2 * i + 2 else 2 * i + 1

theorem child_or (h : List Node) (i : Nat) (hc : 2 * i + 1 < h.length) : (child h i = 2 * i + 1 ∨ child h i = 2 * i + 2) ∧ child h i < h.length := by
  unfold child; split
  · rename_i h1; exact ⟨.inr rfl, h1.1⟩
  · exact ⟨.inl rfl, hc⟩
theorem child_min (h : List Node) (i : Nat) : ∀ j, 1 ≤ j → j < h.length → (j - 1) / 2 = i → ¬ bef (at' h j) (at' h (child h i)) = true := by
  intro j h1 h2 h3
  have hj : j = 2 * i + 1 ∨ j = 2 * i + 2 := by omega
  unfold child
  by_cases hc : 2 * i + 2 < h.length ∧ bef (at' h (2 * i + 2)) (at' h (2 * i + 1)) = true
  · rw [if_pos hc]
    rcases hj with rfl | rfl
    · exact bef_asymm hc.2
    · intro e; exact bef_asymm e e
  · rw [if_neg hc]
    rcases hj with rfl | rfl
    · intro e; exact bef_asymm e e
    · intro e; exact hc ⟨h2, e⟩

theorem inv_step {L h : List Node} {r : Node} {i : Nat} (H : Inv L r h i) (hc : 2 * i + 1 < h.length) (hb : bef (at' h (child h i)) r = true) : Inv L r (h.set i (at' h (child h i))) (child h i) := by
  obtain ⟨hco, hcl⟩ := child_or h i hc
  have hlen := H.len
  have hmin := child_min h i
  generalize hcc : child h i = c at *
  have hil : i < h.length := by have := H.lt; omega
  have hpar : (c - 1) / 2 = i := by omega
  have hne : i ≠ c := by omega
  refine ⟨by simpa using hlen, by omega, (swap_perm h i c hil hcl hne r).trans H.perm, ?_, ?_⟩
  · intro hr
    obtain ⟨ha, hb2, hc2⟩ := H.heap hr
    refine ⟨?_, ?_, ?_⟩
    · intro j h1 h2 h3 h4
      rw [List.length_set] at h2
      by_cases hji : j = i
      · subst hji
        rw [at_set_same _ _ _ hil, at_set_other _ _ _ _ (by omega)]
        exact hc2 (by omega) c (by omega) hcl hpar
      · rw [at_set_other _ _ _ _ hji]
        by_cases hp : (j - 1) / 2 = i
        · rw [hp, at_set_same _ _ _ hil]
          exact hmin j h1 h2 hp
        · rw [at_set_other _ _ _ _ hp]
          exact ha j h1 h2 hp hji
    · intro _
      rw [hpar, at_set_same _ _ _ hil]; exact hb
    · intro _ j h1 h2 h3
      rw [List.length_set] at h2
      rw [hpar, at_set_same _ _ _ hil, at_set_other _ _ _ _ (by omega), ← h3]
      exact ha j h1 h2 (by omega) (by omega)
  · intro hh
    obtain ⟨h0, hL, hroot⟩ := H.stay hh
    exfalso
    subst hL
    have := hh c (by omega) hcl
    rw [hpar, h0, ← hroot] at this
    exact this hb

theorem inv_end {L h : List Node} {r : Node} {i : Nat} (H : Inv L r h i) (hb : 2 * i + 1 < h.length → ¬ bef (at' h (child h i)) r = true) : Post L (h.set i r) := by
  have hlen := H.len
  have hil : i < h.length := by have := H.lt; omega
  have hmin := child_min h i
  refine ⟨by simpa using hlen, H.perm, ?_, ?_⟩
  · intro hr
    obtain ⟨ha, hb2, hc2⟩ := H.heap hr
    intro j h1 h2
    rw [List.length_set] at h2
    by_cases hji : j = i
    · subst hji
      rw [at_set_same _ _ _ hil, at_set_other _ _ _ _ (by omega)]
      exact bef_asymm (hb2 h1)
    · rw [at_set_other _ _ _ _ hji]
      by_cases hp : (j - 1) / 2 = i
      · rw [hp, at_set_same _ _ _ hil]
        exact bef_neg_trans (hmin j h1 h2 hp) (hb (by omega))
      · rw [at_set_other _ _ _ _ hp]
        exact ha j h1 h2 hp hji
  · intro hh
    obtain ⟨h0, hL, hroot⟩ := H.stay hh
    subst hL h0 hroot
    exact set_at_self _ _ hil

theorem post_nil {L : List Node} (h : L.length = 0) : Post L L :=
  ⟨rfl, List.Perm.refl _, fun _ j h1 h2 => by omega, fun _ => rfl⟩

/-- the root of a heap comes first -/
theorem root_min {l : List Node} (h : IsHeap l) : ∀ j, j < l.length → ¬ bef (at' l j) (at' l 0) = true := by
  intro j
  induction j using Nat.strongRecOn with
  | _ j ih =>
    intro hj
    by_cases h0 : j = 0
    · subst h0; intro e; exact bef_asymm e e
    · exact bef_neg_trans (h j (by omega) hj) (ih ((j - 1) / 2) (by omega) (by omega))

/-- the heap when its root is taken and the last node is put in its place -/
def popped (H : List Node) : List Node := (H.set 0 (at' H (H.length - 1))).take (H.length - 1)

theorem popped_len (H : List Node) : (popped H).length = H.length - 1 := by unfold popped; simp

theorem popped_perm (H : List Node) (h : 0 < H.length) : (at' H 0 :: popped H).Perm H := by
  match H, h with
  | [x], _ => simp [popped, at']
  | x :: y :: t, _ =>
    have hl : (x :: y :: t) = x :: ((y :: t).dropLast ++ [(y :: t).getLast (by simp)]) := by rw [List.dropLast_concat_getLast]
    have hz : at' (x :: y :: t) ((x :: y :: t).length - 1) = (y :: t).getLast (by simp) := by
      rw [at_eq _ _ (by simp), List.getLast_eq_getElem]
      simp
    have hp : popped (x :: y :: t) = (y :: t).getLast (by simp) :: (y :: t).dropLast := by
      unfold popped
      rw [hz, List.set_cons_zero]
      simp [List.dropLast_eq_take]
    have h0 : at' (x :: y :: t) 0 = x := rfl
    rw [hp, h0]
    conv => rhs; rw [hl]
    exact List.Perm.cons _ (by
      have := (List.perm_append_comm (l₁ := [(y :: t).getLast (by simp)]) (l₂ := (y :: t).dropLast))
      simpa using this)

theorem at_take (l : List Node) (n i : Nat) (h : i < n) : at' (l.take n) i = at' l i := by
  unfold at'; rw [List.getD_eq_getElem?_getD, List.getD_eq_getElem?_getD, List.getElem?_take, if_pos h]

theorem popped_rootOut {H : List Node} (hh : IsHeap H) : RootOut (popped H) := by
  intro j h3 hj
  rw [popped_len] at hj
  unfold popped
  rw [at_take _ _ _ (by omega), at_take _ _ _ (by omega), at_set_other _ _ _ _ (by omega), at_set_other _ _ _ _ (by omega)]
  exact hh j (by omega) (by omega)

def key (a : Node) : Int × Int := (a.1, a.2.1)
def Distinct (l : List Node) : Prop := l.Pairwise fun a b => key a ≠ key b

/-- what the popping loop keeps -/
structure Pops (L G H : List Node) : Prop where
  perm : (G ++ H).Perm L
  heap : IsHeap H
  ord : G.Pairwise fun a b => ¬ bef b a = true
  below : ∀ g ∈ G, ∀ x ∈ H, ¬ bef x g = true

theorem pops_start {L : List Node} (h : IsHeap L) : Pops L [] L :=
  ⟨List.Perm.refl _, h, List.Pairwise.nil, fun g hg => by cases hg⟩

theorem mem_at {l : List Node} {x : Node} (h : x ∈ l) : ∃ j, j < l.length ∧ at' l j = x := by
  obtain ⟨j, hj, e⟩ := List.getElem_of_mem h
  exact ⟨j, hj, by rw [at_eq l j hj, e]⟩
theorem at_mem (l : List Node) (j : Nat) (h : j < l.length) : at' l j ∈ l := by rw [at_eq l j h]; exact List.getElem_mem _

theorem pops_step {L G H H2 : List Node} (P : Pops L G H) (h : 0 < H.length) (hp : Post (popped H) H2) : Pops L (G ++ [at' H 0]) H2 := by
  have hperm : (at' H 0 :: H2).Perm H := (List.Perm.cons _ hp.perm).trans (popped_perm H h)
  have hsub : ∀ x ∈ H2, x ∈ H := fun x hx => hperm.subset (List.mem_cons_of_mem _ hx)
  refine ⟨?_, hp.heap (popped_rootOut P.heap), ?_, ?_⟩
  · have : (G ++ [at' H 0] ++ H2) = G ++ (at' H 0 :: H2) := by simp
    rw [this]
    exact (List.Perm.append_left G hperm).trans P.perm
  · rw [List.pairwise_append]
    refine ⟨P.ord, List.pairwise_singleton _ _, ?_⟩
    intro a ha b hb
    rw [List.mem_singleton] at hb
    subst hb
    exact P.below a ha _ (at_mem H 0 h)
  · intro g hg x hx
    rw [List.mem_append, List.mem_singleton] at hg
    rcases hg with hg | hg
    · exact P.below g hg x (hsub x hx)
    · subst hg
      obtain ⟨j, hj, e⟩ := mem_at (hsub x hx)
      rw [← e]
      exact root_min P.heap j hj

theorem pairwise_mono {r t : Node → Node → Prop} (h : ∀ a b, r a b → t a b) {l : List Node} (hl : l.Pairwise r) : l.Pairwise t := by
  induction hl with
  | nil => exact List.Pairwise.nil
  | cons h1 _ ih => exact List.Pairwise.cons (fun a ha => h _ _ (h1 a ha)) ih

theorem pops_end {L G S : List Node} (P : Pops L G []) (hd : Distinct L) (hs : Sorted S) (hp : S.Perm L) : G = S := by
  have hGL : G.Perm L := by simpa using P.perm
  have hdG : Distinct G := (List.Perm.pairwise_iff (fun h => Ne.symm h) hGL).2 hd
  refine sorted_unique ?_ hs (hGL.trans hp.symm)
  refine pairwise_mono ?_ (List.Pairwise.and P.ord hdG)
  intro a b ⟨h1, h2⟩
  rw [bef_iff] at h1
  rw [le_iff]
  unfold key at h2
  simp only [ne_eq, Prod.mk.injEq] at h2
  omega

/-- a sorted list whose neighbours differ has no key twice -/
theorem distinct_of_adjacent {s : List Node} (hs : Sorted s) (h : ∀ i, 1 ≤ i → i < s.length → ¬ ((at' s i).1 = (at' s (i - 1)).1 ∧ (at' s i).2.1 = (at' s (i - 1)).2.1)) : Distinct s := by
  unfold Distinct
  unfold Sorted at hs
  rw [List.pairwise_iff_getElem] at hs ⊢
  intro i j hi hj hij
  have h1 := h (i + 1) (by omega) (by omega)
  rw [Nat.add_sub_cancel, at_eq s _ (by omega), at_eq s i hi] at h1
  have a1 := hs i (i + 1) hi (by omega) (by omega)
  rw [le_iff] at a1
  unfold key
  simp only [ne_eq, Prod.mk.injEq]
  by_cases hj2 : j = i + 1
  · subst hj2; omega
  · have a2 := hs (i + 1) j (by omega) hj (by omega)
    rw [le_iff] at a2
    omega
theorem adjacent_of_distinct {s : List Node} (hs : Distinct s) : ∀ i, 1 ≤ i → i < s.length → ¬ ((at' s i).1 = (at' s (i - 1)).1 ∧ (at' s i).2.1 = (at' s (i - 1)).2.1) := by
  intro i h1 h2 e
  unfold Distinct at hs
  rw [List.pairwise_iff_getElem] at hs
  have := hs (i - 1) i (by omega) h2 (by omega)
  rw [at_eq s i h2, at_eq s (i - 1) (by omega)] at e
  apply this
  unfold key
  rw [e.1, e.2]
theorem distinct_perm {a b : List Node} (h : a.Perm b) (hd : Distinct a) : Distinct b := (List.Perm.pairwise_iff (fun h => Ne.symm h) h).1 hd

end Go.Proofs.Qxb6619558a.Hp
