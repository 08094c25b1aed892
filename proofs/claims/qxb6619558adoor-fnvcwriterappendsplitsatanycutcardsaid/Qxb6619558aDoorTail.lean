/-
  WHAT THE LAW's LAST PART STANDS ON.
-/
import Derived.Test.Qxb6619558aDoorZz
namespace Go.Proofs.Qxb6619558aDoor
open Go.RowKit

theorem RowAt.take {w : World} {a : Option Addr} {cs : List Value} (h : RowAt w a cs) (n : Nat) : RowAt w a (cs.take n) := by
  intro i hi
  rw [List.length_take] at hi
  obtain ⟨b, off, e, hlt, hc⟩ := h i (by omega)
  exact ⟨b, off, e, hlt, by rw [List.getElem?_take, if_pos (by omega)]; exact hc⟩
theorem RowAt.drop {w : World} {g : Nat} {cs : List Value} (h : RowAt w (some ⟨g, 0, none⟩) cs) (n : Nat) : RowAt w (some ⟨g, n, none⟩) (cs.drop n) := by
  intro i hi
  rw [List.length_drop] at hi
  obtain ⟨b, off, e, hlt, hc⟩ := h (n + i) (by omega)
  cases e
  exact ⟨g, n, rfl, hlt, by rw [List.getElem?_drop, ← hc, Nat.zero_add]⟩
theorem ranks_take {w : World} {a : Option Addr} {C : List Vc.Cnt} (h : IntsAt w a (ranks C)) (n : Nat) : IntsAt w a (ranks (C.take n)) := by
  have := RowAt.take h n
  have e : icells (ranks (C.take n)) = (icells (ranks C)).take n := by simp [icells, ranks]
  show RowAt _ _ _
  rw [e]; exact this
theorem ns_take {w : World} {a : Option Addr} {C : List Vc.Cnt} (h : IntsAt w a (ns C)) (n : Nat) : IntsAt w a (ns (C.take n)) := by
  have := RowAt.take h n
  have e : icells (ns (C.take n)) = (icells (ns C)).take n := by simp [icells, ns]
  show RowAt _ _ _
  rw [e]; exact this

theorem drop_addr {w : World} {g : Nat} {cs : List Value} {N n : Nat} (h : RowAt w (some ⟨g, 0, none⟩) cs) (hN : cs.length = N) : RowAt w (if N = n then some ⟨g, 0, none⟩ else some ⟨g, n, none⟩) (cs.drop n) := by
  by_cases e : N = n
  · rw [if_pos e]
    intro i hi
    rw [List.length_drop] at hi
    omega
  · rw [if_neg e]; exact h.drop n
/-- where 'ranks[k:]' lies -/
theorem ranks_drop {w : World} {g : Nat} {C : List Vc.Cnt} (h : IntsAt w (some ⟨g, 0, none⟩) (ranks C)) (n : Nat) : ∃ ra : Option Addr, (if C.length = n then some (⟨g, 0, none⟩ : Addr) else some ⟨g, n, none⟩) = ra ∧ Hid (IntsAt w ra (ranks (C.drop n))) := by
  refine ⟨_, rfl, ?_⟩
  have := drop_addr (n := n) h (by rw [icells_len, ranks_len])
  have e : icells (ranks (C.drop n)) = (icells (ranks C)).drop n := by simp [icells, ranks]
  show RowAt _ _ _
  rw [e]; exact this
theorem ns_drop {w : World} {g : Nat} {C : List Vc.Cnt} (h : IntsAt w (some ⟨g, 0, none⟩) (ns C)) (n : Nat) : ∃ ra : Option Addr, (if C.length = n then some (⟨g, 0, none⟩ : Addr) else some ⟨g, n, none⟩) = ra ∧ Hid (IntsAt w ra (ns (C.drop n))) := by
  refine ⟨_, rfl, ?_⟩
  have := drop_addr (n := n) h (by rw [icells_len, ns_len])
  have e : icells (ns (C.drop n)) = (icells (ns C)).drop n := by simp [icells, ns]
  show RowAt _ _ _
  rw [e]; exact this

/-- an empty buffer with room -/
theorem buf_new (w : World) (N : Nat) (hN : N ≤ 1000000000000) : Buf w.heap.size (w.alloc (.cells (List.replicate N (Value.int .u8 0)).toArray 5)) w.heap.size N [] :=
  World.ownsRow_made w _ N (Nat.le_refl _) (by unfold maxLen; omega) (by simp)

/-- 'append(buf, x...)', x nil or not -/
theorem wpList_bufo {w : World} {ops : Array Oper} {rest : List Oper} {o : Oper} {a : Act} {Q : Exit → Act → World → Prop} (hgd : o.guard = none) (s x : Operand)
    (ho : o.op = .call { callee := .builtin .append, args := #[s, x], argTypes := #[22, 22] })
    (B g0 cap0 : Nat) (l news : List UInt8) (hs : a.eval s = .slice (some ⟨g0, 0, none⟩) l.length cap0) (hbuf : Buf B w g0 cap0 l) (xa : Option Addr) (hx : a.eval x = .slice xa news.length news.length)
    (hxa : (xa = none ∧ news.length = 0) ∨ ∃ g, xa = some ⟨g, 0, none⟩)
    (hnews : BytesAt w xa news) (hlim : l.length + news.length ≤ 100000000000000)
    (h : ∀ (X : List UInt8) (g cap : Nat) (w' : World), Hid (X = l ++ news) → Hid (Buf B w' g cap X) → Hid (w.grownBy w' (some g0)) → wpList Tryd.prog ops Q rest (a.put o.dst (.slice (some ⟨g, 0, none⟩) X.length cap)) w') :
    wpList Tryd.prog ops Q (o :: rest) a w := by
  rcases hxa with ⟨rfl, h0⟩ | ⟨g, rfl⟩
  · have hn : news = [] := List.eq_nil_of_length_eq_zero h0
    subst hn
    refine wpList_buf_none hgd s x ho B g0 cap0 l hs hbuf hx ?_
    exact h l g0 cap0 w (show _ = _ by simp) hbuf ⟨rfl, rfl, rfl, Nat.le_refl _, fun _ _ _ => rfl⟩
  · exact wpList_buf hgd s x ho B g0 cap0 l news hs hbuf _ news.length hx (fun j u hj => holds_bytes hnews (Below.refl _ _) _ rfl j u hj) hlim h

/-- the bytes between the braces -/
theorem inner_cells {w w' : World} {g : Nat} {X I : List UInt8} (h : BytesAt w (some ⟨g, 0, none⟩) X) (hX : X = [123] ++ I ++ [125]) (hb : Below w.heap.size w w') :
    ∀ j u, (bcells I)[j]? = some u → w'.cell? ((⟨g, 1, none⟩ : Addr).add j) = some u := by
  intro j u hj
  have hjl : j < I.length := by
    have := (List.getElem?_eq_some_iff.1 hj).1
    rwa [bcells_len] at this
  subst hX
  obtain ⟨b', off, e', hlt, hc⟩ := h (1 + j) (by rw [bcells_len]; simp; omega)
  cases e'
  rw [Nat.zero_add] at hc
  rw [Addr.add_lit, hb.cell (p := ⟨g, 1 + j, none⟩) hlt, hc]
  have e : bcells ([123] ++ I ++ [125]) = Value.int .u8 123 :: (bcells I ++ [Value.int .u8 125]) := by simp [bcells, Lib.byteCells]
  rw [e, Nat.add_comm 1 j, List.getElem?_cons_succ, List.getElem?_append_left (by rw [bcells_len]; exact hjl)]
  exact hj

theorem brace_len {X I : List UInt8} (h : X = [] ++ [123] ++ I ++ [125]) : X.length = I.length + 1 + 1 := by
  subst h; simp
theorem brace_first {X I : List UInt8} (h : X = [] ++ [123] ++ I ++ [125]) : X.getD 0 0 = 123 := by subst h; rfl
theorem brace_last {X I : List UInt8} (h : X = [] ++ [123] ++ I ++ [125]) : X.getD (X.length - 1) 0 = 125 := by
  rw [brace_len h]
  subst h
  simp [List.getD_eq_getElem?_getD]

theorem join_comma {a b : List UInt8} (h1 : 0 < a.length) (h2 : 0 < b.length) : Vc.join a b = a ++ [44] ++ b := by
  unfold Vc.join; rw [if_neg (by omega), if_neg (by omega)]
theorem join_plain {a b : List UInt8} (h : ¬ (0 < a.length ∧ 0 < b.length)) : Vc.join a b = a ++ b := by
  unfold Vc.join
  by_cases h1 : a.length = 0
  · rw [if_pos h1, List.eq_nil_of_length_eq_zero h1]; rfl
  · have h2 : b.length = 0 := by omega
    rw [if_neg h1, if_pos h2, List.eq_nil_of_length_eq_zero h2, List.append_nil]

theorem cut_eq {K : List UInt8} {E : List Int} {C : List Vc.Cnt} {IL IR : List UInt8} (k : Nat) (h1 : IL = Vc.inside K E (C.take k)) (h2 : IR = Vc.inside K E (C.drop k)) : Vc.inside K E C = Vc.join IL IR := by
  subst h1 h2
  rw [← Vc.inside_append, List.take_append_drop]
end Go.Proofs.Qxb6619558aDoor
