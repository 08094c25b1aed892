/-
  THE BUFFER THAT GROWS: 'append' in terms of bytes.
-/
import Derived.Test.Qxb6619558aDoorSpell
import Derived.Test.Qxb6619558aDoorShelf
import Derived.ArgAppend
import Derived.Laws.AppendOwnNone
import Derived.Deep.RegionHeld3
import Derived.Deep.AppendLies
namespace Go.Proofs.Qxb6619558aDoor
open Go.RowKit

/-- a slice of the call's own, at blocks from B on, that holds the bytes l -/
def Buf (B : Nat) (w : World) (g cap : Nat) (l : List UInt8) : Prop := w.ownsRow B 5 1 (.slice (some ⟨g, 0, none⟩) l.length cap) l.length (bcells l)

theorem Buf.alloc {B : Nat} {w : World} {g cap : Nat} {l : List UInt8} (h : Buf B w g cap l) (o : Obj) : Buf B (w.alloc o) g cap l := World.ownsRow.alloc h o
theorem Buf.drew {B : Nat} {w : World} {g cap : Nat} {l : List UInt8} (h : Buf B w g cap l) : Buf B w.drew g cap l := h
theorem Buf.lt {B : Nat} {w : World} {g cap : Nat} {l : List UInt8} (h : Buf B w g cap l) : B ≤ g ∧ g < w.heap.size := World.ownsRow.lt h g rfl
theorem Buf.block {B : Nat} {w : World} {g cap : Nat} {l : List UInt8} (h : Buf B w g cap l) : ∃ cur, w.heap[g]? = some (.cells cur 5 (0, 0)) := by
  rcases h.2 with ⟨h', _⟩ | ⟨g', cap', cur, h', _, hg, _⟩
  · cases h'
  · cases h'
    exact ⟨cur, hg⟩
theorem Buf.cap {B : Nat} {w : World} {g cap : Nat} {l : List UInt8} (h : Buf B w g cap l) : l.length ≤ cap := by
  rcases h.2 with ⟨h', _⟩ | ⟨g', cap', cur, h', _, _, hc, _⟩
  · cases h'
  · cases h'
    exact hc
theorem Buf.row {B : Nat} {w : World} {g cap : Nat} {l : List UInt8} (h : Buf B w g cap l) : BytesAt w (some ⟨g, 0, none⟩) l := by
  intro i hi
  refine ⟨g, 0, rfl, h.lt.2, ?_⟩
  have hi' : i < l.length := by rwa [bcells_len] at hi
  have := World.ownsRow.cells h (g := g) rfl i _ (bcells_at l i hi')
  rw [Addr.add_lit] at this
  rw [bcells_at l i hi', this]
theorem Buf.le {B B' : Nat} {w : World} {g cap : Nat} {l : List UInt8} (h : Buf B w g cap l) (hB : B' ≤ B) : Buf B' w g cap l := by
  refine ⟨h.1, ?_⟩
  rcases h.2 with h' | ⟨g', cap', cur, h1, h2, h3⟩
  · exact .inl h'
  · exact .inr ⟨g', cap', cur, h1, by omega, h3⟩

theorem bcells_one (l : List UInt8) : ∀ v ∈ bcells l, v.oneCell' = true := by
  intro v hv
  simp only [bcells, Lib.byteCells, List.mem_map] at hv
  obtain ⟨b, _, rfl⟩ := hv
  rfl

theorem grown_below {B g : Nat} {w w' : World} (h : w.grownBy w' (some g)) (hB : B ≤ g) (hs : B ≤ w.heap.size) : Below B w w' :=
  (Below.refl B w).grown h hs (fun k hk => by cases hk; exact hB)

/-- the run of 'append(buf, news...)' -/
theorem buf_append (w : World) (ty : TypeId) (B g0 cap0 : Nat) (l news : List UInt8) (ad : Addr) (c : Nat) (hbuf : Buf B w g0 cap0 l)
    (hnews : ∀ j u, (bcells news)[j]? = some u → w.cell? (ad.add j) = some u) (hlim : l.length + news.length ≤ 100000000000000) :
    ∃ (X : List UInt8) (g cap : Nat) (w' : World), (Builtin.append_ #[22, 22] ty #[.slice (some ⟨g0, 0, none⟩) l.length cap0, .slice (some ad) news.length c]).run Tryd.prog w = .ok (.slice (some ⟨g, 0, none⟩) X.length cap) w' ∧
      X = l ++ news ∧ Buf B w' g cap X ∧ w.grownBy w' (some g0) := by
  obtain ⟨i0, hi, hz0, hz1, hz2⟩ := info_parts info5
  obtain ⟨v', w', hr, h2, h3, h4⟩ := run_append_own (P := Tryd.prog) w B 22 ty 5 i0 (.int .u8 0) 1 1 Tryd.underlying22 hi hz0 hz1 hz2 rfl (by decide) _ l.length _ hbuf ad news.length c (bcells news)
    (by rw [bcells_len, Nat.mul_one]) hnews (bcells_one news) (by unfold maxLen; omega) (by omega) (by have := hbuf.lt; omega)
  have hc : bcells l ++ bcells news = bcells (l ++ news) := (Lib.byteCells_append l news).symm
  rw [hc] at h2
  rcases h2.2 with ⟨h', _⟩ | ⟨g, cap, cur, rfl, _⟩
  · exact absurd (h4.1 h').1 (by simp)
  · refine ⟨l ++ news, g, cap, w', ?_, rfl, ?_, h3⟩
    · rw [hr, List.length_append]
    · unfold Buf
      rw [List.length_append]
      exact h2

theorem wpList_buf {w : World} {ops : Array Oper} {rest : List Oper} {o : Oper} {a : Act} {Q : Exit → Act → World → Prop} (hgd : o.guard = none) (s x : Operand)
    (ho : o.op = .call { callee := .builtin .append, args := #[s, x], argTypes := #[22, 22] })
    (B g0 cap0 : Nat) (l news : List UInt8) (hs : a.eval s = .slice (some ⟨g0, 0, none⟩) l.length cap0) (hbuf : Buf B w g0 cap0 l) (ad : Addr) (c : Nat) (hx : a.eval x = .slice (some ad) news.length c)
    (hnews : ∀ j u, (bcells news)[j]? = some u → w.cell? (ad.add j) = some u) (hlim : l.length + news.length ≤ 100000000000000)
    (h : ∀ (X : List UInt8) (g cap : Nat) (w' : World), Hid (X = l ++ news) → Hid (Buf B w' g cap X) → Hid (w.grownBy w' (some g0)) → wpList Tryd.prog ops Q rest (a.put o.dst (.slice (some ⟨g, 0, none⟩) X.length cap)) w') :
    wpList Tryd.prog ops Q (o :: rest) a w := by
  obtain ⟨X, g, cap, w', hr, h1, h2, h3⟩ := buf_append w o.type B g0 cap0 l news ad c hbuf hnews hlim
  refine wpList_plain hgd fun K hK => ?_
  unfold Oper.wp execOp
  simp only [ho, resolve, invoke, builtin, Sem.run_bind, Sem.run_pure, Result.andThen_ok, List.map_toArray, List.map_cons, List.map_nil, hs, hx, hr]
  exact hK _ _ (h X g cap w' h1 h2 h3)

theorem wpList_bufm {w : World} {ops : Array Oper} {rest : List Oper} {o : Oper} {a : Act} {Q : Exit → Act → World → Prop} (hgd : o.guard = none) (s x : Operand)
    (ho : o.op = .call { callee := .builtin .append, args := #[s, x], argTypes := #[22, 22] })
    (B g0 cap0 : Nat) (l news : List UInt8) (hs : a.eval s = .slice (some ⟨g0, 0, none⟩) l.length cap0) (hbuf : Buf B w g0 cap0 l) (ad : Addr) (m c : Nat) (hx : a.eval x = .slice (some ad) m c) (hm : news.length = m)
    (hnews : ∀ j u, (bcells news)[j]? = some u → w.cell? (ad.add j) = some u) (hlim : l.length + news.length ≤ 100000000000000)
    (h : ∀ (X : List UInt8) (g cap : Nat) (w' : World), Hid (X = l ++ news) → Hid (Buf B w' g cap X) → Hid (w.grownBy w' (some g0)) → wpList Tryd.prog ops Q rest (a.put o.dst (.slice (some ⟨g, 0, none⟩) X.length cap)) w') :
    wpList Tryd.prog ops Q (o :: rest) a w := by
  subst hm
  exact wpList_buf hgd s x ho B g0 cap0 l news hs hbuf ad c hx hnews hlim h

theorem step_buf {w : World} {ops : Array Oper} {o : Oper} {a : Act} {K : Act → World → Prop} {Q : Exit → Act → World → Prop} {E : Prop} (hgd : o.guard = none) (s x : Operand)
    (ho : o.op = .call { callee := .builtin .append, args := #[s, x], argTypes := #[22, 22] })
    (B g0 cap0 : Nat) (l news : List UInt8) (hs : a.eval s = .slice (some ⟨g0, 0, none⟩) l.length cap0) (hbuf : Buf B w g0 cap0 l) (ad : Addr) (c : Nat) (hx : a.eval x = .slice (some ad) news.length c)
    (hnews : ∀ j u, (bcells news)[j]? = some u → w.cell? (ad.add j) = some u) (hlim : l.length + news.length ≤ 100000000000000)
    (h : ∀ (X : List UInt8) (g cap : Nat) (w' : World), Hid (X = l ++ news) → Hid (Buf B w' g cap X) → Hid (w.grownBy w' (some g0)) → K (a.put o.dst (.slice (some ⟨g, 0, none⟩) X.length cap)) w') :
    if Region.wanted o (yielded ops a.tmps) = true then Oper.wp Tryd.prog o a w K Q else E := by
  have hw : Region.wanted o (yielded ops a.tmps) = true := by simp [Region.wanted, hgd]
  rw [if_pos hw]
  obtain ⟨X, g, cap, w', hr, h1, h2, h3⟩ := buf_append w o.type B g0 cap0 l news ad c hbuf hnews hlim
  unfold Oper.wp execOp
  simp only [ho, resolve, invoke, builtin, Sem.run_bind, Sem.run_pure, Result.andThen_ok, List.map_toArray, List.map_cons, List.map_nil, hs, hx, hr]
  exact h X g cap w' h1 h2 h3

theorem step_bufm {w : World} {ops : Array Oper} {o : Oper} {a : Act} {K : Act → World → Prop} {Q : Exit → Act → World → Prop} {E : Prop} (hgd : o.guard = none) (s x : Operand)
    (ho : o.op = .call { callee := .builtin .append, args := #[s, x], argTypes := #[22, 22] })
    (B g0 cap0 : Nat) (l news : List UInt8) (hs : a.eval s = .slice (some ⟨g0, 0, none⟩) l.length cap0) (hbuf : Buf B w g0 cap0 l) (ad : Addr) (m c : Nat) (hx : a.eval x = .slice (some ad) m c) (hm : news.length = m)
    (hnews : ∀ j u, (bcells news)[j]? = some u → w.cell? (ad.add j) = some u) (hlim : l.length + news.length ≤ 100000000000000)
    (h : ∀ (X : List UInt8) (g cap : Nat) (w' : World), Hid (X = l ++ news) → Hid (Buf B w' g cap X) → Hid (w.grownBy w' (some g0)) → K (a.put o.dst (.slice (some ⟨g, 0, none⟩) X.length cap)) w') :
    if Region.wanted o (yielded ops a.tmps) = true then Oper.wp Tryd.prog o a w K Q else E := by
  subst hm
  exact step_buf hgd s x ho B g0 cap0 l news hs hbuf ad c hx hnews hlim h

theorem step_buf_none {w : World} {ops : Array Oper} {o : Oper} {a : Act} {K : Act → World → Prop} {Q : Exit → Act → World → Prop} {E : Prop} (hgd : o.guard = none) (s x : Operand)
    (ho : o.op = .call { callee := .builtin .append, args := #[s, x], argTypes := #[22, 22] })
    (B g0 cap0 : Nat) (l : List UInt8) (hs : a.eval s = .slice (some ⟨g0, 0, none⟩) l.length cap0) (hbuf : Buf B w g0 cap0 l) (hx : a.eval x = .slice none 0 0)
    (h : K (a.put o.dst (.slice (some ⟨g0, 0, none⟩) l.length cap0)) w) :
    if Region.wanted o (yielded ops a.tmps) = true then Oper.wp Tryd.prog o a w K Q else E := by
  have hw : Region.wanted o (yielded ops a.tmps) = true := by simp [Region.wanted, hgd]
  rw [if_pos hw]
  obtain ⟨i0, hi, hz0, hz1, hz2⟩ := info_parts info5
  have hrun := run_append_owned_none (P := Tryd.prog) w B 22 o.type 5 i0 1 Tryd.underlying22 hi _ _ _ hbuf
  unfold Oper.wp execOp
  simp only [ho, resolve, invoke, builtin, Sem.run_bind, Sem.run_pure, Result.andThen_ok, List.map_toArray, List.map_cons, List.map_nil, hs, hx, hrun]
  exact h

theorem wpList_buf_none {w : World} {ops : Array Oper} {rest : List Oper} {o : Oper} {a : Act} {Q : Exit → Act → World → Prop} (hgd : o.guard = none) (s x : Operand)
    (ho : o.op = .call { callee := .builtin .append, args := #[s, x], argTypes := #[22, 22] })
    (B g0 cap0 : Nat) (l : List UInt8) (hs : a.eval s = .slice (some ⟨g0, 0, none⟩) l.length cap0) (hbuf : Buf B w g0 cap0 l) (hx : a.eval x = .slice none 0 0)
    (h : wpList Tryd.prog ops Q rest (a.put o.dst (.slice (some ⟨g0, 0, none⟩) l.length cap0)) w) :
    wpList Tryd.prog ops Q (o :: rest) a w := by
  obtain ⟨i0, hi, hz0, hz1, hz2⟩ := info_parts info5
  exact wpList_append_own_none hgd s x 22 ho B 5 i0 1 Tryd.underlying22 hi _ _ _ hs hbuf hx h

/-- the cell of a one-byte literal, as bytes -/
theorem lit_bytes (w : World) (H : Nat) (hH : w.heap.size = H) (x : UInt8) (z : Int) (hz : z = (x.toNat : Int)) : ∀ (j : Nat) (u : Value), (bcells [x])[j]? = some u → (w.alloc (.cells #[.int .u8 z] 5)).cell? ((⟨H, 0, none⟩ : Addr).add j) = some u := by
  subst hz
  exact lit_cell w H hH (x.toNat : Int)

/-- strconv.AppendInt onto the buffer -/
theorem int_call (B g0 cap0 : Nat) (l : List UInt8) (n : Int) (h0 : -9223372036854775808 ≤ n) (h1 : n ≤ 9223372036854775807) (w : World) (hbuf : Buf B w g0 cap0 l) (hlim : l.length ≤ 100000000000000)
    (htab : Lib.TabBelow Tryd.prog B w powName .u64 Lib.pow10Tab) :
    Calls Tryd.prog 17 #[.slice (some ⟨g0, 0, none⟩) l.length cap0, .int .i64 n, .int .i64 10] w fun e w' => ∃ (X : List UInt8) (g cap : Nat), e = .returned (.slice (some ⟨g, 0, none⟩) X.length cap) ∧ Hid (X = l ++ Lib.itoa n) ∧ Hid (Buf B w' g cap X) ∧ Below B w w' := by
  refine (Tryd.strconv_AppendInt_10 B l.length n h0 h1 _ _ w hbuf (by have := hbuf.lt; omega) (by omega) htab).mono ?_
  rintro e w' ⟨v', rfl, ho, hb, _⟩
  have hc : bcells l ++ Lib.byteCells (Lib.itoa n) = bcells (l ++ Lib.itoa n) := (Lib.byteCells_append l _).symm
  rw [hc] at ho
  have hp := Vc.itoa_pos n
  rcases ho.2 with ⟨_, h'⟩ | ⟨g, cap, cur, rfl, _⟩
  · omega
  · refine ⟨l ++ Lib.itoa n, g, cap, by rw [List.length_append], rfl, ?_, hb⟩
    show Buf B w' g cap _
    unfold Buf
    rw [List.length_append]
    exact ho

end Go.Proofs.Qxb6619558aDoor
