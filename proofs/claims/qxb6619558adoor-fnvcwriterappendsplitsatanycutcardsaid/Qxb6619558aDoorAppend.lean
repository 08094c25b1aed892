/-
  (*vcWriter).append.
-/
import Derived.Test.Qxb6619558aDoorBuf
namespace Go.Proofs.Qxb6619558aDoor
open Go.RowKit

/-- what stands ahead of a count's item -/
def pre (acc : List UInt8) : List UInt8 := if acc.length = 0 then acc else acc ++ [44]

theorem holds_bytes {w w' : World} {ba : Option Addr} {bs : List UInt8} (h : BytesAt w ba bs) (hb : Below w.heap.size w w') : ∀ b, ba = some b → ∀ j u, (bcells bs)[j]? = some u → w'.cell? (b.add j) = some u := by
  intro b e j u hj
  have hjl : j < (bcells bs).length := (List.getElem?_eq_some_iff.1 hj).1
  obtain ⟨b', off, e', hlt, hc⟩ := h j hjl
  rw [e] at e'
  cases e'
  rw [Addr.add_lit, hb.cell (p := ⟨b', off + j, none⟩) hlt, hc]
  exact hj

theorem buf_of {w : World} {B B' n : Nat} {v : Value} {xs : List Value} {l : List UInt8} (h : w.ownsRow B 5 1 v n xs) (hn : n = l.length) (hx : xs = bcells l) (hpos : 0 < n) (hB : B' ≤ B) : ∃ g cap, v = .slice (some ⟨g, 0, none⟩) l.length cap ∧ Buf B' w g cap l := by
  subst hn hx
  rcases h.2 with ⟨_, h'⟩ | ⟨g, cap, cur, rfl, _⟩
  · omega
  · exact ⟨g, cap, rfl, Buf.le (B := B) h hB⟩

theorem emit_zero {K : List UInt8} {E : List Int} {acc : List UInt8} {r : Int} : Vc.emit K E acc (r, 0) = acc := by unfold Vc.emit; rw [if_pos rfl]
theorem emit_pre {K : List UInt8} {E : List Int} {acc : List UInt8} {r n : Int} (hn : n ≠ 0) : Vc.emit K E acc (r, n) = pre acc ++ Vc.key K E r ++ Lib.itoa n := by
  unfold Vc.emit pre Vc.item; rw [if_neg hn, List.append_assoc]

/-- the cells that a round reads -/
structure Facts (w : World) (p cb eb eoff : Nat) (ka ea : Option Addr) (kl kc el ec : Nat) (r n t : Int) : Prop where
  y0 : w.cell? ⟨p, 0, none⟩ = some (.slice ka kl kc)
  y1 : w.cell? ⟨p, 1, none⟩ = some (.slice ea el ec)
  y2 : w.cell? ⟨cb, 0, none⟩ = some (.int .i64 r)
  y3 : w.cell? ⟨cb, 1, none⟩ = some (.int .i64 n)
  y4 : w.cell? ⟨eb, eoff, none⟩ = some (.int .i64 t)

theorem Facts.grown {w w' : World} {g p cb eb eoff : Nat} {ka ea : Option Addr} {kl kc el ec : Nat} {r n t : Int} (h : Facts w p cb eb eoff ka ea kl kc el ec r n t) (hg : w.grownBy w' (some g)) (h1 : p ≠ g) (h2 : cb ≠ g) (h3 : eb ≠ g) : Facts w' p cb eb eoff ka ea kl kc el ec r n t :=
  ⟨hg.cell h.y0 (by simpa using h1), hg.cell h.y1 (by simpa using h1), hg.cell h.y2 (by simpa using h2), hg.cell h.y3 (by simpa using h2), hg.cell h.y4 (by simpa using h3)⟩
theorem Facts.alloc {w : World} {p cb eb eoff : Nat} {ka ea : Option Addr} {kl kc el ec : Nat} {r n t : Int} (h : Facts w p cb eb eoff ka ea kl kc el ec r n t) (o : Obj) : Facts (w.alloc o) p cb eb eoff ka ea kl kc el ec r n t :=
  ⟨(World.grownBy_alloc w o none).cell h.y0 (by simp), (World.grownBy_alloc w o none).cell h.y1 (by simp), (World.grownBy_alloc w o none).cell h.y2 (by simp), (World.grownBy_alloc w o none).cell h.y3 (by simp), (World.grownBy_alloc w o none).cell h.y4 (by simp)⟩

theorem sub_len {K : List UInt8} {s t : Nat} (h1 : s ≤ t) (h2 : t ≤ K.length) : (Vc.sub K s t).length = t - s := by
  unfold Vc.sub; rw [List.length_take, List.length_drop]; omega
/-- the key's bytes, where the slice of keys lies -/
theorem key_cells {w w' : World} {kb : Nat} {K : List UInt8} {s t : Nat} (h : BytesAt w (some ⟨kb, 0, none⟩) K) (hb : Below w.heap.size w w') (h2 : t ≤ K.length) :
    ∀ j u, (bcells (Vc.sub K s t))[j]? = some u → w'.cell? ((⟨kb, s, none⟩ : Addr).add j) = some u := by
  intro j u hj
  have hjl : j < (Vc.sub K s t).length := by
    have := (List.getElem?_eq_some_iff.1 hj).1
    rwa [bcells_len] at this
  have hjl' : j < t - s := by
    unfold Vc.sub at hjl; rw [List.length_take, List.length_drop] at hjl; omega
  have e : (bcells (Vc.sub K s t))[j]? = (bcells K)[s + j]? := by
    unfold bcells Lib.byteCells Vc.sub
    rw [List.getElem?_map, List.getElem?_take, if_pos hjl', List.getElem?_drop, List.getElem?_map]
  obtain ⟨b', off, e', hlt, hc⟩ := h (s + j) (by rw [bcells_len]; omega)
  cases e'
  rw [Nat.zero_add] at hc
  rw [Addr.add_lit, hb.cell (p := ⟨kb, s + j, none⟩) hlt, hc, ← e]
  exact hj

/-- where 'keys[s:t]' lies: at the end of keys Go keeps the old address -/
theorem key_addr {w w' : World} {kb : Nat} {K : List UInt8} {s t : Nat} (h : BytesAt w (some ⟨kb, 0, none⟩) K) (hb : Below w.heap.size w w') (h1 : s ≤ t) (h2 : t ≤ K.length) :
    ∃ ad : Addr, (if K.length = s then some (⟨kb, 0, none⟩ : Addr) else some ⟨kb, s, none⟩) = some ad ∧ Hid (∀ j u, (bcells (Vc.sub K s t))[j]? = some u → w'.cell? (ad.add j) = some u) := by
  by_cases e : K.length = s
  · refine ⟨_, if_pos e, ?_⟩
    show ∀ j u, _
    intro j u hj
    have := (List.getElem?_eq_some_iff.1 hj).1
    rw [bcells_len, sub_len h1 h2] at this
    omega
  · exact ⟨_, if_neg e, key_cells h hb h2⟩

set_option maxHeartbeats 2000000 in


set_option maxRecDepth 100000 in
theorem append_call (p ec cc : Nat) (ka ea ba ca : Option Addr) (K : List UInt8) (E : List Int) (bs : List UInt8) (C : List Vc.Cnt) (w : World)
    (hKl : K.length ≤ 65536) (hEl : E.length ≤ 65536) (hCl : C.length ≤ 65536) (hbl : bs.length ≤ 65536)
    (hp0 : w.cell? ⟨p, 0, none⟩ = some (.slice ka K.length K.length)) (hp1 : w.cell? ⟨p, 1, none⟩ = some (.slice ea E.length ec))
    (hka : (ka = none ∧ K.length = 0) ∨ ∃ kb, ka = some ⟨kb, 0, none⟩ ∧ kb < w.heap.size)
    (hK : BytesAt w ka K) (hE : IntsAt w ea E) (hC : PairsAt w ca C) (hb : BytesAt w ba bs) (hba : ba = none → bs.length = 0) (hD : Vc.Dom K E C) (hW : Wf C)
    (htab : Lib.TabIs Tryd.prog w powName .u64 Lib.pow10Tab) :
    Calls Tryd.prog 15 #[.pointer (some ⟨p, 0, none⟩), .slice ba bs.length bs.length, .slice ca C.length cc] w fun e w' => ∃ (X : List UInt8) (g cap : Nat), e = .returned (.slice (some ⟨g, 0, none⟩) X.length cap) ∧
      Hid (X = bs ++ [123] ++ Vc.inside K E C ++ [125]) ∧ Hid (BytesAt w' (some ⟨g, 0, none⟩) X ∧ X.length ≤ cap) ∧ Below w.heap.size w w' := by
  obtain ⟨i0, hi, hz0, hz1, hz2⟩ := info_parts info5
  have HK : Hid (BytesAt w ka K) := hK
  have HE : Hid (IntsAt w ea E) := hE
  have HC : Hid (PairsAt w ca C) := hC
  have HD : Hid (Vc.Dom K E C) := hD
  have HW : Hid (Wf C) := hW
  have HT : Hid (Lib.TabBelow Tryd.prog w.heap.size w powName .u64 Lib.pow10Tab) := Lib.tabBelow_of_tabIs htab
  have HP : Hid (w.cell? ⟨p, 0, none⟩ = some (.slice ka K.length K.length) ∧ w.cell? ⟨p, 1, none⟩ = some (.slice ea E.length ec)) := ⟨hp0, hp1⟩
  have HBS : Hid (BytesAt w ba bs) := hb
  have HBA : Hid (ba = none → bs.length = 0 ∧ bs.length = 0) := (show _ → _ from fun h => ⟨hba h, hba h⟩)
  have HKA : Hid ((ka = none ∧ K.length = 0) ∨ ∃ kb, ka = some ⟨kb, 0, none⟩ ∧ kb < w.heap.size) := hka
  have hpl : p < w.heap.size := World.block_lt_of_cell? w _ hp0
  clear hK hE hC hD hW htab hp0 hp1 hb hba hka
  have nl : ([123] : List UInt8).length = 1 := rfl
  go_enter Tryd.func15, Tryd.ntmps15
  go_wp2_with (at_builtin; refine wpList_append_grows _ rfl _ _ 22 rfl 5 i0 (.int .u8 0) 1 1 Tryd.underlying22 hi hz0 hz1 hz2 rfl (by decide) ba bs.length bs.length (bcells bs) rfl HBA.out (by rw [bcells_len, Nat.mul_one]) (holds_bytes HBS.out ((Below.refl _ w).alloc (Nat.le_refl _) _)) ⟨w.heap.size, 0, none⟩ 1 1 [Value.int .u8 123] rfl rfl (lit_cell _ _ (by simp) 123) (lit_one 123) (by omega) (by unfold maxLen; omega) (by omega) ?_)
  intro v1 W1 hown1 hgrow1
  obtain ⟨g1, cap1, rfl, hB1⟩ := buf_of (B' := w.heap.size) (l := bs ++ [123]) hown1 (by rw [List.length_append]; rfl) (Lib.byteCells_append bs [123]).symm (by omega) (by simp)
  have hb1 : Below w.heap.size w W1 := ((Below.refl _ w).alloc (Nat.le_refl _) _).grown hgrow1 (by simp) (fun k hk => by cases hk)
  obtain ⟨X0, hX0⟩ : ∃ X0, X0 = bs ++ [123] := ⟨_, rfl⟩
  rw [← hX0] at hB1 ⊢
  have HB1 : Hid (Buf w.heap.size W1 g1 cap1 X0) := hB1
  have hX0l : X0.length ≤ 65537 := by rw [hX0, List.length_append]; simp; omega
  have HX0 : Hid (X0 = bs ++ [123]) := hX0
  clear hown1 hgrow1 hX0 hB1 nl
  go_wp2
  go_loopw [1, 18] (fun b i wr => ∃ (k : Nat) (X : List UInt8) (g cap : Nat), k ≤ C.length ∧ b = .slice (some ⟨g, 0, none⟩) X.length cap ∧ i = .int .i64 k ∧ Hid (X = X0 ++ Vc.inside K E (C.take k)) ∧ Hid (Buf w.heap.size wr g cap X) ∧ Below w.heap.size w wr) (fun _ i _ => C.length - (intOf i).toNat)
  case atStart => exact ⟨0, X0, g1, cap1, Nat.zero_le _, rfl, rfl, (show _ = _ by simp [Vc.inside]), HB1, hb1⟩
  case round =>
    clear HB1 hb1 HBS HBA
    obtain ⟨k, X, g, cap, hk, rfl, rfl, HX, HB, hb⟩ := hrel
    obtain ⟨acc, hacc⟩ : ∃ acc, acc = Vc.inside K E (C.take k) := ⟨_, rfl⟩
    have hal : acc.length ≤ 4500000000 := by
      have := Vc.inside_le (dom_take HD.out k) hKl (wf_take HW.out k)
      rw [← hacc, List.length_take] at this
      have : min k C.length * 65558 ≤ 65536 * 65558 := Nat.mul_le_mul_right _ (by omega)
      omega
    have HXl : Hid (X.length = X0.length + acc.length) := (show _ = _ by rw [HX.out, List.length_append, ← hacc])
    by_cases hlt : k < C.length
    · obtain ⟨b, off, rfl, hbs, x0, x1⟩ := (HC.out.old hb) k hlt
      have HS : Hid (Vc.inside K E (C.take (k + 1)) = Vc.emit K E acc (at' C k)) := (show _ = _ by rw [take_snoc C k hlt, Vc.inside_snoc, hacc])
      rw [← hacc] at HX
      have HXa : Hid (X = X0 ++ acc) := HX
      clear hacc HX
      have HOK : Hid (Vc.Ok K E (at' C k)) := HD.out _ (at_mem C k hlt)
      have hwf := HW.out _ (at_mem C k hlt)
      obtain ⟨c, hc⟩ : ∃ c, c = at' C k := ⟨_, rfl⟩
      rw [← hc] at x0 x1 HS HOK hwf
      clear hc
      obtain ⟨r, n⟩ := c
      simp only at x0 x1 hwf
      have hki : (k : Int) < (C.length : Int) := by omega
      have hbA : Below w.heap.size w (wr.alloc (.cells #[.int .i64 r, .int .i64 n] 46)) := hb.alloc hb.size _
      have HBA : Hid (Buf w.heap.size (wr.alloc (.cells #[.int .i64 r, .int .i64 n] 46)) g cap X) := HB.out.alloc _
      by_cases hz : n = 0
      · subst hz
        go_wp2
        go_roundw
        case rel => exact ⟨k + 1, X, g, cap, by omega, rfl, by go_num, (show _ = _ by rw [HS.out, emit_zero]; exact HXa.out), HBA, hbA⟩
        case measure => simp [intOf]; omega
      · obtain ⟨o1, o2, o3, o4, o5⟩ := HOK.out hz
        simp only at o1 o2 o3 o4 o5
        obtain ⟨s, hs⟩ : ∃ s : Nat, Vc.lo E r = (s : Int) := ⟨(Vc.lo E r).toNat, by omega⟩
        obtain ⟨t, ht⟩ : ∃ t : Nat, Vc.hi E r = (t : Int) := ⟨(Vc.hi E r).toNat, by omega⟩
        rw [hs] at o3 o4
        rw [ht] at o4 o5
        have hst : s ≤ t := by omega
        have htk : t ≤ K.length := by omega
        have HKey : Hid (Vc.key K E r = Vc.sub K s t) := (show _ = _ by unfold Vc.key; rw [hs, ht]; rfl)
        rcases HKA.out with ⟨rfl, hK0⟩ | ⟨kb, rfl, hkbl⟩
        · obtain rfl : t = 0 := by omega
          obtain rfl : s = 0 := by omega
          obtain rfl : K = [] := List.eq_nil_of_length_eq_zero hK0
          have HKey : Hid (Vc.key [] E r = []) := (show _ = _ by rw [HKey.out]; rfl)
          by_cases hr0 : r = 0
          · subst hr0
            obtain ⟨eb, eo, rfl, hebl, e0⟩ := IntsAt.at HE.out 0 (by omega)
            rw [Nat.add_zero] at e0
            have e0' : w.cell? ⟨eb, eo, none⟩ = some (.int .i64 0) := by rw [e0]; exact congrArg (fun z => some (Value.int .i64 z)) ht
            have HFA : Hid (Facts (wr.alloc (.cells #[.int .i64 0, .int .i64 n] 46)) p wr.heap.size eb eo none (some ⟨eb, eo, none⟩) 0 0 E.length ec 0 n 0) :=
              ⟨(hbA.cell (p := ⟨p, 0, none⟩) hpl).trans HP.out.1, (hbA.cell (p := ⟨p, 1, none⟩) hpl).trans HP.out.2, by simp, by simp, (hbA.cell (p := ⟨eb, eo, none⟩) hebl).trans e0'⟩
            have hEn : 0 < E.length := by omega
            clear e0 e0' o1 o2 o3 o4 o5
            by_cases hI : acc.length = 0
            case' pos =>
              have hle : X.length ≤ X0.length := by have := HXl.out; omega
              have HX1 : Hid (X = X0 ++ pre acc) := (show _ = _ by unfold pre; rw [if_pos hI]; exact HXa.out)
              have hgc : wr.heap.size ≠ g := by have := HB.out.lt.2; omega
              obtain ⟨y0, y1, y2, y3, y4⟩ := HFA.out
              have HBX : Hid (Buf w.heap.size (wr.alloc (.cells #[.int .i64 0, .int .i64 n] 46)) g cap X) := HBA
              have hXl : X.length ≤ 5000000000 := by have := HXl.out; omega
              go_wp2
              generalize wr.alloc (.cells #[.int .i64 0, .int .i64 n] 46) = W2 at *
              clear HFA HBA
            case' neg =>
              have hgt : X0.length < X.length := by have := HXl.out; omega
              have hXl0 : X.length ≤ 4900000000 := by have := HXl.out; omega
              have hgl := HB.out.lt
              have hwl := hb.size
              go_wp2_with (at_builtin; refine wpList_buf rfl _ _ rfl w.heap.size g cap X [44] rfl (HBA.out.alloc _) ⟨wr.heap.size + 1, 0, none⟩ 1 rfl (lit_bytes _ _ (by simp) 44 44 rfl) (by simp; omega) ?_)
              have hgO : w.heap.size ≤ g := hgl.1
              have hgN : g < wr.heap.size := hgl.2
              intro X g cap W2 HXc HBX HG
              have HX1 : Hid (X = X0 ++ pre acc) := (show _ = _ by unfold pre; rw [if_neg hI, HXc.out, HXa.out, List.append_assoc])
              have hXl : X.length ≤ 5000000000 := by rw [HXc.out, List.length_append, List.length_singleton]; omega
              obtain ⟨y0, y1, y2, y3, y4⟩ := (HFA.out.alloc _).grown HG.out (by omega) (by omega) (by omega)
              have hbA : Below w.heap.size w W2 := (hbA.alloc (by simp; omega) _).trans (grown_below HG.out hgO (by simp; omega))
              have hgc : wr.heap.size ≠ g := by
                intro e
                obtain ⟨cur, hcur⟩ := HBX.out.block
                rw [← e, HG.out.block wr.heap.size (by simp; omega) (by simp; omega)] at hcur
                have h2 : ((wr.alloc (.cells #[.int .i64 0, .int .i64 n] 46)).alloc (.cells #[.int .u8 44] 5)).heap[wr.heap.size]? = some (.cells #[.int .i64 0, .int .i64 n] 46) := by
                  rw [heap_alloc_old _ _ (by simp)]; exact heap_alloc_new wr _
                rw [h2] at hcur
                cases hcur
              clear HFA HBA HG HXc
              go_wp2
            all_goals
              have hEp : (0 : Int) < (E.length : Int) := by omega
              have hgl2 := HBX.out.lt
              go_region_held3 (fun w' => w'.cell? ⟨p, 0, none⟩ = some (.slice none 0 0) ∧ w'.cell? ⟨p, 1, none⟩ = some (.slice (some ⟨eb, eo, none⟩) E.length ec) ∧ w'.cell? ⟨wr.heap.size, 0, none⟩ = some (.int .i64 0) ∧ w'.cell? ⟨eb, eo, none⟩ = some (.int .i64 0)) (go_keep)
                ((refine step_buf_none rfl _ _ (by rfl) w.heap.size g cap X (by rfl) HBX.out (by rfl) ?_))
              have hb3 : Below w.heap.size w W2.drew := below_drew hbA
              have z3 : W2.drew.cell? ⟨wr.heap.size, 1, none⟩ = some (.int .i64 n) := y3
              go_wp2_with fail
              refine (int_call w.heap.size g cap X n hwf.1 hwf.2 W2.drew HBX.out (by omega) (HT.out.on hb3)).mono ?_
              rintro e W4 ⟨X3, g3, cap3, rfl, HX3, HB3, hb4⟩
              have HXn : Hid (X3 = X0 ++ Vc.inside [] E (C.take (k + 1))) := (show _ = _ by rw [HX3.out, HX1.out, HS.out, emit_pre hz, HKey.out]; simp [List.append_assoc])
              have hb5 : Below w.heap.size w W4 := hb3.trans hb4
              go_wp2
              go_roundw
              case rel => exact ⟨k + 1, X3, g3, cap3, by omega, rfl, by go_num, HXn, HB3, hb5⟩
              case measure => simp [intOf]; omega
          · obtain ⟨q, rfl⟩ : ∃ q : Nat, r = (q : Int) := ⟨r.toNat, by omega⟩
            obtain ⟨p', hp'⟩ : ∃ p' : Nat, q = p' + 1 := ⟨q - 1, by omega⟩
            obtain ⟨eb, eo, rfl, hebl, e0⟩ := IntsAt.at HE.out q (by omega)
            have e0' : w.cell? ⟨eb, eo + q, none⟩ = some (.int .i64 0) := by rw [e0]; exact congrArg (fun z => some (Value.int .i64 z)) ht
            obtain ⟨eb', eo', ee, _, f0⟩ := IntsAt.at HE.out p' (by omega)
            cases ee
            have hs' : E.getD p' 0 = 0 := by have h := hs; unfold Vc.lo at h; rw [if_pos (by omega), show ((q : Int) - 1).toNat = p' by omega] at h; exact h
            have f0' : w.cell? ⟨eb, eo + p', none⟩ = some (.int .i64 0) := by rw [f0, hs']
            have hpi : (p' : Int) < (E.length : Int) := by omega
            have hpi2 : (q : Int) < (E.length : Int) := by omega
            have hqp : (q : Int) - 1 = (p' : Int) := by omega
            have hqpos : (0 : Int) < (q : Int) := by omega
            clear hp'
            clear hs' f0
            have HFA : Hid (Facts (wr.alloc (.cells #[.int .i64 (q : Int), .int .i64 n] 46)) p wr.heap.size eb (eo + q) none (some ⟨eb, eo, none⟩) 0 0 E.length ec (q : Int) n 0) :=
              ⟨(hbA.cell (p := ⟨p, 0, none⟩) hpl).trans HP.out.1, (hbA.cell (p := ⟨p, 1, none⟩) hpl).trans HP.out.2, by simp, by simp, (hbA.cell (p := ⟨eb, (eo + q), none⟩) hebl).trans e0'⟩
            have hEn : 0 < E.length := by omega
            clear e0 e0' o1 o2 o3 o4 o5
            by_cases hI : acc.length = 0
            case' pos =>
              have hle : X.length ≤ X0.length := by have := HXl.out; omega
              have HX1 : Hid (X = X0 ++ pre acc) := (show _ = _ by unfold pre; rw [if_pos hI]; exact HXa.out)
              have hgc : wr.heap.size ≠ g := by have := HB.out.lt.2; omega
              have f1 := (hbA.cell (p := ⟨eb, eo + p', none⟩) hebl).trans f0'
              obtain ⟨y0, y1, y2, y3, y4⟩ := HFA.out
              have HBX : Hid (Buf w.heap.size (wr.alloc (.cells #[.int .i64 (q : Int), .int .i64 n] 46)) g cap X) := HBA
              have hXl : X.length ≤ 5000000000 := by have := HXl.out; omega
              go_wp2
              generalize wr.alloc (.cells #[.int .i64 (q : Int), .int .i64 n] 46) = W2 at *
              go_quiet (fail)
              go_wp2
              clear HFA HBA
            case' neg =>
              have hgt : X0.length < X.length := by have := HXl.out; omega
              have hXl0 : X.length ≤ 4900000000 := by have := HXl.out; omega
              have hgl := HB.out.lt
              have hwl := hb.size
              go_wp2_with (at_builtin; refine wpList_buf rfl _ _ rfl w.heap.size g cap X [44] rfl (HBA.out.alloc _) ⟨wr.heap.size + 1, 0, none⟩ 1 rfl (lit_bytes _ _ (by simp) 44 44 rfl) (by simp; omega) ?_)
              have hgO : w.heap.size ≤ g := hgl.1
              have hgN : g < wr.heap.size := hgl.2
              intro X g cap W2 HXc HBX HG
              have HX1 : Hid (X = X0 ++ pre acc) := (show _ = _ by unfold pre; rw [if_neg hI, HXc.out, HXa.out, List.append_assoc])
              have hXl : X.length ≤ 5000000000 := by rw [HXc.out, List.length_append, List.length_singleton]; omega
              obtain ⟨y0, y1, y2, y3, y4⟩ := (HFA.out.alloc _).grown HG.out (by omega) (by omega) (by omega)
              have f1 : W2.cell? ⟨eb, eo + p', none⟩ = some (.int .i64 0) := HG.out.cell ((World.grownBy_alloc _ _ none).cell ((hbA.cell (p := ⟨eb, eo + p', none⟩) hebl).trans f0') (by simp)) (by simp; omega)
              have hbA : Below w.heap.size w W2 := (hbA.alloc (by simp; omega) _).trans (grown_below HG.out hgO (by simp; omega))
              have hgc : wr.heap.size ≠ g := by
                intro e
                obtain ⟨cur, hcur⟩ := HBX.out.block
                rw [← e, HG.out.block wr.heap.size (by simp; omega) (by simp; omega)] at hcur
                have h2 : ((wr.alloc (.cells #[.int .i64 (q : Int), .int .i64 n] 46)).alloc (.cells #[.int .u8 44] 5)).heap[wr.heap.size]? = some (.cells #[.int .i64 (q : Int), .int .i64 n] 46) := by
                  rw [heap_alloc_old _ _ (by simp)]; exact heap_alloc_new wr _
                rw [h2] at hcur
                cases hcur
              clear HFA HBA HG HXc
              go_wp2
              go_quiet (fail)
              go_wp2
            all_goals
              have hbA := below_drewN hbA nq
              have HBX : Hid (Buf w.heap.size (W2.drewN nq) g cap X) := HBX
              have y0 : (W2.drewN nq).cell? _ = _ := y0
              have y1 : (W2.drewN nq).cell? _ = _ := y1
              have y2 : (W2.drewN nq).cell? _ = _ := y2
              have y3 : (W2.drewN nq).cell? _ = _ := y3
              have y4 : (W2.drewN nq).cell? _ = _ := y4
              generalize W2.drewN nq = W2 at *
              have hEp : (0 : Int) < (E.length : Int) := by omega
              have hgl2 := HBX.out.lt
              go_region_held3 (fun w' => w'.cell? ⟨p, 0, none⟩ = some (.slice none 0 0) ∧ w'.cell? ⟨p, 1, none⟩ = some (.slice (some ⟨eb, eo, none⟩) E.length ec) ∧ w'.cell? ⟨wr.heap.size, 0, none⟩ = some (.int .i64 (q : Int)) ∧ w'.cell? ⟨eb, (eo + q), none⟩ = some (.int .i64 0)) (go_keep)
                ((refine step_buf_none rfl _ _ (by rfl) w.heap.size g cap X (by rfl) HBX.out (by rfl) ?_))
              have hb3 : Below w.heap.size w W2.drew := below_drew hbA
              have z3 : W2.drew.cell? ⟨wr.heap.size, 1, none⟩ = some (.int .i64 n) := y3
              go_wp2_with fail
              refine (int_call w.heap.size g cap X n hwf.1 hwf.2 W2.drew HBX.out (by omega) (HT.out.on hb3)).mono ?_
              rintro e W4 ⟨X3, g3, cap3, rfl, HX3, HB3, hb4⟩
              have HXn : Hid (X3 = X0 ++ Vc.inside [] E (C.take (k + 1))) := (show _ = _ by rw [HX3.out, HX1.out, HS.out, emit_pre hz, HKey.out]; simp [List.append_assoc])
              have hb5 : Below w.heap.size w W4 := hb3.trans hb4
              go_wp2
              go_roundw
              case rel => exact ⟨k + 1, X3, g3, cap3, by omega, rfl, by go_num, HXn, HB3, hb5⟩
              case measure => simp [intOf]; omega
        · by_cases hr0 : r = 0
          · subst hr0
            obtain ⟨eb, eo, rfl, hebl, e0⟩ := IntsAt.at HE.out 0 (by omega)
            rw [Nat.add_zero] at e0
            have e0' : w.cell? ⟨eb, eo, none⟩ = some (.int .i64 (t : Int)) := by rw [e0]; exact congrArg (fun z => some (Value.int .i64 z)) ht
            obtain rfl : s = 0 := by have : Vc.lo E 0 = 0 := rfl; omega
            have HFA : Hid (Facts (wr.alloc (.cells #[.int .i64 0, .int .i64 n] 46)) p wr.heap.size eb eo (some ⟨kb, 0, none⟩) (some ⟨eb, eo, none⟩) K.length K.length E.length ec 0 n (t : Int)) :=
              ⟨(hbA.cell (p := ⟨p, 0, none⟩) hpl).trans HP.out.1, (hbA.cell (p := ⟨p, 1, none⟩) hpl).trans HP.out.2, by simp, by simp, (hbA.cell (p := ⟨eb, eo, none⟩) hebl).trans e0'⟩
            have hEn : 0 < E.length := by omega
            clear e0 e0' o1 o2 o3 o4 o5
            by_cases hI : acc.length = 0
            case' pos =>
              have hle : X.length ≤ X0.length := by have := HXl.out; omega
              have HX1 : Hid (X = X0 ++ pre acc) := (show _ = _ by unfold pre; rw [if_pos hI]; exact HXa.out)
              have hgc : wr.heap.size ≠ g := by have := HB.out.lt.2; omega
              obtain ⟨y0, y1, y2, y3, y4⟩ := HFA.out
              have HBX : Hid (Buf w.heap.size (wr.alloc (.cells #[.int .i64 0, .int .i64 n] 46)) g cap X) := HBA
              have hXl : X.length ≤ 5000000000 := by have := HXl.out; omega
              go_wp2
              generalize wr.alloc (.cells #[.int .i64 0, .int .i64 n] 46) = W2 at *
              clear HFA HBA
            case' neg =>
              have hgt : X0.length < X.length := by have := HXl.out; omega
              have hXl0 : X.length ≤ 4900000000 := by have := HXl.out; omega
              have hgl := HB.out.lt
              have hwl := hb.size
              go_wp2_with (at_builtin; refine wpList_buf rfl _ _ rfl w.heap.size g cap X [44] rfl (HBA.out.alloc _) ⟨wr.heap.size + 1, 0, none⟩ 1 rfl (lit_bytes _ _ (by simp) 44 44 rfl) (by simp; omega) ?_)
              have hgO : w.heap.size ≤ g := hgl.1
              have hgN : g < wr.heap.size := hgl.2
              intro X g cap W2 HXc HBX HG
              have HX1 : Hid (X = X0 ++ pre acc) := (show _ = _ by unfold pre; rw [if_neg hI, HXc.out, HXa.out, List.append_assoc])
              have hXl : X.length ≤ 5000000000 := by rw [HXc.out, List.length_append, List.length_singleton]; omega
              obtain ⟨y0, y1, y2, y3, y4⟩ := (HFA.out.alloc _).grown HG.out (by omega) (by omega) (by omega)
              have hbA : Below w.heap.size w W2 := (hbA.alloc (by simp; omega) _).trans (grown_below HG.out hgO (by simp; omega))
              have hgc : wr.heap.size ≠ g := by
                intro e
                obtain ⟨cur, hcur⟩ := HBX.out.block
                rw [← e, HG.out.block wr.heap.size (by simp; omega) (by simp; omega)] at hcur
                have h2 : ((wr.alloc (.cells #[.int .i64 0, .int .i64 n] 46)).alloc (.cells #[.int .u8 44] 5)).heap[wr.heap.size]? = some (.cells #[.int .i64 0, .int .i64 n] 46) := by
                  rw [heap_alloc_old _ _ (by simp)]; exact heap_alloc_new wr _
                rw [h2] at hcur
                cases hcur
              clear HFA HBA HG HXc
              go_wp2
            all_goals
              have hEp : (0 : Int) < (E.length : Int) := by omega
              have hgl2 := HBX.out.lt
              have HKC : Hid (∀ j u, (bcells (Vc.sub K 0 t))[j]? = some u → W2.drew.cell? ((⟨kb, 0, none⟩ : Addr).add j) = some u) := key_cells HK.out (below_drew hbA) htk
              have htki : (t : Int) ≤ (K.length : Int) := by omega
              have hsti : (0 : Int) ≤ (t : Int) := by omega
              go_region_held3 (fun w' => w'.cell? ⟨p, 0, none⟩ = some (.slice (some ⟨kb, 0, none⟩) K.length K.length) ∧ w'.cell? ⟨p, 1, none⟩ = some (.slice (some ⟨eb, eo, none⟩) E.length ec) ∧ w'.cell? ⟨wr.heap.size, 0, none⟩ = some (.int .i64 0) ∧ w'.cell? ⟨eb, eo, none⟩ = some (.int .i64 (t : Int))) (first | go_keep | exact ⟨HG2.out.cell y0 (by simp; omega), HG2.out.cell y1 (by simp; omega), HG2.out.cell y2 (by simp; omega), HG2.out.cell y4 (by simp; omega)⟩)
                ((refine step_bufm rfl _ _ (by rfl) w.heap.size g cap X (Vc.sub K 0 t) (by rfl) HBX.out ⟨kb, 0, none⟩ (t - 0) (K.length - 0) (by rfl) (sub_len hst htk) HKC.out (by rw [sub_len hst htk]; omega) ?_; intro X2 g2 cap2 W3 HX2 HB2 HG2))
              have hb3 : Below w.heap.size w W3 := (below_drew hbA).trans (grown_below HG2.out hgl2.1 (by have := hbA.size; exact this))
              have z3 : W3.cell? ⟨wr.heap.size, 1, none⟩ = some (.int .i64 n) := HG2.out.cell y3 (by simp; omega)
              have hX2l : X2.length ≤ 6000000000 := by rw [HX2.out, List.length_append, sub_len hst htk]; omega
              go_wp2_with fail
              refine (int_call w.heap.size g2 cap2 X2 n hwf.1 hwf.2 _ HB2.out (by omega) (HT.out.on hb3)).mono ?_
              rintro e W4 ⟨X3, g3, cap3, rfl, HX3, HB3, hb4⟩
              have HXn : Hid (X3 = X0 ++ Vc.inside K E (C.take (k + 1))) := (show _ = _ by rw [HX3.out, HX2.out, HX1.out, HS.out, emit_pre hz, HKey.out]; simp [List.append_assoc])
              have hb5 : Below w.heap.size w W4 := hb3.trans hb4
              go_wp2
              go_roundw
              case rel => exact ⟨k + 1, X3, g3, cap3, by omega, rfl, by go_num, HXn, HB3, hb5⟩
              case measure => simp [intOf]; omega
          · obtain ⟨q, rfl⟩ : ∃ q : Nat, r = (q : Int) := ⟨r.toNat, by omega⟩
            obtain ⟨p', hp'⟩ : ∃ p' : Nat, q = p' + 1 := ⟨q - 1, by omega⟩
            obtain ⟨eb, eo, rfl, hebl, e0⟩ := IntsAt.at HE.out q (by omega)
            have e0' : w.cell? ⟨eb, eo + q, none⟩ = some (.int .i64 (t : Int)) := by rw [e0]; exact congrArg (fun z => some (Value.int .i64 z)) ht
            obtain ⟨eb', eo', ee, _, f0⟩ := IntsAt.at HE.out p' (by omega)
            cases ee
            have hs' : E.getD p' 0 = (s : Int) := by have h := hs; unfold Vc.lo at h; rw [if_pos (by omega), show ((q : Int) - 1).toNat = p' by omega] at h; exact h
            have f0' : w.cell? ⟨eb, eo + p', none⟩ = some (.int .i64 (s : Int)) := by rw [f0, hs']
            have hpi : (p' : Int) < (E.length : Int) := by omega
            have hpi2 : (q : Int) < (E.length : Int) := by omega
            have hqp : (q : Int) - 1 = (p' : Int) := by omega
            have hqpos : (0 : Int) < (q : Int) := by omega
            clear hp'
            clear hs' f0
            have HFA : Hid (Facts (wr.alloc (.cells #[.int .i64 (q : Int), .int .i64 n] 46)) p wr.heap.size eb (eo + q) (some ⟨kb, 0, none⟩) (some ⟨eb, eo, none⟩) K.length K.length E.length ec (q : Int) n (t : Int)) :=
              ⟨(hbA.cell (p := ⟨p, 0, none⟩) hpl).trans HP.out.1, (hbA.cell (p := ⟨p, 1, none⟩) hpl).trans HP.out.2, by simp, by simp, (hbA.cell (p := ⟨eb, (eo + q), none⟩) hebl).trans e0'⟩
            have hEn : 0 < E.length := by omega
            clear e0 e0' o1 o2 o3 o4 o5
            by_cases hI : acc.length = 0
            case' pos =>
              have hle : X.length ≤ X0.length := by have := HXl.out; omega
              have HX1 : Hid (X = X0 ++ pre acc) := (show _ = _ by unfold pre; rw [if_pos hI]; exact HXa.out)
              have hgc : wr.heap.size ≠ g := by have := HB.out.lt.2; omega
              have f1 := (hbA.cell (p := ⟨eb, eo + p', none⟩) hebl).trans f0'
              obtain ⟨y0, y1, y2, y3, y4⟩ := HFA.out
              have HBX : Hid (Buf w.heap.size (wr.alloc (.cells #[.int .i64 (q : Int), .int .i64 n] 46)) g cap X) := HBA
              have hXl : X.length ≤ 5000000000 := by have := HXl.out; omega
              go_wp2
              generalize wr.alloc (.cells #[.int .i64 (q : Int), .int .i64 n] 46) = W2 at *
              go_quiet (fail)
              go_wp2
              clear HFA HBA
            case' neg =>
              have hgt : X0.length < X.length := by have := HXl.out; omega
              have hXl0 : X.length ≤ 4900000000 := by have := HXl.out; omega
              have hgl := HB.out.lt
              have hwl := hb.size
              go_wp2_with (at_builtin; refine wpList_buf rfl _ _ rfl w.heap.size g cap X [44] rfl (HBA.out.alloc _) ⟨wr.heap.size + 1, 0, none⟩ 1 rfl (lit_bytes _ _ (by simp) 44 44 rfl) (by simp; omega) ?_)
              have hgO : w.heap.size ≤ g := hgl.1
              have hgN : g < wr.heap.size := hgl.2
              intro X g cap W2 HXc HBX HG
              have HX1 : Hid (X = X0 ++ pre acc) := (show _ = _ by unfold pre; rw [if_neg hI, HXc.out, HXa.out, List.append_assoc])
              have hXl : X.length ≤ 5000000000 := by rw [HXc.out, List.length_append, List.length_singleton]; omega
              obtain ⟨y0, y1, y2, y3, y4⟩ := (HFA.out.alloc _).grown HG.out (by omega) (by omega) (by omega)
              have f1 : W2.cell? ⟨eb, eo + p', none⟩ = some (.int .i64 (s : Int)) := HG.out.cell ((World.grownBy_alloc _ _ none).cell ((hbA.cell (p := ⟨eb, eo + p', none⟩) hebl).trans f0') (by simp)) (by simp; omega)
              have hbA : Below w.heap.size w W2 := (hbA.alloc (by simp; omega) _).trans (grown_below HG.out hgO (by simp; omega))
              have hgc : wr.heap.size ≠ g := by
                intro e
                obtain ⟨cur, hcur⟩ := HBX.out.block
                rw [← e, HG.out.block wr.heap.size (by simp; omega) (by simp; omega)] at hcur
                have h2 : ((wr.alloc (.cells #[.int .i64 (q : Int), .int .i64 n] 46)).alloc (.cells #[.int .u8 44] 5)).heap[wr.heap.size]? = some (.cells #[.int .i64 (q : Int), .int .i64 n] 46) := by
                  rw [heap_alloc_old _ _ (by simp)]; exact heap_alloc_new wr _
                rw [h2] at hcur
                cases hcur
              clear HFA HBA HG HXc
              go_wp2
              go_quiet (fail)
              go_wp2
            all_goals
              have hbA := below_drewN hbA nq
              have HBX : Hid (Buf w.heap.size (W2.drewN nq) g cap X) := HBX
              have y0 : (W2.drewN nq).cell? _ = _ := y0
              have y1 : (W2.drewN nq).cell? _ = _ := y1
              have y2 : (W2.drewN nq).cell? _ = _ := y2
              have y3 : (W2.drewN nq).cell? _ = _ := y3
              have y4 : (W2.drewN nq).cell? _ = _ := y4
              generalize W2.drewN nq = W2 at *
              have hEp : (0 : Int) < (E.length : Int) := by omega
              have hgl2 := HBX.out.lt
              obtain ⟨ad, had, HKC⟩ := key_addr HK.out (below_drew hbA) hst htk
              have htki : (t : Int) ≤ (K.length : Int) := by omega
              have hsti : ((s : Int) : Int) ≤ (t : Int) := by omega
              go_region_held3 (fun w' => w'.cell? ⟨p, 0, none⟩ = some (.slice (some ⟨kb, 0, none⟩) K.length K.length) ∧ w'.cell? ⟨p, 1, none⟩ = some (.slice (some ⟨eb, eo, none⟩) E.length ec) ∧ w'.cell? ⟨wr.heap.size, 0, none⟩ = some (.int .i64 (q : Int)) ∧ w'.cell? ⟨eb, (eo + q), none⟩ = some (.int .i64 (t : Int))) (first | go_keep | exact ⟨HG2.out.cell y0 (by simp; omega), HG2.out.cell y1 (by simp; omega), HG2.out.cell y2 (by simp; omega), HG2.out.cell y4 (by simp; omega)⟩)
                ((refine step_bufm rfl _ _ (by rfl) w.heap.size g cap X (Vc.sub K s t) (by rfl) HBX.out ad (t - s) (K.length - s) (by rfl) (sub_len hst htk) HKC.out (by rw [sub_len hst htk]; omega) ?_; intro X2 g2 cap2 W3 HX2 HB2 HG2))
              have hb3 : Below w.heap.size w W3 := (below_drew hbA).trans (grown_below HG2.out hgl2.1 (by have := hbA.size; exact this))
              have z3 : W3.cell? ⟨wr.heap.size, 1, none⟩ = some (.int .i64 n) := HG2.out.cell y3 (by simp; omega)
              have hX2l : X2.length ≤ 6000000000 := by rw [HX2.out, List.length_append, sub_len hst htk]; omega
              go_wp2_with fail
              refine (int_call w.heap.size g2 cap2 X2 n hwf.1 hwf.2 _ HB2.out (by omega) (HT.out.on hb3)).mono ?_
              rintro e W4 ⟨X3, g3, cap3, rfl, HX3, HB3, hb4⟩
              have HXn : Hid (X3 = X0 ++ Vc.inside K E (C.take (k + 1))) := (show _ = _ by rw [HX3.out, HX2.out, HX1.out, HS.out, emit_pre hz, HKey.out]; simp [List.append_assoc])
              have hb5 : Below w.heap.size w W4 := hb3.trans hb4
              go_wp2
              go_roundw
              case rel => exact ⟨k + 1, X3, g3, cap3, by omega, rfl, by go_num, HXn, HB3, hb5⟩
              case measure => simp [intOf]; omega
    · rw [List.take_of_length_le (by omega)] at hacc
      have hXl : X.length ≤ 5000000000 := by have := HXl.out; omega
      have HXa : Hid (X = X0 ++ acc) := (show _ = _ by rw [HX.out, hacc, List.take_of_length_le (by omega)])
      have HAC : Hid (acc = Vc.inside K E C) := hacc
      clear hacc HX
      go_wp2_with (at_builtin; refine wpList_buf rfl _ _ rfl w.heap.size g cap X [125] rfl (HB.out.alloc _) ⟨wr.heap.size, 0, none⟩ 1 rfl (lit_bytes _ _ (by simp) 125 125 rfl) (by simp; omega) ?_)
      intro X2 g2 cap2 W2 HX2 HB2 HG2
      have hb2 : Below w.heap.size w W2 := (hb.alloc hb.size _).trans (grown_below HG2.out HB.out.lt.1 (by have := hb.size; simp; omega))
      go_wp2
      go_ret
      exact ⟨X2, g2, cap2, rfl, (show _ = _ by rw [HX2.out, HXa.out, HX0.out, HAC.out]), ⟨HB2.out.row, HB2.out.cap⟩, hb2⟩
end Go.Proofs.Qxb6619558aDoor
