import Derived.Test.Qxb6621686aDoorString
namespace Go.Proofs.Qxb6621686aDoor
open Go.RowKit

theorem size_len (s : ByteArray) : s.data.toList.length = s.size := by simp
theorem get_list (s : ByteArray) (k : Nat) (h : k < s.size) : s.data.toList[k]'(by rw [size_len]; exact h) = s[k] := rfl
theorem get_at (s : ByteArray) (k : Nat) (h : k < s.size) : s.data.toList[k]? = some s[k] := by
  rw [List.getElem?_eq_getElem (by rw [size_len]; exact h), get_list s k h]
theorem get_of {s : ByteArray} {l : List UInt8} (h : s.data.toList = l) (k : Nat) (hk : k < s.size) (hl : k < l.length) : s[k] = l[k] := by
  subst h; exact (get_list s k hk).symm

/-- what the tests of the loop ask of one digit: the next number is still within int64 -/
theorem digit_fits (v d m : Nat) (h : v * 10 + d ≤ m) (hm : m ≤ 9223372036854775808) (hd : d ≤ 9) : (-9223372036854775808 + (48 + (d : Int) - 48)).tdiv 10 ≤ -(v : Int) := by
  have h1 : (-9223372036854775808 + (48 + (d : Int) - 48)) = -(9223372036854775808 - (d : Int)) := by omega
  rw [h1, Int.neg_tdiv, Int.tdiv_eq_ediv_of_nonneg (by omega)]
  omega

/-- the frame of an event's text: what the tests ahead of the loop ask -/
theorem frame_facts (s : ByteArray) (bs : List UInt8) (hs : s.data.toList = [69, 118, 101, 110, 116, 40] ++ bs ++ [41]) :
    s.size = bs.length + 7 ∧ (s.toList == [110, 111, 110, 101]) = false ∧ (s.toList == [115, 116, 97, 114, 116, 101, 100]) = false ∧ (s.toList == [99, 111, 109, 112, 108, 101, 116, 101, 100]) = false ∧
    (s.toList == [115, 116, 111, 112, 112, 101, 100]) = false ∧ (s.extract 0 6).toList = [69, 118, 101, 110, 116, 40] ∧ (∀ h : s.size - 1 < s.size, s[s.size - 1].toNat = 41) ∧
    (s.extract 6 (s.size - 1)).data.toList = bs := by
  have hsz : s.size = bs.length + 7 := by rw [← size_len, hs]; simp
  refine ⟨hsz, by rw [Lib.toList_data, hs]; simp, by rw [Lib.toList_data, hs]; simp, by rw [Lib.toList_data, hs]; simp, by rw [Lib.toList_data, hs]; simp, ?_, ?_, ?_⟩
  · rw [Lib.toList_data, Lib.extract_data, hs]; simp
  · intro h
    rw [get_of hs _ h (by simp; omega)]
    have e : s.size - 1 = ([69, 118, 101, 110, 116, 40] ++ bs).length := by simp; omega
    simp only [e]
    rw [List.getElem_append_right (Nat.le_refl _)]
    simp
  · rw [Lib.extract_data, hs, hsz]
    simp

/-- one round of the reading loop -/
theorem round_facts (D : ByteArray) (ds : List UInt8) (m : Nat) (hD : D.data.toList = ds) (hd : Ev.digits ds) (hv : Ev.val ds = m) (hm : m ≤ 9223372036854775808) (k : Nat) (hk : k < D.size) :
    ∃ v d : Nat, Ev.val (ds.take k) = v ∧ Ev.val (ds.take (k + 1)) = v * 10 + d ∧ d ≤ 9 ∧ v * 10 + d ≤ 9223372036854775808 ∧ D[k].toNat = 48 + d := by
  have hkl : k < ds.length := by rw [← hD, size_len]; exact hk
  have hc := hd ds[k] (List.getElem_mem _)
  refine ⟨_, ds[k].toNat - 48, rfl, Ev.val_take_succ ds k hkl, by omega, ?_, ?_⟩
  · rw [← Ev.val_take_succ ds k hkl]
    have := Ev.val_take_mono ds (k + 1) (by omega)
    omega
  · rw [get_of hD k hk hkl]; omega

set_option maxHeartbeats 1000000 in
set_option maxRecDepth 100000 in
theorem parse_pos (s : ByteArray) (m : Nat) (ds : List UInt8) (hs : s.data.toList = [69, 118, 101, 110, 116, 40] ++ ds ++ [41]) (hm : m ≤ 9223372036854775807) (h4 : 4 ≤ m) (hv : Ev.val ds = m) (hd : Ev.digits ds) (hl1 : 1 ≤ ds.length) (hl2 : ds.length ≤ 21) (hz : ∀ h : 0 < ds.length, ds[0].toNat ≠ 48) (w : World) :
    Calls Tryd.prog 5 #[.string s] w fun e w' => e = .returned (.tuple #[.int .i64 (m : Int), .bool true]) ∧ w' = w := by
  obtain ⟨hsz, t1, t2, t3, t4, t5, t6, t7⟩ := frame_facts s ds hs
  have s1 : 8 ≤ s.size := by have : ds.length + 7 ≤ s.size ∧ s.size ≤ ds.length + 8 := (by rw [hsz]; first | exact ⟨by omega, by omega⟩ | (simp; done) | (simp; omega)); omega
  have s2 : s.size ≤ 29 := by have : ds.length + 7 ≤ s.size ∧ s.size ≤ ds.length + 8 := (by rw [hsz]; first | exact ⟨by omega, by omega⟩ | (simp; done) | (simp; omega)); omega
  have hl0 : s.size - 1 < s.size := by omega
  have t8 := t6 hl0
  obtain ⟨B, hB⟩ : ∃ B, s.extract 6 (s.size - 1) = B := ⟨_, rfl⟩
  rw [hB] at t7
  obtain ⟨D, rfl⟩ : ∃ D, D = B := ⟨_, rfl⟩
  have hDl : D.data.toList = ds := t7
  have hDs : D.size = ds.length := by rw [← size_len, hDl]
  have d1 : 1 ≤ D.size := by omega
  have hD0 : 0 < D.size := d1
  have d2 : D.size ≤ 21 := by omega
  have c2 : ((D[0].toNat : Int) == 45) = false := by
    rw [beq_eq_false_iff_ne]; have := hd (ds[0]'(by omega)) (List.getElem_mem _); rw [get_of hDl 0 (by omega) (by omega)]; omega
  have c3 : ((D[0].toNat : Int) == 48) = false := by
    rw [beq_eq_false_iff_ne]; have := hz (by omega); rw [get_of hDl 0 (by omega) (by omega)]; omega
  have R : Hid (∀ k (hk : k < D.size), _) := fun k hk => round_facts D ds m hDl hd hv (by omega) k hk
  have E : Hid (Ev.val (ds.take D.size) = m) := (show _ = _ by rw [List.take_of_length_le (by omega)]; exact hv)
  clear hsz t6 t7 hDl hDs hv hd hz hl1 hl2 hs
  go_enter Tryd.func5, Tryd.ntmps5
  go_wp2
  go_loop [6, 7] (fun a i => ∃ k : Nat, k ≤ D.size ∧ i = .int .i64 k ∧ a = .int .i64 (-(Ev.val (ds.take k) : Nat))) (fun _ i => D.size - (intOf i).toNat)
  case atStart => exact ⟨0, Nat.zero_le _, rfl, rfl⟩
  case round =>
    obtain ⟨k, hk, rfl, rfl⟩ := hrel
    by_cases hlt : k < D.size
    · obtain ⟨v, d, e1, e2, e3, e4, e5⟩ := R.out k hlt
      have F := digit_fits v d _ e4 (Nat.le_refl _) e3
      rw [e1]
      have E2 : Hid (Ev.val (ds.take (k + 1)) = v * 10 + d) := e2
      clear e1 e2
      go_wp2
      go_round
      case rel => exact ⟨_, _, _, _, ⟨k + 1, by omega, rfl, rfl⟩, rfl, rfl, by rw [E2.out]; go_num, by go_num⟩
      case measure => simp [intOf]; omega
    · obtain rfl : k = D.size := by omega
      rw [E.out]
      go_wp2
      go_ret2
      exact ⟨rfl, rfl⟩

set_option maxHeartbeats 1000000 in
set_option maxRecDepth 100000 in
theorem parse_neg (s : ByteArray) (m : Nat) (ds : List UInt8) (hs : s.data.toList = [69, 118, 101, 110, 116, 40] ++ (45 :: ds) ++ [41]) (hm : m ≤ 9223372036854775808) (h4 : 1 ≤ m) (hv : Ev.val ds = m) (hd : Ev.digits ds) (hl1 : 1 ≤ ds.length) (hl2 : ds.length ≤ 21) (hz : ∀ h : 0 < ds.length, ds[0].toNat ≠ 48) (w : World) :
    Calls Tryd.prog 5 #[.string s] w fun e w' => e = .returned (.tuple #[.int .i64 (-(m : Int)), .bool true]) ∧ w' = w := by
  obtain ⟨hsz, t1, t2, t3, t4, t5, t6, t7⟩ := frame_facts s (45 :: ds) hs
  have s1 : 8 ≤ s.size := by have : ds.length + 7 ≤ s.size ∧ s.size ≤ ds.length + 8 := (by rw [hsz]; first | exact ⟨by omega, by omega⟩ | (simp; done) | (simp; omega)); omega
  have s2 : s.size ≤ 29 := by have : ds.length + 7 ≤ s.size ∧ s.size ≤ ds.length + 8 := (by rw [hsz]; first | exact ⟨by omega, by omega⟩ | (simp; done) | (simp; omega)); omega
  have hl0 : s.size - 1 < s.size := by omega
  have t8 := t6 hl0
  obtain ⟨B, hB⟩ : ∃ B, s.extract 6 (s.size - 1) = B := ⟨_, rfl⟩
  rw [hB] at t7
  have hBs : B.size = ds.length + 1 := by rw [← size_len, t7]; simp
  have b1 : 2 ≤ B.size := by omega
  have b2 : B.size ≤ 22 := by omega
  have c1 : ∀ h : 0 < B.size, B[0].toNat = 45 := fun h => by rw [get_of t7 0 h (by simp)]; rfl
  have hB0 : 0 < B.size := by omega
  have c2 := c1 hB0
  obtain ⟨D, hD⟩ : ∃ D, B.extract 1 B.size = D := ⟨_, rfl⟩
  have hDl : D.data.toList = ds := by rw [← hD, Lib.extract_data, t7, hBs]; simp
  have hDs : D.size = ds.length := by rw [← size_len, hDl]
  have d1 : 1 ≤ D.size := by omega
  have hD0 : 0 < D.size := d1
  have d2 : D.size ≤ 21 := by omega
  have c3 : ((D[0].toNat : Int) == 48) = false := by
    rw [beq_eq_false_iff_ne]; have := hz (by omega); rw [get_of hDl 0 (by omega) (by omega)]; omega
  have c4 : (D.toList == [48]) = false := by
    rw [beq_eq_false_iff_ne, Lib.toList_data]
    intro e
    rw [hDl] at e
    subst e
    exact hz (by simp) rfl
  have R : Hid (∀ k (hk : k < D.size), _) := fun k hk => round_facts D ds m hDl hd hv (by omega) k hk
  have E : Hid (Ev.val (ds.take D.size) = m) := (show _ = _ by rw [List.take_of_length_le (by omega)]; exact hv)
  clear hsz t6 t7 hDl hDs hv hd hz hl1 hl2 hs hBs c1
  go_enter Tryd.func5, Tryd.ntmps5
  go_wp2
  go_loop [6, 7] (fun a i => ∃ k : Nat, k ≤ D.size ∧ i = .int .i64 k ∧ a = .int .i64 (-(Ev.val (ds.take k) : Nat))) (fun _ i => D.size - (intOf i).toNat)
  case atStart => exact ⟨0, Nat.zero_le _, rfl, rfl⟩
  case round =>
    obtain ⟨k, hk, rfl, rfl⟩ := hrel
    by_cases hlt : k < D.size
    · obtain ⟨v, d, e1, e2, e3, e4, e5⟩ := R.out k hlt
      have F := digit_fits v d _ e4 (Nat.le_refl _) e3
      rw [e1]
      have E2 : Hid (Ev.val (ds.take (k + 1)) = v * 10 + d) := e2
      clear e1 e2
      go_wp2
      go_round
      case rel => exact ⟨_, _, _, _, ⟨k + 1, by omega, rfl, rfl⟩, rfl, rfl, by rw [E2.out]; go_num, by go_num⟩
      case measure => simp [intOf]; omega
    · obtain rfl : k = D.size := by omega
      rw [E.out]
      go_wp2
      go_ret2
      exact ⟨rfl, rfl⟩

end Go.Proofs.Qxb6621686aDoor
