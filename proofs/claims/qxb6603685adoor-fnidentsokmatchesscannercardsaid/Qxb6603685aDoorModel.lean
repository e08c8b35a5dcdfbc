import Derived.Test.Qxb6603685aDoorLeaves
namespace Go.Proofs.Qxb6603685aDoor
open Go.RowKit

theorem drop_cons (s : ByteArray) (k : Nat) (h : k < s.size) : s.data.toList.drop k = s[k] :: s.data.toList.drop (k + 1) := by
  rw [List.drop_eq_getElem_cons (by simpa using h)]; rfl

/-- what the scanner answers from a round's head on. -/
def rest (pre : Bool) (s : ByteArray) (k n : Nat) (dg lz : Bool) : Bool := Idn.model pre n dg lz (s.data.toList.drop k)

theorem byte_eq {c d : UInt8} (h : ((c.toNat : Int) == (d.toNat : Int)) = true) : c = d := by
  have := eq_of_beq h
  exact UInt8.toNat_inj.1 (by omega)
theorem byte_ne {c d : UInt8} (h : ((c.toNat : Int) == (d.toNat : Int)) = false) : c ≠ d := by
  rintro rfl
  simp at h

theorem rest_dot {pre : Bool} {s : ByteArray} {k n : Nat} {dg lz : Bool} (h : k < s.size) (e : ((s[k].toNat : Int) == 46) = true) :
    rest pre s k n dg lz = if Idn.segEnd n dg lz pre then rest pre s (k + 1) 0 true false else false := by
  have hc : s[k] = 46 := byte_eq (d := 46) e
  unfold rest
  rw [drop_cons s k h, Idn.model, if_pos hc]
theorem rest_other {pre : Bool} {s : ByteArray} {k n : Nat} {dg lz : Bool} (h : k < s.size) (e : ((s[k].toNat : Int) == 46) = false) :
    rest pre s k n dg lz = if Idn.isId s[k] then rest pre s (k + 1) (n + 1) (dg && Idn.isDig s[k]) (if n = 0 then s[k] == 48 else lz) else false := by
  have hc : ¬ s[k] = 46 := byte_ne (d := 46) e
  unfold rest
  rw [drop_cons s k h, Idn.model, if_neg hc]
theorem eq48 (c : UInt8) : ((c.toNat : Int) == 48) = (c == 48) := by
  rw [Bool.eq_iff_iff, beq_iff_eq, beq_iff_eq]
  exact ⟨fun h => byte_eq (d := 48) (beq_iff_eq.2 h), fun h => by rw [h]; rfl⟩

theorem rest_next {pre : Bool} {s : ByteArray} {k n : Nat} {dg lz b1 b2 : Bool} (h : k < s.size) (e : ((s[k].toNat : Int) == 46) = false) (e2 : (!Idn.isId s[k]) = false)
    (hn : ((n : Int) == 0) = b1) (hd : (!Idn.isDig s[k]) = b2) :
    rest pre s k n dg lz = rest pre s (k + 1) (n + 1) (if b2 then false else dg) (if b1 then ((s[k].toNat : Int) == 48) else lz) := by
  rw [rest_other h e, if_pos (by simpa using e2), eq48]
  have hd' : Idn.isDig s[k] = !b2 := by rw [← hd, Bool.not_not]
  have hn' : (n = 0) ↔ b1 = true := by rw [← hn, beq_iff_eq]; omega
  rw [hd']
  cases b2 <;> cases b1 <;> simp at hn' <;> simp [hn']

set_option maxHeartbeats 400000 in
theorem model_any (s : ByteArray) (pre : Bool) (w : World) (hs : s.size ≤ 1048576) :
    Calls Tryd.prog 7 #[.string s, .bool pre] w fun e w' => e = .returned (.bool (Idn.model pre 0 true false s.data.toList)) ∧ w' = w := by
  go_enter Tryd.func7, Tryd.ntmps7
  go_wp2
  go_loop [5, 6, 7, 8] (fun vn vd vl vi => ∃ (k n : Nat) (dg lz : Bool), k ≤ s.size ∧ n ≤ k ∧ vi = .int .i64 k ∧ vn = .int .i64 n ∧ vd = .bool dg ∧ vl = .bool lz ∧ Hid (Idn.model pre 0 true false s.data.toList = rest pre s k n dg lz))
    (fun _ _ _ i => s.size - (intOf i).toNat)
  case atStart => exact ⟨0, 0, true, false, by omega, by omega, rfl, rfl, rfl, rfl, rfl⟩
  case round =>
    obtain ⟨k, n, dg, lz, hk, hn, rfl, rfl, rfl, rfl, HM⟩ := hrel
    by_cases hlt : k < s.size
    · go_wp2_with (first
        | (go_at_call 15; refine (digit_any _ _).mono ?_; rintro e w' ⟨rfl, rfl⟩)
        | (go_at_call 14; refine (identByte_any _ _).mono ?_; rintro e w' ⟨rfl, rfl⟩)
        | (go_at_call 13; refine (segmentOK_any _ _ _ _ _).mono ?_; rintro e w' ⟨rfl, rfl⟩))
      · have e1 : ((s[k].toNat : Int) == 46) = true := by assumption
        have e2 : (!Idn.segEnd n dg lz pre) = true := by assumption
        go_ret
        refine ⟨ret_bool ?_, rfl⟩
        rw [HM.out, rest_dot hlt e1, if_neg (by simpa using e2)]
      · have e1 : ((s[k].toNat : Int) == 46) = true := by assumption
        have e2 : (!Idn.segEnd n dg lz pre) = false := by assumption
        go_round
        case rel => exact ⟨k + 1, 0, true, false, by omega, by omega, by go_num, rfl, rfl, rfl, HM.out.trans (by rw [rest_dot hlt e1, if_pos (by simpa using e2)])⟩
        case measure => simp [intOf]; omega
      · have e1 : ((s[k].toNat : Int) == 46) = false := by assumption
        have e2 : (!Idn.isId s[k]) = true := by assumption
        go_ret
        refine ⟨ret_bool ?_, rfl⟩
        rw [HM.out, rest_other hlt e1, if_neg (by simpa using e2)]
      · have e1 : ((s[k].toNat : Int) == 46) = false := by assumption
        have e2 : (!Idn.isId s[k]) = false := by assumption
        have e3 : ((n : Int) == 0) = true := by assumption
        have e4 : (!Idn.isDig s[k]) = true := by assumption
        go_round
        case rel => exact ⟨k + 1, n + 1, _, _, by omega, by omega, by go_num, by go_num, rfl, rfl, HM.out.trans (rest_next hlt e1 e2 e3 e4)⟩
        case measure => simp [intOf]; omega
      · have e1 : ((s[k].toNat : Int) == 46) = false := by assumption
        have e2 : (!Idn.isId s[k]) = false := by assumption
        have e3 : ((n : Int) == 0) = true := by assumption
        have e4 : (!Idn.isDig s[k]) = false := by assumption
        go_round
        case rel => exact ⟨k + 1, n + 1, _, _, by omega, by omega, by go_num, by go_num, rfl, rfl, HM.out.trans (rest_next hlt e1 e2 e3 e4)⟩
        case measure => simp [intOf]; omega
      · have e1 : ((s[k].toNat : Int) == 46) = false := by assumption
        have e2 : (!Idn.isId s[k]) = false := by assumption
        have e3 : ((n : Int) == 0) = false := by assumption
        have e4 : (!Idn.isDig s[k]) = true := by assumption
        go_round
        case rel => exact ⟨k + 1, n + 1, _, _, by omega, by omega, by go_num, by go_num, rfl, rfl, HM.out.trans (rest_next hlt e1 e2 e3 e4)⟩
        case measure => simp [intOf]; omega
      · have e1 : ((s[k].toNat : Int) == 46) = false := by assumption
        have e2 : (!Idn.isId s[k]) = false := by assumption
        have e3 : ((n : Int) == 0) = false := by assumption
        have e4 : (!Idn.isDig s[k]) = false := by assumption
        go_round
        case rel => exact ⟨k + 1, n + 1, _, _, by omega, by omega, by go_num, by go_num, rfl, rfl, HM.out.trans (rest_next hlt e1 e2 e3 e4)⟩
        case measure => simp [intOf]; omega
    · go_wp2_with (first
        | (go_at_call 13; refine (segmentOK_any _ _ _ _ _).mono ?_; rintro e w' ⟨rfl, rfl⟩))
      go_ret
      refine ⟨ret_bool ?_, rfl⟩
      rw [HM.out, rest, List.drop_eq_nil_of_le (by simp; omega)]
      rfl
end Go.Proofs.Qxb6603685aDoor
