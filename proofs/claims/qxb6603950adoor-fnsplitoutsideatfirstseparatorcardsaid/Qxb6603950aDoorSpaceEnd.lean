import Derived.Test.Qxb6603950aDoorSpace
namespace Go.Proofs.Qxb6603950aDoor
open Go.RowKit

theorem spaceLen_int (t : ByteArray) (x : Int) (w : World) (hs : t.size ≤ 1048576) (h0 : 0 ≤ x) (h1 : x < t.size) :
    Calls Tryd.prog 23 #[.string t, .int .i64 x] w fun e w' => e = .returned (.int .i64 (Sip.spLen (t.data.toList.drop x.toNat))) ∧ w' = w := by
  obtain ⟨n, rfl⟩ := Int.eq_ofNat_of_zero_le h0
  rw [Int.toNat_natCast]
  exact spaceLen_any t n w hs (by omega)

/-- the white-space character that ends u, by its parts. -/
theorem end_eq (u : ByteArray) (h : ¬ u.size = 0) : Sip.endLen u.data.toList =
    if Sip.sp1 (u[u.size - 1]'(by omega)) then 1
    else if 2 ≤ u.size ∧ Sip.spLen (u.data.toList.drop (u.size - 2)) = 2 then 2
    else if 3 ≤ u.size ∧ Sip.spLen (u.data.toList.drop (u.size - 3)) = 3 then 3 else 0 := by
  have hl : u.data.toList.length = u.size := by simp
  unfold Sip.endLen
  rw [hl, if_neg h]
  have e : u.data.toList.getD (u.size - 1) 0 = u[u.size - 1]'(by omega) := by
    rw [List.getD_eq_getElem?_getD, List.getElem?_eq_getElem (by omega)]
    rfl
  rw [e]
theorem len_le (l : List UInt8) : Sip.spLen l ≤ l.length := by rw [Sip.spLen_eq]; exact Sip.head_le l
theorem spLen_le3 (l : List UInt8) : Sip.spLen l ≤ 3 := by
  by_cases h : Sip.spLen l = 0
  · omega
  · obtain ⟨q, hq, t, rfl⟩ := Sip.spLen_mem l h
    have := Sip.seq_pos q hq
    rw [Sip.seq_len q hq]; omega

theorem end_of {u : ByteArray} {k : Int} (h0 : ¬ u.size = 0)
    (h : k = if ((u[u.size - 1].toNat : Int) = 32 ∨ 9 ≤ (u[u.size - 1].toNat : Int) ∧ (u[u.size - 1].toNat : Int) ≤ 13) then 1
      else if 2 ≤ u.size ∧ Sip.spLen (u.data.toList.drop (u.size - 2)) = 2 then 2
      else if 3 ≤ u.size ∧ Sip.spLen (u.data.toList.drop (u.size - 3)) = 3 then 3 else 0) : k = (Sip.endLen u.data.toList : Int) := by
  rw [h, end_eq u h0]
  simp only [sp1_iff]
  repeat' split
  all_goals first | rfl | simp_all

set_option maxHeartbeats 1000000 in
theorem spaceEnd_any (u : ByteArray) (w : World) (hs : u.size ≤ 1048576) :
    Calls Tryd.prog 24 #[.string u] w fun e w' => e = .returned (.int .i64 (Sip.endLen u.data.toList)) ∧ w' = w := by
  by_cases h0 : u.size = 0
  · have hb : ((u.size : Int) == 0) = true := by rw [beq_iff_eq]; omega
    have HR : Hid (Sip.endLen u.data.toList = 0) := by unfold Hid Sip.endLen; rw [if_pos (by simpa using h0)]
    go_enter Tryd.func24, Tryd.ntmps24
    go_wp2
    go_ret
    exact ⟨ret_int (by rw [HR.out]; rfl), rfl⟩
  · have hb : ((u.size : Int) == 0) = false := by rw [beq_eq_false_iff_ne]; omega
    go_enter Tryd.func24, Tryd.ntmps24
    go_wp2_with (go_at_call 23; refine (spaceLen_int _ _ _ hs (by omega) (by omega)).mono ?_; rintro e w' ⟨rfl, rfl⟩)
    all_goals
      go_ret
      refine ⟨ret_int (end_of h0 ?_), rfl⟩
      try simp only [beq_iff_eq, beq_eq_false_iff_ne, ne_eq] at *
      omega
end Go.Proofs.Qxb6603950aDoor
