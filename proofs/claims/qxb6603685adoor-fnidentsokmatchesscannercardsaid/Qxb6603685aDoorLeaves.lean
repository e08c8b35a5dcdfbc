import Derived.Test.Qxb6603685aDoorRows
import Derived.Test.Qxb6603685aDoorPlain
import Derived.WalkKit
import Derived.WalkSpells
import Derived.WalkLawsBesides
namespace Go.Proofs.Qxb6603685aDoor
open Go.RowKit

theorem ret_bool {a b : Bool} (h : a = b) : Ending.returned (.bool a) = .returned (.bool b) := by rw [h]

set_option maxHeartbeats 400000 in
theorem digit_any (c : UInt8) (w : World) :
    Calls Tryd.prog 15 #[.int .u8 c.toNat] w fun e w' => e = .returned (.bool (Idn.isDig c)) ∧ w' = w := by
  go_enter Tryd.func15, Tryd.ntmps15
  go_wp2
  · have h1 : (48 : Int) ≤ c.toNat := by assumption
    go_ret
    exact ⟨ret_bool (by unfold Idn.isDig; rw [decide_eq_true h1, Bool.true_and]), rfl⟩
  · have h1 : (c.toNat : Int) < 48 := by assumption
    go_ret
    exact ⟨ret_bool (by unfold Idn.isDig; rw [decide_eq_false (by omega), Bool.false_and]), rfl⟩

set_option maxHeartbeats 400000 in
theorem identByte_any (c : UInt8) (w : World) :
    Calls Tryd.prog 14 #[.int .u8 c.toNat] w fun e w' => e = .returned (.bool (Idn.isId c)) ∧ w' = w := by
  go_enter Tryd.func14, Tryd.ntmps14
  go_wp2_with (go_at_call 15; refine (digit_any _ _).mono ?_; rintro e w' ⟨rfl, rfl⟩)
  all_goals
    go_ret
    refine ⟨ret_bool ?_, rfl⟩
    unfold Idn.isId
    rw [Bool.eq_iff_iff]
    simp [*]
  all_goals omega

set_option maxHeartbeats 400000 in
theorem segmentOK_any (n : Nat) (dg lz pre : Bool) (w : World) :
    Calls Tryd.prog 13 #[.int .i64 n, .bool dg, .bool lz, .bool pre] w fun e w' => e = .returned (.bool (Idn.segEnd n dg lz pre)) ∧ w' = w := by
  by_cases h0 : n = 0
  · subst h0
    go_enter Tryd.func13, Tryd.ntmps13
    go_wp2
    go_ret
    exact ⟨rfl, rfl⟩
  · have hb : ((n : Int) == 0) = false := by rw [beq_eq_false_iff_ne]; omega
    cases pre <;> cases dg <;> cases lz
    all_goals
      go_enter Tryd.func13, Tryd.ntmps13
      go_wp2
    all_goals
      go_ret
      refine ⟨ret_bool ?_, rfl⟩
      unfold Idn.segEnd
      rw [if_neg h0]
    all_goals first | rfl | (rw [if_pos (by simp; omega)]) | (rw [if_neg (by simp; omega)])

set_option maxHeartbeats 400000 in
theorem bytes_any (s : ByteArray) (pre : Bool) (w : World) :
    Calls Tryd.prog 5 #[.string s, .bool pre] w fun e w' => e = .returned (.bool (decide (s.size ≤ 1048576))) ∧ w' = w := by
  by_cases h : s.size ≤ 1048576
  · go_enter Tryd.func5, Tryd.ntmps5
    go_wp2
    go_ret
    exact ⟨ret_bool (by simp [h]), rfl⟩
  · go_enter Tryd.func5, Tryd.ntmps5
    go_wp2
    go_ret
    exact ⟨ret_bool (by simp [h]), rfl⟩
end Go.Proofs.Qxb6603685aDoor
