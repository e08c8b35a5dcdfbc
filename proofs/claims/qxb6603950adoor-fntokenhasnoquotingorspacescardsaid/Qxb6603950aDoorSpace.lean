import Derived.Test.Qxb6603950aDoorRows
import Derived.Test.Qxb6603950aDoorPlain
import Derived.WalkKit
import Derived.WalkSpells
import Derived.WalkLawsBesides
namespace Go.Proofs.Qxb6603950aDoor
open Go.RowKit

theorem ret_bool {a b : Bool} (h : a = b) : Ending.returned (.bool a) = .returned (.bool b) := by rw [h]
theorem ret_int {k : IntKind} {a b : Int} (h : a = b) : Ending.returned (.int k a) = .returned (.int k b) := by rw [h]
theorem drop_cons (s : ByteArray) (k : Nat) (h : k < s.size) : s.data.toList.drop k = s[k] :: s.data.toList.drop (k + 1) := by
  rw [List.drop_eq_getElem_cons (by simpa using h)]; rfl
theorem drop_end (s : ByteArray) (k : Nat) (h : s.size ≤ k) : s.data.toList.drop k = [] := List.drop_eq_nil_of_le (by simpa using h)
theorem byte_eq {c d : UInt8} (h : ((c.toNat : Int) == (d.toNat : Int)) = true) : c = d := by
  have := eq_of_beq h
  exact UInt8.toNat_inj.1 (by omega)
theorem beqI (c d : UInt8) : (c == d) = ((c.toNat : Int) == (d.toNat : Int)) := by
  rw [Bool.eq_iff_iff, beq_iff_eq, beq_iff_eq]
  exact ⟨fun h => by rw [h], fun h => byte_eq (beq_iff_eq.2 h)⟩

theorem natI (c : UInt8) (n : Nat) (h : n < 256) : c = UInt8.ofNat n ↔ (c.toNat : Int) = n := by
  rw [← UInt8.toNat_inj]
  have : (UInt8.ofNat n).toNat = n := by simp [UInt8.toNat_ofNat']; omega
  rw [this]; omega
theorem sp1_iff (c : UInt8) : Sip.sp1 c = true ↔ ((c.toNat : Int) = 32 ∨ 9 ≤ (c.toNat : Int) ∧ (c.toNat : Int) ≤ 13) := by
  simp only [Sip.sp1, Bool.or_eq_true, Bool.and_eq_true, beq_iff_eq, decide_eq_true_eq]
/-- the three-byte patterns, over Int. -/
def P3 (c b1 b2 : Int) : Prop :=
  (c = 225 ∧ b1 = 154 ∧ b2 = 128) ∨
  (c = 226 ∧ ((b1 = 128 ∧ ((128 ≤ b2 ∧ b2 ≤ 138) ∨ b2 = 168 ∨ b2 = 169 ∨ b2 = 175)) ∨ (b1 = 129 ∧ b2 = 159))) ∨
  (c = 227 ∧ b1 = 128 ∧ b2 = 128)
theorem sp3_iff (c b1 b2 : UInt8) : Sip.sp3 c b1 b2 = true ↔ P3 c.toNat b1.toNat b2.toNat := by
  have e := fun (c : UInt8) (n : Nat) (h : n < 256) => natI c n h
  have e1 := e c 225 (by omega)
  have e2 := e c 226 (by omega)
  have e3 := e c 227 (by omega)
  have e4 := e b1 154 (by omega)
  have e5 := e b1 128 (by omega)
  have e6 := e b1 129 (by omega)
  have e7 := e b2 128 (by omega)
  have e8 := e b2 168 (by omega)
  have e9 := e b2 169 (by omega)
  have e10 := e b2 175 (by omega)
  have e11 := e b2 159 (by omega)
  simp only [Sip.sp3, P3, Bool.or_eq_true, Bool.and_eq_true, beq_iff_eq, decide_eq_true_eq]
  simp only [UInt8.reduceOfNat] at e1 e2 e3 e4 e5 e6 e7 e8 e9 e10 e11
  rw [e1, e2, e3, e4, e5, e6, e7, e8, e9, e10, e11]
  simp only [or_assoc, and_assoc]
  rfl
theorem is2_iff (b : UInt8) : (b == 0x85 || b == 0xA0) = true ↔ ((b.toNat : Int) = 133 ∨ (b.toNat : Int) = 160) := by
  have e1 := natI b 133 (by omega)
  have e2 := natI b 160 (by omega)
  simp only [UInt8.reduceOfNat] at e1 e2
  simp only [Bool.or_eq_true, beq_iff_eq, e1, e2]
  rfl
theorem c2_iff (c : UInt8) : (c == 0xC2) = true ↔ (c.toNat : Int) = 194 := by
  have e1 := natI c 194 (by omega)
  simp only [UInt8.reduceOfNat] at e1
  rw [beq_iff_eq, e1]
  rfl
theorem len1 {c : UInt8} {k : Int} (h : k = if ((c.toNat : Int) = 32 ∨ 9 ≤ (c.toNat : Int) ∧ (c.toNat : Int) ≤ 13) then 1 else 0) : k = (Sip.spLen [c] : Int) := by
  rw [h]
  simp only [Sip.spLen, sp1_iff]
  split <;> simp_all
theorem len2 {c b1 : UInt8} {k : Int} (h : k = if ((c.toNat : Int) = 32 ∨ 9 ≤ (c.toNat : Int) ∧ (c.toNat : Int) ≤ 13) then 1 else if (c.toNat : Int) = 194 ∧ ((b1.toNat : Int) = 133 ∨ (b1.toNat : Int) = 160) then 2 else 0) : k = (Sip.spLen [c, b1] : Int) := by
  rw [h]
  simp only [Sip.spLen, sp1_iff, Bool.and_eq_true, c2_iff, is2_iff]
  split
  · simp_all
  · split <;> simp_all
open Classical in
theorem len3 {c b1 b2 : UInt8} {t : List UInt8} {k : Int} (h : k = if ((c.toNat : Int) = 32 ∨ 9 ≤ (c.toNat : Int) ∧ (c.toNat : Int) ≤ 13) then 1 else if (c.toNat : Int) = 194 then (if (b1.toNat : Int) = 133 ∨ (b1.toNat : Int) = 160 then 2 else 0) else if P3 c.toNat b1.toNat b2.toNat then 3 else 0) :
    k = (Sip.spLen (c :: b1 :: b2 :: t) : Int) := by
  rw [h]
  simp only [Sip.spLen, sp1_iff, c2_iff, is2_iff, sp3_iff]
  split
  · simp_all
  · split
    · split <;> simp_all
    · split <;> simp_all

set_option maxHeartbeats 1000000 in
theorem spaceLen_any (t : ByteArray) (i : Nat) (w : World) (hs : t.size ≤ 1048576) (hi : i < t.size) :
    Calls Tryd.prog 23 #[.string t, .int .i64 i] w fun e w' => e = .returned (.int .i64 (Sip.spLen (t.data.toList.drop i))) ∧ w' = w := by
  by_cases h2 : i + 2 < t.size
  · have h1 : i + 1 < t.size := by omega
    have HD : Hid (t.data.toList.drop i = t[i] :: t[i + 1] :: t[i + 2] :: t.data.toList.drop (i + 3)) := by
      unfold Hid; rw [drop_cons t i hi, drop_cons t (i + 1) h1, drop_cons t (i + 2) h2]
    go_enter Tryd.func23, Tryd.ntmps23
    go_wp2
    all_goals
      go_ret
      refine ⟨ret_int ?_, rfl⟩
      rw [HD.out]
      refine len3 ?_
      unfold P3
      try simp only [beq_iff_eq, beq_eq_false_iff_ne, ne_eq] at *
      omega
  · by_cases h1 : i + 1 < t.size
    · have HD : Hid (t.data.toList.drop i = [t[i], t[i + 1]]) := by
        unfold Hid; rw [drop_cons t i hi, drop_cons t (i + 1) h1, drop_end t (i + 2) (by omega)]
      go_enter Tryd.func23, Tryd.ntmps23
      go_wp2
      all_goals
        go_ret
        refine ⟨ret_int ?_, rfl⟩
        rw [HD.out]
        refine len2 ?_
        try simp only [beq_iff_eq, beq_eq_false_iff_ne, ne_eq] at *
        omega
    · have HD : Hid (t.data.toList.drop i = [t[i]]) := by
        unfold Hid; rw [drop_cons t i hi, drop_end t (i + 1) (by omega)]
      go_enter Tryd.func23, Tryd.ntmps23
      go_wp2
      all_goals
        go_ret
        refine ⟨ret_int ?_, rfl⟩
        rw [HD.out]
        refine len1 ?_
        try simp only [beq_iff_eq, beq_eq_false_iff_ne, ne_eq] at *
        omega
end Go.Proofs.Qxb6603950aDoor
