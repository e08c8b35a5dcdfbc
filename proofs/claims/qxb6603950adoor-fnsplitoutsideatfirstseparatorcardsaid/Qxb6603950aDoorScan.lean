import Derived.Test.Qxb6603950aDoorSpace
import Derived.Test.Qxb6603950aDoorShelf
namespace Go.Proofs.Qxb6603950aDoor
open Go.RowKit

/-- from a round's head on: the plain search. -/
def seekB (c : UInt8) (s : ByteArray) (k : Nat) : Int := Sip.idxB c k (s.data.toList.drop k)
theorem seekB_hit (c : UInt8) (s : ByteArray) (k : Nat) (h : k < s.size) (e : ((s[k].toNat : Int) == (c.toNat : Int)) = true) : seekB c s k = k := by
  have e1 : (s[k] == c) = true := by rw [beqI]; exact e
  unfold seekB; rw [drop_cons s k h, Sip.idxB, if_pos e1]
theorem seekB_miss (c : UInt8) (s : ByteArray) (k : Nat) (h : k < s.size) (e : ((s[k].toNat : Int) == (c.toNat : Int)) = false) : seekB c s k = seekB c s (k + 1) := by
  have e1 : (s[k] == c) = false := by rw [beqI]; exact e
  unfold seekB; rw [drop_cons s k h, Sip.idxB, if_neg (by rw [e1]; simp)]
theorem seekB_end (c : UInt8) (s : ByteArray) (k : Nat) (h : ¬ k < s.size) : seekB c s k = -1 := by
  unfold seekB; rw [drop_end s k (by omega)]; rfl

set_option maxHeartbeats 400000 in
theorem indexByte_any (s : ByteArray) (c : UInt8) (w : World) (hs : s.size ≤ 1048576) :
    Calls Tryd.prog 9 #[.string s, .int .u8 c.toNat] w fun e w' => e = .returned (.int .i64 (Sip.idxB c 0 s.data.toList)) ∧ w' = w := by
  go_enter Tryd.func9, Tryd.ntmps9
  go_wp2
  go_loop [5] (fun vi => ∃ k : Nat, k ≤ s.size ∧ vi = .int .i64 k ∧ Hid (Sip.idxB c 0 s.data.toList = seekB c s k)) (fun i => s.size - (intOf i).toNat)
  case atStart => exact ⟨0, by omega, rfl, rfl⟩
  case round =>
    obtain ⟨k, hk, rfl, HM⟩ := hrel
    by_cases hlt : k < s.size
    · cases hc : ((s[k].toNat : Int) == (c.toNat : Int))
      · go_wp2
        go_round
        case rel => exact ⟨k + 1, by omega, by go_num, HM.out.trans (seekB_miss c s k hlt hc)⟩
        case measure => simp [intOf]; omega
      · go_wp2
        go_ret
        exact ⟨ret_int (HM.out.trans (seekB_hit c s k hlt hc)).symm, rfl⟩
    · go_wp2
      go_ret
      exact ⟨ret_int (HM.out.trans (seekB_end c s k hlt)).symm, rfl⟩

/-- from a round's head on: the search outside quotes. -/
def seekO (c : UInt8) (s : ByteArray) (q e : Bool) (k : Nat) : Int := Sip.idxO c q e k (s.data.toList.drop k)
theorem seekO_esc (c : UInt8) (s : ByteArray) (q : Bool) (k : Nat) (h : k < s.size) : seekO c s q true k = seekO c s q false (k + 1) := by
  unfold seekO; rw [drop_cons s k h, Sip.idxO, if_pos rfl]
theorem seekO_back (c : UInt8) (s : ByteArray) (k : Nat) (h : k < s.size) (h92 : ((s[k].toNat : Int) == 92) = true) : seekO c s true false k = seekO c s true true (k + 1) := by
  have e : (s[k] == 92) = true := by rw [beqI]; exact h92
  unfold seekO; rw [drop_cons s k h, Sip.idxO, if_neg (by simp), if_pos (by rw [e]; rfl)]
theorem seekO_quote (c : UInt8) (s : ByteArray) (q : Bool) (k : Nat) (h : k < s.size) (h34 : ((s[k].toNat : Int) == 34) = true) : seekO c s q false k = seekO c s (!q) false (k + 1) := by
  have e : s[k] = 34 := byte_eq (d := 34) h34
  have e2 : (s[k] == 92) = false := by rw [e]; rfl
  unfold seekO; rw [drop_cons s k h, Sip.idxO, if_neg (by simp), if_neg (by rw [e2]; simp), if_pos (by rw [e]; rfl)]
theorem seekO_in (c : UInt8) (s : ByteArray) (k : Nat) (h : k < s.size) (h92 : ((s[k].toNat : Int) == 92) = false) (h34 : ((s[k].toNat : Int) == 34) = false) : seekO c s true false k = seekO c s true false (k + 1) := by
  have e1 : (s[k] == 92) = false := by rw [beqI]; exact h92
  have e2 : (s[k] == 34) = false := by rw [beqI]; exact h34
  unfold seekO; rw [drop_cons s k h, Sip.idxO, if_neg (by simp), if_neg (by rw [e1]; simp), if_neg (by rw [e2]; simp), if_neg (by simp)]
theorem seekO_hit (c : UInt8) (s : ByteArray) (k : Nat) (h : k < s.size) (h34 : ((s[k].toNat : Int) == 34) = false) (hc : ((s[k].toNat : Int) == (c.toNat : Int)) = true) : seekO c s false false k = k := by
  have e2 : (s[k] == 34) = false := by rw [beqI]; exact h34
  have e3 : (s[k] == c) = true := by rw [beqI]; exact hc
  unfold seekO; rw [drop_cons s k h, Sip.idxO, if_neg (by simp), if_neg (by simp), if_neg (by rw [e2]; simp), if_pos (by rw [e3]; rfl)]
theorem seekO_miss (c : UInt8) (s : ByteArray) (k : Nat) (h : k < s.size) (h34 : ((s[k].toNat : Int) == 34) = false) (hc : ((s[k].toNat : Int) == (c.toNat : Int)) = false) : seekO c s false false k = seekO c s false false (k + 1) := by
  have e2 : (s[k] == 34) = false := by rw [beqI]; exact h34
  have e3 : (s[k] == c) = false := by rw [beqI]; exact hc
  unfold seekO; rw [drop_cons s k h, Sip.idxO, if_neg (by simp), if_neg (by simp), if_neg (by rw [e2]; simp), if_neg (by rw [e3]; simp)]
theorem seekO_end (c : UInt8) (s : ByteArray) (q e : Bool) (k : Nat) (h : ¬ k < s.size) : seekO c s q e k = -1 := by
  unfold seekO; rw [drop_end s k (by omega)]; cases q <;> cases e <;> rfl

set_option maxHeartbeats 400000 in
theorem indexOutside_any (s : ByteArray) (c : UInt8) (w : World) (hs : s.size ≤ 1048576) :
    Calls Tryd.prog 19 #[.string s, .int .u8 c.toNat] w fun e w' => e = .returned (.int .i64 (Sip.idxO c false false 0 s.data.toList)) ∧ w' = w := by
  go_enter Tryd.func19, Tryd.ntmps19
  go_wp2
  go_loop [5, 6, 7] (fun vq ve vi => ∃ (k : Nat) (q e : Bool), k ≤ s.size ∧ vi = .int .i64 k ∧ vq = .bool q ∧ ve = .bool e ∧ Hid (Sip.idxO c false false 0 s.data.toList = seekO c s q e k)) (fun _ _ i => s.size - (intOf i).toNat)
  case atStart => exact ⟨0, false, false, by omega, rfl, rfl, rfl, rfl⟩
  case round =>
    obtain ⟨k, q, e, hk, rfl, rfl, rfl, HM⟩ := hrel
    by_cases hlt : k < s.size
    · cases e
      · cases h34 : ((s[k].toNat : Int) == 34)
        · cases q
          · cases hc : ((s[k].toNat : Int) == (c.toNat : Int))
            · go_wp2
              go_round
              case rel => exact ⟨k + 1, false, false, by omega, by go_num, rfl, rfl, HM.out.trans (seekO_miss c s k hlt h34 hc)⟩
              case measure => simp [intOf]; omega
            · go_wp2
              go_ret
              exact ⟨ret_int (HM.out.trans (seekO_hit c s k hlt h34 hc)).symm, rfl⟩
          · cases h92 : ((s[k].toNat : Int) == 92)
            · go_wp2
              go_round
              case rel => exact ⟨k + 1, true, false, by omega, by go_num, rfl, rfl, HM.out.trans (seekO_in c s k hlt h92 h34)⟩
              case measure => simp [intOf]; omega
            · go_wp2
              go_round
              case rel => exact ⟨k + 1, true, true, by omega, by go_num, rfl, rfl, HM.out.trans (seekO_back c s k hlt h92)⟩
              case measure => simp [intOf]; omega
        · have h92 : ((s[k].toNat : Int) == 92) = false := by rw [beq_iff_eq] at h34; rw [h34]; rfl
          cases q
          · go_wp2
            go_round
            case rel => exact ⟨k + 1, true, false, by omega, by go_num, rfl, rfl, HM.out.trans (seekO_quote c s false k hlt h34)⟩
            case measure => simp [intOf]; omega
          · go_wp2
            go_round
            case rel => exact ⟨k + 1, false, false, by omega, by go_num, rfl, rfl, HM.out.trans (seekO_quote c s true k hlt h34)⟩
            case measure => simp [intOf]; omega
      · go_wp2
        go_round
        case rel => exact ⟨k + 1, q, false, by omega, by go_num, rfl, rfl, HM.out.trans (seekO_esc c s q k hlt)⟩
        case measure => simp [intOf]; omega
    · go_wp2
      go_ret
      exact ⟨ret_int (HM.out.trans (seekO_end c s q e k hlt)).symm, rfl⟩

/-- a byte of a token. -/
def tokB (c : UInt8) : Bool :=
  (decide (97 ≤ c.toNat) && decide (c.toNat ≤ 122)) || (decide (65 ≤ c.toNat) && decide (c.toNat ≤ 90)) || (decide (48 ≤ c.toNat) && decide (c.toNat ≤ 57)) ||
    decide (0 ≤ Go.Lib.indexByte [45, 46, 33, 37, 42, 95, 43, 96, 39, 126] c)
def isTok (l : List UInt8) : Bool := !l.isEmpty && l.all tokB
theorem tok_mild_fin : ∀ i : Fin 256, tokB (UInt8.ofNat i.val) = true → Sip.mild (UInt8.ofNat i.val) = true := by decide +kernel
theorem tok_mild (c : UInt8) (h : tokB c = true) : Sip.mild c = true := by
  have := tok_mild_fin ⟨c.toNat, c.toNat_lt⟩
  simp only [← Sip.byteOf] at this
  exact this h
theorem isTok_mild (l : List UInt8) (h : isTok l = true) : l.all Sip.mild = true := by
  unfold isTok at h
  rw [Bool.and_eq_true, List.all_eq_true] at h
  rw [List.all_eq_true]
  exact fun x hx => tok_mild x (h.2 x hx)
/-- the first k bytes are a token's. -/
def TokTo (s : ByteArray) (k : Nat) : Prop := (s.data.toList.take k).all tokB = true
theorem TokTo.next {s : ByteArray} {k : Nat} (h : TokTo s k) (hk : k < s.size) (e : tokB s[k] = true) : TokTo s (k + 1) := by
  unfold TokTo at *
  rw [List.take_succ_eq_append_getElem (by simpa using hk), List.all_append, h]
  simp only [List.all_cons, List.all_nil, Bool.and_true, Bool.true_and]
  exact e
theorem TokTo.done {s : ByteArray} {k : Nat} (h : TokTo s k) (hk : ¬ k < s.size) (h0 : ¬ s.size = 0) : isTok s.data.toList = true := by
  unfold TokTo at h
  rw [List.take_of_length_le (by simp; omega)] at h
  unfold isTok
  rw [h, Bool.and_true, Bool.not_eq_true', List.isEmpty_eq_false_iff]
  intro e
  exact h0 (by have := congrArg List.length e; simpa using this)
theorem TokTo.fail {s : ByteArray} {k : Nat} (hk : k < s.size) (e : tokB s[k] = false) : isTok s.data.toList = false := by
  unfold isTok
  rw [Bool.and_eq_false_iff]
  right
  rw [List.all_eq_false]
  exact ⟨s[k], Array.getElem_mem_toList (xs := s.data) hk, by simp [e]⟩

set_option maxHeartbeats 400000 in
theorem isToken_any (s : ByteArray) (w : World) (hs : s.size ≤ 1048576) :
    Calls Tryd.prog 18 #[.string s] w fun e w' => e = .returned (.bool (isTok s.data.toList)) ∧ w' = w := by
  by_cases h0 : s.size = 0
  · have he : s.toList.isEmpty = true := by rw [ByteArray.toList_eq]; simp [Array.eq_empty_of_size_eq_zero h0]
    have HR : Hid (isTok s.data.toList = false) := by unfold Hid isTok; rw [ByteArray.toList_eq] at he; rw [he]; rfl
    go_enter Tryd.func18, Tryd.ntmps18
    go_wp2
    go_ret
    exact ⟨ret_bool HR.out.symm, rfl⟩
  · have he : s.toList.isEmpty = false := by rw [ByteArray.toList_eq]; simp; intro h; exact h0 (by simp [ByteArray.size, h])
    go_enter Tryd.func18, Tryd.ntmps18
    go_wp2
    go_loop [3] (fun vi => ∃ k : Nat, k ≤ s.size ∧ vi = .int .i64 k ∧ TokTo s k) (fun i => s.size - (intOf i).toNat)
    case atStart => exact ⟨0, by omega, rfl, rfl⟩
    case round =>
      obtain ⟨k, hk, rfl, HM⟩ := hrel
      by_cases hlt : k < s.size
      · have hcall : Hid (∀ w, Calls Tryd.prog 25 #[.string ⟨#[45, 46, 33, 37, 42, 95, 43, 96, 39, 126]⟩, .int .u8 s[k].toNat] w fun e w' => e = .returned (.int .i64 (Go.Lib.indexByte [45, 46, 33, 37, 42, 95, 43, 96, 39, 126] s[k])) ∧ w' = w) := by
          intro w
          have := Tryd.strings_IndexByte ⟨#[45, 46, 33, 37, 42, 95, 43, 96, 39, 126]⟩ s[k].toNat w
          have e : ((s[k].toNat : Int).toNat.toUInt8) = s[k] := by simp
          rw [e] at this
          exact this
        have HT : Hid (tokB s[k] = true ↔ ((97 ≤ (s[k].toNat : Int) ∧ (s[k].toNat : Int) ≤ 122) ∨ (65 ≤ (s[k].toNat : Int) ∧ (s[k].toNat : Int) ≤ 90) ∨ (48 ≤ (s[k].toNat : Int) ∧ (s[k].toNat : Int) ≤ 57) ∨ 0 ≤ Go.Lib.indexByte [45, 46, 33, 37, 42, 95, 43, 96, 39, 126] s[k])) := by
          unfold Hid tokB
          simp only [Bool.or_eq_true, Bool.and_eq_true, decide_eq_true_eq]
          omega
        generalize Go.Lib.indexByte [45, 46, 33, 37, 42, 95, 43, 96, 39, 126] s[k] = x at hcall HT
        cases hb : tokB s[k]
        · have hx : ¬ _ := fun h => by have := HT.out.2 h; rw [hb] at this; cases this
          have hx1 : ¬ (97 ≤ (s[k].toNat : Int) ∧ (s[k].toNat : Int) ≤ 122) := fun h => hx (Or.inl h)
          have hx2 : ¬ (65 ≤ (s[k].toNat : Int) ∧ (s[k].toNat : Int) ≤ 90) := fun h => hx (Or.inr (Or.inl h))
          have hx3 : ¬ (48 ≤ (s[k].toNat : Int) ∧ (s[k].toNat : Int) ≤ 57) := fun h => hx (Or.inr (Or.inr (Or.inl h)))
          have hx4 : x < 0 := Int.not_le.1 (fun h => hx (Or.inr (Or.inr (Or.inr h))))
          clear hx
          have HR : Hid (isTok s.data.toList = false) := TokTo.fail hlt hb
          clear hb
          go_wp2_with (go_at_call 25; refine (hcall.out _).mono ?_; rintro e w' ⟨rfl, rfl⟩)
          all_goals
            go_ret
            exact ⟨ret_bool HR.out.symm, rfl⟩
        · have hx := HT.out.1 hb
          have HN : TokTo s (k + 1) := HM.next hlt hb
          clear hb
          go_wp2_with (go_at_call 25; refine (hcall.out _).mono ?_; rintro e w' ⟨rfl, rfl⟩)
          all_goals
            go_round
            case rel => exact ⟨k + 1, by omega, by go_num, HN⟩
            case measure => simp [intOf]; omega
      · go_wp2
        go_ret
        exact ⟨ret_bool (HM.done hlt h0).symm, rfl⟩
end Go.Proofs.Qxb6603950aDoor
