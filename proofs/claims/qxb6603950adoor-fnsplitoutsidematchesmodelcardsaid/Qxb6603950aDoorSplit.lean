import Derived.Test.Qxb6603950aDoorOwn
namespace Go.Proofs.Qxb6603950aDoor
open Go.RowKit

/-- what is still to come, from a round's head on. -/
def todo (sep : UInt8) (s : ByteArray) (start : Nat) (q e a : Bool) (k : Nat) : List (List UInt8) :=
  Sip.fin s.data.toList start (Sip.cutsO sep q e a k (s.data.toList.drop k))
theorem todo_esc (sep : UInt8) (s : ByteArray) (start : Nat) (q a : Bool) (k : Nat) (h : k < s.size) : todo sep s start q true a k = todo sep s start q false a (k + 1) := by
  unfold todo; rw [drop_cons s k h, Sip.cutsO, if_pos rfl]
theorem todo_back (sep : UInt8) (s : ByteArray) (start : Nat) (a : Bool) (k : Nat) (h : k < s.size) (h92 : ((s[k].toNat : Int) == 92) = true) :
    todo sep s start true false a k = todo sep s start true true a (k + 1) := by
  have e : (s[k] == 92) = true := by rw [beqI]; exact h92
  unfold todo; rw [drop_cons s k h, Sip.cutsO, if_neg (by simp), if_pos (by rw [e]; rfl)]
theorem todo_quote (sep : UInt8) (s : ByteArray) (start : Nat) (q a : Bool) (k : Nat) (h : k < s.size) (h34 : ((s[k].toNat : Int) == 34) = true) :
    todo sep s start q false a k = todo sep s start (!q) false a (k + 1) := by
  have e : s[k] = 34 := byte_eq (d := 34) h34
  have e2 : (s[k] == 92) = false := by rw [e]; rfl
  unfold todo; rw [drop_cons s k h, Sip.cutsO, if_neg (by simp), if_neg (by rw [e2]; simp), if_pos (by rw [e]; rfl)]
theorem todo_in (sep : UInt8) (s : ByteArray) (start : Nat) (a : Bool) (k : Nat) (h : k < s.size) (h92 : ((s[k].toNat : Int) == 92) = false) (h34 : ((s[k].toNat : Int) == 34) = false) :
    todo sep s start true false a k = todo sep s start true false a (k + 1) := by
  have e1 : (s[k] == 92) = false := by rw [beqI]; exact h92
  have e2 : (s[k] == 34) = false := by rw [beqI]; exact h34
  unfold todo; rw [drop_cons s k h, Sip.cutsO, if_neg (by simp), if_neg (by rw [e1]; simp), if_neg (by rw [e2]; simp), if_pos rfl]
theorem todo_lt (sep : UInt8) (s : ByteArray) (start : Nat) (a : Bool) (k : Nat) (h : k < s.size) (h60 : ((s[k].toNat : Int) == 60) = true) :
    todo sep s start false false a k = todo sep s start false false true (k + 1) := by
  have e : s[k] = 60 := byte_eq (d := 60) h60
  unfold todo; rw [drop_cons s k h, Sip.cutsO, if_neg (by simp), if_neg (by simp), if_neg (by rw [e]; decide), if_neg (by simp), if_pos (by rw [e]; rfl)]
theorem todo_gt (sep : UInt8) (s : ByteArray) (start : Nat) (a : Bool) (k : Nat) (h : k < s.size) (h62 : ((s[k].toNat : Int) == 62) = true) :
    todo sep s start false false a k = todo sep s start false false false (k + 1) := by
  have e : s[k] = 62 := byte_eq (d := 62) h62
  unfold todo; rw [drop_cons s k h, Sip.cutsO, if_neg (by simp), if_neg (by simp), if_neg (by rw [e]; decide), if_neg (by simp), if_neg (by rw [e]; decide), if_pos (by rw [e]; rfl)]
theorem todo_sep (sep : UInt8) (s : ByteArray) (start : Nat) (k : Nat) (h : k < s.size) (h34 : ((s[k].toNat : Int) == 34) = false) (h60 : ((s[k].toNat : Int) == 60) = false) (h62 : ((s[k].toNat : Int) == 62) = false)
    (hs : ((s[k].toNat : Int) == (sep.toNat : Int)) = true) :
    todo sep s start false false false k = Sip.keep (Sip.trim (cut s start k)) ++ todo sep s (k + 1) false false false (k + 1) := by
  have e1 : (s[k] == 34) = false := by rw [beqI]; exact h34
  have e2 : (s[k] == 60) = false := by rw [beqI]; exact h60
  have e3 : (s[k] == 62) = false := by rw [beqI]; exact h62
  have e4 : (s[k] == sep) = true := by rw [beqI]; exact hs
  unfold todo
  rw [drop_cons s k h, Sip.cutsO, if_neg (by simp), if_neg (by simp), if_neg (by rw [e1]; simp), if_neg (by simp), if_neg (by rw [e2]; simp), if_neg (by rw [e3]; simp), if_pos (by rw [e4]; rfl), Sip.fin]
  rfl
theorem todo_other (sep : UInt8) (s : ByteArray) (start : Nat) (a : Bool) (k : Nat) (h : k < s.size) (h34 : ((s[k].toNat : Int) == 34) = false) (h60 : ((s[k].toNat : Int) == 60) = false) (h62 : ((s[k].toNat : Int) == 62) = false)
    (hs : (((s[k].toNat : Int) == (sep.toNat : Int)) && !a) = false) :
    todo sep s start false false a k = todo sep s start false false a (k + 1) := by
  have e1 : (s[k] == 34) = false := by rw [beqI]; exact h34
  have e2 : (s[k] == 60) = false := by rw [beqI]; exact h60
  have e3 : (s[k] == 62) = false := by rw [beqI]; exact h62
  have e4 : (s[k] == sep && !a) = false := by rw [beqI]; exact hs
  unfold todo
  rw [drop_cons s k h, Sip.cutsO, if_neg (by simp), if_neg (by simp), if_neg (by rw [e1]; simp), if_neg (by simp), if_neg (by rw [e2]; simp), if_neg (by rw [e3]; simp), if_neg (by rw [e4]; simp)]
theorem todo_end (sep : UInt8) (s : ByteArray) (start : Nat) (q e a : Bool) (k : Nat) (h : ¬ k < s.size) : todo sep s start q e a k = Sip.keep (Sip.trim (cut s start s.size)) := by
  unfold todo
  rw [drop_end s k (by omega), cut_all]
  cases q <;> cases e <;> rfl
theorem keep_le (t : List UInt8) : (Sip.keep t).length ≤ 1 := by unfold Sip.keep; split <;> simp

set_option maxHeartbeats 1000000 in
theorem splitOutside_any (s : ByteArray) (sep : UInt8) (w : World) (hs : s.size ≤ 1048576) (hT : Tabs w) :
    Calls Tryd.prog 20 #[.string s, .int .u8 sep.toNat] w fun e w' => ∃ v, e = .returned v ∧ Owns w' w.heap.size v (Sip.splitO sep s.data.toList) ∧ Below w.heap.size w w' := by
  have HT : Hid (Tabs w) := hT
  clear hT
  go_enter Tryd.func20, Tryd.ntmps20
  go_wp2
  go_loopw [5, 6, 7, 8, 9, 10] (fun vp vq ve va vs vi wr => ∃ (k start : Nat) (q e a : Bool) (xs : List (List UInt8)), k ≤ s.size ∧ start ≤ k ∧ xs.length ≤ k ∧ vi = .int .i64 k ∧ vs = .int .i64 start ∧ vq = .bool q ∧ ve = .bool e ∧ va = .bool a ∧
      Hid (Owns wr w.heap.size vp xs) ∧ Hid (Below w.heap.size w wr) ∧ Hid (Sip.splitO sep s.data.toList = xs ++ todo sep s start q e a k))
    (fun _ _ _ _ _ i _ => s.size - (intOf i).toNat)
  case atStart => exact ⟨0, 0, false, false, false, [], by omega, by omega, by simp, rfl, rfl, rfl, rfl, rfl, ⟨World.ownsRow_nil _ _ _ _, fun _ => rfl⟩, Below.refl _ _, rfl⟩
  case round =>
    obtain ⟨k, start, q, e, a, xs, hk, hst, hxl, rfl, rfl, rfl, rfl, rfl, HO, HB, HM⟩ := hrel
    by_cases hlt : k < s.size
    · cases e
      · cases h34 : ((s[k].toNat : Int) == 34)
        · cases q
          · cases h60 : ((s[k].toNat : Int) == 60)
            · cases h62 : ((s[k].toNat : Int) == 62)
              · cases hsp : ((s[k].toNat : Int) == (sep.toNat : Int))
                · have hx : (((s[k].toNat : Int) == (sep.toNat : Int)) && !a) = false := by rw [hsp]; rfl
                  have HX : Hid ((((s[k].toNat : Int) == (sep.toNat : Int)) && !a) = false) := hx
                  clear hx
                  go_wp2
                  go_roundw
                  case rel => exact ⟨k + 1, start, false, false, a, xs, by omega, by omega, by omega, by go_num, rfl, rfl, rfl, rfl, HO, HB, HM.out.trans (by rw [todo_other sep s start a k hlt h34 h60 h62 HX.out])⟩
                  case measure => simp [intOf]; omega
                · cases a
                  · have HX : Hid (todo sep s start false false false k = Sip.keep (Sip.trim (cut s start k)) ++ todo sep s (k + 1) false false false (k + 1)) := todo_sep sep s start k hlt h34 h60 h62 hsp
                    have hkl := keep_le (Sip.trim (cut s start k))
                    have hbs := HB.out.size
                    have hcall : Hid (Calls Tryd.prog 26 #[u5, .string (s.extract start k)] wr fun e w' => ∃ v', e = .returned v' ∧ Owns w' w.heap.size v' (xs ++ Sip.keep (Sip.trim (cut s start k))) ∧ Below w.heap.size wr w') := by
                      have := appendTrimmed_any w.heap.size u5 xs (s.extract start k) wr HO.out (by omega) (HT.out.below HB.out) (by rw [ByteArray.size_extract]; omega) hbs
                      rw [cut_extract] at this
                      exact this
                    go_wp2_with (go_at_call 26; refine (hcall.out).mono ?_; rintro e w1 ⟨v', rfl, ho, hb⟩)
                    go_roundw
                    case rel => exact ⟨k + 1, k + 1, false, false, false, xs ++ Sip.keep (Sip.trim (cut s start k)), by omega, by omega, by rw [List.length_append]; omega, by go_num, by go_num, rfl, rfl, rfl, ho, HB.out.trans hb, HM.out.trans (by rw [HX.out, List.append_assoc])⟩
                    case measure => simp [intOf]; omega
                  · have HX : Hid ((((s[k].toNat : Int) == (sep.toNat : Int)) && !true) = false) := by unfold Hid; simp
                    go_wp2
                    go_roundw
                    case rel => exact ⟨k + 1, start, false, false, true, xs, by omega, by omega, by omega, by go_num, rfl, rfl, rfl, rfl, HO, HB, HM.out.trans (by rw [todo_other sep s start true k hlt h34 h60 h62 HX.out])⟩
                    case measure => simp [intOf]; omega
              · skip
                go_wp2
                go_roundw
                case rel => exact ⟨k + 1, start, false, false, false, xs, by omega, by omega, by omega, by go_num, rfl, rfl, rfl, rfl, HO, HB, HM.out.trans (by rw [todo_gt sep s start a k hlt h62])⟩
                case measure => simp [intOf]; omega
            · have h62 : ((s[k].toNat : Int) == 62) = false := by rw [beq_iff_eq] at h60; rw [h60]; rfl
              go_wp2
              go_roundw
              case rel => exact ⟨k + 1, start, false, false, true, xs, by omega, by omega, by omega, by go_num, rfl, rfl, rfl, rfl, HO, HB, HM.out.trans (by rw [todo_lt sep s start a k hlt h60])⟩
              case measure => simp [intOf]; omega
          · cases h92 : ((s[k].toNat : Int) == 92)
            · skip
              go_wp2
              go_roundw
              case rel => exact ⟨k + 1, start, true, false, a, xs, by omega, by omega, by omega, by go_num, rfl, rfl, rfl, rfl, HO, HB, HM.out.trans (by rw [todo_in sep s start a k hlt h92 h34])⟩
              case measure => simp [intOf]; omega
            · skip
              go_wp2
              go_roundw
              case rel => exact ⟨k + 1, start, true, true, a, xs, by omega, by omega, by omega, by go_num, rfl, rfl, rfl, rfl, HO, HB, HM.out.trans (by rw [todo_back sep s start a k hlt h92])⟩
              case measure => simp [intOf]; omega
        · have h92 : ((s[k].toNat : Int) == 92) = false := by rw [beq_iff_eq] at h34; rw [h34]; rfl
          cases q
          · skip
            go_wp2
            go_roundw
            case rel => exact ⟨k + 1, start, true, false, a, xs, by omega, by omega, by omega, by go_num, rfl, rfl, rfl, rfl, HO, HB, HM.out.trans (by rw [todo_quote sep s start false a k hlt h34]; rfl)⟩
            case measure => simp [intOf]; omega
          · skip
            go_wp2
            go_roundw
            case rel => exact ⟨k + 1, start, false, false, a, xs, by omega, by omega, by omega, by go_num, rfl, rfl, rfl, rfl, HO, HB, HM.out.trans (by rw [todo_quote sep s start true a k hlt h34]; rfl)⟩
            case measure => simp [intOf]; omega
      · go_wp2
        go_roundw
        case rel => exact ⟨k + 1, start, q, false, a, xs, by omega, by omega, by omega, by go_num, rfl, rfl, rfl, rfl, HO, HB, HM.out.trans (by rw [todo_esc sep s start q a k hlt])⟩
        case measure => simp [intOf]; omega
    · have HX : Hid (todo sep s start q e a k = Sip.keep (Sip.trim (cut s start s.size))) := todo_end sep s start q e a k hlt
      have hbs := HB.out.size
      have hcall : Hid (Calls Tryd.prog 26 #[u5, .string (s.extract start s.size)] wr fun e w' => ∃ v', e = .returned v' ∧ Owns w' w.heap.size v' (xs ++ Sip.keep (Sip.trim (cut s start s.size))) ∧ Below w.heap.size wr w') := by
        have := appendTrimmed_any w.heap.size u5 xs (s.extract start s.size) wr HO.out (by omega) (HT.out.below HB.out) (by rw [ByteArray.size_extract]; omega) hbs
        rw [cut_extract] at this
        exact this
      go_wp2_with (go_at_call 26; refine (hcall.out).mono ?_; rintro e w1 ⟨v', rfl, ho, hb⟩)
      go_ret
      exact ⟨v', rfl, by rw [HM.out, HX.out]; exact ho, HB.out.trans hb⟩
end Go.Proofs.Qxb6603950aDoor
