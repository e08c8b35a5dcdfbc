import Derived.Test.Qxb6603950aDoorModel
import Derived.Test.Qxb6603950aDoorScan
namespace Go.Proofs.Qxb6603950aDoor
open Go.RowKit

theorem cutsO_len (sep : UInt8) : ∀ (l : List UInt8) (q e a : Bool) (i : Nat), (Sip.cutsO sep q e a i l).length ≤ l.length
  | [], _, _, _, _ => Nat.le_refl _
  | c :: l, q, e, a, i => by
    have ih := fun q e a => cutsO_len sep l q e a (i + 1)
    have nxt := fun q e a => Nat.le_succ_of_le (ih q e a)
    simp only [Sip.cutsO, List.length_cons]
    repeat' split
    all_goals first | exact nxt _ _ _ | (rw [List.length_cons]; exact Nat.succ_le_succ (ih _ _ _))
theorem fin_len (s : List UInt8) : ∀ (cs : List Nat) (start : Nat), (Sip.fin s start cs).length ≤ cs.length + 1
  | [], start => by simp only [Sip.fin]; exact keep_le _
  | i :: cs, start => by
    have := fin_len s cs (i + 1)
    have := keep_le (Sip.trim ((s.drop start).take (i - start)))
    simp only [Sip.fin, List.length_append, List.length_cons]
    omega
theorem splitO_len (sep : UInt8) (s : List UInt8) : (Sip.splitO sep s).length ≤ s.length + 1 := by
  have h1 := fin_len s (Sip.cutsO sep false false false 0 s) 0
  have h2 := cutsO_len sep s false false false 0
  unfold Sip.splitO
  omega
theorem idxB_neg (c : UInt8) : ∀ (l : List UInt8) (i : Nat), Sip.idxB c i l < 0 → c ∉ l
  | [], _, _ => by simp
  | b :: l, i, h => by
    simp only [Sip.idxB] at h
    split at h
    · omega
    · next hb =>
      rw [List.mem_cons, not_or]
      exact ⟨fun e => hb (by rw [e]; simp), idxB_neg c l (i + 1) h⟩

set_option maxHeartbeats 400000 in
theorem bytes6_any (s : ByteArray) (c : Int) (w : World) :
    Calls Tryd.prog 6 #[.string s, .int .u8 c] w fun e w' => e = .returned (.bool (decide (s.size ≤ 1048576))) ∧ w' = w := by
  by_cases h : s.size ≤ 1048576
  · go_enter Tryd.func6, Tryd.ntmps6
    go_wp2
    go_ret
    exact ⟨ret_bool (by simp [h]), rfl⟩
  · go_enter Tryd.func6, Tryd.ntmps6
    go_wp2
    go_ret
    exact ⟨ret_bool (by simp [h]), rfl⟩
set_option maxHeartbeats 400000 in
theorem bytes13_any (s : ByteArray) (c : Int) (w : World) :
    Calls Tryd.prog 13 #[.string s, .int .u8 c] w fun e w' => e = .returned (.bool (decide (s.size ≤ 1048576))) ∧ w' = w := by
  by_cases h : s.size ≤ 1048576
  · go_enter Tryd.func13, Tryd.ntmps13
    go_wp2
    go_ret
    exact ⟨ret_bool (by simp [h]), rfl⟩
  · go_enter Tryd.func13, Tryd.ntmps13
    go_wp2
    go_ret
    exact ⟨ret_bool (by simp [h]), rfl⟩
set_option maxHeartbeats 400000 in
theorem bytes15_any (s : ByteArray) (c : Int) (w : World) :
    Calls Tryd.prog 15 #[.string s, .int .u8 c] w fun e w' => e = .returned (.bool (decide (s.size ≤ 1048576))) ∧ w' = w := by
  by_cases h : s.size ≤ 1048576
  · go_enter Tryd.func15, Tryd.ntmps15
    go_wp2
    go_ret
    exact ⟨ret_bool (by simp [h]), rfl⟩
  · go_enter Tryd.func15, Tryd.ntmps15
    go_wp2
    go_ret
    exact ⟨ret_bool (by simp [h]), rfl⟩

theorem split11_any (s : ByteArray) (sep : UInt8) (w : World) (hs : s.size ≤ 1048576) (hT : Tabs w) :
    Calls Tryd.prog 11 #[.string s, .int .u8 sep.toNat] w fun e w' => ∃ v, e = .returned v ∧ Holds w' v (Sip.splitO sep s.data.toList) ∧ Below w.heap.size w w' := by
  have H : Hid (Calls Tryd.prog 20 #[.string s, .int .u8 sep.toNat] w fun e w' => ∃ v, e = .returned v ∧ Owns w' w.heap.size v (Sip.splitO sep s.data.toList) ∧ Below w.heap.size w w') := splitOutside_any s sep w hs hT
  clear hT
  go_enter Tryd.func11, Tryd.ntmps11
  go_wp2_with (go_at_call 20; refine (H.out).mono ?_; rintro e w1 ⟨v, rfl, ho, hb⟩)
  go_ret
  exact ⟨v, rfl, ho.holds, hb⟩

set_option maxHeartbeats 400000 in
theorem model_top (s : ByteArray) (sep : UInt8) (w : World) (hT : Tabs w) :
    Calls Tryd.prog 4 #[.string s, .int .u8 sep.toNat] w fun e w' => e = .returned (.bool true) ∧ Below w.heap.size w w' := by
  by_cases h : s.size ≤ 1048576
  · have H11 : Hid (Calls Tryd.prog 11 #[.string s, .int .u8 sep.toNat] w fun e w' => ∃ v, e = .returned v ∧ Holds w' v (Sip.splitM sep s.data.toList) ∧ Below w.heap.size w w') := by
      have := split11_any s sep w h hT
      rw [Sip.split_eq] at this
      exact this
    have hl : (Sip.splitM sep s.data.toList).length ≤ 2097152 := by
      have := splitO_len sep s.data.toList
      rw [Sip.split_eq] at this
      have e : s.data.toList.length = s.size := by simp
      omega
    generalize hxs : Sip.splitM sep s.data.toList = xs at H11 hl
    have HX : Hid (Sip.splitM sep s.data.toList = xs) := hxs
    clear hT hxs
    go_enter Tryd.func4, Tryd.ntmps4
    go_wp2_with (first
      | (go_at_call 13; refine (bytes13_any _ _ _).mono ?_; rintro e w' ⟨rfl, rfl⟩))
    go_wp2_with fail
    refine (H11.out).mono ?_
    rintro e w1 ⟨v1, rfl, hh1, hb1⟩
    have HH1 : Hid (Holds w1 v1 xs) := hh1
    have HB1 : Hid (Below _ _ w1) := hb1
    clear hh1 hb1
    go_wp2_with fail
    have H14 := splitModel_any s sep w1 h
    rw [HX.out] at H14
    refine H14.mono ?_
    rintro e w2 ⟨v2, rfl, hh2, hb2⟩
    go_wp2_with fail
    refine (sameList_any v1 v2 xs w2 (HH1.out.below hb2) hh2 hl).mono ?_
    rintro e w3 ⟨rfl, hb3⟩
    go_wp2
    go_ret
    exact ⟨rfl, (HB1.out.trans (hb2.mono HB1.out.size)).trans (hb3.mono (Nat.le_trans HB1.out.size hb2.size))⟩
  · clear hT
    go_enter Tryd.func4, Tryd.ntmps4
    go_wp2_with (go_at_call 13; refine (bytes13_any _ _ _).mono ?_; rintro e w' ⟨rfl, rfl⟩)
    go_ret
    exact ⟨rfl, Below.refl _ _⟩

set_option maxHeartbeats 400000 in
theorem token_top (s : ByteArray) (sep : UInt8) (w : World) (hT : Tabs w) :
    Calls Tryd.prog 3 #[.string s, .int .u8 sep.toNat] w fun e w' => e = .returned (.bool true) ∧ Below w.heap.size w w' := by
  by_cases h : s.size ≤ 1048576
  · have H18 : Hid (∀ w, Calls Tryd.prog 18 #[.string s] w fun e w' => e = .returned (.bool (isTok s.data.toList)) ∧ w' = w) := fun w => isToken_any s w h
    cases ht : isTok s.data.toList
    · rw [ht] at H18
      clear hT
      go_enter Tryd.func3, Tryd.ntmps3
      go_wp2_with (first
        | (go_at_call 6; refine (bytes6_any _ _ _).mono ?_; rintro e w' ⟨rfl, rfl⟩)
        | (go_at_call 18; refine (H18.out _).mono ?_; rintro e w' ⟨rfl, rfl⟩)
        | go_in)
      go_ret
      exact ⟨rfl, Below.refl _ _⟩
    · rw [ht] at H18
      have hm := isTok_mild _ ht
      have H19 : Hid (∀ w, Calls Tryd.prog 19 #[.string s, .int .u8 sep.toNat] w fun e w' => e = .returned (.int .i64 (Sip.idxB sep 0 s.data.toList)) ∧ w' = w) := by
        intro w
        have := indexOutside_any s sep w h
        rw [Sip.mild_idx sep s.data.toList 0 hm] at this
        exact this
      have H9 : Hid (∀ w, Calls Tryd.prog 9 #[.string s, .int .u8 sep.toNat] w fun e w' => e = .returned (.int .i64 (Sip.idxB sep 0 s.data.toList)) ∧ w' = w) := fun w => indexByte_any s sep w h
      have H11 : Hid (Calls Tryd.prog 11 #[.string s, .int .u8 sep.toNat] w fun e w' => ∃ v, e = .returned v ∧ Holds w' v (Sip.fields sep s.data.toList) ∧ Below w.heap.size w w') := by
        have := split11_any s sep w h hT
        rw [Sip.token_split sep s.data.toList hm] at this
        exact this
      have hl : (Sip.fields sep s.data.toList).length ≤ 2097152 := by
        have := splitO_len sep s.data.toList
        rw [Sip.token_split sep s.data.toList hm] at this
        have e : s.data.toList.length = s.size := by simp
        omega
      generalize Sip.idxB sep 0 s.data.toList = x at H19 H9
      generalize hxs : Sip.fields sep s.data.toList = xs at H11 hl
      have HX : Hid (Sip.fields sep s.data.toList = xs) := hxs
      clear hT hxs ht hm
      go_enter Tryd.func3, Tryd.ntmps3
      go_wp2_with (first
        | (go_at_call 6; refine (bytes6_any _ _ _).mono ?_; rintro e w' ⟨rfl, rfl⟩)
        | (go_at_call 18; refine (H18.out _).mono ?_; rintro e w' ⟨rfl, rfl⟩)
        | (go_at_call 19; refine (H19.out _).mono ?_; rintro e w' ⟨rfl, rfl⟩)
        | (go_at_call 9; refine (H9.out _).mono ?_; rintro e w' ⟨rfl, rfl⟩)
        | (go_at_call 7; go_in)
        | (go_at_call 8; go_in))
      refine (H11.out).mono ?_
      rintro e w1 ⟨v1, rfl, hh1, hb1⟩
      have HH1 : Hid (Holds w1 v1 xs) := hh1
      have HB1 : Hid (Below _ _ w1) := hb1
      clear hh1 hb1
      go_wp2_with fail
      have H12 := fields_any s sep w1 h
      rw [HX.out] at H12
      refine H12.mono ?_
      rintro e w2 ⟨v2, rfl, ho2, hb2⟩
      go_wp2_with fail
      refine (sameList_any v1 v2 xs w2 (HH1.out.below hb2) ho2.holds hl).mono ?_
      rintro e w3 ⟨rfl, hb3⟩
      go_wp2
      go_ret
      exact ⟨rfl, (HB1.out.trans (hb2.mono HB1.out.size)).trans (hb3.mono (Nat.le_trans HB1.out.size hb2.size))⟩
  · clear hT
    go_enter Tryd.func3, Tryd.ntmps3
    go_wp2_with (go_at_call 6; refine (bytes6_any _ _ _).mono ?_; rintro e w' ⟨rfl, rfl⟩)
    go_ret
    exact ⟨rfl, Below.refl _ _⟩
end Go.Proofs.Qxb6603950aDoor
