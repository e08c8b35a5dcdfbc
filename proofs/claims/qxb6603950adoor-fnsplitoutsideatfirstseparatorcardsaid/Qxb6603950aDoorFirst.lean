import Derived.Test.Qxb6603950aDoorTops
namespace Go.Proofs.Qxb6603950aDoor
open Go.RowKit

theorem cut_zero (s : ByteArray) (j : Nat) : cut s 0 j = s.data.toList.take j := by simp [cut]

set_option maxHeartbeats 1000000 in
theorem first_top (s : ByteArray) (sep : UInt8) (w : World) (hT : Tabs w) :
    Calls Tryd.prog 5 #[.string s, .int .u8 sep.toNat] w fun e w' => e = .returned (.bool true) ∧ Below w.heap.size w w' := by
  by_cases h : s.size ≤ 1048576
  · have H11 : Hid (Calls Tryd.prog 11 #[.string s, .int .u8 sep.toNat] w fun e w' => ∃ v, e = .returned v ∧ Holds w' v (Sip.splitO sep s.data.toList) ∧ Below w.heap.size w w') := split11_any s sep w h hT
    have H19 : Hid (∀ w, Calls Tryd.prog 19 #[.string s, .int .u8 sep.toNat] w fun e w' => e = .returned (.int .i64 (Sip.idxO sep false false 0 s.data.toList)) ∧ w' = w) := fun w => indexOutside_any s sep w h
    have HT : Hid (Tabs w) := hT
    have hl : (Sip.splitO sep s.data.toList).length ≤ 2097152 := by
      have := splitO_len sep s.data.toList
      have e : s.data.toList.length = s.size := by simp
      omega
    clear hT
    rcases Sip.idx_ge sep s.data.toList false false 0 with hx | ⟨j, hx, hj⟩
    · -- no separator outside quotes
      have hsp := Sip.split_none sep s.data.toList hx
      rw [hx] at H19
      have H16 : Hid (∀ w, Calls Tryd.prog 16 #[.string s] w fun e w' => e = .returned (.string ⟨(Sip.trim s.data.toList).toArray⟩) ∧ w' = w) := fun w => trim_any s w h
      rw [hsp] at H11 hl
      clear hx hsp HT
      obtain ⟨i0, hi, hz0, hz1, hz2⟩ := info9
      generalize Sip.trim s.data.toList = T at H11 H16 hl
      have he := S_empty T
      by_cases h0 : T = []
      · subst h0
        go_enter Tryd.func5, Tryd.ntmps5
        go_wp2_with (go_at_call 15; refine (bytes15_any _ _ _).mono ?_; rintro e wa ⟨rfl, ha⟩; have hb := ha.symm; subst hb)
        refine (H11.out).mono ?_
        rintro e w1 ⟨v1, rfl, hh1, hb1⟩
        have HH1 : Hid (Holds w1 v1 (Sip.keep [])) := hh1
        have HB1 : Hid (Below _ _ w1) := hb1
        clear hh1 hb1
        go_wp2_with (first
          | (go_at_call 19; refine (H19.out _).mono ?_; rintro e w' ⟨rfl, rfl⟩)
          | (go_at_call 16; refine (H16.out _).mono ?_; rintro e w' ⟨rfl, rfl⟩)
          | (go_at_call 8; go_in))
        refine (sameList_any _ _ (Sip.keep []) _ HH1.out (Or.inl ⟨rfl, rfl⟩) hl).mono ?_
        rintro e w3 ⟨rfl, hb3⟩
        go_wp2
        go_ret
        exact ⟨rfl, HB1.out.trans (hb3.mono HB1.out.size)⟩
      · have hk : Hid (Sip.keep T = [T]) := by unfold Hid Sip.keep; rw [if_neg h0]
        have hte : T.isEmpty = false := by simpa using h0
        rw [hk.out] at H11 hl
        clear hk
        go_enter Tryd.func5, Tryd.ntmps5
        go_wp2_with (go_at_call 15; refine (bytes15_any _ _ _).mono ?_; rintro e wa ⟨rfl, ha⟩; have hb := ha.symm; subst hb)
        refine (H11.out).mono ?_
        rintro e w1 ⟨v1, rfl, hh1, hb1⟩
        have HH1 : Hid (Holds w1 v1 [T]) := hh1
        have HB1 : Hid (Below _ _ w1) := hb1
        clear hh1 hb1
        go_wp2_with (first
          | (go_at_call 19; refine (H19.out _).mono ?_; rintro e wa ⟨rfl, ha⟩; have hb := ha.symm; subst hb)
          | (go_at_call 16; refine (H16.out _).mono ?_; rintro e wa ⟨rfl, ha⟩; have hb := ha.symm; subst hb)
          | (go_at_call 8; go_in)
          | (at_builtin; refine wpList_append_own _ rfl _ _ 26 rfl w1.heap.size 9 i0 (.string ByteArray.empty) 1 16 Tryd.underlying26 hi hz0 hz1 hz2 rfl (by decide) (.slice none 0 0) 0 [] rfl (World.ownsRow_nil _ _ _ _) ⟨w1.heap.size, 0, none⟩ 1 1 [.string ⟨T.toArray⟩] rfl rfl ?c1 ?c2 ?c3 ?c4 ?c5 ?_))
        case c1 => exact cell_one_new _ _ _
        case c2 => intro u hu; simp at hu; subst hu; rfl
        case c3 => unfold maxLen; omega
        case c4 => omega
        case c5 => simp
        intro v' w2 hown2 hg2 hnil
        have ho : Owns w2 w1.heap.size v' [T] := Owns.push (xs := []) (X := ⟨T.toArray⟩) hown2
        have hb2 : Below w1.heap.size w1 w2 := Owns.pushed (xs := []) (Below.refl _ _) (Nat.le_refl _) ⟨World.ownsRow_nil _ _ _ _, fun _ => rfl⟩ hg2
        clear hown2 hg2 hnil
        have HO : Hid (Holds w2 v' [T]) := ho.holds
        have HH2 : Hid (Holds w2 v1 [T]) := HH1.out.below hb2
        have HB2 : Hid (Below w.heap.size w w2) := HB1.out.trans (hb2.mono HB1.out.size)
        clear ho hb2
        go_wp2_with fail
        refine (sameList_any v1 v' [T] w2 HH2.out HO.out hl).mono ?_
        rintro e w3 ⟨rfl, hb3⟩
        go_wp2
        go_ret
        exact ⟨rfl, HB2.out.trans (hb3.mono HB2.out.size)⟩
    · -- the first one stands at j
      have hxj : Sip.idxO sep false false 0 s.data.toList = (j : Nat) := by rw [hx, Nat.zero_add]
      have hln : s.data.toList.length = s.size := by simp
      have hjs : j < s.size := by omega
      clear hln
      rw [hxj] at H19
      clear hx hj
      cases h60 : ((sep.toNat : Int) == 60)
      · cases h62 : ((sep.toNat : Int) == 62)
        · have H9 : Hid (∀ w, Calls Tryd.prog 9 #[.string (s.extract 0 j), .int .u8 60] w fun e w' => e = .returned (.int .i64 (Sip.idxB 60 0 (cut s 0 j))) ∧ w' = w) := by
            intro w
            have := indexByte_any (s.extract 0 j) 60 w (by rw [ByteArray.size_extract]; omega)
            have e : ((60 : UInt8).toNat : Int) = 60 := rfl
            rw [e, cut_extract] at this
            exact this
          have HN : Hid (Sip.idxB 60 0 (cut s 0 j) < 0 → Sip.splitO sep s.data.toList = Sip.splitO sep (s.extract 0 j).data.toList ++ Sip.splitO sep (s.extract (j + 1) s.size).data.toList) := by
            intro hneg
            rw [cut_extract, cut_extract, cut_all, cut_zero]
            rw [cut_zero] at hneg
            refine Sip.split_first sep s.data.toList j ?_ ?_ hxj (idxB_neg 60 _ 0 hneg)
            · rintro rfl; exact absurd h60 (by decide)
            · rintro rfl; exact absurd h62 (by decide)
          generalize Sip.idxB 60 0 (cut s 0 j) = y at H9 HN
          by_cases hy : 0 ≤ y
          · clear HN HT hxj
            go_enter Tryd.func5, Tryd.ntmps5
            go_wp2_with (go_at_call 15; refine (bytes15_any _ _ _).mono ?_; rintro e wa ⟨rfl, ha⟩; have hb := ha.symm; subst hb)
            refine (H11.out).mono ?_
            rintro e w1 ⟨v1, rfl, hh1, hb1⟩
            have HB1 : Hid (Below _ _ w1) := hb1
            clear hh1 hb1
            go_wp2_with (first
              | (go_at_call 19; refine (H19.out _).mono ?_; rintro e wa ⟨rfl, ha⟩; have hb := ha.symm; subst hb)
              | (go_at_call 9; refine (H9.out _).mono ?_; rintro e wa ⟨rfl, ha⟩; have hb := ha.symm; subst hb)
              | (go_at_call 8; go_in))
            go_ret
            exact ⟨rfl, HB1⟩
          · have HE : Hid (Sip.splitO sep s.data.toList = Sip.splitO sep (s.extract 0 j).data.toList ++ Sip.splitO sep (s.extract (j + 1) s.size).data.toList) := HN.out (by omega)
            clear HN hxj
            have hl1 : (s.extract 0 j).size ≤ 1048576 := by rw [ByteArray.size_extract]; omega
            have hl2 : (s.extract (j + 1) s.size).size ≤ 1048576 := by rw [ByteArray.size_extract]; omega
            go_enter Tryd.func5, Tryd.ntmps5
            go_wp2_with (go_at_call 15; refine (bytes15_any _ _ _).mono ?_; rintro e wa ⟨rfl, ha⟩; have hb := ha.symm; subst hb)
            refine (H11.out).mono ?_
            rintro e w1 ⟨v1, rfl, hh1, hb1⟩
            have HH1 : Hid (Holds w1 v1 (Sip.splitO sep s.data.toList)) := hh1
            have HB1 : Hid (Below _ _ w1) := hb1
            clear hh1 hb1
            go_wp2_with (first
              | (go_at_call 19; refine (H19.out _).mono ?_; rintro e wa ⟨rfl, ha⟩; have hb := ha.symm; subst hb)
              | (go_at_call 9; refine (H9.out _).mono ?_; rintro e wa ⟨rfl, ha⟩; have hb := ha.symm; subst hb)
              | (go_at_call 8; go_in))
            refine (split11_any (s.extract 0 j) sep w1 hl1 (HT.out.below HB1.out)).mono ?_
            rintro e w2 ⟨v2, rfl, hh2, hb2⟩
            have HH2 : Hid (Holds w2 v2 (Sip.splitO sep (s.extract 0 j).data.toList)) := hh2
            have HH1' : Hid (Holds w2 v1 (Sip.splitO sep s.data.toList)) := HH1.out.below hb2
            have HB2 : Hid (Below w.heap.size w w2) := HB1.out.trans (hb2.mono HB1.out.size)
            clear hh2 hb2 HH1 HB1
            go_wp2_with fail
            refine (split11_any (s.extract (j + 1) s.size) sep w2 hl2 (HT.out.below HB2.out)).mono ?_
            rintro e w3 ⟨v3, rfl, hh3, hb3⟩
            have HH3 : Hid (Holds w3 v3 (Sip.splitO sep (s.extract (j + 1) s.size).data.toList)) := hh3
            have HH2' : Hid (Holds w3 v2 (Sip.splitO sep (s.extract 0 j).data.toList)) := HH2.out.below hb3
            have HH1 : Hid (Holds w3 v1 (Sip.splitO sep s.data.toList)) := HH1'.out.below hb3
            have HB3 : Hid (Below w.heap.size w w3) := HB2.out.trans (hb3.mono HB2.out.size)
            clear hh3 hb3 HH1' HH2 HB2
            go_wp2_with fail
            refine (concat_any v2 v3 _ _ w3 HH2'.out HH3.out ?_).mono ?_
            · have := hl; rw [HE.out, List.length_append] at this; exact this
            rintro e w4 ⟨v4, rfl, ho4, hb4⟩
            have HH4 : Hid (Holds w4 v4 (Sip.splitO sep s.data.toList)) := by unfold Hid; rw [HE.out]; exact ho4.holds
            have HH1' : Hid (Holds w4 v1 (Sip.splitO sep s.data.toList)) := HH1.out.below hb4
            have HB4 : Hid (Below w.heap.size w w4) := HB3.out.trans (hb4.mono HB3.out.size)
            clear ho4 hb4 HH1 HB3
            go_wp2_with fail
            refine (sameList_any v1 v4 _ w4 HH1'.out HH4.out hl).mono ?_
            rintro e w5 ⟨rfl, hb5⟩
            go_wp2
            go_ret
            exact ⟨rfl, HB4.out.trans (hb5.mono HB4.out.size)⟩
        · clear HT hxj
          go_enter Tryd.func5, Tryd.ntmps5
          go_wp2_with (go_at_call 15; refine (bytes15_any _ _ _).mono ?_; rintro e wa ⟨rfl, ha⟩; have hb := ha.symm; subst hb)
          refine (H11.out).mono ?_
          rintro e w1 ⟨v1, rfl, hh1, hb1⟩
          have HB1 : Hid (Below _ _ w1) := hb1
          clear hh1 hb1
          go_wp2_with (first
            | (go_at_call 19; refine (H19.out _).mono ?_; rintro e wa ⟨rfl, ha⟩; have hb := ha.symm; subst hb)
            | (go_at_call 8; go_in))
          go_ret
          exact ⟨rfl, HB1⟩
      · clear HT hxj
        go_enter Tryd.func5, Tryd.ntmps5
        go_wp2_with (go_at_call 15; refine (bytes15_any _ _ _).mono ?_; rintro e wa ⟨rfl, ha⟩; have hb := ha.symm; subst hb)
        refine (H11.out).mono ?_
        rintro e w1 ⟨v1, rfl, hh1, hb1⟩
        have HB1 : Hid (Below _ _ w1) := hb1
        clear hh1 hb1
        go_wp2_with (first
          | (go_at_call 19; refine (H19.out _).mono ?_; rintro e wa ⟨rfl, ha⟩; have hb := ha.symm; subst hb)
          | (go_at_call 8; go_in))
        go_ret
        exact ⟨rfl, HB1⟩
  · clear hT
    go_enter Tryd.func5, Tryd.ntmps5
    go_wp2_with (go_at_call 15; refine (bytes15_any _ _ _).mono ?_; rintro e wa ⟨rfl, ha⟩; have hb := ha.symm; subst hb)
    go_ret
    exact ⟨rfl, Below.refl _ _⟩
end Go.Proofs.Qxb6603950aDoor
