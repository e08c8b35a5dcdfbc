import Derived.Test.Qxb6604184aDoorScanWalk
import Derived.Deep.QuietTactic
import Derived.BigQuiet
namespace Go.Proofs.Qxb6604184aDoor
open Go.RowKit

theorem ret_int {k : IntKind} {a b : Int} (h : a = b) : Ending.returned (.int k a) = .returned (.int k b) := by rw [h]
def nuls (s : ByteArray) (k : Nat) : Int := ((s.data.toList.take k).filter (· == 0)).length
theorem nuls_le (s : ByteArray) (k : Nat) : 0 ≤ nuls s k ∧ nuls s k ≤ k := by
  unfold nuls
  have h1 := List.length_filter_le (fun c : UInt8 => c == 0) (s.data.toList.take k)
  have h2 := List.length_take_le k s.data.toList
  omega
theorem nuls_next (s : ByteArray) (k : Nat) (h : k < s.size) : nuls s (k + 1) = nuls s k + if ((s[k].toNat : Int) == 0) then 1 else 0 := by
  unfold nuls
  have e : (s[k] == 0) = ((s[k].toNat : Int) == 0) := by
    rw [Bool.eq_iff_iff, beq_iff_eq]
    exact ⟨fun h => by rw [h]; rfl, fun h => byte_zero h⟩
  have ht : s.data.toList.take (k + 1) = s.data.toList.take k ++ [s[k]] := by rw [List.take_succ_eq_append_getElem (by simpa using h)]; rfl
  rw [ht, List.filter_append, List.length_append, List.filter_cons, e]
  cases ((s[k].toNat : Int) == 0) <;> simp

set_option maxHeartbeats 400000 in
theorem countNul_is (s : ByteArray) (w : World) (hs : s.size ≤ 1048576) :
    Calls Tryd.prog 8 #[.string s] w fun e w' => e = .returned (.int .i64 (nuls s s.size)) ∧ w' = w := by
  go_enter Tryd.func8, Tryd.ntmps8
  go_wp2
  go_loop [3, 4] (fun vn vi => ∃ k : Nat, k ≤ s.size ∧ vi = .int .i64 k ∧ vn = .int .i64 (nuls s k)) (fun _ i => s.size - (intOf i).toNat)
  case atStart => exact ⟨0, by omega, rfl, rfl⟩
  case round =>
    obtain ⟨k, hk, rfl, rfl⟩ := hrel
    have hb := nuls_le s k
    by_cases hlt : k < s.size
    · have HN : Hid (nuls s (k + 1) = nuls s k + if ((s[k].toNat : Int) == 0) then 1 else 0) := nuls_next s k hlt
      generalize nuls s k = x at hb HN
      cases h0 : ((s[k].toNat : Int) == 0)
      · go_wp2
        go_round
        case rel => exact ⟨k + 1, by omega, by go_num, by rw [HN.out, h0]; simp⟩
        case measure => simp [intOf]; omega
      · go_wp2
        go_round
        case rel => exact ⟨k + 1, by omega, by go_num, by rw [HN.out, h0]; go_num⟩
        case measure => simp [intOf]; omega
    · have e : k = s.size := by omega
      subst e
      go_wp2
      go_ret
      exact ⟨rfl, rfl⟩

theorem ans_some (x : List UInt8) : ans (some x) = .tuple #[.string ⟨x.toArray⟩, .bool true] := rfl
theorem ans_none : ans none = .tuple #[.string ⟨#[]⟩, .bool false] := rfl

set_option maxRecDepth 100000 in
set_option maxHeartbeats 1000000 in
theorem top_any (t : ByteArray) (a : Option Addr) (cap : Nat) (xs : List ByteArray) (m : Int) (w : World) (ht : t.size ≤ 9223372036854775807) (hl : xs.length ≤ 9223372036854775807) (hr : Reads w a xs)
    (hm : w.cell? ⟨2, 0, none⟩ = some (.int .i64 m)) (h2 : 2 < w.heap.size) (hE : IsErr w 0) (hR : IsErr w 1) :
    Calls Tryd.prog 3 #[.string t, .slice a xs.length cap] w fun e w' => e = .returned (.bool true) ∧ Below w.heap.size w w' := by
  have HR : Hid (Reads w a xs) := hr
  have HM : Hid (w.cell? ⟨2, 0, none⟩ = some (.int .i64 m)) := hm
  have HE : Hid (IsErr w 0 ∧ IsErr w 1) := ⟨hE, hR⟩
  clear hr hm hE hR
  go_enter Tryd.func3, Tryd.ntmps3
  go_wp2_with fail
  refine (bytes_any t a cap xs w HR.out hl ht).mono ?_
  rintro e wa ⟨⟨b, rfl, hb⟩, ha⟩
  have hsy := ha.symm
  subst hsy
  clear ha
  cases b
  · clear hb
    go_wp2
    go_ret
    exact ⟨rfl, Below.refl _ _⟩
  · obtain ⟨ht2, hl2, hx⟩ := hb rfl
    have HX : Hid (Short xs) := hx
    clear hb hx
    go_wp2_with fail
    refine (addLen_any _ _ _).mono ?_
    rintro e wa ⟨⟨y1, rfl⟩, ha⟩
    have hsy := ha.symm
    subst hsy
    clear ha
    go_wp2_with fail
    refine (strsSize_any y1 a cap xs w HR.out hl2).mono ?_
    rintro e wa ⟨⟨y2, rfl⟩, ha⟩
    have hsy := ha.symm
    subst hsy
    clear ha
    by_cases hy2 : 1048576 < y2
    · go_wp2
      go_ret
      exact ⟨rfl, Below.refl _ _⟩
    · go_wp2_with fail
      refine (maxLen_any a cap xs w HR.out hl2).mono ?_
      rintro e wa ⟨⟨y3, rfl⟩, ha⟩
      have hsy := ha.symm
      subst hsy
      clear ha
      by_cases hy3 : 0 < y3
      · have hne : (y3 == 0) = false := by rw [beq_eq_false_iff_ne]; omega
        go_wp2
        go_quiet ((go_at_call 8; exact Calls.quiet_of_same (countNul_is _ _ ht2)))
        go_wp2_with fail
        · go_ret
          exact ⟨rfl, ⟨rfl, rfl, rfl, Nat.le_refl _, fun _ _ => rfl⟩⟩
        · skip
          have hbd : Below w.heap.size w (w.drewN nq) := ⟨rfl, rfl, rfl, Nat.le_refl _, fun _ _ => rfl⟩
          generalize w.drewN nq = wd at hbd ⊢
          have HBd : Hid (Below w.heap.size w wd) := hbd
          clear hbd
          refine (clone_any a cap xs wd (HR.out.below HBd.out) hl2).mono ?_
          rintro e w1 ⟨⟨a', cap', rfl, hr1⟩, hb1⟩
          have HR1 : Hid (Reads w1 a' xs) := hr1
          have HB1 : Hid (Below w.heap.size w w1) := HBd.out.trans (hb1.mono HBd.out.size)
          clear hr1 hb1 HBd
          go_wp2_with (go_at_call 10; go_in)
          have H12 : Hid (Calls Tryd.prog 12 #[.string t, .slice a' xs.length cap'] w1 fun e w' => e = .returned (ans (Sub.sc (raws xs) none t.data.toList)) ∧ Below w1.heap.size w1 w') := by
            have hc2 : w1.cell? ⟨2, 0, none⟩ = some (.int .i64 m) := (HB1.out.cell (p := ⟨2, 0, none⟩) h2).trans HM.out
            have := substitute_any t a' cap' xs m w1 ht2 hl2 HX.out HR1.out hc2 (HE.out.1.below HB1.out) (HE.out.2.below HB1.out)
            rw [← Sub.scan_split] at this
            exact this
          have H11 : Hid (∀ w2, Below w1.heap.size w1 w2 → Calls Tryd.prog 11 #[.string t, .slice a' xs.length cap'] w2 fun e w' => e = .returned (ans (Sub.sc (raws xs) none t.data.toList)) ∧ Below w2.heap.size w2 w') :=
            fun w2 hb2 => scan_any t a' cap' xs w2 ht2 hl2 HX.out (HR1.out.below hb2)
          generalize Sub.sc (raws xs) none t.data.toList = r at H12 H11
          cases r
          · refine (H12.out).mono ?_
            rintro e w2 ⟨rfl, hb2⟩
            have HB2 : Hid (Below w.heap.size w w2) := HB1.out.trans (hb2.mono HB1.out.size)
            have H11' := H11.out w2 hb2
            clear hb2 H11 H12
            rw [ans_none] at H11' ⊢
            have H11 : Hid (Calls Tryd.prog 11 #[.string t, .slice a' xs.length cap'] w2 fun e w' => e = .returned (.tuple #[.string ⟨#[]⟩, .bool false]) ∧ Below w2.heap.size w2 w') := H11'
            clear H11'
            go_wp2_with fail
            refine (H11.out).mono ?_
            rintro e w3 ⟨rfl, hb3⟩
            go_wp2
            go_ret
            exact ⟨rfl, HB2.out.trans (hb3.mono HB2.out.size)⟩
          · rename_i x
            refine (H12.out).mono ?_
            rintro e w2 ⟨rfl, hb2⟩
            have HB2 : Hid (Below w.heap.size w w2) := HB1.out.trans (hb2.mono HB1.out.size)
            have H11' := H11.out w2 hb2
            clear hb2 H11 H12
            rw [ans_some] at H11' ⊢
            generalize (⟨x.toArray⟩ : ByteArray) = X at H11' ⊢
            have H11 : Hid (Calls Tryd.prog 11 #[.string t, .slice a' xs.length cap'] w2 fun e w' => e = .returned (.tuple #[.string X, .bool true]) ∧ Below w2.heap.size w2 w') := H11'
            clear H11'
            go_wp2_with fail
            refine (H11.out).mono ?_
            rintro e w3 ⟨rfl, hb3⟩
            go_wp2
            go_ret
            exact ⟨by simp, HB2.out.trans (hb3.mono HB2.out.size)⟩
      · have hd3 : decide (0 < y3) = false := by simpa using hy3
        go_wp2
        go_quiet (fail)
        have hbd : Below w.heap.size w (w.drewN nq) := ⟨rfl, rfl, rfl, Nat.le_refl _, fun _ _ => rfl⟩
        generalize w.drewN nq = wd at hbd ⊢
        have HBd : Hid (Below w.heap.size w wd) := hbd
        clear hbd
        go_wp2_with fail
        refine (clone_any a cap xs wd (HR.out.below HBd.out) hl2).mono ?_
        rintro e w1 ⟨⟨a', cap', rfl, hr1⟩, hb1⟩
        have HR1 : Hid (Reads w1 a' xs) := hr1
        have HB1 : Hid (Below w.heap.size w w1) := HBd.out.trans (hb1.mono HBd.out.size)
        clear hr1 hb1 HBd
        go_wp2_with (go_at_call 10; go_in)
        have H12 : Hid (Calls Tryd.prog 12 #[.string t, .slice a' xs.length cap'] w1 fun e w' => e = .returned (ans (Sub.sc (raws xs) none t.data.toList)) ∧ Below w1.heap.size w1 w') := by
          have hc2 : w1.cell? ⟨2, 0, none⟩ = some (.int .i64 m) := (HB1.out.cell (p := ⟨2, 0, none⟩) h2).trans HM.out
          have := substitute_any t a' cap' xs m w1 ht2 hl2 HX.out HR1.out hc2 (HE.out.1.below HB1.out) (HE.out.2.below HB1.out)
          rw [← Sub.scan_split] at this
          exact this
        have H11 : Hid (∀ w2, Below w1.heap.size w1 w2 → Calls Tryd.prog 11 #[.string t, .slice a' xs.length cap'] w2 fun e w' => e = .returned (ans (Sub.sc (raws xs) none t.data.toList)) ∧ Below w2.heap.size w2 w') :=
          fun w2 hb2 => scan_any t a' cap' xs w2 ht2 hl2 HX.out (HR1.out.below hb2)
        generalize Sub.sc (raws xs) none t.data.toList = r at H12 H11
        cases r
        · refine (H12.out).mono ?_
          rintro e w2 ⟨rfl, hb2⟩
          have HB2 : Hid (Below w.heap.size w w2) := HB1.out.trans (hb2.mono HB1.out.size)
          have H11' := H11.out w2 hb2
          clear hb2 H11 H12
          rw [ans_none] at H11' ⊢
          have H11 : Hid (Calls Tryd.prog 11 #[.string t, .slice a' xs.length cap'] w2 fun e w' => e = .returned (.tuple #[.string ⟨#[]⟩, .bool false]) ∧ Below w2.heap.size w2 w') := H11'
          clear H11'
          go_wp2_with fail
          refine (H11.out).mono ?_
          rintro e w3 ⟨rfl, hb3⟩
          go_wp2
          go_ret
          exact ⟨rfl, HB2.out.trans (hb3.mono HB2.out.size)⟩
        · rename_i x
          refine (H12.out).mono ?_
          rintro e w2 ⟨rfl, hb2⟩
          have HB2 : Hid (Below w.heap.size w w2) := HB1.out.trans (hb2.mono HB1.out.size)
          have H11' := H11.out w2 hb2
          clear hb2 H11 H12
          rw [ans_some] at H11' ⊢
          generalize (⟨x.toArray⟩ : ByteArray) = X at H11' ⊢
          have H11 : Hid (Calls Tryd.prog 11 #[.string t, .slice a' xs.length cap'] w2 fun e w' => e = .returned (.tuple #[.string X, .bool true]) ∧ Below w2.heap.size w2 w') := H11'
          clear H11'
          go_wp2_with fail
          refine (H11.out).mono ?_
          rintro e w3 ⟨rfl, hb3⟩
          go_wp2
          go_ret
          exact ⟨by simp, HB2.out.trans (hb3.mono HB2.out.size)⟩
end Go.Proofs.Qxb6604184aDoor
