import Derived.Test.Qxb6603950aDoorSpaceEnd
import Derived.Lib.Strings
namespace Go.Proofs.Qxb6603950aDoor
open Go.RowKit

theorem bytes_of {b : ByteArray} {l : List UInt8} (h : b.data.toList = l) : b = ⟨l.toArray⟩ := by
  subst h
  cases b
  simp
theorem ret_str {b : ByteArray} {l : List UInt8} (h : b.data.toList = l) : Ending.returned (.string b) = .returned (.string ⟨l.toArray⟩) := by rw [← bytes_of h]
/-- the bytes from lo to hi. -/
def cut (t : ByteArray) (lo hi : Nat) : List UInt8 := (t.data.toList.drop lo).take (hi - lo)
theorem cut_extract (t : ByteArray) (lo hi : Nat) : (t.extract lo hi).data.toList = cut t lo hi := Go.Lib.extract_data t lo hi
theorem cut_all (t : ByteArray) (lo : Nat) : cut t lo t.size = t.data.toList.drop lo := by
  unfold cut
  rw [List.take_of_length_le]
  rw [List.length_drop, Array.length_toList]
  exact Nat.le_refl _
theorem cut_length (t : ByteArray) (lo hi : Nat) (h : hi ≤ t.size) : (cut t lo hi).length = hi - lo := by
  unfold cut
  rw [List.length_take, List.length_drop, Array.length_toList]
  have : t.data.size = t.size := rfl
  omega
theorem cut_less (t : ByteArray) (lo hi k : Nat) (h : hi ≤ t.size) (_hk : k ≤ hi - lo) : (cut t lo hi).take ((cut t lo hi).length - k) = cut t lo (hi - k) := by
  rw [cut_length t lo hi h]
  unfold cut
  rw [List.take_take]
  congr 1
  omega
/-- the front is stripped as far as lo. -/
def FrontAt (t : ByteArray) (lo : Nat) : Prop := Sip.sL t.data.toList = Sip.sL (t.data.toList.drop lo)
def BackAt (t : ByteArray) (lo hi : Nat) : Prop := Sip.trim t.data.toList = Sip.sR (cut t lo hi)
theorem FrontAt.start (t : ByteArray) : FrontAt t 0 := rfl
theorem FrontAt.next {t : ByteArray} {lo : Nat} (h : FrontAt t lo) (h0 : ¬ Sip.spLen (t.data.toList.drop lo) = 0) : FrontAt t (lo + Sip.spLen (t.data.toList.drop lo)) := by
  unfold FrontAt at *
  rw [h, Sip.sL_step _ h0, List.drop_drop]
theorem FrontAt.stop {t : ByteArray} {lo : Nat} (h : FrontAt t lo) (h0 : Sip.spLen (t.data.toList.drop lo) = 0) : BackAt t lo t.size := by
  unfold FrontAt at h
  unfold BackAt
  rw [Sip.trim_eq, h, Sip.sL_stop _ h0, cut_all]
theorem BackAt.next {t : ByteArray} {lo hi : Nat} (h : BackAt t lo hi) (hh : hi ≤ t.size) (h0 : ¬ Sip.endLen (cut t lo hi) = 0) : BackAt t lo (hi - Sip.endLen (cut t lo hi)) := by
  unfold BackAt at *
  have : Sip.endLen (cut t lo hi) ≤ (cut t lo hi).length := by rw [Sip.endLen_eq]; exact Sip.tail_le _
  rw [cut_length t lo hi hh] at this
  rw [h, Sip.sR_step _ h0, cut_less t lo hi _ hh this]
theorem BackAt.stop {t : ByteArray} {lo hi : Nat} (h : BackAt t lo hi) (h0 : Sip.endLen (cut t lo hi) = 0) : (t.extract lo hi).data.toList = Sip.trim t.data.toList := by
  unfold BackAt at h
  rw [h, Sip.sR_stop _ h0, cut_extract]
theorem cut_nil (t : ByteArray) (lo : Nat) : cut t lo lo = [] := by simp [cut]

set_option maxHeartbeats 1000000 in
theorem trim_any (t : ByteArray) (w : World) (hs : t.size ≤ 1048576) :
    Calls Tryd.prog 16 #[.string t] w fun e w' => e = .returned (.string ⟨(Sip.trim t.data.toList).toArray⟩) ∧ w' = w := by
  go_enter Tryd.func16, Tryd.ntmps16
  go_wp2
  go_loop [3] (fun v => ∃ lo : Nat, lo ≤ t.size ∧ v = .int .i64 lo ∧ FrontAt t lo) (fun v => t.size - (intOf v).toNat)
  case atStart => exact ⟨0, by omega, rfl, rfl⟩
  case round =>
    obtain ⟨lo, hlo, rfl, HF⟩ := hrel
    have hle := len_le (t.data.toList.drop lo)
    have hln : (t.data.toList.drop lo).length = t.size - lo := by rw [List.length_drop, Array.length_toList]; rfl
    rw [hln] at hle
    clear hln
    by_cases hlt : lo < t.size
    · generalize hk : Sip.spLen (t.data.toList.drop lo) = k at hle
      have HK : Hid (Sip.spLen (t.data.toList.drop lo) = k) := hk
      clear hk
      have hcall : Hid (Calls Tryd.prog 23 #[.string t, .int .i64 lo] w fun e w' => e = .returned (.int .i64 k) ∧ w' = w) := by
        have := spaceLen_any t lo w hs hlt
        rw [HK.out] at this
        exact this
      by_cases h0 : k = 0
      · have hb : ((k : Int) == 0) = true := by rw [beq_iff_eq]; omega
        have HB : BackAt t lo t.size := HF.stop (by rw [HK.out]; exact h0)
        clear HF HK
        subst h0
        go_wp2_with (go_at_call 23; refine (hcall.out).mono ?_; rintro e w' ⟨rfl, rfl⟩)
        clear hcall
        go_loop [4] (fun v => ∃ hi : Nat, lo ≤ hi ∧ hi ≤ t.size ∧ v = .int .i64 hi ∧ BackAt t lo hi) (fun v => (intOf v).toNat)
        case atStart => exact ⟨t.size, by omega, by omega, rfl, HB⟩
        case round =>
          obtain ⟨hi, hlh, hht, rfl, HR⟩ := hrel
          by_cases hgt : lo < hi
          · have hcl := cut_length t lo hi hht
            have hel : Sip.endLen (cut t lo hi) ≤ (cut t lo hi).length := by rw [Sip.endLen_eq]; exact Sip.tail_le _
            rw [hcl] at hel
            clear hcl
            generalize hm : Sip.endLen (cut t lo hi) = m at hel
            have HM : Hid (Sip.endLen (cut t lo hi) = m) := hm
            clear hm
            have hcall2 : Hid (∀ w, Calls Tryd.prog 24 #[.string (t.extract lo hi)] w fun e w' => e = .returned (.int .i64 m) ∧ w' = w) := by
              intro w
              have := spaceEnd_any (t.extract lo hi) w (by rw [ByteArray.size_extract]; omega)
              rw [cut_extract, HM.out] at this
              exact this
            by_cases hm0 : m = 0
            · have hb2 : ((m : Int) == 0) = true := by rw [beq_iff_eq]; omega
              have HE := HR.stop (by rw [HM.out]; exact hm0)
              have HE' : Hid ((t.extract lo hi).data.toList = Sip.trim t.data.toList) := HE
              clear HE HR HM
              subst hm0
              go_wp2_with (go_at_call 24; refine (hcall2.out _).mono ?_; rintro e w' ⟨rfl, rfl⟩)
              go_ret
              exact ⟨ret_str HE'.out, rfl⟩
            · have hb2 : ((m : Int) == 0) = false := by rw [beq_eq_false_iff_ne]; omega
              have HB2 : BackAt t lo (hi - m) := by have := HR.next hht (by rw [HM.out]; exact hm0); rwa [HM.out] at this
              clear HR HM
              go_wp2_with (go_at_call 24; refine (hcall2.out _).mono ?_; rintro e w' ⟨rfl, rfl⟩)
              go_round
              case rel => exact ⟨hi - m, by omega, by omega, by go_num, HB2⟩
              case measure => simp [intOf]; omega
          · have hh : hi = lo := by omega
            subst hh
            have HE' : Hid (ByteArray.empty.data.toList = Sip.trim t.data.toList) := by have := HR.stop (by rw [cut_nil]; rfl); rw [cut_extract, cut_nil] at this; exact this
            clear HR
            go_wp2
            go_ret
            exact ⟨ret_str HE'.out, rfl⟩
      · have hb : ((k : Int) == 0) = false := by rw [beq_eq_false_iff_ne]; omega
        have HB : FrontAt t (lo + k) := by have := HF.next (by rw [HK.out]; exact h0); rwa [HK.out] at this
        clear HF HK
        go_wp2_with (go_at_call 23; refine (hcall.out).mono ?_; rintro e w' ⟨rfl, rfl⟩)
        go_round
        case rel => exact ⟨lo + k, by omega, by go_num, HB⟩
        case measure => simp [intOf]; omega
    · have HB : BackAt t lo t.size := HF.stop (by omega)
      clear HF
      go_wp2
      go_loop [4] (fun v => ∃ hi : Nat, lo ≤ hi ∧ hi ≤ t.size ∧ v = .int .i64 hi ∧ BackAt t lo hi) (fun v => (intOf v).toNat)
      case atStart => exact ⟨t.size, by omega, by omega, rfl, HB⟩
      case round =>
        obtain ⟨hi, hlh, hht, rfl, HR⟩ := hrel
        by_cases hgt : lo < hi
        · have hcl := cut_length t lo hi hht
          have hel : Sip.endLen (cut t lo hi) ≤ (cut t lo hi).length := by rw [Sip.endLen_eq]; exact Sip.tail_le _
          rw [hcl] at hel
          clear hcl
          generalize hm : Sip.endLen (cut t lo hi) = m at hel
          have HM : Hid (Sip.endLen (cut t lo hi) = m) := hm
          clear hm
          have hcall2 : Hid (∀ w, Calls Tryd.prog 24 #[.string (t.extract lo hi)] w fun e w' => e = .returned (.int .i64 m) ∧ w' = w) := by
            intro w
            have := spaceEnd_any (t.extract lo hi) w (by rw [ByteArray.size_extract]; omega)
            rw [cut_extract, HM.out] at this
            exact this
          by_cases hm0 : m = 0
          · have hb2 : ((m : Int) == 0) = true := by rw [beq_iff_eq]; omega
            have HE := HR.stop (by rw [HM.out]; exact hm0)
            have HE' : Hid ((t.extract lo hi).data.toList = Sip.trim t.data.toList) := HE
            clear HE HR HM
            subst hm0
            go_wp2_with (go_at_call 24; refine (hcall2.out _).mono ?_; rintro e w' ⟨rfl, rfl⟩)
            go_ret
            exact ⟨ret_str HE'.out, rfl⟩
          · have hb2 : ((m : Int) == 0) = false := by rw [beq_eq_false_iff_ne]; omega
            have HB2 : BackAt t lo (hi - m) := by have := HR.next hht (by rw [HM.out]; exact hm0); rwa [HM.out] at this
            clear HR HM
            go_wp2_with (go_at_call 24; refine (hcall2.out _).mono ?_; rintro e w' ⟨rfl, rfl⟩)
            go_round
            case rel => exact ⟨hi - m, by omega, by omega, by go_num, HB2⟩
            case measure => simp [intOf]; omega
        · have hh : hi = lo := by omega
          subst hh
          have HE' : Hid (ByteArray.empty.data.toList = Sip.trim t.data.toList) := by have := HR.stop (by rw [cut_nil]; rfl); rw [cut_extract, cut_nil] at this; exact this
          clear HR
          go_wp2
          go_ret
          exact ⟨ret_str HE'.out, rfl⟩
end Go.Proofs.Qxb6603950aDoor
