import Derived.Test.Qxb6604184aDoorScan
namespace Go.Proofs.Qxb6604184aDoor
open Go.RowKit

set_option maxRecDepth 100000 in
set_option maxHeartbeats 1000000 in
theorem scan_any (t : ByteArray) (a : Option Addr) (cap : Nat) (xs : List ByteArray) (w : World) (ht : t.size ≤ 1048576) (hl : xs.length ≤ 1048576) (hx : Short xs) (hr : Reads w a xs) :
    Calls Tryd.prog 11 #[.string t, .slice a xs.length cap] w fun e w' => e = .returned (ans (Sub.sc (raws xs) none t.data.toList)) ∧ Below w.heap.size w w' := by
  obtain ⟨i5, hi, hz0, hz1, hz2⟩ := info5
  have HX : Hid (Short xs) := hx
  have HR : Hid (Reads w a xs) := hr
  have HAL : Hid ((raws xs).length = xs.length) := raws_length xs
  clear hx hr
  go_enter Tryd.func11, Tryd.ntmps11
  go_wp2
  go_loopw [6, 7] (fun vo vi wr => ∃ (k : Nat) (o : List UInt8), k ≤ t.size ∧ Hid (o.length ≤ k * 1048576) ∧ vi = .int .i64 k ∧ Hid (OwnsB wr w.heap.size vo o) ∧ Hid (Below w.heap.size w wr) ∧ Out (raws xs) t k o)
    (fun _ i _ => t.size - (intOf i).toNat)
  case atStart => exact ⟨0, [], by omega, by simp [Hid], rfl, World.ownsRow_nil _ _ _ _, Below.refl _ _, Out.start _ _⟩
  case round =>
    obtain ⟨k, o, hk, HL, rfl, HO, HB, HM⟩ := hrel
    have hol : o.length ≤ 1099511627776 := by have := HL.out; omega
    have hbs := HB.out.size
    by_cases hlt : k < t.size
    · cases h0 : ((t[k].toNat : Int) == 0)
      · have HN := HM.byte hlt h0
        clear HM
        go_wp2_with (at_builtin; refine wpList_append_own _ rfl _ _ 31 rfl w.heap.size 5 i5 (.int .u8 0) 1 1 Tryd.underlying31 hi hz0 hz1 hz2 rfl (by decide) _ _ _ rfl (HO.out.alloc _) ⟨wr.heap.size, 0, none⟩ 1 1 [.int .u8 t[k].toNat] rfl rfl ?c1 ?c2 ?c3 ?c4 ?c5 ?_)
        case c1 => exact cell_one_new _ _ _
        case c2 => intro u hu; simp at hu; subst hu; rfl
        case c3 => unfold maxLen; omega
        case c4 => omega
        case c5 => simp; omega
        intro v' w2 hown2 hg2 hnil
        have HO2 : Hid (OwnsB w2 w.heap.size v' (o ++ [t[k]])) := OwnsB.push hown2
        have HB2 : Hid (Below w.heap.size w w2) := OwnsB.grown (HB.out.alloc hbs _) (by simp; omega) (HO.out.alloc _) hg2
        clear hown2 hg2 hnil
        go_wp2
        go_roundw
        case rel => exact ⟨k + 1, o ++ [t[k]], by omega, by have := HL.out; unfold Hid; rw [List.length_append, List.length_singleton]; omega, by go_num, HO2, HB2, HN⟩
        case measure => simp [intOf]; omega
      · have HN := HM.mark hlt h0
        clear HM
        go_wp2
        go_loop [8, 9, 10] (fun vj vv vd => ∃ (j v d : Nat), k < j ∧ j ≤ t.size ∧ v ≤ xs.length ∧ d ≤ j ∧ vj = .int .i64 j ∧ vv = .int .i64 v ∧ vd = .int .i64 d ∧ Ins (raws xs) t j v d o) (fun j _ _ => t.size - (intOf j).toNat)
        case atStart => exact ⟨k + 1, 0, 0, by omega, by omega, by omega, by omega, by go_num, rfl, rfl, HN⟩
        case round =>
          clear HN h0
          obtain ⟨j, v, d, hkj, hj, hv, hd, rfl, rfl, rfl, HM⟩ := hrel
          by_cases hjl : j < t.size
          · cases h0 : ((t[j].toNat : Int) == 0)
            · by_cases hdig : 48 ≤ (t[j].toNat : Int) ∧ (t[j].toNat : Int) ≤ 57
              · obtain ⟨hd1, hd2⟩ := hdig
                have HN := HM.digit hjl h0 hd1 hd2
                rw [HAL.out] at HN
                clear HM
                have hdd : d + 1 ≤ j + 1 := by omega
                by_cases hsat : (xs.length : Int) < (v : Int) * 10 + ((t[j].toNat : Int) - 48)
                · rw [Nat.min_eq_right (by omega)] at HN
                  have HN' : Hid (Ins (raws xs) t (j + 1) xs.length (d + 1) o) := HN
                  clear HN
                  go_wp2
                  go_round
                  case rel => exact ⟨_, _, .int .i64 ((j + 1 : Nat) : Int), .int .i64 (xs.length : Int), .int .i64 ((d + 1 : Nat) : Int), ⟨j + 1, by omega, by omega, xs.length, Nat.le_refl _, d + 1, hdd, rfl, rfl, rfl, HN'⟩, rfl, rfl, by go_num, rfl, by go_num⟩
                  case measure => simp [intOf]; omega
                · rw [Nat.min_eq_left (by omega)] at HN
                  have hvn : v * 10 + (t[j].toNat - 48) ≤ xs.length := by omega
                  have HN' : Hid (Ins (raws xs) t (j + 1) (v * 10 + (t[j].toNat - 48)) (d + 1) o) := HN
                  have HV : Hid ((v : Int) * 10 + ((t[j].toNat : Int) - 48) = ((v * 10 + (t[j].toNat - 48) : Nat) : Int)) := by unfold Hid; omega
                  generalize v * 10 + (t[j].toNat - 48) = v2 at HN' HV hvn
                  clear HN
                  go_wp2
                  go_round
                  case rel => exact ⟨_, _, .int .i64 ((j + 1 : Nat) : Int), .int .i64 (v2 : Int), .int .i64 ((d + 1 : Nat) : Int), ⟨j + 1, by omega, by omega, v2, hvn, d + 1, hdd, rfl, rfl, rfl, HN'⟩, rfl, rfl, by go_num, congrArg (Value.int .i64) HV.out, by go_num⟩
                  case measure => simp [intOf]; omega
              · have HF : Hid (Sub.sc (raws xs) none t.data.toList = none) := HM.bad hjl h0 (by omega)
                clear HM
                go_wp2
                all_goals
                  go_ret2
                  exact ⟨by rw [HF.out]; rfl, HB⟩
            · by_cases hbad : d = 0 ∨ xs.length ≤ v
              · have HF : Hid (Sub.sc (raws xs) none t.data.toList = none) := HM.refuse hjl h0 (by rw [HAL.out]; exact hbad)
                clear HM
                by_cases hd0 : d = 0
                · subst hd0
                  go_wp2
                  go_ret2
                  exact ⟨by rw [HF.out]; rfl, HB⟩
                · have hdb : ((d : Int) == 0) = false := by rw [beq_eq_false_iff_ne]; omega
                  have hvl : (xs.length : Int) ≤ (v : Int) := by omega
                  clear hbad
                  go_wp2
                  go_ret2
                  exact ⟨by rw [HF.out]; rfl, HB⟩
              · have hvl : v < xs.length := by omega
                have hdb : ((d : Int) == 0) = false := by rw [beq_eq_false_iff_ne]; omega
                have HN : Hid (Out (raws xs) t (j + 1) (o ++ xs[v].data.toList)) := HM.take hjl h0 (by rw [HAL.out]; exact hbad) (raws_get xs v hvl)
                have hYs := HX.out xs[v] (List.getElem_mem hvl)
                obtain ⟨b, off, rfl, hb, hc⟩ := HR.out v hvl
                have hcr : wr.cell? ⟨b, off + v, none⟩ = some (.string xs[v]) := (HB.out.cell (p := ⟨b, off + v, none⟩) hb).trans hc
                have hvi : (v : Int) < (xs.length : Int) := by omega
                clear hc hbad HM
                generalize xs[v] = Y at HN hYs hcr
                go_wp2_with (at_builtin; refine Lib.wpList_append_own_string _ rfl _ _ 31 9 rfl w.heap.size 5 i5 Tryd.underlying31 Tryd.underlying9 hi hz0 hz1 hz2 _ _ _ rfl HO.out Y rfl ?c3 ?c4 ?c5 ?_)
                case c3 => unfold maxLen; omega
                case c4 => omega
                intro v' w2 hown2 hg2 hnil
                have HO2 : Hid (OwnsB w2 w.heap.size v' (o ++ Y.data.toList)) := OwnsB.add hown2
                have HB2 : Hid (Below w.heap.size w w2) := OwnsB.grown HB.out hbs HO.out hg2
                clear hown2 hg2 hnil hcr
                go_wp2
                go_roundw
                case rel => exact ⟨j + 1, o ++ Y.data.toList, by omega, by have := HL.out; have e : Y.data.toList.length = Y.size := by simp
                                                                           unfold Hid; rw [List.length_append, e]; omega, by go_num, HO2, HB2, HN⟩
                case measure => simp [intOf]; omega
          · have HF : Hid (Sub.sc (raws xs) none t.data.toList = none) := HM.over hjl
            clear HM
            go_wp2
            go_ret2
            exact ⟨by rw [HF.out]; rfl, HB⟩
    · have HF : Hid (Sub.sc (raws xs) none t.data.toList = some o) := HM.done hlt
      clear HM
      have hconv := HO.out.text
      go_wp2
      go_ret2
      exact ⟨by rw [HF.out]; rfl, HB⟩
end Go.Proofs.Qxb6604184aDoor
