import Derived.Test.Qxb6603950aDoorSpace
import Derived.Deep.OwnRows
namespace Go.Proofs.Qxb6603950aDoor
open Go.RowKit

/-- the mask as far as j; behind j nothing is marked yet. -/
def Msk (s : ByteArray) (M : List Bool) (j : Nat) (q : Bool) : Prop :=
  M.length = s.size ∧ Sip.mask false false s.data.toList = M.take j ++ Sip.mask q false (s.data.toList.drop j) ∧ ∀ t, j ≤ t → t < s.size → M[t]? = some false
theorem Msk.start (s : ByteArray) : Msk s (List.replicate s.size false) 0 false := by
  refine ⟨by simp, rfl, fun t _ ht => ?_⟩
  rw [List.getElem?_replicate, if_pos ht]
theorem Msk.take {s : ByteArray} {M : List Bool} {j : Nat} {q : Bool} (h : Msk s M j q) (hj : j < s.size) : M.take (j + 1) = M.take j ++ [false] := by
  rw [List.take_add_one, h.2.2 j (Nat.le_refl _) hj]; rfl
theorem Msk.plain {s : ByteArray} {M : List Bool} {j : Nat} (h : Msk s M j false) (hj : j < s.size) (h34 : ((s[j].toNat : Int) == 34) = false) : Msk s (M.set j true) (j + 1) false := by
  have e : (s[j] == 34) = false := by rw [beqI]; exact h34
  refine ⟨by rw [List.length_set]; exact h.1, ?_, fun t ht hts => ?_⟩
  · rw [h.2.1, drop_cons s j hj, Sip.mask, if_neg (by rw [e]; simp), List.take_add_one, List.take_set_of_le (Nat.le_refl _), List.getElem?_set_self (by rw [h.1]; exact hj)]
    simp
  · rw [List.getElem?_set_ne (by omega)]
    exact h.2.2 t (by omega) hts
theorem Msk.opens {s : ByteArray} {M : List Bool} {j : Nat} (h : Msk s M j false) (hj : j < s.size) (h34 : ((s[j].toNat : Int) == 34) = true) : Msk s M (j + 1) true := by
  have e : (s[j] == 34) = true := by rw [beqI]; exact h34
  refine ⟨h.1, ?_, fun t ht hts => h.2.2 t (by omega) hts⟩
  rw [h.2.1, drop_cons s j hj, Sip.mask, if_pos e, h.take hj]
  simp
theorem Msk.inside {s : ByteArray} {M : List Bool} {j : Nat} (h : Msk s M j true) (hj : j < s.size) (h34 : ((s[j].toNat : Int) == 34) = false) (h92 : ((s[j].toNat : Int) == 92) = false) : Msk s M (j + 1) true := by
  have e : (s[j] == 34) = false := by rw [beqI]; exact h34
  have e2 : (s[j] == 92) = false := by rw [beqI]; exact h92
  refine ⟨h.1, ?_, fun t ht hts => h.2.2 t (by omega) hts⟩
  rw [h.2.1, drop_cons s j hj, Sip.mask, if_neg (by rw [e2]; simp), if_neg (by rw [e]; simp), h.take hj]
  simp
theorem Msk.escape {s : ByteArray} {M : List Bool} {j : Nat} (h : Msk s M j true) (hj : j < s.size) (h92 : ((s[j].toNat : Int) == 92) = true) : Msk s M (j + 2) true := by
  have e2 : (s[j] == 92) = true := by rw [beqI]; exact h92
  refine ⟨h.1, ?_, fun t ht hts => h.2.2 t (by omega) hts⟩
  rw [h.2.1, drop_cons s j hj, Sip.mask, if_pos e2]
  by_cases hj1 : j + 1 < s.size
  · rw [drop_cons s (j + 1) hj1, Sip.mask, List.take_add_one (i := j + 1), h.2.2 (j + 1) (by omega) hj1, h.take hj]
    simp
  · rw [drop_end s (j + 1) (by omega), drop_end s (j + 2) (by omega), List.take_add_one (i := j + 1), List.getElem?_eq_none (by rw [h.1]; omega), h.take hj]
    simp [Sip.mask]
theorem Msk.closes {s : ByteArray} {M : List Bool} {j : Nat} (h : Msk s M j true) (hj : j < s.size) (h34 : ((s[j].toNat : Int) == 34) = true) : Msk s M (j + 1) false := by
  have e : s[j] = 34 := byte_eq (d := 34) h34
  refine ⟨h.1, ?_, fun t ht hts => h.2.2 t (by omega) hts⟩
  rw [h.2.1, drop_cons s j hj, Sip.mask, if_neg (by rw [e]; decide), if_pos (by rw [e]; rfl), h.take hj]
  simp
theorem Msk.over {s : ByteArray} {M : List Bool} {j : Nat} (h : Msk s M j true) (hj : ¬ j < s.size) : Msk s M (j + 1) false := by
  refine ⟨h.1, ?_, fun t ht hts => h.2.2 t (by omega) hts⟩
  rw [h.2.1, drop_end s j (by omega), drop_end s (j + 1) (by omega), List.take_of_length_le (by rw [h.1]; omega), List.take_of_length_le (by rw [h.1]; omega)]
  rfl
theorem Msk.done {s : ByteArray} {M : List Bool} {j : Nat} (h : Msk s M j false) (hj : ¬ j < s.size) : M = Sip.mask false false s.data.toList := by
  rw [h.2.1, drop_end s j (by omega), List.take_of_length_le (by rw [h.1]; omega)]
  simp [Sip.mask]

/-- the mask's cells. -/
def arr (M : List Bool) : Array Value := (M.map Value.bool).toArray
theorem arr_size (M : List Bool) : (arr M).size = M.length := by simp [arr]
theorem arr_made (n : Nat) : madeCells #[.bool false] n = arr (List.replicate n false) := by
  apply Array.toList_inj.1
  rw [toList_madeCells_one]
  simp [arr]
theorem arr_set (M : List Bool) (j : Nat) (b : Bool) : (arr M).setIfInBounds j (.bool b) = arr (M.set j b) := by
  simp [arr, List.map_set]
theorem arr_get (M : List Bool) (j : Nat) (h : j < M.length) : (arr M)[j]? = some (.bool M[j]) := by
  simp [arr, h]
theorem arr_cell (w : World) (M : List Bool) (j : Nat) (h : j < M.length) : (w.alloc (.cells (arr M) 4)).cell? ⟨w.heap.size, j, none⟩ = some (.bool M[j]) := by
  have := arr_get M j h
  simp [this]

set_option maxHeartbeats 1000000 in
theorem mask_any (s : ByteArray) (w : World) (hs : s.size ≤ 1048576) :
    Calls Tryd.prog 21 #[.string s] w fun e w' => e = .returned (.slice (some ⟨w.heap.size, 0, none⟩) s.size s.size) ∧ w' = w.alloc (.cells (arr (Sip.mask false false s.data.toList)) 4) := by
  have hmk : ∀ w : World, (Instr.makeSlice 30 (.int .i64 (s.size : Int)) (.int .i64 (s.size : Int))).run Tryd.prog w = .ok (.slice (some ⟨w.heap.size, 0, none⟩) s.size s.size) (w.alloc (.cells (arr (List.replicate s.size false)) 4)) := by
    intro w
    rw [← arr_made]
    exact run_make_row' 30 4 (.bool false) 1 Tryd.underlying30 (by kernel_rfl) rfl .i64 .i64 s.size (by omega) (by omega) w
  go_enter Tryd.func21, Tryd.ntmps21
  go_wp2
  go_loopw [4] (fun vi wr => ∃ (i : Nat) (M : List Bool), i ≤ s.size + 2 ∧ vi = .int .i64 i ∧ wr = w.alloc (.cells (arr M) 4) ∧ Msk s M i false) (fun i _ => s.size + 2 - (intOf i).toNat)
  case atStart => exact ⟨0, _, by omega, rfl, rfl, Msk.start s⟩
  case round =>
    clear hmk
    obtain ⟨i, M, hi, rfl, rfl, HM⟩ := hrel
    by_cases hlt : i < s.size
    · cases h34 : ((s[i].toNat : Int) == 34)
      · have hml : i < M.length := by rw [HM.1]; exact hlt
        have hcell := arr_cell w M i hml
        have HN := HM.plain hlt h34
        have hset := arr_set M i true
        clear HM
        go_wp2
        go_roundw
        case rel => exact ⟨i + 1, M.set i true, by omega, by go_num, rfl, HN⟩
        case measure => simp [intOf]; omega
      · have HN := HM.opens hlt h34
        clear HM
        go_wp2
        go_loop [5] (fun vj => ∃ j : Nat, i < j ∧ j ≤ s.size + 1 ∧ vj = .int .i64 j ∧ Msk s M j true) (fun j => s.size + 1 - (intOf j).toNat)
        case atStart => exact ⟨i + 1, by omega, by omega, by go_num, HN⟩
        case round =>
          clear HN h34
          obtain ⟨j, hij, hj, rfl, HM⟩ := hrel
          by_cases hjl : j < s.size
          · cases g34 : ((s[j].toNat : Int) == 34)
            · cases g92 : ((s[j].toNat : Int) == 92)
              · have HN := HM.inside hjl g34 g92
                clear HM
                go_wp2
                go_round
                case rel => exact ⟨j + 1, by omega, by omega, by go_num, HN⟩
                case measure => simp [intOf]; omega
              · have HN := HM.escape hjl g92
                clear HM
                go_wp2
                go_round
                case rel => exact ⟨j + 2, by omega, by omega, by go_num, HN⟩
                case measure => simp [intOf]; omega
            · have HN := HM.closes hjl g34
              clear HM
              go_wp2
              go_roundw
              case rel => exact ⟨j + 1, M, by omega, by go_num, rfl, HN⟩
              case measure => simp [intOf]; omega
          · have HN := HM.over hjl
            clear HM
            go_wp2
            go_roundw
            case rel => exact ⟨j + 1, M, by omega, by go_num, rfl, HN⟩
            case measure => simp [intOf]; omega
    · have HN : Hid (M = Sip.mask false false s.data.toList) := HM.done hlt
      clear HM
      go_wp2
      go_ret
      exact ⟨rfl, by rw [HN.out]⟩
end Go.Proofs.Qxb6603950aDoor
