import Derived.Test.Qxb6603685aDoorModel
namespace Go.Proofs.Qxb6603685aDoor
open Go.RowKit

def okB (pre : Bool) (id : ByteArray) : Bool := Idn.segOK pre id.data.toList
/-- what strings.Split owes. -/
def Splits (s : ByteArray) (L : List ByteArray) (w : World) : Prop :=
  Calls Tryd.prog 21 #[.string s, .string ⟨#[46]⟩] w fun e w' =>
    e = .returned (.slice (some ⟨w.heap.size, 0, none⟩) L.length L.length) ∧ w' = w.alloc (.cells (L.map Value.string).toArray 9)

theorem cell_split (L : List ByteArray) (w : World) (k : Nat) (h : k < L.length) :
    (w.alloc (.cells (L.map Value.string).toArray 9)).cell? ⟨w.heap.size, k, none⟩ = some (.string L[k]) := by
  simp [h]

/-- the first k pieces pass. -/
def Pass (pre : Bool) (L : List ByteArray) (k : Nat) : Prop := (L.take k).all (okB pre) = true
/-- the first j bytes of a piece are of the alphabet. -/
def Pure (id : ByteArray) (j : Nat) : Prop := (id.data.toList.take j).all Idn.isId = true
def digs (id : ByteArray) (j : Nat) : Bool := (id.data.toList.take j).all Idn.isDig

theorem Pass.next {pre : Bool} {L : List ByteArray} {k : Nat} {id : ByteArray} (h : Pass pre L k) (e : L[k]? = some id) (ho : okB pre id = true) : Pass pre L (k + 1) := by
  unfold Pass at *
  rw [List.take_add_one, e]
  simp only [List.all_append, h, Bool.true_and]
  simp [ho]
theorem Pass.fail {pre : Bool} {L : List ByteArray} {k : Nat} {id : ByteArray} (e : L[k]? = some id) (ho : okB pre id = false) : L.all (okB pre) = false := by
  rw [List.all_eq_false]
  exact ⟨id, List.mem_of_getElem? e, by simp [ho]⟩
theorem Pass.done {pre : Bool} {L : List ByteArray} {k : Nat} (h : Pass pre L k) (e : ¬ k < L.length) : L.all (okB pre) = true := by
  unfold Pass at h
  rwa [List.take_of_length_le (by omega)] at h
theorem take_next (id : ByteArray) (j : Nat) (h : j < id.size) : id.data.toList.take (j + 1) = id.data.toList.take j ++ [id[j]] := by
  rw [List.take_succ_eq_append_getElem (by simpa using h)]; rfl
theorem Pure.next {id : ByteArray} {j : Nat} (h : Pure id j) (hj : j < id.size) (e : Idn.isId id[j] = true) : Pure id (j + 1) := by
  unfold Pure at *
  rw [take_next id j hj, List.all_append, h]
  simp [e]
theorem digs_next (id : ByteArray) (j : Nat) (h : j < id.size) : digs id (j + 1) = (digs id j && Idn.isDig id[j]) := by
  unfold digs
  rw [take_next id j h, List.all_append]
  simp
theorem okB_bad {pre : Bool} {id : ByteArray} {j : Nat} (h : j < id.size) (e : Idn.isId id[j] = false) : okB pre id = false := by
  unfold okB Idn.segOK
  rw [Bool.and_eq_false_iff]
  left
  rw [List.all_eq_false]
  exact ⟨id[j], Array.getElem_mem_toList (xs := id.data) h, by simp [e]⟩
theorem okB_empty {pre : Bool} {id : ByteArray} (h : id.size = 0) : okB pre id = false := by
  unfold okB Idn.segOK Idn.segEnd
  have : id.data.toList.length = 0 := by simpa using h
  rw [this]
  simp
theorem okB_end {pre : Bool} {id : ByteArray} {j : Nat} (h0 : ¬ id.size = 0) (hj : ¬ j < id.size) (h : Pure id j) :
    okB pre id = !(pre && digs id j && decide (1 < id.size) && (id.data.toList.head? == some 48)) := by
  unfold Pure digs okB Idn.segOK Idn.segEnd at *
  have hl : id.data.toList.length = id.size := by simp
  rw [List.take_of_length_le (by omega)] at h ⊢
  rw [h, hl, if_neg h0, Bool.true_and]
  cases pre <;> cases id.data.toList.all Idn.isDig <;> cases (id.data.toList.head? == some 48) <;> simp
theorem head_eq (id : ByteArray) (h : 0 < id.size) : (id.data.toList.head? == some 48) = ((id[0].toNat : Int) == 48) := by
  rw [eq48]
  have := drop_cons id 0 h
  rw [List.drop_zero] at this
  rw [this, List.head?_cons]
  rfl

set_option maxHeartbeats 400000 in
theorem identsOK_core (s : ByteArray) (pre : Bool) (L : List ByteArray) (w : World) (hL : L.length ≤ 1048577) (hLs : ∀ id ∈ L, id.size ≤ 1048576) (hsp : Splits s L w) :
    Calls Tryd.prog 12 #[.string s, .bool pre] w fun e w' => e = .returned (.bool (L.all (okB pre))) ∧ w' = w.alloc (.cells (L.map Value.string).toArray 9) := by
  have HS : Hid (Splits s L w) := hsp
  clear hsp
  have HLs : Hid (∀ id ∈ L, id.size ≤ 1048576) := hLs
  clear hLs
  go_enter Tryd.func12, Tryd.ntmps12
  go_wp2_with (go_at_call 21; refine (HS.out).mono ?_; rintro e w' ⟨rfl, rfl⟩)
  have hc := cell_split L w
  generalize hw1 : w.alloc (.cells (L.map Value.string).toArray 9) = w1 at hc ⊢
  have HW : Hid (w.alloc (.cells (L.map Value.string).toArray 9) = w1) := hw1
  clear hw1
  generalize w.heap.size = b at hc ⊢
  go_loop [13] (fun vi => ∃ k : Nat, k ≤ L.length ∧ vi = .int .i64 k ∧ Pass pre L k) (fun i => L.length - (intOf i).toNat)
  case atStart => exact ⟨0, by omega, rfl, rfl⟩
  case round =>
    obtain ⟨k, hk, rfl, HK⟩ := hrel
    by_cases hlt : k < L.length
    · have hck := hc k hlt
      clear hc
      have hsz := HLs.out L[k] (List.getElem_mem hlt)
      have HN : Hid (L[k]? = some L[k]) := List.getElem?_eq_getElem hlt
      generalize L[k] = id at hck hsz HN
      by_cases h0 : id.size = 0
      · have he : id.toList.isEmpty = true := by rw [ByteArray.toList_eq]; simp [Array.eq_empty_of_size_eq_zero h0]
        go_wp2
        go_ret
        exact ⟨ret_bool (Pass.fail HN.out (okB_empty h0)).symm, HW.out.symm⟩
      · have he : id.toList.isEmpty = false := by rw [ByteArray.toList_eq]; simp; intro h; exact h0 (by simp [ByteArray.size, h])
        go_wp2
        go_loop [7, 8] (fun vd vi => ∃ j : Nat, j ≤ id.size ∧ vi = .int .i64 j ∧ vd = .bool (digs id j) ∧ Pure id j) (fun _ i => id.size - (intOf i).toNat)
        case atStart => exact ⟨0, by omega, rfl, rfl, rfl⟩
        case round =>
          obtain ⟨j, hj, rfl, rfl, HJ⟩ := hrel
          by_cases hjl : j < id.size
          · have hdn := digs_next id j hjl
            have HD : Hid (digs id (j + 1) = (digs id j && Idn.isDig id[j])) := hdn
            clear hdn
            by_cases hd : (48 : Int) ≤ id[j].toNat ∧ (id[j].toNat : Int) ≤ 57
            · obtain ⟨hd1, hd2⟩ := hd
              have HG : Hid (Idn.isDig id[j] = true) := by simp [Hid, Idn.isDig, hd1, hd2]
              have HI : Hid (Idn.isId id[j] = true) := by simp [Hid, Idn.isId, HG.out]
              go_wp2
              go_round
              case rel => exact ⟨j + 1, by omega, by go_num, by rw [HD.out, HG.out, Bool.and_true], HJ.next hjl HI.out⟩
              case measure => simp [intOf]; omega
            · have HG : Hid (Idn.isDig id[j] = false) := by
                unfold Hid Idn.isDig
                rw [Bool.and_eq_false_iff]
                simp only [decide_eq_false_iff_not]
                omega
              by_cases hl : ((97 : Int) ≤ id[j].toNat ∧ (id[j].toNat : Int) ≤ 122) ∨ ((65 : Int) ≤ id[j].toNat ∧ (id[j].toNat : Int) ≤ 90) ∨ (id[j].toNat : Int) = 45
              · have HI : Hid (Idn.isId id[j] = true) := by
                  unfold Hid Idn.isId
                  simp
                  omega
                go_wp2
                all_goals
                  go_round
                  case rel => exact ⟨j + 1, by omega, by go_num, by rw [HD.out, HG.out, Bool.and_false], HJ.next hjl HI.out⟩
                  case measure => simp [intOf]; omega
              · have HI : Hid (Idn.isId id[j] = false) := by
                  unfold Hid Idn.isId
                  rw [HG.out]
                  simp
                  omega
                go_wp2
                all_goals
                  go_ret
                  exact ⟨ret_bool (Pass.fail HN.out (okB_bad hjl HI.out)).symm, HW.out.symm⟩
          · have HE : Hid (okB pre id = !(pre && digs id j && decide (1 < id.size) && (id.data.toList.head? == some 48))) := okB_end h0 hjl HJ
            have HH : Hid ((id.data.toList.head? == some 48) = ((id[0].toNat : Int) == 48)) := head_eq id (by omega)
            generalize digs id j = dg at HE ⊢
            clear HJ
            cases pre
            · have ho : okB false id = true := by rw [HE.out]; rfl
              clear HE HH
              go_wp2
              go_round
              case rel => exact ⟨k + 1, by omega, by go_num, HK.next HN.out ho⟩
              case measure => simp [intOf]; omega
            · cases dg
              · have ho : okB true id = true := by rw [HE.out]; rfl
                clear HE HH
                go_wp2
                go_round
                case rel => exact ⟨k + 1, by omega, by go_num, HK.next HN.out ho⟩
                case measure => simp [intOf]; omega
              · by_cases h1 : 1 < id.size
                · have h00 : 0 < id.size := by omega
                  cases hz : ((id[0].toNat : Int) == 48)
                  · have ho : okB true id = true := by rw [HE.out, HH.out, hz]; simp
                    clear HE HH
                    go_wp2
                    go_round
                    case rel => exact ⟨k + 1, by omega, by go_num, HK.next HN.out ho⟩
                    case measure => simp [intOf]; omega
                  · have ho : okB true id = false := by rw [HE.out, HH.out, hz]; simp [h1]
                    clear HE HH
                    go_wp2
                    go_ret
                    exact ⟨ret_bool (Pass.fail HN.out ho).symm, HW.out.symm⟩
                · have ho : okB true id = true := by rw [HE.out]; simp [h1]
                  clear HE HH
                  go_wp2
                  go_round
                  case rel => exact ⟨k + 1, by omega, by go_num, HK.next HN.out ho⟩
                  case measure => simp [intOf]; omega
    · go_wp2
      go_ret
      exact ⟨ret_bool (HK.done hlt).symm, HW.out.symm⟩
end Go.Proofs.Qxb6603685aDoor
