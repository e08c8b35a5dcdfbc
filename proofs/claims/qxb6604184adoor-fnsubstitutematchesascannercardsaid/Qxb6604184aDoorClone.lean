import Derived.Test.Qxb6604184aDoorSizes
namespace Go.Proofs.Qxb6604184aDoor
open Go.RowKit

/-- the cells of a row of strings. -/
def sarr (M : List ByteArray) : Array Value := (M.map Value.string).toArray
theorem sarr_made (n : Nat) : madeCells #[.string ByteArray.empty] n = sarr (List.replicate n ByteArray.empty) := by
  apply Array.toList_inj.1
  rw [toList_madeCells_one]
  simp [sarr]
theorem sarr_set (M : List ByteArray) (j : Nat) (b : ByteArray) : (sarr M).setIfInBounds j (.string b) = sarr (M.set j b) := by
  simp [sarr, List.map_set]
theorem sarr_get (M : List ByteArray) (j : Nat) (h : j < M.length) : (sarr M)[j]? = some (.string M[j]) := by
  simp [sarr, h]
theorem sarr_cell (w : World) (M : List ByteArray) (j : Nat) (h : j < M.length) : (w.alloc (.cells (sarr M) 9)).cell? ⟨w.heap.size, j, none⟩ = some (.string M[j]) := by
  have := sarr_get M j h
  simp [this]
/-- the copy as far as k. -/
def Copied (xs M : List ByteArray) (k : Nat) : Prop := M.length = xs.length ∧ M.take k = xs.take k
theorem Copied.next {xs M : List ByteArray} {k : Nat} (h : Copied xs M k) (hk : k < xs.length) : Copied xs (M.set k xs[k]) (k + 1) := by
  refine ⟨by rw [List.length_set]; exact h.1, ?_⟩
  rw [List.take_add_one, List.take_set_of_le (Nat.le_refl _), List.getElem?_set_self (by rw [h.1]; exact hk), h.2, List.take_succ_eq_append_getElem hk]
  rfl
theorem Copied.done {xs M : List ByteArray} {k : Nat} (h : Copied xs M k) (hk : ¬ k < xs.length) : M = xs := by
  have := h.2
  rwa [List.take_of_length_le (by rw [h.1]; omega), List.take_of_length_le (by omega)] at this
theorem reads_made (w : World) (xs : List ByteArray) : Reads (w.alloc (.cells (sarr xs) 9)) (some ⟨w.heap.size, 0, none⟩) xs := fun k hk =>
  ⟨w.heap.size, 0, rfl, by simp, by rw [Nat.zero_add]; exact sarr_cell w xs k hk⟩

set_option maxHeartbeats 1000000 in
theorem clone_any (a : Option Addr) (cap : Nat) (xs : List ByteArray) (w : World) (hr : Reads w a xs) (hl : xs.length ≤ 1048576) :
    Calls Tryd.prog 9 #[.slice a xs.length cap] w fun e w' => (∃ a' cap', e = .returned (.slice a' xs.length cap') ∧ Reads w' a' xs) ∧ Below w.heap.size w w' := by
  have hnil := fun (w : World) (a : Option Addr) (n c n' c' : Nat) => Go.Lib.run_eql_slice_nil (P := Tryd.prog) w 22 9 a n c n' c' Tryd.underlying22
  have HR : Hid (Reads w a xs) := hr
  clear hr
  cases a with
  | none =>
    have h0 : xs.length = 0 := by
      rcases Nat.eq_zero_or_pos xs.length with h | h
      · exact h
      · obtain ⟨b, off, h1, _⟩ := HR.out 0 h
        cases h1
    obtain rfl : xs = [] := List.length_eq_zero_iff.1 h0
    clear h0
    go_enter Tryd.func9, Tryd.ntmps9
    go_wp2
    go_ret
    exact ⟨⟨none, 0, rfl, HR⟩, Below.refl _ _⟩
  | some ad =>
    have hmk : ∀ w : World, (Instr.makeSlice 22 (.int .i64 (xs.length : Int)) (.int .i64 (xs.length : Int))).run Tryd.prog w = .ok (.slice (some ⟨w.heap.size, 0, none⟩) xs.length xs.length) (w.alloc (.cells (sarr (List.replicate xs.length ByteArray.empty)) 9)) := by
      intro w
      rw [← sarr_made]
      exact run_make_row' 22 9 (.string ByteArray.empty) 16 Tryd.underlying22 (by kernel_rfl) rfl .i64 .i64 xs.length (by omega) (by omega) w
    go_enter Tryd.func9, Tryd.ntmps9
    go_wp2
    go_loopw [4] (fun vi wr => ∃ (k : Nat) (M : List ByteArray), k ≤ xs.length ∧ vi = .int .i64 k ∧ wr = w.alloc (.cells (sarr M) 9) ∧ Copied xs M k) (fun i _ => xs.length - (intOf i).toNat)
    case atStart => exact ⟨0, _, by omega, rfl, rfl, by simp [Copied]⟩
    case round =>
      clear hmk
      obtain ⟨k, M, hk, rfl, rfl, HM⟩ := hrel
      by_cases hlt : k < xs.length
      · obtain ⟨b, off, hab, hb, hc⟩ := HR.out k hlt
        obtain rfl := Option.some.inj hab
        have hi : (k : Int) < (xs.length : Int) := by omega
        have hml : k < M.length := by rw [HM.1]; exact hlt
        have hcell := sarr_cell w M k hml
        have HN := HM.next hlt
        have hset := sarr_set M k xs[k]
        clear HM
        generalize xs[k] = X at hc HN hset
        have hne : b ≠ w.heap.size := by omega
        have hcw : (w.alloc (.cells (sarr M) 9)).cell? ⟨b, off + k, none⟩ = some (.string X) := ((Below.refl w.heap.size w).alloc (Nat.le_refl _) _).cell (p := ⟨b, off + k, none⟩) hb |>.trans hc
        go_wp2
        go_roundw
        case rel => exact ⟨k + 1, M.set k X, by omega, by go_num, rfl, HN⟩
        case measure => simp [intOf]; omega
      · have HN : Hid (M = xs) := HM.done hlt
        clear HM
        go_wp2
        go_ret
        exact ⟨⟨_, _, rfl, by rw [HN.out]; exact reads_made w xs⟩, (Below.refl _ _).alloc (Nat.le_refl _) _⟩
end Go.Proofs.Qxb6604184aDoor
