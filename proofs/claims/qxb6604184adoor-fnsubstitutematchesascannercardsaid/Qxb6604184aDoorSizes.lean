import Derived.Test.Qxb6604184aDoorRows
import Derived.Test.Qxb6604184aDoorPlain
import Derived.Deep.OwnRows
import Derived.WalkKit
import Derived.WalkSpells
import Derived.WalkLawsBesides
namespace Go.Proofs.Qxb6604184aDoor
open Go.RowKit

theorem ret_bool {a b : Bool} (h : a = b) : Ending.returned (.bool a) = .returned (.bool b) := by rw [h]
/-- the strings xs lie where a slice that begins at 'a' reads them. -/
def Reads (w : World) (a : Option Addr) (xs : List ByteArray) : Prop :=
  ∀ k (_ : k < xs.length), ∃ b off, a = some ⟨b, off, none⟩ ∧ b < w.heap.size ∧ w.cell? ⟨b, off + k, none⟩ = some (.string xs[k])
theorem Reads.below {w w' : World} {a : Option Addr} {xs : List ByteArray} (h : Reads w a xs) (hb : Below w.heap.size w w') : Reads w' a xs := fun k hk => by
  obtain ⟨b, off, h1, h2, h3⟩ := h k hk
  exact ⟨b, off, h1, Nat.lt_of_lt_of_le h2 hb.size, (hb.cell (p := ⟨b, off + k, none⟩) h2).trans h3⟩

set_option maxHeartbeats 400000 in
theorem addLen_any (n k : Int) (w : World) :
    Calls Tryd.prog 6 #[.int .i64 n, .int .i64 k] w fun e w' => (∃ x : Int, e = .returned (.int .i64 x)) ∧ w' = w := by
  go_enter Tryd.func6, Tryd.ntmps6
  go_wp2
  all_goals
    go_ret
    exact ⟨⟨_, rfl⟩, rfl⟩

set_option maxHeartbeats 400000 in
theorem countNul_any (s : ByteArray) (w : World) (hs : s.size ≤ 1048576) :
    Calls Tryd.prog 8 #[.string s] w fun e w' => (∃ x : Int, e = .returned (.int .i64 x)) ∧ w' = w := by
  go_enter Tryd.func8, Tryd.ntmps8
  go_wp2
  go_loop [3, 4] (fun vn vi => ∃ (k : Nat) (x : Int), k ≤ s.size ∧ vi = .int .i64 k ∧ vn = .int .i64 x) (fun _ i => s.size - (intOf i).toNat)
  case atStart => exact ⟨0, 0, by omega, rfl, rfl⟩
  case round =>
    obtain ⟨k, x, hk, rfl, rfl⟩ := hrel
    by_cases hlt : k < s.size
    · go_wp2
      all_goals
        go_round
        case rel => exact ⟨k + 1, _, by omega, by go_num, rfl⟩
        case measure => simp [intOf]; omega
    · go_wp2
      go_ret
      exact ⟨⟨_, rfl⟩, rfl⟩

set_option maxHeartbeats 400000 in
theorem maxLen_any (a : Option Addr) (cap : Nat) (xs : List ByteArray) (w : World) (hr : Reads w a xs) (hl : xs.length ≤ 1048576) :
    Calls Tryd.prog 7 #[.slice a xs.length cap] w fun e w' => (∃ x : Int, e = .returned (.int .i64 x)) ∧ w' = w := by
  have HR : Hid (Reads w a xs) := hr
  clear hr
  go_enter Tryd.func7, Tryd.ntmps7
  go_wp2
  go_loop [3, 4] (fun vn vi => ∃ (k : Nat) (x : Int), k ≤ xs.length ∧ vi = .int .i64 k ∧ vn = .int .i64 x) (fun _ i => xs.length - (intOf i).toNat)
  case atStart => exact ⟨0, 0, by omega, rfl, rfl⟩
  case round =>
    obtain ⟨k, x, hk, rfl, rfl⟩ := hrel
    by_cases hlt : k < xs.length
    · obtain ⟨b, off, rfl, hb, hc⟩ := HR.out k hlt
      have hi : (k : Int) < (xs.length : Int) := by omega
      generalize xs[k] = X at hc
      go_wp2
      all_goals
        go_round
        case rel => exact ⟨k + 1, _, by omega, by go_num, rfl⟩
        case measure => simp [intOf]; omega
    · go_wp2
      go_ret
      exact ⟨⟨_, rfl⟩, rfl⟩

set_option maxHeartbeats 400000 in
theorem strsSize_any (n : Int) (a : Option Addr) (cap : Nat) (xs : List ByteArray) (w : World) (hr : Reads w a xs) (hl : xs.length ≤ 1048576) :
    Calls Tryd.prog 5 #[.int .i64 n, .slice a xs.length cap] w fun e w' => (∃ x : Int, e = .returned (.int .i64 x)) ∧ w' = w := by
  have HR : Hid (Reads w a xs) := hr
  clear hr
  go_enter Tryd.func5, Tryd.ntmps5
  go_wp2_with (go_at_call 6; refine (addLen_any _ _ _).mono ?_; rintro e wa ⟨⟨y, rfl⟩, ha⟩; have hb := ha.symm; subst hb)
  go_loop [0, 5] (fun vn vi => ∃ (k : Nat) (x : Int), k ≤ xs.length ∧ vi = .int .i64 k ∧ vn = .int .i64 x) (fun _ i => xs.length - (intOf i).toNat)
  case atStart => exact ⟨0, _, by omega, rfl, rfl⟩
  case round =>
    obtain ⟨k, x, hk, rfl, rfl⟩ := hrel
    by_cases hlt : k < xs.length
    · obtain ⟨b, off, rfl, hb, hc⟩ := HR.out k hlt
      have hi : (k : Int) < (xs.length : Int) := by omega
      generalize xs[k] = X at hc
      by_cases hx : x ≤ 1048576
      · go_wp2_with (go_at_call 6; refine (addLen_any _ _ _).mono ?_; rintro e wa ⟨⟨y, rfl⟩, ha⟩; have hb := ha.symm; subst hb)
        all_goals
          go_round
          case rel => exact ⟨k + 1, _, by omega, by go_num, rfl⟩
          case measure => simp [intOf]; omega
      · go_wp2_with (go_at_call 6; refine (addLen_any _ _ _).mono ?_; rintro e wa ⟨⟨y, rfl⟩, ha⟩; have hb := ha.symm; subst hb)
        go_ret
        exact ⟨⟨_, rfl⟩, rfl⟩
    · go_wp2
      go_ret
      exact ⟨⟨_, rfl⟩, rfl⟩

/-- the answer of the bound on the sizes: a bool, and where it is true the bounds hold. -/
def Gate (t : ByteArray) (xs : List ByteArray) (e : Ending) : Prop := ∃ b : Bool, e = .returned (.bool b) ∧ (b = true → t.size ≤ 1048576 ∧ xs.length ≤ 1048576 ∧ ∀ x ∈ xs, x.size ≤ 1048576)
theorem Gate.no (t : ByteArray) (xs : List ByteArray) : Gate t xs (.returned (.bool false)) := ⟨false, rfl, fun h => by cases h⟩
theorem Gate.yes {t : ByteArray} {xs : List ByteArray} (h : t.size ≤ 1048576 ∧ xs.length ≤ 1048576 ∧ ∀ x ∈ xs, x.size ≤ 1048576) : Gate t xs (.returned (.bool true)) := ⟨true, rfl, fun _ => h⟩

set_option maxHeartbeats 400000 in
theorem bytes_any (t : ByteArray) (a : Option Addr) (cap : Nat) (xs : List ByteArray) (w : World) (hr : Reads w a xs) (hm : xs.length ≤ 9223372036854775807) (ht : t.size ≤ 9223372036854775807) :
    Calls Tryd.prog 4 #[.string t, .slice a xs.length cap] w fun e w' => Gate t xs e ∧ w' = w := by
  have HR : Hid (Reads w a xs) := hr
  clear hr
  by_cases h1 : t.size ≤ 1048576
  · by_cases h2 : xs.length ≤ 1048576
    · go_enter Tryd.func4, Tryd.ntmps4
      go_wp2
      · go_ret
        exact ⟨Gate.no _ _, rfl⟩
      · go_loop [5, 6] (fun vn vi => ∃ (k : Nat) (x : Int), k ≤ xs.length ∧ vi = .int .i64 k ∧ vn = .int .i64 x ∧ Hid (∀ y ∈ xs.take k, y.size ≤ 1048576)) (fun _ i => xs.length - (intOf i).toNat)
        case atStart => exact ⟨0, _, by omega, rfl, rfl, fun y hy => by simp at hy⟩
        case round =>
          obtain ⟨k, x, hk, rfl, rfl, HK⟩ := hrel
          by_cases hlt : k < xs.length
          · obtain ⟨b, off, rfl, hb, hc⟩ := HR.out k hlt
            have hi : (k : Int) < (xs.length : Int) := by omega
            have HT : Hid (xs.take (k + 1) = xs.take k ++ [xs[k]]) := List.take_succ_eq_append_getElem hlt
            generalize xs[k] = X at hc HT
            by_cases hX : X.size ≤ 1048576
            · have HN : Hid (∀ y ∈ xs.take (k + 1), y.size ≤ 1048576) := by
                intro y hy
                rw [HT.out, List.mem_append, List.mem_singleton] at hy
                rcases hy with hy | rfl
                · exact HK.out y hy
                · exact hX
              go_wp2
              · go_ret
                exact ⟨Gate.no _ _, rfl⟩
              · go_round
                case rel => exact ⟨k + 1, _, by omega, by go_num, rfl, HN⟩
                case measure => simp [intOf]; omega
            · go_wp2
              go_ret
              exact ⟨Gate.no _ _, rfl⟩
          · go_wp2
            go_ret
            exact ⟨Gate.yes ⟨h1, h2, fun y hy => HK.out y (by rw [List.take_of_length_le (by omega)]; exact hy)⟩, rfl⟩
    · go_enter Tryd.func4, Tryd.ntmps4
      go_wp2
      go_ret
      exact ⟨Gate.no _ _, rfl⟩
  · go_enter Tryd.func4, Tryd.ntmps4
    go_wp2
    go_ret
    exact ⟨Gate.no _ _, rfl⟩
end Go.Proofs.Qxb6604184aDoor
