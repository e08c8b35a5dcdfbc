import Derived.Test.Qxb6603685aDoorIdents
import Derived.Test.Qxb6603685aDoorSplit
namespace Go.Proofs.Qxb6603685aDoor
open Go.RowKit

/-- the law itself, out of its callees' contracts. -/
theorem top_any (s : ByteArray) (pre : Bool) (w : World) (hsp : s.size ≤ 1048576 → Splits s (pieces s) w) :
    Calls Tryd.prog 3 #[.string s, .bool pre] w fun e w' => e = .returned (.bool true) ∧ Below w.heap.size w w' := by
  by_cases h : s.size ≤ 1048576
  · have hI : Hid (Calls Tryd.prog 12 #[.string s, .bool pre] w fun e w' => e = .returned (.bool (Idn.model pre 0 true false s.data.toList)) ∧ w' = w.alloc (.cells ((pieces s).map Value.string).toArray 9)) := by
      have hh := identsOK_core s pre (pieces s) w (by have := pieces_length_le s; omega) (fun id hid => by have := Go.Proofs.Qxb6603685aDoor.piece_le _ _ _ _ hid; omega) (hsp h)
      have e : (pieces s).all (okB pre) = Idn.model pre 0 true false s.data.toList := pieces_all pre s
      rw [e] at hh
      exact hh
    clear hsp
    go_enter Tryd.func3, Tryd.ntmps3
    go_wp2_with (first
      | (go_at_call 5; refine (bytes_any _ _ _).mono ?_; rintro e w' ⟨rfl, rfl⟩)
      | (go_at_call 12; refine (hI.out).mono ?_; rintro e w' ⟨rfl, rfl⟩)
      | (go_at_call 7; refine (model_any _ _ _ h).mono ?_; rintro e w' ⟨rfl, rfl⟩)
      | go_in)
    go_ret
    exact ⟨by simp, (Below.refl _ _).alloc (Nat.le_refl _) _⟩
  · clear hsp
    go_enter Tryd.func3, Tryd.ntmps3
    go_wp2_with (first
      | (go_at_call 5; refine (bytes_any _ _ _).mono ?_; rintro e w' ⟨rfl, rfl⟩))
    go_ret
    exact ⟨rfl, Below.refl _ _⟩
end Go.Proofs.Qxb6603685aDoor
