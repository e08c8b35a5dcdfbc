import Derived.Test.Qxb6603950aDoorOwn
import Derived.Deep.QuietTactic
import Derived.BigQuiet
import Derived.Handy
namespace Go.Proofs.Qxb6603950aDoor
open Go.RowKit

/-- the slice v reads as xs; it is nil just where xs is empty. -/
def Holds (w : World) (v : Value) (xs : List (List UInt8)) : Prop :=
  (v = .slice none 0 0 ∧ xs = []) ∨ ∃ g cap, v = .slice (some ⟨g, 0, none⟩) xs.length cap ∧ xs ≠ [] ∧ g < w.heap.size ∧ ∀ k (h : k < xs.length), w.cell? ⟨g, k, none⟩ = some (.string ⟨xs[k].toArray⟩)
theorem Holds.below {w w' : World} {v : Value} {xs : List (List UInt8)} (h : Holds w v xs) (hb : Below w.heap.size w w') : Holds w' v xs := by
  rcases h with h | ⟨g, cap, h1, h2, h3, h4⟩
  · exact Or.inl h
  · exact Or.inr ⟨g, cap, h1, h2, Nat.lt_of_lt_of_le h3 hb.size, fun k hk => (hb.cell (p := ⟨g, k, none⟩) h3).trans (h4 k hk)⟩
theorem add_plain' (b o i : Nat) : (⟨b, o, none⟩ : Addr).add i = ⟨b, o + i, none⟩ := by unfold Addr.add; split <;> simp_all
theorem Owns.holds {w : World} {base : Nat} {v : Value} {xs : List (List UInt8)} (h : Owns w base v xs) : Holds w v xs := by
  by_cases h0 : xs = []
  · exact Or.inl ⟨h.2 h0, h0⟩
  · rcases h.1.2 with ⟨_, hn⟩ | ⟨g, cap, cur, hv, hb, hg, hnc, hcm, hcs, hcur⟩
    · exact absurd (List.length_eq_zero_iff.1 hn) h0
    · have hlt : g < w.heap.size := (Array.getElem?_eq_some_iff.1 hg).1
      refine Or.inr ⟨g, cap, hv, h0, hlt, fun k hk => ?_⟩
      have := h.1.cells (g := g) (by rw [hv]; rfl) k (S xs[k]) (by rw [List.getElem?_map, List.getElem?_eq_getElem hk]; rfl)
      rw [add_plain', Nat.zero_add] at this
      exact this

set_option maxHeartbeats 1000000 in
theorem sameList_any (v u : Value) (xs : List (List UInt8)) (w : World) (hv : Holds w v xs) (hu : Holds w u xs) (hl : xs.length ≤ 2097152) :
    Calls Tryd.prog 10 #[v, u] w fun e w' => e = .returned (.bool true) ∧ Below w.heap.size w w' := by
  have hnil := fun (w : World) (a : Option Addr) (n c n' c' : Nat) => Go.Lib.run_eql_slice_nil (P := Tryd.prog) w 26 9 a n c n' c' Tryd.underlying26
  rcases hv with ⟨rfl, rfl⟩ | ⟨g1, c1, rfl, hne, hg1, hc1⟩
  · rcases hu with ⟨rfl, _⟩ | ⟨_, _, _, h, _⟩
    · go_enter Tryd.func10, Tryd.ntmps10
      go_wp2
      go_rounds 1
      go_ret
      exact ⟨rfl, Below.refl _ _⟩
    · exact absurd rfl h
  · rcases hu with ⟨rfl, h⟩ | ⟨g2, c2, rfl, _, hg2, hc2⟩
    · exact absurd h hne
    · have hlen : 0 < xs.length := List.length_pos_iff.2 hne
      have hb0 : ((xs.length : Int) == 0) = false := by rw [beq_eq_false_iff_ne]; omega
      have H1 : Hid (∀ k (h : k < xs.length), w.cell? ⟨g1, k, none⟩ = some (.string ⟨xs[k].toArray⟩)) := hc1
      have H2 : Hid (∀ k (h : k < xs.length), w.cell? ⟨g2, k, none⟩ = some (.string ⟨xs[k].toArray⟩)) := hc2
      clear hc1 hc2
      go_enter Tryd.func10, Tryd.ntmps10
      go_wp2
      go_loopw [5] (fun vi wr => ∃ k : Nat, k ≤ xs.length ∧ vi = .int .i64 k ∧ Hid (Below w.heap.size w wr)) (fun i _ => xs.length - (intOf i).toNat)
      case atStart => exact ⟨0, by omega, rfl, Below.refl _ _⟩
      case round =>
        obtain ⟨k, hk, rfl, HB⟩ := hrel
        by_cases hlt : k < xs.length
        · have hi : (k : Int) < (xs.length : Int) := by omega
          have hi0 : (0 : Int) ≤ (k : Int) := by omega
          have d1 : wr.cell? ⟨g1, k, none⟩ = some (.string ⟨xs[k].toArray⟩) := (HB.out.cell (p := ⟨g1, k, none⟩) hg1).trans (H1.out k hlt)
          have d2 : wr.cell? ⟨g2, k, none⟩ = some (.string ⟨xs[k].toArray⟩) := (HB.out.cell (p := ⟨g2, k, none⟩) hg2).trans (H2.out k hlt)
          generalize (⟨xs[k].toArray⟩ : ByteArray) = X at d1 d2
          go_wp2
          go_quiet (fail)
          go_wp2
          go_roundw
          case rel => exact ⟨k + 1, by omega, by go_num, HB.out.trans ⟨rfl, rfl, rfl, Nat.le_refl _, fun _ _ => rfl⟩⟩
          case measure => simp [intOf]; omega
        · go_wp2
          go_ret
          exact ⟨rfl, HB⟩
end Go.Proofs.Qxb6603950aDoor
