import Derived.Lib.SplitLaws
import Derived.Test.Qxb6603685aDoorPlain
namespace Go.Proofs.Qxb6603685aDoor
open Go.Lib

theorem index_cons (b c : UInt8) (l : List UInt8) (h : b ≠ c) : index (b :: l) [c] = if index l [c] == -1 then -1 else index l [c] + 1 := by
  have hp : ([c] : List UInt8).isPrefixOf (b :: l) = false := by simp [List.isPrefixOf, Ne.symm h]
  rw [index, hp]; simp

theorem splitK_splitL (c : UInt8) : ∀ l : List UInt8, splitK [c] 0 (count l [c]) l = Idn.splitL c l
  | [] => by rw [count_miss (by simp [index])]; rfl
  | b :: l => by
    have ih := splitK_splitL c l
    by_cases h : b = c
    · subst h
      have hix : index (b :: l) [b] = ((0 : Nat) : Int) := by rw [index]; simp [List.isPrefixOf]
      rw [count_cons_eq, Nat.add_comm, splitK, hix, Idn.splitL, if_pos rfl]
      simp [ih]
    · rw [count_cons_ne b c l h, Idn.splitL, if_neg h, ← ih]
      by_cases hm : index l [c] = -1
      · rw [count_miss hm]; rfl
      · have hge := index_ge l [c]
        obtain ⟨j, hj⟩ : ∃ j : Nat, index l [c] = j := ⟨(index l [c]).toNat, by omega⟩
        have hix := index_cons b c l h
        rw [if_neg (by rw [beq_iff_eq]; exact hm), hj] at hix
        obtain ⟨k, hk⟩ : ∃ k, count l [c] = k + 1 := ⟨_, by rw [count_hit (by simp) hj, Nat.add_comm]⟩
        rw [hk, splitK, splitK, hix, hj, if_neg (by rw [beq_iff_eq]; omega), if_neg (by rw [beq_iff_eq]; omega)]
        have e1 : ((j : Int) + 1).toNat = j + 1 := by omega
        rw [e1]
        simp

theorem piece_le (sep : ByteArray) : ∀ (k : Nat) (s id : ByteArray), id ∈ splitB sep 0 k s → id.size ≤ s.size
  | 0, s, id, h => by
    rw [splitB_zero, List.mem_singleton] at h
    rw [h]; exact Nat.le_refl _
  | k + 1, s, id, h => by
    unfold splitB at h
    split at h
    · rw [List.mem_singleton] at h
      rw [h]; exact Nat.le_refl _
    · rcases List.mem_cons.1 h with h | h
      · rw [h, ByteArray.size_extract]; omega
      · have := piece_le sep k _ id h
        rw [ByteArray.size_extract] at this
        omega

/-- the pieces of s at the points. -/
def pieces (s : ByteArray) : List ByteArray := splitB ⟨#[46]⟩ 0 (countB s ⟨#[46]⟩) s
theorem pieces_length (s : ByteArray) : (pieces s).length = countB s ⟨#[46]⟩ + 1 := splitB_all ⟨#[46]⟩ (by decide) 0 _ s rfl
theorem pieces_length_le (s : ByteArray) : (pieces s).length ≤ s.size + 1 := by
  have := countB_le ⟨#[46]⟩ (by decide) s.size s (Nat.le_refl _)
  rw [pieces_length]; omega
theorem pieces_all (pre : Bool) (s : ByteArray) : (pieces s).all (fun id => Idn.segOK pre id.data.toList) = Idn.model pre 0 true false s.data.toList := by
  rw [Idn.model_all, ← splitK_splitL 46 s.data.toList]
  have h : (pieces s).map (·.data.toList) = splitK [46] 0 (count s.data.toList [46]) s.data.toList := splitB_data ⟨#[46]⟩ 0 (countB s ⟨#[46]⟩) s
  rw [← h, List.all_map]
  rfl
end Go.Proofs.Qxb6603685aDoor
