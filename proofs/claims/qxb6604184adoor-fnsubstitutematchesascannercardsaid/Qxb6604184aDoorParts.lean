import Derived.Test.Qxb6604184aDoorPlain
import Derived.Lib.Join
namespace Go.Proofs.Qxb6604184aDoor
namespace Sub
open Go.Lib

theorem subE_even (A : List (List UInt8)) : ∀ (k : Nat) (P : List (List UInt8)), P.length = 2 * k → subE A P = none
  | 0, P, h => by
    have : P = [] := List.length_eq_zero_iff.1 (by omega)
    subst this; rfl
  | k + 1, [], h => by simp at h
  | k + 1, [_], h => by simp at h; omega
  | k + 1, p :: m :: r, h => by
    have := subE_even A k r (by simp at h; omega)
    simp only [subE, this, Option.map_none]
    split <;> rfl
/-- the first 2k pieces are done: M holds them with the marks put in; the rest stands. -/
def St (A P M : List (List UInt8)) (k : Nat) : Prop :=
  M.length = P.length ∧ M.drop (2 * k) = P.drop (2 * k) ∧ subE A P = (subE A (P.drop (2 * k))).map fun x => (M.take (2 * k)).flatten ++ x
theorem St.start (A P : List (List UInt8)) : St A P P 0 := by
  refine ⟨rfl, rfl, ?_⟩
  simp
theorem St.mark {A P M : List (List UInt8)} {k : Nat} (h : St A P M k) : M[2 * k + 1]? = P[2 * k + 1]? := by
  have e := congrArg (·[1]?) h.2.1
  simpa using e
theorem St.parts {A P M : List (List UInt8)} {k : Nat} (_h : St A P M k) (h1 : 2 * k + 1 < P.length) : P.drop (2 * k) = P[2 * k] :: P[2 * k + 1] :: P.drop (2 * k + 2) := by
  rw [List.drop_eq_getElem_cons (by omega), List.drop_eq_getElem_cons h1]
theorem St.fail {A P M : List (List UInt8)} {k : Nat} (h : St A P M k) (h1 : 2 * k + 1 < P.length) (hn : num A P[2 * k + 1] = none) : subE A P = none := by
  rw [h.2.2, h.parts h1]
  simp only [subE, hn, Option.map_none]
theorem St.next {A P M : List (List UInt8)} {k : Nat} {x : List UInt8} (h : St A P M k) (h1 : 2 * k + 1 < P.length) (hn : num A P[2 * k + 1] = some x) : St A P (M.set (2 * k + 1) x) (k + 1) := by
  have e2 : 2 * (k + 1) = 2 * k + 2 := by omega
  have hml : 2 * k + 1 < M.length := by rw [h.1]; exact h1
  have hm0 : M[2 * k]? = some P[2 * k] := by
    have e := congrArg (·[0]?) h.2.1
    have : P[2 * k]? = some P[2 * k] := List.getElem?_eq_getElem (by omega)
    rw [← this]
    simpa using e
  refine ⟨by rw [List.length_set]; exact h.1, ?_, ?_⟩
  · rw [e2, List.drop_set_of_lt (by omega)]
    have e := congrArg (List.drop 2) h.2.1
    simpa [List.drop_drop] using e
  · have ht : (M.set (2 * k + 1) x).take (2 * k + 2) = M.take (2 * k) ++ [P[2 * k], x] := by
      rw [List.take_add_one (i := 2 * k + 1), List.getElem?_set_self hml, List.take_set_of_le (Nat.le_refl _), List.take_add_one (i := 2 * k), hm0]
      simp
    rw [h.2.2, h.parts h1, e2, ht]
    simp only [subE, hn, Option.map_map]
    congr 1
    funext y
    simp
theorem St.done {A P M : List (List UInt8)} {k : Nat} (h : St A P M k) (h1 : ¬ 2 * k + 1 < P.length) (h2 : 2 * k < P.length) : subE A P = some M.flatten := by
  have hd : P.drop (2 * k) = [P[2 * k]] := by
    rw [List.drop_eq_getElem_cons h2, List.drop_eq_nil_of_le (by omega)]
  have hf : M.flatten = (M.take (2 * k)).flatten ++ P[2 * k] := by
    have e : M = M.take (2 * k) ++ [P[2 * k]] := by
      conv => lhs; rw [← List.take_append_drop (2 * k) M]
      rw [h.2.1, hd]
    conv => lhs; rw [e]
    simp
  rw [h.2.2, hd, hf]
  simp [subE]
theorem join_flat (M : List (List UInt8)) : join M [] = M.flatten := by
  cases M with
  | nil => rfl
  | cons x r =>
    rw [join_cons]
    unfold joinTail
    simp
/-- a simple bound on what the pieces come to. -/
theorem flat_le (B : Nat) : ∀ (M : List (List UInt8)), (∀ x ∈ M, x.length ≤ B) → M.flatten.length ≤ M.length * B
  | [], _ => by simp
  | x :: r, h => by
    have h1 := h x (by simp)
    have h2 := flat_le B r (fun y hy => h y (by simp [hy]))
    simp only [List.flatten_cons, List.length_append, List.length_cons]
    rw [Nat.add_mul]
    omega
end Sub
end Go.Proofs.Qxb6604184aDoor
