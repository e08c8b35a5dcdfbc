import Derived.Lib.SplitLaws
import Derived.Lib.ParseIntB
namespace Go.Proofs.Qxb6604184aDoor
namespace Sub
open Go.Lib

def splitL (c : UInt8) : List UInt8 → List (List UInt8)
  | [] => [[]]
  | b :: l => if b = c then [] :: splitL c l else match splitL c l with
    | [] => [[b]]
    | h :: t => (b :: h) :: t
theorem splitL_ne (c : UInt8) (l : List UInt8) : ∃ h t, splitL c l = h :: t := by
  cases l with
  | nil => exact ⟨_, _, rfl⟩
  | cons b l =>
    unfold splitL
    split
    · exact ⟨_, _, rfl⟩
    · split
      · exact ⟨_, _, rfl⟩
      · exact ⟨_, _, rfl⟩
theorem index_cons (b c : UInt8) (l : List UInt8) (h : b ≠ c) : index (b :: l) [c] = if index l [c] == -1 then -1 else index l [c] + 1 := by
  have hp : ([c] : List UInt8).isPrefixOf (b :: l) = false := by simp [List.isPrefixOf, Ne.symm h]
  rw [index, hp]; simp
theorem splitK_splitL (c : UInt8) : ∀ l : List UInt8, splitK [c] 0 (count l [c]) l = splitL c l
  | [] => by rw [count_miss (by simp [index])]; rfl
  | b :: l => by
    have ih := splitK_splitL c l
    by_cases h : b = c
    · subst h
      have hix : index (b :: l) [b] = ((0 : Nat) : Int) := by rw [index]; simp [List.isPrefixOf]
      rw [count_cons_eq, Nat.add_comm, splitK, hix, splitL, if_pos rfl]
      simp [ih]
    · rw [count_cons_ne b c l h, splitL, if_neg h, ← ih]
      by_cases hm : index l [c] = -1
      · rw [count_miss hm]; rfl
      · have hge := index_ge l [c]
        obtain ⟨j, hj⟩ : ∃ j : Nat, index l [c] = j := ⟨(index l [c]).toNat, by omega⟩
        have hix := index_cons b c l h
        rw [if_neg (by rw [beq_iff_eq]; exact hm), hj] at hix
        obtain ⟨k, hk⟩ : ∃ k, count l [c] = k + 1 := ⟨_, by rw [count_hit (by simp) hj, Nat.add_comm]⟩
        rw [hk, splitK, splitK, hix, hj, if_neg (by rw [beq_iff_eq]; omega), if_neg (by rw [beq_iff_eq]; omega)]
        have e1 : ((j : Int) + 1).toNat = j + 1 := by omega
        rw [e1]
        simp

def isDig (c : UInt8) : Bool := decide (48 ≤ c.toNat) && decide (c.toNat ≤ 57)
/-- the number that the digits spell, behind acc. -/
def dval (acc : Nat) (l : List UInt8) : Nat := l.foldl (fun a c => a * 10 + (c.toNat - 48)) acc
theorem dval_nil (acc : Nat) : dval acc [] = acc := List.foldl_nil
theorem dval_cons (acc : Nat) (c : UInt8) (l : List UInt8) : dval acc (c :: l) = dval (acc * 10 + (c.toNat - 48)) l := List.foldl_cons ..
/-- what a mark stands for. -/
def num (A : List (List UInt8)) (m : List UInt8) : Option (List UInt8) :=
  if m = [] then none else if m.all isDig then A[dval 0 m]? else none
/-- the pieces between the marks, put together: a piece as it stands, a mark, and so on. -/
def subE (A : List (List UInt8)) : List (List UInt8) → Option (List UInt8)
  | [] => none
  | [p] => some p
  | p :: m :: r => match num A m with
    | none => none
    | some a => (subE A r).map fun x => p ++ (a ++ x)
/-- the scanner: outside a mark, or inside one (the number so far, held at most at the number of the arguments; how many digits). -/
def sc (A : List (List UInt8)) : Option (Nat × Nat) → List UInt8 → Option (List UInt8)
  | none, [] => some []
  | none, c :: l => if c = 0 then sc A (some (0, 0)) l else (sc A none l).map fun x => c :: x
  | some _, [] => none
  | some (v, d), c :: l =>
    if c = 0 then (if d = 0 ∨ A.length ≤ v then none else match A[v]? with
      | none => none
      | some a => (sc A none l).map fun x => a ++ x)
    else if isDig c then sc A (some (min (v * 10 + (c.toNat - 48)) A.length, d + 1)) l
    else none

theorem dval_ge (l : List UInt8) : ∀ a : Nat, a ≤ dval a l := by
  induction l with
  | nil => intro a; rw [dval_nil]; exact Nat.le_refl _
  | cons c l ih => intro a; rw [dval_cons]; exact Nat.le_trans (by omega) (ih _)
theorem dval_app (m : List UInt8) (c : UInt8) (a : Nat) : dval a (m ++ [c]) = dval a m * 10 + (c.toNat - 48) := by
  unfold dval
  rw [List.foldl_append]
  rfl
theorem subE_front (A : List (List UInt8)) (p h : List UInt8) (t : List (List UInt8)) : subE A ((p ++ h) :: t) = (subE A (h :: t)).map fun x => p ++ x := by
  cases t with
  | nil => simp [subE]
  | cons m r =>
    simp only [subE]
    cases num A m with
    | none => rfl
    | some a => cases subE A r <;> simp
theorem splitL_hit (l : List UInt8) : splitL 0 (0 :: l) = [] :: splitL 0 l := by rw [splitL, if_pos rfl]
theorem splitL_miss {c : UInt8} {l h : List UInt8} {t : List (List UInt8)} (hc : ¬ c = 0) (e : splitL 0 l = h :: t) : splitL 0 (c :: l) = (c :: h) :: t := by rw [splitL, if_neg hc, e]
theorem sc_out_hit (A : List (List UInt8)) (l : List UInt8) : sc A none (0 :: l) = sc A (some (0, 0)) l := by rw [sc, if_pos rfl]
theorem sc_out_miss (A : List (List UInt8)) {c : UInt8} (l : List UInt8) (hc : ¬ c = 0) : sc A none (c :: l) = (sc A none l).map fun x => c :: x := by rw [sc, if_neg hc]
theorem sc_in_hit (A : List (List UInt8)) (v d : Nat) (l : List UInt8) : sc A (some (v, d)) (0 :: l) = if d = 0 ∨ A.length ≤ v then none else match A[v]? with
    | none => none
    | some a => (sc A none l).map fun x => a ++ x := by rw [sc, if_pos rfl]
theorem sc_in_dig (A : List (List UInt8)) (v d : Nat) {c : UInt8} (l : List UInt8) (hc : ¬ c = 0) (hd : isDig c = true) : sc A (some (v, d)) (c :: l) = sc A (some (min (v * 10 + (c.toNat - 48)) A.length, d + 1)) l := by rw [sc, if_neg hc, if_pos hd]
theorem sc_in_bad (A : List (List UInt8)) (v d : Nat) {c : UInt8} (l : List UInt8) (hc : ¬ c = 0) (hd : ¬ isDig c = true) : sc A (some (v, d)) (c :: l) = none := by rw [sc, if_neg hc, if_neg hd]
/-- what a mark that is begun comes to. -/
def marked (A : List (List UInt8)) (m : List UInt8) : List (List UInt8) → Option (List UInt8)
  | [] => none
  | h :: t => match num A (m ++ h) with
    | none => none
    | some a => (subE A t).map fun x => a ++ x
theorem marked_start (A : List (List UInt8)) (h : List UInt8) (t : List (List UInt8)) : marked A [] (h :: t) = subE A ([] :: h :: t) := by
  simp only [marked, subE, List.nil_append]
theorem sat_step (x L d : Nat) : min (min x L * 10 + d) L = min (x * 10 + d) L := by
  by_cases h : x ≤ L
  · rw [Nat.min_eq_left h]
  · rw [Nat.min_eq_right (by omega : L ≤ x), Nat.min_eq_right (by omega), Nat.min_eq_right (by omega)]
/-- the scanner, from either state, is the pieces' reading. -/
theorem sc_eq (A : List (List UInt8)) : ∀ (l : List UInt8),
    (sc A none l = subE A (splitL 0 l)) ∧
    (∀ m : List UInt8, m.all isDig = true → sc A (some (min (dval 0 m) A.length, m.length)) l = marked A m (splitL 0 l))
  | [] => by
    refine ⟨rfl, fun m _ => ?_⟩
    simp only [sc, splitL, marked, subE, Option.map_none]
    split <;> rfl
  | c :: l => by
    obtain ⟨ih1, ih2⟩ := sc_eq A l
    obtain ⟨h, t, e⟩ := splitL_ne 0 l
    rw [e] at ih1 ih2
    by_cases hc : c = 0
    · subst hc
      refine ⟨?_, fun m hm => ?_⟩
      · have h0 : ([] : List UInt8).all isDig = true := List.all_nil
        have hi := ih2 [] h0
        have e0 : dval 0 [] = 0 := dval_nil 0
        have e1 : min 0 A.length = 0 := Nat.zero_min _
        rw [e0, e1, List.length_nil] at hi
        rw [sc_out_hit, splitL_hit, e, hi]
        exact marked_start A h t
      · rw [sc_in_hit, splitL_hit, e]
        simp only [marked, List.append_nil]
        unfold num
        by_cases h0 : m = []
        · subst h0; simp
        · rw [if_neg h0, if_pos hm]
          have hl : m.length ≠ 0 := by simpa using h0
          by_cases hv : dval 0 m < A.length
          · rw [Nat.min_eq_left (Nat.le_of_lt hv), if_neg (by omega), List.getElem?_eq_getElem hv, ih1]
          · rw [if_pos (by omega), List.getElem?_eq_none (by omega)]
    · refine ⟨?_, fun m hm => ?_⟩
      · rw [sc_out_miss A l hc, ih1, splitL_miss hc e]
        have := subE_front A [c] h t
        simp only [List.singleton_append] at this
        rw [this]
      · rw [splitL_miss hc e]
        by_cases hd : isDig c = true
        · rw [sc_in_dig A _ _ l hc hd, sat_step, ← dval_app]
          have := ih2 (m ++ [c]) (by simp [List.all_append, hm, hd])
          rw [List.length_append, List.length_singleton] at this
          rw [this]
          simp only [marked, List.append_assoc, List.singleton_append]
        · rw [sc_in_bad A _ _ l hc hd]
          have : num A (m ++ c :: h) = none := by
            unfold num
            rw [if_neg (by simp), if_neg (by simp [List.all_append, hd])]
          simp only [marked, this]
theorem scan_split (A : List (List UInt8)) (t : List UInt8) : sc A none t = subE A (splitL 0 t) := (sc_eq A t).1

/-! ### strconv.ParseUint -/
theorem parse_step (M acc : Nat) (c : UInt8) (l : List UInt8) (hd : 48 ≤ c.toNat ∧ c.toNat ≤ 57) (h1 : acc < 1844674407370955162) (h2 : acc * 10 + (c.toNat - 48) ≤ M) :
    parseUintM M acc (c :: l) = parseUintM M (acc * 10 + (c.toNat - 48)) l := by
  have h1' : ¬ 1844674407370955162 ≤ acc := Nat.not_le.2 h1
  have h2' : ¬ M < acc * 10 + (c.toNat - 48) := Nat.not_lt.2 h2
  rw [parseUintM, if_pos hd, if_neg h1', if_neg h2']
theorem parse_ok (M : Nat) (l : List UInt8) (hM : M ≤ 4294967295) : ∀ acc : Nat, l.all isDig = true → dval acc l ≤ M → parseUintM M acc l = .ok (dval acc l) := by
  induction l with
  | nil => intro acc _ _; rw [parseUintM, dval_nil]
  | cons c l ih =>
    intro acc h hv
    rw [List.all_cons, Bool.and_eq_true] at h
    have hd : 48 ≤ c.toNat ∧ c.toNat ≤ 57 := by
      have := h.1
      unfold isDig at this
      rw [Bool.and_eq_true, decide_eq_true_eq, decide_eq_true_eq] at this
      exact this
    have hg := dval_ge l (acc * 10 + (c.toNat - 48))
    rw [dval_cons] at hv ⊢
    rw [parse_step M acc c l hd (by omega) (by omega)]
    exact ih _ h.2 hv
theorem parse_of (M : Nat) (l : List UInt8) : ∀ acc u : Nat, parseUintM M acc l = .ok u → l.all isDig = true ∧ u = dval acc l := by
  induction l with
  | nil =>
    intro acc u h
    rw [parseUintM, NumEnd.ok.injEq] at h
    exact ⟨List.all_nil, by rw [dval_nil]; exact h.symm⟩
  | cons c l ih =>
    intro acc u h
    rw [parseUintM] at h
    split at h
    · next hd =>
      split at h
      · cases h
      · split at h
        · cases h
        · obtain ⟨h1, h2⟩ := ih _ u h
          refine ⟨?_, by rw [dval_cons]; exact h2⟩
          rw [List.all_cons, h1, Bool.and_true]
          unfold isDig
          rw [Bool.and_eq_true, decide_eq_true_eq, decide_eq_true_eq]
          exact hd
    · cases h
/-- a mark that ParseUint takes. -/
theorem num_ok (A : List (List UInt8)) (m : List UInt8) (u : Nat) (h : parseUintB 32 m = .ok u) : num A m = A[u]? := by
  unfold parseUintB at h
  split at h
  · cases h
  · next h0 =>
    obtain ⟨h1, h2⟩ := parse_of _ _ _ _ h
    unfold num
    rw [if_neg h0, if_pos h1, h2]
theorem num_bad (A : List (List UInt8)) (m : List UInt8) (hA : A.length ≤ 4294967296) (h : ∀ u, parseUintB 32 m ≠ .ok u) : num A m = none := by
  unfold num
  split
  · rfl
  · next h0 =>
    split
    · next h1 =>
      by_cases hv : dval 0 m ≤ 4294967295
      · exfalso
        refine h (dval 0 m) ?_
        unfold parseUintB
        rw [if_neg h0]
        exact parse_ok _ m (by omega) 0 h1 hv
      · exact List.getElem?_eq_none (by omega)
    · rfl
end Sub
end Go.Proofs.Qxb6604184aDoor
