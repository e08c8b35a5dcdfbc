import Derived.Test.Qxb6603950aDoorTrim
namespace Go.Proofs.Qxb6603950aDoor
namespace Sip
open Go.Lib

def keep (t : List UInt8) : List (List UInt8) := if t = [] then [] else [t]
/-- the places at which splitOutside cuts: quoted, escaped, in angle brackets, the place, what is left. -/
def cutsO (sep : UInt8) : Bool → Bool → Bool → Nat → List UInt8 → List Nat
  | _, _, _, _, [] => []
  | q, e, a, i, c :: l =>
    if e then cutsO sep q false a (i + 1) l
    else if q && c == 92 then cutsO sep q true a (i + 1) l
    else if c == 34 then cutsO sep (!q) false a (i + 1) l
    else if q then cutsO sep true false a (i + 1) l
    else if c == 60 then cutsO sep false false true (i + 1) l
    else if c == 62 then cutsO sep false false false (i + 1) l
    else if c == sep && !a then i :: cutsO sep false false a (i + 1) l
    else cutsO sep false false a (i + 1) l
/-- the pieces between the cuts, trimmed, the empty ones dropped. -/
def fin (s : List UInt8) : Nat → List Nat → List (List UInt8)
  | start, [] => keep (trim (s.drop start))
  | start, i :: cs => keep (trim ((s.drop start).take (i - start))) ++ fin s (i + 1) cs
def splitO (sep : UInt8) (s : List UInt8) : List (List UInt8) := fin s 0 (cutsO sep false false false 0 s)

/-- the mask: quoted, escaped. -/
def mask : Bool → Bool → List UInt8 → List Bool
  | _, _, [] => []
  | false, e, c :: l => if c == 34 then false :: mask true false l else true :: mask false e l
  | true, false, c :: l => if c == 92 then false :: mask true true l else if c == 34 then false :: mask false false l else false :: mask true false l
  | true, true, _ :: l => false :: mask true false l
/-- the model's cuts: over the mask. -/
def cutsM (sep : UInt8) : Bool → Nat → List Bool → List UInt8 → List Nat
  | _, _, [], _ => []
  | _, _, _ :: _, [] => []
  | a, i, m :: ms, c :: l =>
    if !m then cutsM sep a (i + 1) ms l
    else if c == 60 then cutsM sep true (i + 1) ms l
    else if c == 62 then cutsM sep false (i + 1) ms l
    else if c == sep && !a then i :: cutsM sep a (i + 1) ms l
    else cutsM sep a (i + 1) ms l
theorem mask_length : ∀ (l : List UInt8) (q e : Bool), (mask q e l).length = l.length
  | [], q, e => by cases q <;> cases e <;> rfl
  | c :: l, false, e => by
    simp only [mask]
    split <;> simp [mask_length l]
  | c :: l, true, false => by
    simp only [mask]
    split
    · simp [mask_length l]
    · split <;> simp [mask_length l]
  | c :: l, true, true => by simp [mask, mask_length l]
theorem cuts_eq (sep : UInt8) : ∀ (l : List UInt8) (q e a : Bool) (i : Nat), (e = true → q = true) → cutsO sep q e a i l = cutsM sep a i (mask q e l) l
  | [], q, e, a, i, _ => by cases q <;> cases e <;> rfl
  | c :: l, false, false, a, i, _ => by
    simp only [cutsO, mask, Bool.false_and, Bool.not_false, Bool.false_eq_true, if_false]
    have h1 := cuts_eq sep l true false a (i + 1) (by simp)
    have h2 := fun a => cuts_eq sep l false false a (i + 1) (by simp)
    split
    · rw [h1]; simp [cutsM]
    · simp only [cutsM, Bool.not_true, Bool.false_eq_true, if_false, h2]
  | c :: l, false, true, a, i, h => by simp at h
  | c :: l, true, false, a, i, _ => by
    simp only [cutsO, mask, Bool.true_and, Bool.not_true, Bool.false_eq_true, if_false, if_true]
    have h1 := cuts_eq sep l true false a (i + 1) (by simp)
    have h2 := cuts_eq sep l false false a (i + 1) (by simp)
    have h3 := cuts_eq sep l true true a (i + 1) (by simp)
    split
    · rw [h3]; simp [cutsM]
    · split
      · rw [h2]; simp [cutsM]
      · rw [h1]; simp [cutsM]
  | c :: l, true, true, a, i, _ => by
    simp only [cutsO, mask, if_true]
    have h1 := cuts_eq sep l true false a (i + 1) (by simp)
    rw [h1]; simp [cutsM]
def splitM (sep : UInt8) (s : List UInt8) : List (List UInt8) := fin s 0 (cutsM sep false 0 (mask false false s) s)
theorem split_eq (sep : UInt8) (s : List UInt8) : splitO sep s = splitM sep s := by
  unfold splitO splitM
  rw [cuts_eq sep s false false false 0 (by simp)]

/-! ### the first separator -/
def idxO (c : UInt8) : Bool → Bool → Nat → List UInt8 → Int
  | _, _, _, [] => -1
  | q, e, i, b :: l =>
    if e then idxO c q false (i + 1) l
    else if q && b == 92 then idxO c q true (i + 1) l
    else if b == 34 then idxO c (!q) false (i + 1) l
    else if !q && b == c then (i : Int)
    else idxO c q false (i + 1) l
theorem idx_none (c : UInt8) : ∀ (l : List UInt8) (q e a : Bool) (i : Nat), idxO c q e i l = -1 → cutsO c q e a i l = []
  | [], _, _, _, _, _ => rfl
  | b :: l, q, e, a, i, h => by
    have ih := idx_none c l
    simp only [idxO] at h
    simp only [cutsO]
    split at h
    · next h1 => rw [if_pos h1]; exact ih _ _ _ _ h
    · next h1 =>
      rw [if_neg h1]
      split at h
      · next h2 => rw [if_pos h2]; exact ih _ _ _ _ h
      · next h2 =>
        rw [if_neg h2]
        split at h
        · next h3 => rw [if_pos h3]; exact ih _ _ _ _ h
        · next h3 =>
          rw [if_neg h3]
          split at h
          · omega
          · next h4 =>
            cases q
            · simp only [Bool.false_eq_true, if_false]
              have h5 : (b == c) = false := by simpa using h4
              rw [h5]
              simp only [Bool.false_and, Bool.false_eq_true, if_false]
              split
              · exact ih _ _ _ _ h
              · split
                · exact ih _ _ _ _ h
                · exact ih _ _ _ _ h
            · simp only [if_true]
              exact ih _ _ _ _ h
theorem idx_ge (c : UInt8) : ∀ (l : List UInt8) (q e : Bool) (i : Nat), idxO c q e i l = -1 ∨ ∃ j : Nat, idxO c q e i l = (i + j : Nat) ∧ j < l.length
  | [], _, _, _ => Or.inl rfl
  | b :: l, q, e, i => by
    have ih := fun q e => idx_ge c l q e (i + 1)
    have step : ∀ q e, idxO c q e (i + 1) l = -1 ∨ ∃ j : Nat, idxO c q e (i + 1) l = (i + j : Nat) ∧ j < l.length + 1 := fun q e => by
      rcases ih q e with h | ⟨j, h, hj⟩
      · exact Or.inl h
      · exact Or.inr ⟨j + 1, by rw [h]; omega, by omega⟩
    simp only [idxO, List.length_cons]
    split
    · exact step _ _
    · split
      · exact step _ _
      · split
        · exact step _ _
        · split
          · exact Or.inr ⟨0, by simp, by omega⟩
          · exact step _ _
theorem idx_some (c : UInt8) (h60 : c ≠ 60) (h62 : c ≠ 62) : ∀ (l : List UInt8) (q e : Bool) (i j : Nat), (e = true → q = true) → idxO c q e i l = (i + j : Nat) → (60 : UInt8) ∉ l.take j →
    cutsO c q e false i l = (i + j) :: cutsO c false false false (i + j + 1) (l.drop (j + 1)) ∧ cutsO c q e false i (l.take j) = []
  | [], _, _, i, j, _, h, _ => by simp only [idxO] at h; omega
  | b :: l, q, e, i, j, hqe, h, hn => by
    have nxt : ∀ q e, (e = true → q = true) → idxO c q e (i + 1) l = (i + j : Nat) → ∃ k, j = k + 1 ∧ cutsO c q e false (i + 1) l = (i + j) :: cutsO c false false false (i + j + 1) (l.drop (k + 1)) ∧ cutsO c q e false (i + 1) (l.take k) = [] ∧ b ≠ 60 := by
      intro q e hqe h
      rcases idx_ge c l q e (i + 1) with h2 | ⟨k, h2, _⟩
      · rw [h2] at h; omega
      · rw [h2] at h
        have hk : j = k + 1 := by omega
        subst hk
        rw [List.take_succ_cons, List.mem_cons, not_or] at hn
        have := idx_some c h60 h62 l q e (i + 1) k hqe (by rw [h2]) hn.2
        rw [show i + 1 + k = i + (k + 1) by omega] at this
        exact ⟨k, rfl, this.1, this.2, fun e => hn.1 e.symm⟩
    simp only [idxO] at h
    simp only [cutsO]
    split at h
    · next h1 =>
      obtain ⟨k, rfl, e1, e2, _⟩ := nxt _ _ (by simp) h
      rw [if_pos h1, e1, List.drop_succ_cons, List.take_succ_cons]
      refine ⟨rfl, ?_⟩
      rw [cutsO, if_pos h1, e2]
    · next h1 =>
      rw [if_neg h1]
      split at h
      · next h2 =>
        have hq : q = true := by simp at h2; exact h2.1
        obtain ⟨k, rfl, e1, e2, _⟩ := nxt _ _ (fun _ => hq) h
        rw [if_pos h2, e1, List.drop_succ_cons, List.take_succ_cons]
        refine ⟨rfl, ?_⟩
        rw [cutsO, if_neg h1, if_pos h2, e2]
      · next h2 =>
        rw [if_neg h2]
        split at h
        · next h3 =>
          obtain ⟨k, rfl, e1, e2, _⟩ := nxt _ _ (by simp) h
          rw [if_pos h3, e1, List.drop_succ_cons, List.take_succ_cons]
          refine ⟨rfl, ?_⟩
          rw [cutsO, if_neg h1, if_neg h2, if_pos h3, e2]
        · next h3 =>
          rw [if_neg h3]
          split at h
          · next h4 =>
            have hj : j = 0 := by omega
            subst hj
            rw [Bool.and_eq_true] at h4
            have hq : q = false := by simpa using h4.1
            have hb : b = c := by simpa using h4.2
            subst hq hb
            have e60 : ¬ (b == 60) = true := by simpa using h60
            have e62 : ¬ (b == 62) = true := by simpa using h62
            rw [if_neg (by simp), if_neg e60, if_neg e62, if_pos (by simp)]
            exact ⟨by simp, by simp [cutsO]⟩
          · next h4 =>
            obtain ⟨k, rfl, e1, e2, hb⟩ := nxt _ _ (by simp) h
            rw [List.drop_succ_cons, List.take_succ_cons]
            cases q
            · have e60 : ¬ (b == 60) = true := by simpa using hb
              have hbc : (b == c) = false := by simpa using h4
              simp only [Bool.false_eq_true, if_false, hbc, Bool.false_and]
              rw [cutsO]
              simp only [if_neg h1, if_neg h3, Bool.false_eq_true, if_false, hbc, Bool.false_and]
              rw [if_neg e60, if_neg e60, e1, e2]
              exact ⟨by split <;> rfl, by split <;> rfl⟩
            · rw [if_pos rfl, e1]
              refine ⟨rfl, ?_⟩
              rw [cutsO, if_neg h1, if_neg h2, if_neg h3, if_pos rfl, e2]
theorem cuts_shift (sep : UInt8) (d : Nat) : ∀ (l : List UInt8) (q e a : Bool) (i : Nat), cutsO sep q e a (i + d) l = (cutsO sep q e a i l).map (· + d)
  | [], _, _, _, _ => rfl
  | c :: l, q, e, a, i => by
    have ih := fun q e a => cuts_shift sep d l q e a (i + 1)
    have e1 : i + d + 1 = i + 1 + d := by omega
    simp only [cutsO, e1, ih]
    repeat' split
    all_goals rfl
theorem fin_shift (s : List UInt8) (d : Nat) : ∀ (cs : List Nat) (start : Nat), fin s (start + d) (cs.map (· + d)) = fin (s.drop d) start cs
  | [], start => by simp only [List.map_nil, fin, List.drop_drop]; rw [Nat.add_comm]
  | i :: cs, start => by
    simp only [List.map_cons, fin, List.drop_drop]
    have e1 : i + d - (start + d) = i - start := by omega
    have e2 : i + d + 1 = i + 1 + d := by omega
    rw [e1, e2, fin_shift s d cs (i + 1), Nat.add_comm start d]
theorem split_none (sep : UInt8) (s : List UInt8) (h : idxO sep false false 0 s = -1) : splitO sep s = keep (trim s) := by
  unfold splitO
  rw [idx_none sep s _ _ _ _ h]
  simp [fin]
theorem split_first (sep : UInt8) (s : List UInt8) (j : Nat) (h60 : sep ≠ 60) (h62 : sep ≠ 62) (h : idxO sep false false 0 s = (j : Nat)) (hn : (60 : UInt8) ∉ s.take j) :
    splitO sep s = splitO sep (s.take j) ++ splitO sep (s.drop (j + 1)) := by
  have := idx_some sep h60 h62 s false false 0 j (by simp) (by rw [h, Nat.zero_add]) hn
  rw [Nat.zero_add] at this
  unfold splitO
  rw [this.1, this.2]
  simp only [fin, List.drop_zero, Nat.sub_zero]
  congr 1
  have e : cutsO sep false false false (j + 1) (s.drop (j + 1)) = (cutsO sep false false false 0 (s.drop (j + 1))).map (· + (j + 1)) := by
    have := cuts_shift sep (j + 1) (s.drop (j + 1)) false false false 0
    rwa [Nat.zero_add] at this
  rw [e]
  have := fin_shift s (j + 1) (cutsO sep false false false 0 (s.drop (j + 1))) 0
  rwa [Nat.zero_add] at this

/-! ### tokens -/
def idxB (c : UInt8) : Nat → List UInt8 → Int
  | _, [] => -1
  | i, b :: l => if b == c then (i : Int) else idxB c (i + 1) l
def cutsB (c : UInt8) : Nat → List UInt8 → List Nat
  | _, [] => []
  | i, b :: l => if b == c then i :: cutsB c (i + 1) l else cutsB c (i + 1) l
/-- the pieces as they stand, the empty ones dropped. -/
def raw (s : List UInt8) : Nat → List Nat → List (List UInt8)
  | start, [] => keep (s.drop start)
  | start, i :: cs => keep ((s.drop start).take (i - start)) ++ raw s (i + 1) cs
def fields (c : UInt8) (s : List UInt8) : List (List UInt8) := raw s 0 (cutsB c 0 s)
/-- a byte with no part in quoting, brackets or white space. -/
def mild (c : UInt8) : Bool := decide (c.toNat < 128) && !sp1 c && !(c == 34) && !(c == 60) && !(c == 62)
theorem mild_idx (c : UInt8) : ∀ (l : List UInt8) (i : Nat), l.all mild = true → idxO c false false i l = idxB c i l
  | [], _, _ => rfl
  | b :: l, i, h => by
    rw [List.all_cons, Bool.and_eq_true] at h
    have h34 : (b == 34) = false := by have := h.1; simp only [mild, Bool.and_eq_true] at this; simpa using this.1.1.2
    simp only [idxO, idxB, Bool.false_and, Bool.not_false, Bool.true_and, Bool.false_eq_true, if_false, h34]
    rw [mild_idx c l (i + 1) h.2]
theorem mild_cuts (c : UInt8) : ∀ (l : List UInt8) (i : Nat), l.all mild = true → cutsO c false false false i l = cutsB c i l
  | [], _, _ => rfl
  | b :: l, i, h => by
    rw [List.all_cons, Bool.and_eq_true] at h
    have hb := h.1
    simp only [mild, Bool.and_eq_true] at hb
    have h34 : (b == 34) = false := by simpa using hb.1.1.2
    have h60 : (b == 60) = false := by simpa using hb.1.2
    have h62 : (b == 62) = false := by simpa using hb.2
    simp only [cutsO, cutsB, Bool.false_and, Bool.not_false, Bool.and_true, Bool.false_eq_true, if_false, h34, h60, h62]
    rw [mild_cuts c l (i + 1) h.2]
theorem mild_byte (c : UInt8) (h : mild c = true) : sp1 c = false ∧ (c == 0xC2) = false ∧ ∀ b1 b2, sp3 c b1 b2 = false := by
  simp only [mild, Bool.and_eq_true, decide_eq_true_eq, Bool.not_eq_true'] at h
  have h1 : c ≠ 0xC2 := by rintro rfl; exact absurd h.1.1.1.1 (by decide)
  have h2 : c ≠ 0xE1 := by rintro rfl; exact absurd h.1.1.1.1 (by decide)
  have h3 : c ≠ 0xE2 := by rintro rfl; exact absurd h.1.1.1.1 (by decide)
  have h4 : c ≠ 0xE3 := by rintro rfl; exact absurd h.1.1.1.1 (by decide)
  refine ⟨h.1.1.1.2, by simpa using h1, fun b1 b2 => ?_⟩
  unfold sp3
  rw [beq_false_of_ne h2, beq_false_of_ne h3, beq_false_of_ne h4]
  rfl
theorem mild_len (l : List UInt8) (h : l.all mild = true) : spLen l = 0 := by
  match l, h with
  | [], _ => rfl
  | [c], h =>
    have := mild_byte c (by simpa using h)
    simp [spLen, this.1]
  | [c, b1], h =>
    have := mild_byte c (by simp at h; exact h.1)
    simp [spLen, this.1, this.2.1]
  | c :: b1 :: b2 :: t, h =>
    have := mild_byte c (by simp at h; exact h.1)
    simp only [spLen, this.1, this.2.1, this.2.2]
    rfl
theorem mild_drop (l : List UInt8) (k : Nat) (h : l.all mild = true) : (l.drop k).all mild = true := by
  rw [List.all_eq_true] at h ⊢
  exact fun x hx => h x (List.mem_of_mem_drop hx)
theorem mild_take (l : List UInt8) (k : Nat) (h : l.all mild = true) : (l.take k).all mild = true := by
  rw [List.all_eq_true] at h ⊢
  exact fun x hx => h x (List.mem_of_mem_take hx)
theorem mild_end (l : List UInt8) (h : l.all mild = true) : endLen l = 0 := by
  unfold endLen
  split
  · rfl
  · next h0 =>
    have hm : mild (l.getD (l.length - 1) 0) = true := by
      rw [List.getD_eq_getElem?_getD, List.getElem?_eq_getElem (by omega)]
      exact List.all_eq_true.1 h _ (List.getElem_mem _)
    rw [(mild_byte _ hm).1, mild_len _ (mild_drop l _ h), mild_len _ (mild_drop l _ h)]
    simp
theorem mild_trim (l : List UInt8) (h : l.all mild = true) : trim l = l := by
  rw [trim_eq, sL_stop l (mild_len l h), sR_stop l (mild_end l h)]
theorem mild_fin (s : List UInt8) (h : s.all mild = true) : ∀ (cs : List Nat) (start : Nat), fin s start cs = raw s start cs
  | [], start => by simp only [fin, raw]; rw [mild_trim _ (mild_drop s _ h)]
  | i :: cs, start => by simp only [fin, raw]; rw [mild_trim _ (mild_take _ _ (mild_drop s _ h)), mild_fin s h cs]
theorem token_split (c : UInt8) (s : List UInt8) (h : s.all mild = true) : splitO c s = fields c s := by
  unfold splitO fields
  rw [mild_cuts c s 0 h, mild_fin s h]
end Sip
end Go.Proofs.Qxb6603950aDoor
