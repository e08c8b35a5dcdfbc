import Derived.Lib.SpaceUEq
namespace Go.Proofs.Qxb6603950aDoor
namespace Sip
open Go.Lib

/-- a white-space byte of ASCII. -/
def sp1 (c : UInt8) : Bool := ((c.toNat : Int) == 32) || (decide (9 ≤ (c.toNat : Int)) && decide ((c.toNat : Int) ≤ 13))
/-- the three-byte patterns. -/
def sp3 (c b1 b2 : UInt8) : Bool :=
  (c == 0xE1 && b1 == 0x9A && b2 == 0x80) ||
  (c == 0xE2 && ((b1 == 0x80 && ((decide (128 ≤ (b2.toNat : Int)) && decide ((b2.toNat : Int) ≤ 138)) || b2 == 0xA8 || b2 == 0xA9 || b2 == 0xAF)) || (b1 == 0x81 && b2 == 0x9F))) ||
  (c == 0xE3 && b1 == 0x80 && b2 == 0x80)
/-- what sipb1SpaceLen answers at the head of l. -/
def spLen : List UInt8 → Nat
  | [] => 0
  | [c] => if sp1 c then 1 else 0
  | [c, b1] => if sp1 c then 1 else if c == 0xC2 && (b1 == 0x85 || b1 == 0xA0) then 2 else 0
  | c :: b1 :: b2 :: _ => if sp1 c then 1 else if c == 0xC2 then (if b1 == 0x85 || b1 == 0xA0 then 2 else 0) else if sp3 c b1 b2 then 3 else 0

theorem seq_len : ∀ q ∈ spaceSeqs, ∀ t : List UInt8, spLen (q ++ t) = q.length := by
  intro q hq t
  rcases t with _ | ⟨a, _ | ⟨b, t⟩⟩ <;>
  · simp only [spaceSeqs, List.mem_cons, List.not_mem_nil, or_false] at hq
    rcases hq with rfl | rfl | rfl | rfl | rfl | rfl | rfl | rfl | rfl | rfl | rfl | rfl | rfl | rfl | rfl | rfl | rfl | rfl | rfl | rfl | rfl | rfl | rfl | rfl | rfl <;> rfl

theorem byteOf (x : UInt8) : x = UInt8.ofNat x.toNat := by simp
theorem sp1_mem (c : UInt8) (h : sp1 c = true) : [c] ∈ spaceSeqs := by
  have := mem1 ⟨c.toNat, c.toNat_lt⟩ (by simp only [sp1, Bool.or_eq_true, Bool.and_eq_true, beq_iff_eq, decide_eq_true_eq] at h; simp only; omega)
  rwa [byteOf c]
theorem sp2_mem (b : UInt8) (h : (b == 0x85 || b == 0xA0) = true) : [0xC2, b] ∈ spaceSeqs := by
  simp only [Bool.or_eq_true, beq_iff_eq] at h
  rcases h with rfl | rfl <;> decide
theorem sp3_mem (c b1 b2 : UInt8) (h : sp3 c b1 b2 = true) : [c, b1, b2] ∈ spaceSeqs := by
  simp only [sp3, Bool.or_eq_true, Bool.and_eq_true, beq_iff_eq, decide_eq_true_eq] at h
  rcases h with (⟨⟨rfl, rfl⟩, rfl⟩ | ⟨rfl, ⟨rfl, h⟩ | ⟨rfl, rfl⟩⟩) | ⟨⟨rfl, rfl⟩, rfl⟩
  · decide
  · have := mem3 ⟨b2.toNat, b2.toNat_lt⟩ (by
      simp only
      rcases h with ((h | rfl) | rfl) | rfl
      · left; omega
      · decide
      · decide
      · decide)
    rwa [byteOf b2]
  · decide
  · decide
theorem spLen_mem (l : List UInt8) (h : spLen l ≠ 0) : ∃ q ∈ spaceSeqs, ∃ t, l = q ++ t := by
  match l, h with
  | [], h => exact absurd rfl h
  | [c], h =>
    simp only [spLen] at h
    split at h
    · next h1 => exact ⟨[c], sp1_mem c h1, [], rfl⟩
    · exact absurd rfl h
  | [c, b1], h =>
    simp only [spLen] at h
    split at h
    · next h1 => exact ⟨[c], sp1_mem c h1, [b1], rfl⟩
    · split at h
      · next h2 =>
        rw [Bool.and_eq_true, beq_iff_eq] at h2
        obtain ⟨rfl, h2⟩ := h2
        exact ⟨_, sp2_mem b1 h2, [], rfl⟩
      · exact absurd rfl h
  | c :: b1 :: b2 :: t, h =>
    simp only [spLen] at h
    split at h
    · next h1 => exact ⟨[c], sp1_mem c h1, _, rfl⟩
    · split at h
      · next h2 =>
        rw [beq_iff_eq] at h2
        subst h2
        split at h
        · next h3 => exact ⟨_, sp2_mem b1 h3, b2 :: t, rfl⟩
        · exact absurd rfl h
      · split at h
        · next h3 => exact ⟨_, sp3_mem c b1 b2 h3, t, rfl⟩
        · exact absurd rfl h
theorem seq_pos : ∀ q ∈ spaceSeqs, q.length = 1 ∨ q.length = 2 ∨ q.length = 3 := by decide
theorem seq_ne (q : List UInt8) (h : q ∈ spaceSeqs) : q ≠ [] := by
  rintro rfl
  have := seq_pos [] h
  simp at this
theorem head_app (q t : List UInt8) (h : q ∈ spaceSeqs) : headSpace (q ++ t) = q.length := by
  obtain ⟨h1, h2⟩ := seq_decodes q h t
  rw [headSpace_eq _ (by simp [seq_ne q h]), if_pos h1, h2]
theorem tail_app (q t : List UInt8) (h : q ∈ spaceSeqs) : tailSpace (t ++ q) = q.length := by
  obtain ⟨h1, h2⟩ := seq_decodes_last q h t
  rw [tailSpace_eq _ (by simp [seq_ne q h]), if_pos h1, h2]
theorem head_mem (l : List UInt8) (h : headSpace l ≠ 0) : ∃ q ∈ spaceSeqs, ∃ t, l = q ++ t := by
  unfold headSpace at h
  cases e : spaceSeqs.find? (·.isPrefixOf l) with
  | none => rw [e] at h; exact absurd rfl h
  | some q =>
    have h1 := List.find?_some e
    obtain ⟨t, ht⟩ := List.isPrefixOf_iff_prefix.1 h1
    exact ⟨q, List.mem_of_find?_eq_some e, t, ht.symm⟩
theorem tail_mem (l : List UInt8) (h : tailSpace l ≠ 0) : ∃ q ∈ spaceSeqs, ∃ t, l = t ++ q := by
  unfold tailSpace at h
  cases e : spaceSeqs.find? (·.isSuffixOf l) with
  | none => rw [e] at h; exact absurd rfl h
  | some q =>
    have h1 := List.find?_some e
    obtain ⟨t, ht⟩ := List.isSuffixOf_iff_suffix.1 h1
    exact ⟨q, List.mem_of_find?_eq_some e, t, ht.symm⟩
theorem spLen_eq (l : List UInt8) : spLen l = headSpace l := by
  by_cases h : headSpace l = 0
  · rw [h]
    by_cases h2 : spLen l = 0
    · exact h2
    · obtain ⟨q, hq, t, rfl⟩ := spLen_mem l h2
      have := head_app q t hq
      rw [h] at this
      have := seq_pos q hq
      omega
  · obtain ⟨q, hq, t, rfl⟩ := head_mem l h
    rw [seq_len q hq, head_app q t hq]

/-- what sipb1SpaceLenAtEnd answers. -/
def endLen (u : List UInt8) : Nat :=
  if u.length = 0 then 0
  else if sp1 (u.getD (u.length - 1) 0) then 1
  else if 2 ≤ u.length ∧ spLen (u.drop (u.length - 2)) = 2 then 2
  else if 3 ≤ u.length ∧ spLen (u.drop (u.length - 3)) = 3 then 3
  else 0
theorem seq_self (q : List UInt8) (h : q ∈ spaceSeqs) : spLen q = q.length := by
  have := seq_len q h []
  rwa [List.append_nil] at this
theorem spLen_exact (l : List UInt8) (h : spLen l = l.length) (h0 : l ≠ []) : l ∈ spaceSeqs := by
  obtain ⟨q, hq, t, rfl⟩ := spLen_mem l (by rw [h]; simpa using h0)
  rw [seq_len q hq, List.length_append] at h
  have : t = [] := List.length_eq_zero_iff.1 (by omega)
  subst this
  rwa [List.append_nil]
theorem drop_app_len (t q : List UInt8) : (t ++ q).drop ((t ++ q).length - q.length) = q := by
  rw [List.length_append, Nat.add_sub_cancel]; simp
theorem seq1_sp (q : List UInt8) (h : q ∈ spaceSeqs) (h1 : q.length = 1) : sp1 (q.getD 0 0) = true := by
  revert q; decide
theorem endLen_eq (u : List UInt8) : endLen u = tailSpace u := by
  unfold endLen
  split
  · next h => rw [List.length_eq_zero_iff] at h; subst h; decide
  · next h0 =>
    split
    · next h1 =>
      have e : u = u.take (u.length - 1) ++ [u.getD (u.length - 1) 0] := by
        have := List.take_append_drop (u.length - 1) u
        rw [drop_last1 u (by omega)] at this
        exact this.symm
      have hh := sp1_mem _ h1
      rw [e, tail_app _ _ hh]; rfl
    · next h1 =>
      split
      · next h2 =>
        obtain ⟨h2, h3⟩ := h2
        have hl : (u.drop (u.length - 2)).length = 2 := by rw [List.length_drop]; omega
        have hm := spLen_exact _ (by rw [h3, hl]) (by intro e; rw [e] at hl; simp at hl)
        rw [← List.take_append_drop (u.length - 2) u, tail_app _ _ hm, hl]
      · next h2 =>
        split
        · next h3 =>
          obtain ⟨h3, h4⟩ := h3
          have hl : (u.drop (u.length - 3)).length = 3 := by rw [List.length_drop]; omega
          have hm := spLen_exact _ (by rw [h4, hl]) (by intro e; rw [e] at hl; simp at hl)
          rw [← List.take_append_drop (u.length - 3) u, tail_app _ _ hm, hl]
        · next h3 =>
          by_cases hz : tailSpace u = 0
          · exact hz.symm
          · exfalso
            obtain ⟨q, hq, t, rfl⟩ := tail_mem u hz
            have hd := drop_app_len t q
            have hs := seq_self q hq
            rcases seq_pos q hq with hl | hl | hl
            · apply h1
              have e : (t ++ q).getD ((t ++ q).length - 1) 0 = q.getD 0 0 := by
                have := getD_app_end t q 1 (by omega) (by omega)
                rw [this, hl]
              rw [e]; exact seq1_sp q hq hl
            · apply h2
              rw [hl] at hd hs
              rw [hd, hs]
              exact ⟨by simp; omega, rfl⟩
            · apply h3
              rw [hl] at hd hs
              rw [hd, hs]
              exact ⟨by simp; omega, rfl⟩

/-- strings.TrimSpace, and sipb1Trim. -/
def trim (l : List UInt8) : List UInt8 := trimSpaceD l

theorem head_le (l : List UInt8) : headSpace l ≤ l.length := by
  by_cases h : headSpace l = 0
  · omega
  · obtain ⟨q, hq, t, rfl⟩ := head_mem l h
    rw [head_app q t hq]; simp
theorem tail_le (l : List UInt8) : tailSpace l ≤ l.length := by
  by_cases h : tailSpace l = 0
  · omega
  · obtain ⟨q, hq, t, rfl⟩ := tail_mem l h
    rw [tail_app q t hq]; simp
theorem stripL_fuel : ∀ (f g : Nat) (l : List UInt8), l.length ≤ f → l.length ≤ g → stripL f l = stripL g l
  | 0, g, l, h, _ => by
    have : l = [] := List.length_eq_zero_iff.1 (by omega)
    subst this
    cases g with
    | zero => rfl
    | succ g => rw [stripL, stripL, headSpace_nil, if_pos rfl]
  | f + 1, 0, l, _, h => by
    have : l = [] := List.length_eq_zero_iff.1 (by omega)
    subst this
    rw [stripL, stripL, headSpace_nil, if_pos rfl]
  | f + 1, g + 1, l, h1, h2 => by
    rw [stripL, stripL]
    split
    · rfl
    · exact stripL_fuel f g _ (by rw [List.length_drop]; omega) (by rw [List.length_drop]; omega)
theorem stripR_fuel : ∀ (f g : Nat) (l : List UInt8), l.length ≤ f → l.length ≤ g → stripR f l = stripR g l
  | 0, g, l, h, _ => by
    have : l = [] := List.length_eq_zero_iff.1 (by omega)
    subst this
    cases g with
    | zero => rfl
    | succ g => rw [stripR, stripR, tailSpace_nil, if_pos rfl]
  | f + 1, 0, l, _, h => by
    have : l = [] := List.length_eq_zero_iff.1 (by omega)
    subst this
    rw [stripR, stripR, tailSpace_nil, if_pos rfl]
  | f + 1, g + 1, l, h1, h2 => by
    rw [stripR, stripR]
    split
    · rfl
    · exact stripR_fuel f g _ (by rw [List.length_take]; omega) (by rw [List.length_take]; omega)
def sL (l : List UInt8) : List UInt8 := stripL l.length l
def sR (l : List UInt8) : List UInt8 := stripR l.length l
theorem sL_stop (l : List UInt8) (h : spLen l = 0) : sL l = l := by
  rw [spLen_eq] at h
  unfold sL
  cases l with
  | nil => rfl
  | cons a t => rw [List.length_cons, stripL, if_pos h]
theorem sL_step (l : List UInt8) (h : spLen l ≠ 0) : sL l = sL (l.drop (spLen l)) := by
  rw [spLen_eq] at h ⊢
  unfold sL
  have := head_le l
  cases l with
  | nil => exact absurd headSpace_nil h
  | cons a t =>
    rw [List.length_cons, stripL, if_neg h]
    exact stripL_fuel _ _ _ (by rw [List.length_drop, List.length_cons]; omega) (Nat.le_refl _)
theorem sR_stop (l : List UInt8) (h : endLen l = 0) : sR l = l := by
  rw [endLen_eq] at h
  unfold sR
  cases l with
  | nil => rfl
  | cons a t => rw [List.length_cons, stripR, if_pos h]
theorem sR_step (l : List UInt8) (h : endLen l ≠ 0) : sR l = sR (l.take (l.length - endLen l)) := by
  rw [endLen_eq] at h ⊢
  unfold sR
  have := tail_le l
  cases l with
  | nil => exact absurd tailSpace_nil h
  | cons a t =>
    rw [List.length_cons, stripR, if_neg h]
    exact stripR_fuel _ _ _ (by rw [List.length_take, List.length_cons]; omega) (Nat.le_refl _)
theorem trim_eq (l : List UInt8) : trim l = sR (sL l) := by
  unfold trim
  rw [← trimSpaceU_eq]
  unfold trimSpaceU sR sL
  refine stripR_fuel _ _ _ ?_ (Nat.le_refl _)
  have : ∀ (f : Nat) (l : List UInt8), (stripL f l).length ≤ l.length := by
    intro f
    induction f with
    | zero => intro l; exact Nat.le_refl _
    | succ f ih =>
      intro l
      rw [stripL]
      split
      · exact Nat.le_refl _
      · have := ih (l.drop (headSpace l))
        rw [List.length_drop] at this
        omega
  exact this _ _
theorem sL_nil : sL [] = [] := rfl
theorem sR_nil : sR [] = [] := rfl
end Sip
end Go.Proofs.Qxb6603950aDoor
