namespace Go.Proofs.Qxb6603685aDoor
namespace Idn
def isDig (c : UInt8) : Bool := decide (48 ≤ (c.toNat : Int)) && decide ((c.toNat : Int) ≤ 57)
def isId (c : UInt8) : Bool := isDig c || (decide (97 ≤ (c.toNat : Int)) && decide ((c.toNat : Int) ≤ 122)) || (decide (65 ≤ (c.toNat : Int)) && decide ((c.toNat : Int) ≤ 90)) || ((c.toNat : Int) == 45)
def segEnd (n : Nat) (dg lz pre : Bool) : Bool := if n = 0 then false else if pre && dg && lz && decide (1 < n) then false else true
/-- what one piece is asked. -/
def segOK (pre : Bool) (id : List UInt8) : Bool := id.all isId && segEnd id.length (id.all isDig) (id.head? == some 48) pre
def splitL (c : UInt8) : List UInt8 → List (List UInt8)
  | [] => [[]]
  | b :: l => if b = c then [] :: splitL c l else match splitL c l with
    | [] => [[b]]
    | h :: t => (b :: h) :: t
def model (pre : Bool) : Nat → Bool → Bool → List UInt8 → Bool
  | n, dg, lz, [] => segEnd n dg lz pre
  | n, dg, lz, c :: l =>
    if c = 46 then (if segEnd n dg lz pre then model pre 0 true false l else false)
    else if isId c then model pre (n + 1) (dg && isDig c) (if n = 0 then c == 48 else lz) l
    else false
theorem splitL_ne (c : UInt8) (l : List UInt8) : ∃ h t, splitL c l = h :: t := by
  cases l with
  | nil => exact ⟨_, _, rfl⟩
  | cons b l =>
    unfold splitL
    split
    · exact ⟨_, _, rfl⟩
    · split
      · exact ⟨_, _, rfl⟩
      · exact ⟨_, _, rfl⟩
/-- the model, with the open piece's front 'p'. -/
theorem model_eq (pre : Bool) : ∀ (l p : List UInt8), p.all isId = true →
    model pre p.length (p.all isDig) (p.head? == some 48) l = match splitL 46 l with
      | [] => true
      | h :: t => segOK pre (p ++ h) && t.all (segOK pre)
  | [], p, hp => by simp [model, splitL, segOK, hp]
  | c :: l, p, hp => by
    obtain ⟨h, t, e⟩ := splitL_ne 46 l
    unfold model splitL
    by_cases hc : c = 46
    · rw [if_pos hc, if_pos hc]
      have ih := model_eq pre l [] rfl
      rw [e] at ih ⊢
      simp only [List.append_nil, List.all_cons]
      simp only [List.length_nil, List.all_nil, List.head?_nil, List.nil_append] at ih
      have e2 : (none == some (48 : UInt8)) = false := rfl
      rw [e2] at ih
      rw [ih]
      have : segOK pre p = segEnd p.length (p.all isDig) (p.head? == some 48) pre := by simp [segOK, hp]
      rw [this]
      cases segEnd p.length (p.all isDig) (p.head? == some 48) pre <;> simp
    · rw [if_neg hc, if_neg hc, e]
      simp only
      by_cases hi : isId c = true
      · rw [if_pos hi]
        have ih := model_eq pre l (p ++ [c]) (by simp [List.all_append, hp, hi])
        rw [e] at ih
        simp only [List.append_assoc, List.singleton_append] at ih
        rw [← ih]
        congr 1
        · simp
        · simp [List.all_append]
        · cases p <;> simp
      · rw [if_neg hi]
        have : segOK pre (p ++ c :: h) = false := by
          unfold segOK
          simp [List.all_append, hi]
        rw [this]; rfl
theorem model_all (pre : Bool) (l : List UInt8) : model pre 0 true false l = (splitL 46 l).all (segOK pre) := by
  have := model_eq pre l [] rfl
  obtain ⟨h, t, e⟩ := splitL_ne 46 l
  rw [e] at this ⊢
  exact this
end Idn
end Go.Proofs.Qxb6603685aDoor
