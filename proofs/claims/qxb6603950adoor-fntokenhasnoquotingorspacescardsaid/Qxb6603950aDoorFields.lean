import Derived.Test.Qxb6603950aDoorSame
namespace Go.Proofs.Qxb6603950aDoor
open Go.RowKit

theorem info9 : ∃ i0, Tryd.prog.info? 9 = some i0 ∧ i0.zero = some (.string ByteArray.empty) ∧ i0.size = 1 ∧ i0.bytes = 16 := by
  have hi9 : (Tryd.prog.info? 9).map (fun i => (i.zero, i.size, i.bytes)) = some (some (.string ByteArray.empty), 1, 16) := by kernel_rfl
  obtain ⟨i0, hi, hx⟩ := Option.map_eq_some_iff.1 hi9
  simp only [Prod.mk.injEq] at hx
  exact ⟨i0, hi, hx.1, hx.2.1, hx.2.2⟩
/-- one string more at the slice's end. -/
theorem Owns.push {w : World} {base : Nat} {v : Value} {xs : List (List UInt8)} {X : ByteArray} (h : w.ownsRow base 9 1 v (xs.length + 1) (xs.map S ++ [.string X])) : Owns w base v (xs ++ [X.data.toList]) := by
  refine ⟨?_, fun e => by simp at e⟩
  have e : S X.data.toList = .string X := by unfold S; rw [← bytes_of rfl]
  rw [List.length_append, List.map_append, List.map_cons, List.map_nil, e]
  exact h
theorem Owns.pushed {w wr w2 : World} {base : Nat} {v : Value} {xs : List (List UInt8)} {o : Obj} (hb : Below base w wr) (hs : base ≤ wr.heap.size) (ho : Owns wr base v xs) (hg : (wr.alloc o).grownBy w2 v.ownBlock) : Below base w w2 :=
  (hb.alloc hs _).grown hg (by simp; omega) (fun k e => (ho.1.lt k e).1)

/-- what is still to come. -/
def rawTodo (c : UInt8) (s : ByteArray) (prev k : Nat) : List (List UInt8) := Sip.raw s.data.toList prev (Sip.cutsB c k (s.data.toList.drop k))
theorem rawTodo_miss (c : UInt8) (s : ByteArray) (prev k : Nat) (h : k < s.size) (e : ((s[k].toNat : Int) == (c.toNat : Int)) = false) : rawTodo c s prev k = rawTodo c s prev (k + 1) := by
  have e1 : (s[k] == c) = false := by rw [beqI]; exact e
  unfold rawTodo; rw [drop_cons s k h, Sip.cutsB, if_neg (by rw [e1]; simp)]
theorem rawTodo_hit (c : UInt8) (s : ByteArray) (prev k : Nat) (h : k < s.size) (e : ((s[k].toNat : Int) == (c.toNat : Int)) = true) : rawTodo c s prev k = Sip.keep (cut s prev k) ++ rawTodo c s (k + 1) (k + 1) := by
  have e1 : (s[k] == c) = true := by rw [beqI]; exact e
  unfold rawTodo; rw [drop_cons s k h, Sip.cutsB, if_pos e1, Sip.raw]; rfl
theorem rawTodo_end (c : UInt8) (s : ByteArray) (prev k : Nat) (h : ¬ k < s.size) : rawTodo c s prev k = Sip.keep (cut s prev s.size) := by
  unfold rawTodo; rw [drop_end s k (by omega), cut_all]; rfl
theorem keep_cut (s : ByteArray) (lo hi : Nat) (h : lo < hi) (hh : hi ≤ s.size) : Sip.keep (cut s lo hi) = [cut s lo hi] := by
  unfold Sip.keep
  rw [if_neg]
  intro e
  have := cut_length s lo hi hh
  rw [e] at this
  simp at this
  omega
theorem keep_none (s : ByteArray) (lo hi : Nat) (h : ¬ lo < hi) : Sip.keep (cut s lo hi) = [] := by
  unfold Sip.keep cut
  rw [if_pos]
  rw [show hi - lo = 0 by omega, List.take_zero]

set_option maxHeartbeats 1000000 in
theorem fields_any (s : ByteArray) (c : UInt8) (w : World) (hs : s.size ≤ 1048576) :
    Calls Tryd.prog 12 #[.string s, .int .u8 c.toNat] w fun e w' => ∃ v, e = .returned v ∧ Owns w' w.heap.size v (Sip.fields c s.data.toList) ∧ Below w.heap.size w w' := by
  obtain ⟨i0, hi, hz0, hz1, hz2⟩ := info9
  go_enter Tryd.func12, Tryd.ntmps12
  go_wp2
  go_loopw [5, 6, 7] (fun vo vp vi wr => ∃ (k prev : Nat) (xs : List (List UInt8)), k ≤ s.size ∧ prev ≤ k ∧ xs.length ≤ k ∧ vi = .int .i64 k ∧ vp = .int .i64 prev ∧
      Hid (Owns wr w.heap.size vo xs) ∧ Hid (Below w.heap.size w wr) ∧ Hid (Sip.fields c s.data.toList = xs ++ rawTodo c s prev k))
    (fun _ _ i _ => s.size - (intOf i).toNat)
  case atStart => exact ⟨0, 0, [], by omega, by omega, by simp, rfl, rfl, ⟨World.ownsRow_nil _ _ _ _, fun _ => rfl⟩, Below.refl _ _, rfl⟩
  case round =>
    obtain ⟨k, prev, xs, hk, hp, hxl, rfl, rfl, HO, HB, HM⟩ := hrel
    have hbs := HB.out.size
    by_cases hlt : k < s.size
    · cases hc : ((s[k].toNat : Int) == (c.toNat : Int))
      · go_wp2
        go_roundw
        case rel => exact ⟨k + 1, prev, xs, by omega, by omega, by omega, by go_num, rfl, HO, HB, HM.out.trans (by rw [rawTodo_miss c s prev k hlt hc])⟩
        case measure => simp [intOf]; omega
      · have HX : Hid (rawTodo c s prev k = Sip.keep (cut s prev k) ++ rawTodo c s (k + 1) (k + 1)) := rawTodo_hit c s prev k hlt hc
        by_cases hpk : prev < k
        · have HK : Hid (Sip.keep (cut s prev k) = [cut s prev k]) := keep_cut s prev k hpk hk
          go_wp2_with (at_builtin; refine wpList_append_own _ rfl _ _ 26 rfl w.heap.size 9 i0 (.string ByteArray.empty) 1 16 Tryd.underlying26 hi hz0 hz1 hz2 rfl (by decide) _ _ _ rfl (HO.out.1.alloc _) ⟨wr.heap.size, 0, none⟩ 1 1 [.string (s.extract prev k)] rfl rfl ?c1 ?c2 ?c3 ?c4 ?c5 ?_)
          case c1 => exact cell_one_new _ _ _
          case c2 => intro u hu; simp at hu; subst hu; rfl
          case c3 => unfold maxLen; omega
          case c4 => omega
          case c5 => simp; omega
          intro v' w2 hown2 hg2 hnil
          have HO2 : Hid (Owns w2 w.heap.size v' (xs ++ [(s.extract prev k).data.toList])) := Owns.push hown2
          have HB2 : Hid (Below w.heap.size w w2) := Owns.pushed HB.out hbs HO.out hg2
          clear hown2 hg2 hnil
          go_wp2
          go_roundw
          case rel => exact ⟨k + 1, k + 1, xs ++ [(s.extract prev k).data.toList], by omega, by omega, by simp; omega, by go_num, by go_num, HO2, HB2, HM.out.trans (by rw [HX.out, HK.out, cut_extract, List.append_assoc])⟩
          case measure => simp [intOf]; omega
        · have HK : Hid (Sip.keep (cut s prev k) = []) := keep_none s prev k hpk
          go_wp2
          go_roundw
          case rel => exact ⟨k + 1, k + 1, xs, by omega, by omega, by omega, by go_num, by go_num, HO, HB, HM.out.trans (by rw [HX.out, HK.out, List.nil_append])⟩
          case measure => simp [intOf]; omega
    · have HX : Hid (rawTodo c s prev k = Sip.keep (cut s prev s.size)) := rawTodo_end c s prev k hlt
      by_cases hpk : prev < s.size
      · have HK : Hid (Sip.keep (cut s prev s.size) = [cut s prev s.size]) := keep_cut s prev s.size hpk (Nat.le_refl _)
        go_wp2_with (at_builtin; refine wpList_append_own _ rfl _ _ 26 rfl w.heap.size 9 i0 (.string ByteArray.empty) 1 16 Tryd.underlying26 hi hz0 hz1 hz2 rfl (by decide) _ _ _ rfl (HO.out.1.alloc _) ⟨wr.heap.size, 0, none⟩ 1 1 [.string (s.extract prev s.size)] rfl rfl ?c1 ?c2 ?c3 ?c4 ?c5 ?_)
        case c1 => exact cell_one_new _ _ _
        case c2 => intro u hu; simp at hu; subst hu; rfl
        case c3 => unfold maxLen; omega
        case c4 => omega
        case c5 => simp; omega
        intro v' w2 hown2 hg2 hnil
        have HO2 : Hid (Owns w2 w.heap.size v' (xs ++ [(s.extract prev s.size).data.toList])) := Owns.push hown2
        have HB2 : Hid (Below w.heap.size w w2) := Owns.pushed HB.out hbs HO.out hg2
        clear hown2 hg2 hnil
        go_wp2
        go_ret
        exact ⟨_, rfl, by rw [HM.out, HX.out, HK.out, ← cut_extract]; exact HO2, HB2⟩
      · have HK : Hid (Sip.keep (cut s prev s.size) = []) := keep_none s prev s.size hpk
        go_wp2
        go_ret
        exact ⟨_, rfl, by rw [HM.out, HX.out, HK.out, List.append_nil]; exact HO, HB⟩
end Go.Proofs.Qxb6603950aDoor
