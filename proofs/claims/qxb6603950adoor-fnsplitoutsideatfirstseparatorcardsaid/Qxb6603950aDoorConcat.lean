import Derived.Test.Qxb6603950aDoorFields
namespace Go.Proofs.Qxb6603950aDoor
open Go.RowKit

/-- a slice that is read: its parts. -/
theorem Holds.parts {w : World} {v : Value} {xs : List (List UInt8)} (h : Holds w v xs) : ∃ a cap, v = .slice a xs.length cap ∧ ∀ k (_ : k < xs.length), ∃ g, a = some ⟨g, 0, none⟩ ∧ g < w.heap.size ∧ w.cell? ⟨g, k, none⟩ = some (.string ⟨xs[k].toArray⟩) := by
  rcases h with ⟨rfl, rfl⟩ | ⟨g, cap, rfl, _, hg, hc⟩
  · exact ⟨none, 0, rfl, fun k hk => by simp at hk⟩
  · exact ⟨some ⟨g, 0, none⟩, cap, rfl, fun k hk => ⟨g, rfl, hg, hc k hk⟩⟩
theorem take_next' (xs : List (List UInt8)) (k : Nat) (h : k < xs.length) : xs.take (k + 1) = xs.take k ++ [xs[k]] := by rw [List.take_succ_eq_append_getElem h]

set_option maxHeartbeats 1000000 in
theorem concat_any (va vb : Value) (xs ys : List (List UInt8)) (w : World) (ha : Holds w va xs) (hb : Holds w vb ys) (hl : xs.length + ys.length ≤ 2097152) :
    Calls Tryd.prog 17 #[va, vb] w fun e w' => ∃ v, e = .returned v ∧ Owns w' w.heap.size v (xs ++ ys) ∧ Below w.heap.size w w' := by
  obtain ⟨i0, hi, hz0, hz1, hz2⟩ := info9
  obtain ⟨a1, c1, rfl, h1⟩ := ha.parts
  obtain ⟨a2, c2, rfl, h2⟩ := hb.parts
  have H1 : Hid (∀ k (_ : k < xs.length), ∃ g, a1 = some ⟨g, 0, none⟩ ∧ g < w.heap.size ∧ w.cell? ⟨g, k, none⟩ = some (.string ⟨xs[k].toArray⟩)) := h1
  have H2 : Hid (∀ k (_ : k < ys.length), ∃ g, a2 = some ⟨g, 0, none⟩ ∧ g < w.heap.size ∧ w.cell? ⟨g, k, none⟩ = some (.string ⟨ys[k].toArray⟩)) := h2
  clear h1 h2 ha hb
  go_enter Tryd.func17, Tryd.ntmps17
  go_wp2
  go_loopw [5, 6] (fun vo vi wr => ∃ k : Nat, k ≤ xs.length ∧ vi = .int .i64 k ∧ Hid (Owns wr w.heap.size vo (xs.take k)) ∧ Hid (Below w.heap.size w wr)) (fun _ i _ => xs.length - (intOf i).toNat)
  case atStart => exact ⟨0, by omega, rfl, ⟨World.ownsRow_nil _ _ _ _, fun _ => rfl⟩, Below.refl _ _⟩
  case round =>
    obtain ⟨k, hk, rfl, HO, HB⟩ := hrel
    have hbs := HB.out.size
    by_cases hlt : k < xs.length
    · obtain ⟨g, rfl, hg, hcell⟩ := H1.out k hlt
      have hcr : wr.cell? ⟨g, k, none⟩ = some (.string ⟨xs[k].toArray⟩) := (HB.out.cell (p := ⟨g, k, none⟩) hg).trans hcell
      clear hcell
      have HT : Hid (xs.take (k + 1) = xs.take k ++ [xs[k]]) := take_next' xs k hlt
      have HX : Hid ((⟨xs[k].toArray⟩ : ByteArray).data.toList = xs[k]) := by simp [Hid]
      generalize (⟨xs[k].toArray⟩ : ByteArray) = X at hcr HX
      have htl : (xs.take k).length ≤ 2097152 := by rw [List.length_take]; omega
      generalize hzs : xs.take k = zs at HO htl
      have HZ : Hid (xs.take k = zs) := hzs
      clear hzs
      go_wp2_with (at_builtin; refine wpList_append_own _ rfl _ _ 26 rfl w.heap.size 9 i0 (.string ByteArray.empty) 1 16 Tryd.underlying26 hi hz0 hz1 hz2 rfl (by decide) _ _ _ rfl (HO.out.1.alloc _) ⟨wr.heap.size, 0, none⟩ 1 1 [.string X] rfl rfl ?c1 ?c2 ?c3 ?c4 ?c5 ?_)
      case c1 => exact cell_one_new _ _ _
      case c2 => intro u hu; simp at hu; subst hu; rfl
      case c3 => unfold maxLen; omega
      case c4 => omega
      case c5 => simp; omega
      intro v' w2 hown2 hg2 hnil
      have HO2 : Hid (Owns w2 w.heap.size v' (zs ++ [X.data.toList])) := Owns.push hown2
      have HB2 : Hid (Below w.heap.size w w2) := Owns.pushed HB.out hbs HO.out hg2
      clear hown2 hg2 hnil
      go_wp2
      go_roundw
      case rel => exact ⟨k + 1, by omega, by go_num, by rw [HT.out, ← HX.out, HZ.out]; exact HO2, HB2⟩
      case measure => simp [intOf]; omega
    · have HO' : Hid (Owns wr w.heap.size u5 xs) := by have := HO.out; rwa [List.take_of_length_le (by omega)] at this
      clear HO
      go_wp2
      go_loopw [5, 7] (fun vo vi wr => ∃ k : Nat, k ≤ ys.length ∧ vi = .int .i64 k ∧ Hid (Owns wr w.heap.size vo (xs ++ ys.take k)) ∧ Hid (Below w.heap.size w wr)) (fun _ i _ => ys.length - (intOf i).toNat)
      case atStart => exact ⟨0, by omega, rfl, by rw [List.take_zero, List.append_nil]; exact HO', HB⟩
      case round =>
        clear HO' HB
        obtain ⟨k, hk, rfl, HO, HB⟩ := hrel
        have hbs := HB.out.size
        by_cases hlt : k < ys.length
        · obtain ⟨g, rfl, hg, hcell⟩ := H2.out k hlt
          have hcr : wr.cell? ⟨g, k, none⟩ = some (.string ⟨ys[k].toArray⟩) := (HB.out.cell (p := ⟨g, k, none⟩) hg).trans hcell
          clear hcell
          have HT : Hid (ys.take (k + 1) = ys.take k ++ [ys[k]]) := take_next' ys k hlt
          have HX : Hid ((⟨ys[k].toArray⟩ : ByteArray).data.toList = ys[k]) := by simp [Hid]
          generalize (⟨ys[k].toArray⟩ : ByteArray) = X at hcr HX
          have htl : (xs ++ ys.take k).length ≤ 2097152 := by simp only [List.length_append, List.length_take]; omega
          generalize hzs : xs ++ ys.take k = zs at HO htl
          have HZ : Hid (xs ++ ys.take k = zs) := hzs
          clear hzs
          go_wp2_with (at_builtin; refine wpList_append_own _ rfl _ _ 26 rfl w.heap.size 9 i0 (.string ByteArray.empty) 1 16 Tryd.underlying26 hi hz0 hz1 hz2 rfl (by decide) _ _ _ rfl (HO.out.1.alloc _) ⟨wr.heap.size, 0, none⟩ 1 1 [.string X] rfl rfl ?c1 ?c2 ?c3 ?c4 ?c5 ?_)
          case c1 => exact cell_one_new _ _ _
          case c2 => intro u hu; simp at hu; subst hu; rfl
          case c3 => unfold maxLen; omega
          case c4 => omega
          case c5 => simp; omega
          intro v' w2 hown2 hg2 hnil
          have HO2 : Hid (Owns w2 w.heap.size v' (zs ++ [X.data.toList])) := Owns.push hown2
          have HB2 : Hid (Below w.heap.size w w2) := Owns.pushed HB.out hbs HO.out hg2
          clear hown2 hg2 hnil
          go_wp2
          go_roundw
          case rel => exact ⟨k + 1, by omega, by go_num, by rw [HT.out, ← HX.out, ← List.append_assoc, HZ.out]; exact HO2, HB2⟩
          case measure => simp [intOf]; omega
        · have HO' : Hid (Owns wr w.heap.size u5 (xs ++ ys)) := by have := HO.out; rwa [List.take_of_length_le (by omega)] at this
          go_wp2
          go_ret
          exact ⟨_, rfl, HO', HB⟩
end Go.Proofs.Qxb6603950aDoor
