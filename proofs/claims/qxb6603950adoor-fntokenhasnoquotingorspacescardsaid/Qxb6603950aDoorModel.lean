import Derived.Test.Qxb6603950aDoorConcat
import Derived.Test.Qxb6603950aDoorMask
import Derived.Test.Qxb6603950aDoorSplit
namespace Go.Proofs.Qxb6603950aDoor
open Go.RowKit

set_option maxHeartbeats 1000000 in
theorem addTrimmed_any (base : Nat) (v : Value) (xs : List (List UInt8)) (s : ByteArray) (w : World) (hown : Owns w base v xs) (hlen : xs.length ≤ 1048576) (hs : s.size ≤ 1048576) (hbase : base ≤ w.heap.size) :
    Calls Tryd.prog 22 #[v, .string s] w fun e w' => ∃ v', e = .returned v' ∧ Owns w' base v' (xs ++ Sip.keep (Sip.trim s.data.toList)) ∧ Below base w w' := by
  obtain ⟨i0, hi, hz0, hz1, hz2⟩ := info9
  have hcall : Hid (∀ w, Calls Tryd.prog 16 #[.string s] w fun e w' => e = .returned (.string ⟨(Sip.trim s.data.toList).toArray⟩) ∧ w' = w) := fun w => trim_any s w hs
  generalize Sip.trim s.data.toList = T at hcall ⊢
  have HO : Hid (Owns w base v xs) := hown
  clear hown
  have he := S_empty T
  by_cases h0 : T = []
  · subst h0
    have hk : Sip.keep [] = [] := rfl
    rw [hk, List.append_nil]
    go_enter Tryd.func22, Tryd.ntmps22
    go_wp2_with (go_at_call 16; refine (hcall.out _).mono ?_; rintro e w1 ⟨rfl, rfl⟩)
    go_ret
    exact ⟨_, rfl, HO, Below.refl _ _⟩
  · have hk : Hid (Sip.keep T = [T]) := by unfold Hid Sip.keep; rw [if_neg h0]
    have hte : T.isEmpty = false := by simpa using h0
    go_enter Tryd.func22, Tryd.ntmps22
    go_wp2_with fail
    refine (hcall.out _).mono ?_
    rintro e w1 ⟨rfl, rfl⟩
    go_wp2_with (at_builtin; refine wpList_append_own _ rfl _ _ 26 rfl base 9 i0 (.string ByteArray.empty) 1 16 Tryd.underlying26 hi hz0 hz1 hz2 rfl (by decide) _ _ _ rfl (HO.out.1.alloc _) ⟨w1.heap.size, 0, none⟩ 1 1 [.string ⟨T.toArray⟩] rfl rfl ?c1 ?c2 ?c3 ?c4 ?c5 ?_)
    case c1 => exact cell_one_new _ _ _
    case c2 => intro u hu; simp at hu; subst hu; rfl
    case c3 => unfold maxLen; omega
    case c4 => omega
    case c5 => simp; omega
    intro v' w2 hown2 hg2 hnil
    have HO2 : Hid (Owns w2 base v' (xs ++ [T])) := Owns.push hown2
    have HB2 : Hid (Below base w1 w2) := Owns.pushed (Below.refl _ _) hbase HO.out hg2
    clear hown2 hg2 hnil
    go_wp2
    go_ret
    exact ⟨_, rfl, by rw [hk.out]; exact HO2, HB2⟩

/-- rising places from lo on, below hi. -/
def Asc : Nat → Nat → List Nat → Prop
  | lo, hi, [] => lo ≤ hi
  | lo, hi, c :: cs => lo ≤ c ∧ c < hi ∧ Asc (c + 1) hi cs
theorem Asc.mono {lo lo' hi : Nat} (h : lo' ≤ lo) : ∀ {cs : List Nat}, Asc lo hi cs → Asc lo' hi cs
  | [], h1 => Nat.le_trans h h1
  | _ :: _, h1 => ⟨Nat.le_trans h h1.1, h1.2⟩
theorem Asc.le {lo hi : Nat} : ∀ {cs : List Nat}, Asc lo hi cs → lo ≤ hi
  | [], h1 => h1
  | _ :: _, h1 => by have := h1.1; have := h1.2.1; omega
theorem cutsM_asc (sep : UInt8) : ∀ (l : List UInt8) (ms : List Bool) (a : Bool) (i : Nat), Asc i (i + l.length) (Sip.cutsM sep a i ms l)
  | [], [], _, _ => Nat.le_refl _
  | [], _ :: _, _, _ => Nat.le_refl _
  | c :: l, [], _, i => by simp only [Sip.cutsM, Asc]; omega
  | c :: l, m :: ms, a, i => by
    have ih := fun a => cutsM_asc sep l ms a (i + 1)
    have e : i + 1 + l.length = i + (c :: l).length := by rw [List.length_cons]; omega
    rw [e] at ih
    have nxt := fun a => (ih a).mono (Nat.le_succ i)
    simp only [Sip.cutsM]
    split
    · exact nxt _
    · split
      · exact nxt _
      · split
        · exact nxt _
        · split
          · exact ⟨Nat.le_refl _, by rw [List.length_cons]; omega, ih _⟩
          · exact nxt _
/-- the model's cuts of the whole of s. -/
def allCuts (sep : UInt8) (s : ByteArray) : List Nat := Sip.cutsM sep false 0 (Sip.mask false false s.data.toList) s.data.toList
def cutTodo (sep : UInt8) (s : ByteArray) (a : Bool) (k : Nat) : List Nat := Sip.cutsM sep a k ((Sip.mask false false s.data.toList).drop k) (s.data.toList.drop k)
theorem mask_drop (s : ByteArray) (k : Nat) (hm : k < (Sip.mask false false s.data.toList).length) :
    (Sip.mask false false s.data.toList).drop k = (Sip.mask false false s.data.toList)[k] :: (Sip.mask false false s.data.toList).drop (k + 1) := List.drop_eq_getElem_cons hm
theorem mask_len (s : ByteArray) : (Sip.mask false false s.data.toList).length = s.size := by rw [Sip.mask_length]; simp
theorem cutTodo_step (sep : UInt8) (s : ByteArray) (a : Bool) (k : Nat) (h : k < s.size) (m : Bool) (hm : (Sip.mask false false s.data.toList)[k]? = some m) :
    cutTodo sep s a k = if !m then cutTodo sep s a (k + 1)
      else if (s[k].toNat : Int) == 60 then cutTodo sep s true (k + 1)
      else if (s[k].toNat : Int) == 62 then cutTodo sep s false (k + 1)
      else if (s[k].toNat : Int) == (sep.toNat : Int) && !a then k :: cutTodo sep s a (k + 1)
      else cutTodo sep s a (k + 1) := by
  obtain ⟨h1, h2⟩ := List.getElem?_eq_some_iff.1 hm
  have e60 : (s[k] == 60) = ((s[k].toNat : Int) == 60) := beqI _ 60
  have e62 : (s[k] == 62) = ((s[k].toNat : Int) == 62) := beqI _ 62
  unfold cutTodo
  rw [mask_drop s k h1, h2, drop_cons s k h, Sip.cutsM, e60, e62, beqI s[k] sep]
theorem cutTodo_end (sep : UInt8) (s : ByteArray) (a : Bool) (k : Nat) (h : ¬ k < s.size) : cutTodo sep s a k = [] := by
  unfold cutTodo
  rw [drop_end s k (by omega), List.drop_eq_nil_of_le (by rw [mask_len]; omega)]
  rfl
theorem asc_all (sep : UInt8) (s : ByteArray) : Asc 0 s.size (allCuts sep s) := by
  have := cutsM_asc sep s.data.toList (Sip.mask false false s.data.toList) false 0
  rw [Nat.zero_add] at this
  have e : s.data.toList.length = s.size := by simp
  rwa [e] at this
theorem asc_len {lo hi : Nat} : ∀ {cs : List Nat}, Asc lo hi cs → lo + cs.length ≤ hi
  | [], h1 => h1
  | _ :: cs, h1 => by have := asc_len h1.2.2; have := h1.1; simp only [List.length_cons]; omega
theorem info3 : ∃ i0, Tryd.prog.info? 3 = some i0 ∧ i0.zero = some (.int .i64 0) ∧ i0.size = 1 ∧ i0.bytes = 8 := by
  have hi3 : (Tryd.prog.info? 3).map (fun i => (i.zero, i.size, i.bytes)) = some (some (.int .i64 0), 1, 8) := by kernel_rfl
  obtain ⟨i0, hi, hx⟩ := Option.map_eq_some_iff.1 hi3
  simp only [Prod.mk.injEq] at hx
  exact ⟨i0, hi, hx.1, hx.2.1, hx.2.2⟩
def N (k : Nat) : Value := .int .i64 k
/-- the slice of ints that the call itself fills. -/
def OwnsN (w : World) (base : Nat) (v : Value) (C : List Nat) : Prop := w.ownsRow base 3 1 v C.length (C.map N)
theorem OwnsN.push {w : World} {base : Nat} {v : Value} {C : List Nat} {k : Nat} (h : w.ownsRow base 3 1 v (C.length + 1) (C.map N ++ [.int .i64 k])) : OwnsN w base v (C ++ [k]) := by
  unfold OwnsN
  rw [List.length_append, List.map_append, List.map_cons, List.map_nil]
  exact h
theorem OwnsN.pushed {w wr w2 : World} {base : Nat} {v : Value} {C : List Nat} {o : Obj} (hb : Below base w wr) (hs : base ≤ wr.heap.size) (ho : OwnsN wr base v C) (hg : (wr.alloc o).grownBy w2 v.ownBlock) : Below base w w2 :=
  (hb.alloc hs _).grown hg (by simp; omega) (fun k e => (ho.lt k e).1)
theorem OwnsN.parts {w : World} {base : Nat} {v : Value} {C : List Nat} (h : OwnsN w base v C) : ∃ a cap, v = .slice a C.length cap ∧ ∀ k (_ : k < C.length), ∃ g, a = some ⟨g, 0, none⟩ ∧ g < w.heap.size ∧ w.cell? ⟨g, k, none⟩ = some (.int .i64 (C[k] : Nat)) := by
  rcases h.2 with ⟨hv, hn⟩ | ⟨g, cap, cur, hv, hb, hg, hnc, hcm, hcs, hcur⟩
  · exact ⟨none, 0, by rw [hv, hn], fun k hk => by omega⟩
  · refine ⟨some ⟨g, 0, none⟩, cap, hv, fun k hk => ⟨g, rfl, (Array.getElem?_eq_some_iff.1 hg).1, ?_⟩⟩
    have := World.ownsRow.cells h (g := g) (by rw [hv]; rfl) k (N C[k]) (by rw [List.getElem?_map, List.getElem?_eq_getElem hk]; rfl)
    rw [add_plain', Nat.zero_add] at this
    exact this

set_option maxHeartbeats 1000000 in
theorem splitModel_any (s : ByteArray) (sep : UInt8) (w : World) (hs : s.size ≤ 1048576) :
    Calls Tryd.prog 14 #[.string s, .int .u8 sep.toNat] w fun e w' => ∃ v, e = .returned v ∧ Holds w' v (Sip.splitM sep s.data.toList) ∧ Below w.heap.size w w' := by
  obtain ⟨i3, hi, hz0, hz1, hz2⟩ := info3
  have hml := mask_len s
  have HML : Hid ((Sip.mask false false s.data.toList).length = s.size) := hml
  clear hml
  have hcells : Hid (∀ k (h : k < s.size), ∃ m, (Sip.mask false false s.data.toList)[k]? = some m ∧ (w.alloc (.cells (arr (Sip.mask false false s.data.toList)) 4)).cell? ⟨w.heap.size, k, none⟩ = some (.bool m)) := by
    intro k h
    have h1 : k < (Sip.mask false false s.data.toList).length := by rw [HML.out]; exact h
    exact ⟨_, List.getElem?_eq_getElem h1, arr_cell w _ k h1⟩
  go_enter Tryd.func14, Tryd.ntmps14
  go_wp2_with fail
  refine (mask_any s _ hs).mono ?_
  rintro e w0 ⟨rfl, hw0⟩
  have hb0 : Below w.heap.size w w0 := by rw [hw0]; exact (Below.refl _ _).alloc (Nat.le_refl _) _
  have hg0 : w.heap.size < w0.heap.size := by rw [hw0]; simp
  have HB0 : Hid (Below w.heap.size w w0) := hb0
  clear hb0
  have HC : Hid (∀ k (h : k < s.size), ∃ m, (Sip.mask false false s.data.toList)[k]? = some m ∧ w0.cell? ⟨w.heap.size, k, none⟩ = some (.bool m)) := by rw [hw0]; exact hcells
  clear hcells hw0
  go_wp2
  go_loopw [6, 7, 8] (fun vc va vi wr => ∃ (k : Nat) (a : Bool) (C : List Nat), k ≤ s.size ∧ C.length ≤ k ∧ vi = .int .i64 k ∧ va = .bool a ∧ Hid (OwnsN wr w0.heap.size vc C) ∧ Hid (Below w0.heap.size w0 wr) ∧ Hid (allCuts sep s = C ++ cutTodo sep s a k))
    (fun _ _ i _ => s.size - (intOf i).toNat)
  case atStart => exact ⟨0, false, [], by omega, by simp, rfl, rfl, World.ownsRow_nil _ _ _ _, Below.refl _ _, rfl⟩
  case round =>
    obtain ⟨k, a, C, hk, hCl, rfl, rfl, HO, HB, HM⟩ := hrel
    have hbs := HB.out.size
    by_cases hlt : k < s.size
    · obtain ⟨m, hm, hcm⟩ := HC.out k hlt
      have hcr : wr.cell? ⟨w.heap.size, k, none⟩ = some (.bool m) := (HB.out.cell (p := ⟨w.heap.size, k, none⟩) hg0).trans hcm
      have HS : Hid (cutTodo sep s a k = if !m then cutTodo sep s a (k + 1)
        else if (s[k].toNat : Int) == 60 then cutTodo sep s true (k + 1)
        else if (s[k].toNat : Int) == 62 then cutTodo sep s false (k + 1)
        else if (s[k].toNat : Int) == (sep.toNat : Int) && !a then k :: cutTodo sep s a (k + 1)
        else cutTodo sep s a (k + 1)) := cutTodo_step sep s a k hlt m hm
      clear hm hcm
      have hki : (0 : Int) ≤ (k : Int) := by omega
      have hkl : (k : Int) < (s.size : Int) := by omega
      cases m
      · go_wp2
        go_roundw
        case rel => exact ⟨k + 1, a, C, by omega, by omega, by go_num, rfl, HO, HB, HM.out.trans (by rw [HS.out]; rfl)⟩
        case measure => simp [intOf]; omega
      · cases h60 : ((s[k].toNat : Int) == 60)
        · cases h62 : ((s[k].toNat : Int) == 62)
          · cases hsp : ((s[k].toNat : Int) == (sep.toNat : Int))
            · have HS2 : Hid (cutTodo sep s a k = cutTodo sep s a (k + 1)) := by unfold Hid; rw [HS.out, h60, h62, hsp]; rfl
              clear HS
              go_wp2
              go_roundw
              case rel => exact ⟨k + 1, a, C, by omega, by omega, by go_num, rfl, HO, HB, HM.out.trans (by rw [HS2.out])⟩
              case measure => simp [intOf]; omega
            · cases a
              · have HS2 : Hid (cutTodo sep s false k = k :: cutTodo sep s false (k + 1)) := by unfold Hid; rw [HS.out, h60, h62, hsp]; rfl
                clear HS
                go_wp2_with (at_builtin; refine wpList_append_own _ rfl _ _ 32 rfl w0.heap.size 3 i3 (.int .i64 0) 1 8 Tryd.underlying32 hi hz0 hz1 hz2 rfl (by decide) _ _ _ rfl (World.ownsRow.alloc HO.out _) ⟨wr.heap.size, 0, none⟩ 1 1 [.int .i64 k] rfl rfl ?c1 ?c2 ?c3 ?c4 ?c5 ?_)
                case c1 => exact cell_one_new _ _ _
                case c2 => intro u hu; simp at hu; subst hu; rfl
                case c3 => unfold maxLen; omega
                case c4 => omega
                case c5 => simp; omega
                intro v' w2 hown2 hg2 hnil
                have HO2 : Hid (OwnsN w2 w0.heap.size v' (C ++ [k])) := OwnsN.push hown2
                have HB2 : Hid (Below w0.heap.size w0 w2) := OwnsN.pushed HB.out hbs HO.out hg2
                clear hown2 hg2 hnil
                go_wp2
                go_roundw
                case rel => exact ⟨k + 1, false, C ++ [k], by omega, by simp; omega, by go_num, rfl, HO2, HB2, HM.out.trans (by rw [HS2.out, List.append_assoc]; rfl)⟩
                case measure => simp [intOf]; omega
              · have HS2 : Hid (cutTodo sep s true k = cutTodo sep s true (k + 1)) := by unfold Hid; rw [HS.out, h60, h62, hsp]; rfl
                clear HS
                go_wp2
                go_roundw
                case rel => exact ⟨k + 1, true, C, by omega, by omega, by go_num, rfl, HO, HB, HM.out.trans (by rw [HS2.out])⟩
                case measure => simp [intOf]; omega
          · have HS2 : Hid (cutTodo sep s a k = cutTodo sep s false (k + 1)) := by unfold Hid; rw [HS.out, h60, h62]; rfl
            clear HS
            go_wp2
            go_roundw
            case rel => exact ⟨k + 1, false, C, by omega, by omega, by go_num, rfl, HO, HB, HM.out.trans (by rw [HS2.out])⟩
            case measure => simp [intOf]; omega
        · have HS2 : Hid (cutTodo sep s a k = cutTodo sep s true (k + 1)) := by unfold Hid; rw [HS.out, h60]; rfl
          clear HS
          go_wp2
          go_roundw
          case rel => exact ⟨k + 1, true, C, by omega, by omega, by go_num, rfl, HO, HB, HM.out.trans (by rw [HS2.out])⟩
          case measure => simp [intOf]; omega
    · have HA : Hid (allCuts sep s = C) := by have := HM.out; rwa [cutTodo_end sep s a k hlt, List.append_nil] at this
      have hasc := asc_all sep s
      rw [HA.out] at hasc
      obtain ⟨ac, cc, hv6, hcc⟩ := HO.out.parts
      have HCC : Hid (∀ k (_ : k < C.length), ∃ g, ac = some ⟨g, 0, none⟩ ∧ g < wr.heap.size ∧ wr.cell? ⟨g, k, none⟩ = some (.int .i64 (C[k] : Nat))) := hcc
      have HAS : Hid (Asc 0 s.size C) := hasc
      have HSM : Hid (Sip.splitM sep s.data.toList = Sip.fin s.data.toList 0 C) := by unfold Hid Sip.splitM; rw [← HA.out]; rfl
      clear hasc hcc HO HC HA HM
      rw [hv6]
      clear hv6
      have HBw : Hid (Below w.heap.size w wr) := HB0.out.trans (HB.out.mono (by omega))
      clear HB HB0 hbs
      obtain ⟨wo, rfl⟩ : ∃ wo : World, wo = wr := ⟨_, rfl⟩
      go_wp2
      go_loopw [10, 11, 12] (fun vo vp vk wr => ∃ (j prev : Nat) (xs : List (List UInt8)), j ≤ C.length ∧ xs.length ≤ j ∧ vk = .int .i64 j ∧ vp = .int .i64 prev ∧ Hid (Owns wr wo.heap.size vo xs) ∧ Hid (Below wo.heap.size wo wr) ∧ Hid (Asc prev s.size (C.drop j)) ∧
          Hid (Sip.splitM sep s.data.toList = xs ++ Sip.fin s.data.toList prev (C.drop j)))
        (fun _ _ j _ => C.length - (intOf j).toNat)
      case atStart => exact ⟨0, 0, [], by omega, by simp, rfl, rfl, ⟨World.ownsRow_nil _ _ _ _, fun _ => rfl⟩, Below.refl _ _, HAS, HSM⟩
      case round =>
        clear HAS HSM
        obtain ⟨j, prev, xs, hj, hxl, rfl, rfl, HO, HB, HAS, HSM⟩ := hrel
        have hbs := HB.out.size
        have hpl := HAS.out.le
        by_cases hjl : j < C.length
        · obtain ⟨g, rfl, hg, hcg⟩ := HCC.out j hjl
          have hcr : wr.cell? ⟨g, j, none⟩ = some (.int .i64 (C[j] : Nat)) := (HB.out.cell (p := ⟨g, j, none⟩) hg).trans hcg
          have HD : Hid (C.drop j = C[j] :: C.drop (j + 1)) := List.drop_eq_getElem_cons hjl
          have hasc : Asc prev s.size (C[j] :: C.drop (j + 1)) := by have := HAS.out; rwa [HD.out] at this
          obtain ⟨hc1, hc2, hc3⟩ := hasc
          have HA2 : Hid (Asc (C[j] + 1) s.size (C.drop (j + 1))) := hc3
          have HF : Hid (Sip.fin s.data.toList prev (C.drop j) = Sip.keep (Sip.trim (cut s prev C[j])) ++ Sip.fin s.data.toList (C[j] + 1) (C.drop (j + 1))) := by unfold Hid; rw [HD.out]; rfl
          clear hcg hc3 HD HAS
          generalize C[j] = c at hcr hc1 hc2 HA2 HF
          have hkl := keep_le (Sip.trim (cut s prev c))
          have hcall : Hid (Calls Tryd.prog 22 #[u10, .string (s.extract prev c)] wr fun e w' => ∃ v', e = .returned v' ∧ Owns w' wo.heap.size v' (xs ++ Sip.keep (Sip.trim (cut s prev c))) ∧ Below wo.heap.size wr w') := by
            have := addTrimmed_any wo.heap.size u10 xs (s.extract prev c) wr HO.out (by omega) (by rw [ByteArray.size_extract]; omega) hbs
            rw [cut_extract] at this
            exact this
          have hji : (0 : Int) ≤ (j : Int) := by omega
          have hjk : (j : Int) < (C.length : Int) := by omega
          go_wp2_with fail
          refine (hcall.out).mono ?_
          rintro e w3 ⟨v', rfl, ho, hb⟩
          have hc3 : w3.cell? ⟨g, j, none⟩ = some (.int .i64 c) := (hb.cell (p := ⟨g, j, none⟩) hg).trans hcr
          have HO3 : Hid (Owns w3 wo.heap.size v' (xs ++ Sip.keep (Sip.trim (cut s prev c)))) := ho
          have HB3 : Hid (Below wo.heap.size wo w3) := HB.out.trans hb
          clear ho hb hcr hcall HO HB
          go_wp2
          go_roundw
          case rel => exact ⟨j + 1, c + 1, _, by omega, by rw [List.length_append]; omega, by go_num, by go_num, HO3, HB3, HA2, HSM.out.trans (by rw [HF.out, List.append_assoc])⟩
          case measure => simp [intOf]; omega
        · have HF : Hid (Sip.fin s.data.toList prev (C.drop j) = Sip.keep (Sip.trim (cut s prev s.size))) := by
            unfold Hid; rw [List.drop_eq_nil_of_le (by omega), cut_all]; rfl
          have hcall : Hid (Calls Tryd.prog 22 #[u10, .string (s.extract prev s.size)] wr fun e w' => ∃ v', e = .returned v' ∧ Owns w' wo.heap.size v' (xs ++ Sip.keep (Sip.trim (cut s prev s.size))) ∧ Below wo.heap.size wr w') := by
            have := addTrimmed_any wo.heap.size u10 xs (s.extract prev s.size) wr HO.out (by omega) (by rw [ByteArray.size_extract]; omega) hbs
            rw [cut_extract] at this
            exact this
          go_wp2_with (go_at_call 22; refine (hcall.out).mono ?_; rintro e w3 ⟨v', rfl, ho, hb⟩)
          go_ret
          exact ⟨v', rfl, by rw [HSM.out, HF.out]; exact ho.holds, HBw.out.trans ((HB.out.trans hb).mono HBw.out.size)⟩
end Go.Proofs.Qxb6603950aDoor
