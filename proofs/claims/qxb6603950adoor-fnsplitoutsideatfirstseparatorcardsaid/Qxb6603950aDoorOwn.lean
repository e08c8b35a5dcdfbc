import Derived.Test.Qxb6603950aDoorTrimWalk
import Derived.Test.Qxb6603950aDoorShelf
import Derived.Shelf.Unicode.PredsPay
namespace Go.Proofs.Qxb6603950aDoor
open Go.RowKit

/-- a string value off its bytes. -/
def S (l : List UInt8) : Value := .string ⟨l.toArray⟩
/-- the slice v holds xs in a row of the call's own, from block 'base' on; nil where it holds nothing. -/
def Owns (w : World) (base : Nat) (v : Value) (xs : List (List UInt8)) : Prop :=
  w.ownsRow base 9 1 v xs.length (xs.map S) ∧ (xs = [] → v = .slice none 0 0)
/-- the library's tables lie as they were laid. -/
def Tabs (w : World) : Prop := Lib.TabIs Tryd.prog w "strings.asciiSpace" .u8 Lib.asciiSpaceTab ∧ Lib.Utf8Tabs 3 4 w ∧ Lib.WhiteTab 2 w
theorem Tabs.below {w w' : World} (h : Tabs w) (hb : Below w.heap.size w w') : Tabs w' :=
  ⟨TabIs_below Tryd.Space_Extra_163.gNamed h.1 hb, Utf8Tabs_below h.2.1 hb, WhiteTab_below h.2.2 hb⟩
theorem grown_of_below {w w' : World} (h : Below w.heap.size w w') : w.grownBy w' none := ⟨h.os, h.tape, h.output, h.size, fun k hk _ => h.block k hk⟩
theorem Owns.below {w w' : World} {base : Nat} {v : Value} {xs : List (List UInt8)} (h : Owns w base v xs) (hb : Below w.heap.size w w') : Owns w' base v xs :=
  ⟨h.1.kept (grown_of_below hb) (by
    by_cases e : v.ownBlock = none
    · exact Or.inl e
    · exact Or.inr e), h.2⟩
theorem S_empty (T : List UInt8) : (⟨T.toArray⟩ : ByteArray).toList.isEmpty = T.isEmpty := by
  rw [ByteArray.toList_eq]

set_option maxHeartbeats 1000000 in
theorem appendTrimmed_any (base : Nat) (v : Value) (xs : List (List UInt8)) (s : ByteArray) (w : World) (hown : Owns w base v xs) (hlen : xs.length ≤ 1048576) (hT : Tabs w) (hs : s.size ≤ 1048576) (hbase : base ≤ w.heap.size) :
    Calls Tryd.prog 26 #[v, .string s] w fun e w' => ∃ v', e = .returned v' ∧ Owns w' base v' (xs ++ Sip.keep (Sip.trim s.data.toList)) ∧ Below base w w' := by
  have hi9 : (Tryd.prog.info? 9).map (fun i => (i.zero, i.size, i.bytes)) = some (some (.string ByteArray.empty), 1, 16) := by kernel_rfl
  obtain ⟨i0, hi, hx⟩ := Option.map_eq_some_iff.1 hi9
  simp only [Prod.mk.injEq] at hx
  obtain ⟨hz0, hz1, hz2⟩ := hx
  clear hi9
  have hcall : Hid (Calls Tryd.prog 28 #[.string s] w fun e w' => e = .returned (S (Sip.trim s.data.toList)) ∧ Below w.heap.size w w') :=
    Tryd.strings_TrimSpace_any s w (by omega) hT.1 hT.2.1 hT.2.2
  generalize Sip.trim s.data.toList = T at hcall ⊢
  have HO : Hid (Owns w base v xs) := hown
  have HT : Hid (Tabs w) := hT
  clear hown hT
  have he := S_empty T
  unfold S at hcall
  by_cases h0 : T = []
  · subst h0
    have hk : Sip.keep [] = [] := rfl
    rw [hk, List.append_nil]
    go_enter Tryd.func26, Tryd.ntmps26
    go_wp2_with (go_at_call 28; refine (hcall.out).mono ?_; rintro e w1 ⟨rfl, hb⟩)
    go_ret
    exact ⟨_, rfl, HO.out.below hb, hb.mono hbase⟩
  · have hk : Hid (Sip.keep T = [T]) := by unfold Hid Sip.keep; rw [if_neg h0]
    have hte : T.isEmpty = false := by simpa using h0
    go_enter Tryd.func26, Tryd.ntmps26
    go_wp2_with fail
    refine (hcall.out).mono ?_
    rintro e w1 ⟨rfl, hb⟩
    have hown1 := HO.out.below hb
    have HO1 : Hid (Owns w1 base v xs) := hown1
    have hbs := hb.size
    clear hown1 HO
    go_wp2_with (at_builtin; refine wpList_append_own _ rfl _ _ 26 rfl base 9 i0 (.string ByteArray.empty) 1 16 Tryd.underlying26 hi hz0 hz1 hz2 rfl (by decide) _ _ _ rfl (HO1.out.1.alloc _) ⟨w1.heap.size, 0, none⟩ 1 1 [.string ⟨T.toArray⟩] rfl rfl ?c1 ?c2 ?c3 ?c4 ?c5 ?_)
    case c1 => exact cell_one_new _ _ _
    case c2 => intro u hu; simp at hu; subst hu; rfl
    case c3 => unfold maxLen; omega
    case c4 => omega
    case c5 => simp; omega
    intro v' w2 hown2 hg2 hnil
    go_wp2
    go_ret
    refine ⟨_, rfl, ⟨?_, ?_⟩, ?_⟩
    · rw [hk.out]; simpa [S] using hown2
    · rw [hk.out]; intro h; simp at h
    · refine ((hb.mono hbase).alloc (by omega) _).grown hg2 (by simp; omega) ?_
      intro k e
      exact (HO1.out.1.lt k e).1
end Go.Proofs.Qxb6603950aDoor
