import Derived.Test.Qxb6604184aDoorTop
import Derived.Test.Qxb6604184aDoorTie
import Derived.Test.Qxb6604184aDoorCards
import Derived.Lib.LaidU8
import Derived.ProofKit
import Derived.SliceStrings
import Derived.ShutString
import Derived.LaidMore
import Derived.Lay
import Derived.SevenTiedAt
import Derived.Stop.Joined
namespace Go.Proofs.Qxb6604184aDoor
open Go.ChangeShapes Go.WideShapes Go.ChangeAt Go.RowKit
open Go.ChangeMaps (open_string shut_string)

theorem own : ownKnob Tryd.prog.godebug = none := by kernel_rfl
theorem laidOut : laidOutB Tryd.prog = true := by kernel_rfl
theorem cells9 : Tryd.prog.cellsOf 9 = 1 := by kernel_rfl

/-- the wrap for a row that lists variables, the world's shape kept. -/
theorem wrap_and_shaped {H : Type} {enc : TypeId × Value → H} {a : Assume} {C : Checked} {os : Os} {f : FuncId} {fn : Func} {s : ChangeSpec} {conds : List PathCond} {apart fresh handsOn again : Bool} {X : World → Array Value → Prop}
    (hX : ∀ (w w' : World) (args : Array Value), w.heap = w'.heap → X w args → X w' args)
    (own : ownKnob C.prog.godebug = none) (started : os.Started) (noInit : C.prog.inits.idxOf? f = none) (hfn : C.prog.funcs[f]? = some fn)
    (witness : ∃ (w : World) (tape : Tape) (i : Input), w.os = os ∧ (w.forCall tape i).Shaped C.prog ∧ i.vars = [] ∧ Input.okWide C.prog (w.forCall tape i) .any w.heap.size f i ∧
      ((s.pre enc C.prog fn conds apart (w.forCall tape i).memory i.args ∧ X (w.forCall tape i).memory i.args) ∧ sizedMet enc C.prog fn (OpenSpec.ofChange s) apart (w.forCall tape i).memory i.args) ∧ a.holds C.prog (lone (Frame.enter C.prog f i.args .normal) [] (w.forCall tape i)))
    (contract : ∀ (W : World) (base : Nat) (args : Array Value) (ds gs : List (DataW H)) (before : List MemPlace),
      (∀ (j : Nat) t v, fn.params[j]? = some t → args[j]? = some v → Value.okWide C.prog W .any base t v) →
      DataW.Whole enc C.prog fn.params.toList s.vars apart W args.toList ds gs before →
      X W args → W.ShapedOpen C.prog →
      Calls C.prog f args W fun e W' => ∃ v, e = .returned v ∧ s.post enc C.prog fn apart fresh handsOn again W args v W') :
    ReturnsInHanded a C os f .any (fun w args => (s.pre enc C.prog fn conds apart w args ∧ X w args) ∧ sizedMet enc C.prog fn (OpenSpec.ofChange s) apart w args) (s.post enc C.prog fn apart fresh handsOn again) := by
  refine returnsInHanded_of_calls own started noInit witness ?_
  intro w tape i _ hsh _ hok hpre _
  obtain ⟨_, _, _, fn', hfn', _, _, _, _, hval⟩ := hok
  have e : fn' = fn := Option.some.inj (hfn'.symm.trans hfn)
  subst e
  obtain ⟨⟨⟨ds, gs, before, hw, _⟩, hx⟩, _⟩ := hpre
  have hw' := DataW.Whole.of_heap (w' := w.forCall tape i) (by rfl) hw
  refine (contract (w.forCall tape i) w.heap.size i.args ds gs before hval hw' (hX _ _ _ (by rfl) hx) hsh).mono fun e W' ⟨v, he, hp⟩ => ?_
  subst he
  exact ChangeSpec.post_blind hp

theorem cell_lt {w : World} {a : Addr} {v : Value} (h : w.cell? a = some v) : a.block < w.heap.size := by
  rcases Nat.lt_or_ge a.block w.heap.size with h1 | h1
  · exact h1
  · simp [World.cell?, Array.getElem?_eq_none h1] at h

/-- a []string that came in, nil or not, as the walk wants it. -/
theorem open_arg {H : Type} {enc : TypeId × Value → H} {W : World} {a0 : Option Addr} {len cap fuel : Nat} {x : DataW H × List MemPlace}
    (hf : DataW.trod enc Tryd.prog W 0 (fun _ => true) true fuel 22 [.slice a0 len cap] = some x) :
    ∃ xs : List ByteArray, xs.length = len ∧ Reads W a0 xs ∧ len ≤ maxLen := by
  rcases open_strings Tryd.underlying22 Tryd.underlying9 cells9 hf with ⟨hcs, hx⟩ | ⟨a, len', cap', ss, hcs, _, hl, hm, hz, hx, hcell, _⟩
  · simp at hcs
    obtain ⟨rfl, rfl, rfl⟩ := hcs
    exact ⟨[], rfl, fun k hk => by simp at hk, Nat.zero_le _⟩
  · simp at hcs
    obtain ⟨rfl, rfl, rfl⟩ := hcs
    simp only [if_true] at hz
    obtain ⟨b, off, spot⟩ := a
    refine ⟨ss.take len, by simp; omega, fun k hk => ?_, by omega⟩
    have hkl : k < len := by simp at hk; omega
    have hspot : spot = none := by simpa [Addr.add] using World.cell?_spot (hcell 0 (by omega))
    subst hspot
    have hc := hcell k (by omega)
    rw [add_plain'] at hc
    have hX : ss.getD k ByteArray.empty = (ss.take len)[k] := by
      rw [List.getElem_take, List.getD_eq_getElem?_getD, List.getElem?_eq_getElem (by omega)]
      rfl
    rw [hX] at hc
    exact ⟨b, off, rfl, cell_lt hc, hc⟩

/-- the two listed sentinels give what ParseUint's contracts ask. -/
theorem errs_of_laid {W : World} (h : laidMetH Tryd.prog Rows.fnSubstituteMatchesAScannerRow.laid W) : IsErr W 0 ∧ IsErr W 1 := by
  rw [MakeChecks.laidMetH_plain _ _ _ (by kernel_rfl)] at h
  have r1 := Lib.laidMet.reads h (d := Rows.laid_strconv_ErrRange) (.tail _ (.tail _ (.tail _ (.tail _ (.head _)))))
  have r0 := Lib.laidMet.reads h (d := Rows.laid_strconv_ErrSyntax) (.tail _ (.tail _ (.tail _ (.tail _ (.tail _ (.head _))))))
  refine ⟨?_, ?_⟩
  · obtain ⟨g, t, cs, fuel, p, hg, hty, hvar, hd⟩ := r0
    obtain rfl := Option.some.inj ((show Tryd.prog.globalNamed "strconv.ErrSyntax" = some 0 by kernel_rfl).symm.trans hg)
    obtain rfl := Option.some.inj ((show (Tryd.prog.globals[0]?).map (·.type) = some 35 by kernel_rfl).symm.trans hty)
    obtain ⟨_, u, v, hcs, _, _⟩ := iface_of_trod Tryd.underlying35 hd
    have hc := World.var?_cell hg hvar 0
    rw [Array.eq_one_of_toList hcs] at hc
    have hc' : W.cell? ⟨0, 0, none⟩ = some (.iface u v) := by simpa using hc
    exact ⟨cell_lt hc', _, hc', Or.inr ⟨u, v, rfl⟩⟩
  · obtain ⟨g, t, cs, fuel, p, hg, hty, hvar, hd⟩ := r1
    obtain rfl := Option.some.inj ((show Tryd.prog.globalNamed "strconv.ErrRange" = some 1 by kernel_rfl).symm.trans hg)
    obtain rfl := Option.some.inj ((show (Tryd.prog.globals[1]?).map (·.type) = some 35 by kernel_rfl).symm.trans hty)
    obtain ⟨_, u, v, hcs, _, _⟩ := iface_of_trod Tryd.underlying35 hd
    have hc := World.var?_cell hg hvar 0
    rw [Array.eq_one_of_toList hcs] at hc
    have hc' : W.cell? ⟨1, 0, none⟩ = some (.iface u v) := by simpa using hc
    exact ⟨cell_lt hc', _, hc', Or.inr ⟨u, v, rfl⟩⟩

set_option maxRecDepth 100000 in
theorem lifted (os : Os) (started : os.Started) (H : Type) (enc : TypeId × Value → H) :
    ReturnsInHanded {} Tryd.checked os 3 .any (fun w args => (Rows.fnSubstituteMatchesAScannerSpec.pre enc Tryd.prog Tryd.f3 Rows.fnSubstituteMatchesAScannerRow.domain false w args ∧ laidMetH Tryd.prog Rows.fnSubstituteMatchesAScannerRow.laid w) ∧ sizedMet enc Tryd.prog Tryd.f3 (OpenSpec.ofChange Rows.fnSubstituteMatchesAScannerSpec) false w args)
      (Rows.fnSubstituteMatchesAScannerSpec.post enc Tryd.prog Tryd.f3 false true false false) := by
  refine wrap_and_shaped (C := Tryd.checked) (X := fun w _ => laidMetH Tryd.prog Rows.fnSubstituteMatchesAScannerRow.laid w) (fun _ _ _ hh h => h.of_heap hh) own started (by kernel_rfl) Tryd.func3
    (ChangeSpec.witness_shaped (enc := enc) (C := Tryd.checked) (os := os) (X := fun w _ => laidMetH Tryd.prog Rows.fnSubstituteMatchesAScannerRow.laid w) false (World.laidAll Tryd.prog os Rows.fnSubstituteMatchesAScannerRow.laid) #[.string ByteArray.empty, .slice none 0 0] 8 (World.laidAll_os _ _ _)
      (World.shaped_of_ZipB (by kernel_rfl) (by kernel_rfl)) (by kernel_rfl) (by kernel_rfl) (by kernel_rfl)
      (by rw [MakeChecks.laidMetH_plain _ _ _ (by kernel_rfl)]; exact laidMet_laidAll _ (by kernel_rfl) (by kernel_rfl))) ?_
  intro W base args ds gs before hval0 hW hL hsh
  have hval : ∀ (j : Nat) t v, Tryd.f3.params[j]? = some t → args[j]? = some v → Value.okWide Tryd.prog W .any base t v := hval0
  have hW' := hW
  obtain ⟨p, q, hA0, hV, rfl, _, _⟩ := hW
  have hA : DataW.TrodAll enc Tryd.prog W 0 (fun _ => true) true Tryd.f3.params.toList args.toList ds p := hA0
  rw [Tryd.params3] at hA hval
  obtain ⟨v0, v1, d0, d1, p0, p1, rfl, rfl, rfl, h0, h1⟩ := trodAll_two hA
  obtain ⟨rfl, rfl⟩ := trodVars_none hV
  obtain ⟨s, rfl, rfl, rfl, ws⟩ := open_string Tryd.underlying9 (hval 0 9 v0 rfl rfl) h0
  obtain ⟨a0, len, cap, rfl⟩ := okWide_slice Tryd.underlying22 (hval 1 22 v1 rfl rfl)
  have h1k := h1
  obtain ⟨fuel1, hf1⟩ := h1
  clear hA0 hval0
  simp only [List.append_nil, List.nil_append] at hW'
  have hlt : ∀ x ∈ p1, x.block < W.heap.size := fun x hx => by simpa using hW'.lt x hx
  obtain ⟨xs, rfl, hrd, hln⟩ := open_arg hf1
  obtain ⟨hE, hR⟩ := errs_of_laid hL
  obtain ⟨m, hm⟩ := Tryd.maxLen_cell W hsh
  unfold maxLen at ws hln
  refine (top_any s a0 cap xs m W (by omega) (by omega) hrd hm (cell_lt hm) hE hR).mono fun e W' ⟨he, bel⟩ => ?_
  subst he
  exact ⟨_, rfl, _, _, _, [], p1, [], hW', trodAll_mk1 (shut_bool Tryd.underlying4 _), trodAll_mk2 (shut_string Tryd.underlying9 ws) (Below.trod laidOut (by kernel_rfl) (of_decide_eq_true (by kernel_rfl)) h1k bel hlt), rfl, bel.frame _, fun h => by cases h⟩

theorem holds : Rows.FnSubstituteMatchesAScannerSaid :=
  OpenClaim.holds_of_wide 3 Tryd.f3 rfl rfl rfl rfl rfl rfl rfl ⟨rfl, rfl, rfl, rfl, rfl⟩ rfl rfl rfl rfl rfl (by kernel_rfl) Tryd.func3 (by kernel_rfl)
    (of_decide_eq_true (by kernel_rfl)) (by unfold Func.isWrapper; first | (rw [if_pos (by decide +kernel)]; kernel_rfl) | (rw [if_neg (by decide +kernel)]; exact ⟨rfl, rfl⟩))
    (fun os started H enc _ => lifted os started H enc)
theorem card_holds : Rows.FnSubstituteMatchesAScannerCardSaid :=
  Claim7.holds_tied_plain_at .later [] [.data, .data, .data, .data, .sentinel, .sentinel, .pinned] true (true, "acead0eaf52ed04c765b0e241ebc3ea41d48f77bad2a403f2e735de64fc11370") true holds (fun _ h => by cases h) (by kernel_rfl) (fun _ h => by cases h) fnSubstituteMatchesAScanner_row_tie rfl ⟨rfl, rfl⟩ (by kernel_rfl) rfl
    (fun f fn hf hfn => by
      obtain rfl : f = 3 := Option.some.inj ((show Tryd.prog.funcNamed Rows.fnSubstituteMatchesAScannerRow.func = some 3 by kernel_rfl).symm.trans hf) |>.symm
      obtain rfl : fn = Tryd.f3 := (Option.some.inj (Tryd.func3.symm.trans hfn)).symm
      exact ⟨by kernel_rfl, fun j t ht => by
        rw [Tryd.params3] at ht
        have hm : t ∈ [9, 22] := by simpa using Array.mem_of_getElem? ht
        have hall : ([9, 22].all fun u => !Tryd.prog.wantsStandIn u) = true := by kernel_rfl
        exact (show Tryd.prog.wantsStandIn t = false by simpa using List.all_eq_true.1 hall t hm)⟩)
    (by kernel_rfl)
end Go.Proofs.Qxb6604184aDoor
