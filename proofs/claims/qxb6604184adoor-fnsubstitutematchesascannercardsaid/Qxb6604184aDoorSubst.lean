import Derived.Test.Qxb6604184aDoorClone
import Derived.Test.Qxb6604184aDoorParts
import Derived.Test.Qxb6604184aDoorShelf
namespace Go.Proofs.Qxb6604184aDoor
open Go.RowKit

/-- the bytes of each. -/
def raws (xs : List ByteArray) : List (List UInt8) := xs.map (·.data.toList)
theorem raws_length (xs : List ByteArray) : (raws xs).length = xs.length := by simp [raws]
theorem raws_get (xs : List ByteArray) (k : Nat) (h : k < xs.length) : (raws xs)[k]? = some xs[k].data.toList := by simp [raws, h]
theorem raws_set (xs : List ByteArray) (k : Nat) (X : ByteArray) : raws (xs.set k X) = (raws xs).set k X.data.toList := by simp [raws, List.map_set]
/-- text and flag as the functions hand them back. -/
def ans : Option (List UInt8) → Value
  | some x => .tuple #[.string ⟨x.toArray⟩, .bool true]
  | none => .tuple #[.string ⟨#[]⟩, .bool false]
/-- a row of strings of the call's own, at block b. -/
def Row (w : World) (b : Nat) (M : List ByteArray) : Prop :=
  b < w.heap.size ∧ ∀ j (h : j < M.length), w.cell? ⟨b, j, none⟩ = some (.string M[j]) ∧ w.frozen? ⟨b, j, none⟩ = false
theorem Row.below {w w' : World} {b : Nat} {M : List ByteArray} (h : Row w b M) (hb : Below w.heap.size w w') : Row w' b M :=
  ⟨Nat.lt_of_lt_of_le h.1 hb.size, fun j hj => ⟨(hb.cell (p := ⟨b, j, none⟩) h.1).trans (h.2 j hj).1, (hb.frozen (p := ⟨b, j, none⟩) h.1).trans (h.2 j hj).2⟩⟩
theorem Row.set {w : World} {b : Nat} {M : List ByteArray} (h : Row w b M) (k : Nat) (hk : k < M.length) (X : ByteArray) : Row (w.setCell ⟨b, k, none⟩ (.string X)) b (M.set k X) := by
  refine ⟨?_, fun j hj => ?_⟩
  · have hs : (w.setCell ⟨b, k, none⟩ (.string X)).heap.size = w.heap.size := by simp
    rw [hs]; exact h.1
  · rw [List.length_set] at hj
    refine ⟨?_, by rw [World.frozen?_setCell]; exact (h.2 j hj).2⟩
    by_cases e : k = j
    · subst e
      rw [List.getElem_set_self]
      exact World.cell?_setCell_same _ _ _ (h.2 k hk).1
    · rw [List.getElem_set_ne e, World.cell?_setCell_other _ _ _ _ (by intro h; injection h with _ h2 _; exact e h2)]
      exact (h.2 j hj).1
theorem row_made (w : World) (M : List ByteArray) : Row (w.alloc (.cells (sarr M) 9)) w.heap.size M :=
  ⟨by simp, fun j hj => ⟨sarr_cell w M j hj, by simp⟩⟩
/-- the library's two errors lie in their variables. -/
def IsErr (w : World) (g : Nat) : Prop := g < w.heap.size ∧ ∃ e, w.cell? ⟨g, 0, none⟩ = some e ∧ (e = .nilIface ∨ ∃ te pe, e = .iface te pe)
theorem IsErr.below {w w' : World} {g : Nat} (h : IsErr w g) (hb : Below w.heap.size w w') : IsErr w' g := by
  obtain ⟨h1, e, h2, h3⟩ := h
  exact ⟨Nat.lt_of_lt_of_le h1 hb.size, e, (hb.cell (p := ⟨g, 0, none⟩) h1).trans h2, h3⟩
/-- the pieces of t at the NULs. -/
def pieces (t : ByteArray) : List ByteArray := Lib.splitB ⟨#[0]⟩ 0 (Lib.countB t ⟨#[0]⟩) t
theorem pieces_length (s : ByteArray) : (pieces s).length = Lib.countB s ⟨#[0]⟩ + 1 := Lib.splitB_all ⟨#[0]⟩ (by decide) 0 _ s rfl
theorem pieces_length_le (s : ByteArray) : (pieces s).length ≤ s.size + 1 := by
  have := Lib.countB_le ⟨#[0]⟩ (by decide) s.size s (Nat.le_refl _)
  rw [pieces_length]; omega
theorem piece_le (sep : ByteArray) : ∀ (k : Nat) (s id : ByteArray), id ∈ Lib.splitB sep 0 k s → id.size ≤ s.size
  | 0, s, id, h => by
    rw [Lib.splitB_zero, List.mem_singleton] at h
    rw [h]; exact Nat.le_refl _
  | k + 1, s, id, h => by
    unfold Lib.splitB at h
    split at h
    · rw [List.mem_singleton] at h
      rw [h]; exact Nat.le_refl _
    · rcases List.mem_cons.1 h with h | h
      · rw [h, ByteArray.size_extract]; omega
      · have := piece_le sep k _ id h
        rw [ByteArray.size_extract] at this
        omega
theorem pieces_raw (t : ByteArray) : raws (pieces t) = Sub.splitL 0 t.data.toList := by
  rw [← Sub.splitK_splitL 0 t.data.toList]
  exact Lib.splitB_data ⟨#[0]⟩ 0 (Lib.countB t ⟨#[0]⟩) t
/-- every string of the row is short. -/
def Short (M : List ByteArray) : Prop := ∀ x ∈ M, x.size ≤ 1048576
theorem Short.set {M : List ByteArray} (h : Short M) (k : Nat) {X : ByteArray} (hX : X.size ≤ 1048576) : Short (M.set k X) := fun x hx => by
  rcases List.mem_or_eq_of_mem_set hx with h1 | rfl
  · exact h x h1
  · exact hX
theorem join_le {M : List ByteArray} (h : Short M) (hl : M.length ≤ 1048577) : (Lib.join (M.map (·.data.toList)) (⟨#[]⟩ : ByteArray).data.toList).length ≤ 140737488355328 := by
  have e : (⟨#[]⟩ : ByteArray).data.toList = [] := rfl
  rw [e, Sub.join_flat]
  have := Sub.flat_le 1048576 (M.map (·.data.toList)) (fun x hx => by
    obtain ⟨y, hy, rfl⟩ := List.mem_map.1 hx
    have := h y hy
    rw [Lib.size_eq] at this
    exact this)
  rw [List.length_map] at this
  have h2 : M.length * 1048576 ≤ 1048577 * 1048576 := Nat.mul_le_mul_right _ hl
  omega

set_option maxHeartbeats 1000000 in
theorem substitute_any (t : ByteArray) (a : Option Addr) (cap : Nat) (xs : List ByteArray) (m : Int) (w : World) (ht : t.size ≤ 1048576) (hl : xs.length ≤ 1048576) (hx : Short xs) (hr : Reads w a xs)
    (hm : w.cell? ⟨2, 0, none⟩ = some (.int .i64 m)) (hE : IsErr w 0) (hR : IsErr w 1) :
    Calls Tryd.prog 12 #[.string t, .slice a xs.length cap] w fun e w' => e = .returned (ans (Sub.subE (raws xs) (Sub.splitL 0 t.data.toList))) ∧ Below w.heap.size w w' := by
  rw [← pieces_raw]
  have hP := pieces_length_le t
  have hPS : Short (pieces t) := fun x hx => Nat.le_trans (piece_le _ _ _ _ hx) ht
  have hcall : Hid (Calls Tryd.prog 13 #[.string t, .string ⟨#[0]⟩] w fun e w' => e = .returned (.slice (some ⟨w.heap.size, 0, none⟩) (pieces t).length (pieces t).length) ∧ w' = w.alloc (.cells (sarr (pieces t)) 9)) := by
    have := Tryd.split_at t ⟨#[0]⟩ m w (by omega) hm (by decide)
    rw [← pieces_length] at this
    exact this
  generalize pieces t = P at hP hPS hcall ⊢
  have HX : Hid (Short xs) := hx
  have HPS : Hid (Short P) := hPS
  have HR : Hid (Reads w a xs) := hr
  have HE : Hid (IsErr w 0 ∧ IsErr w 1) := ⟨hE, hR⟩
  clear hx hPS hr hm hE hR
  by_cases heven : P.length % 2 = 0
  · have hres : Hid (Sub.subE (raws xs) (raws P) = none) := Sub.subE_even (raws xs) (P.length / 2) (raws P) (by rw [raws_length]; omega)
    have hb0 : (((P.length : Int) % 2) == 0) = true := by rw [beq_iff_eq]; omega
    go_enter Tryd.func12, Tryd.ntmps12
    go_wp2_with (go_at_call 13; refine (hcall.out).mono ?_; rintro e w1 ⟨rfl, rfl⟩)
    go_ret2
    exact ⟨by rw [hres.out]; rfl, (Below.refl _ _).alloc (Nat.le_refl _) _⟩
  · have hb0 : (((P.length : Int) % 2) == 0) = false := by rw [beq_eq_false_iff_ne]; omega
    go_enter Tryd.func12, Tryd.ntmps12
    go_wp2_with fail
    refine (hcall.out).mono ?_
    rintro e w0 ⟨rfl, hw0⟩
    have hrow : Row w0 w.heap.size P := by rw [hw0]; exact row_made w P
    have hbel : Below w.heap.size w w0 := by rw [hw0]; exact (Below.refl _ _).alloc (Nat.le_refl _) _
    have HR0 : Hid (Row w0 w.heap.size P) := hrow
    have HB0 : Hid (Below w.heap.size w w0) := hbel
    clear hw0 hrow hbel hcall
    go_wp2
    go_loopw [7] (fun vi wr => ∃ (i k : Nat) (M : List ByteArray), i ≤ P.length ∧ vi = .int .i64 i ∧ Hid (i = 2 * k + 1) ∧ Hid (Row wr w.heap.size M) ∧ Hid (Below w.heap.size w wr) ∧ Hid (Short M) ∧ Hid (Sub.St (raws xs) (raws P) (raws M) k) ∧ Hid (M.length = P.length))
      (fun i _ => P.length + 2 - (intOf i).toNat)
    case atStart => exact ⟨1, 0, P, by omega, rfl, rfl, HR0, HB0, HPS, Sub.St.start _ _, rfl⟩
    case round =>
      clear HR0 HB0 HPS
      obtain ⟨i, k, M, hi, rfl, HI, HRow, HB, HS, HSt, HML⟩ := hrel
      by_cases hlt : i < P.length
      · have hiM : i < M.length := by rw [HML.out]; exact hlt
        have hic : (i : Int) < (P.length : Int) := by omega
        have hk1 : 2 * k + 1 < (raws P).length := by rw [raws_length, ← HI.out]; exact hlt
        have HXP : Hid ((raws P)[2 * k + 1] = M[i].data.toList) := by
          have h1 := HSt.out.mark
          have e : (raws M)[2 * k + 1]? = (raws M)[i]? := by rw [HI.out]
          rw [List.getElem?_eq_getElem hk1, e, raws_get M i hiM] at h1
          exact (Option.some.inj h1).symm
        have hcell := (HRow.out.2 i hiM).1
        have hXs := HS.out M[i] (List.getElem_mem hiM)
        have hbl := HRow.out.1
        generalize M[i] = X at HXP hcell hXs
        by_cases hok : ∃ u, Lib.parseUintB 32 X.data.toList = .ok u
        · obtain ⟨u, hu⟩ := hok
          have HC : Hid (Calls Tryd.prog 14 #[.string X, .int .i64 10, .int .i64 32] wr fun e w' => e = .returned (.tuple #[.int .u64 u, .nilIface]) ∧ Below wr.heap.size wr w') := Tryd.parseUint_ok X (by omega) u hu wr
          have HN : Hid (Sub.num (raws xs) (raws P)[2 * k + 1] = (raws xs)[u]?) := by unfold Hid; rw [HXP.out]; exact Sub.num_ok _ _ u hu
          clear hu
          by_cases hul : u < xs.length
          · have HN2 : Hid (Sub.St (raws xs) (raws P) ((raws M).set (2 * k + 1) xs[u].data.toList) (k + 1)) := HSt.out.next hk1 (by rw [HN.out]; exact raws_get xs u hul)
            have hYs := HX.out xs[u] (List.getElem_mem hul)
            obtain ⟨b, off, rfl, hb, hc⟩ := HR.out u hul
            have hcu : (u : Int) < (xs.length : Int) := by omega
            clear HN HXP
            generalize xs[u] = Y at HN2 hYs hc
            have hi2 : i + 2 ≤ P.length := by have := HI.out; omega
            go_wp2_with fail
            refine (HC.out).mono ?_
            rintro e w1 ⟨rfl, hb1⟩
            have hrow1 : Row w1 w.heap.size M := HRow.out.below hb1
            have hbel1 : Below w.heap.size w w1 := HB.out.trans (hb1.mono HB.out.size)
            have hc1 : w1.cell? ⟨b, off + u, none⟩ = some (.string Y) := (hbel1.cell (p := ⟨b, off + u, none⟩) hb).trans hc
            have hp1 := (hrow1.2 i hiM).1
            have hf1 := (hrow1.2 i hiM).2
            have HR2 : Hid (Row (w1.setCell ⟨w.heap.size, i, none⟩ (.string Y)) w.heap.size (M.set i Y)) := hrow1.set i hiM Y
            have HB2 : Hid (Below w.heap.size w (w1.setCell ⟨w.heap.size, i, none⟩ (.string Y))) := hbel1.setCell (Nat.le_refl _) _
            have HS2 : Hid (Short (M.set i Y)) := HS.out.set i hYs
            have HT2 : Hid (Sub.St (raws xs) (raws P) (raws (M.set i Y)) (k + 1)) := by unfold Hid; rw [raws_set, HI.out]; exact HN2.out
            generalize M[i] = Z at hp1
            clear hrow1 hbel1 hc hcell HC hb1
            go_wp2
            go_roundw
            case rel => exact ⟨i + 2, k + 1, M.set i Y, by omega, by go_num, by have := HI.out; unfold Hid; omega, HR2, HB2, HS2, HT2, by unfold Hid; rw [List.length_set]; exact HML.out⟩
            case measure => simp [intOf]; omega
          · have HF : Hid (Sub.subE (raws xs) (raws P) = none) := HSt.out.fail hk1 (by rw [HN.out]; exact List.getElem?_eq_none (by rw [raws_length]; omega))
            clear HN HXP
            go_wp2_with (go_at_call 14; refine (HC.out).mono ?_; rintro e w1 ⟨rfl, hb1⟩)
            go_ret2
            exact ⟨by rw [HF.out]; rfl, HB.out.trans (hb1.mono HB.out.size)⟩
        · have HC : Hid (Calls Tryd.prog 14 #[.string X, .int .i64 10, .int .i64 32] wr fun e w' => ∃ (x : Int) (a : Addr), e = .returned (.tuple #[.int .u64 x, .iface 54 (.pointer (some a))]) ∧ Below wr.heap.size wr w') := by
            obtain ⟨_, e0, h0, j0⟩ := HE.out.1.below HB.out
            obtain ⟨_, e1, h1, j1⟩ := HE.out.2.below HB.out
            exact Tryd.parseUint_bad X (by omega) (fun u hu => hok ⟨u, hu⟩) wr e0 e1 h0 j0 h1 j1
          have HF : Hid (Sub.subE (raws xs) (raws P) = none) := HSt.out.fail hk1 (by rw [HXP.out]; exact Sub.num_bad _ _ (by rw [raws_length]; omega) (fun u hu => hok ⟨u, hu⟩))
          clear hok HXP
          go_wp2_with (go_at_call 14; refine (HC.out).mono ?_; rintro e w1 ⟨x, ad, rfl, hb1⟩)
          go_ret2
          exact ⟨by rw [HF.out]; rfl, HB.out.trans (hb1.mono HB.out.size)⟩
      · have hk0 : 2 * k < (raws P).length := by have := HI.out; rw [raws_length]; omega
        have HF : Hid (Sub.subE (raws xs) (raws P) = some (raws M).flatten) := HSt.out.done (by have := HI.out; rw [raws_length]; omega) hk0
        have HJ : Hid (Calls Tryd.prog 15 #[.slice (some ⟨w.heap.size, 0, none⟩) P.length P.length, .string ⟨#[]⟩] wr fun e w' => e = .returned (.string ⟨((raws M).flatten).toArray⟩) ∧ Below wr.heap.size wr w') := by
          have := Tryd.strings_Join w.heap.size 0 M.length M ⟨#[]⟩ wr (fun j x hj => by
            obtain ⟨hjl, rfl⟩ := List.getElem?_eq_some_iff.1 hj
            rw [Nat.zero_add]
            exact (HRow.out.2 j hjl).1) HRow.out.1 (by rw [HML.out]; omega) (Nat.le_refl _) (join_le HS.out (by rw [HML.out]; omega))
          have e : (⟨#[]⟩ : ByteArray).data.toList = [] := rfl
          rw [e, Sub.join_flat, HML.out] at this
          exact this
        go_wp2_with (go_at_call 15; refine (HJ.out).mono ?_; rintro e w1 ⟨rfl, hb1⟩)
        go_ret2
        exact ⟨by rw [HF.out]; rfl, HB.out.trans (hb1.mono HB.out.size)⟩
end Go.Proofs.Qxb6604184aDoor
