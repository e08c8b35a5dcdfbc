import Derived.Test.Qxb6604184aDoorSubst
import Derived.Lib.AppendStr
import Derived.Laws.BytesArg
namespace Go.Proofs.Qxb6604184aDoor
open Go.RowKit

theorem drop_cons (s : ByteArray) (k : Nat) (h : k < s.size) : s.data.toList.drop k = s[k] :: s.data.toList.drop (k + 1) := by
  rw [List.drop_eq_getElem_cons (by simpa using h)]; rfl
theorem drop_end (s : ByteArray) (k : Nat) (h : s.size ≤ k) : s.data.toList.drop k = [] := List.drop_eq_nil_of_le (by simpa using h)
theorem byte_zero {c : UInt8} (h : ((c.toNat : Int) == 0) = true) : c = 0 := by
  have := eq_of_beq h
  exact UInt8.toNat_inj.1 (by have e : (0 : UInt8).toNat = 0 := rfl; omega)
theorem byte_nonzero {c : UInt8} (h : ((c.toNat : Int) == 0) = false) : ¬ c = 0 := by
  rintro rfl
  exact absurd h (by decide)
def B (b : UInt8) : Value := .int .u8 b.toNat
/-- the slice of bytes that the call itself fills. -/
def OwnsB (w : World) (base : Nat) (v : Value) (l : List UInt8) : Prop := w.ownsRow base 5 1 v l.length (l.map B)
theorem OwnsB.push {w : World} {base : Nat} {v : Value} {l : List UInt8} {c : UInt8} (h : w.ownsRow base 5 1 v (l.length + 1) (l.map B ++ [.int .u8 c.toNat])) : OwnsB w base v (l ++ [c]) := by
  unfold OwnsB
  rw [List.length_append, List.map_append, List.map_cons, List.map_nil]
  exact h
theorem OwnsB.add {w : World} {base : Nat} {v : Value} {l : List UInt8} {s : ByteArray} (h : w.ownsRow base 5 1 v (l.length + s.size) (l.map B ++ Lib.strCells s)) : OwnsB w base v (l ++ s.data.toList) := by
  unfold OwnsB
  rw [List.length_append, List.map_append]
  have e : s.data.toList.length = s.size := by simp
  rw [e]
  exact h
theorem OwnsB.grown {w wr w2 : World} {base : Nat} {v : Value} {l : List UInt8} (hb : Below base w wr) (hs : base ≤ wr.heap.size) (ho : OwnsB wr base v l) (hg : wr.grownBy w2 v.ownBlock) : Below base w w2 :=
  hb.grown hg hs (fun k e => (ho.lt k e).1)
theorem OwnsB.alloc {w : World} {base : Nat} {v : Value} {l : List UInt8} (h : OwnsB w base v l) (o : Obj) : OwnsB (w.alloc o) base v l := World.ownsRow.alloc h o
theorem add_plain' (b o i : Nat) : (⟨b, o, none⟩ : Addr).add i = ⟨b, o + i, none⟩ := by unfold Addr.add; split <;> simp_all
/-- string(out). -/
theorem OwnsB.text {w : World} {base : Nat} {v : Value} {l : List UInt8} (h : OwnsB w base v l) : (convert 31 9 v).run Tryd.prog w = .ok (.string ⟨l.toArray⟩) w := by
  rcases h.2 with ⟨hv, hn⟩ | ⟨g, cap, cur, hv, hb, hg, hnc, hcm, hcs, hcur⟩
  · have : l = [] := List.length_eq_zero_iff.1 hn
    subst this
    rw [hv]
    exact run_convert_bytes_nil (P := Tryd.prog) w 31 5 Tryd.underlying31 Tryd.underlying5 0 0 9 Tryd.underlying9
  · have := run_convert_bytes_arg (P := Tryd.prog) w 31 5 Tryd.underlying31 Tryd.underlying5 g 0 l.length cap (l.map fun b => (b.toNat : Int)) (by simp) (fun i hi => by
      have hc := World.ownsRow.cells h (g := g) (by rw [hv]; rfl) i (B l[i]) (by rw [List.getElem?_map, List.getElem?_eq_getElem hi]; rfl)
      rw [add_plain'] at hc
      rw [hc]
      simp [B, List.getD, hi]) 9 Tryd.underlying9
    rw [hv, this]
    congr 2
    unfold strOfNums
    congr 2
    rw [List.map_map]
    exact (List.map_congr_left (fun b _ => by simp)).trans (List.map_id _)

theorem info5 : ∃ i0, Tryd.prog.info? 5 = some i0 ∧ i0.zero = some (.int .u8 0) ∧ i0.size = 1 ∧ i0.bytes = 1 := by
  have hi : (Tryd.prog.info? 5).map (fun i => (i.zero, i.size, i.bytes)) = some (some (.int .u8 0), 1, 1) := by kernel_rfl
  obtain ⟨i0, hi, hx⟩ := Option.map_eq_some_iff.1 hi
  simp only [Prod.mk.injEq] at hx
  exact ⟨i0, hi, hx.1, hx.2.1, hx.2.2⟩
/-- what the scanner has still to give, outside a mark; inside one. -/
def Out (A : List (List UInt8)) (t : ByteArray) (k : Nat) (o : List UInt8) : Prop := Sub.sc A none t.data.toList = (Sub.sc A none (t.data.toList.drop k)).map fun x => o ++ x
def Ins (A : List (List UInt8)) (t : ByteArray) (j v d : Nat) (o : List UInt8) : Prop := Sub.sc A none t.data.toList = (Sub.sc A (some (v, d)) (t.data.toList.drop j)).map fun x => o ++ x
theorem Out.start (A : List (List UInt8)) (t : ByteArray) : Out A t 0 [] := by
  unfold Out
  rw [List.drop_zero]
  simp
theorem Out.byte {A : List (List UInt8)} {t : ByteArray} {k : Nat} {o : List UInt8} (h : Out A t k o) (hk : k < t.size) (h0 : ((t[k].toNat : Int) == 0) = false) : Out A t (k + 1) (o ++ [t[k]]) := by
  unfold Out at *
  rw [h, drop_cons t k hk, Sub.sc_out_miss A _ (byte_nonzero h0), Option.map_map]
  congr 1
  funext x
  simp
theorem Out.mark {A : List (List UInt8)} {t : ByteArray} {k : Nat} {o : List UInt8} (h : Out A t k o) (hk : k < t.size) (h0 : ((t[k].toNat : Int) == 0) = true) : Ins A t (k + 1) 0 0 o := by
  unfold Out at h
  unfold Ins
  rw [h, drop_cons t k hk, byte_zero h0, Sub.sc_out_hit]
theorem Out.done {A : List (List UInt8)} {t : ByteArray} {k : Nat} {o : List UInt8} (h : Out A t k o) (hk : ¬ k < t.size) : Sub.sc A none t.data.toList = some o := by
  unfold Out at h
  rw [h, drop_end t k (by omega)]
  simp [Sub.sc]
theorem Ins.digit {A : List (List UInt8)} {t : ByteArray} {j v d : Nat} {o : List UInt8} (h : Ins A t j v d o) (hj : j < t.size) (h0 : ((t[j].toNat : Int) == 0) = false) (h1 : 48 ≤ (t[j].toNat : Int)) (h2 : (t[j].toNat : Int) ≤ 57) :
    Ins A t (j + 1) (min (v * 10 + (t[j].toNat - 48)) A.length) (d + 1) o := by
  unfold Ins at *
  have hd : Sub.isDig t[j] = true := by
    unfold Sub.isDig
    rw [Bool.and_eq_true, decide_eq_true_eq, decide_eq_true_eq]
    omega
  rw [h, drop_cons t j hj, Sub.sc_in_dig A _ _ _ (byte_nonzero h0) hd]
theorem Ins.bad {A : List (List UInt8)} {t : ByteArray} {j v d : Nat} {o : List UInt8} (h : Ins A t j v d o) (hj : j < t.size) (h0 : ((t[j].toNat : Int) == 0) = false) (h1 : (t[j].toNat : Int) < 48 ∨ 57 < (t[j].toNat : Int)) : Sub.sc A none t.data.toList = none := by
  unfold Ins at h
  have hd : ¬ Sub.isDig t[j] = true := by
    unfold Sub.isDig
    rw [Bool.and_eq_true, decide_eq_true_eq, decide_eq_true_eq]
    omega
  rw [h, drop_cons t j hj, Sub.sc_in_bad A _ _ _ (byte_nonzero h0) hd]
  rfl
theorem Ins.over {A : List (List UInt8)} {t : ByteArray} {j v d : Nat} {o : List UInt8} (h : Ins A t j v d o) (hj : ¬ j < t.size) : Sub.sc A none t.data.toList = none := by
  unfold Ins at h
  rw [h, drop_end t j (by omega)]
  simp [Sub.sc]
theorem Ins.refuse {A : List (List UInt8)} {t : ByteArray} {j v d : Nat} {o : List UInt8} (h : Ins A t j v d o) (hj : j < t.size) (h0 : ((t[j].toNat : Int) == 0) = true) (h1 : d = 0 ∨ A.length ≤ v) : Sub.sc A none t.data.toList = none := by
  unfold Ins at h
  rw [h, drop_cons t j hj, byte_zero h0, Sub.sc_in_hit, if_pos h1]
  rfl
theorem Ins.take {A : List (List UInt8)} {t : ByteArray} {j v d : Nat} {o x : List UInt8} (h : Ins A t j v d o) (hj : j < t.size) (h0 : ((t[j].toNat : Int) == 0) = true) (h1 : ¬ (d = 0 ∨ A.length ≤ v)) (hx : A[v]? = some x) : Out A t (j + 1) (o ++ x) := by
  unfold Ins at h
  unfold Out
  rw [h, drop_cons t j hj, byte_zero h0, Sub.sc_in_hit, if_neg h1, hx]
  simp only [Option.map_map]
  congr 1
  funext y
  simp
end Go.Proofs.Qxb6604184aDoor
