/-
  THE SCANNER's STATE: the bytes up to c are done, those up to e are read.
-/
import Derived.Test.Qxb6612715aFmtRead
import Derived.Test.Qxb6612715aFmtPlain
namespace Go.Proofs.Qxb6612715aFmt
open Go.RowKit

/-- the buffer: nil, or a row of N bytes that holds d from st on -/
def Buf (w : World) (B : Nat) (bv : Value) (N st : Nat) (d : ByteArray) : Prop :=
  (N = 0 ∧ bv = .slice none 0 0) ∨ (0 < N ∧ ∃ bb cur, bv = .slice (some ⟨bb, 0, none⟩) N N ∧ Free B bb ∧ Row w bb cur ∧ cur.length = N ∧ Lib.Bytes w bb st d)

def Rv (rb : Nat) : Value := .iface 40 (.pointer (some ⟨rb, 0, none⟩))

structure St (w : World) (B sb rb : Nat) (t : ByteArray) (c e N st : Nat) (tk bv er : Value) (em pr : Int) (sc : Bool) : Prop where
  sc' : ScBlk w sb (.iface 40 (.pointer (some ⟨rb, 0, none⟩))) tk bv (st : Int) ((st + (e - c) : Nat) : Int) er em sc false
  rd : RdBlk w rb t (e : Int) pr
  buf : Buf w B bv N st (t.extract c e)
  ce : c ≤ e
  et : e ≤ t.size
  n64 : N ≤ 65536
  fit : st + (e - c) ≤ N
  eof : er = .nilIface ∨ st + (e - c) < N
  hs : Free B sb
  hr : Free B rb

theorem sc_ne_rd {w : World} {a b : Nat} {rv tk bv er : Value} {st en em i pr : Int} {sc dn : Bool} {t : ByteArray} (h : ScBlk w a rv tk bv st en er em sc dn) (h' : RdBlk w b t i pr) : a ≠ b := by
  rintro rfl
  have := h.symm.trans h'
  simp at this
theorem sc_ne_row {w : World} {a b : Nat} {rv tk bv er : Value} {st en em : Int} {sc dn : Bool} {cur : List Value} (h : ScBlk w a rv tk bv st en er em sc dn) (h' : Row w b cur) : a ≠ b := by
  rintro rfl
  have := h.symm.trans h'
  simp at this
theorem rd_ne_row {w : World} {a b : Nat} {i pr : Int} {t : ByteArray} {cur : List Value} (h : RdBlk w a t i pr) (h' : Row w b cur) : a ≠ b := by
  rintro rfl
  have := h.symm.trans h'
  simp at this

theorem bytes_same {w w' : World} {b o : Nat} {d : ByteArray} (h : Lib.Bytes w b o d) (e : w'.heap[b]? = w.heap[b]?) : Lib.Bytes w' b o d :=
  fun i hi => (World.cell?_of_block (a := ⟨b, o + i, none⟩) e).trans (h i hi)
theorem Buf.same {w w' : World} {B : Nat} {bv : Value} {N st : Nat} {d : ByteArray} (h : Buf w B bv N st d) (hs : ∀ bb cur, Row w bb cur → w'.heap[bb]? = w.heap[bb]?) : Buf w' B bv N st d := by
  rcases h with h | ⟨h0, bb, cur, h1, h2, h3, h4, h5⟩
  · exact Or.inl h
  · have e := hs bb cur h3
    exact Or.inr ⟨h0, bb, cur, h1, h2, h3.same e, h4, bytes_same h5 e⟩

/-- how far the reader has read, whether an error is set -/
def rdI (w : World) (rb : Nat) : Nat := match w.cell? ⟨rb, 1, none⟩ with
  | some (.int _ i) => i.toNat
  | _ => 0
def erN (w : World) (sb : Nat) : Nat := match w.cell? ⟨sb, 7, none⟩ with
  | some .nilIface => 1
  | _ => 0
theorem rdI_of {w : World} {rb : Nat} {t : ByteArray} {i : Nat} {pr : Int} (h : RdBlk w rb t (i : Int) pr) : rdI w rb = i := by
  unfold rdI; rw [h.c1]; rfl
theorem erN_nil {w : World} {b : Nat} {rv tk bv : Value} {st en em : Int} {sc dn : Bool} (h : ScBlk w b rv tk bv st en .nilIface em sc dn) : erN w b = 1 := by
  unfold erN; rw [h.c7]
theorem erN_some {w : World} {b : Nat} {rv tk bv v : Value} {t : TypeId} {st en em : Int} {sc dn : Bool} (h : ScBlk w b rv tk bv st en (.iface t v) em sc dn) : erN w b = 0 := by
  unfold erN; rw [h.c7]

end Go.Proofs.Qxb6612715aFmt
