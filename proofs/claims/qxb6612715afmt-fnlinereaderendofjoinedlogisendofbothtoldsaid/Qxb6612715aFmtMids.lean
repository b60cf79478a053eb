/-
  WHAT HOLDS BETWEEN THE PARTS of Scan's loop.
-/
import Derived.Test.Qxb6612715aFmtFrame
namespace Go.Proofs.Qxb6612715aFmt
open Go.RowKit

structure Core (w0 w : World) (B sb rb : Nat) (t : ByteArray) (aE : Addr) (c0 c e N st : Nat) (tk bv er : Value) (em pr : Int) (sc : Bool) : Prop where
  s : St w B sb rb t c e N st tk bv er em pr sc
  x : er = .nilIface ∨ (er = .iface 76 (.pointer (some aE)) ∧ e = t.size)
  nw : NoWin t.data.toList c
  ls : LS t.data.toList c
  le : c0 ≤ c
  bel : Kept B w0 w

/-- no line feed among the bytes c .. e -/
def NoLF (t : ByteArray) (c e : Nat) : Prop := ∀ j, j < e - c → t.data.toList[c + j]? ≠ some 10

def M1 (w0 : World) (B sb rb : Nat) (t : ByteArray) (aE : Addr) (c0 m : Nat) (w : World) : Prop :=
  ∃ (c e N st : Nat) (tk bv er : Value) (em pr : Int) (sc : Bool), Core w0 w B sb rb t aE c0 c e N st tk bv er em pr sc ∧ ((er = .nilIface ∧ NoLF t c e ∧ t.size - e + 1 = m) ∨ (er = .iface 76 (.pointer (some aE)) ∧ c = e))
def M2 (w0 : World) (B sb rb : Nat) (t : ByteArray) (aE : Addr) (c0 m : Nat) (w : World) : Prop :=
  ∃ (c e N st : Nat) (tk bv : Value) (em pr : Int) (sc : Bool), Core w0 w B sb rb t aE c0 c e N st tk bv .nilIface em pr sc ∧ NoLF t c e ∧ t.size - e + 1 = m
def M3 (w0 : World) (B sb rb : Nat) (t : ByteArray) (aE : Addr) (c0 m : Nat) (w : World) : Prop :=
  ∃ (c e N st : Nat) (tk bv : Value) (em pr : Int) (sc : Bool), Core w0 w B sb rb t aE c0 c e N st tk bv .nilIface em pr sc ∧ NoLF t c e ∧ t.size - e + 1 = m ∧ (st = 0 ∨ st + (e - c) < N)
def M4 (w0 : World) (B sb rb : Nat) (t : ByteArray) (aE : Addr) (c0 m : Nat) (w : World) : Prop :=
  ∃ (c e N st : Nat) (tk bv : Value) (em pr : Int) (sc : Bool), Core w0 w B sb rb t aE c0 c e N st tk bv .nilIface em pr sc ∧ t.size - e + 1 = m ∧ st + (e - c) < N
/-- the loop's head, the measure below m -/
def M5 (w0 : World) (B sb rb : Nat) (t : ByteArray) (aE : Addr) (c0 m : Nat) (w : World) : Prop :=
  ∃ (c e N st : Nat) (tk bv er : Value) (em pr : Int) (sc : Bool), Core w0 w B sb rb t aE c0 c e N st tk bv er em pr sc ∧ (t.size - rdI w rb) + erN w sb < m

def ScanPost (w0 : World) (B sb rb : Nat) (t : ByteArray) (aE aT : Addr) (c0 : Nat) (b : Bool) (w' : World) : Prop :=
  (b = true ∧ ∃ (c e N st : Nat) (tk bv er : Value) (em pr : Int) (sc : Bool), Core w0 w' B sb rb t aE (c0 + 1) c e N st tk bv er em pr sc) ∨
  (b = false ∧ Kept B w0 w' ∧ ((w'.cell? ⟨sb, 7, none⟩ = some (.iface 76 (.pointer (some aE))) ∧ ¬ Long t.data.toList) ∨ (w'.cell? ⟨sb, 7, none⟩ = some (.iface 76 (.pointer (some aT))) ∧ Long t.data.toList)))

/-- a frame that hands b back -/
structure Ret (a : Act) (b : Bool) : Prop where
  d : a.defers = []
  r : a.tmps.getD 2 undef = .bool b

/-- the scanner's block turned, in cells that the state leaves open -/
theorem St.turn {w w' : World} {B sb rb : Nat} {t : ByteArray} {c e N st : Nat} {tk bv er : Value} {em pr : Int} {sc : Bool} (h : St w B sb rb t c e N st tk bv er em pr sc) {c' st' : Nat} {tk' er' : Value} {em' : Int}
    (hs : ScBlk w' sb (.iface 40 (.pointer (some ⟨rb, 0, none⟩))) tk' bv (st' : Int) ((st' + (e - c') : Nat) : Int) er' em' sc false) (ho : Only sb w w') (hc : c ≤ c') (hce : c' ≤ e) (hst : st' = st + (c' - c)) (hx : er' = .nilIface ∨ st + (e - c) < N) :
    St w' B sb rb t c' e N st' tk' bv er' em' pr sc := by
  have e1 : st' + (e - c') = st + (e - c) := by omega
  refine ⟨hs, h.rd.same (ho.block rb (fun e => sc_ne_rd h.sc' h.rd e.symm)), ?_, hce, h.et, h.n64, by rw [e1]; exact h.fit, by rw [e1]; exact hx, h.hs, h.hr⟩
  rcases h.buf with h1 | ⟨h0, bb, cur, h1, h2, h3, h4, h5⟩
  · exact Or.inl h1
  · have e2 := ho.block bb (fun e => sc_ne_row h.sc' h3 e.symm)
    refine Or.inr ⟨h0, bb, cur, h1, h2, h3.same e2, h4, fun i hi => ?_⟩
    have hsz : (t.extract c' e).size = e - c' := by rw [ByteArray.size_extract]; have := h.et; omega
    have hsz2 : (t.extract c e).size = e - c := by rw [ByteArray.size_extract]; have := h.et; omega
    have h6 := bytes_same h5 e2 (c' - c + i) (by omega)
    rw [show st + (c' - c + i) = st' + i from by omega] at h6
    rw [h6]
    congr 3
    rw [ByteArray.getElem_extract, ByteArray.getElem_extract]
    congr 2
    omega

end Go.Proofs.Qxb6612715aFmt
