/-
  THE SCANNER's BLOCK, THE READER's BLOCK, THE BUFFER's ROW; copy into a row as one step of a region that draws.
-/
import Derived.Test.Qxb6612715aFmtProg
import Derived.WalkKit
import Derived.WalkSpells
import Derived.Laws.CopyOwn
import Derived.Lib.BufferWrite
import Derived.Deep.RegionLaw
import Derived.Deep.QuietTactic
import Derived.BigQuiet
namespace Go.Proofs.Qxb6612715aFmt
open Go.RowKit

/-- a bufio.Scanner in a block of its own -/
def ScBlk (w : World) (b : Nat) (rv tk bv : Value) (st en : Int) (er : Value) (em : Int) (sc dn : Bool) : Prop :=
  w.heap[b]? = some (.cells #[rv, .func (.func 22) #[] #[], .int .i64 65536, tk, bv, .int .i64 st, .int .i64 en, er, .int .i64 em, .bool sc, .bool dn] 53 (0, 0))
/-- a strings.Reader in a block of its own -/
def RdBlk (w : World) (b : Nat) (t : ByteArray) (i pr : Int) : Prop := w.heap[b]? = some (.cells #[.string t, .int .i64 i, .int .i64 pr] 55 (0, 0))

section
variable {w : World} {b : Nat} {rv tk bv er : Value} {st en em : Int} {sc dn : Bool}
theorem ScBlk.lt (h : ScBlk w b rv tk bv st en er em sc dn) : b < w.heap.size := (Array.getElem?_eq_some_iff.1 h).1
theorem ScBlk.fz (h : ScBlk w b rv tk bv st en er em sc dn) (j : Nat) : w.frozen? ⟨b, j, none⟩ = false := Lib.frozen_of_heap h j
theorem ScBlk.same {w' : World} (h : ScBlk w b rv tk bv st en er em sc dn) (e : w'.heap[b]? = w.heap[b]?) : ScBlk w' b rv tk bv st en er em sc dn := e.trans h
theorem ScBlk.c0 (h : ScBlk w b rv tk bv st en er em sc dn) : w.cell? ⟨b, 0, none⟩ = some (rv) := by rw [Lib.cell_of_heap h]; rfl
theorem ScBlk.c1 (h : ScBlk w b rv tk bv st en er em sc dn) : w.cell? ⟨b, 1, none⟩ = some (.func (.func 22) #[] #[]) := by rw [Lib.cell_of_heap h]; rfl
theorem ScBlk.c2 (h : ScBlk w b rv tk bv st en er em sc dn) : w.cell? ⟨b, 2, none⟩ = some (.int .i64 65536) := by rw [Lib.cell_of_heap h]; rfl
theorem ScBlk.c3 (h : ScBlk w b rv tk bv st en er em sc dn) : w.cell? ⟨b, 3, none⟩ = some (tk) := by rw [Lib.cell_of_heap h]; rfl
theorem ScBlk.c4 (h : ScBlk w b rv tk bv st en er em sc dn) : w.cell? ⟨b, 4, none⟩ = some (bv) := by rw [Lib.cell_of_heap h]; rfl
theorem ScBlk.c5 (h : ScBlk w b rv tk bv st en er em sc dn) : w.cell? ⟨b, 5, none⟩ = some (.int .i64 st) := by rw [Lib.cell_of_heap h]; rfl
theorem ScBlk.c6 (h : ScBlk w b rv tk bv st en er em sc dn) : w.cell? ⟨b, 6, none⟩ = some (.int .i64 en) := by rw [Lib.cell_of_heap h]; rfl
theorem ScBlk.c7 (h : ScBlk w b rv tk bv st en er em sc dn) : w.cell? ⟨b, 7, none⟩ = some (er) := by rw [Lib.cell_of_heap h]; rfl
theorem ScBlk.c8 (h : ScBlk w b rv tk bv st en er em sc dn) : w.cell? ⟨b, 8, none⟩ = some (.int .i64 em) := by rw [Lib.cell_of_heap h]; rfl
theorem ScBlk.c9 (h : ScBlk w b rv tk bv st en er em sc dn) : w.cell? ⟨b, 9, none⟩ = some (.bool sc) := by rw [Lib.cell_of_heap h]; rfl
theorem ScBlk.c10 (h : ScBlk w b rv tk bv st en er em sc dn) : w.cell? ⟨b, 10, none⟩ = some (.bool dn) := by rw [Lib.cell_of_heap h]; rfl
theorem ScBlk.set3 (h : ScBlk w b rv tk bv st en er em sc dn) (x : Value) : ScBlk (w.setCell ⟨b, 3, none⟩ (x)) b rv x bv st en er em sc dn := by
  show (w.setCell _ _).heap[b]? = _
  have h' : w.heap[b]? = _ := h
  simp [World.setCell, Array.getElem?_modify, h']
theorem ScBlk.set4 (h : ScBlk w b rv tk bv st en er em sc dn) (x : Value) : ScBlk (w.setCell ⟨b, 4, none⟩ (x)) b rv tk x st en er em sc dn := by
  show (w.setCell _ _).heap[b]? = _
  have h' : w.heap[b]? = _ := h
  simp [World.setCell, Array.getElem?_modify, h']
theorem ScBlk.set5 (h : ScBlk w b rv tk bv st en er em sc dn) (x : Int) : ScBlk (w.setCell ⟨b, 5, none⟩ (.int .i64 x)) b rv tk bv x en er em sc dn := by
  show (w.setCell _ _).heap[b]? = _
  have h' : w.heap[b]? = _ := h
  simp [World.setCell, Array.getElem?_modify, h']
theorem ScBlk.set6 (h : ScBlk w b rv tk bv st en er em sc dn) (x : Int) : ScBlk (w.setCell ⟨b, 6, none⟩ (.int .i64 x)) b rv tk bv st x er em sc dn := by
  show (w.setCell _ _).heap[b]? = _
  have h' : w.heap[b]? = _ := h
  simp [World.setCell, Array.getElem?_modify, h']
theorem ScBlk.set7 (h : ScBlk w b rv tk bv st en er em sc dn) (x : Value) : ScBlk (w.setCell ⟨b, 7, none⟩ (x)) b rv tk bv st en x em sc dn := by
  show (w.setCell _ _).heap[b]? = _
  have h' : w.heap[b]? = _ := h
  simp [World.setCell, Array.getElem?_modify, h']
theorem ScBlk.set8 (h : ScBlk w b rv tk bv st en er em sc dn) (x : Int) : ScBlk (w.setCell ⟨b, 8, none⟩ (.int .i64 x)) b rv tk bv st en er x sc dn := by
  show (w.setCell _ _).heap[b]? = _
  have h' : w.heap[b]? = _ := h
  simp [World.setCell, Array.getElem?_modify, h']
theorem ScBlk.set9 (h : ScBlk w b rv tk bv st en er em sc dn) (x : Bool) : ScBlk (w.setCell ⟨b, 9, none⟩ (.bool x)) b rv tk bv st en er em x dn := by
  show (w.setCell _ _).heap[b]? = _
  have h' : w.heap[b]? = _ := h
  simp [World.setCell, Array.getElem?_modify, h']
end
section
variable {w : World} {b : Nat} {t : ByteArray} {i pr : Int}
theorem RdBlk.lt (h : RdBlk w b t i pr) : b < w.heap.size := (Array.getElem?_eq_some_iff.1 h).1
theorem RdBlk.fz (h : RdBlk w b t i pr) (j : Nat) : w.frozen? ⟨b, j, none⟩ = false := Lib.frozen_of_heap h j
theorem RdBlk.same {w' : World} (h : RdBlk w b t i pr) (e : w'.heap[b]? = w.heap[b]?) : RdBlk w' b t i pr := e.trans h
theorem RdBlk.c0 (h : RdBlk w b t i pr) : w.cell? ⟨b, 0, none⟩ = some (.string t) := by rw [Lib.cell_of_heap h]; rfl
theorem RdBlk.c1 (h : RdBlk w b t i pr) : w.cell? ⟨b, 1, none⟩ = some (.int .i64 i) := by rw [Lib.cell_of_heap h]; rfl
theorem RdBlk.c2 (h : RdBlk w b t i pr) : w.cell? ⟨b, 2, none⟩ = some (.int .i64 pr) := by rw [Lib.cell_of_heap h]; rfl
theorem RdBlk.set1 (h : RdBlk w b t i pr) (x : Int) : RdBlk (w.setCell ⟨b, 1, none⟩ (.int .i64 x)) b t x pr := by
  show (w.setCell _ _).heap[b]? = _
  have h' : w.heap[b]? = _ := h
  simp [World.setCell, Array.getElem?_modify, h']
theorem RdBlk.set2 (h : RdBlk w b t i pr) (x : Int) : RdBlk (w.setCell ⟨b, 2, none⟩ (.int .i64 x)) b t i x := by
  show (w.setCell _ _).heap[b]? = _
  have h' : w.heap[b]? = _ := h
  simp [World.setCell, Array.getElem?_modify, h']
end

/-- the row of bytes in block b -/
def Row (w : World) (b : Nat) (cur : List Value) : Prop := w.heap[b]? = some (.cells cur.toArray 5 (0, 0))
theorem Row.lt {w : World} {b : Nat} {cur : List Value} (h : Row w b cur) : b < w.heap.size := (Array.getElem?_eq_some_iff.1 h).1
theorem Row.same {w w' : World} {b : Nat} {cur : List Value} (h : Row w b cur) (e : w'.heap[b]? = w.heap[b]?) : Row w' b cur := e.trans h
theorem Row.cell {w : World} {b : Nat} {cur : List Value} (h : Row w b cur) (j : Nat) : w.cell? ⟨b, j, none⟩ = cur[j]? := by
  rw [Lib.cell_of_heap h]; simp

/-- all but block g, and that only in its cells -/
structure Only (g : Nat) (w w' : World) : Prop where
  os : w'.os = w.os
  tape : w'.tape = w.tape
  output : w'.output = w.output
  size : w'.heap.size = w.heap.size
  block : ∀ k, k ≠ g → w'.heap[k]? = w.heap[k]?
theorem Only.setRow (w : World) (g : Nat) (cs : Array Value) : Only g w (w.setRow g cs) := ⟨rfl, rfl, rfl, by simp [World.setRow], fun k hk => setRow_other w g k cs hk⟩
theorem Only.refl (w : World) (g : Nat) : Only g w w := ⟨rfl, rfl, rfl, rfl, fun _ _ => rfl⟩
/-- all below B, and block B + 2, as in w0 -/
structure Kept (B : Nat) (w0 w : World) : Prop where
  os : w.os = w0.os
  tape : w.tape = w0.tape
  output : w.output = w0.output
  size : w0.heap.size ≤ w.heap.size
  block : ∀ k, k < B → w.heap[k]? = w0.heap[k]?
  l : w.heap[B + 2]? = w0.heap[B + 2]?
  lt : B + 2 < w.heap.size
structure Free (B g : Nat) : Prop where
  le : B ≤ g
  ne : g ≠ B + 2
theorem Kept.cell {B : Nat} {w0 w : World} (h : Kept B w0 w) {p : Addr} (hp : p.block < B) : w.cell? p = w0.cell? p := World.cell?_of_block (h.block _ hp)
theorem Only.below {g : Nat} {w0 w w' : World} (h : Only g w w') {B : Nat} (hb : Kept B w0 w) (hg : Free B g) : Kept B w0 w' :=
  ⟨h.os.trans hb.os, h.tape.trans hb.tape, h.output.trans hb.output, by rw [h.size]; exact hb.size, fun k hk => (h.block k (by have := hg.le; omega)).trans (hb.block k hk), (h.block _ (fun e => hg.ne e.symm)).trans hb.l, by rw [h.size]; exact hb.lt⟩
theorem Kept.grown {B : Nat} {w0 w w' : World} (hb : Kept B w0 w) (h : w.grownBy w' none) : Kept B w0 w' :=
  ⟨h.os.trans hb.os, h.tape.trans hb.tape, h.output.trans hb.output, Nat.le_trans hb.size h.size, fun k hk => (h.block k (by have := hb.lt; omega) (fun e => by cases e)).trans (hb.block k hk), (h.block _ hb.lt (fun e => by cases e)).trans hb.l, Nat.lt_of_lt_of_le hb.lt h.size⟩

theorem splice_nil {α : Type} (L : List α) (off : Nat) : splice L off [] = L := by simp [splice]

theorem step_copy_only {P : Program} {ops : Array Oper} {o : Oper} {a : Act} {w : World} {K : Act → World → Prop} {Q : Exit → Act → World → Prop} {E : Prop} (hgd : o.guard = none) (d s : Operand) (dT sT : TypeId)
    (ho : o.op = .call { callee := .builtin .copy, args := #[d, s], argTypes := #[dT, sT] }) (elem : TypeId) (hu : P.underlying dT = some (.slice elem)) (hsz : (P.info? elem).map (·.size) = some 1)
    (dp sp : Option Addr) (dLen dCap sLen sCap : Nat) (hd : a.eval d = .slice dp dLen dCap) (hs : a.eval s = .slice sp sLen sCap)
    (g off : Nat) (cur : List Value) (t : TypeId) (hg : w.heap[g]? = some (.cells cur.toArray t (0, 0))) (cs : List Value) (hn : cs.length = Nat.min sLen dLen)
    (hpos : 0 < cs.length → dp = some ⟨g, off, none⟩ ∧ ∃ ad, sp = some ad ∧ ∀ j v, cs[j]? = some v → w.cell? (ad.add j) = some v)
    (hfit : off + cs.length ≤ cur.length) (h1 : ∀ v ∈ cs, v.oneCell' = true)
    (h : ∀ w', Hid (w'.heap[g]? = some (.cells (splice cur off cs).toArray t (0, 0))) → Hid (Only g w w') → K (a.put o.dst (goInt cs.length)) w') :
    if Region.wanted o (yielded ops a.tmps) = true then Oper.wp P o a w K Q else E := by
  have hw : Region.wanted o (yielded ops a.tmps) = true := by simp [Region.wanted, hgd]
  rw [if_pos hw]
  by_cases h0 : cs.length = 0
  · obtain rfl : cs = [] := List.eq_nil_of_length_eq_zero h0
    have hrun := run_copy_none (P := P) w dT sT o.type elem dp sp dLen dCap sLen sCap hu hsz (by simpa using hn.symm)
    unfold Oper.wp
    simp [execOp, ho, resolve, invoke, builtin, hd, hs, hrun, Result.andThen]
    exact h w (by rw [splice_nil]; exact hg) (Only.refl w g)
  · obtain ⟨rfl, ad, rfl, hsrc⟩ := hpos (by omega)
    have hrun := run_copy_row (P := P) w dT sT o.type elem g off dLen dCap ad sLen sCap cur.toArray t cs hu hsz hg hn hsrc (by simpa using hfit) h1
    unfold Oper.wp
    simp [execOp, ho, resolve, invoke, builtin, hd, hs, hrun, Result.andThen]
    refine h _ ?_ (Only.setRow _ _ _)
    show (w.setRow g _).heap[g]? = _
    rw [setRow_heap w g cur.toArray _ t (0, 0) hg]
    rfl

theorem run_copy_str_min {P : Program} (w : World) (dT sT ty elem : TypeId) (g o dLen dCap : Nat) (s : ByteArray) (cur : Array Value) (t : TypeId) (m : Nat)
    (hu : P.underlying dT = some (.slice elem)) (hs : (P.info? elem).map (·.size) = some 1) (hg : w.heap[g]? = some (.cells cur t (0, 0))) (hm : m = Nat.min s.size dLen) (hfit : o + m ≤ cur.size) :
    (Builtin.copy_ #[dT, sT] ty #[.slice (some ⟨g, o, none⟩) dLen dCap, .string s]).run P w =
      .ok (goInt m) (w.setRow g (cur.toList.take o ++ Lib.byteCells (s.data.toList.take m) ++ cur.toList.drop (o + m)).toArray) := by
  have hms : m ≤ s.size := by rw [hm]; exact Nat.min_le_left _ _
  have hlen : (Lib.byteCells (s.data.toList.take m)).length = m := by rw [Lib.byteCells_length, List.length_take, ← Lib.size_eq]; omega
  have hst := run_storeCells_at P g o t (Lib.byteCells (s.data.toList.take m)) 0 cur w hg (by rw [hlen]; simpa using hfit) (Lib.byteCells_one _)
  have htk : List.take m (List.map (fun b : UInt8 => Value.int IntKind.u8 (b.toNat : Int)) s.data.toList) = Lib.byteCells (s.data.toList.take m) := by
    rw [← List.map_take]; rfl
  rw [hlen] at hst
  simp only [Nat.add_zero] at hst
  cases hq : P.info? elem with
  | none => simp [hq] at hs
  | some i =>
    simp [Builtin.copy_, run_underlying hu, Builtin.lenOf, Builtin.firstCells, sizeOf, typeInfo, hq, ← hm]
    rw [htk, hst]
    simp [Result.andThen]

theorem step_copy_str {P : Program} {ops : Array Oper} {o : Oper} {a : Act} {w : World} {K : Act → World → Prop} {Q : Exit → Act → World → Prop} {E : Prop} (hgd : o.guard = none) (d x : Operand) (dT sT : TypeId)
    (ho : o.op = .call { callee := .builtin .copy, args := #[d, x], argTypes := #[dT, sT] }) (elem : TypeId) (hu : P.underlying dT = some (.slice elem)) (hsz : (P.info? elem).map (·.size) = some 1)
    (g off dLen dCap : Nat) (s : ByteArray) (hd : a.eval d = .slice (some ⟨g, off, none⟩) dLen dCap) (hx : a.eval x = .string s)
    (cur : List Value) (t : TypeId) (hg : w.heap[g]? = some (.cells cur.toArray t (0, 0))) (m : Nat) (hm : m = Nat.min s.size dLen) (hfit : off + m ≤ cur.length)
    (h : ∀ w', Hid (w'.heap[g]? = some (.cells (splice cur off (Lib.byteCells (s.data.toList.take m))).toArray t (0, 0))) → Hid (Only g w w') → K (a.put o.dst (goInt m)) w') :
    if Region.wanted o (yielded ops a.tmps) = true then Oper.wp P o a w K Q else E := by
  have hw : Region.wanted o (yielded ops a.tmps) = true := by simp [Region.wanted, hgd]
  rw [if_pos hw]
  have hrun := run_copy_str_min (P := P) w dT sT o.type elem g off dLen dCap s cur.toArray t m hu hsz hg hm (by simpa using hfit)
  unfold Oper.wp
  simp [execOp, ho, resolve, invoke, builtin, hd, hx, hrun, Result.andThen]
  refine h _ ?_ (Only.setRow _ _ _)
  show (w.setRow g _).heap[g]? = _
  have hms : m ≤ s.size := by rw [hm]; exact Nat.min_le_left _ _
  have hlen : (Lib.byteCells (s.data.toList.take m)).length = m := by rw [Lib.byteCells_length, List.length_take, ← Lib.size_eq]; omega
  rw [setRow_heap w g cur.toArray _ t (0, 0) hg]
  simp [splice, hlen]

end Go.Proofs.Qxb6612715aFmt
