/-
  Scan's loop: laws on the buffer's row.
-/
import Derived.Test.Qxb6612715aFmtMids
import Derived.StillTailTactics
import Derived.OwnWalk
namespace Go.Proofs.Qxb6612715aFmt
open Go.RowKit

theorem byte_get (s : ByteArray) (i : Nat) (h : i < s.size) : s.data.toList[i]? = some s[i] := by
  rw [List.getElem?_eq_getElem (by rw [← Lib.size_eq]; exact h)]; rfl
theorem bytes_cells {w : World} {bb st : Nat} {d : ByteArray} (h : Lib.Bytes w bb st d) : ∀ j v, (Lib.byteCells d.data.toList)[j]? = some v → w.cell? ((⟨bb, st, none⟩ : Addr).add j) = some v := by
  intro j v hj
  have hl : j < d.size := by
    have := (List.getElem?_eq_some_iff.1 hj).1
    rw [Lib.byteCells_length, ← Lib.size_eq] at this
    exact this
  rw [Addr.add_lit, h j hl]
  have e : d.data.toList[j]? = some d[j] := byte_get d j hl
  rw [← hj]
  simp [Lib.byteCells, e]
theorem byteCells_size (d : ByteArray) : (Lib.byteCells d.data.toList).length = d.size := by rw [Lib.byteCells_length, ← Lib.size_eq]
theorem splice_get {α : Type} (L : List α) (o : Nat) (cs : List α) (ho : o ≤ L.length) {i : Nat} (hi : i < cs.length) : (splice L o cs)[o + i]? = cs[i]? := by
  unfold splice
  rw [List.getElem?_append_right (by rw [List.length_take]; omega), List.length_take, show o + i - min o L.length = i from by omega, List.getElem?_append_left hi]
theorem splice_before {α : Type} (L : List α) (o : Nat) (cs : List α) (ho : o ≤ L.length) {i : Nat} (hi : i < o) : (splice L o cs)[i]? = L[i]? := by
  unfold splice
  rw [List.getElem?_append_left (by rw [List.length_take]; omega), List.getElem?_take, if_pos hi]
theorem splice_bytes {w : World} {bb : Nat} {cur : List Value} {o : Nat} {d : ByteArray} (h : Row w bb (splice cur o (Lib.byteCells d.data.toList))) (ho : o ≤ cur.length) : Lib.Bytes w bb o d := by
  intro i hi
  rw [h.cell, splice_get cur o _ ho (by rw [byteCells_size]; exact hi)]
  have e : d.data.toList[i]? = some d[i] := byte_get d i hi
  simp [Lib.byteCells, e]
/-- behind what was held the reader has laid m bytes more -/
theorem splice_more {w w' : World} {bb : Nat} {cur : List Value} {t : ByteArray} {c e st m : Nat} (hr : Row w bb cur) (hb : Lib.Bytes w bb st (t.extract c e)) (hce : c ≤ e) (het : e + m ≤ t.size) (hfit : st + (e - c) ≤ cur.length)
    (h : Row w' bb (splice cur (st + (e - c)) (Lib.byteCells ((t.data.toList.drop e).take m)))) : Lib.Bytes w' bb st (t.extract c (e + m)) := by
  intro i hi
  have hsz : (t.extract c (e + m)).size = e + m - c := by rw [ByteArray.size_extract]; omega
  have hsz2 : (t.extract c e).size = e - c := by rw [ByteArray.size_extract]; omega
  rw [h.cell, ByteArray.getElem_extract]
  by_cases h1 : i < e - c
  · rw [splice_before cur _ _ hfit (by omega), ← hr.cell, hb i (by omega), ByteArray.getElem_extract]
  · obtain ⟨j, rfl⟩ : ∃ j, i = (e - c) + j := ⟨i - (e - c), by omega⟩
    have hl : ((t.data.toList.drop e).take m).length = m := by rw [List.length_take, List.length_drop, ← Lib.size_eq]; omega
    rw [show st + ((e - c) + j) = st + (e - c) + j from by omega, splice_get cur _ _ hfit (by rw [Lib.byteCells_length, hl]; omega)]
    have e1 : t.data.toList[e + j]? = some t[e + j] := byte_get t (e + j) (by omega)
    have e2 : ((t.data.toList.drop e).take m)[j]? = some t[e + j] := by
      rw [List.getElem?_take, if_pos (by omega), List.getElem?_drop]; exact e1
    have e3 : t[c + ((e - c) + j)]'(by omega) = t[e + j]'(by omega) := by congr 1; omega
    rw [e3]
    unfold Lib.byteCells
    rw [List.getElem?_map, e2]; rfl

theorem wpList_copy_only {P : Program} {w : World} {ops : Array Oper} {rest : List Oper} {o : Oper} {a : Act} {Q : Exit → Act → World → Prop} (hgd : o.guard = none) (d s : Operand) (dT sT : TypeId)
    (ho : o.op = .call { callee := .builtin .copy, args := #[d, s], argTypes := #[dT, sT] }) (elem : TypeId) (hu : P.underlying dT = some (.slice elem)) (hsz : (P.info? elem).map (·.size) = some 1)
    (dp sp : Option Addr) (dLen dCap sLen sCap : Nat) (hd : a.eval d = .slice dp dLen dCap) (hs : a.eval s = .slice sp sLen sCap)
    (g off : Nat) (cur : List Value) (t : TypeId) (hg : w.heap[g]? = some (.cells cur.toArray t (0, 0))) (cs : List Value) (hn : cs.length = Nat.min sLen dLen)
    (hpos : 0 < cs.length → dp = some ⟨g, off, none⟩ ∧ ∃ ad, sp = some ad ∧ ∀ j v, cs[j]? = some v → w.cell? (ad.add j) = some v)
    (hfit : off + cs.length ≤ cur.length) (h1 : ∀ v ∈ cs, v.oneCell' = true)
    (h : ∀ w', Hid (w'.heap[g]? = some (.cells (splice cur off cs).toArray t (0, 0))) → Hid (Only g w w') → wpList P ops Q rest (a.put o.dst (goInt cs.length)) w') :
    wpList P ops Q (o :: rest) a w := by
  by_cases h0 : cs.length = 0
  · obtain rfl : cs = [] := List.eq_nil_of_length_eq_zero h0
    exact wpList_copy_nothing hgd d s dT sT ho elem hu hsz dp sp dLen dCap sLen sCap hd hs (by simpa using hn.symm) (h w (by rw [splice_nil]; exact hg) (Only.refl w g))
  · obtain ⟨rfl, ad, rfl, hsrc⟩ := hpos (by omega)
    refine wpList_copy_own hgd d s dT sT ho elem hu hsz g off dLen dCap ad sLen sCap hd hs cur.toArray t hg cs hn hsrc (by simpa using hfit) h1 ?_
    refine h _ ?_ (Only.setRow _ _ _)
    show (w.setRow g _).heap[g]? = _
    rw [setRow_heap w g cur.toArray _ t (0, 0) hg]
    rfl

theorem still_tail {P : Program} {id : Nat} {Q : Exit → Act → World → Prop} {a : Act} {w : World} {l : List Oper} (n : Nat) (hm : P.follows .mixedOrders = true) (hB : Region.lexTailB .any l.toArray n = true)
    (h : wpStill P l.toArray w.drew (fun a' => wpList P l.toArray Q (l.drop n) a' w.drew) (l.take n) a) : (Code.region id l.toArray true).wp P Q a w := wp_region_still_tail n hm hB h

theorem Tryf.info5 : (Tryf.prog.info? 5).map (fun i => (i.zero, i.size, i.bytes)) = some (some (.int .u8 0), 1, 1) := by kernel_rfl
theorem own_block {w2 : World} {B g n : Nat} {e : TypeId} {xs : List Value} (h : w2.ownsRow B e 1 (.slice (some ⟨g, 0, none⟩) n n) n xs) : ∃ cur : List Value, cur.length = n ∧ w2.heap[g]? = some (.cells cur.toArray e (0, 0)) := by
  obtain ⟨_, h2⟩ := h
  rcases h2 with ⟨h0, _⟩ | ⟨g', cap, cur, hv, _, hh, _, _, hs, _⟩
  · cases h0
  · cases hv
    exact ⟨cur.toList, by simpa using hs, by simpa using hh⟩
theorem only_drew {g : Nat} {w w' : World} (h : Only g w w') : Only g w w'.drew := ⟨h.os, h.tape, h.output, h.size, h.block⟩

/-- what 'buf[st:en]' gives -/
theorem slice_held (bb N st en : Nat) (h1 : st ≤ en) (h2 : en ≤ N) : ∃ sp : Option Addr, (st < en → sp = some ⟨bb, st, none⟩) ∧ ∀ W, (Instr.slice 36 (.slice (some ⟨bb, 0, none⟩) N N) (some (.int .i64 (st : Int))) (some (.int .i64 (en : Int))) none).run Tryf.prog W = .ok (.slice sp (en - st) (N - st)) W := by
  have ht' : Tryf.prog.underlying 36 = some (.slice (Tryf.prog.elem 36)) := by simp [Program.elem, Tryf.underlying36]
  have he : Tryf.prog.elem 36 = 5 := by simp [Program.elem, Tryf.underlying36]
  refine ⟨if N = st then some ⟨bb, 0, none⟩ else some ⟨bb, st, none⟩, fun h => by rw [if_neg (by omega)], fun W => ?_⟩
  rw [run_slice_lh W 36 _ _ _ ht' .i64 .i64 _ _ (by omega) (by omega) (by omega), he, Tryf.sizeOf5]
  by_cases hne : N = st
  · subst hne
    simp [Result.andThen, sliced]
  · by_cases h0 : st = 0
    · subst h0
      simp [Result.andThen, sliced, Addr.add, hne]
    · simp [Result.andThen, sliced, Addr.add, hne, h0]

end Go.Proofs.Qxb6612715aFmt
