/-
  THE GENERIC ROAD: (*strings.appendSliceWriter).WriteString (106).
-/
import Derived.Test.Qxb6614432aGenC
namespace Go.Proofs.Qxb6614432a
open Go.RowKit

/-- a writer in block q, one of the call's own (from B on), that has taken the bytes l -/
def AW (w : World) (B q : Nat) (l : List UInt8) : Prop :=
  B ≤ q ∧ ∃ v, w.heap[q]? = some (.cells #[v] 139 (0, 0)) ∧ w.ownsRow B 5 1 v (Lib.byteCells l).length (Lib.byteCells l) ∧ v.ownBlock ≠ some q

theorem AW.lt {w : World} {B q : Nat} {l : List UInt8} (h : AW w B q l) : q < w.heap.size := by
  obtain ⟨_, v, h1, _⟩ := h
  exact (Array.getElem?_eq_some_iff.1 h1).1
theorem AW.below {w w' : World} {B q : Nat} {l : List UInt8} (h : AW w B q l) (hb : Below w.heap.size w w') : AW w' B q l := by
  have hlt := h.lt
  obtain ⟨hB, v, h1, hown, hne⟩ := h
  exact ⟨hB, v, (hb.block q hlt).trans h1, hown.kept (row := none) ⟨hb.os, hb.tape, hb.output, hb.size, fun k hk _ => hb.block k hk⟩ (by cases hv : v.ownBlock with | none => exact Or.inl rfl | some x => exact Or.inr (fun e => by cases e)), hne⟩

set_option maxHeartbeats 2000000 in
set_option maxRecDepth 100000 in
theorem awWrite_any (B q : Nat) (l : List UInt8) (s : ByteArray) (w : World) (h : AW w B q l) (hlen : l.length + s.size ≤ 140737488355328) (hBw : B ≤ w.heap.size) :
    Calls Try.prog 106 #[.pointer (some ⟨q, 0, none⟩), .string s] w fun e w' => e = .returned (.tuple #[.int .i64 s.size, .nilIface]) ∧ (AW w' B q (l ++ s.data.toList) ∧ Below B w w') := by
  obtain ⟨i5, hi, hz0, hz1, hz2⟩ := info_parts Try.Builder_Extra_165.infoByte
  obtain ⟨hB, v, hbk, hown, hne⟩ := h
  have c1 : w.cell? ⟨q, 0, none⟩ = some v := by rw [Lib.cell_of_heap hbk]; rfl
  have HBK : Hid (w.heap[q]? = some (.cells #[v] 139 (0, 0))) := hbk
  have HO : Hid (w.ownsRow B 5 1 v (Lib.byteCells l).length (Lib.byteCells l)) := hown
  have HN : Hid (v.ownBlock ≠ some q) := hne
  have HLN : Hid ((Lib.byteCells l).length + s.size ≤ 140737488355328) := by show _ ≤ _; rw [Lib.byteCells_length]; exact hlen
  clear hbk hown hne
  go_enter Try.func106, Try.ntmps106
  go_wp2_with
     (at_builtin
      refine Lib.wpList_append_own_string _ rfl _ _ 139 9 rfl B 5 i5 Try.underlying139 Try.underlying9 hi hz0 hz1 hz2 _ _ _ rfl HO.out s rfl (by have := HLN.out; unfold maxLen; omega) HLN.out hBw ?_
      intro v' w2 hown' hgrow _
      have hlt : q < w.heap.size := (Array.getElem?_eq_some_iff.1 HBK.out).1
      have hb2 : w2.heap[q]? = some (.cells #[v] 139 (0, 0)) := by
        rw [hgrow.block q hlt (fun e => HN.out e.symm)]
        exact HBK.out
      have d1 : w2.cell? ⟨q, 0, none⟩ = some v := by rw [Lib.cell_of_heap hb2]; rfl
      have f1 : w2.frozen? ⟨q, 0, none⟩ = false := Lib.frozen_of_heap hb2 0
      have hb3 : Below B w w2 := (Below.refl B w).grown hgrow hBw (fun k hk => (HO.out.lt k hk).1)
      have hne' := Lib.ownBlock_ne hown' hb2 (by decide)
      have HR : Hid (AW (w2.setCell ⟨q, 0, none⟩ v') B q (l ++ s.data.toList) ∧ Below B w (w2.setCell ⟨q, 0, none⟩ v')) := by
        refine ⟨⟨hB, v', by simp [World.setCell, Array.getElem?_modify, hb2], ?_, hne'⟩, hb3.setCell (p := ⟨q, 0, none⟩) hB _⟩
        rw [Lib.byteCells_append, List.length_append, ← Lib.strCells_eq, Lib.strCells_length]
        exact hown'.kept (row := some q) ⟨rfl, rfl, rfl, by simp [World.setCell], fun k _ hk => Below.heap_setCell _ _ _ _ (fun e => hk (by simp [e]))⟩ (Or.inr hne')
      obtain ⟨ao, n', cap, rfl⟩ : ∃ ao n' cap, v' = .slice ao n' cap := by
        rcases hown'.2 with ⟨hv, _⟩ | ⟨g, cap, cur, hv, _⟩
        · exact ⟨_, _, _, hv⟩
        · exact ⟨_, _, _, hv⟩
      clear hown' hgrow hb2 hb3 hne')
  go_ret2
  exact ⟨rfl, HR.out⟩

end Go.Proofs.Qxb6614432a
