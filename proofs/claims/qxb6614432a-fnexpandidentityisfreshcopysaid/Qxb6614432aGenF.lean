/-
  THE GENERIC ROAD: (*strings.genericReplacer).Replace (85), at the pair of two empty strings.
-/
import Derived.Test.Qxb6614432aGenE
import Derived.Laws.IdiomStrings
import Derived.Lib.BufferRead
namespace Go.Proofs.Qxb6614432a
open Go.RowKit

theorem Try.under5 : Try.prog.underlying 5 = some (.int .u8) := by kernel_rfl

theorem AW.conv {w : World} {B q : Nat} {s : ByteArray} (h : AW w B q s.data.toList) : ∃ a n c, w.cell? ⟨q, 0, none⟩ = some (.slice a n c) ∧ (convert 139 9 (.slice a n c)).run Try.prog w = .ok (.string s) w := by
  obtain ⟨_, v, h1, ⟨hl, hown⟩, _⟩ := h
  have hc : w.cell? ⟨q, 0, none⟩ = some v := by rw [Lib.cell_of_heap h1]; rfl
  rcases hown with ⟨rfl, h0⟩ | ⟨g, cap, cur, rfl, _, hh, _, _, _, ht⟩
  · refine ⟨_, _, _, hc, ?_⟩
    rw [Lib.byteCells_length] at h0
    have e : s.data.toList = [] := List.eq_nil_of_length_eq_zero h0
    have e2 : s = ⟨#[]⟩ := by
      apply ByteArray.ext
      apply Array.toList_inj.1
      exact e
    rw [e2]
    exact Lib.run_convert_nil_bytes w 139 9 5 0 Try.underlying139 Try.under5 Try.underlying9
  · have hx := run_convert_bytes_back (P := Try.prog) w 139 9 5 ⟨g, 0, none⟩ cap s.data.toList Try.underlying139 Try.under5 Try.underlying9 (fun j hj => by
      rw [Addr.add_lit, Nat.zero_add, Lib.cell_of_heap hh, ← Array.getElem?_toList]
      have h3 : (cur.toList.take ((Lib.byteCells s.data.toList).length * 1))[j]? = (Lib.byteCells s.data.toList)[j]? := by rw [ht]
      rw [Nat.mul_one, Lib.byteCells_length, List.getElem?_take, if_pos hj] at h3
      rw [h3]
      simp [Lib.byteCells, List.getElem?_eq_getElem hj])
    refine ⟨_, _, _, hc, ?_⟩
    rw [Lib.byteCells_length]
    exact hx

set_option maxRecDepth 100000 in
set_option maxHeartbeats 2000000 in
theorem genReplace_any (r : Nat) (a : Addr) (s : ByteArray) (w : World) (hs : s.size ≤ 1048576) (hg : GenBlk w r 2 (.slice (some a) 0 0)) :
    Calls Try.prog 85 #[.pointer (some ⟨r, 0, none⟩), .string s] w fun e w' => e = .returned (.string s) ∧ Below w.heap.size w w' := by
  obtain ⟨i5, hi, hz0, hz1, hz2⟩ := info_parts Try.Builder_Extra_165.infoByte
  have HG : Hid (GenBlk w r 2 (.slice (some a) 0 0)) := hg
  clear hg
  go_enter Try.func85, Try.ntmps85
  go_wp2_with
    (at_make
     refine wpList_make_own _ rfl _ _ 139 rfl w.heap.size 5 i5 (.int .u8 0) 1 Try.underlying139 hi hz0 hz1 .i64 .i64 _ s.size rfl rfl rfl (by rw [hz2]; omega) (by unfold maxLen; omega) (Nat.le_refl _) ?_
     intro w1 hown hgr
     have hb1 : Below w.heap.size w w1 := (Below.refl _ _).grown hgr (Nat.le_refl _) (fun k hk => by cases hk)
     have HB1 : Hid (Below w.heap.size w (w1.alloc (.cells #[.slice (some ⟨w.heap.size, 0, none⟩) 0 s.size] 139))) := hb1.alloc hb1.size _
     have HGW : Hid (Calls Try.prog 86 #[.pointer (some ⟨r, 0, none⟩), .iface 140 (.pointer (some ⟨w1.heap.size, 0, none⟩)), .string s] (w1.alloc (.cells #[.slice (some ⟨w.heap.size, 0, none⟩) 0 s.size] 139)) fun e w' => GWPost (w1.alloc (.cells #[.slice (some ⟨w.heap.size, 0, none⟩) 0 s.size] 139)) w.heap.size w1.heap.size s e w') := by
       refine genWrite_any r w1.heap.size w.heap.size a s _ hs (HG.out.same (HB1.out.block r HG.out.lt)) ?_ HG.out.lt HB1.out.size
       have hlt : w.heap.size < w1.heap.size := (hown.lt w.heap.size rfl).2
       refine ⟨hb1.size, _, heap_alloc_new w1 _, ?_, fun e => ?_⟩
       · exact hown.kept (row := none) ⟨rfl, rfl, rfl, by simp, fun k hk _ => Lib.alloc_old w1 _ k hk⟩ (Or.inr (fun e => by cases e))
       · simp [Value.ownBlock] at e
         omega
     clear hown hgr hb1)
  go_wp2_with
    (go_at_call 86
     refine Calls.mono HGW.out ?_
     rintro e w2 ⟨⟨v, rfl⟩, haw, hb2⟩
     have HB2 : Hid (Below w.heap.size w w2) := HB1.out.trans hb2
     obtain ⟨av, nv, cv, hcell, hconv⟩ := haw.conv
     clear haw hb2 HGW)
  go_ret
  exact ⟨rfl, HB2.out⟩

end Go.Proofs.Qxb6614432a
