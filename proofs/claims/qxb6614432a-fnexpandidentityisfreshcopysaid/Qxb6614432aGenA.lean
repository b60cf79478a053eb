/-
  THE GENERIC ROAD (the pair of two empty strings): makeGenericReplacer (33), trieNode.add (39).
-/
import Derived.Test.Qxb6614432aByteB
namespace Go.Proofs.Qxb6614432a
open Go.RowKit

/-- the generic replacer in block r: its root's priority and table; no byte is mapped -/
structure GenBlk (w : World) (r : Nat) (pr : Int) (tb : Value) : Prop where
  blk : ∃ cs : Array Value, w.heap[r]? = some (.cells cs 92 (0, 0)) ∧ cs.size = 262 ∧ cs[0]? = some (.string ⟨#[]⟩) ∧ cs[1]? = some (.int .i64 pr) ∧ cs[2]? = some (.string ⟨#[]⟩) ∧ cs[3]? = some (.pointer none) ∧ cs[4]? = some tb ∧ cs[5]? = some (.int .i64 0) ∧ ∀ c, c < 256 → cs[6 + c]? = some (.int .u8 0)

section
variable {w : World} {r : Nat} {pr : Int} {tb : Value}
theorem GenBlk.lt (h : GenBlk w r pr tb) : r < w.heap.size := by
  obtain ⟨cs, h1, _⟩ := h.blk
  exact (Array.getElem?_eq_some_iff.1 h1).1
theorem GenBlk.fz (h : GenBlk w r pr tb) (o : Nat) : w.frozen? ⟨r, o, none⟩ = false := by
  obtain ⟨cs, h1, _⟩ := h.blk
  exact Lib.frozen_of_heap h1 o
theorem GenBlk.c0 (h : GenBlk w r pr tb) : w.cell? ⟨r, 0, none⟩ = some (.string ⟨#[]⟩) := by
  obtain ⟨cs, h1, h2, a0, a1, a2, a3, a4, a5, a6⟩ := h.blk
  rw [Lib.cell_of_heap h1, a0]
theorem GenBlk.c1 (h : GenBlk w r pr tb) : w.cell? ⟨r, 1, none⟩ = some (.int .i64 pr) := by
  obtain ⟨cs, h1, h2, a0, a1, a2, a3, a4, a5, a6⟩ := h.blk
  rw [Lib.cell_of_heap h1, a1]
theorem GenBlk.c4 (h : GenBlk w r pr tb) : w.cell? ⟨r, 4, none⟩ = some tb := by
  obtain ⟨cs, h1, h2, a0, a1, a2, a3, a4, a5, a6⟩ := h.blk
  rw [Lib.cell_of_heap h1, a4]
theorem GenBlk.c5 (h : GenBlk w r pr tb) : w.cell? ⟨r, 5, none⟩ = some (.int .i64 0) := by
  obtain ⟨cs, h1, h2, a0, a1, a2, a3, a4, a5, a6⟩ := h.blk
  rw [Lib.cell_of_heap h1, a5]
theorem GenBlk.cm (h : GenBlk w r pr tb) {c : Nat} (hc : c < 256) : w.cell? ⟨r, 6 + c, none⟩ = some (.int .u8 0) := by
  obtain ⟨cs, h1, h2, a0, a1, a2, a3, a4, a5, a6⟩ := h.blk
  rw [Lib.cell_of_heap h1, a6 c hc]
theorem GenBlk.same {w' : World} (h : GenBlk w r pr tb) (e : w'.heap[r]? = w.heap[r]?) : GenBlk w' r pr tb := by
  obtain ⟨cs, h1, h2⟩ := h.blk
  exact ⟨⟨cs, e.trans h1, h2⟩⟩
theorem set_heap {cs : Array Value} {T : TypeId} (h : w.heap[r]? = some (.cells cs T (0, 0))) (j : Nat) (v : Value) : (w.setCell ⟨r, j, none⟩ v).heap[r]? = some (.cells (cs.setIfInBounds j v) T (0, 0)) := by
  simp [World.setCell, Array.getElem?_modify, h]
/-- a store that changes nothing -/
theorem GenBlk.set5 (h : GenBlk w r pr tb) : GenBlk (w.setCell ⟨r, 5, none⟩ (.int .i64 0)) r pr tb := by
  obtain ⟨cs, h1, h2, a0, a1, a2, a3, a4, a5, a6⟩ := h.blk
  refine ⟨⟨_, set_heap h1 5 _, by simpa using h2, ?_, ?_, ?_, ?_, ?_, ?_, fun c hc => ?_⟩⟩
  all_goals rw [Array.getElem?_setIfInBounds]
  all_goals first | (rw [if_neg (by omega)]; assumption) | (simp [h2]; done) | (rw [if_neg (by omega)]; exact a6 c hc)
theorem GenBlk.setm (h : GenBlk w r pr tb) {k : Nat} (hk : k < 256) : GenBlk (w.setCell ⟨r, 6 + k, none⟩ (.int .u8 0)) r pr tb := by
  obtain ⟨cs, h1, h2, a0, a1, a2, a3, a4, a5, a6⟩ := h.blk
  refine ⟨⟨_, set_heap h1 _ _, by simpa using h2, ?_, ?_, ?_, ?_, ?_, ?_, fun c hc => ?_⟩⟩
  all_goals rw [Array.getElem?_setIfInBounds]
  case refine_7 =>
    by_cases e : 6 + k = 6 + c
    · have : 6 + c < cs.size := by omega
      simp [e, this]
    · rw [if_neg e]; exact a6 c hc
  all_goals (rw [if_neg (by omega)]; assumption)
theorem GenBlk.set4 (h : GenBlk w r pr tb) (v : Value) : GenBlk (w.setCell ⟨r, 4, none⟩ v) r pr v := by
  obtain ⟨cs, h1, h2, a0, a1, a2, a3, a4, a5, a6⟩ := h.blk
  refine ⟨⟨_, set_heap h1 4 _, by simpa using h2, ?_, ?_, ?_, ?_, ?_, ?_, fun c hc => ?_⟩⟩
  all_goals rw [Array.getElem?_setIfInBounds]
  all_goals first | (rw [if_neg (by omega)]; assumption) | (simp [h2]; done) | (rw [if_neg (by omega)]; exact a6 c hc)
theorem GenBlk.set0 (h : GenBlk w r pr tb) : GenBlk (w.setCell ⟨r, 0, none⟩ (.string ⟨#[]⟩)) r pr tb := by
  obtain ⟨cs, h1, h2, a0, a1, a2, a3, a4, a5, a6⟩ := h.blk
  refine ⟨⟨_, set_heap h1 0 _, by simpa using h2, ?_, ?_, ?_, ?_, ?_, ?_, fun c hc => ?_⟩⟩
  all_goals rw [Array.getElem?_setIfInBounds]
  all_goals first | (rw [if_neg (by omega)]; assumption) | (simp [h2]; done) | (rw [if_neg (by omega)]; exact a6 c hc)
theorem GenBlk.set1 (h : GenBlk w r pr tb) (x : Int) : GenBlk (w.setCell ⟨r, 1, none⟩ (.int .i64 x)) r x tb := by
  obtain ⟨cs, h1, h2, a0, a1, a2, a3, a4, a5, a6⟩ := h.blk
  refine ⟨⟨_, set_heap h1 1 _, by simpa using h2, ?_, ?_, ?_, ?_, ?_, ?_, fun c hc => ?_⟩⟩
  all_goals rw [Array.getElem?_setIfInBounds]
  all_goals first | (rw [if_neg (by omega)]; assumption) | (simp [h2]; done) | (rw [if_neg (by omega)]; exact a6 c hc)
end

theorem zero92 : Try.zeroCells92 = #[.string ⟨#[]⟩, .int .i64 0, .string ⟨#[]⟩, .pointer none, .slice none 0 0, .int .i64 0] ++ Array.replicate 256 (.int .u8 0) := by kernel_rfl
theorem gen_start (w : World) : GenBlk (w.alloc (.cells Try.zeroCells92 92)) w.heap.size 0 (.slice none 0 0) := by
  refine ⟨⟨_, heap_alloc_new w _, by rw [zero92]; simp, ?_, ?_, ?_, ?_, ?_, ?_, fun c hc => ?_⟩⟩
  all_goals rw [zero92]
  case refine_7 =>
    rw [Array.getElem?_append_right (by simp)]
    have e : 6 + c - 6 = c := by omega
    show (Array.replicate 256 (Value.int .u8 0))[6 + c - 6]? = _
    rw [e, Array.getElem?_replicate, if_pos hc]
  all_goals (rw [Array.getElem?_append_left (by simp)]; rfl)

end Go.Proofs.Qxb6614432a
