/-
  THE FINDER OBJECT: 258 cells (the pattern; 256 skips; the slice of good skips), behind a structure; what a store does to it.
-/
import Derived.Test.Qxb6614432aFindA
import Derived.OwnWalk
namespace Go.Proofs.Qxb6614432a
open Go.RowKit

/-- The finder's cells as its literal lays them. -/
def finderCells (p sl : Value) : Array Value := #[p] ++ Array.replicate 256 (.int .i64 0) ++ #[sl]

theorem build_finder (s : ByteArray) (a : Option Addr) (n c : Nat) (w : World) : (Instr.build 104 #[(0, .string s), (2, .slice a n c)]).run Try.prog w = .ok (.agg (finderCells (.string s) (.slice a n c))) w := by kernel_rfl
theorem box_finder (s : ByteArray) (a : Option Addr) (n c : Nat) (w : World) : (Instr.box 104 (.agg (finderCells (.string s) (.slice a n c)))).run Try.prog w = .ok (.pointer (some ⟨w.heap.size, 0, none⟩)) (w.alloc (.cells (finderCells (.string s) (.slice a n c)) 104)) := by kernel_rfl


structure Finder (w : World) (f g : Nat) (p : ByteArray) (bad : Nat → Int) (good : List Int) : Prop where
  blk : ∃ cs : Array Value, w.heap[f]? = some (.cells cs 104 (0, 0)) ∧ cs.size = 258 ∧ cs[0]? = some (.string p) ∧ (∀ c, c < 256 → cs[1 + c]? = some (.int .i64 (bad c))) ∧ cs[257]? = some (.slice (some ⟨g, 0, none⟩) p.size p.size)
  row : w.heap[g]? = some (.cells (good.map (Value.int .i64)).toArray 3 (0, 0))
  len : good.length = p.size
  ne : f ≠ g

section
variable {w : World} {f g : Nat} {p : ByteArray} {bad : Nat → Int} {good : List Int}

theorem Finder.ltF (h : Finder w f g p bad good) : f < w.heap.size := by
  obtain ⟨cs, hb, _⟩ := h.blk
  exact (Array.getElem?_eq_some_iff.1 hb).1
theorem Finder.ltG (h : Finder w f g p bad good) : g < w.heap.size := (Array.getElem?_eq_some_iff.1 h.row).1
theorem Finder.pat (h : Finder w f g p bad good) : w.cell? ⟨f, 0, none⟩ = some (.string p) := by
  obtain ⟨cs, hb, _, h0, _⟩ := h.blk
  simp [World.cell?, hb, h0]
theorem Finder.badCell (h : Finder w f g p bad good) {c : Nat} (hc : c < 256) : w.cell? ⟨f, 1 + c, none⟩ = some (.int .i64 (bad c)) := by
  obtain ⟨cs, hb, _, _, h1, _⟩ := h.blk
  simp [World.cell?, hb, h1 c hc]
theorem Finder.slCell (h : Finder w f g p bad good) : w.cell? ⟨f, 257, none⟩ = some (.slice (some ⟨g, 0, none⟩) p.size p.size) := by
  obtain ⟨cs, hb, _, _, _, h2⟩ := h.blk
  simp [World.cell?, hb, h2]
theorem Finder.goodCell (h : Finder w f g p bad good) {j : Nat} {x : Int} (hj : good[j]? = some x) : w.cell? ⟨g, j, none⟩ = some (.int .i64 x) := by
  simp [World.cell?, h.row, hj]
theorem Finder.frozenF (h : Finder w f g p bad good) (o : Nat) : w.frozen? ⟨f, o, none⟩ = false := by
  obtain ⟨cs, hb, _⟩ := h.blk
  simp [World.frozen?, hb]
theorem Finder.frozenG (h : Finder w f g p bad good) (o : Nat) : w.frozen? ⟨g, o, none⟩ = false := by
  simp [World.frozen?, h.row]
theorem Finder.same {w' : World} (h : Finder w f g p bad good) (hf : w'.heap[f]? = w.heap[f]?) (hg : w'.heap[g]? = w.heap[g]?) : Finder w' f g p bad good := by
  obtain ⟨cs, hb, h1⟩ := h.blk
  exact ⟨⟨cs, hf.trans hb, h1⟩, hg.trans h.row, h.len, h.ne⟩
theorem Finder.drew (h : Finder w f g p bad good) : Finder w.drew f g p bad good := h.same rfl rfl
theorem Finder.below {w' : World} (h : Finder w f g p bad good) (hb : Below w.heap.size w w') : Finder w' f g p bad good :=
  h.same (hb.block f h.ltF) (hb.block g h.ltG)
theorem Finder.kept {w' : World} {b : Nat} (h : Finder w f g p bad good) (hb : w.grownBy w' (some b)) (hf : f ≠ b) (hg : g ≠ b) : Finder w' f g p bad good :=
  h.same (hb.block f h.ltF (by simpa using hf)) (hb.block g h.ltG (by simpa using hg))

theorem Finder.setBad (h : Finder w f g p bad good) {c : Nat} (hc : c < 256) (v : Int) : Finder (w.setCell ⟨f, 1 + c, none⟩ (.int .i64 v)) f g p (fun x => if x = c then v else bad x) good := by
  obtain ⟨cs, hb, hsz, h0, h1, h2⟩ := h.blk
  refine ⟨⟨cs.setIfInBounds (1 + c) (.int .i64 v), by simp [World.setCell, Array.getElem?_modify, hb], by simpa using hsz, ?_, fun x hx => ?_, ?_⟩, ?_, h.len, h.ne⟩
  · rw [Array.getElem?_setIfInBounds_ne (by omega)]; exact h0
  · by_cases e : x = c
    · subst e
      rw [Array.getElem?_setIfInBounds_self_of_lt (by omega)]; simp
    · rw [Array.getElem?_setIfInBounds_ne (by omega), h1 x hx]; simp [e]
  · rw [Array.getElem?_setIfInBounds_ne (by omega)]; exact h2
  · rw [Below.heap_setCell _ _ _ _ (fun e => h.ne e.symm)]; exact h.row

theorem Finder.setGood (h : Finder w f g p bad good) (j : Nat) (v : Int) : Finder (w.setCell ⟨g, j, none⟩ (.int .i64 v)) f g p bad (good.set j v) := by
  obtain ⟨cs, hb, h1⟩ := h.blk
  refine ⟨⟨cs, by rw [Below.heap_setCell _ _ _ _ h.ne]; exact hb, h1⟩, ?_, by simpa using h.len, h.ne⟩
  simp [World.setCell, Array.getElem?_modify, h.row, List.map_set]
end

/-- The row that 'make' has laid, exactly. -/
theorem own_row {w2 : World} {B n : Nat} {e : TypeId} {xs : List Value} (h : w2.ownsRow B e 1 (.slice (some ⟨B, 0, none⟩) n n) n xs) : w2.heap[B]? = some (.cells xs.toArray e (0, 0)) := by
  obtain ⟨hl, h2⟩ := h
  rcases h2 with ⟨h0, _⟩ | ⟨g, cap, cur, hv, _, hh, _, _, hs, ht⟩
  · cases h0
  · cases hv
    have hc : cur.toList = xs := by
      rw [← ht]
      exact (List.take_of_length_le (by simp; omega)).symm
    rw [hh, ← hc]

theorem Finder.start {w : World} {f g n : Nat} {p : ByteArray} (hn : p.size = n) (hf : w.heap[f]? = some (.cells (finderCells (.string p) (.slice (some ⟨g, 0, none⟩) n n)) 104 (0, 0))) (hg : w.heap[g]? = some (.cells (List.replicate n (Value.int .i64 0)).toArray 3 (0, 0))) (hne : f ≠ g) :
    Finder w f g p (fun _ => 0) (List.replicate n 0) := by
  refine ⟨⟨_, hf, by simp [finderCells], by simp [finderCells], fun c hc => ?_, ?_⟩, by simpa using hg, by simpa using hn.symm, hne⟩
  · have : c < 256 := hc
    unfold finderCells
    rw [Array.append_assoc, Array.getElem?_append_right (by simp), Array.getElem?_append_left (by simp; omega)]
    simp [Array.getElem?_replicate]; omega
  · subst hn
    unfold finderCells
    rw [Array.getElem?_append_right (by simp)]
    simp

end Go.Proofs.Qxb6614432a
