/-
  WHAT A SLICE HOLDS, in one word for nil, empty and other slices: 'SliceAt w a n vs': the n cells from the address a on hold vs.
-/
import Derived.Test.Qxb6614432aProg
import Derived.WalkKit
import Derived.WalkSpells
namespace Go.Proofs.Qxb6614432a
open Go.RowKit

def SliceAt (w : World) (a : Option Addr) (n : Nat) (vs : List Value) : Prop :=
  vs.length = n ∧ (0 < n → ∃ b off, a = some ⟨b, off, none⟩ ∧ b < w.heap.size ∧ ∀ i, i < n → w.cell? ⟨b, off + i, none⟩ = vs[i]?)

theorem SliceAt.below {w w' : World} {a : Option Addr} {n : Nat} {vs : List Value} (h : SliceAt w a n vs) (hb : Below w.heap.size w w') : SliceAt w' a n vs := by
  refine ⟨h.1, fun hn => ?_⟩
  obtain ⟨b, off, ha, hlt, hc⟩ := h.2 hn
  exact ⟨b, off, ha, Nat.lt_of_lt_of_le hlt hb.size, fun i hi => (hb.cell (p := ⟨b, off + i, none⟩) hlt).trans (hc i hi)⟩

abbrev strVals (xs : List ByteArray) : List Value := xs.map Value.string
abbrev boolVals (xs : List Bool) : List Value := xs.map Value.bool

theorem SliceAt.str {w : World} {a : Option Addr} {n : Nat} {xs : List ByteArray} (h : SliceAt w a n (strVals xs)) {k : Nat} (hk : k < n) :
    ∃ b off s, a = some ⟨b, off, none⟩ ∧ xs[k]? = some s ∧ w.cell? ⟨b, off + k, none⟩ = some (.string s) := by
  obtain ⟨b, off, ha, _, hc⟩ := h.2 (by omega)
  have hl : k < xs.length := by have := h.1; simp at this; omega
  refine ⟨b, off, xs[k], ha, List.getElem?_eq_getElem hl, ?_⟩
  rw [hc k hk]; simp [hl]

theorem SliceAt.bool {w : World} {a : Option Addr} {n : Nat} {xs : List Bool} (h : SliceAt w a n (boolVals xs)) {k : Nat} (hk : k < n) :
    ∃ b off s, a = some ⟨b, off, none⟩ ∧ xs[k]? = some s ∧ w.cell? ⟨b, off + k, none⟩ = some (.bool s) := by
  obtain ⟨b, off, ha, _, hc⟩ := h.2 (by omega)
  have hl : k < xs.length := by have := h.1; simp at this; omega
  refine ⟨b, off, xs[k], ha, List.getElem?_eq_getElem hl, ?_⟩
  rw [hc k hk]; simp [hl]

theorem SliceAt.len {w : World} {a : Option Addr} {n : Nat} {xs : List ByteArray} (h : SliceAt w a n (strVals xs)) : xs.length = n := by
  have := h.1; simpa using this
theorem SliceAt.lenb {w : World} {a : Option Addr} {n : Nat} {xs : List Bool} (h : SliceAt w a n (boolVals xs)) : xs.length = n := by
  have := h.1; simpa using this

theorem SliceAt.nil (w : World) : SliceAt w none 0 [] := ⟨rfl, fun h => absurd h (by omega)⟩

end Go.Proofs.Qxb6614432a
