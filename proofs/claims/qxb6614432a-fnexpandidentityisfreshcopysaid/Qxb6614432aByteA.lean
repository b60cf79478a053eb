/-
  THE BYTE ROAD (a pair of one-byte strings, both the same): (*strings.byteReplacer).Replace (89) hands its text back.
-/
import Derived.Test.Qxb6614432aExpD
namespace Go.Proofs.Qxb6614432a
open Go.RowKit

/-- block r holds a table of 256 bytes, f -/
def ByteTab (w : World) (r : Nat) (f : Nat → Int) : Prop :=
  ∃ cs : Array Value, w.heap[r]? = some (.cells cs 73 (0, 0)) ∧ cs.size = 256 ∧ ∀ c, c < 256 → cs[c]? = some (.int .u8 (f c))
theorem ByteTab.lt {w : World} {r : Nat} {f : Nat → Int} (h : ByteTab w r f) : r < w.heap.size := by
  obtain ⟨cs, h1, _⟩ := h
  exact (Array.getElem?_eq_some_iff.1 h1).1
theorem ByteTab.cell {w : World} {r : Nat} {f : Nat → Int} (h : ByteTab w r f) {c : Nat} (hc : c < 256) : w.cell? ⟨r, c, none⟩ = some (.int .u8 (f c)) := by
  obtain ⟨cs, h1, _, h2⟩ := h
  rw [Lib.cell_of_heap h1, h2 c hc]
theorem ByteTab.fz {w : World} {r : Nat} {f : Nat → Int} (h : ByteTab w r f) (c : Nat) : w.frozen? ⟨r, c, none⟩ = false := by
  obtain ⟨cs, h1, _⟩ := h
  exact Lib.frozen_of_heap h1 c
theorem ByteTab.same {w w' : World} {r : Nat} {f : Nat → Int} (h : ByteTab w r f) (e : w'.heap[r]? = w.heap[r]?) : ByteTab w' r f := by
  obtain ⟨cs, h1, h2⟩ := h
  exact ⟨cs, e.trans h1, h2⟩
theorem ByteTab.set {w : World} {r : Nat} {f g : Nat → Int} (h : ByteTab w r f) {c : Nat} (v : Int) (hg : ∀ x, x < 256 → (if x = c then v else f x) = g x) : ByteTab (w.setCell ⟨r, c, none⟩ (.int .u8 v)) r g := by
  obtain ⟨cs, h1, h2, h3⟩ := h
  refine ⟨cs.setIfInBounds c (.int .u8 v), by simp [World.setCell, Array.getElem?_modify, h1], by simpa using h2, fun x hx => ?_⟩
  rw [← hg x hx, Array.getElem?_setIfInBounds]
  by_cases e : c = x
  · subst e; simp [h2, hx]
  · rw [if_neg e, if_neg (fun h => e h.symm)]; exact h3 x hx

set_option maxRecDepth 100000 in
set_option maxHeartbeats 2000000 in
theorem byteReplace_same (s : ByteArray) (r : Nat) (w : World) (hs : s.size ≤ 1048576) (ht : ByteTab w r (fun c => c)) :
    Calls Try.prog 89 #[.pointer (some ⟨r, 0, none⟩), .string s] w fun e w' => e = .returned (.string s) ∧ w' = w := by
  have HT : Hid (ByteTab w r (fun c => c)) := ht
  clear ht
  have q75 := fun (w : World) (a : Option Addr) (n c : Nat) => Lib.run_eql_slice_nil (P := Try.prog) w 75 5 a n c 0 0 Try.underlying75
  go_enter Try.func89, Try.ntmps89
  go_wp2
  go_loop [5, 6] (fun b i => ∃ k : Nat, k ≤ s.size ∧ i = .int .i64 k ∧ b = .slice none 0 0) (fun _ i => s.size - (intOf i).toNat)
  case atStart => exact ⟨0, Nat.zero_le _, rfl, rfl⟩
  case round =>
    obtain ⟨k, hk, rfl, rfl⟩ := hrel
    by_cases hks : k < s.size
    · have h256 : s[k].toNat < 256 := s[k].toNat_lt
      have hc := HT.out.cell h256
      have hne : ((s[k].toNat : Int) != (s[k].toNat : Int)) = false := by simp
      go_wp2
      go_round
      case rel => exact ⟨k + 1, by omega, by go_num, rfl⟩
      case measure => simp [intOf]; omega
    · go_wp2
      go_ret
      exact ⟨rfl, rfl⟩

end Go.Proofs.Qxb6614432a
