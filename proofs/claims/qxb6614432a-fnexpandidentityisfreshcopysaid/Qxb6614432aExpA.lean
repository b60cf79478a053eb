/-
  (*Command).expand (15), over whatever replacer: what its two rows hold behind it.
-/
import Derived.Test.Qxb6614432aRepm
import Derived.Lib.IndexLaws
namespace Go.Proofs.Qxb6614432a
open Go.RowKit

def CallPost (R : World → List Nat → Prop) (Says : ByteArray → ByteArray → Prop) (s : ByteArray) (b : Nat) (F : List Nat) (w : World) (e : Ending) (w' : World) : Prop :=
  ∃ o, e = .returned (.string o) ∧ Says s o ∧ (∃ F', R w' F' ∧ ∀ k ∈ F', k ∈ F ∨ w.heap.size ≤ k) ∧ w.grownBy w' (some b)

/-- what the walks ask of a replacer in block b -/
structure Replaces (b : Nat) (R : World → List Nat → Prop) (Says : ByteArray → ByteArray → Prop) : Prop where
  same : ∀ w w' F, R w F → (∀ k ∈ F, w'.heap[k]? = w.heap[k]?) → R w' F
  lt : ∀ w F, R w F → ∀ k ∈ F, k < w.heap.size
  mem : ∀ w F, R w F → b ∈ F
  size : ∀ s o, Says s o → o.size ≤ s.size
  call : ∀ w F s, s.size ≤ 1048576 → R w F → Calls Try.prog 19 #[.pointer (some ⟨b, 0, none⟩), .string s] w fun e w' => CallPost R Says s b F w e w'

/-- n cells at the head of block x hold the strings xs -/
def RowHas (w : World) (x n : Nat) (xs : List ByteArray) : Prop :=
  xs.length = n ∧ ∃ cur : Array Value, w.heap[x]? = some (.cells cur 9 (0, 0)) ∧ ∀ i, i < n → cur[i]? = xs[i]?.map Value.string

section
variable {w : World} {x n : Nat} {xs : List ByteArray}
theorem RowHas.lt (h : RowHas w x n xs) : x < w.heap.size := by
  obtain ⟨_, cur, h1, _⟩ := h
  exact (Array.getElem?_eq_some_iff.1 h1).1
theorem RowHas.cell (h : RowHas w x n xs) {i : Nat} (hi : i < n) : ∃ s, xs[i]? = some s ∧ w.cell? ⟨x, i, none⟩ = some (.string s) := by
  obtain ⟨hl, cur, h1, h2⟩ := h
  have hx : xs[i]? = some xs[i] := List.getElem?_eq_getElem (by omega)
  refine ⟨_, hx, ?_⟩
  rw [Lib.cell_of_heap h1, h2 i hi, hx]; rfl
theorem RowHas.fz (h : RowHas w x n xs) (i : Nat) : w.frozen? ⟨x, i, none⟩ = false := by
  obtain ⟨_, cur, h1, _⟩ := h
  exact Lib.frozen_of_heap h1 i
theorem RowHas.same {w' : World} (h : RowHas w x n xs) (e : w'.heap[x]? = w.heap[x]?) : RowHas w' x n xs := by
  obtain ⟨hl, cur, h1, h2⟩ := h
  exact ⟨hl, cur, e.trans h1, h2⟩
theorem RowHas.set (h : RowHas w x n xs) (i : Nat) (o : ByteArray) : RowHas (w.setCell ⟨x, i, none⟩ (.string o)) x n (xs.set i o) := by
  obtain ⟨hl, cur, h1, h2⟩ := h
  refine ⟨by rw [List.length_set]; exact hl, cur.setIfInBounds i (.string o), by simp [World.setCell, Array.getElem?_modify, h1], fun j hj => ?_⟩
  rw [Array.getElem?_setIfInBounds, List.getElem?_set]
  by_cases e : i = j
  · subst e
    have h3 := h2 i hj
    have h4 : xs[i]? = some xs[i] := List.getElem?_eq_getElem (by omega)
    rw [h4] at h3
    have h5 := (Array.getElem?_eq_some_iff.1 h3).1
    have h6 : i < xs.length := by omega
    simp [h5, h6]
  · simp [e, h2 j hj]
theorem RowHas.slice (h : RowHas w x n xs) : SliceAt w (some ⟨x, 0, none⟩) n (strVals xs) := by
  refine ⟨by simpa using h.1, fun _ => ⟨x, 0, rfl, h.lt, fun i hi => ?_⟩⟩
  obtain ⟨s, h1, h2⟩ := h.cell hi
  rw [Nat.zero_add, h2]
  simp [h1]
theorem RowHas.made {B : Nat} {w2 : World} (h : w2.ownsRow B 9 1 (.slice (some ⟨B, 0, none⟩) n n) n (List.replicate n (.string ⟨#[]⟩))) : RowHas w2 B n (List.replicate n ⟨#[]⟩) := by
  refine ⟨by simp, _, own_row h, fun i hi => ?_⟩
  simp [hi]
theorem RowHas.own {B g cap : Nat} {w2 : World} (h : w2.ownsRow B 9 1 (.slice (some ⟨g, 0, none⟩) n cap) n (strVals xs)) : RowHas w2 g n xs := by
  obtain ⟨hl, h2⟩ := h
  rcases h2 with ⟨h0, _⟩ | ⟨g', cap', cur, hv, _, hh, _, _, hs, ht⟩
  · cases h0
  · cases hv
    refine ⟨by simpa using hl, cur, hh, fun i hi => ?_⟩
    rw [← Array.getElem?_toList]
    have h3 : (cur.toList.take n)[i]? = (strVals xs)[i]? := by rw [Nat.mul_one] at ht; rw [ht]
    rw [List.getElem?_take, if_pos hi] at h3
    rw [h3, List.getElem?_map]
end

def OneEnv (Says : ByteArray → ByteArray → Prop) (s t : ByteArray) : Prop :=
  (Lib.indexByte s.data.toList 61 = -1 ∧ t = s) ∨ ∃ q : Nat, Lib.indexByte s.data.toList 61 = q ∧ q < s.size ∧ ∃ o, Says (s.extract (q + 1) s.size) o ∧ t = s.extract 0 (q + 1) ++ o
def EnvDone (Says : ByteArray → ByteArray → Prop) (es ds : List ByteArray) (k : Nat) : Prop := ∀ i, i < k → ∃ s t, es[i]? = some s ∧ ds[i]? = some t ∧ OneEnv Says s t
def ArgsDone (Says : ByteArray → ByteArray → Prop) (as' ds : List ByteArray) (k : Nat) : Prop :=
  ∀ i s, as'[i]? = some s → ∃ t, ds[i]? = some t ∧ (if 1 ≤ i ∧ i < k then Says s t else t = s)

theorem EnvDone.step {Says : ByteArray → ByteArray → Prop} {es ds : List ByteArray} {k : Nat} {s t : ByteArray} (h : EnvDone Says es ds k) (hk : k < ds.length) (hs : es[k]? = some s) (ho : OneEnv Says s t) : EnvDone Says es (ds.set k t) (k + 1) := by
  intro i hi
  by_cases e : i = k
  · subst e
    exact ⟨s, t, hs, by simp [hk], ho⟩
  · obtain ⟨a, b, h1, h2, h3⟩ := h i (by omega)
    exact ⟨a, b, h1, by rw [List.getElem?_set_ne (by omega)]; exact h2, h3⟩
theorem ArgsDone.start (Says : ByteArray → ByteArray → Prop) (as' : List ByteArray) : ArgsDone Says as' as' 1 := by
  intro i s hs
  refine ⟨s, hs, ?_⟩
  rw [if_neg (by omega)]
theorem ArgsDone.step {Says : ByteArray → ByteArray → Prop} {as' ds : List ByteArray} {k : Nat} {s t : ByteArray} (h : ArgsDone Says as' ds k) (hk1 : 1 ≤ k) (hk : k < ds.length) (hs : as'[k]? = some s) (ho : Says s t) : ArgsDone Says as' (ds.set k t) (k + 1) := by
  intro i u hu
  by_cases e : i = k
  · subst e
    rw [hs] at hu
    cases hu
    exact ⟨t, by simp [hk], by rw [if_pos ⟨hk1, by omega⟩]; exact ho⟩
  · obtain ⟨a, h1, h2⟩ := h i u hu
    refine ⟨a, by rw [List.getElem?_set_ne (by omega)]; exact h1, ?_⟩
    by_cases h3 : 1 ≤ i ∧ i < k
    · rw [if_pos h3] at h2
      rw [if_pos ⟨h3.1, by omega⟩]; exact h2
    · rw [if_neg h3] at h2
      rw [if_neg (by omega)]; exact h2
theorem ArgsDone.at {Says : ByteArray → ByteArray → Prop} {as' ds : List ByteArray} {k : Nat} {s t : ByteArray} (h : ArgsDone Says as' ds k) (hs : as'[k]? = some s) (ht : ds[k]? = some t) : t = s := by
  obtain ⟨a, h1, h2⟩ := h k s hs
  rw [if_neg (by omega)] at h2
  rw [ht] at h1
  cases h1
  exact h2

end Go.Proofs.Qxb6614432a
