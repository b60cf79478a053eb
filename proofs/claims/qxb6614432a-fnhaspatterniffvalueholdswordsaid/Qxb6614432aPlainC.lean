/-
  THE PLAIN LAW, to its end: what HasPattern answers.
-/
import Derived.Test.Qxb6614432aPlainB
namespace Go.Proofs.Qxb6614432a
open Go.RowKit

def EnvHolds (es : List ByteArray) (k : Nat) : Prop := ∃ i s, i < k ∧ es[i]? = some s ∧ Holds s
def ArgsHold (xs : List ByteArray) (k : Nat) : Prop := ∃ i s, 1 ≤ i ∧ i < k ∧ xs[i]? = some s ∧ ArgHolds s

theorem EnvHolds.succ {es : List ByteArray} {k : Nat} {s : ByteArray} (hs : es[k]? = some s) : EnvHolds es (k + 1) ↔ EnvHolds es k ∨ Holds s := by
  constructor
  · rintro ⟨i, t, h1, h2, h3⟩
    by_cases e : i = k
    · subst e
      rw [hs] at h2
      cases h2
      exact Or.inr h3
    · exact Or.inl ⟨i, t, by omega, h2, h3⟩
  · rintro (⟨i, t, h1, h2, h3⟩ | h)
    · exact ⟨i, t, by omega, h2, h3⟩
    · exact ⟨k, s, by omega, hs, h⟩
theorem ArgsHold.succ {xs : List ByteArray} {k : Nat} {s : ByteArray} (hk : 1 ≤ k) (hs : xs[k]? = some s) : ArgsHold xs (k + 1) ↔ ArgsHold xs k ∨ ArgHolds s := by
  constructor
  · rintro ⟨i, t, h0, h1, h2, h3⟩
    by_cases e : i = k
    · subst e
      rw [hs] at h2
      cases h2
      exact Or.inr h3
    · exact Or.inl ⟨i, t, h0, by omega, h2, h3⟩
  · rintro (⟨i, t, h0, h1, h2, h3⟩ | h)
    · exact ⟨i, t, h0, by omega, h2, h3⟩
    · exact ⟨k, s, hk, by omega, hs, h⟩

theorem env_ne {es ds : List ByteArray} {n : Nat} (hl : es.length = n) (hd : ds.length = n) (h : EnvDone (Says word ⟨#[]⟩) es ds n) : ds = es ↔ ¬ EnvHolds es n := by
  constructor
  · rintro rfl ⟨i, s, h1, h2, h3⟩
    obtain ⟨a, t, h4, h5, h6⟩ := h i h1
    rw [h4] at h2 h5
    cases h2
    cases h5
    exact (env_erase h6).1 rfl h3
  · intro hn
    apply List.ext_getElem?
    intro i
    by_cases hi : i < n
    · obtain ⟨a, t, h4, h5, h6⟩ := h i hi
      rw [h4, h5, (env_erase h6).2 (fun hh => hn ⟨i, a, hi, h4, hh⟩)]
    · rw [List.getElem?_eq_none (by omega), List.getElem?_eq_none (by omega)]
theorem args_ne {xs fs : List ByteArray} {n : Nat} (hl : xs.length = n) (hd : fs.length = n) (h : ArgsDone (Says word ⟨#[]⟩) xs fs n) : fs = xs ↔ ¬ ArgsHold xs n := by
  constructor
  · rintro rfl ⟨i, s, h0, h1, h2, h3⟩
    obtain ⟨t, h4, h5⟩ := h i s h2
    rw [h2] at h4
    cases h4
    rw [if_pos ⟨h0, h1⟩] at h5
    exact (says_erase h5).1 rfl h3
  · intro hn
    apply List.ext_getElem?
    intro i
    by_cases hi : i < n
    · have hx : xs[i]? = some xs[i] := List.getElem?_eq_getElem (by omega)
      obtain ⟨t, h4, h5⟩ := h i _ hx
      rw [h4, hx]
      by_cases h0 : 1 ≤ i
      · rw [if_pos ⟨h0, hi⟩] at h5
        rw [(says_erase h5).2 (fun hh => hn ⟨i, _, h0, hi, hx, hh⟩)]
      · rw [if_neg (by omega)] at h5
        rw [h5]
    · rw [List.getElem?_eq_none (by omega), List.getElem?_eq_none (by omega)]

/-- what HasPattern hands back -/
theorem has_want {w w' : World} {en an : Nat} {es xs : List ByteArray} {e : Ending} {b : Bool} (h : HasPost word w en es an xs e w') (he : es.length = en) (hx : xs.length = an)
    (hb : b = true ↔ (EnvHolds es en ∨ ArgsHold xs an)) : e = .returned (.bool b) ∧ Below w.heap.size w w' := by
  obtain ⟨ds, fs, rfl, h1, h2, h3, h4, h5⟩ := h
  refine ⟨?_, h5⟩
  have e1 := env_ne he h1 h2
  have e2 := args_ne hx h3 h4
  congr 2
  rcases Bool.eq_false_or_eq_true b with hbt | hbf
  · rw [hbt]
    rcases hb.1 hbt with h | h
    · have : ¬ ds = es := fun e => e1.1 e h
      simp [this]
    · have : ¬ fs = xs := fun e => e2.1 e h
      simp [this]
  · have hn : ¬ (EnvHolds es en ∨ ArgsHold xs an) := fun h => by rw [hb.2 h] at hbf; cases hbf
    have h6 : ds = es := e1.2 (fun h => hn (Or.inl h))
    have h7 : fs = xs := e2.2 (fun h => hn (Or.inr h))
    rw [hbf]
    simp [h6, h7]

theorem env_gone {es ds : List ByteArray} {n : Nat} (h : EnvDone (Says word ex) es ds n) : ¬ EnvHolds ds n := by
  rintro ⟨i, s, h1, h2, h3⟩
  obtain ⟨a, t, h4, h5, h6⟩ := h i h1
  rw [h2] at h5
  cases h5
  exact env_swap h6 h3
theorem args_gone {xs fs : List ByteArray} {n : Nat} (hl : xs.length = n) (h : ArgsDone (Says word ex) xs fs n) : ¬ ArgsHold fs n := by
  rintro ⟨i, s, h0, h1, h2, h3⟩
  have hx : xs[i]? = some xs[i] := List.getElem?_eq_getElem (by omega)
  obtain ⟨t, h4, h5⟩ := h i _ hx
  rw [h2] at h4
  cases h4
  rw [if_pos ⟨h0, h1⟩] at h5
  exact says_swap h5 h3

theorem says_size {p v s o : ByteArray} (hv : v.size ≤ p.size) (h : Says p v s o) : o.size ≤ s.size := by
  have := RepSays.size h (by rw [← Lib.size_eq, ← Lib.size_eq]; exact hv)
  rwa [← Lib.size_eq, ← Lib.size_eq] at this
theorem one_size {p v s t : ByteArray} (hv : v.size ≤ p.size) (h : OneEnv (Says p v) s t) : t.size ≤ s.size := by
  rcases h with ⟨_, rfl⟩ | ⟨q, _, h2, o, h3, rfl⟩
  · exact Nat.le_refl _
  · have := says_size hv h3
    rw [ByteArray.size_append, ByteArray.size_extract]
    rw [ByteArray.size_extract] at this
    omega
theorem env_short {p v : ByteArray} {es ds : List ByteArray} {n m : Nat} (hv : v.size ≤ p.size) (hd : ds.length = n) (h : EnvDone (Says p v) es ds n) (hs : ∀ s ∈ es, s.size ≤ m) : ∀ s ∈ ds, s.size ≤ m := by
  intro s hsd
  obtain ⟨i, hi, rfl⟩ := List.mem_iff_getElem.1 hsd
  obtain ⟨a, t, h4, h5, h6⟩ := h i (by omega)
  rw [List.getElem?_eq_getElem hi] at h5
  cases h5
  exact Nat.le_trans (one_size hv h6) (hs a (List.mem_of_getElem? h4))
theorem args_short {p v : ByteArray} {xs fs : List ByteArray} {n m : Nat} (hv : v.size ≤ p.size) (hx : xs.length = n) (hd : fs.length = n) (h : ArgsDone (Says p v) xs fs n) (hs : ∀ s ∈ xs, s.size ≤ m) : ∀ s ∈ fs, s.size ≤ m := by
  intro s hsd
  obtain ⟨i, hi, rfl⟩ := List.mem_iff_getElem.1 hsd
  have hxi : xs[i]? = some xs[i] := List.getElem?_eq_getElem (by omega)
  obtain ⟨t, h4, h5⟩ := h i _ hxi
  rw [List.getElem?_eq_getElem hi] at h4
  cases h4
  have hm := hs _ (List.mem_of_getElem? hxi)
  by_cases h0 : 1 ≤ i ∧ i < n
  · rw [if_pos h0] at h5
    exact Nat.le_trans (says_size hv h5) hm
  · rw [if_neg h0] at h5
    rw [h5]; exact hm

end Go.Proofs.Qxb6614432a
