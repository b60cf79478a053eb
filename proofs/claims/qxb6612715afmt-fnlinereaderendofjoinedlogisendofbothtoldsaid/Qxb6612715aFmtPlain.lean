/-
  A LINE THAT IS TOO LONG, with no Go in sight.
-/
import Derived.Lib.IndexLaws
namespace Go.Proofs.Qxb6612715aFmt

/-- 65536 bytes from i on, and no line feed among them -/
def Win (t : List UInt8) (i : Nat) : Prop := i + 65536 ≤ t.length ∧ ∀ j, j < 65536 → t[i + j]? ≠ some 10
def Long (t : List UInt8) : Prop := ∃ i, Win t i
/-- no such window within the first c bytes -/
def NoWin (t : List UInt8) (c : Nat) : Prop := ∀ i, i + 65536 ≤ c → ∃ j, j < 65536 ∧ t[i + j]? = some 10
/-- a line begins at c, or the text ends there -/
def LS (t : List UInt8) (c : Nat) : Prop := c = 0 ∨ t[c - 1]? = some 10 ∨ c = t.length

theorem NoWin.zero (t : List UInt8) : NoWin t 0 := fun i hi => absurd hi (by omega)
theorem NoWin.line {t : List UInt8} {c q : Nat} (h : NoWin t c) (hl : LS t c) (hc : c + q < t.length) (hq : q < 65536) (hn : t[c + q]? = some 10) : NoWin t (c + (q + 1)) := by
  intro i hi
  by_cases h1 : i + 65536 ≤ c
  · exact h i h1
  · by_cases h2 : i < c
    · rcases hl with h0 | h0 | h0
      · omega
      · exact ⟨c - 1 - i, by omega, by rw [show i + (c - 1 - i) = c - 1 from by omega]; exact h0⟩
      · omega
    · exact ⟨c + q - i, by omega, by rw [show i + (c + q - i) = c + q from by omega]; exact hn⟩
theorem NoWin.last {t : List UInt8} {c : Nat} (h : NoWin t c) (hl : LS t c) (hc : t.length - c < 65536) : NoWin t t.length := by
  intro i hi
  by_cases h1 : i + 65536 ≤ c
  · exact h i h1
  · by_cases h2 : i < c
    · rcases hl with h0 | h0 | h0
      · omega
      · exact ⟨c - 1 - i, by omega, by rw [show i + (c - 1 - i) = c - 1 from by omega]; exact h0⟩
      · omega
    · omega
theorem NoWin.short {t : List UInt8} (h : NoWin t t.length) : ¬ Long t := by
  rintro ⟨i, h1, h2⟩
  obtain ⟨j, h3, h4⟩ := h i h1
  exact h2 j h3 h4
theorem LS.zero (t : List UInt8) : LS t 0 := Or.inl rfl

theorem long_join (a b : List UInt8) : Long (a ++ (10 :: b)) ↔ Long a ∨ Long b := by
  constructor
  · rintro ⟨i, h1, h2⟩
    simp only [List.length_append, List.length_cons] at h1
    by_cases hi : i + 65536 ≤ a.length
    · refine Or.inl ⟨i, hi, fun j hj hx => h2 j hj ?_⟩
      rw [List.getElem?_append_left (by omega)]; exact hx
    · by_cases hi2 : i ≤ a.length
      · exfalso
        refine h2 (a.length - i) (by omega) ?_
        rw [show i + (a.length - i) = a.length from by omega, List.getElem?_append_right (Nat.le_refl _)]
        simp
      · refine Or.inr ⟨i - (a.length + 1), by omega, fun j hj hx => h2 j hj ?_⟩
        rw [List.getElem?_append_right (by omega), show i + j - a.length = (i - (a.length + 1) + j) + 1 from by omega, List.getElem?_cons_succ]
        exact hx
  · rintro (⟨i, h1, h2⟩ | ⟨i, h1, h2⟩)
    · refine ⟨i, by simp; omega, fun j hj => ?_⟩
      rw [List.getElem?_append_left (by omega)]
      exact h2 j hj
    · refine ⟨a.length + 1 + i, by simp; omega, fun j hj => ?_⟩
      rw [List.getElem?_append_right (by omega), show a.length + 1 + i + j - a.length = (i + j) + 1 from by omega, List.getElem?_cons_succ]
      exact h2 j hj

/-- hasLongLine's count -/
def RunAt (t : List UInt8) (k r : Nat) : Prop := r ≤ k ∧ (∀ j, j < r → t[k - 1 - j]? ≠ some 10) ∧ (r = k ∨ t[k - r - 1]? = some 10) ∧ r < 65536
theorem RunAt.zero (t : List UInt8) : RunAt t 0 0 := ⟨Nat.le_refl _, fun j hj => absurd hj (by omega), Or.inl rfl, by omega⟩
theorem RunAt.feed {t : List UInt8} {k r : Nat} (h : RunAt t k r) (hx : t[k]? = some 10) : RunAt t (k + 1) 0 :=
  ⟨by omega, fun j hj => absurd hj (by omega), Or.inr (by rw [show k + 1 - 0 - 1 = k from by omega]; exact hx), by have := h.2.2.2; omega⟩
theorem RunAt.more {t : List UInt8} {k r : Nat} (h : RunAt t k r) (hx : t[k]? ≠ some 10) (hr : r + 1 < 65536) : RunAt t (k + 1) (r + 1) := by
  obtain ⟨h1, h2, h3, _⟩ := h
  refine ⟨by omega, fun j hj => ?_, ?_, hr⟩
  · rcases Nat.eq_zero_or_pos j with h0 | h0
    · subst h0; exact hx
    · rw [show k + 1 - 1 - j = k - 1 - (j - 1) from by omega]; exact h2 (j - 1) (by omega)
  · rcases h3 with h3 | h3
    · exact Or.inl (by omega)
    · exact Or.inr (by rw [show k + 1 - (r + 1) - 1 = k - r - 1 from by omega]; exact h3)
theorem RunAt.long {t : List UInt8} {k r : Nat} (h : RunAt t k r) (hk : k < t.length) (hx : t[k]? ≠ some 10) (hr : 65536 ≤ r + 1) : Long t := by
  obtain ⟨h1, h2, _, h4⟩ := h
  refine ⟨k - r, by omega, fun j hj => ?_⟩
  by_cases e : j = r
  · rw [show k - r + j = k from by omega]; exact hx
  · rw [show k - r + j = k - 1 - (r - 1 - j) from by omega]; exact h2 _ (by omega)
theorem RunAt.noWin_feed {t : List UInt8} {k : Nat} (hw : NoWin t k) (hx : t[k]? = some 10) : NoWin t (k + 1) := by
  intro i hi
  by_cases h1 : i + 65536 ≤ k
  · exact hw i h1
  · exact ⟨k - i, by omega, by rw [show i + (k - i) = k from by omega]; exact hx⟩
theorem RunAt.noWin_more {t : List UInt8} {k r : Nat} (h : RunAt t k r) (hw : NoWin t k) (hr : r + 1 < 65536) : NoWin t (k + 1) := by
  obtain ⟨h1, h2, h3, _⟩ := h
  intro i hi
  by_cases h5 : i + 65536 ≤ k
  · exact hw i h5
  · rcases h3 with h3 | h3
    · omega
    · exact ⟨k - r - 1 - i, by omega, by rw [show i + (k - r - 1 - i) = k - r - 1 from by omega]; exact h3⟩

/-- what bytes.IndexByte found among the bytes c .. e -/
theorem index_hit {t : List UInt8} {c n q : Nat} (h : Lib.indexByte ((t.drop c).take n) 10 = (q : Int)) : q < n ∧ t[c + q]? = some 10 := by
  obtain ⟨h1, _⟩ := Lib.indexByte_some (o := q) h
  have hl := (List.getElem?_eq_some_iff.1 h1).1
  rw [List.length_take] at hl
  refine ⟨by omega, ?_⟩
  rw [List.getElem?_take, if_pos (by omega), List.getElem?_drop] at h1
  exact h1
theorem index_miss {t : List UInt8} {c n : Nat} (h : Lib.indexByte ((t.drop c).take n) 10 = -1) : ∀ j, j < n → t[c + j]? ≠ some 10 := by
  intro j hj hx
  refine Lib.indexByte_none h j ?_
  rw [List.getElem?_take, if_pos hj, List.getElem?_drop]
  exact hx

end Go.Proofs.Qxb6612715aFmt
