/-
  THE PLAIN LAW: no Go in sight: what replacing the word does.
-/
import Derived.Test.Qxb6614432aSub
namespace Go.Proofs.Qxb6614432a

abbrev W : List UInt8 := [80, 65, 84, 84, 69, 82, 78]

def safeAt (p : List UInt8) (bad : Nat → Int) (good : List Int) (j c d : Nat) : Bool :=
  !(decide (c ≠ (p.getD j 0).toNat) && decide (1 ≤ d) && (decide ((d : Int) < bad c - ((p.length : Int) - 1 - j)) || decide ((d : Int) < good.getD j 0 - ((p.length : Int) - 1 - j)))) ||
    ((decide (d ≤ j) && decide ((p.getD (j - d) 0).toNat ≠ c)) || (List.range p.length).any fun y => decide (j < y) && decide (d ≤ y) && decide (p.getD (y - d) 0 ≠ p.getD y 0))

theorem safe_of {p : List UInt8} {bad : Nat → Int} {good : List Int} (hb : ∀ c, bad c ≤ p.length) (hg : ∀ j, good.getD j 0 ≤ 2 * p.length) (h : ((List.range p.length).all fun j => (List.range 256).all fun c => (List.range (2 * p.length + 1)).all fun d => safeAt p bad good j c d) = true) : Safe p bad good := by
  intro j c d hj hc hne hd hlt
  have hd2 : d < 2 * p.length + 1 := by
    have := hb c
    have := hg j
    rcases hlt with a | a <;> omega
  rw [List.all_eq_true] at h
  have h1 := h j (List.mem_range.2 hj)
  rw [List.all_eq_true] at h1
  have h2 := h1 c (List.mem_range.2 hc)
  rw [List.all_eq_true] at h2
  have h3 := h2 d (List.mem_range.2 hd2)
  simp only [safeAt, Bool.or_eq_true, Bool.and_eq_true, decide_eq_true_eq, Bool.not_eq_true', List.any_eq_true, List.mem_range] at h3
  rcases h3 with h3 | h3 | ⟨y, hy, ⟨⟨a, b⟩, c'⟩⟩
  · exfalso
    have : (decide (c ≠ (p.getD j 0).toNat) && decide (1 ≤ d) && (decide ((d : Int) < bad c - ((p.length : Int) - 1 - j)) || decide ((d : Int) < good.getD j 0 - ((p.length : Int) - 1 - j)))) = true := by
      simp only [Bool.or_eq_true, Bool.and_eq_true, decide_eq_true_eq]
      exact ⟨⟨hne, hd⟩, hlt⟩
    rw [this] at h3
    cases h3
  · exact Or.inl h3
  · exact Or.inr ⟨y, a, hy, b, c'⟩

theorem word_data : word.data.toList = W := rfl
theorem word_check : ((List.range W.length).all fun j => (List.range 256).all fun c => (List.range (2 * W.length + 1)).all fun d => safeAt W (badTo W 6) (gB W 6) j c d) = true := by
  kernel_rfl

end Go.Proofs.Qxb6614432a
