/-
  PLAIN FACTS on lists of bytes for the law 'the joined fields are accepted just when both sides are'. No program in sight.
-/
import Derived.Lib.Bytealg
import Derived.Lib.Strings
namespace Go.Proofs.Qxb6613347a.Plain

/-- What identityAndUser answers, on the bytes. -/
def accept (l : List UInt8) : Bool := decide (0 ≤ Lib.indexByte l 32) && !Lib.hasPrefix l [32] && !Lib.hasSuffix l [32]

theorem indexByte_mem : ∀ (l : List UInt8) (c : UInt8), c ∈ l → 0 ≤ Lib.indexByte l c
  | [], _, h => by cases h
  | b :: l, c, h => by
    unfold Lib.indexByte
    by_cases hb : (b == c) = true
    · rw [if_pos hb]; exact Int.le_refl _
    · rw [if_neg hb]
      have hm : c ∈ l := by
        rcases List.mem_cons.1 h with h | h
        · exact absurd (by simp [h]) hb
        · exact h
      have ih := indexByte_mem l c hm
      split
      · rename_i h1; simp at h1; omega
      · omega

theorem prefix_cons (a b : UInt8) (l : List UInt8) : Lib.hasPrefix (a :: l) [b] = (b == a) := by
  simp [Lib.hasPrefix, List.isPrefixOf]

theorem suffix_snoc (a b : UInt8) (l : List UInt8) : Lib.hasSuffix (l ++ [a]) [b] = (b == a) := by
  simp [Lib.hasSuffix, List.isSuffixOf, List.isPrefixOf]

theorem has_idx (l : List UInt8) (h : (32 : UInt8) ∈ l) : decide (0 ≤ Lib.indexByte l 32) = true := by
  simpa using indexByte_mem l 32 h

/-- 'x is not empty and does not begin with a space'. -/
def headOk (l : List UInt8) : Bool := match l with | [] => false | a :: _ => !((32 : UInt8) == a)
def lastOk (l : List UInt8) : Bool := headOk l.reverse

theorem pre_join (x r : List UInt8) : (!Lib.hasPrefix (x ++ 32 :: r) [32]) = headOk x := by
  cases x with
  | nil => simp [prefix_cons, headOk]
  | cons a x => simp [prefix_cons, headOk]

theorem suf_join (r y : List UInt8) : (!Lib.hasSuffix (r ++ 32 :: y) [32]) = lastOk y := by
  rcases List.eq_nil_or_concat y with rfl | ⟨ys, a, rfl⟩
  · have := suffix_snoc 32 32 r
    simp [this, lastOk, headOk]
  · have e : r ++ 32 :: (ys ++ [a]) = (r ++ 32 :: ys) ++ [a] := by simp
    rw [List.concat_eq_append, e, suffix_snoc]
    simp [lastOk, headOk]

theorem accept_join (x y : List UInt8) : accept (x ++ 32 :: y) = (headOk x && lastOk y) := by
  unfold accept
  rw [has_idx _ (by simp), pre_join, suf_join]
  simp

theorem accept_left (x : List UInt8) : accept (x ++ [32, 117]) = headOk x := by
  rw [accept_join x [117]]; simp [lastOk, headOk]

theorem accept_right (y : List UInt8) : accept (117 :: 32 :: y) = lastOk y := by
  have := accept_join [117] y
  simp only [List.cons_append, List.nil_append] at this
  rw [this]; simp [headOk]

theorem law (x y : List UInt8) : (accept (x ++ 32 :: y) == (accept (x ++ [32, 117]) && accept (117 :: 32 :: y))) = true := by
  rw [accept_join, accept_left, accept_right]; simp

end Go.Proofs.Qxb6613347a.Plain
