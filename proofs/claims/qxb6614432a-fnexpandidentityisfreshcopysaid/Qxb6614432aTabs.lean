/-
  THE FINDER's TABLES as plain functions of the pattern, mirrored on the loops that fill them. No program in sight.
-/
import Derived.Lib.Strings
namespace Go.Proofs.Qxb6614432a

/-- How many bytes the two lists share from the front. -/
def cpl : List UInt8 → List UInt8 → Nat
  | x :: xs, y :: ys => if x = y then cpl xs ys + 1 else 0
  | _, _ => 0

/-- How many bytes the two lists share from the end. -/
def lcs (a b : List UInt8) : Nat := cpl a.reverse b.reverse

/-- The bad-character skips behind k rounds (n: the pattern's length). -/
def badTo (p : List UInt8) : Nat → Nat → Int
  | 0 => fun _ => (p.length : Int)
  | k + 1 => fun x => if x = (p.getD k 0).toNat then (p.length : Int) - 1 - k else badTo p k x

/-- 'lastPrefix' behind m rounds of the falling loop. -/
def lpTo (p : List UInt8) : Nat → Int
  | 0 => (p.length : Int) - 1
  | m + 1 => if Lib.hasPrefix p (p.drop (p.length - m)) then ((p.length - m : Nat) : Int) else lpTo p m

/-- The good skips behind m rounds of the falling loop. -/
def gA (p : List UInt8) : Nat → List Int
  | 0 => List.replicate p.length 0
  | m + 1 => (gA p m).set (p.length - 1 - m) (lpTo p (m + 1) + ((p.length : Int) - 1) - ((p.length - 1 - m : Nat) : Int))

/-- The good skips behind i rounds of the rising loop. -/
def gB (p : List UInt8) : Nat → List Int
  | 0 => gA p p.length
  | i + 1 =>
    let ls := lcs p ((p.drop 1).take i)
    if p.getD (i - ls) 0 = p.getD (p.length - 1 - ls) 0 then gB p i
    else (gB p i).set (p.length - 1 - ls) ((ls : Int) + ((p.length : Int) - 1) - i)

theorem gA_length (p : List UInt8) : ∀ m, (gA p m).length = p.length
  | 0 => by simp [gA]
  | m + 1 => by simp [gA, gA_length p m]
theorem gB_length (p : List UInt8) : ∀ i, (gB p i).length = p.length
  | 0 => gA_length p _
  | i + 1 => by
    simp only [gB]
    split
    · exact gB_length p i
    · rw [List.length_set]; exact gB_length p i

theorem badTo_bound (p : List UInt8) (x : Nat) : ∀ k, k ≤ p.length → 0 ≤ badTo p k x ∧ badTo p k x ≤ p.length
  | 0, _ => by simp [badTo]
  | k + 1, h => by
    have := badTo_bound p x k (by omega)
    simp only [badTo]
    split <;> omega

theorem lpTo_bound (p : List UInt8) (hp : 2 ≤ p.length) : ∀ m, m ≤ p.length → 1 ≤ lpTo p m ∧ lpTo p m ≤ p.length
  | 0, _ => by simp [lpTo]; omega
  | m + 1, h => by
    have := lpTo_bound p hp m (by omega)
    simp only [lpTo]
    split <;> omega

/-- Every good skip moves the window on: at least by one, at most by twice the pattern. -/
theorem gA_bound (p : List UInt8) (hp : 2 ≤ p.length) : ∀ m, m ≤ p.length → ∀ j x, p.length ≤ j + m → (gA p m)[j]? = some x → (p.length : Int) - j ≤ x ∧ x ≤ 2 * p.length
  | 0, _, j, x, hj, hx => by
    have := (List.getElem?_eq_some_iff.1 hx).1
    rw [gA_length] at this
    omega
  | m + 1, h, j, x, hj, hx => by
    have hl := lpTo_bound p hp (m + 1) h
    simp only [gA] at hx
    by_cases e : j = p.length - 1 - m
    · subst e
      rw [List.getElem?_set_self (by rw [gA_length]; omega)] at hx
      cases hx
      omega
    · rw [List.getElem?_set_ne (fun h => e h.symm)] at hx
      exact gA_bound p hp m (by omega) j x (by omega) hx

theorem cpl_le : ∀ (a b : List UInt8), cpl a b ≤ a.length ∧ cpl a b ≤ b.length
  | [], b => by simp [cpl]
  | _ :: _, [] => by simp [cpl]
  | x :: a, y :: b => by
    have := cpl_le a b
    unfold cpl
    split <;> simp <;> omega

theorem lcs_le (a b : List UInt8) : lcs a b ≤ a.length ∧ lcs a b ≤ b.length := by
  have := cpl_le a.reverse b.reverse
  simpa [lcs] using this

theorem lcs_tail (p : List UInt8) (i : Nat) : lcs p ((p.drop 1).take i) ≤ i := by
  have := (lcs_le p ((p.drop 1).take i)).2
  rw [List.length_take] at this
  omega

theorem gB_bound (p : List UInt8) (hp : 2 ≤ p.length) : ∀ i, i < p.length → ∀ (j : Nat) (x : Int), (gB p i)[j]? = some x → (p.length : Int) - j ≤ x ∧ x ≤ 2 * p.length
  | 0, _, j, x, hx => gA_bound p hp _ (Nat.le_refl _) j x (by omega) hx
  | i + 1, h, j, x, hx => by
    have ih := gB_bound p hp i (by omega) j x
    have hls := lcs_tail p i
    simp only [gB] at hx
    split at hx
    · exact ih hx
    · by_cases e : j = p.length - 1 - lcs p ((p.drop 1).take i)
      · subst e
        rw [List.getElem?_set_self (by rw [gB_length]; omega)] at hx
        cases hx
        omega
      · rw [List.getElem?_set_ne (fun h => e h.symm)] at hx
        exact ih hx

end Go.Proofs.Qxb6614432a
