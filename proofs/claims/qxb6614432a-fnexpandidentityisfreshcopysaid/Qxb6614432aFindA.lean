/-
  THE WALK OF strings.longestCommonSuffix (49).
-/
import Derived.Test.Qxb6614432aBase
import Derived.Test.Qxb6614432aTabs
import Derived.BigQuiet
import Derived.Deep.QuietTactic
import Derived.RegionTactic
import Derived.BigRegion
namespace Go.Proofs.Qxb6614432a
open Go.RowKit

theorem cpl_stop : ∀ (k : Nat) (a b : List UInt8), k ≤ a.length → k ≤ b.length → (∀ j, j < k → a[j]? = b[j]?) → (k = a.length ∨ k = b.length ∨ a[k]? ≠ b[k]?) → cpl a b = k
  | 0, [], b, _, _, _, _ => by simp [cpl]
  | 0, _ :: _, [], _, _, _, _ => by simp [cpl]
  | 0, x :: a, y :: b, _, _, _, h => by
    rcases h with h | h | h
    · simp at h
    · simp at h
    · have hne : x ≠ y := by intro e; apply h; simp [e]
      simp [cpl, hne]
  | k + 1, [], b, h, _, _, _ => by simp at h
  | k + 1, _ :: _, [], _, h, _, _ => by simp at h
  | k + 1, x :: a, y :: b, h1, h2, h3, h4 => by
    have hx : x = y := by have := h3 0 (by omega); simpa using this
    have ih := cpl_stop k a b (by simpa using h1) (by simpa using h2) (fun j hj => by have := h3 (j + 1) (by omega); simpa using this) (by
      rcases h4 with h | h | h
      · left; simpa using h
      · right; left; simpa using h
      · right; right; simpa using h)
    simp [cpl, hx, ih]

/-- The two texts agree on their last k bytes. -/
def SameEnd (a b : ByteArray) (k : Nat) : Prop := ∀ j, j < k → a.data.toList.reverse[j]? = b.data.toList.reverse[j]?

theorem rev_byte {a : ByteArray} {k i : Nat} (hi : i < a.size) (hk : i + k + 1 = a.size) : a.data.toList.reverse[k]? = some a[i] := by
  have hl : a.data.toList.length = a.size := (Lib.size_eq a).symm
  rw [List.getElem?_reverse (by omega), List.getElem?_eq_getElem (by omega)]
  congr 1
  have e : a.data.toList.length - 1 - k = i := by omega
  simp only [e]
  rfl

theorem SameEnd.succ {a b : ByteArray} {k : Nat} (h : SameEnd a b k) (he : a.data.toList.reverse[k]? = b.data.toList.reverse[k]?) : SameEnd a b (k + 1) := by
  intro j hj
  by_cases hk : j < k
  · exact h j hk
  · have : j = k := by omega
    subst this; exact he

theorem SameEnd.stop {a b : ByteArray} {k : Nat} (h : SameEnd a b k) (ha : k ≤ a.size) (hb : k ≤ b.size) (hs : k = a.size ∨ k = b.size ∨ a.data.toList.reverse[k]? ≠ b.data.toList.reverse[k]?) : lcs a.data.toList b.data.toList = k := by
  have la : a.data.toList.length = a.size := (Lib.size_eq a).symm
  have lb : b.data.toList.length = b.size := (Lib.size_eq b).symm
  exact cpl_stop k _ _ (by simp; exact ha) (by simp; exact hb) h (by simpa using hs)

theorem u8_ne {x y : UInt8} (h : ((x.toNat : Int) != (y.toNat : Int)) = true) : x ≠ y := by
  intro e; subst e; simp at h
theorem u8_eq {x y : UInt8} (h : ((x.toNat : Int) != (y.toNat : Int)) = false) : x = y := by
  simp at h
  exact UInt8.toNat_inj.1 (by omega)

set_option maxRecDepth 100000 in
set_option maxHeartbeats 1000000 in
theorem lcs_any (a b : ByteArray) (w : World) (ha : a.size ≤ 4096) (hb : b.size ≤ 4096) :
    Calls Try.prog 49 #[.string a, .string b] w fun e w' => e = .returned (.int .i64 (lcs a.data.toList b.data.toList)) ∧ Below w.heap.size w w' := by
  go_enter Try.func49, Try.ntmps49
  go_wp2
  go_loopw [4] (fun i wr => ∃ k : Nat, i = .int .i64 k ∧ k ≤ a.size ∧ k ≤ b.size ∧ SameEnd a b k ∧ Below w.heap.size w wr) (fun i _ => a.size - (intOf i).toNat)
  case atStart => exact ⟨0, rfl, Nat.zero_le _, Nat.zero_le _, fun j hj => by omega, Below.refl _ _⟩
  case round =>
    obtain ⟨k, rfl, hka, hkb, hse, hbel⟩ := hrel
    have HS : Hid (SameEnd a b k) := hse
    have HB : Hid (Below w.heap.size w wr) := hbel
    clear hse hbel
    by_cases hk : k < a.size ∧ k < b.size
    · obtain ⟨h1, h2⟩ := hk
      obtain ⟨i, hi⟩ : ∃ i : Nat, i + k + 1 = a.size := ⟨a.size - 1 - k, by omega⟩
      obtain ⟨j, hj⟩ : ∃ j : Nat, j + k + 1 = b.size := ⟨b.size - 1 - k, by omega⟩
      have ei : (a.size : Int) - 1 - (k : Int) = (i : Int) := by omega
      have ej : (b.size : Int) - 1 - (k : Int) = (j : Int) := by omega
      have hi' : i < a.size := by omega
      have hj' : j < b.size := by omega
      have ra := rev_byte hi' hi
      have rb := rev_byte hj' hj
      have RA : Hid (a.data.toList.reverse[k]? = some a[i]) := ra
      have RB : Hid (b.data.toList.reverse[k]? = some b[j]) := rb
      clear ra rb hi hj
      by_cases hne : ((a[i].toNat : Int) != (b[j].toNat : Int)) = true
      · have hfin : Hid (lcs a.data.toList b.data.toList = k) := HS.out.stop hka hkb (Or.inr (Or.inr (by rw [RA.out, RB.out]; exact fun e => u8_ne hne (Option.some.inj e))))
        clear HS RA RB
        go_wp2
        go_region
        all_goals
          go_wp2
          go_ret
          exact ⟨by rw [hfin.out]; rfl, HB.out.drew⟩
      · have hne' : ((a[i].toNat : Int) != (b[j].toNat : Int)) = false := by simpa using hne
        have HS1 : Hid (SameEnd a b (k + 1)) := HS.out.succ (by rw [RA.out, RB.out, u8_eq hne'])
        clear HS RA RB hne
        go_wp2
        go_region
        all_goals
          go_wp2
          go_roundw
          case rel => exact ⟨k + 1, by go_num, by omega, by omega, HS1.out, HB.out.drew⟩
          case measure => simp [intOf]; omega
    · have hfin : Hid (lcs a.data.toList b.data.toList = k) := HS.out.stop hka hkb (by omega)
      by_cases h1 : k < a.size
      all_goals
        go_wp2
        go_ret
        exact ⟨by rw [hfin.out]; rfl, HB.out⟩

end Go.Proofs.Qxb6614432a
