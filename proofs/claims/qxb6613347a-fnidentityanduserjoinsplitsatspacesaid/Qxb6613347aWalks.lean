/-
  THE WALKS: strings.Contains at " ", strings.HasPrefix, strings.HasSuffix, identityAndUser, the bound on lengths: each computes a plain function.
-/
import Derived.Test.Qxb6613347aRows
import Derived.Test.Qxb6613347aShelf
import Derived.Test.Qxb6613347aPlain
import Derived.WalkKit
import Derived.WalkSpells
namespace Go.Proofs.Qxb6613347a
open Go.RowKit

theorem ret_bool {a b : Bool} (h : a = b) : Ending.returned (.bool a) = .returned (.bool b) := by rw [h]

set_option maxHeartbeats 1000000 in
theorem contains_space (s : ByteArray) (w : World) :
    Calls Try.prog 10 #[.string s, .string ⟨#[32]⟩] w fun e w' => e = .returned (.bool (decide (0 ≤ Lib.indexByte s.data.toList 32))) ∧ w' = w := by
  by_cases hs : ([32] == s.toList) = true
  · have hfin : true = decide (0 ≤ Lib.indexByte s.data.toList 32) := by
      have : [32] = s.toList := by simpa using hs
      rw [← Lib.toList_data, ← this]; decide
    have H : Hid (true = decide (0 ≤ Lib.indexByte s.data.toList 32)) := hfin
    clear hfin
    go_enter Try.func10, Try.ntmps10
    go_wp2_with (first | (go_at_call 17; refine (Try.stringslite_IndexByte _ _ _).mono ?_; rintro e w' ⟨rfl, rfl⟩) | go_in)
    go_ret
    exact ⟨ret_bool H.out, rfl⟩
  · have hs' : ([32] == s.toList) = false := by simpa using hs
    clear hs
    go_enter Try.func10, Try.ntmps10
    go_wp2_with (first | (go_at_call 17; refine (Try.stringslite_IndexByte _ _ _).mono ?_; rintro e w' ⟨rfl, rfl⟩) | go_in)
    go_ret
    exact ⟨rfl, rfl⟩

set_option maxHeartbeats 1000000 in
theorem hasPrefix_walk (s p : ByteArray) (w : World) :
    Calls Try.prog 11 #[.string s, .string p] w fun e w' => e = .returned (.bool (Lib.hasPrefix s.data.toList p.data.toList)) ∧ w' = w := by
  rw [← Lib.hasPrefix_raw]
  go_enter Try.func11, Try.ntmps11
  go_wp2
  · have h : p.size ≤ s.size := by assumption
    go_ret
    refine ⟨?_, rfl⟩
    simp [h]
  · have h : ¬ p.size ≤ s.size := by assumption
    go_ret
    refine ⟨?_, rfl⟩
    simp [h]

set_option maxHeartbeats 1000000 in
theorem hasSuffix_walk (s p : ByteArray) (w : World) (hs : s.size ≤ 9223372036854775807) :
    Calls Try.prog 12 #[.string s, .string p] w fun e w' => e = .returned (.bool (Lib.hasSuffix s.data.toList p.data.toList)) ∧ w' = w := by
  rw [← Lib.hasSuffix_raw]
  go_enter Try.func12, Try.ntmps12
  go_wp2
  · have h : p.size ≤ s.size := by assumption
    go_ret
    refine ⟨?_, rfl⟩
    simp [h]
  · have h : ¬ p.size ≤ s.size := by assumption
    go_ret
    refine ⟨?_, rfl⟩
    simp [h]

set_option maxHeartbeats 1000000 in
theorem accept_walk (s : ByteArray) (w : World) (hs : s.size ≤ 9223372036854775807) :
    Calls Try.prog 9 #[.string s] w fun e w' => e = .returned (.bool (Plain.accept s.data.toList)) ∧ w' = w := by
  go_enter Try.func9, Try.ntmps9
  go_wp2_with (first
    | (go_at_call 10; refine (contains_space _ _).mono ?_; rintro e w' ⟨rfl, rfl⟩)
    | (go_at_call 11; refine (hasPrefix_walk _ _ _).mono ?_; rintro e w' ⟨rfl, rfl⟩)
    | (go_at_call 12; refine (hasSuffix_walk _ _ _ hs).mono ?_; rintro e w' ⟨rfl, rfl⟩))
  · have h1 : 0 ≤ Lib.indexByte s.data.toList 32 := by assumption
    have h2 : Lib.hasPrefix s.data.toList [32] = true := by assumption
    go_ret
    exact ⟨ret_bool (by simp [Plain.accept, h1, h2]), rfl⟩
  · have h1 : 0 ≤ Lib.indexByte s.data.toList 32 := by assumption
    have h2 : ¬ Lib.hasPrefix s.data.toList [32] = true := by assumption
    go_ret
    exact ⟨ret_bool (by simp [Plain.accept, h1, h2]), rfl⟩
  · have h1 : Lib.indexByte s.data.toList 32 < 0 := by assumption
    have h1' : ¬ 0 ≤ Lib.indexByte s.data.toList 32 := by omega
    go_ret
    exact ⟨ret_bool (by simp [Plain.accept, h1']), rfl⟩

set_option maxHeartbeats 1000000 in
theorem accept_walk6 (s : ByteArray) (w : World) (hs : s.size ≤ 9223372036854775807) :
    Calls Try.prog 6 #[.string s] w fun e w' => e = .returned (.bool (Plain.accept s.data.toList)) ∧ w' = w := by
  go_enter Try.func6, Try.ntmps6
  go_wp2_with (go_at_call 9; refine (accept_walk _ _ hs).mono ?_; rintro e w' ⟨rfl, rfl⟩)
  go_ret
  exact ⟨rfl, rfl⟩

set_option maxHeartbeats 1000000 in
theorem bytes_walk (x y : ByteArray) (w : World) :
    Calls Try.prog 5 #[.string x, .string y] w fun e w' => ∃ b, e = .returned (.bool b) ∧ w' = w := by
  go_enter Try.func5, Try.ntmps5
  go_wp2
  all_goals (go_ret; exact ⟨_, rfl, rfl⟩)
end Go.Proofs.Qxb6613347a
