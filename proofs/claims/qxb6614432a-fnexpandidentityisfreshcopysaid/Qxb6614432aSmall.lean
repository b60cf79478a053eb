/-
  THE LAW's SMALL FUNCTIONS: zzBytes (10), textBytes (7), firstEq (11), hasSub (12).
-/
import Derived.Test.Qxb6614432aExpD
namespace Go.Proofs.Qxb6614432a
open Go.RowKit

/-- The first k strings are no longer than 1 << 20. -/
def Short (sv : List ByteArray) (k : Nat) : Prop := ∀ s, s ∈ sv.take k → s.size ≤ 1048576
theorem Short.zero (sv : List ByteArray) : Short sv 0 := by intro s h; simp at h
theorem Short.succ {sv : List ByteArray} {k : Nat} (h : Short sv k) {s : ByteArray} (hs : sv[k]? = some s) (hle : s.size ≤ 1048576) : Short sv (k + 1) := by
  intro x hx
  rw [List.take_add_one, hs] at hx
  rcases List.mem_append.1 hx with hx | hx
  · exact h x hx
  · simp at hx; subst hx; exact hle
theorem Short.all {sv : List ByteArray} {k : Nat} (h : Short sv k) (hk : sv.length ≤ k) : ∀ s, s ∈ sv → s.size ≤ 1048576 := by
  intro s hs; exact h s (by rw [List.take_of_length_le hk]; exact hs)

def BytesSays (n0 n1 : Nat) (es xs : List ByteArray) (e : Ending) : Prop := ∃ b : Bool, e = .returned (.bool b) ∧ (b = true → n0 ≤ 1048576 ∧ n1 ≤ 1048576 ∧ (∀ s, s ∈ es → s.size ≤ 1048576) ∧ ∀ s, s ∈ xs → s.size ≤ 1048576)
theorem BytesSays.no (n0 n1 : Nat) (es xs : List ByteArray) : BytesSays n0 n1 es xs (.returned (.bool false)) := ⟨false, rfl, fun h => by cases h⟩

set_option maxRecDepth 100000 in
set_option maxHeartbeats 2000000 in
theorem bytes_any (a0 a1 : Option Addr) (n0 c0 n1 c1 : Nat) (es xs : List ByteArray) (w : World) (h0 : n0 ≤ 9223372036854775807) (h1 : n1 ≤ 9223372036854775807)
    (s0 : SliceAt w a0 n0 (strVals es)) (s1 : SliceAt w a1 n1 (strVals xs)) :
    Calls Try.prog 10 #[.slice a0 n0 c0, .slice a1 n1 c1] w fun e w' => BytesSays n0 n1 es xs e ∧ w' = w := by
  have S0 : Hid (SliceAt w a0 n0 (strVals es)) := s0
  have S1 : Hid (SliceAt w a1 n1 (strVals xs)) := s1
  clear s0 s1
  by_cases g0 : (n0 : Int) ≤ 1048576
  case neg =>
    go_enter Try.func10, Try.ntmps10
    go_wp2
    go_ret
    exact ⟨BytesSays.no _ _ _ _, rfl⟩
  go_enter Try.func10, Try.ntmps10
  go_wp2
  go_loop [5, 6] (fun t i => ∃ (k : Nat) (y : Int), k ≤ n0 ∧ i = .int .i64 k ∧ t = .int .i64 y ∧ 0 ≤ y ∧ y ≤ 1048576 ∧ Short es k) (fun _ i => n0 - (intOf i).toNat)
  case atStart => exact ⟨0, _, Nat.zero_le _, rfl, rfl, by omega, by omega, Short.zero _⟩
  case round =>
    obtain ⟨k, y, hk, rfl, rfl, hy0, hy1, hsh⟩ := hrel
    have HSh : Hid (Short es k) := hsh
    clear hsh
    by_cases hlt : k < n0
    · obtain ⟨b, off, s, rfl, hsv, hc⟩ := S0.out.str hlt
      have HSV : Hid (es[k]? = some s) := hsv
      clear S0 hsv
      go_wp2
      · go_ret
        exact ⟨BytesSays.no _ _ _ _, rfl⟩
      · go_ret
        exact ⟨BytesSays.no _ _ _ _, rfl⟩
      · go_round
        case rel => exact ⟨k + 1, _, by omega, by go_num, rfl, by omega, by omega, HSh.out.succ HSV.out (by omega)⟩
        case measure => simp [intOf]; omega
    have HFE : Hid (∀ s, s ∈ es → s.size ≤ 1048576) := HSh.out.all (by rw [S0.out.len]; omega)
    clear S0 HSh
    by_cases g1 : (n1 : Int) ≤ 1048576
    case neg =>
      go_wp2
      go_ret
      exact ⟨BytesSays.no _ _ _ _, rfl⟩
    by_cases g2 : y + (n1 : Int) ≤ 1048576
    case neg =>
      go_wp2
      go_ret
      exact ⟨BytesSays.no _ _ _ _, rfl⟩
    go_wp2
    go_loop [5, 7] (fun t i => ∃ (k : Nat) (y : Int), k ≤ n1 ∧ i = .int .i64 k ∧ t = .int .i64 y ∧ 0 ≤ y ∧ y ≤ 1048576 ∧ Short xs k) (fun _ i => n1 - (intOf i).toNat)
    case atStart => exact ⟨0, _, Nat.zero_le _, rfl, rfl, by omega, by omega, Short.zero _⟩
    case round =>
      clear hy0 hy1 hlt hk g2
      obtain ⟨k2, y2, hk2, rfl, rfl, hy0, hy1, hsh⟩ := hrel
      have HSh : Hid (Short xs k2) := hsh
      clear hsh
      by_cases hlt : k2 < n1
      · obtain ⟨b, off, s, rfl, hsv, hc⟩ := S1.out.str hlt
        have HSV : Hid (xs[k2]? = some s) := hsv
        clear S1 hsv
        go_wp2
        · go_ret
          exact ⟨BytesSays.no _ _ _ _, rfl⟩
        · go_ret
          exact ⟨BytesSays.no _ _ _ _, rfl⟩
        · go_round
          case rel => exact ⟨k2 + 1, _, by omega, by go_num, rfl, by omega, by omega, HSh.out.succ HSV.out (by omega)⟩
          case measure => simp [intOf]; omega
      have HFX : Hid (∀ s, s ∈ xs → s.size ≤ 1048576) := HSh.out.all (by rw [S1.out.len]; omega)
      clear S1 HSh
      go_wp2
      go_ret
      exact ⟨⟨true, rfl, fun _ => ⟨by omega, by omega, HFE.out, HFX.out⟩⟩, rfl⟩

def TextSays (e : Ending) : Prop := ∃ (n : Int) (b : Bool), e = .returned (.tuple #[.int .i64 n, .bool b])

set_option maxRecDepth 100000 in
set_option maxHeartbeats 2000000 in
theorem text_any (a0 a1 : Option Addr) (n0 c0 n1 c1 : Nat) (es xs : List ByteArray) (w : World) (h0 : n0 ≤ 1048576) (h1 : n1 ≤ 1048576)
    (s0 : SliceAt w a0 n0 (strVals es)) (s1 : SliceAt w a1 n1 (strVals xs)) :
    Calls Try.prog 7 #[.slice a0 n0 c0, .slice a1 n1 c1] w fun e w' => TextSays e ∧ w' = w := by
  have S0 : Hid (SliceAt w a0 n0 (strVals es)) := s0
  have S1 : Hid (SliceAt w a1 n1 (strVals xs)) := s1
  clear s0 s1
  go_enter Try.func7, Try.ntmps7
  go_wp2
  go_loop [6, 7] (fun t i => ∃ (k : Nat) (y : Int), k ≤ n0 ∧ i = .int .i64 k ∧ t = .int .i64 y ∧ 0 ≤ y ∧ y ≤ 1048576) (fun _ i => n0 - (intOf i).toNat)
  case atStart => exact ⟨0, _, Nat.zero_le _, rfl, rfl, by omega, by omega⟩
  case round =>
    obtain ⟨k, y, hk, rfl, rfl, hy0, hy1⟩ := hrel
    by_cases hlt : k < n0
    · obtain ⟨b, off, s, rfl, _, hc⟩ := S0.out.str hlt
      clear S0
      go_wp2
      · go_ret2
        exact ⟨⟨_, _, rfl⟩, rfl⟩
      · go_ret2
        exact ⟨⟨_, _, rfl⟩, rfl⟩
      · go_round
        case rel => exact ⟨k + 1, _, by omega, by go_num, rfl, by omega, by omega⟩
        case measure => simp [intOf]; omega
    clear S0
    go_wp2
    go_loop [6, 8] (fun t i => ∃ (k : Nat) (y : Int), k ≤ n1 ∧ i = .int .i64 k ∧ t = .int .i64 y ∧ 0 ≤ y ∧ y ≤ 1048576) (fun _ i => n1 - (intOf i).toNat)
    case atStart => exact ⟨0, _, Nat.zero_le _, rfl, rfl, by omega, by omega⟩
    case round =>
      clear hy0 hy1 hlt hk
      obtain ⟨k2, y2, hk2, rfl, rfl, hy0, hy1⟩ := hrel
      by_cases hlt : k2 < n1
      · obtain ⟨b, off, s, rfl, _, hc⟩ := S1.out.str hlt
        clear S1
        go_wp2
        · go_ret2
          exact ⟨⟨_, _, rfl⟩, rfl⟩
        · go_ret2
          exact ⟨⟨_, _, rfl⟩, rfl⟩
        · go_round
          case rel => exact ⟨k2 + 1, _, by omega, by go_num, rfl, by omega, by omega⟩
          case measure => simp [intOf]; omega
      clear S1
      go_wp2
      go_ret2
      exact ⟨⟨_, _, rfl⟩, rfl⟩

end Go.Proofs.Qxb6614432a
