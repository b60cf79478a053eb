/-
  THE WALKS OF THE BOUNDS: zzAddStrs (19), zzBytesFit (7), zzBytes (14).
-/
import Derived.Test.Qxb6614385aFmtBase
namespace Go.Proofs.Qxb6614385aFmt
open Go.RowKit

set_option maxHeartbeats 1000000 in
theorem addStrs_any (z : Int) (a : Option Addr) (n c : Nat) (xs : List ByteArray) (w : World) (hn : n ≤ 9223372036854775807) (hs : SliceAt w a n (strVals xs)) :
    Calls Tryf.prog 19 #[.int .i64 z, .slice a n c] w fun e w' => (∃ z' : Int, e = .returned (.int .i64 z')) ∧ w' = w := by
  have HS : Hid (SliceAt w a n (strVals xs)) := hs
  clear hs
  go_enter Tryf.func19, Tryf.ntmps19
  go_wp2
  go_loop [0, 5] (fun t i => ∃ (k : Nat) (y : Int), k ≤ n ∧ i = .int .i64 k ∧ t = .int .i64 y) (fun _ i => n - (intOf i).toNat)
  case atStart => exact ⟨0, z, Nat.zero_le _, rfl, rfl⟩
  case round =>
    obtain ⟨k, y, hk, rfl, rfl⟩ := hrel
    by_cases hlt : k < n
    · obtain ⟨b, off, s, rfl, _, hc⟩ := HS.out.str hlt
      clear HS
      go_wp2
      · go_ret
        exact ⟨⟨_, rfl⟩, rfl⟩
      · go_ret
        exact ⟨⟨_, rfl⟩, rfl⟩
      · go_round
        case rel => exact ⟨k + 1, _, by omega, by go_num, rfl⟩
        case measure => simp [intOf]; omega
    · go_wp2
      go_ret
      exact ⟨⟨_, rfl⟩, rfl⟩


set_option maxHeartbeats 1000000 in
theorem bytesFit_any (a0 a1 a2 a3 : Option Addr) (n0 c0 n1 c1 n2 c2 n3 c3 : Nat) (bk : List ByteArray) (sk sv : List ByteArray) (z : Int) (w : World)
    (h0 : n0 ≤ 9223372036854775807) (h2 : n2 ≤ 9223372036854775807) (h3 : n3 ≤ 9223372036854775807)
    (s0 : SliceAt w a0 n0 (strVals bk)) (s2 : SliceAt w a2 n2 (strVals sk)) (s3 : SliceAt w a3 n3 (strVals sv)) :
    Calls Tryf.prog 7 #[.slice a0 n0 c0, .slice a1 n1 c1, .slice a2 n2 c2, .slice a3 n3 c3, .int .i64 z] w fun e w' => (∃ b : Bool, e = .returned (.bool b)) ∧ w' = w := by
  have S0 : Hid (SliceAt w a0 n0 (strVals bk)) := s0
  have S2 : Hid (SliceAt w a2 n2 (strVals sk)) := s2
  have S3 : Hid (SliceAt w a3 n3 (strVals sv)) := s3
  clear s0 s2 s3
  go_enter Tryf.func7, Tryf.ntmps7
  go_wp2_with fail
  · go_ret
    exact ⟨⟨_, rfl⟩, rfl⟩
  refine (addStrs_any _ a0 n0 c0 bk _ h0 S0.out).mono ?_
  rintro e w' ⟨⟨z1, rfl⟩, rfl⟩
  go_wp2_with fail
  · go_ret
    exact ⟨⟨_, rfl⟩, rfl⟩
  refine (addStrs_any _ a2 n2 c2 sk _ h2 S2.out).mono ?_
  rintro e w' ⟨⟨z2, rfl⟩, rfl⟩
  go_wp2_with fail
  · go_ret
    exact ⟨⟨_, rfl⟩, rfl⟩
  refine (addStrs_any _ a3 n3 c3 sv _ h3 S3.out).mono ?_
  rintro e w' ⟨⟨z3, rfl⟩, rfl⟩
  go_wp2_with fail
  go_ret
  exact ⟨⟨_, rfl⟩, rfl⟩

/-- What zzBytes answers: some bool; where true, no string of sv is longer than 1 << 20. -/
def BytesSays (sv : List ByteArray) (e : Ending) : Prop := ∃ b : Bool, e = .returned (.bool b) ∧ (b = true → ∀ s, s ∈ sv → s.size ≤ 1048576)
theorem BytesSays.no (sv : List ByteArray) : BytesSays sv (.returned (.bool false)) := ⟨false, rfl, fun h => by cases h⟩
theorem BytesSays.yes {sv : List ByteArray} (h : ∀ s, s ∈ sv → s.size ≤ 1048576) : BytesSays sv (.returned (.bool true)) := ⟨true, rfl, fun _ => h⟩
/-- The first k strings are no longer than 1 << 20. -/
def Short (sv : List ByteArray) (k : Nat) : Prop := ∀ s, s ∈ sv.take k → s.size ≤ 1048576
theorem Short.zero (sv : List ByteArray) : Short sv 0 := by intro s h; simp at h
theorem Short.succ {sv : List ByteArray} {k : Nat} (h : Short sv k) {s : ByteArray} (hs : sv[k]? = some s) (hle : s.size ≤ 1048576) : Short sv (k + 1) := by
  intro x hx
  rw [List.take_add_one, hs] at hx
  rcases List.mem_append.1 hx with hx | hx
  · exact h x hx
  · simp at hx; subst hx; exact hle
theorem Short.all {sv : List ByteArray} {k : Nat} (h : Short sv k) (hk : sv.length ≤ k) : ∀ s, s ∈ sv → s.size ≤ 1048576 := by
  intro s hs; exact h s (by rw [List.take_of_length_le hk]; exact hs)

set_option maxHeartbeats 2000000 in
theorem bytes_any (a0 a1 a2 a3 : Option Addr) (n0 c0 n1 c1 n2 c2 n3 c3 : Nat) (bk : List ByteArray) (sk sv : List ByteArray) (w : World)
    (h0 : n0 ≤ 9223372036854775807) (h1 : n1 ≤ 9223372036854775807) (h2 : n2 ≤ 9223372036854775807) (h3 : n3 ≤ 9223372036854775807)
    (s0 : SliceAt w a0 n0 (strVals bk)) (s2 : SliceAt w a2 n2 (strVals sk)) (s3 : SliceAt w a3 n3 (strVals sv)) :
    Calls Tryf.prog 14 #[.slice a0 n0 c0, .slice a1 n1 c1, .slice a2 n2 c2, .slice a3 n3 c3] w fun e w' => BytesSays sv e ∧ w' = w := by
  have S0 : Hid (SliceAt w a0 n0 (strVals bk)) := s0
  have S2 : Hid (SliceAt w a2 n2 (strVals sk)) := s2
  have S3 : Hid (SliceAt w a3 n3 (strVals sv)) := s3
  clear s0 s2 s3
  go_enter Tryf.func14, Tryf.ntmps14
  go_wp2
  · go_ret
    exact ⟨BytesSays.no _, rfl⟩
  go_loop [9, 10] (fun t i => ∃ (k : Nat) (y : Int), k ≤ n0 ∧ i = .int .i64 k ∧ t = .int .i64 y ∧ 0 ≤ y ∧ y ≤ 1048576) (fun _ i => n0 - (intOf i).toNat)
  case atStart => exact ⟨0, _, Nat.zero_le _, rfl, rfl, by omega, by omega⟩
  case round =>
    obtain ⟨k, y, hk, rfl, rfl, hy0, hy1⟩ := hrel
    by_cases hlt : k < n0
    · obtain ⟨b, off, s, rfl, _, hc⟩ := S0.out.str hlt
      clear S0
      go_wp2
      · go_ret
        exact ⟨BytesSays.no _, rfl⟩
      · go_ret
        exact ⟨BytesSays.no _, rfl⟩
      · go_round
        case rel => exact ⟨k + 1, _, by omega, by go_num, rfl, by omega, by omega⟩
        case measure => simp [intOf]; omega
    clear S0
    go_wp2
    · go_ret
      exact ⟨BytesSays.no _, rfl⟩
    · go_ret
      exact ⟨BytesSays.no _, rfl⟩
    · go_ret
      exact ⟨BytesSays.no _, rfl⟩
    · go_ret
      exact ⟨BytesSays.no _, rfl⟩
    go_loop [9, 11] (fun t i => ∃ (k : Nat) (y : Int), k ≤ n2 ∧ i = .int .i64 k ∧ t = .int .i64 y ∧ 0 ≤ y ∧ y ≤ 1048576) (fun _ i => n2 - (intOf i).toNat)
    case atStart => exact ⟨0, _, Nat.zero_le _, rfl, rfl, by omega, by omega⟩
    case round =>
      clear hy0 hy1 hlt hk
      obtain ⟨k2, y2, hk2, rfl, rfl, hy0, hy1⟩ := hrel
      by_cases hlt : k2 < n2
      · obtain ⟨b, off, s, rfl, _, hc⟩ := S2.out.str hlt
        clear S2
        go_wp2
        · go_ret
          exact ⟨BytesSays.no _, rfl⟩
        · go_ret
          exact ⟨BytesSays.no _, rfl⟩
        · go_round
          case rel => exact ⟨k2 + 1, _, by omega, by go_num, rfl, by omega, by omega⟩
          case measure => simp [intOf]; omega
      clear S2
      go_wp2
      · go_ret
        exact ⟨BytesSays.no _, rfl⟩
      · go_ret
        exact ⟨BytesSays.no _, rfl⟩
      go_loop [9, 12] (fun t i => ∃ (k : Nat) (y : Int), k ≤ n3 ∧ i = .int .i64 k ∧ t = .int .i64 y ∧ 0 ≤ y ∧ y ≤ 1048576 ∧ Short sv k) (fun _ i => n3 - (intOf i).toNat)
      case atStart => exact ⟨0, _, Nat.zero_le _, rfl, rfl, by omega, by omega, Short.zero _⟩
      case round =>
        clear hy0 hy1 hlt hk2
        obtain ⟨k3, y3, hk3, rfl, rfl, hy0, hy1, hsh⟩ := hrel
        by_cases hlt : k3 < n3
        · obtain ⟨b, off, s, rfl, hsv, hc⟩ := S3.out.str hlt
          have HSV : Hid (sv[k3]? = some s) := hsv
          clear S3 hsv
          go_wp2
          · go_ret
            exact ⟨BytesSays.no _, rfl⟩
          · go_ret
            exact ⟨BytesSays.no _, rfl⟩
          · go_round
            case rel => exact ⟨k3 + 1, _, by omega, by go_num, rfl, by omega, by omega, hsh.succ HSV.out (by omega)⟩
            case measure => simp [intOf]; omega
        have hl3 := S3.out.len
        clear S3
        have hfin : Hid (∀ s, s ∈ sv → s.size ≤ 1048576) := hsh.all (by omega)
        go_wp2
        go_ret
        exact ⟨BytesSays.yes hfin.out, rfl⟩

end Go.Proofs.Qxb6614385aFmt
