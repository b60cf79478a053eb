/-
  THE FRESH COPY's SMALL FUNCTIONS: zzBytes (6), cloneStrings (8).
-/
import Derived.Test.Qxb6614432aSmall
import Derived.Test.Qxb6614432aExpE
namespace Go.Proofs.Qxb6614432a
open Go.RowKit

set_option maxRecDepth 100000 in
set_option maxHeartbeats 2000000 in
theorem bytes3_any (old : ByteArray) (a0 a1 : Option Addr) (n0 c0 n1 c1 : Nat) (es xs : List ByteArray) (w : World) (h0 : n0 ≤ 9223372036854775807) (h1 : n1 ≤ 9223372036854775807)
    (s0 : SliceAt w a0 n0 (strVals es)) (s1 : SliceAt w a1 n1 (strVals xs)) :
    Calls Try.prog 6 #[.slice a0 n0 c0, .slice a1 n1 c1, .string old] w fun e w' => BytesSays n0 n1 es xs e ∧ w' = w := by
  have S0 : Hid (SliceAt w a0 n0 (strVals es)) := s0
  have S1 : Hid (SliceAt w a1 n1 (strVals xs)) := s1
  clear s0 s1
  by_cases g0 : (n0 : Int) ≤ 1048576
  case neg =>
    go_enter Try.func6, Try.ntmps6
    go_wp2
    go_ret
    exact ⟨BytesSays.no _ _ _ _, rfl⟩
  go_enter Try.func6, Try.ntmps6
  go_wp2
  go_loop [7, 8] (fun t i => ∃ (k : Nat) (y : Int), k ≤ n0 ∧ i = .int .i64 k ∧ t = .int .i64 y ∧ 0 ≤ y ∧ y ≤ 1048576 ∧ Short es k) (fun _ i => n0 - (intOf i).toNat)
  case atStart => exact ⟨0, _, Nat.zero_le _, rfl, rfl, by omega, by omega, Short.zero _⟩
  case round =>
    obtain ⟨k, y, hk, rfl, rfl, hy0, hy1, hsh⟩ := hrel
    have HSh : Hid (Short es k) := hsh
    clear hsh
    by_cases hlt : k < n0
    · obtain ⟨b, off, s, rfl, hsv, hc⟩ := S0.out.str hlt
      have HSV : Hid (es[k]? = some s) := hsv
      clear S0 hsv
      go_wp2
      · go_ret
        exact ⟨BytesSays.no _ _ _ _, rfl⟩
      · go_ret
        exact ⟨BytesSays.no _ _ _ _, rfl⟩
      · go_round
        case rel => exact ⟨k + 1, _, by omega, by go_num, rfl, by omega, by omega, HSh.out.succ HSV.out (by omega)⟩
        case measure => simp [intOf]; omega
    have HFE : Hid (∀ s, s ∈ es → s.size ≤ 1048576) := HSh.out.all (by rw [S0.out.len]; omega)
    clear S0 HSh
    by_cases g1 : (n1 : Int) ≤ 1048576
    case neg =>
      go_wp2
      go_ret
      exact ⟨BytesSays.no _ _ _ _, rfl⟩
    by_cases g2 : y + (n1 : Int) ≤ 1048576
    case neg =>
      go_wp2
      go_ret
      exact ⟨BytesSays.no _ _ _ _, rfl⟩
    go_wp2
    go_loop [7, 9] (fun t i => ∃ (k : Nat) (y : Int), k ≤ n1 ∧ i = .int .i64 k ∧ t = .int .i64 y ∧ 0 ≤ y ∧ y ≤ 1048576 ∧ Short xs k) (fun _ i => n1 - (intOf i).toNat)
    case atStart => exact ⟨0, _, Nat.zero_le _, rfl, rfl, by omega, by omega, Short.zero _⟩
    case round =>
      clear hy0 hy1 hlt hk g2
      obtain ⟨k2, y2, hk2, rfl, rfl, hy0, hy1, hsh⟩ := hrel
      have HSh : Hid (Short xs k2) := hsh
      clear hsh
      by_cases hlt : k2 < n1
      · obtain ⟨b, off, s, rfl, hsv, hc⟩ := S1.out.str hlt
        have HSV : Hid (xs[k2]? = some s) := hsv
        clear S1 hsv
        go_wp2
        · go_ret
          exact ⟨BytesSays.no _ _ _ _, rfl⟩
        · go_ret
          exact ⟨BytesSays.no _ _ _ _, rfl⟩
        · go_round
          case rel => exact ⟨k2 + 1, _, by omega, by go_num, rfl, by omega, by omega, HSh.out.succ HSV.out (by omega)⟩
          case measure => simp [intOf]; omega
      have HFX : Hid (∀ s, s ∈ xs → s.size ≤ 1048576) := HSh.out.all (by rw [S1.out.len]; omega)
      clear S1 HSh
      by_cases g3 : (old.size : Int) ≤ 1048576
      case neg =>
        go_wp2
        go_ret
        exact ⟨BytesSays.no _ _ _ _, rfl⟩
      by_cases g4 : y2 + (old.size : Int) ≤ 1048576
      case neg =>
        go_wp2
        go_ret
        exact ⟨BytesSays.no _ _ _ _, rfl⟩
      go_wp2
      go_ret
      exact ⟨⟨true, rfl, fun _ => ⟨by omega, by omega, HFE.out, HFX.out⟩⟩, rfl⟩

def CloneSays (w : World) (a : Option Addr) (n : Nat) (xs : List ByteArray) (e : Ending) (w' : World) : Prop :=
  ∃ a' c', e = .returned (.slice a' n c') ∧ a'.isNone = a.isNone ∧ SliceAt w' a' n (strVals xs) ∧ Below w.heap.size w w'

theorem take_set_succ {ds xs : List ByteArray} {k : Nat} {s : ByteArray} (h : ds.take k = xs.take k) (hk : k < ds.length) (hs : xs[k]? = some s) : (ds.set k s).take (k + 1) = xs.take (k + 1) := by
  rw [List.take_add_one, List.take_add_one, hs, List.take_set_of_le (Nat.le_refl _), h]
  simp [hk]

set_option maxRecDepth 100000 in
set_option maxHeartbeats 2000000 in
theorem clone_any (a : Option Addr) (n c : Nat) (xs : List ByteArray) (w : World) (hn : n ≤ 1048576) (s : SliceAt w a n (strVals xs)) :
    Calls Try.prog 8 #[.slice a n c] w fun e w' => CloneSays w a n xs e w' := by
  have S : Hid (SliceAt w a n (strVals xs)) := s
  clear s
  have eq22 := fun (w : World) (a : Option Addr) (n c : Nat) => Lib.run_eql_slice_nil (P := Try.prog) w 22 9 a n c 0 0 Try.underlying22
  obtain ⟨i9, hi, hz0, hz1, hz2⟩ := info_parts Try.info9
  cases a with
  | none =>
    have h0 : n = 0 := by
      rcases Nat.eq_zero_or_pos n with h | h
      · exact h
      · obtain ⟨_, _, h1, _⟩ := S.out.2 h
        cases h1
    subst h0
    go_enter Try.func8, Try.ntmps8
    go_wp2
    go_ret
    exact ⟨none, 0, rfl, rfl, S.out, Below.refl _ _⟩
  | some ad =>
    go_enter Try.func8, Try.ntmps8
    go_wp2_with (at_make
                 refine wpList_make_full _ rfl _ _ 22 rfl w.heap.size 9 i9 (.string ⟨#[]⟩) 1 Try.underlying22 hi hz0 hz1 .i64 .i64 _ _ n rfl rfl rfl rfl (by rw [hz2]; omega) (by unfold maxLen; omega) (Nat.le_refl _) ?_
                 intro w1 hown hgrow
                 have HRow : Hid (RowHas w1 w.heap.size n (List.replicate n ⟨#[]⟩)) := by
                   have e : (madeCells (Value.string ⟨#[]⟩).cells (n * 1)).toList = List.replicate n (.string ⟨#[]⟩) := by rw [Nat.mul_one]; exact toList_madeCells_one _ _
                   rw [e] at hown
                   exact RowHas.made hown
                 have HB1 : Hid (Below w.heap.size w w1) := (Below.refl _ _).grown hgrow (Nat.le_refl _) (fun k hk => by cases hk)
                 clear hown hgrow)
    clear eq22 hi hz0 hz1 hz2
    go_loopw [4] (fun i wr => ∃ (k : Nat) (ds : List ByteArray), i = .int .i64 k ∧ k ≤ n ∧ ds.take k = xs.take k ∧ RowHas wr w.heap.size n ds ∧ Below w.heap.size w wr) (fun i _ => n - (intOf i).toNat)
    case atStart => exact ⟨0, List.replicate n ⟨#[]⟩, rfl, Nat.zero_le _, by rw [List.take_zero, List.take_zero], HRow.out, HB1.out⟩
    case round =>
      clear HRow HB1
      obtain ⟨k, ds, rfl, hk, htk, hrow, hbel⟩ := hrel
      have HTK : Hid (ds.take k = xs.take k) := htk
      have HRow : Hid (RowHas wr w.heap.size n ds) := hrow
      have HB : Hid (Below w.heap.size w wr) := hbel
      clear htk hrow hbel
      by_cases hkn : k < n
      · obtain ⟨bb, off, s, hea, hsk, hcell⟩ := (S.out.below HB.out).str hkn
        have HSK : Hid (xs[k]? = some s) := hsk
        obtain ⟨old, _, hoc⟩ := HRow.out.cell hkn
        have hof := HRow.out.fz k
        have HR1 : Hid (RowHas (wr.setCell ⟨w.heap.size, k, none⟩ (.string s)) w.heap.size n (ds.set k s)) := HRow.out.set k s
        have HB1 : Hid (Below w.heap.size w (wr.setCell ⟨w.heap.size, k, none⟩ (.string s))) := HB.out.setCell (p := ⟨w.heap.size, k, none⟩) (Nat.le_refl _) _
        have HTK1 : Hid ((ds.set k s).take (k + 1) = xs.take (k + 1)) := take_set_succ HTK.out (by have := HRow.out.1; omega) HSK.out
        clear hsk HSK HTK S HRow HB
        cases hea
        go_wp2
        go_roundw
        case rel => exact ⟨k + 1, _, by go_num, by omega, HTK1.out, HR1.out, HB1.out⟩
        case measure => simp [intOf]; omega
      · have HE : Hid (SliceAt wr (some ⟨w.heap.size, 0, none⟩) n (strVals xs)) := by
          have h1 := HTK.out
          have h2 := HRow.out.1
          have h3 := S.out.len
          rw [List.take_of_length_le (by omega), List.take_of_length_le (by omega)] at h1
          rw [← h1]
          exact HRow.out.slice
        clear S HTK HRow
        go_wp2
        go_ret
        exact ⟨_, _, rfl, rfl, HE.out, HB.out⟩

end Go.Proofs.Qxb6614432a
