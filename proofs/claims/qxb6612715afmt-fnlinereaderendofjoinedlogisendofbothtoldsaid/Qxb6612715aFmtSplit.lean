/-
  dropCR (28), ScanLines (22), setErr (23), advance (24).
-/
import Derived.Test.Qxb6612715aFmtBlk
import Derived.Test.Qxb6612715aFmtShelf
namespace Go.Proofs.Qxb6612715aFmt
open Go.RowKit

set_option maxRecDepth 100000 in
set_option maxHeartbeats 2000000 in
theorem dropCR_any (bb o n cap : Nat) (w : World) (hcap : n ≤ cap) (hn : n ≤ 65536) (hl : 0 < n → ∃ x : Int, w.cell? ⟨bb, o + (n - 1), none⟩ = some (.int .u8 x)) :
    ∃ m, ∀ i, Calls Tryf.prog 28 #[.slice (some ⟨bb, o, none⟩) n cap] (w.drewN i) fun e w' => e = .returned (.slice (some ⟨bb, o, none⟩) m cap) ∧ w' = w.drewN i := by
  rcases Nat.eq_zero_or_pos n with h0 | h0
  · subst h0
    refine ⟨0, fun i => ?_⟩
    go_enter Tryf.func28, Tryf.ntmps28
    go_wp2
    go_ret
    exact ⟨rfl, rfl⟩
  · obtain ⟨k, rfl⟩ : ∃ k, n = k + 1 := ⟨n - 1, by omega⟩
    obtain ⟨x, hx⟩ := hl h0
    rw [Nat.add_sub_cancel] at hx
    have hk : (k : Int) + 1 - 1 = (k : Int) := by omega
    cases h13 : (x == 13)
    · refine ⟨k + 1, fun i => ?_⟩
      go_enter Tryf.func28, Tryf.ntmps28
      go_wp2
      go_ret
      exact ⟨rfl, rfl⟩
    · refine ⟨k, fun i => ?_⟩
      go_enter Tryf.func28, Tryf.ntmps28
      go_wp2
      go_ret
      exact ⟨rfl, rfl⟩

theorem bytes_last {w : World} {bb o : Nat} {d : ByteArray} (h : Lib.Bytes w bb o d) {q : Nat} (hq : q ≤ d.size) : 0 < q → ∃ x : Int, w.cell? ⟨bb, o + (q - 1), none⟩ = some (.int .u8 x) :=
  fun h0 => ⟨_, h (q - 1) (by omega)⟩
theorem index_at (bb o cap : Nat) (d : ByteArray) (w : World) (v : Int) (hd : Lib.Bytes w bb o d) (hq : Lib.indexByte d.data.toList 10 = v) (i : Nat) :
    Calls Tryf.prog 27 #[.slice (some ⟨bb, o, none⟩) d.size cap, .int .u8 10] (w.drewN i) fun e w' => e = .returned (.int .i64 v) ∧ w' = w.drewN i := by
  have h := Tryf.bytes_IndexByte_bytes bb o cap d 10 (w.drewN i) (hd.drewN i)
  rw [show ((10 : Int).toNat.toUInt8) = 10 from rfl, hq] at h
  exact h

set_option maxRecDepth 100000 in
set_option maxHeartbeats 2000000 in
theorem split_line (bb o cap q : Nat) (d : ByteArray) (ae : Bool) (w : World) (hd : Lib.Bytes w bb o d) (hcap : d.size ≤ cap) (hs : d.size ≤ 65536) (hq : Lib.indexByte d.data.toList 10 = (q : Int)) (hqd : q < d.size) :
    ∃ m, ∀ i, Calls Tryf.prog 22 #[.slice (some ⟨bb, o, none⟩) d.size cap, .bool ae] (w.drewN i) fun e w' => e = .returned (.tuple #[.int .i64 ((q : Int) + 1), .slice (some ⟨bb, o, none⟩) m cap, .nilIface]) ∧ w' = w.drewN i := by
  obtain ⟨m, hm⟩ := dropCR_any bb o q cap w (by omega) (by omega) (bytes_last hd (by omega))
  refine ⟨m, fun i => ?_⟩
  have HI : Hid (Calls Tryf.prog 27 #[.slice (some ⟨bb, o, none⟩) d.size cap, .int .u8 10] (w.drewN i) fun e w' => e = .returned (.int .i64 (q : Int)) ∧ w' = w.drewN i) := index_at bb o cap d w _ hd hq i
  have HD : Hid (Calls Tryf.prog 28 #[.slice (some ⟨bb, o, none⟩) q cap] (w.drewN i) fun e w' => e = .returned (.slice (some ⟨bb, o, none⟩) m cap) ∧ w' = w.drewN i) := hm i
  have hz : ((d.size : Int) == 0) = false := by rw [beq_eq_false_iff_ne]; omega
  clear hd hq hm
  go_enter Tryf.func22, Tryf.ntmps22
  cases ae
  all_goals
    go_wp2_with first
      | (go_at_call 27
         refine Calls.mono HI.out ?_
         rintro e w' ⟨rfl, hw'⟩
         rw [hw']
         clear hw' w')
      | (go_at_call 28
         refine Calls.mono HD.out ?_
         rintro e w' ⟨rfl, hw'⟩
         rw [hw']
         clear hw' w')
    go_ret3
    exact ⟨rfl, rfl⟩

set_option maxRecDepth 100000 in
set_option maxHeartbeats 2000000 in
theorem split_more (bb o cap : Nat) (d : ByteArray) (w : World) (hd : Lib.Bytes w bb o d) (hq : Lib.indexByte d.data.toList 10 = -1) (i : Nat) :
    Calls Tryf.prog 22 #[.slice (some ⟨bb, o, none⟩) d.size cap, .bool false] (w.drewN i) fun e w' => e = .returned (.tuple #[.int .i64 0, .slice none 0 0, .nilIface]) ∧ w' = w.drewN i := by
  have HI : Hid (Calls Tryf.prog 27 #[.slice (some ⟨bb, o, none⟩) d.size cap, .int .u8 10] (w.drewN i) fun e w' => e = .returned (.int .i64 (-1)) ∧ w' = w.drewN i) := index_at bb o cap d w _ hd hq i
  clear hd hq
  go_enter Tryf.func22, Tryf.ntmps22
  go_wp2_with (go_at_call 27
               refine Calls.mono HI.out ?_
               rintro e w' ⟨rfl, hw'⟩
               rw [hw']
               clear hw' w')
  go_ret3
  exact ⟨rfl, rfl⟩

set_option maxRecDepth 100000 in
set_option maxHeartbeats 2000000 in
theorem split_last (bb o cap : Nat) (d : ByteArray) (w : World) (hd : Lib.Bytes w bb o d) (hcap : d.size ≤ cap) (hs : d.size ≤ 65536) (hq : Lib.indexByte d.data.toList 10 = -1) (h0 : 0 < d.size) :
    ∃ m, ∀ i, Calls Tryf.prog 22 #[.slice (some ⟨bb, o, none⟩) d.size cap, .bool true] (w.drewN i) fun e w' => e = .returned (.tuple #[.int .i64 (d.size : Int), .slice (some ⟨bb, o, none⟩) m cap, .nilIface]) ∧ w' = w.drewN i := by
  obtain ⟨m, hm⟩ := dropCR_any bb o d.size cap w hcap hs (bytes_last hd (Nat.le_refl _))
  refine ⟨m, fun i => ?_⟩
  have HI : Hid (Calls Tryf.prog 27 #[.slice (some ⟨bb, o, none⟩) d.size cap, .int .u8 10] (w.drewN i) fun e w' => e = .returned (.int .i64 (-1)) ∧ w' = w.drewN i) := index_at bb o cap d w _ hd hq i
  have HD : Hid (Calls Tryf.prog 28 #[.slice (some ⟨bb, o, none⟩) d.size cap] (w.drewN i) fun e w' => e = .returned (.slice (some ⟨bb, o, none⟩) m cap) ∧ w' = w.drewN i) := hm i
  have hz : ((d.size : Int) == 0) = false := by rw [beq_eq_false_iff_ne]; omega
  clear hd hq hm
  go_enter Tryf.func22, Tryf.ntmps22
  go_wp2_with first
    | (go_at_call 27
       refine Calls.mono HI.out ?_
       rintro e w' ⟨rfl, hw'⟩
       rw [hw']
       clear hw' w')
    | (go_at_call 28
       refine Calls.mono HD.out ?_
       rintro e w' ⟨rfl, hw'⟩
       rw [hw']
       clear hw' w')
  go_ret3
  exact ⟨rfl, rfl⟩

set_option maxRecDepth 100000 in
set_option maxHeartbeats 2000000 in
theorem split_end (a : Option Addr) (cap : Nat) (w : World) :
    Calls Tryf.prog 22 #[.slice a 0 cap, .bool true] w fun e w' => e = .returned (.tuple #[.int .i64 0, .slice none 0 0, .nilIface]) ∧ w' = w := by
  go_enter Tryf.func22, Tryf.ntmps22
  go_wp2
  go_ret3
  exact ⟨rfl, rfl⟩

section
variable {w : World} {b : Nat} {rv tk bv er : Value} {st en em : Int} {sc dn : Bool}
theorem only_set (w : World) (b j : Nat) (v : Value) : Only b w (w.setCell ⟨b, j, none⟩ v) := ⟨rfl, rfl, rfl, by simp [World.setCell], fun k hk => Below.heap_setCell _ _ _ _ hk⟩
theorem Only.drewN {g : Nat} {w w' : World} (h : Only g w w') (n : Nat) : Only g w (w'.drewN n) := ⟨h.os, h.tape, h.output, h.size, h.block⟩
theorem Only.trans {g : Nat} {w w' w'' : World} (h : Only g w w') (h' : Only g w' w'') : Only g w w'' := ⟨h'.os.trans h.os, h'.tape.trans h.tape, h'.output.trans h.output, h'.size.trans h.size, fun k hk => (h'.block k hk).trans (h.block k hk)⟩

set_option maxRecDepth 100000 in
set_option maxHeartbeats 2000000 in
theorem setErr_any (h : ScBlk w b rv tk bv st en .nilIface em sc dn) (t : TypeId) (v : Value) :
    Calls Tryf.prog 23 #[.pointer (some ⟨b, 0, none⟩), .iface t v] w fun e w' => e = .returned (.tuple #[]) ∧ ScBlk w' b rv tk bv st en (.iface t v) em sc dn ∧ Only b w w' := by
  have HS : Hid (ScBlk w b rv tk bv st en .nilIface em sc dn) := h
  have hc7 := h.c7
  have hf7 := h.fz 7
  clear h
  go_enter Tryf.func23, Tryf.ntmps23
  go_wp2_with fail
  go_quiet (fail)
  go_wp2
  go_end0
  exact ⟨rfl, (HS.out.set7 _).same rfl, (only_set w b 7 _).drewN _⟩

set_option maxRecDepth 100000 in
set_option maxHeartbeats 2000000 in
theorem advance_any (n : Nat) (h : ScBlk w b rv tk bv st en er em sc dn) (h0 : 0 ≤ st) (hn : (n : Int) ≤ en - st) (hen : en ≤ 65536) :
    Calls Tryf.prog 24 #[.pointer (some ⟨b, 0, none⟩), .int .i64 (n : Int)] w fun e w' => e = .returned (.bool true) ∧ ScBlk w' b rv tk bv (st + n) en er em sc dn ∧ Only b w w' := by
  have HS : Hid (ScBlk w b rv tk bv st en er em sc dn) := h
  have hc5 := h.c5
  have hc6 := h.c6
  have hf5 := h.fz 5
  clear h
  go_enter Tryf.func24, Tryf.ntmps24
  go_wp2
  go_quiet (fail)
  go_wp2
  go_ret
  exact ⟨rfl, (HS.out.set5 _).same rfl, (only_set w b 5 _).drewN _⟩
end

end Go.Proofs.Qxb6612715aFmt
