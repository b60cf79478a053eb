/-
  THE GENERIC ROAD: (*strings.genericReplacer).WriteString (86), at the pair of two empty strings.
-/
import Derived.Test.Qxb6614432aGenD
namespace Go.Proofs.Qxb6614432a
open Go.RowKit

theorem take_more (s : List UInt8) {L k : Nat} (h : L ≤ k) : s.take L ++ (s.drop L).take (k - L) = s.take k := by
  have e : k = L + (k - L) := by omega
  rw [e, List.take_add]
  congr 2
  omega

def boolBit : Value → Nat
  | .bool true => 0
  | _ => 1
def GWPost (w : World) (B q : Nat) (s : ByteArray) (e : Ending) (w' : World) : Prop := (∃ v, e = .returned v) ∧ AW w' B q s.data.toList ∧ Below B w w'
def InLoop (s : ByteArray) (L k : Nat) (pm : Bool) : Prop := (pm = false ∧ k ≤ s.size + 1 ∧ ((k = 0 ∧ L = 0) ∨ L + 1 = k)) ∨ (pm = true ∧ L = k ∧ k ≤ s.size)

set_option maxRecDepth 100000 in
set_option maxHeartbeats 2000000 in
theorem getSW_any (q : Nat) (w : World) : Calls Try.prog 87 #[.iface 140 (.pointer (some ⟨q, 0, none⟩))] w fun e w' => e = .returned (.iface 140 (.pointer (some ⟨q, 0, none⟩))) ∧ w' = w := by
  have hta : ∀ (ad : Addr) (w : World), (Instr.typeAssert (.iface 140 (.pointer (some ad))) 34 142 true).run Try.prog w = .ok (.tuple #[.iface 140 (.pointer (some ad)), .bool true]) w := fun _ _ => by kernel_rfl
  go_enter Try.func87, Try.ntmps87
  go_wp2
  go_ret
  exact ⟨rfl, rfl⟩

set_option maxRecDepth 100000 in
set_option maxHeartbeats 4000000 in
theorem genWrite_any (r q B : Nat) (a : Addr) (s : ByteArray) (w : World) (hs : s.size ≤ 1048576) (hg : GenBlk w r 2 (.slice (some a) 0 0)) (hq : AW w B q []) (hrB : r < B) (hBw : B ≤ w.heap.size) :
    Calls Try.prog 86 #[.pointer (some ⟨r, 0, none⟩), .iface 140 (.pointer (some ⟨q, 0, none⟩)), .string s] w fun e w' => GWPost w B q s e w' := by
  have HG : Hid (GenBlk w r 2 (.slice (some a) 0 0)) := hg
  have HQ : Hid (AW w B q []) := hq
  have HSL : Hid (s.data.toList.length = s.size) := (Lib.size_eq s).symm
  have hmr : ∀ (ad : Addr) (w : World), (method 253 140 (.pointer (some ad)) "WriteString").run Try.prog w = .ok (106, .pointer (some ad)) w := fun _ _ => by kernel_rfl
  have hna : ∀ (ad : Addr) (w : World), (nilAhead 253 140 (.pointer (some ad)) "WriteString").run Try.prog w = .ok (some false) w := fun _ _ => by kernel_rfl
  clear hg hq
  go_enter Try.func86, Try.ntmps86
  go_wp2_with (go_at_call 87
               refine (getSW_any q w).mono ?_
               rintro e w' ⟨rfl, hw'⟩
               rw [hw']
               clear hw' w')
  go_loopw [6, 9, 11, 12] (fun n la pv i wr => ∃ (L k : Nat) (pm : Bool), n = .int .i64 L ∧ la = .int .i64 L ∧ pv = .bool pm ∧ i = .int .i64 k ∧ InLoop s L k pm ∧ AW wr B q (s.data.toList.take L) ∧ Below B w wr)
    (fun _ _ pv i _ => 2 * (s.size + 1 - (intOf i).toNat) + boolBit pv)
  case atStart => exact ⟨0, 0, false, rfl, rfl, rfl, rfl, Or.inl ⟨rfl, by omega, Or.inl ⟨rfl, rfl⟩⟩, HQ.out, Below.refl _ _⟩
  case round =>
    obtain ⟨L, k, pm, rfl, rfl, rfl, rfl, hin, haw, hbel⟩ := hrel
    have HAW : Hid (AW wr B q (s.data.toList.take L)) := haw
    have HB : Hid (Below B w wr) := hbel
    have HGr : Hid (GenBlk wr r 2 (.slice (some a) 0 0)) := HG.out.same (hbel.block r hrB)
    have hc1 := HGr.out.c1
    clear haw hbel
    have HLk : Hid (∀ ig, Calls Try.prog 88 #[.pointer (some ⟨r, 0, none⟩), .string (s.extract k s.size), .bool ig] wr fun e w' => e = .returned (.tuple #[.string ⟨#[]⟩, .int .i64 0, .bool (!ig)]) ∧ ∃ n, w' = wr.drewN n) := fun ig => lookup_any r a _ ig wr HGr.out
    rcases hin with ⟨rfl, hk, hLk⟩ | ⟨rfl, rfl, hk⟩
    · by_cases hks : k ≤ s.size
      · have hL : L ≤ k := by omega
        by_cases hkl : k < s.size
        · have hne : ((k : Int) != (s.size : Int)) = true := by rw [bne_iff_ne]; omega
          go_wp2_with (go_at_call 88; refine Calls.mono (HLk.out false) ?_; rintro e w1 ⟨rfl, n1, rfl⟩)
          have HW : Hid (∀ W : World, W.heap = wr.heap → W.os = wr.os → W.tape = wr.tape → W.output = wr.output → Calls Try.prog 106 #[.pointer (some ⟨q, 0, none⟩), .string (s.extract L k)] W fun e w' => e = .returned (.tuple #[.int .i64 (s.extract L k).size, .nilIface]) ∧ AW w' B q (s.data.toList.take k) ∧ Below B w w') := by
            intro W g1 g2 g3 g4
            have hb : Below B w W := ⟨g2.trans HB.out.os, g3.trans HB.out.tape, g4.trans HB.out.output, by rw [g1]; exact HB.out.size, fun k hk => by rw [g1]; exact HB.out.block k hk⟩
            have haw : AW W B q (s.data.toList.take L) := HAW.out.below ⟨g2, g3, g4, by rw [g1]; exact Nat.le_refl _, fun k _ => by rw [g1]⟩
            refine (awWrite_any B q (s.data.toList.take L) (s.extract L k) W haw (by rw [List.length_take, ByteArray.size_extract]; omega) (Nat.le_trans hBw hb.size)).mono ?_
            rintro e w' ⟨rfl, h1, h2⟩
            refine ⟨rfl, ?_, hb.trans h2⟩
            rw [Lib.extract_data, take_more _ hL] at h1
            exact h1
          have hsz : (s.extract L k).size = k - L := by rw [ByteArray.size_extract]; omega
          go_region_with (go_at_call 106
                          refine Calls.mono (HW.out _ rfl rfl rfl rfl) ?_
                          rintro e w2 ⟨rfl, h1, h2⟩
                          have HA2 : Hid (AW w2 B q (s.data.toList.take k)) := h1
                          have HB2 : Hid (Below B w w2) := h2
                          clear h1 h2)
          all_goals
            have HW2 : Hid (Calls Try.prog 106 #[.pointer (some ⟨q, 0, none⟩), .string ⟨#[]⟩] w2 fun e w' => e = .returned (.tuple #[.int .i64 0, .nilIface]) ∧ AW w' B q (s.data.toList.take k) ∧ Below B w w') := by
              refine (awWrite_any B q (s.data.toList.take k) ⟨#[]⟩ w2 HA2.out (by rw [List.length_take]; have : (⟨#[]⟩ : ByteArray).size = 0 := rfl; omega) (Nat.le_trans hBw HB2.out.size)).mono ?_
              rintro e w' ⟨rfl, h1, h2⟩
              refine ⟨rfl, ?_, HB2.out.trans h2⟩
              have e : (⟨#[]⟩ : ByteArray).data.toList = [] := rfl
              rw [e, List.append_nil] at h1
              exact h1
            go_wp2_with (go_at_call 106
                         refine Calls.mono HW2.out ?_
                         rintro e w3 ⟨rfl, h1, h2⟩
                         have HA3 : Hid (AW w3 B q (s.data.toList.take k)) := h1
                         have HB3 : Hid (Below B w w3) := h2
                         clear h1 h2)
            go_roundw
            case rel => exact ⟨k, k, true, by go_num, by go_num, rfl, by go_num, Or.inr ⟨rfl, rfl, hks⟩, HA3.out, HB3.out⟩
            case measure => simp [intOf, boolBit]
        · have hne : ((k : Int) != (s.size : Int)) = false := by rw [bne_eq_false_iff_eq]; omega
          go_wp2_with (go_at_call 88; refine Calls.mono (HLk.out false) ?_; rintro e w1 ⟨rfl, n1, rfl⟩)
          have HW : Hid (∀ W : World, W.heap = wr.heap → W.os = wr.os → W.tape = wr.tape → W.output = wr.output → Calls Try.prog 106 #[.pointer (some ⟨q, 0, none⟩), .string (s.extract L k)] W fun e w' => e = .returned (.tuple #[.int .i64 (s.extract L k).size, .nilIface]) ∧ AW w' B q (s.data.toList.take k) ∧ Below B w w') := by
            intro W g1 g2 g3 g4
            have hb : Below B w W := ⟨g2.trans HB.out.os, g3.trans HB.out.tape, g4.trans HB.out.output, by rw [g1]; exact HB.out.size, fun k hk => by rw [g1]; exact HB.out.block k hk⟩
            have haw : AW W B q (s.data.toList.take L) := HAW.out.below ⟨g2, g3, g4, by rw [g1]; exact Nat.le_refl _, fun k _ => by rw [g1]⟩
            refine (awWrite_any B q (s.data.toList.take L) (s.extract L k) W haw (by rw [List.length_take, ByteArray.size_extract]; omega) (Nat.le_trans hBw hb.size)).mono ?_
            rintro e w' ⟨rfl, h1, h2⟩
            refine ⟨rfl, ?_, hb.trans h2⟩
            rw [Lib.extract_data, take_more _ hL] at h1
            exact h1
          have hsz : (s.extract L k).size = k - L := by rw [ByteArray.size_extract]; omega
          go_region_with (go_at_call 106
                          refine Calls.mono (HW.out _ rfl rfl rfl rfl) ?_
                          rintro e w2 ⟨rfl, h1, h2⟩
                          have HA2 : Hid (AW w2 B q (s.data.toList.take k)) := h1
                          have HB2 : Hid (Below B w w2) := h2
                          clear h1 h2)
          all_goals
            have HW2 : Hid (Calls Try.prog 106 #[.pointer (some ⟨q, 0, none⟩), .string ⟨#[]⟩] w2 fun e w' => e = .returned (.tuple #[.int .i64 0, .nilIface]) ∧ AW w' B q (s.data.toList.take k) ∧ Below B w w') := by
              refine (awWrite_any B q (s.data.toList.take k) ⟨#[]⟩ w2 HA2.out (by rw [List.length_take]; have : (⟨#[]⟩ : ByteArray).size = 0 := rfl; omega) (Nat.le_trans hBw HB2.out.size)).mono ?_
              rintro e w' ⟨rfl, h1, h2⟩
              refine ⟨rfl, ?_, HB2.out.trans h2⟩
              have e : (⟨#[]⟩ : ByteArray).data.toList = [] := rfl
              rw [e, List.append_nil] at h1
              exact h1
            go_wp2_with (go_at_call 106
                         refine Calls.mono HW2.out ?_
                         rintro e w3 ⟨rfl, h1, h2⟩
                         have HA3 : Hid (AW w3 B q (s.data.toList.take k)) := h1
                         have HB3 : Hid (Below B w w3) := h2
                         clear h1 h2)
            go_roundw
            case rel => exact ⟨k, k, true, by go_num, by go_num, rfl, by go_num, Or.inr ⟨rfl, rfl, hks⟩, HA3.out, HB3.out⟩
            case measure => simp [intOf, boolBit]
      · have hLs : L = s.size := by omega
        have HE : Hid (AW wr B q s.data.toList) := by
          have h := HAW.out
          rw [List.take_of_length_le (by rw [HSL.out]; omega)] at h
          exact h
        have hne : ((L : Int) != (s.size : Int)) = false := by rw [bne_eq_false_iff_eq]; omega
        go_wp2
        go_ret2
        exact ⟨⟨_, rfl⟩, HE.out, HB.out⟩
    · rcases Nat.lt_or_ge L s.size with hkl | hkl
      · have hne : ((L : Int) != (s.size : Int)) = true := by rw [bne_iff_ne]; omega
        go_wp2_with (go_at_call 88; refine Calls.mono (HLk.out true) ?_; rintro e w1 ⟨rfl, n1, rfl⟩)
        go_roundw
        case rel => exact ⟨L, L + 1, false, by go_num, by go_num, rfl, by go_num, Or.inl ⟨rfl, by omega, Or.inr rfl⟩, HAW.out.below (below_drewN (Below.refl _ _) _), below_drewN HB.out _⟩
        case measure => simp [intOf, boolBit]; omega
      · have hne : ((L : Int) != (s.size : Int)) = false := by rw [bne_eq_false_iff_eq]; omega
        go_wp2_with (go_at_call 88; refine Calls.mono (HLk.out true) ?_; rintro e w1 ⟨rfl, n1, rfl⟩)
        go_roundw
        case rel => exact ⟨L, L + 1, false, by go_num, by go_num, rfl, by go_num, Or.inl ⟨rfl, by omega, Or.inr rfl⟩, HAW.out.below (below_drewN (Below.refl _ _) _), below_drewN HB.out _⟩
        case measure => simp [intOf, boolBit]; omega

end Go.Proofs.Qxb6614432a
