/-
  THE GENERIC ROAD: lookup (88), build (27).
-/
import Derived.Test.Qxb6614432aGenB
import Derived.LaidEqlPtr
namespace Go.Proofs.Qxb6614432a
open Go.RowKit

def KG (w : World) (val : Value) (F : List Nat) : Prop := ∃ r a, val = .iface 70 (.pointer (some ⟨r, 0, none⟩)) ∧ F = [r] ∧ GenBlk w r 2 (.slice (some a) 0 0)
theorem KG.kind : Kind KG where
  same := by
    rintro w w' val F ⟨r, a, h1, rfl, h3⟩ h
    exact ⟨r, a, h1, rfl, h3.same (h r (by simp))⟩
  lt := by
    rintro w val F ⟨r, a, h1, rfl, h3⟩ k hk
    simp at hk
    subst hk
    exact h3.lt
  val := by
    rintro w val F ⟨r, a, h1, h2, h3⟩
    exact ⟨_, _, h1⟩

set_option maxRecDepth 100000 in
set_option maxHeartbeats 2000000 in
theorem build_generic (b c cap : Nat) (w : World) (d s : Int) (rv : Value) (hb : RepBlk w b d s rv (.slice (some ⟨c, 0, none⟩) 2 cap)) (hc : Pair w c ⟨#[]⟩ ⟨#[]⟩) :
    Calls Try.prog 27 #[.pointer (some ⟨b, 0, none⟩)] w fun e w' => BuildPost KG w e w' := by
  have HM : Hid (Calls Try.prog 33 #[.slice (some ⟨c, 0, none⟩) 2 cap] w fun e w' => GenPost w e w') := makeGeneric_any c cap w hc
  have hc4 := hb.c4
  have hp0 := hc.1
  clear hb hc
  go_enter Try.func27, Try.ntmps27
  go_wp2
  go_loop [5] (fun i => i = .int .i64 0) (fun _ => 0)
  case atStart => rfl
  case round =>
    subst hrel
    go_wp2_with (go_at_call 33
                 refine Calls.mono HM.out ?_
                 rintro e w1 ⟨r, tb, rfl, hr, ⟨a, rfl⟩, hg, hbe⟩
                 have HE : Hid (BuildPost KG w (.returned (.iface 70 (.pointer (some ⟨r, 0, none⟩)))) w1) :=
                   ⟨_, _, [r], rfl, ⟨r, a, rfl, rfl, hg⟩, fun k hk => by simp at hk; omega, hbe⟩
                 clear hr hg hbe)
    go_ret
    exact HE.out

theorem Try.info90 : (Try.prog.info? 90).map (·.size) = some 5 := by kernel_rfl

set_option maxRecDepth 100000 in
set_option maxHeartbeats 2000000 in
theorem lookup_any (r : Nat) (a : Addr) (s : ByteArray) (ig : Bool) (w : World) (h : GenBlk w r 2 (.slice (some a) 0 0)) :
    Calls Try.prog 88 #[.pointer (some ⟨r, 0, none⟩), .string s, .bool ig] w fun e w' => e = .returned (.tuple #[.string ⟨#[]⟩, .int .i64 0, .bool (!ig)]) ∧ ∃ n, w' = w.drewN n := by
  have HG : Hid (GenBlk w r 2 (.slice (some a) 0 0)) := h
  have hc0 := h.c0
  have hc1 := h.c1
  have hc4 := h.c4
  have hc5 := h.c5
  clear h
  have nq88 := fun (w : World) (a : Option Addr) (n c : Nat) => run_neq_slice_nil_any (P := Try.prog) w 88 87 a n c 0 0 Try.underlying88
  obtain ⟨i90, hi90⟩ : ∃ j, Try.prog.info? 90 = some j := Option.map_eq_some_iff.1 Try.info90 |>.imp fun _ h => h.1
  have heq : ∀ w : World, (binOp .eql 87 (.pointer (some ⟨r, 0, none⟩)) (.pointer (some ⟨r, 0, none⟩))).run Try.prog w = .ok (.bool true) w := fun w => run_eql_ptr_same (w := w) ⟨r, 0, none⟩ Try.underlying87 hi90
  clear hi90
  go_enter Try.func88, Try.ntmps88
  go_wp2
  go_loop [1, 6, 7, 8, 9, 10, 11] (fun x1 x6 x7 x8 x9 x10 x11 => x1 = .string s ∧ x6 = .string ⟨#[]⟩ ∧ x7 = .int .i64 0 ∧ x8 = .bool false ∧ x9 = .int .i64 0 ∧ x10 = .pointer (some ⟨r, 0, none⟩) ∧ x11 = .int .i64 0) (fun _ _ _ _ _ _ _ => 0)
  case atStart => exact ⟨rfl, rfl, rfl, rfl, rfl, rfl, rfl⟩
  case round =>
    obtain ⟨rfl, rfl, rfl, rfl, rfl, rfl, rfl⟩ := hrel
    rcases hse : s.toList.isEmpty with _ | _
    · have h0 : 0 < s.size := by
        rcases Nat.eq_zero_or_pos s.size with h | h
        · have : s.toList = [] := List.eq_nil_of_length_eq_zero (by rw [Lib.toList_data, ← Lib.size_eq]; exact h)
          rw [this] at hse
          cases hse
        · exact h
      have h256 : s[0].toNat < 256 := s[0].toNat_lt
      have hcm := HG.out.cm h256
      rcases ig with _ | _
      all_goals
        go_wp2
        go_quiet (fail)
        go_wp2
        go_ret3
        exact ⟨rfl, _, rfl⟩
    · rcases ig with _ | _
      all_goals
        go_wp2
        go_ret3
        exact ⟨rfl, 0, rfl⟩

end Go.Proofs.Qxb6614432a
