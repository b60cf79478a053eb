/-
  THE WALK OF zzPathModel (17).
-/
import Derived.Test.Qxb6614385aFmtBase
import Derived.Test.Qxb6614385aFmtPlain
namespace Go.Proofs.Qxb6614385aFmt
open Go.RowKit

/-- What zzPathModel answers. -/
def ModelSays (r : Option ByteArray) (e : Ending) : Prop := e = .returned (.tuple #[.string (r.getD ⟨#[]⟩), .bool r.isSome])
theorem ModelSays.no {r : Option ByteArray} (h : r = none) : ModelSays r (.returned (.tuple #[.string ⟨#[]⟩, .bool false])) := by subst h; rfl
theorem ModelSays.yes {r : Option ByteArray} {s : ByteArray} (h : r = some s) : ModelSays r (.returned (.tuple #[.string s, .bool true])) := by subst h; rfl

set_option maxHeartbeats 1000000 in
theorem pathModel_any (a0 a2 a3 : Option Addr) (n0 c0 n c2 c3 : Nat) (bk sk sv : List ByteArray) (w : World)
    (h0 : n0 ≤ 9223372036854775807) (h2 : n ≤ 9223372036854775807)
    (s0 : SliceAt w a0 n0 (strVals bk)) (s2 : SliceAt w a2 n (strVals sk)) (s3 : SliceAt w a3 n (strVals sv)) :
    Calls Tryf.prog 17 #[.slice a0 n0 c0, .slice a2 n c2, .slice a3 n c3] w fun e w' => ModelSays (Plain.model bk sk sv) e ∧ w' = w := by
  have S0 : Hid (SliceAt w a0 n0 (strVals bk)) := s0
  have S2 : Hid (SliceAt w a2 n (strVals sk)) := s2
  have S3 : Hid (SliceAt w a3 n (strVals sv)) := s3
  have L : Hid (sk.length = n ∧ sv.length = n ∧ bk.length = n0) := ⟨s2.len, s3.len, s0.len⟩
  clear s0 s2 s3
  go_enter Tryf.func17, Tryf.ntmps17
  go_wp2
  go_loop [8] (fun i => ∃ (k : Nat), k ≤ n0 ∧ i = .int .i64 k ∧ (bk.take k).any Plain.isPath = false) (fun i => n0 - (intOf i).toNat)
  case atStart => exact ⟨0, Nat.zero_le _, rfl, rfl⟩
  case round =>
    obtain ⟨k, hk, rfl, hno⟩ := hrel
    have HN : Hid ((bk.take k).any Plain.isPath = false) := hno
    clear hno
    by_cases hlt : k < n0
    · obtain ⟨b, off, s, rfl, hs, hc⟩ := S0.out.str hlt
      have HS : Hid (bk[k]? = some s) := hs
      clear hs S0
      by_cases hp : (s.toList == [112, 97, 116, 104]) = true
      · have hfin : Hid (Plain.model bk sk sv = none) := by
          have : bk.any Plain.isPath = true := by
            rw [List.any_eq_true]
            exact ⟨s, List.mem_of_getElem? HS.out, hp⟩
          show Plain.model bk sk sv = none
          simp [Plain.model, this]
        go_wp2
        go_ret2
        exact ⟨ModelSays.no hfin.out, rfl⟩
      · have hp' : (s.toList == [112, 97, 116, 104]) = false := by simpa using hp
        have HR : Hid ((bk.take (k + 1)).any Plain.isPath = false) := by
          show _ = _
          rw [Plain.any_take_succ HS.out, HN.out]; exact hp'
        clear hp
        go_wp2
        go_round
        case rel => exact ⟨k + 1, by omega, by go_num, HR.out⟩
        case measure => simp [intOf]; omega
    have hm : Hid (Plain.model bk sk sv = Plain.lastPath sk sv) := by
      have := HN.out
      rw [List.take_of_length_le (by have := L.out; omega)] at this
      show Plain.model bk sk sv = _
      simp [Plain.model, this]
    clear S0 HN
    go_wp2
    go_loop [9] (fun i => ∃ (k : Nat), k ≤ n ∧ i = .int .i64 ((k : Int) - 1) ∧ Plain.lastPath (sk.drop k) (sv.drop k) = none) (fun i => (intOf i + 1).toNat)
    case atStart => exact ⟨n, Nat.le_refl _, by go_num, by rw [List.drop_of_length_le (by have := L.out; omega)]; exact Plain.lastPath_nil _⟩
    case round =>
      clear hlt hk
      obtain ⟨k2, hk2, rfl, hno⟩ := hrel
      have HN : Hid (Plain.lastPath (sk.drop k2) (sv.drop k2) = none) := hno
      clear hno
      by_cases hz : k2 = 0
      · subst hz
        have hfin : Hid (Plain.model bk sk sv = none) := by
          have := HN.out
          show Plain.model bk sk sv = none
          rw [hm.out]; simpa using this
        clear HN
        go_wp2
        go_ret2
        exact ⟨ModelSays.no hfin.out, rfl⟩
      · obtain ⟨j, rfl⟩ : ∃ j, k2 = j + 1 := ⟨k2 - 1, by omega⟩
        have ej : ((j + 1 : Nat) : Int) - 1 = (j : Int) := by omega
        rw [ej]
        obtain ⟨b, off, s, rfl, hs, hc⟩ := S2.out.str (k := j) (by omega)
        obtain ⟨b3, off3, v, rfl, hv, hc3⟩ := S3.out.str (k := j) (by omega)
        have HS : Hid (sk[j]? = some s) := hs
        have HV : Hid (sv[j]? = some v) := hv
        clear hs hv S2 S3 ej hz
        have hjn : j < n := by omega
        by_cases hp : (s.toList == [112, 97, 116, 104]) = true
        · have hfin : Hid (Plain.model bk sk sv = some v) := by
            show _ = _
            rw [hm.out]
            exact Plain.lastPath_hit (by have := L.out; omega) HS.out HV.out hp HN.out
          clear hm
          go_wp2
          go_ret2
          exact ⟨ModelSays.yes hfin.out, rfl⟩
        · have hp' : (s.toList == [112, 97, 116, 104]) = false := by simpa using hp
          have HR : Hid (Plain.lastPath (sk.drop j) (sv.drop j) = none) := Plain.lastPath_miss (by have := L.out; omega) HS.out hp' HN.out
          clear hp
          go_wp2
          go_round
          case rel => exact ⟨j, by omega, rfl, HR.out⟩
          case measure => simp [intOf]

end Go.Proofs.Qxb6614385aFmt
