/-
  firstEq (11), hasSub (12).
-/
import Derived.Test.Qxb6614432aSmall
import Derived.Lib.SlicesS
namespace Go.Proofs.Qxb6614432a
open Go.RowKit

theorem indexByte_at {l : List UInt8} {c : UInt8} {k : Nat} (h1 : ∀ j, j < k → l[j]? ≠ some c) (h2 : l[k]? = some c) : Lib.indexByte l c = (k : Int) := by
  rcases hix : Lib.indexByte l c with o | o
  · obtain ⟨a, b⟩ := Lib.indexByte_some (o := o) hix
    rcases Nat.lt_trichotomy o k with h | h | h
    · exact absurd a (h1 o h)
    · subst h; rfl
    · exact absurd h2 (b k h)
  · have := Lib.indexByte_ge l c
    rw [hix] at this
    have h3 : Lib.indexByte l c = -1 := by rw [hix]; omega
    exact absurd h2 (Lib.indexByte_none h3 k)
theorem indexByte_no {l : List UInt8} {c : UInt8} (h1 : ∀ j, j < l.length → l[j]? ≠ some c) : Lib.indexByte l c = -1 := by
  rcases hix : Lib.indexByte l c with o | o
  · obtain ⟨a, b⟩ := Lib.indexByte_some (o := o) hix
    exact absurd a (h1 o (List.getElem?_eq_some_iff.1 a).1)
  · have := Lib.indexByte_ge l c
    rw [hix] at this
    omega

def NoEq (s : ByteArray) (k : Nat) : Prop := ∀ j, j < k → s.data.toList[j]? ≠ some 61

set_option maxRecDepth 100000 in
set_option maxHeartbeats 2000000 in
theorem firstEq_any (s : ByteArray) (w : World) (hs : s.size ≤ 1048576) :
    Calls Try.prog 11 #[.string s] w fun e w' => e = .returned (.int .i64 (Lib.indexByte s.data.toList 61)) ∧ w' = w := by
  have HL : Hid (s.data.toList.length = s.size) := (Lib.size_eq s).symm
  go_enter Try.func11, Try.ntmps11
  go_wp2
  go_loop [3] (fun i => ∃ k : Nat, k ≤ s.size ∧ i = .int .i64 k ∧ NoEq s k) (fun i => s.size - (intOf i).toNat)
  case atStart => exact ⟨0, Nat.zero_le _, rfl, fun j hj => by omega⟩
  case round =>
    obtain ⟨k, hk, rfl, hno⟩ := hrel
    have HN : Hid (NoEq s k) := hno
    clear hno
    by_cases hks : k < s.size
    · have HB : Hid (s.data.toList[k]? = some s[k]) := byte_at hks
      by_cases he : ((s[k].toNat : Int) == 61) = true
      · have HE : Hid (Lib.indexByte s.data.toList 61 = (k : Int)) := indexByte_at HN.out (by
          rw [HB.out]
          have h2 := eq_of_beq he
          congr 1
          exact UInt8.toNat_inj.1 (by show s[k].toNat = 61; omega))
        go_wp2
        go_ret
        exact ⟨by rw [HE.out]; rfl, rfl⟩
      · have he' : ((s[k].toNat : Int) == 61) = false := by simpa using he
        have HN1 : Hid (NoEq s (k + 1)) := by
          intro j hj
          by_cases e : j = k
          · subst e
            rw [HB.out]
            intro h
            apply he
            rw [Option.some.inj h]
            rfl
          · exact HN.out j (by omega)
        clear he
        go_wp2
        go_round
        case rel => exact ⟨k + 1, by omega, by go_num, HN1.out⟩
        case measure => simp [intOf]; omega
    · have HE : Hid (Lib.indexByte s.data.toList 61 = -1) := indexByte_no (fun j hj => HN.out j (by rw [HL.out] at hj; omega))
      go_wp2
      go_ret
      exact ⟨by rw [HE.out]; rfl, rfl⟩

theorem occ_iff {s p : ByteArray} {k : Nat} (h : k + p.size ≤ s.size) : s.extract k (k + p.size) = p ↔ OccAt p.data.toList s.data.toList k := by
  have hls : s.data.toList.length = s.size := (Lib.size_eq s).symm
  have hlp : p.data.toList.length = p.size := (Lib.size_eq p).symm
  have e0 : (s.extract k (k + p.size)).data.toList = (s.data.toList.drop k).take p.size := by rw [Lib.extract_data, Nat.add_sub_cancel_left]
  constructor
  · intro e x hx
    have e1 : p.data.toList = (s.data.toList.drop k).take p.size := by rw [← e0, e]
    rw [e1, List.getElem?_take, List.getElem?_drop, if_pos (by omega)]
  · intro ho
    have e1 : (s.data.toList.drop k).take p.size = p.data.toList := by
      apply List.ext_getElem?
      intro x
      rw [List.getElem?_take, List.getElem?_drop]
      by_cases hx : x < p.size
      · rw [if_pos hx]; exact ho x (by omega)
      · rw [if_neg hx, List.getElem?_eq_none (by omega)]
    have e2 : (s.extract k (k + p.size)).data.toList = p.data.toList := e0.trans e1
    have e3 : (s.extract k (k + p.size)).data = p.data := Array.toList_inj.1 e2
    cases hq : s.extract k (k + p.size) with
    | mk d => rw [hq] at e3; cases p; exact congrArg _ e3

def SubSays (s p : ByteArray) (e : Ending) : Prop := ∃ b : Bool, e = .returned (.bool b) ∧ (b = true ↔ ∃ k, OccAt p.data.toList s.data.toList k)

set_option maxRecDepth 100000 in
set_option maxHeartbeats 2000000 in
theorem hasSub_any (s p : ByteArray) (w : World) (hs : s.size ≤ 1048576) (hp1 : 1 ≤ p.size) (hp : p.size ≤ 4096) :
    Calls Try.prog 12 #[.string s, .string p] w fun e w' => SubSays s p e ∧ w' = w := by
  have HL : Hid (s.data.toList.length = s.size) := (Lib.size_eq s).symm
  have HP : Hid (p.data.toList.length = p.size) := (Lib.size_eq p).symm
  go_enter Try.func12, Try.ntmps12
  go_wp2
  go_loop [5] (fun i => ∃ k : Nat, k ≤ s.size ∧ i = .int .i64 k ∧ ∀ j, j < k → ¬ OccAt p.data.toList s.data.toList j) (fun i => s.size + 1 - (intOf i).toNat)
  case atStart => exact ⟨0, Nat.zero_le _, rfl, fun j hj => by omega⟩
  case round =>
    obtain ⟨k, hk, rfl, hno⟩ := hrel
    have HN : Hid (∀ j, j < k → ¬ OccAt p.data.toList s.data.toList j) := hno
    clear hno
    by_cases hks : k + p.size ≤ s.size
    · rcases hb : ((s.extract k (k + p.size)).toList == p.toList) with _ | _
      · have HN1 : Hid (∀ j, j < k + 1 → ¬ OccAt p.data.toList s.data.toList j) := by
          intro j hj
          by_cases e : j = k
          · subst e
            intro ho
            exact (Lib.bytes_beq_false_iff _ _).1 hb ((occ_iff hks).2 ho)
          · exact HN.out j (by omega)
        go_wp2
        go_round
        case rel => exact ⟨k + 1, by omega, by go_num, HN1.out⟩
        case measure => simp [intOf]; omega
      · have HE : Hid (SubSays s p (.returned (.bool true))) := ⟨true, rfl, fun _ => ⟨k, (occ_iff hks).1 ((Lib.bytes_beq_iff _ _).1 hb)⟩, fun _ => rfl⟩
        go_wp2
        go_ret
        exact ⟨HE.out, rfl⟩
    · have HE : Hid (SubSays s p (.returned (.bool false))) := by
        refine ⟨false, rfl, ⟨fun h => (by cases h), ?_⟩⟩
        rintro ⟨j, hj⟩
        have h1 := hj.fits (by rw [HP.out]; exact hp1)
        rw [HL.out, HP.out] at h1
        exact absurd hj (HN.out j (by omega))
      go_wp2
      go_ret
      exact ⟨HE.out, rfl⟩

end Go.Proofs.Qxb6614432a
