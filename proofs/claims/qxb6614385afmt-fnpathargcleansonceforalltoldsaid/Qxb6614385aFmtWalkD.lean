/-
  THE WALK OF zzArgsOf (20): the map that the members make, and what it holds under the word path.
-/
import Derived.Test.Qxb6614385aFmtBase
import Derived.Test.Qxb6614385aFmtPlain
import Derived.Maps.OwnSet
import Derived.Maps.OwnOps
import Derived.RegionTactic
import Derived.BigRegion
namespace Go.Proofs.Qxb6614385aFmt
open Go.RowKit Go.Maps

theorem keyLaw : Keyed Tryf.prog 9 := string_keyed Tryf.underlying9

/-- How an element of the map reads: a string or a bool in an interface; nil. -/
def rd (v : Value) : Option (DataW Unit × List MemPlace) :=
  match v with
  | .iface t (.string s) => if t = 9 then some (.lit (.string s.data.toList), []) else none
  | .iface t (.bool b) => if t = 4 then some (.lit (.bool b), []) else none
  | .nilIface => some (.nil, [])
  | _ => none

theorem rd_string (s : ByteArray) : rd (.iface 9 (.string s)) = some (.lit (.string s.data.toList), []) := rfl
theorem rd_bool (b : Bool) : rd (.iface 4 (.bool b)) = some (.lit (.bool b), []) := rfl
theorem rd_nil : rd .nilIface = some (.nil, []) := rfl

def pathKey : Lit := .string [112, 97, 116, 104]
theorem pathKey_lit : WideAt.IsKeyLit pathKey := by simp [WideAt.IsKeyLit, pathKey]

/-- What the map reads as under the word path: nothing; a bool; a string. -/
def PathIn (D : DataW Unit) : Option (Option ByteArray) → Prop
  | none => Maps.has D pathKey = false
  | some none => Maps.has D pathKey = true ∧ ∃ b, D.atKey pathKey .nil = .lit (.bool b)
  | some (some v) => Maps.has D pathKey = true ∧ D.atKey pathKey .nil = .lit (.string v.data.toList)

theorem key_eq {s : ByteArray} : (Lit.string s.data.toList = pathKey) ↔ Plain.isPath s = true := by
  unfold pathKey Plain.isPath
  rw [Lib.toList_data]
  simp

theorem PathIn.putString {D : DataW Unit} {r : Option (Option ByteArray)} (h : PathIn D r) (hD : IsMap D) (s v : ByteArray) :
    PathIn (D.put (.string s.data.toList) (.lit (.string v.data.toList))) (if Plain.isPath s then some (some v) else r) := by
  by_cases hp : Plain.isPath s = true
  · rw [if_pos hp, key_eq.2 hp]
    exact ⟨has_put_same hD pathKey_lit _, atKey_put_same hD pathKey_lit _ _⟩
  · have hne : pathKey ≠ Lit.string s.data.toList := fun e => hp (key_eq.1 e.symm)
    rw [if_neg hp]
    rcases r with _ | _ | v'
    · exact (has_put_other hne _).trans h
    · obtain ⟨h1, b, hb⟩ := h
      exact ⟨(has_put_other hne _).trans h1, b, (atKey_put_other hne _ _).trans hb⟩
    · exact ⟨(has_put_other hne _).trans h.1, (atKey_put_other hne _ _).trans h.2⟩

theorem PathIn.putBool {D : DataW Unit} {r : Option (Option ByteArray)} (h : PathIn D r) (hD : IsMap D) (s : ByteArray) (b : Bool) :
    PathIn (D.put (.string s.data.toList) (.lit (.bool b))) (if Plain.isPath s then some none else r) := by
  by_cases hp : Plain.isPath s = true
  · rw [if_pos hp, key_eq.2 hp]
    exact ⟨has_put_same hD pathKey_lit _, b, atKey_put_same hD pathKey_lit _ _⟩
  · have hne : pathKey ≠ Lit.string s.data.toList := fun e => hp (key_eq.1 e.symm)
    rw [if_neg hp]
    rcases r with _ | _ | v'
    · exact (has_put_other hne _).trans h
    · obtain ⟨h1, b, hb⟩ := h
      exact ⟨(has_put_other hne _).trans h1, b, (atKey_put_other hne _ _).trans hb⟩
    · exact ⟨(has_put_other hne _).trans h.1, (atKey_put_other hne _ _).trans h.2⟩

/-- What the members come to under the word path. -/
def under (bk sk sv : List ByteArray) : Option (Option ByteArray) := if bk.any Plain.isPath then some none else (Plain.lastPath sk sv).map some

structure Made (w wr : World) (n : Nat) (r : Option (Option ByteArray)) : Prop where
  own : ∃ D, wr.ownsMap Tryf.prog 9 rd w.heap.size n D ∧ PathIn D r
  below : Below w.heap.size w wr

theorem Made.start (w : World) : Made w (w.alloc (.map #[] 0)) 0 none :=
  ⟨⟨_, World.ownsMap_made w Tryf.prog 9 rd, rfl⟩, (Below.refl _ _).alloc (Nat.le_refl _) _⟩

theorem Made.storeS {w wr : World} {n : Nat} {r : Option (Option ByteArray)} (h : Made w wr n r) (hn : n < maxLen) (s v : ByteArray) (hs : s.size ≤ maxLen) :
    ∃ w1, (Instr.mapUpdate 45 (.map (some w.heap.size)) (.string s) (.iface 9 (.string v))).run Tryf.prog wr.drew = .ok () w1 ∧ Made w w1 (n + 1) (if Plain.isPath s then some (some v) else r) := by
  obtain ⟨D, hown, hp⟩ := h.own
  obtain ⟨w1, hrun, hown1, hg⟩ := hown.drew.update keyLaw Tryf.underlying45 hn (WideMaps.keyOf_string_mk Tryf.underlying9 hs) (rd_string v)
  exact ⟨w1, hrun, ⟨_, hown1, hp.putString hown.isMap s v⟩, h.below.drew.grown hg h.below.size (fun k hk => by cases hk; exact Nat.le_refl _)⟩

theorem Made.storeB {w wr : World} {n : Nat} {r : Option (Option ByteArray)} (h : Made w wr n r) (hn : n < maxLen) (s : ByteArray) (b : Bool) (hs : s.size ≤ maxLen) :
    ∃ w1, (Instr.mapUpdate 45 (.map (some w.heap.size)) (.string s) (.iface 4 (.bool b))).run Tryf.prog wr.drew = .ok () w1 ∧ Made w w1 (n + 1) (if Plain.isPath s then some none else r) := by
  obtain ⟨D, hown, hp⟩ := h.own
  obtain ⟨w1, hrun, hown1, hg⟩ := hown.drew.update keyLaw Tryf.underlying45 hn (WideMaps.keyOf_string_mk Tryf.underlying9 hs) (rd_bool b)
  exact ⟨w1, hrun, ⟨_, hown1, hp.putBool hown.isMap s b⟩, h.below.drew.grown hg h.below.size (fun k hk => by cases hk; exact Nat.le_refl _)⟩

set_option maxHeartbeats 2000000 in
theorem argsOf_any (a0 a1 a2 a3 : Option Addr) (n0 c0 c1 n c2 c3 : Nat) (bk : List ByteArray) (bv : List Bool) (sk sv : List ByteArray) (w : World)
    (h0 : n0 ≤ 65536) (h2 : n ≤ 65536) (ss : ∀ s, s ∈ sk → s.size ≤ maxLen) (bs : ∀ s, s ∈ bk → s.size ≤ maxLen)
    (s0 : SliceAt w a0 n0 (strVals bk)) (s1 : SliceAt w a1 n0 (boolVals bv)) (s2 : SliceAt w a2 n (strVals sk)) (s3 : SliceAt w a3 n (strVals sv)) :
    Calls Tryf.prog 20 #[.slice a0 n0 c0, .slice a1 n0 c1, .slice a2 n c2, .slice a3 n c3] w fun e w' => e = .returned (.map (some w.heap.size)) ∧ ∃ m, Made w w' m (under bk sk sv) := by
  have S0 : Hid (SliceAt w a0 n0 (strVals bk)) := s0
  have S1 : Hid (SliceAt w a1 n0 (boolVals bv)) := s1
  have S2 : Hid (SliceAt w a2 n (strVals sk)) := s2
  have S3 : Hid (SliceAt w a3 n (strVals sv)) := s3
  have L : Hid (sk.length = n ∧ sv.length = n ∧ bk.length = n0) := ⟨s2.len, s3.len, s0.len⟩
  have SS : Hid (∀ s, s ∈ sk → s.size ≤ maxLen) := ss
  have BS : Hid (∀ s, s ∈ bk → s.size ≤ maxLen) := bs
  clear s0 s1 s2 s3 ss bs
  have hmm := @run_makeMap Tryf.prog
  go_enter Tryf.func20, Tryf.ntmps20
  go_wp2
  go_loopw [10] (fun i wr => ∃ k : Nat, k ≤ n ∧ i = .int .i64 k ∧ Made w wr k ((Plain.lastPath (sk.take k) (sv.take k)).map some)) (fun i _ => n - (intOf i).toNat)
  case atStart => exact ⟨0, Nat.zero_le _, rfl, Made.start w⟩
  case round =>
    clear hmm
    obtain ⟨k, hk, rfl, hm⟩ := hrel
    have HM : Hid (Made w wr k ((Plain.lastPath (sk.take k) (sv.take k)).map some)) := hm
    clear hm
    by_cases hlt : k < n
    · obtain ⟨b, off, s, rfl, hs, hc⟩ := (S2.out.below HM.out.below).str hlt
      obtain ⟨b3, off3, v, rfl, hv, hc3⟩ := (S3.out.below HM.out.below).str hlt
      obtain ⟨w1, hrun, hm1⟩ := HM.out.storeS (by unfold maxLen; omega) s v (SS.out s (List.mem_of_getElem? hs))
      have HM1 : Hid (Made w w1 (k + 1) ((Plain.lastPath (sk.take (k + 1)) (sv.take (k + 1))).map some)) := by
        rw [Plain.lastPath_take (by have := L.out; omega) hs hv]
        by_cases hp : Plain.isPath s = true
        · rw [if_pos hp] at hm1 ⊢; exact hm1
        · rw [if_neg hp] at hm1 ⊢; exact hm1
      clear hs hv hm1 HM S0 S1 S2 S3
      go_wp2
      go_region
      all_goals
        go_wp2
        go_roundw
        case rel => exact ⟨k + 1, by omega, by go_num, HM1.out⟩
        case measure => simp [intOf]; omega
    have HM2 : Hid (Made w wr n ((Plain.lastPath sk sv).map some)) := by
      have e : k = n := by omega
      subst e
      have h := HM.out
      rwa [List.take_of_length_le (by have := L.out; omega), List.take_of_length_le (by have := L.out; omega)] at h
    clear HM S2 S3
    go_wp2
    go_loopw [11] (fun i wx => ∃ j : Nat, j ≤ n0 ∧ i = .int .i64 j ∧ Made w wx (n + j) (if (bk.take j).any Plain.isPath then some none else (Plain.lastPath sk sv).map some)) (fun i _ => n0 - (intOf i).toNat)
    case atStart => exact ⟨0, Nat.zero_le _, rfl, HM2.out⟩
    case round =>
      clear HM2 hlt hk
      obtain ⟨j, hj, rfl, hm⟩ := hrel
      have HM : Hid (Made w wr (n + j) (if (bk.take j).any Plain.isPath then some none else (Plain.lastPath sk sv).map some)) := hm
      clear hm
      by_cases hlt : j < n0
      · obtain ⟨b, off, s, rfl, hs, hc⟩ := (S0.out.below HM.out.below).str hlt
        obtain ⟨b1, off1, x, rfl, hx, hc1⟩ := (S1.out.below HM.out.below).bool hlt
        obtain ⟨w1, hrun, hm1⟩ := HM.out.storeB (by unfold maxLen; omega) s x (BS.out s (List.mem_of_getElem? hs))
        have HM1 : Hid (Made w w1 (n + (j + 1)) (if (bk.take (j + 1)).any Plain.isPath then some none else (Plain.lastPath sk sv).map some)) := by
          rw [Plain.any_take_succ hs]
          by_cases hp : Plain.isPath s = true
          · rw [if_pos hp] at hm1
            rw [hp, Bool.or_true]
            exact hm1
          · rw [if_neg hp] at hm1
            have hp' : Plain.isPath s = false := by simpa using hp
            rw [hp', Bool.or_false]
            exact hm1
        clear hs hx hm1 HM S0 S1
        go_wp2
        go_region
        all_goals
          go_wp2
          go_roundw
          case rel => exact ⟨j + 1, by omega, by go_num, HM1.out⟩
          case measure => simp [intOf]; omega
      have HM3 : Hid (Made w wr (n + n0) (under bk sk sv)) := by
        have e : j = n0 := by omega
        subst e
        have h := HM.out
        rw [List.take_of_length_le (by have := L.out; omega)] at h
        exact h
      clear HM S0 S1
      go_wp2
      go_ret
      exact ⟨rfl, _, HM3.out⟩

end Go.Proofs.Qxb6614385aFmt
