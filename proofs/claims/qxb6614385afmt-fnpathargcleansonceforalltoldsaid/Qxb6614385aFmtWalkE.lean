/-
  THE WALKS OF fmt.Errorf (23) at the two formats, Args.String (24) at the word path, pathArg (22), ZZPathArg (16).
-/
import Derived.Test.Qxb6614385aFmtWalkD
import Derived.Test.Qxb6614385aFmtShelf
import Derived.Stop.CallBack
import Derived.Stop.IfaceNil
import Derived.BigQuiet
import Derived.Deep.QuietTactic
namespace Go.Proofs.Qxb6614385aFmt
open Go.RowKit Go.Maps Go.Extern.Stop Go.Stop Go.Extern

theorem Tryf.call26 (args : Array Value) (w : World) : (callFunc 26 args).run Tryf.prog w = ((FmtStop.errorf #[9, 54] #[42] args).run Tryf.prog w).andThen fun v w' => .ok (.value v) w' :=
  run_callFunc_extern Tryf.func26 (by kernel_rfl) (by kernel_rfl) (by kernel_rfl) (by kernel_rfl) args w
theorem Tryf.guard (name : String) (w : World) : (FmtStop.guard name).run Tryf.prog w = .ok () w := by kernel_rfl
def Tryf.shape9 : List UInt8 := [12, 6, 0, 0, 0, 0, 0, 0, 0, 115, 116, 114, 105, 110, 103]
theorem Tryf.op9_115 (name : String) (x : ByteArray) (w : World) : (FmtStop.operand name false 115 false (.iface 9 (.string x))).run Tryf.prog w = .ok (Tryf.shape9, FmtStop.pack x.data.toList) w := by kernel_rfl
theorem Tryf.op9_115w (name : String) (x : ByteArray) (w : World) : (FmtStop.operand name true 115 false (.iface 9 (.string x))).run Tryf.prog w = .ok (Tryf.shape9, FmtStop.pack x.data.toList) w := by kernel_rfl
theorem Tryf.strict9 (name : String) (x : ByteArray) (w : World) : (FmtStop.strict name (.iface 9 (.string x))).run Tryf.prog w = .ok (Tryf.shape9, FmtStop.pack x.data.toList) w := by kernel_rfl
theorem Tryf.ptr57 (w : World) : (FmtStop.ptrTo "errors.errorString").run Tryf.prog w = .ok 57 w := by kernel_rfl
theorem Tryf.elem57 (w : World) : (elemOf 57).run Tryf.prog w = .ok 59 w := by kernel_rfl
-- missing argument ..
theorem Tryf.fmt0 : FmtStop.printed? ⟨#[109, 105, 115, 115, 105, 110, 103, 32, 97, 114, 103, 117, 109, 101, 110, 116, 32, 37, 115]⟩ 1 = some [(0, 115, false)] := by kernel_rfl
theorem Tryf.fmt0r (w : World) : (FmtDoors.printed ⟨#[109, 105, 115, 115, 105, 110, 103, 32, 97, 114, 103, 117, 109, 101, 110, 116, 32, 37, 115]⟩ 1).run Tryf.prog w = .ok [(0, 115, false)] w := by kernel_rfl
-- argument .. is not a string
theorem Tryf.fmt1 : FmtStop.printed? ⟨#[97, 114, 103, 117, 109, 101, 110, 116, 32, 37, 115, 32, 105, 115, 32, 110, 111, 116, 32, 97, 32, 115, 116, 114, 105, 110, 103]⟩ 1 = some [(0, 115, false)] := by kernel_rfl
theorem Tryf.fmt1r (w : World) : (FmtDoors.printed ⟨#[97, 114, 103, 117, 109, 101, 110, 116, 32, 37, 115, 32, 105, 115, 32, 110, 111, 116, 32, 97, 32, 115, 116, 114, 105, 110, 103]⟩ 1).run Tryf.prog w = .ok [(0, 115, false)] w := by kernel_rfl

set_option maxHeartbeats 1000000 in
theorem errorf_missing (F : Interp) (s : ByteArray) (blk : Nat) (w : World) (hF : F.answers w.tape) (hc : w.cell? ⟨blk, 0, none⟩ = some (.iface 9 (.string s))) :
    Calls Tryf.prog 23 #[.string ⟨#[109, 105, 115, 115, 105, 110, 103, 32, 97, 114, 103, 117, 109, 101, 110, 116, 32, 37, 115]⟩, .slice (some ⟨blk, 0, none⟩) 1 1] w fun e w' =>
      e = .returned (.iface 57 (.pointer (some ⟨w.heap.size, 0, none⟩))) ∧ Below w.heap.size w w' := by
  have hF' : ∀ i name reading k range, w.tape i (.extern (word name reading k) range) = F name reading k := hF
  have f1 := Tryf.call26; have f2 := Tryf.guard; have f3 := Tryf.op9_115; have f4 := Tryf.op9_115w; have f5 := Tryf.strict9; have f6 := Tryf.ptr57; have f7 := Tryf.elem57; have f8 := Tryf.fmt0; have f9 := Tryf.fmt0r
  go_enter Tryf.func23, Tryf.ntmps23
  go_wp2
  go_ret
  exact ⟨rfl, ((Below.refl _ _).alloc (Nat.le_refl _) _).drew⟩

set_option maxHeartbeats 1000000 in
theorem errorf_other (F : Interp) (s : ByteArray) (blk : Nat) (w : World) (hF : F.answers w.tape) (hc : w.cell? ⟨blk, 0, none⟩ = some (.iface 9 (.string s))) :
    Calls Tryf.prog 23 #[.string ⟨#[97, 114, 103, 117, 109, 101, 110, 116, 32, 37, 115, 32, 105, 115, 32, 110, 111, 116, 32, 97, 32, 115, 116, 114, 105, 110, 103]⟩, .slice (some ⟨blk, 0, none⟩) 1 1] w fun e w' =>
      e = .returned (.iface 57 (.pointer (some ⟨w.heap.size, 0, none⟩))) ∧ Below w.heap.size w w' := by
  have hF' : ∀ i name reading k range, w.tape i (.extern (word name reading k) range) = F name reading k := hF
  have f1 := Tryf.call26; have f2 := Tryf.guard; have f3 := Tryf.op9_115; have f4 := Tryf.op9_115w; have f5 := Tryf.strict9; have f6 := Tryf.ptr57; have f7 := Tryf.elem57; have f8 := Tryf.fmt1; have f9 := Tryf.fmt1r
  go_enter Tryf.func23, Tryf.ntmps23
  go_wp2
  go_ret
  exact ⟨rfl, ((Below.refl _ _).alloc (Nat.le_refl _) _).drew⟩


theorem zero20 (w : World) : (zeroValue 20).run Tryf.prog w = .ok .nilIface w := by kernel_rfl

def pathWord : ByteArray := ⟨#[112, 97, 116, 104]⟩

theorem rd_inv_string {v : Value} {l : List UInt8} {ps : List MemPlace} (h : rd v = some (.lit (.string l), ps)) : v = .iface 9 (.string ⟨l.toArray⟩) := by
  unfold rd at h
  split at h
  · split at h
    · rename_i s ht
      simp at h
      rw [ht, ← h.1]
    · cases h
  · split at h
    · simp at h
    · cases h
  · simp at h
  · cases h
theorem rd_inv_bool {v : Value} {b : Bool} {ps : List MemPlace} (h : rd v = some (.lit (.bool b), ps)) : v = .iface 4 (.bool b) := by
  unfold rd at h
  split at h
  · split at h
    · simp at h
    · cases h
  · split at h
    · rename_i s ht
      simp at h
      rw [ht, ← h.1]
    · cases h
  · simp at h
  · cases h

/-- What the look-up under the word path gives. -/
def Looked (r : Option (Option ByteArray)) (v : Value) (ok : Bool) : Prop :=
  match r with
  | none => ok = false
  | some none => ok = true ∧ ∃ b, v = .iface 4 (.bool b)
  | some (some s) => ok = true ∧ v = .iface 9 (.string s)

theorem Made.look {w wr : World} {n : Nat} {r : Option (Option ByteArray)} (h : Made w wr n r) :
    ∃ v ok, (Instr.lookup 45 (.map (some w.heap.size)) (.string ⟨#[112, 97, 116, 104]⟩) true).run Tryf.prog wr = .ok (.tuple #[v, .bool ok]) wr ∧ Looked r v ok := by
  obtain ⟨D, hown, hp⟩ := h.own
  have hkey : keyOf Tryf.prog 9 (.string ⟨#[112, 97, 116, 104]⟩) = some pathKey := WideMaps.keyOf_string_mk Tryf.underlying9 (by unfold maxLen; decide)
  obtain ⟨v, ps, hrun, hv⟩ := hown.look_ok keyLaw Tryf.underlying45 (zero20 wr) rd_nil hkey
  refine ⟨v, _, hrun, ?_⟩
  rcases r with _ | _ | s
  · exact hp
  · obtain ⟨b, hb⟩ := hp.2
    rw [hb] at hv
    exact ⟨hp.1, b, rd_inv_bool hv⟩
  · have h2 := hp.2
    rw [h2] at hv
    refine ⟨hp.1, ?_⟩
    rw [rd_inv_string hv]

/-- What Args.String gives: the string and nil; or an error. -/
def StringSays (r : Option (Option ByteArray)) (e : Ending) : Prop :=
  match r with
  | some (some s) => e = .returned (.tuple #[.string s, .nilIface])
  | _ => ∃ a, e = .returned (.tuple #[.string ⟨#[]⟩, .iface 57 (.pointer (some a))])

theorem assertS (s : ByteArray) (w : World) : (Instr.typeAssert (.iface 9 (.string s)) 20 9 true).run Tryf.prog w = .ok (.tuple #[.string s, .bool true]) w := by kernel_rfl
theorem assertB (b : Bool) (w : World) : (Instr.typeAssert (.iface 4 (.bool b)) 20 9 true).run Tryf.prog w = .ok (.tuple #[.string ⟨#[]⟩, .bool false]) w := by kernel_rfl

set_option maxHeartbeats 1000000 in
theorem string_any (F : Interp) (B : Nat) (r : Option (Option ByteArray)) (v : Value) (ok : Bool) (w : World) (hF : F.answers w.tape)
    (hrun : (Instr.lookup 45 (.map (some B)) (.string ⟨#[112, 97, 116, 104]⟩) true).run Tryf.prog w = .ok (.tuple #[v, .bool ok]) w) (hl : Looked r v ok) :
    Calls Tryf.prog 24 #[.map (some B), .string ⟨#[112, 97, 116, 104]⟩] w fun e w' => StringSays r e ∧ Below w.heap.size w w' := by
  rcases r with _ | _ | s
  · obtain rfl : ok = false := hl
    go_enter Tryf.func24, Tryf.ntmps24
    go_wp2_with fail
    refine (errorf_missing F ⟨#[112, 97, 116, 104]⟩ w.heap.size _ (by exact hF) (by simp)).mono ?_
    rintro e w' ⟨rfl, hb⟩
    go_wp2
    go_ret2
    exact ⟨⟨_, rfl⟩, ((Below.refl _ _).alloc (Nat.le_refl _) _).trans (hb.mono (by simp))⟩
  · obtain ⟨rfl, b, rfl⟩ := hl
    have ha := assertB b
    go_enter Tryf.func24, Tryf.ntmps24
    go_wp2_with fail
    refine (errorf_other F ⟨#[112, 97, 116, 104]⟩ w.heap.size _ (by exact hF) (by simp)).mono ?_
    rintro e w' ⟨rfl, hb⟩
    go_wp2
    go_ret2
    exact ⟨⟨_, rfl⟩, ((Below.refl _ _).alloc (Nat.le_refl _) _).trans (hb.mono (by simp))⟩
  · obtain ⟨rfl, rfl⟩ := hl
    have ha := assertS s
    go_enter Tryf.func24, Tryf.ntmps24
    go_wp2
    go_ret2
    exact ⟨rfl, Below.refl _ _⟩


/-- What pathArg comes to: the clean path, or nothing. -/
def answer (r : Option (Option ByteArray)) : Option (List UInt8) :=
  match r with
  | some (some s) => if s.size = 0 then none else some (Lib.Pa.cleanEls s.data.toList)
  | _ => none

def PathSays (a : Option (List UInt8)) (e : Ending) : Prop :=
  match a with
  | some l => e = .returned (.tuple #[.string ⟨l.toArray⟩, .nilIface])
  | none => ∃ t x, e = .returned (.tuple #[.string ⟨#[]⟩, .iface t x])

theorem PathSays.no {r : Option (Option ByteArray)} (h : answer r = none) (t : TypeId) (x : Value) : PathSays (answer r) (.returned (.tuple #[.string ⟨#[]⟩, .iface t x])) := by
  rw [h]; exact ⟨t, x, rfl⟩

set_option maxHeartbeats 1000000 in
theorem pathArg_any (F : Interp) (B : Nat) (r : Option (Option ByteArray)) (v : Value) (ok : Bool) (u : TypeId) (x : Value) (w : World) (hF : F.answers w.tape)
    (hrun : (Instr.lookup 45 (.map (some B)) (.string ⟨#[112, 97, 116, 104]⟩) true).run Tryf.prog w = .ok (.tuple #[v, .bool ok]) w) (hl : Looked r v ok)
    (hsz : ∀ s, r = some (some s) → s.size ≤ 1048576) (hg : w.cell? ⟨0, 0, none⟩ = some (.iface u x)) :
    Calls Tryf.prog 22 #[.map (some B)] w fun e w' => PathSays (answer r) e ∧ Below w.heap.size w w' := by
  have hlt : 0 < w.heap.size := World.block_lt_of_cell? w ⟨0, 0, none⟩ hg
  have HC' : Hid (Calls Tryf.prog 24 #[.map (some B), .string ⟨#[112, 97, 116, 104]⟩] w fun e w' => StringSays r e ∧ Below w.heap.size w w') := string_any F B r v ok w hF hrun hl
  clear hrun hl
  rcases r with _ | _ | s
  · clear hsz
    go_enter Tryf.func22, Tryf.ntmps22
    go_wp2_with fail
    refine Calls.mono HC'.out ?_
    rintro e w' ⟨⟨a, rfl⟩, hb⟩
    go_wp2
    go_ret2
    exact ⟨⟨_, _, rfl⟩, hb⟩
  · clear hsz
    go_enter Tryf.func22, Tryf.ntmps22
    go_wp2_with fail
    refine Calls.mono HC'.out ?_
    rintro e w' ⟨⟨a, rfl⟩, hb⟩
    go_wp2
    go_ret2
    exact ⟨⟨_, _, rfl⟩, hb⟩
  · have hs := hsz s rfl
    clear hsz
    by_cases h0 : s.size = 0
    · have hE : s.toList.isEmpty = true := by
        rw [Lib.toList_data, List.isEmpty_iff_length_eq_zero, ← Lib.size_eq]; exact h0
      have HA : Hid (answer (some (some s)) = none) := if_pos h0
      go_enter Tryf.func22, Tryf.ntmps22
      go_wp2_with fail
      refine Calls.mono HC'.out ?_
      rintro e w' ⟨he, hb⟩
      obtain rfl : e = .returned (.tuple #[.string s, .nilIface]) := he
      have hg' : w'.cell? ⟨0, 0, none⟩ = some (.iface u x) := (hb.cell (p := ⟨0, 0, none⟩) hlt).trans hg
      go_wp2
      go_region
      all_goals
        go_wp2
        go_ret2
        exact ⟨PathSays.no HA.out _ _, hb.drew⟩
    · have hE : s.toList.isEmpty = false := by
        rw [Lib.toList_data, Bool.eq_false_iff]
        intro h
        rw [List.isEmpty_iff_length_eq_zero, ← Lib.size_eq] at h
        exact h0 h
      have HA : Hid (answer (some (some s)) = some (Lib.Pa.cleanEls s.data.toList)) := if_neg h0
      go_enter Tryf.func22, Tryf.ntmps22
      go_wp2_with fail
      refine Calls.mono HC'.out ?_
      rintro e w' ⟨he, hb⟩
      obtain rfl : e = .returned (.tuple #[.string s, .nilIface]) := he
      go_wp2_with fail
      refine (Tryf.filepath_Clean_rules s _ (by omega)).mono ?_
      rintro e w2 ⟨rfl, hb2⟩
      go_wp2
      go_ret2
      exact ⟨by rw [HA.out]; rfl, hb.trans (hb2.mono hb.size)⟩


def ArgSays (a : Option (List UInt8)) (e : Ending) : Prop :=
  match a with
  | some l => e = .returned (.tuple #[.string ⟨l.toArray⟩, .bool false])
  | none => e = .returned (.tuple #[.string ⟨#[]⟩, .bool true])

theorem ArgSays.no {a : Option (List UInt8)} (h : a = none) : ArgSays a (.returned (.tuple #[.string ⟨#[]⟩, .bool true])) := by subst h; rfl
theorem ArgSays.yes {a : Option (List UInt8)} {l : List UInt8} (h : a = some l) : ArgSays a (.returned (.tuple #[.string ⟨l.toArray⟩, .bool false])) := by subst h; rfl

theorem lastPath_mem : ∀ {sk sv : List ByteArray} {s : ByteArray}, Plain.lastPath sk sv = some s → s ∈ sv
  | [], sv, s, h => by rw [Plain.lastPath_nil] at h; cases h
  | _ :: _, [], s, h => by cases h
  | a :: sk, b :: sv, s, h => by
    rw [Plain.lastPath_cons] at h
    cases hl : Plain.lastPath sk sv with
    | some r => rw [hl] at h; cases h; exact List.mem_cons_of_mem _ (lastPath_mem hl)
    | none =>
      rw [hl] at h
      simp only at h
      split at h
      · cases h; exact List.mem_cons_self ..
      · cases h

theorem under_mem {bk sk sv : List ByteArray} {s : ByteArray} (h : under bk sk sv = some (some s)) : s ∈ sv := by
  unfold under at h
  split at h
  · cases h
  · cases hl : Plain.lastPath sk sv with
    | none => rw [hl] at h; cases h
    | some r => rw [hl] at h; cases h; exact lastPath_mem hl

set_option maxHeartbeats 1000000 in
theorem zzPathArg_any (F : Interp) (a0 a1 a2 a3 : Option Addr) (n0 c0 c1 n c2 c3 : Nat) (bk : List ByteArray) (bv : List Bool) (sk sv : List ByteArray) (u : TypeId) (x : Value) (w : World)
    (hF : F.answers w.tape) (hg : w.cell? ⟨0, 0, none⟩ = some (.iface u x))
    (h0 : n0 ≤ 65536) (h2 : n ≤ 65536) (ss : ∀ s, s ∈ sk → s.size ≤ maxLen) (bs : ∀ s, s ∈ bk → s.size ≤ maxLen) (vs : ∀ s, s ∈ sv → s.size ≤ 1048576)
    (s0 : SliceAt w a0 n0 (strVals bk)) (s1 : SliceAt w a1 n0 (boolVals bv)) (s2 : SliceAt w a2 n (strVals sk)) (s3 : SliceAt w a3 n (strVals sv)) :
    Calls Tryf.prog 16 #[.slice a0 n0 c0, .slice a1 n0 c1, .slice a2 n c2, .slice a3 n c3] w fun e w' => ArgSays (answer (under bk sk sv)) e ∧ Below w.heap.size w w' := by
  have hlt : 0 < w.heap.size := World.block_lt_of_cell? w ⟨0, 0, none⟩ hg
  have HC : Hid (Calls Tryf.prog 20 #[.slice a0 n0 c0, .slice a1 n0 c1, .slice a2 n c2, .slice a3 n c3] w fun e w' => e = .returned (.map (some w.heap.size)) ∧ ∃ m, Made w w' m (under bk sk sv)) :=
    argsOf_any a0 a1 a2 a3 n0 c0 c1 n c2 c3 bk bv sk sv w h0 h2 ss bs s0 s1 s2 s3
  have HV : Hid (∀ s, under bk sk sv = some (some s) → s.size ≤ 1048576) := fun s h => vs s (under_mem h)
  clear s0 s1 s2 s3 ss bs vs
  generalize under bk sk sv = r at HC HV ⊢
  go_enter Tryf.func16, Tryf.ntmps16
  go_wp2_with fail
  refine Calls.mono HC.out ?_
  rintro e w1 ⟨rfl, m, hm⟩
  obtain ⟨v, ok, hrun, hl⟩ := hm.look
  have hb1 := hm.below
  have HP : Hid (Calls Tryf.prog 22 #[.map (some w.heap.size)] w1 fun e w' => PathSays (answer r) e ∧ Below w1.heap.size w1 w') :=
    pathArg_any F w.heap.size r v ok u x w1 (by rw [hb1.tape]; exact hF) hrun hl HV.out ((hb1.cell (p := ⟨0, 0, none⟩) hlt).trans hg)
  clear hrun hl hm HC HV
  go_wp2_with fail
  refine Calls.mono HP.out ?_
  rintro e w2 ⟨he, hb2⟩
  have HB : Hid (Below w.heap.size w w2) := hb1.trans (hb2.mono hb1.size)
  clear HP hb1 hb2
  rcases ha : answer r with _ | l
  · rw [ha] at he
    have HA : Hid (answer r = none) := ha
    clear ha
    obtain ⟨t, y, rfl⟩ := he
    go_wp2
    go_region
    all_goals
      go_wp2
      go_ret2
      exact ⟨ArgSays.no HA.out, HB.out.drew⟩
  · rw [ha] at he
    have HA : Hid (answer r = some l) := ha
    clear ha
    obtain rfl : e = .returned (.tuple #[.string ⟨l.toArray⟩, .nilIface]) := he
    go_wp2
    go_region
    all_goals
      go_wp2
      go_ret2
      exact ⟨ArgSays.yes HA.out, HB.out.drew⟩

end Go.Proofs.Qxb6614385aFmt
