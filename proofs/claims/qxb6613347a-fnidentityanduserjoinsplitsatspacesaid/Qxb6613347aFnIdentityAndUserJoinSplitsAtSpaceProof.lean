/-
  THE PROOF OF Rows.FnIdentityAndUserJoinSplitsAtSpaceSaid: the frame is the kit's shell (proof-skeleton.mjs); the walk is filled in.
-/
import Derived.Test.Qxb6613347aWalks
import Derived.WalkKit
import Derived.ProofKit
import Derived.OpenShut
import Derived.ShutString
namespace Go.Proofs.Qxb6613347a.fnIdentityAndUserJoinSplitsAtSpace
open Go.ChangeShapes Go.WideShapes Go.ChangeAt Go.RowKit
open Go.ChangeMaps (open_string shut_string)
set_option linter.unusedVariables false      -- a walk need not use every 'w<i>' (that an integer argument fits its kind)

theorem own : ownKnob Try.prog.godebug = none := by kernel_rfl

theorem data_whole (x y : ByteArray) : (x ++ ⟨#[32]⟩ ++ y).data.toList = x.data.toList ++ 32 :: y.data.toList := by
  simp [ByteArray.data_append]
theorem data_left (x : ByteArray) : (x ++ ⟨#[32, 117]⟩).data.toList = x.data.toList ++ [32, 117] := by
  simp [ByteArray.data_append]
theorem data_right (y : ByteArray) : ((⟨#[117, 32]⟩ : ByteArray) ++ y).data.toList = 117 :: 32 :: y.data.toList := by
  simp [ByteArray.data_append]

theorem call_whole (x y : ByteArray) {p q : Bool} (hp : p = Plain.headOk x.data.toList) (hq : q = Plain.lastOk y.data.toList) (w : World) (hx : x.size ≤ 524288) (hy : y.size ≤ 524288) :
    Calls Try.prog 6 #[.string (x ++ ⟨#[32]⟩ ++ y)] w fun e w' => e = .returned (.bool (p && q)) ∧ w' = w := by
  have := accept_walk6 (x ++ ⟨#[32]⟩ ++ y) w (by
    rw [ByteArray.size_append, ByteArray.size_append]
    have : (⟨#[32]⟩ : ByteArray).size = 1 := rfl
    omega)
  rwa [data_whole, Plain.accept_join, ← hp, ← hq] at this

theorem call_left (x : ByteArray) {p : Bool} (hp : p = Plain.headOk x.data.toList) (w : World) (hx : x.size ≤ 524288) :
    Calls Try.prog 6 #[.string (x ++ ⟨#[32, 117]⟩)] w fun e w' => e = .returned (.bool p) ∧ w' = w := by
  have := accept_walk6 (x ++ ⟨#[32, 117]⟩) w (by
    rw [ByteArray.size_append]
    have : (⟨#[32, 117]⟩ : ByteArray).size = 2 := rfl
    omega)
  rwa [data_left, Plain.accept_left, ← hp] at this

theorem call_right (y : ByteArray) {q : Bool} (hq : q = Plain.lastOk y.data.toList) (w : World) (hy : y.size ≤ 524288) :
    Calls Try.prog 6 #[.string ((⟨#[117, 32]⟩ : ByteArray) ++ y)] w fun e w' => e = .returned (.bool q) ∧ w' = w := by
  have := accept_walk6 ((⟨#[117, 32]⟩ : ByteArray) ++ y) w (by
    rw [ByteArray.size_append]
    have : (⟨#[117, 32]⟩ : ByteArray).size = 2 := rfl
    omega)
  rwa [data_right, Plain.accept_right, ← hq] at this

theorem head_size (x : ByteArray) {p : Bool} (hp : p = Plain.headOk x.data.toList) : (p = false ∧ x.size = 0) ∨ (∃ h : 0 < x.size, p = !((32 : UInt8) == x[0])) := by
  obtain ⟨⟨l⟩⟩ := x
  cases l with
  | nil => left; exact ⟨hp, rfl⟩
  | cons a l => right; exact ⟨by simp [ByteArray.size], hp⟩

theorem fin_yes {c : UInt8} (h : (32 : UInt8) = c) : (!((c.toNat : Int) != 32)) = true := by
  subst h; decide
theorem fin_no {c : UInt8} (h : ¬ (32 : UInt8) = c) : ((!(32 : UInt8) == c) == ((c.toNat : Int) != 32)) = true := by
  have h1 : ((32 : UInt8) == c) = false := by simpa using h
  have h2 : c.toNat ≠ 32 := fun e => h (UInt8.toNat_inj.1 (by rw [e]; rfl))
  have h3 : ((c.toNat : Int) != 32) = true := by rw [bne_iff_ne]; omega
  rw [h1, h3]; rfl

/-! ### STEP 1: THE WALK: the Go text returns true. 'Grown w w'': the world has at most new blocks (Derived/RowKit3.lean). Part the cases AHEAD of 'go_enter' where a test parts the walk; take each callee by a contract of your own. -/
theorem walk (a0 : ByteArray) (a1 : ByteArray) (w0 : a0.size ≤ maxLen) (w1 : a1.size ≤ maxLen) (w : World) :
    Calls Try.prog 3 #[.string a0, .string a1] w fun e w' => e = .returned (.bool true) ∧ Grown w w' := by
  obtain ⟨p, hp⟩ : ∃ p, p = Plain.headOk a0.data.toList := ⟨_, rfl⟩
  obtain ⟨q, hq⟩ : ∃ q, q = Plain.lastOk a1.data.toList := ⟨_, rfl⟩
  have c1 := call_whole a0 a1 hp hq
  have c2 := call_left a0 hp
  have c3 := call_right a1 hq
  have hd := head_size a0 hp
  clear hp hq
  unfold maxLen at w0 w1
  have C1 : Hid _ := c1
  have C2 : Hid _ := c2
  have C3 : Hid _ := c3
  clear c1 c2 c3
  rcases hd with ⟨rfl, hz⟩ | ⟨hz, hd⟩
  · go_enter Try.func3, Try.ntmps3
    go_wp2_with fail
    refine (bytes_walk _ _ _).mono ?_
    rintro e w' ⟨b, rfl, rfl⟩
    go_wp2_with fail
    · go_ret; exact ⟨rfl, Grown.refl _⟩
    · go_ret; exact ⟨rfl, Grown.refl _⟩
    refine (C1.out _ (by omega) (by omega)).mono ?_
    rintro e w' ⟨rfl, rfl⟩
    go_wp2_with fail
    refine (C2.out _ (by omega)).mono ?_
    rintro e w' ⟨rfl, rfl⟩
    go_wp2_with fail
    refine (C3.out _ (by omega)).mono ?_
    rintro e w' ⟨rfl, rfl⟩
    go_wp2_with fail
    go_ret; exact ⟨rfl, Grown.refl _⟩
  · go_enter Try.func3, Try.ntmps3
    go_wp2_with fail
    refine (bytes_walk _ _ _).mono ?_
    rintro e w' ⟨b, rfl, rfl⟩
    go_wp2_with fail
    · go_ret; exact ⟨rfl, Grown.refl _⟩
    · go_ret; exact ⟨rfl, Grown.refl _⟩
    · go_ret; exact ⟨rfl, Grown.refl _⟩
    refine (C1.out _ (by omega) (by omega)).mono ?_
    rintro e w' ⟨rfl, rfl⟩
    go_wp2_with fail
    refine (C2.out _ (by omega)).mono ?_
    rintro e w' ⟨rfl, rfl⟩
    go_wp2_with fail
    refine (C3.out _ (by omega)).mono ?_
    rintro e w' ⟨rfl, rfl⟩
    go_wp2_with fail
    · have h : (32 : UInt8) = a0[0] := by assumption
      go_ret; exact ⟨ret_bool (fin_yes h), Grown.refl _⟩
    · have h : ¬ (32 : UInt8) = a0[0] := by assumption
      go_ret; exact ⟨ret_bool (fin_no h), Grown.refl _⟩

/-! ### THE ROW's STEP: WRITTEN OUT: LEAVE IT -/
set_option maxRecDepth 100000 in
theorem lifted (os : Os) (started : os.Started) (H : Type) (enc : TypeId × Value → H) :
    ReturnsInHanded {} Try.checked os 3 .any (Rows.fnIdentityAndUserJoinSplitsAtSpaceSpec.pre6 enc Try.prog Try.f3 Rows.fnIdentityAndUserJoinSplitsAtSpaceRow.domain false) (Rows.fnIdentityAndUserJoinSplitsAtSpaceSpec.post enc Try.prog Try.f3 false true false false) := by
  refine returnsInHanded_of_change (C := Try.checked) own started (by kernel_rfl) Try.func3
    (ChangeSpec.witness6 (enc := enc) (C := Try.checked) false ⟨#[], #[.string ByteArray.empty, .string ByteArray.empty], []⟩ 8 (by kernel_rfl) (by kernel_rfl) (by kernel_rfl) (by kernel_rfl)) ?_
  intro W base args ds gs before hval0 hW hcnd _
  have hval : ∀ (j : Nat) t v, Try.f3.params[j]? = some t → args[j]? = some v → Value.okWide Try.prog W .any base t v := hval0
  have hW' := hW
  obtain ⟨p, q, hA0, hV, rfl, hfz, hnd⟩ := hW
  have hA : DataW.TrodAll enc Try.prog W 0 (fun _ => true) true Try.f3.params.toList args.toList ds p := hA0
  rw [Try.params3] at hA hval
  obtain ⟨v0, vs0, d0, ds0, p0, q0, hargs, rfl, rfl, h0, r0⟩ := trodAll_cons hA
  obtain ⟨v1, vs1, d1, ds1, p1, q1, rfl, rfl, rfl, h1, r1⟩ := trodAll_cons r0
  obtain ⟨rfl, rfl, rfl⟩ := trodAll_nil r1
  obtain rfl : args = #[v0, v1] := by cases args; simp_all
  obtain ⟨rfl, rfl⟩ := trodVars_none hV
  obtain ⟨a0, rfl, rfl, rfl, w0⟩ := open_string Try.underlying9 (hval 0 9 v0 rfl rfl) h0
  obtain ⟨a1, rfl, rfl, rfl, w1⟩ := open_string Try.underlying9 (hval 1 9 v1 rfl rfl) h1
  clear hA0 hval0
  simp only [List.append_nil] at hW'
  refine (walk a0 a1 w0 w1 W).mono fun e W' ⟨he, hg⟩ => ?_
  subst he
  exact ⟨_, rfl, post_of_same (pa := []) (pv := []) hW' (fun _ _ _ => (trodAll_cons_mk (shut_bool Try.underlying4 _) trodAll_mk0)) (fun sp _ => (trodAll_cons_mk (shut_string Try.underlying9 w0) (trodAll_cons_mk (shut_string Try.underlying9 w1) trodAll_mk0))) (fun _ _ => rfl) rfl
    (hg.frame _) hg.2.1 (ok_one (by kernel_rfl) rfl (okWide_bool_mk Try.underlying4 _))⟩

theorem over : Rows.fnIdentityAndUserJoinSplitsAtSpaceRow.holds Try.pinned (OpenSpec.ofChange Rows.fnIdentityAndUserJoinSplitsAtSpaceSpec) :=
  OpenClaim.holds_of_wide 3 Try.f3 rfl rfl rfl rfl rfl rfl rfl ⟨rfl, rfl, rfl, rfl, rfl⟩ rfl rfl rfl rfl rfl (by kernel_rfl) Try.func3 (by kernel_rfl)
    (of_decide_eq_true (by kernel_rfl)) (by unfold Func.isWrapper; first | (rw [if_pos (by decide +kernel)]; kernel_rfl) | (rw [if_neg (by decide +kernel)]; exact ⟨rfl, rfl⟩))
    (fun os started H enc _ => lifted os started H enc)

/-- ████ THE STATEMENT ████ -/
theorem proved : Rows.FnIdentityAndUserJoinSplitsAtSpaceSaid :=
  over
end Go.Proofs.Qxb6613347a.fnIdentityAndUserJoinSplitsAtSpace
