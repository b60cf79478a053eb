/-
  THE ROW of FnExpandIdentityIsFreshCopy.
-/
import Derived.Test.Qxb6614432aSameLaw
import Derived.Test.Qxb6614432aRows
import Derived.ProofKit
import Derived.SliceStrings
import Derived.Carry
import Derived.ChangeMaps5
namespace Go.Proofs.Qxb6614432a.fnExpandIdentityIsFreshCopy
open Go.ChangeShapes Go.WideShapes Go.ChangeAt Go.RowKit
open Go.ChangeMaps (open_string shut_string)

theorem own : ownKnob Try.prog.godebug = none := by kernel_rfl
theorem laidOut : laidOutB Try.prog = true := by kernel_rfl

section
variable {H : Type} {enc : TypeId × Value → H}
set_option maxRecDepth 100000 in
theorem strs_of {W : World} {base : Nat} {v : Value} {d : DataW H} {p : List MemPlace} (hv : Value.okWide Try.prog W .any base 22 v) (h : DataW.Trod enc Try.prog W 0 (fun _ => true) true 22 v d p) :
    ∃ a n c xs, v = .slice a n c ∧ n ≤ maxLen ∧ SliceAt W a n (strVals xs) := by
  obtain ⟨a0, len, cap, rfl⟩ := okWide_slice Try.underlying22 hv
  obtain ⟨fuel, hf⟩ := h
  rcases open_strings Try.underlying22 Try.underlying9 (by kernel_rfl) hf with ⟨hcs, _⟩ | ⟨a, len', cap', ss, hcs, _, hl, hm, hz, _, hcell, _⟩
  · simp [Value.cells] at hcs
    obtain ⟨rfl, rfl, rfl⟩ := hcs
    exact ⟨none, 0, 0, [], rfl, Nat.zero_le _, SliceAt.nil _⟩
  · simp [Value.cells] at hcs
    obtain ⟨rfl, rfl, rfl⟩ := hcs
    have hz' : ss.length = cap := by simpa using hz
    refine ⟨_, len, cap, ss.take len, rfl, Nat.le_trans hl hm, ⟨by simp; omega, fun hp => ?_⟩⟩
    obtain ⟨b, off, spot⟩ := a
    have h0 := hcell 0 (by omega)
    have hspot : spot = none := by simpa [Addr.add] using World.cell?_spot h0
    subst hspot
    refine ⟨b, off, rfl, ?_, fun i hi => ?_⟩
    · have := World.block_lt_of_cell? W _ h0
      simpa [Addr.add] using this
    · have hc := hcell i (by omega)
      rw [Addr.add_lit] at hc
      rw [hc]
      have hil : i < ss.length := by omega
      simp [hi, hil]
end

set_option maxRecDepth 100000 in
theorem lifted (os : Os) (started : os.Started) (H : Type) (enc : TypeId × Value → H) :
    ReturnsInHanded {} Try.checked os 3 .any (Rows.fnExpandIdentityIsFreshCopySpec.pre6 enc Try.prog Try.f3 Rows.fnExpandIdentityIsFreshCopyRow.domain false) (Rows.fnExpandIdentityIsFreshCopySpec.post enc Try.prog Try.f3 false true false false) := by
  refine returnsInHanded_of_change (C := Try.checked) own started (by kernel_rfl) Try.func3
    (ChangeSpec.witness6 (enc := enc) (C := Try.checked) false ⟨#[], #[.slice none 0 0, .slice none 0 0, .string ⟨#[]⟩], []⟩ 8 (by kernel_rfl) (by kernel_rfl) (by kernel_rfl) (by kernel_rfl)) ?_
  intro W base args ds gs before hval0 hW hcnd _
  have hval : ∀ (j : Nat) t v, Try.f3.params[j]? = some t → args[j]? = some v → Value.okWide Try.prog W .any base t v := hval0
  have hW' := hW
  obtain ⟨p, q, hA0, hV, rfl, hfz, hnd⟩ := hW
  have hA : DataW.TrodAll enc Try.prog W 0 (fun _ => true) true Try.f3.params.toList args.toList ds p := hA0
  rw [Try.params3] at hA hval
  obtain ⟨v0, v1, v2, d0, d1, d2, p0, p1, p2, rfl, rfl, rfl, h0, h1, h2⟩ := trodAll_three hA
  obtain ⟨rfl, rfl⟩ := trodVars_none hV
  clear hA0 hval0
  obtain ⟨old, rfl, rfl, rfl, w2⟩ := open_string Try.underlying9 (hval 2 9 v2 rfl rfl) h2
  have hlt : ∀ x ∈ p0 ++ p1 ++ [], x.block < W.heap.size := fun x hx => by simpa using hW'.lt x (List.mem_append_left _ hx)
  have k0 := h0
  have k1 := h1
  obtain ⟨b0, n0, c0, es, rfl, m0, s0⟩ := strs_of (hval 0 22 v0 rfl rfl) h0
  obtain ⟨b1, n1, c1, xs, rfl, m1, s1⟩ := strs_of (hval 1 22 v1 rfl rfl) h1
  unfold maxLen at m0 m1
  refine (law3_any old b0 b1 n0 c0 n1 c1 es xs W m0 m1 s0 s1).mono fun e W' ⟨he, hb⟩ => ?_
  subst he
  have l0 : ∀ x ∈ p0, x.block < W.heap.size := fun x hx => hlt x (by simp [hx])
  have l1 : ∀ x ∈ p1, x.block < W.heap.size := fun x hx => hlt x (by simp [hx])
  refine ⟨_, rfl, _, _, _, [], p0 ++ (p1 ++ []), [], hW', ?_, ?_, ?_, ?_, fun h => by cases h⟩
  · exact trodAll_mk1 (shut_bool Try.underlying4 true)
  · exact trodAll_mk3 (Below.trod laidOut (by kernel_rfl) (of_decide_eq_true (by kernel_rfl)) k0 hb l0) (Below.trod laidOut (by kernel_rfl) (of_decide_eq_true (by kernel_rfl)) k1 hb l1) (shut_string Try.underlying9 w2)
  · rfl
  · exact hb.frame _

theorem over : Rows.fnExpandIdentityIsFreshCopyRow.holds Try.pinned (OpenSpec.ofChange Rows.fnExpandIdentityIsFreshCopySpec) :=
  OpenClaim.holds_of_wide 3 Try.f3 rfl rfl rfl rfl rfl rfl rfl ⟨rfl, rfl, rfl, rfl, rfl⟩ rfl rfl rfl rfl rfl (by kernel_rfl) Try.func3 (by kernel_rfl)
    (of_decide_eq_true (by kernel_rfl)) (by unfold Func.isWrapper; first | (rw [if_pos (by decide +kernel)]; kernel_rfl) | (rw [if_neg (by decide +kernel)]; exact ⟨rfl, rfl⟩))
    (fun os started H enc _ => lifted os started H enc)

theorem proved : Rows.FnExpandIdentityIsFreshCopySaid := over

end Go.Proofs.Qxb6614432a.fnExpandIdentityIsFreshCopy
