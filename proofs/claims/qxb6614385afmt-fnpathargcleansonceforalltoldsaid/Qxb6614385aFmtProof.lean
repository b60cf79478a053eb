/-
  THE ROW AND THE CARD of FnPathArgCleansOnceForAll: told and tied.
-/
import Derived.Test.Qxb6614385aFmtLaw
import Derived.Test.Qxb6614385aFmtRows
import Derived.Test.Qxb6614385aFmtTie
import Derived.Test.Qxb6614385aFmtCards
import Derived.ProofKit
import Derived.SliceStrings
import Derived.Deep.Slices
import Derived.RowKitTokens
import Derived.Stop.JoinedAt
import Derived.Stop.JoinedTold
import Derived.Stop.LaidErr
import Derived.SevenTiedAt
import Derived.Carry
namespace Go.Proofs.Qxb6614385aFmt
open Go.ChangeShapes Go.WideShapes Go.ChangeAt Go.RowKit
open Go.Extern.Stop Go.Stop Go.Extern

/-- The truth in a cell. -/
def toBool : Value → Bool
  | .bool b => b
  | _ => false

section
variable {H : Type} {enc : TypeId × Value → H}

theorem strs_of {W : World} {base : Nat} {v : Value} {d : DataW H} {p : List MemPlace} (hv : Value.okWide Tryf.prog W .any base 22 v) (h : DataW.Trod enc Tryf.prog W 0 (fun _ => true) true 22 v d p) :
    ∃ a n c xs, v = .slice a n c ∧ n ≤ maxLen ∧ SliceAt W a n (strVals xs) ∧ ∀ s, s ∈ xs → s.size ≤ maxLen := by
  obtain ⟨a0, len, cap, rfl⟩ := okWide_slice Tryf.underlying22 hv
  obtain ⟨fuel, hf⟩ := h
  rcases open_strings Tryf.underlying22 Tryf.underlying9 (by kernel_rfl) hf with ⟨hcs, _⟩ | ⟨a, len', cap', ss, hcs, _, hl, hm, hz, _, hcell, hws⟩
  · simp [Value.cells] at hcs
    obtain ⟨rfl, rfl, rfl⟩ := hcs
    exact ⟨none, 0, 0, [], rfl, Nat.zero_le _, SliceAt.nil _, fun s hs => by cases hs⟩
  · simp [Value.cells] at hcs
    obtain ⟨rfl, rfl, rfl⟩ := hcs
    have hz' : ss.length = cap := by simpa using hz
    refine ⟨_, len, cap, ss.take len, rfl, Nat.le_trans hl hm, ⟨by simp; omega, fun hp => ?_⟩, fun s hs => hws s (List.mem_of_mem_take hs)⟩
    obtain ⟨b, off, spot⟩ := a
    have h0 := hcell 0 (by omega)
    have hspot : spot = none := by simpa [Addr.add] using World.cell?_spot h0
    subst hspot
    refine ⟨b, off, rfl, ?_, fun i hi => ?_⟩
    · have := World.block_lt_of_cell? W _ h0
      simpa [Addr.add] using this
    · have hc := hcell i (by omega)
      rw [add_plain] at hc
      rw [hc]
      have hil : i < ss.length := by omega
      simp [hi, hil]

theorem bools_of {W : World} {base : Nat} {v : Value} {d : DataW H} {p : List MemPlace} (hv : Value.okWide Tryf.prog W .any base 23 v) (h : DataW.Trod enc Tryf.prog W 0 (fun _ => true) true 23 v d p) :
    ∃ a n c xs, v = .slice a n c ∧ n ≤ maxLen ∧ SliceAt W a n (boolVals xs) := by
  obtain ⟨a0, len, cap, rfl⟩ := okWide_slice Tryf.underlying23 hv
  obtain ⟨fuel, hf⟩ := h
  rcases Deep.open_slice1 Tryf.underlying23 (by kernel_rfl) hf with ⟨hcs, _⟩ | ⟨a, len', cap', m, n, V, D, Pl, hcs, _, hl, hm, hmm, _, hx⟩
  · simp [Value.cells] at hcs
    obtain ⟨rfl, rfl, rfl⟩ := hcs
    exact ⟨none, 0, 0, [], rfl, Nat.zero_le _, SliceAt.nil _⟩
  · simp [Value.cells] at hcs
    obtain ⟨rfl, rfl, rfl⟩ := hcs
    have hmm' : m = cap := by simpa using hmm
    have hb : ∀ i, i < m → V i = .bool (toBool (V i)) := by
      intro i hi
      obtain ⟨b, hb, _⟩ := DataW.trod_bool Tryf.underlying4 (hx i hi).2
      have : V i = .bool b := by simpa using hb
      rw [this]; rfl
    refine ⟨_, len, cap, (List.range len).map fun i => toBool (V i), rfl, Nat.le_trans hl hm, ⟨by simp, fun hp => ?_⟩⟩
    obtain ⟨b, off, spot⟩ := a
    have h0 := (hx 0 (by omega)).1
    have hspot : spot = none := by simpa [Addr.add] using World.cell?_spot h0
    subst hspot
    refine ⟨b, off, rfl, ?_, fun i hi => ?_⟩
    · have := World.block_lt_of_cell? W _ h0
      simpa [Addr.add] using this
    · have hc := (hx i (by omega)).1
      rw [add_plain] at hc
      rw [hc]
      simp [hi]
      exact hb i (by omega)
end

theorem own : ownKnob Tryf.prog.godebug = none := by kernel_rfl
theorem laidOut : laidOutB Tryf.pinned.checked.prog = true := by kernel_rfl
theorem stops : Tryf.pinned.checked.prog.stops = ["fmt.errorf"] := by kernel_rfl
theorem stopKnobs : Tryf.pinned.checked.prog.stopKnobs = [] := by kernel_rfl
theorem quiet (os : Os) : Stop.quiet Tryf.pinned.checked.prog os := by
  intro k hk
  rw [stopKnobs] at hk
  cases hk
theorem gType : (Tryf.prog.globals[0]?).map (·.type) = some 42 := by kernel_rfl
theorem cells59 : Tryf.prog.cellsOf 59 = 1 := by kernel_rfl
theorem cells9 : Tryf.prog.cellsOf 9 = 1 := by kernel_rfl
/-- The name of the dynamic type that a listed datum bears. -/
def ifaceName : DataW Unit → String
  | .iface n _ => n
  | _ => ""
theorem row57 (u : TypeId) (h : Tryf.prog.typeName? 3 u = some (ifaceName Rows.laid_example_com_cormorant_cormorant_internal_tool_errEmptyPath)) : u = 57 :=
  typeName_ptr_named (nm := "errors.errorString") (by kernel_rfl) (by kernel_rfl) (by decide) u (h.trans (congrArg some (by decide)))
theorem gName : Tryf.prog.globalNamed (Rows.fnPathArgCleansOnceForAllSpec.vars.headD "") = some 0 := by kernel_rfl

set_option maxRecDepth 100000 in
theorem lifted (os : Os) (started : os.Started) (H : Type) (enc : TypeId × Value → H) :
    ReturnsInTold none {} Tryf.checked os 5 .any Input.okWide ((OpenSpec.ofChange Rows.fnPathArgCleansOnceForAllSpec).preRow enc Tryf.prog Tryf.f5 [] false Rows.fnPathArgCleansOnceForAllRow.laid)
      (fun F => ((OpenSpec.ofChange Rows.fnPathArgCleansOnceForAllSpec).at F).post enc Tryf.prog Tryf.f5 false true false false) (aloneAtReturn Tryf.prog) nothingAlways := by
  refine returnsInTold_of_row (C := Tryf.checked) (s := OpenSpec.ofChange Rows.fnPathArgCleansOnceForAllSpec) (by kernel_rfl) own started (by kernel_rfl) Tryf.func5
    (OpenSpec.witness_stopped_at (enc := enc) (C := Tryf.checked) false
      { World.holding Tryf.prog os ⟨#[.cells #[.string ⟨#[112, 97, 116, 104, 32, 105, 115, 32, 101, 109, 112, 116, 121]⟩] 59], #[], []⟩ with
        heap := (World.holding Tryf.prog os ⟨#[.cells #[.string ⟨#[112, 97, 116, 104, 32, 105, 115, 32, 101, 109, 112, 116, 121]⟩] 59], #[], []⟩).heap.modify 0 fun
          | .cells _ t frozen => .cells #[.iface 57 (.pointer (some ⟨(World.holding Tryf.prog default ⟨#[], #[], []⟩).heap.size, 0, none⟩))] t frozen
          | o => o }
      #[.slice none 0 0, .slice none 0 0, .slice none 0 0, .slice none 0 0] rfl (by kernel_rfl) (by kernel_rfl) (by kernel_rfl)
      (OpenSpec.preRow_of_B rfl 8 (by kernel_rfl) (by kernel_rfl) (laidMet_of_run (ps := [.cell 0 0, .cell (World.holding Tryf.prog default ⟨#[], #[], []⟩).heap.size 0]) 8 (by kernel_rfl) (by kernel_rfl) (by kernel_rfl)))) ?_
  intro F W base args ds gs before _ hF hval0 hW _ _ _ hL _
  have hval : ∀ (j : Nat) t v, Tryf.f5.params[j]? = some t → args[j]? = some v → Value.okWide Tryf.prog W .any base t v := hval0
  have hW' := hW
  obtain ⟨p, q, hA0, hV0, rfl, hfz, hnd⟩ := hW
  have hA : DataW.TrodAll enc Tryf.prog W 0 (fun _ => true) true Tryf.f5.params.toList args.toList ds p := hA0
  rw [Tryf.params5] at hA hval
  obtain ⟨v0, v1, v2, v3, d0, d1, d2, d3, p0, p1, p2, p3, rfl, rfl, rfl, h0, h1, h2, h3⟩ := trodAll_four hA
  have hV : DataW.TrodVars enc Tryf.prog W (fun _ => true) [Rows.fnPathArgCleansOnceForAllSpec.vars.headD ""] gs q := hV0
  have hlt : ∀ x ∈ p0 ++ p1 ++ p2 ++ p3, x.block < W.heap.size := fun x hx => by simpa using hW'.lt x (List.mem_append_left _ hx)
  obtain ⟨a1, s1, hv1, hc1, _, _⟩ := laid_sentinel (g := 0) (tp := 57) (te := 59) (ts := 9) hL gName gType Tryf.underlying42 row57 Tryf.underlying57 Tryf.underlying59 rfl rfl Tryf.underlying9 cells59 cells9
  obtain ⟨rfl, rfl⟩ := hV.unique (vars_read1 enc gName gType Tryf.underlying42 hv1 trivial _)
  clear hA0 hV0 hval0
  have hg1 : W.cell? ⟨0, 0, none⟩ = some (.iface 57 (.pointer (some a1))) := by simpa using World.var?_cell gName hv1 0
  have k0 := h0; have k1 := h1; have k2 := h2; have k3 := h3
  obtain ⟨b0, n0, c0, bk, rfl, m0, s0, z0⟩ := strs_of (hval 0 22 v0 rfl rfl) h0
  obtain ⟨b1, n1, c1, bv, rfl, m1, t1⟩ := bools_of (hval 1 23 v1 rfl rfl) h1
  obtain ⟨b2, n2, c2, sk, rfl, m2, t2, z2⟩ := strs_of (hval 2 22 v2 rfl rfl) h2
  obtain ⟨b3, n3, c3, sv, rfl, m3, t3, z3⟩ := strs_of (hval 3 22 v3 rfl rfl) h3
  unfold maxLen at m0 m1 m2 m3
  refine (law_any F.told b0 b1 b2 b3 n0 c0 n1 c1 n2 c2 n3 c3 bk bv sk sv 57 (.pointer (some a1)) W hF hg1 m0 m1 m2 m3 z2 z0 s0 t1 t2 t3).mono fun e W' ⟨he, hb⟩ => ?_
  subst he
  have e1 : ((OpenSpec.ofChange Rows.fnPathArgCleansOnceForAllSpec).at F.told).fn H ([d0, d1, d2, d3] ++ [tok enc (.iface 57 (.pointer (some a1)))]) = { results := [.lit (.bool true)], args := [d0, d1, d2, d3], vars := [tok enc (.iface 57 (.pointer (some a1)))] } := rfl
  have l0 : ∀ x ∈ p0, x.block < W.heap.size := fun x hx => hlt x (by simp [hx])
  have l1 : ∀ x ∈ p1, x.block < W.heap.size := fun x hx => hlt x (by simp [hx])
  have l2 : ∀ x ∈ p2, x.block < W.heap.size := fun x hx => hlt x (by simp [hx])
  have l3 : ∀ x ∈ p3, x.block < W.heap.size := fun x hx => hlt x (by simp [hx])
  refine ⟨_, rfl, _, _, _, [], p0 ++ (p1 ++ (p2 ++ p3)), [.cell 0 0], hW', ?_, ?_, ?_, ?_, fun h => by cases h⟩
  · rw [e1]; exact trodAll_mk1 (shut_bool Tryf.underlying4 true)
  · rw [e1]
    exact trodAll_mk4 (Below.trod laidOut (by kernel_rfl) (of_decide_eq_true (by kernel_rfl)) k0 hb l0) (Below.trod laidOut (by kernel_rfl) (of_decide_eq_true (by kernel_rfl)) k1 hb l1)
      (Below.trod laidOut (by kernel_rfl) (of_decide_eq_true (by kernel_rfl)) k2 hb l2) (Below.trod laidOut (by kernel_rfl) (of_decide_eq_true (by kernel_rfl)) k3 hb l3)
  · rw [e1]; exact vars_read1 enc gName gType Tryf.underlying42 (var?_below hb gName (World.block_lt_of_cell? W ⟨0, 0, none⟩ hg1) hv1) trivial _
  · exact hb.frame _

theorem proved : Rows.FnPathArgCleansOnceForAllToldSaid :=
  Claim7.holds_of_told_tied_any_at .later 5 Tryf.f5 "fmt.errorf" [] [] _ _ _ _ _ (by kernel_rfl) rfl rfl rfl laidOut (by kernel_rfl) rfl ⟨rfl, rfl, rfl, rfl, rfl, rfl, rfl⟩ rfl rfl (by kernel_rfl) (by kernel_rfl) Tryf.func5 (by kernel_rfl)
    (of_decide_eq_true (by kernel_rfl)) (of_decide_eq_true (by kernel_rfl)) stops.symm rfl stopKnobs.symm (by kernel_rfl)
    (by kernel_rfl) (by kernel_rfl) (by kernel_rfl) (by kernel_rfl) (by kernel_rfl) (by kernel_rfl) (by kernel_rfl) (by kernel_rfl) (by kernel_rfl) rfl (by kernel_rfl) rfl rfl
    rfl rfl
    rfl (by kernel_rfl) (by kernel_rfl) (by kernel_rfl) (by decide) (by kernel_rfl) fnPathArgCleansOnceForAll_row_tie
    (OpenClaim.moreEntering_of (by kernel_rfl) (by kernel_rfl) (by kernel_rfl) (by kernel_rfl) (by kernel_rfl) (by kernel_rfl) (by kernel_rfl) (by kernel_rfl) (by kernel_rfl) (by kernel_rfl))
    ⟨_, WideRow.started_initial, quiet _⟩
    (fun os started _ H enc _ => lifted os started H enc)

end Go.Proofs.Qxb6614385aFmt
