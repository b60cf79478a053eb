/-
  THE ROW AND THE CARD of FnLineReaderEndOfJoinedLogIsEndOfBoth: told and tied.
-/
import Derived.Test.Qxb6612715aFmtLaw
import Derived.Test.Qxb6612715aFmtRows
import Derived.Test.Qxb6612715aFmtTie
import Derived.Test.Qxb6612715aFmtCards
import Derived.ProofKit
import Derived.ChangeMaps5
import Derived.RowKitTokens
import Derived.Stop.JoinedAt
import Derived.Stop.JoinedTold
import Derived.Stop.LaidErr
import Derived.Stop.LaidTwo
import Derived.SevenTiedAt
import Derived.Carry
import Derived.WalkSmall
namespace Go.Proofs.Qxb6612715aFmt
open Go.ChangeShapes Go.WideShapes Go.ChangeAt Go.RowKit
open Go.Extern.Stop Go.Stop Go.Extern
open Go.ChangeMaps (open_string shut_string)

theorem own : ownKnob Tryf.prog.godebug = none := by kernel_rfl
theorem laidOut : laidOutB Tryf.pinned.checked.prog = true := by kernel_rfl
theorem stops : Tryf.pinned.checked.prog.stops = ["fmt.errorf"] := by kernel_rfl
theorem stopKnobs : Tryf.pinned.checked.prog.stopKnobs = [] := by kernel_rfl
theorem quiet (os : Os) : Stop.quiet Tryf.pinned.checked.prog os := by
  intro k hk
  rw [stopKnobs] at hk
  cases hk
theorem gType3 : (Tryf.prog.globals[3]?).map (·.type) = some 32 := by kernel_rfl
theorem gType5 : (Tryf.prog.globals[5]?).map (·.type) = some 32 := by kernel_rfl
theorem gType6 : (Tryf.prog.globals[6]?).map (·.type) = some 32 := by kernel_rfl
theorem gType0 : (Tryf.prog.globals[0]?).map (·.type) = some 32 := by kernel_rfl
theorem gType1 : (Tryf.prog.globals[1]?).map (·.type) = some 32 := by kernel_rfl
theorem gType2 : (Tryf.prog.globals[2]?).map (·.type) = some 32 := by kernel_rfl
theorem cells78 : Tryf.prog.cellsOf 78 = 1 := by kernel_rfl
theorem cells9 : Tryf.prog.cellsOf 9 = 1 := by kernel_rfl
/-- The name of the dynamic type that a listed datum bears. -/
def ifaceName : DataW Unit → String
  | .iface n _ => n
  | _ => ""
theorem row76 (u : TypeId) (h : Tryf.prog.typeName? 3 u = some (ifaceName Rows.laid_io_EOF)) : u = 76 :=
  typeName_ptr_named (nm := "errors.errorString") (by kernel_rfl) (by kernel_rfl) (by decide) u (h.trans (congrArg some (by decide)))
theorem gName0 : Tryf.prog.globalNamed (Rows.fnLineReaderEndOfJoinedLogIsEndOfBothSpec.vars.headD "") = some 0 := by kernel_rfl
theorem gName3 : Tryf.prog.globalNamed "bufio.ErrFinalToken" = some 3 := by kernel_rfl
theorem gName5 : Tryf.prog.globalNamed "io.ErrNoProgress" = some 5 := by kernel_rfl
theorem gName6 : Tryf.prog.globalNamed "bufio.ErrNegativeAdvance" = some 6 := by kernel_rfl
theorem gName1 : Tryf.prog.globalNamed "io.EOF" = some 1 := by kernel_rfl
theorem gName2 : Tryf.prog.globalNamed "bufio.ErrTooLong" = some 2 := by kernel_rfl

noncomputable def low : Nat := (World.holding Tryf.prog default ⟨#[], #[], []⟩).heap.size
noncomputable def laidWorld (os : Os) : World :=
  let w0 := World.holding Tryf.prog os ⟨#[.cells #[.string ⟨#[69, 79, 70]⟩] 78, .cells #[.string ⟨#[109, 117, 108, 116, 105, 112, 108, 101, 32, 82, 101, 97, 100, 32, 99, 97, 108, 108, 115, 32, 114, 101, 116, 117, 114, 110, 32, 110, 111, 32, 100, 97, 116, 97, 32, 111, 114, 32, 101, 114, 114, 111, 114]⟩] 78, .cells #[.string ⟨#[98, 117, 102, 105, 111, 46, 83, 99, 97, 110, 110, 101, 114, 58, 32, 116, 111, 107, 101, 110, 32, 116, 111, 111, 32, 108, 111, 110, 103]⟩] 78, .cells #[.string ⟨#[98, 117, 102, 105, 111, 46, 83, 99, 97, 110, 110, 101, 114, 58, 32, 83, 112, 108, 105, 116, 70, 117, 110, 99, 32, 114, 101, 116, 117, 114, 110, 115, 32, 110, 101, 103, 97, 116, 105, 118, 101, 32, 97, 100, 118, 97, 110, 99, 101, 32, 99, 111, 117, 110, 116]⟩] 78, .cells #[.string ⟨#[98, 117, 102, 105, 111, 46, 83, 99, 97, 110, 110, 101, 114, 58, 32, 83, 112, 108, 105, 116, 70, 117, 110, 99, 32, 114, 101, 116, 117, 114, 110, 115, 32, 97, 100, 118, 97, 110, 99, 101, 32, 99, 111, 117, 110, 116, 32, 98, 101, 121, 111, 110, 100, 32, 105, 110, 112, 117, 116]⟩] 78, .cells #[.string ⟨#[98, 117, 102, 105, 111, 46, 83, 99, 97, 110, 110, 101, 114, 58, 32, 82, 101, 97, 100, 32, 114, 101, 116, 117, 114, 110, 101, 100, 32, 105, 109, 112, 111, 115, 115, 105, 98, 108, 101, 32, 99, 111, 117, 110, 116]⟩] 78, .cells #[.string ⟨#[102, 105, 110, 97, 108, 32, 116, 111, 107, 101, 110]⟩] 78, .cells #[.string ⟨#[97, 110, 116, 101, 99, 101, 100, 101, 58, 32, 114, 101, 97, 100, 105, 110, 103, 32, 97, 32, 108, 111, 103, 58, 32, 116, 104, 101, 32, 114, 101, 97, 100, 101, 114, 32, 104, 97, 115, 32, 110, 111, 110, 101, 58, 32, 110, 111, 32, 99, 111, 110, 115, 116, 114, 117, 99, 116, 111, 114, 32, 109, 97, 100, 101, 32, 105, 116, 32, 111, 114, 32, 105, 116, 32, 119, 97, 115, 32, 103, 105, 118, 101, 110, 32, 110, 105, 108]⟩] 78], #[], []⟩
  { w0 with heap := ((((((((w0.heap.modify 1 fun
      | .cells _ t frozen => .cells #[.iface 76 (.pointer (some ⟨low + 0, 0, none⟩))] t frozen
      | o => o).modify 5 fun
      | .cells _ t frozen => .cells #[.iface 76 (.pointer (some ⟨low + 1, 0, none⟩))] t frozen
      | o => o).modify 2 fun
      | .cells _ t frozen => .cells #[.iface 76 (.pointer (some ⟨low + 2, 0, none⟩))] t frozen
      | o => o).modify 6 fun
      | .cells _ t frozen => .cells #[.iface 76 (.pointer (some ⟨low + 3, 0, none⟩))] t frozen
      | o => o).modify 7 fun
      | .cells _ t frozen => .cells #[.iface 76 (.pointer (some ⟨low + 4, 0, none⟩))] t frozen
      | o => o).modify 4 fun
      | .cells _ t frozen => .cells #[.iface 76 (.pointer (some ⟨low + 5, 0, none⟩))] t frozen
      | o => o).modify 3 fun
      | .cells _ t frozen => .cells #[.iface 76 (.pointer (some ⟨low + 6, 0, none⟩))] t frozen
      | o => o).modify 0 fun
      | .cells _ t frozen => .cells #[.iface 76 (.pointer (some ⟨low + 7, 0, none⟩))] t frozen
      | o => o) }
theorem laid_met (os : Os) (args : Array Value) : laidMet Tryf.prog Rows.fnLineReaderEndOfJoinedLogIsEndOfBothRow.laid ((laidWorld os).forCall (fun _ _ => 0) ⟨#[], args, []⟩).memory :=
  laidMet_of_run (ps := [.cell 1 0, .cell (low + 0) 0, .cell 5 0, .cell (low + 1) 0, .cell 2 0, .cell (low + 2) 0, .cell 6 0, .cell (low + 3) 0, .cell 7 0, .cell (low + 4) 0, .cell 4 0, .cell (low + 5) 0, .cell 3 0, .cell (low + 6) 0, .cell 0 0, .cell (low + 7) 0]) 8 (by kernel_rfl) (by kernel_rfl) (by kernel_rfl)

theorem addr_ne {W : World} {a b : Addr} {s s' : ByteArray} (ha : W.cell? a = some (.string s)) (hb : W.cell? b = some (.string s')) (hne : s.data.toList ≠ s'.data.toList) : a ≠ b := by
  rintro rfl
  rw [ha] at hb
  cases hb
  exact hne rfl

set_option maxRecDepth 100000 in
theorem lifted (os : Os) (started : os.Started) (H : Type) (enc : TypeId × Value → H) :
    ReturnsInTold none {} Tryf.checked os 4 .any Input.okWide ((OpenSpec.ofChange Rows.fnLineReaderEndOfJoinedLogIsEndOfBothSpec).preRow enc Tryf.prog Tryf.f4 [] false Rows.fnLineReaderEndOfJoinedLogIsEndOfBothRow.laid)
      (fun F => ((OpenSpec.ofChange Rows.fnLineReaderEndOfJoinedLogIsEndOfBothSpec).at F).post enc Tryf.prog Tryf.f4 false true false false) (aloneAtReturn Tryf.prog) nothingAlways := by
  refine returnsInTold_of_row (C := Tryf.checked) (s := OpenSpec.ofChange Rows.fnLineReaderEndOfJoinedLogIsEndOfBothSpec) (by kernel_rfl) own started (by kernel_rfl) Tryf.func4
    (OpenSpec.witness_stopped_at (enc := enc) (C := Tryf.checked) false (laidWorld os) #[.string ⟨#[]⟩, .string ⟨#[]⟩] rfl (by kernel_rfl) (by kernel_rfl) (by kernel_rfl)
      (OpenSpec.preRow_of_B rfl 8 (by kernel_rfl) (by kernel_rfl) (laid_met os _))) ?_
  intro F W base args ds gs before _ hF hval0 hW _ _ _ hL _
  have hval : ∀ (j : Nat) t v, Tryf.f4.params[j]? = some t → args[j]? = some v → Value.okWide Tryf.prog W .any base t v := hval0
  have hW' := hW
  obtain ⟨p, q, hA0, hV0, rfl, hfz, hnd⟩ := hW
  have hA : DataW.TrodAll enc Tryf.prog W 0 (fun _ => true) true Tryf.f4.params.toList args.toList ds p := hA0
  rw [Tryf.params4] at hA hval
  obtain ⟨v0, v1, d0, d1, p0, p1, rfl, rfl, rfl, k0, k1⟩ := trodAll_two hA
  obtain ⟨a, rfl, rfl, rfl, wa⟩ := open_string Tryf.underlying9 (hval 0 9 v0 rfl rfl) k0
  obtain ⟨b, rfl, rfl, rfl, wb⟩ := open_string Tryf.underlying9 (hval 1 9 v1 rfl rfl) k1
  have hV : DataW.TrodVars enc Tryf.prog W (fun _ => true) [Rows.fnLineReaderEndOfJoinedLogIsEndOfBothSpec.vars.headD ""] gs q := hV0
  obtain ⟨aE, _, sE, _, xE, _, yE, _, vE, _, cE, tE, _, _, _, _, _, bE, _⟩ := laid_sentinels2 (g0 := 1) (g1 := 5) (tp := 76) (te := 78) (ts := 9) hL gName1 gType1 gName5 gType5 Tryf.underlying32 row76 Tryf.underlying76 Tryf.underlying78 rfl rfl Tryf.underlying9 cells78 cells9
  obtain ⟨aT, _, sT, _, xT, _, yT, _, vT, _, cT, tT, _, _, _, _, _, bT, _⟩ := laid_sentinels2 (g0 := 2) (g1 := 6) (tp := 76) (te := 78) (ts := 9) hL.tail.tail gName2 gType2 gName6 gType6 Tryf.underlying32 row76 Tryf.underlying76 Tryf.underlying78 rfl rfl Tryf.underlying9 cells78 cells9
  obtain ⟨_, aN, _, sN, _, xN, _, yN, _, vN, _, _, _, cN, tN, _, _, _, bN⟩ := laid_sentinels2 (g0 := 3) (g1 := 0) (tp := 76) (te := 78) (ts := 9) hL.tail.tail.tail.tail.tail.tail gName3 gType3 gName0 gType0 Tryf.underlying32 row76 Tryf.underlying76 Tryf.underlying78 rfl rfl Tryf.underlying9 cells78 cells9
  obtain ⟨rfl, rfl⟩ := hV.unique (vars_read1 enc gName0 gType0 Tryf.underlying32 vN trivial _)
  clear hA0 hV0 hval0
  have hg0 : W.cell? ⟨0, 0, none⟩ = some (.iface 76 (.pointer (some aN))) := by simpa using World.var?_cell gName0 vN 0
  have hg1 : W.cell? ⟨1, 0, none⟩ = some (.iface 76 (.pointer (some aE))) := by simpa using World.var?_cell gName1 vE 0
  have hg2 : W.cell? ⟨2, 0, none⟩ = some (.iface 76 (.pointer (some aT))) := by simpa using World.var?_cell gName2 vT 0
  have hG : Glob W aN aE aT sT := ⟨hg0, hg1, hg2, ⟨xN, yN, bN⟩, ⟨xE, yE, bE⟩, ⟨xT, yT, bT⟩, addr_ne cE cN (by rw [tE, tN]; decide), addr_ne cE cT (by rw [tE, tT]; decide), cT⟩
  unfold maxLen at wa wb
  refine (law_any F.told a b W hF aN aE aT sT hG wa wb).mono fun e W' ⟨he, hb⟩ => ?_
  subst he
  have e1 : ((OpenSpec.ofChange Rows.fnLineReaderEndOfJoinedLogIsEndOfBothSpec).at F.told).fn H ([.lit (.string a.data.toList), .lit (.string b.data.toList)] ++ [tok enc (.iface 76 (.pointer (some aN)))]) = { results := [.lit (.bool true)], args := [.lit (.string a.data.toList), .lit (.string b.data.toList)], vars := [tok enc (.iface 76 (.pointer (some aN)))] } := rfl
  refine ⟨_, rfl, _, _, _, [], [], [.cell 0 0], hW', ?_, ?_, ?_, ?_, fun h => by cases h⟩
  · rw [e1]; exact trodAll_mk1 (shut_bool Tryf.underlying4 true)
  · rw [e1]
    exact trodAll_mk2 (shut_string Tryf.underlying9 (by unfold maxLen; exact wa)) (shut_string Tryf.underlying9 (by unfold maxLen; exact wb))
  · rw [e1]; exact vars_read1 enc gName0 gType0 Tryf.underlying32 (var?_below hb gName0 (World.block_lt_of_cell? W ⟨0, 0, none⟩ hg0) vN) trivial _
  · exact hb.frame _

theorem proved : Rows.FnLineReaderEndOfJoinedLogIsEndOfBothToldSaid :=
  Claim7.holds_of_told_tied_any_at .later 4 Tryf.f4 "fmt.errorf" [] [] _ _ _ _ _ (by kernel_rfl) rfl rfl rfl laidOut (by kernel_rfl) rfl ⟨rfl, rfl, rfl, rfl, rfl, rfl, rfl⟩ rfl rfl (by kernel_rfl) (by kernel_rfl) Tryf.func4 (by kernel_rfl)
    (of_decide_eq_true (by kernel_rfl)) (of_decide_eq_true (by kernel_rfl)) stops.symm rfl stopKnobs.symm (by kernel_rfl)
    (by kernel_rfl) (by kernel_rfl) (by kernel_rfl) (by kernel_rfl) (by kernel_rfl) (by kernel_rfl) (by kernel_rfl) (by kernel_rfl) (by kernel_rfl) rfl (by kernel_rfl) rfl rfl
    rfl rfl
    rfl (by kernel_rfl) (by kernel_rfl) (by kernel_rfl) (by decide) (by kernel_rfl) fnLineReaderEndOfJoinedLogIsEndOfBoth_row_tie
    (OpenClaim.moreEntering_of (by kernel_rfl) (by kernel_rfl) (by kernel_rfl) (by kernel_rfl) (by kernel_rfl) (by kernel_rfl) (by kernel_rfl) (by kernel_rfl) (by kernel_rfl) (by kernel_rfl))
    ⟨_, WideRow.started_initial, quiet _⟩
    (fun os started _ H enc _ => lifted os started H enc)

end Go.Proofs.Qxb6612715aFmt
