/-
  THE SHELF's CONTRACT OF path filepath Clean AT THIS DUMP, in plain words (laid by the kit's lay-shelf and lay-plain; the other layings struck).
-/
import Derived.Shelf.Path.CleanRules
import Derived.Test.Qxb6614385aFmtProg
namespace Go.Proofs
open Go.Shelf
def Tryf.laysPah37_ren : Go.Shelf.Ren := ⟨fun | 37 => 25 | 54 => 28 | 59 => 29 | 56 => 30 | 60 => 31 | 61 => 32 | 62 => 33 | 63 => 34 | 64 => 35 | 66 => 36 | 70 => 37 | 73 => 38 | n => n, fun | 9 => 9 | 3 => 3 | 4 => 4 | 5 => 5 | 53 => 63 | 0 => 0 | 55 => 67 | 30 => 50 | n => n, fun | n => n⟩
theorem Tryf.laysPah37 : Go.Proofs.Lays.ph37 Tryf.prog Tryf.laysPah37_ren := {
  mixed := by kernel_rfl
  f37 := Tryf.func25.trans (congrArg some (by kernel_rfl))
  f54 := Tryf.func28.trans (congrArg some (by kernel_rfl))
  f56 := Tryf.func30.trans (congrArg some (by kernel_rfl))
  f59 := Tryf.func29.trans (congrArg some (by kernel_rfl))
  f60 := Tryf.func31.trans (congrArg some (by kernel_rfl))
  f61 := Tryf.func32.trans (congrArg some (by kernel_rfl))
  f62 := Tryf.func33.trans (congrArg some (by kernel_rfl))
  f63 := Tryf.func34.trans (congrArg some (by kernel_rfl))
  f64 := Tryf.func35.trans (congrArg some (by kernel_rfl))
  f66 := Tryf.func36.trans (congrArg some (by kernel_rfl))
  f70 := Tryf.func37.trans (congrArg some (by kernel_rfl))
  f73 := Tryf.func38.trans (congrArg some (by kernel_rfl))
  t0 := Tryf.underlying0
  a0 := Tryf.isAgg0
  z0 := Tryf.sizeOf0
  v0 := Tryf.zeroValue0
  t3 := Tryf.underlying3
  a3 := Tryf.isAgg3
  z3 := Tryf.sizeOf3
  v3 := Tryf.zeroValue3
  t4 := Tryf.underlying4
  a4 := Tryf.isAgg4
  z4 := Tryf.sizeOf4
  v4 := Tryf.zeroValue4
  t5 := Tryf.underlying5
  a5 := Tryf.isAgg5
  z5 := Tryf.sizeOf5
  v5 := Tryf.zeroValue5
  t9 := Tryf.underlying9
  a9 := Tryf.isAgg9
  z9 := Tryf.sizeOf9
  v9 := Tryf.zeroValue9
  t30 := Tryf.underlying50
  a30 := Tryf.isAgg50
  z30 := Tryf.sizeOf50
  v30 := Tryf.zeroValue50
  t53 := Tryf.underlying63
  a53 := Tryf.isAgg63
  z53 := Tryf.sizeOf63
  v53 := Tryf.zeroValue63
  t55 := Tryf.underlying67
  a55 := Tryf.isAgg67
  z55 := Tryf.sizeOf67
  v55 := Tryf.zeroValue67
  info5 := by kernel_rfl }
open Go.RowKit Go.Lib in
theorem Tryf.filepath_Clean_rules (s : ByteArray) (w : World) (hbig : s.size ≤ 281474976710656) :
    Calls Tryf.prog 25 #[.string s] w fun e w' => e = .returned (.string ⟨(Pa.cleanEls s.data.toList).toArray⟩) ∧ Below w.heap.size w w' := Any.filepath_Clean_rules Tryf.laysPah37 s w hbig
end Go.Proofs
