/-
  DERIVED: THE SHELF's CONTRACTS AT THIS DUMP, IN PLAIN WORDS (tools/lay-plain.mjs out of 'Qxb6612715aFmtShelf.lean', which tools/lay-shelf.mjs wrote): THE SAME DECLARATIONS UNDER THE SAME NAMES: 'import', 'namespace', 'open', 'def', 'theorem' AND NOTHING ELSE: no command of the shelf's: FOR A HAND-IN. Each laying: the table of numbers ('.._ren') and one theorem, a field a fact of the dump's own or the kernel's comparison; each contract: ONE APPLICATION.
-/
import Derived.Shelf.Bytes.SlSearch0
import Derived.Test.Qxb6612715aFmtProg
namespace Go.Proofs
open Go.Shelf
def Tryf.lays187_ren : Go.Shelf.Ren := ⟨fun | 187 => 27 | 255 => 29 | n => n, fun | 37 => 36 | 5 => 5 | 3 => 3 | n => n, fun | n => n⟩
theorem Tryf.lays187 : Go.Proofs.Lays.n187 Tryf.prog Tryf.lays187_ren := {
  mixed := by kernel_rfl
  f187 := Tryf.func27.trans (congrArg some (by kernel_rfl))
  f255 := Tryf.func29.trans (congrArg some (by kernel_rfl))
  t3 := Tryf.underlying3
  a3 := Tryf.isAgg3
  z3 := Tryf.sizeOf3
  v3 := Tryf.zeroValue3
  t5 := Tryf.underlying5
  a5 := Tryf.isAgg5
  z5 := Tryf.sizeOf5
  v5 := Tryf.zeroValue5
  t37 := Tryf.underlying36
  a37 := Tryf.isAgg36
  z37 := Tryf.sizeOf36
  v37 := Tryf.zeroValue36 }
open Go.Proofs Go.RowKit Go.Lib in
/-- bytes.IndexByte, the slice's bytes told by a ByteArray. (LAID: no walk: one application.) -/
theorem Tryf.bytes_IndexByte_bytes (b o cap : Nat) (t : ByteArray) (cv : Int) (w : World) (hc : Lib.Bytes w b o t) :
    Calls Tryf.prog 27 #[.slice (some ⟨b, o, none⟩) t.size cap, .int .u8 cv] w fun e w' => e = .returned (.int .i64 (Lib.indexByte t.data.toList cv.toNat.toUInt8)) ∧ w' = w := Any.bytes_IndexByte_bytes Tryf.lays187 b o cap t cv w hc
end Go.Proofs
