/-
  No cell of these rows narrows 'for every input' (looked for: loops, veiled, ifaces, maps, wideKeys, modest, calm, conditions, laid).
  DERIVED. THE GIVEN ROWS OF THIS SEAT. 3 by the template 'for every input the law returns true; each argument reads behind the call as it read before'; 0 by the template 'total and deterministic' (their statements: Qxb6614432aTotals.lean).
  GIVEN WITH THE SEED: the statements are not yours to turn. If you find one false, say at which input.
  Laid BY PROGRAM, IN A SANDBOX (cutbox-rows.mjs): the forced cells as the released guide's own fill.sh prints them over the translation e1c05d4e49a97028… (all of the seat's roots in one cut). By AI agents, Wed Nov 11 2026. No macro, syntax, notation, axiom, sorry.
-/
import Derived.Test.Qxb6614432aChecked
import GoSem.Claim
import GoSem.ClaimJoined
import GoSem.ClaimMapViews
import Derived.JoinedTies
import Derived.KernelRfl
namespace Go.Proofs.Qxb6614432a
/- THE CELL 'sum', in the pinned program and in every row, IS THE sha256 OF THE DUMP (.gsa) THAT Qxb6614432aProg.lean LOADS. Nothing in Lean hashes anything: it is a label: what it is worth is what the hold of that sum in a sandbox is worth. -/
noncomputable def Try.pinned : Pinned := { name := "qxb6614432a", sum := "e1c05d4e49a9702831231ce66d8b9e4deb939aef3441f718e40032623e2b802b", checked := Try.checked }
namespace Rows
def none {H : Type} : Left H := { results := [], args := [] }

/-- 'zzlaws_internal_search_b1.FnExpandIdentityIsFreshCopy': WHATEVER THE INPUT: true; the input reads as it did. -/
def fnExpandIdentityIsFreshCopySpec : ChangeSpec := { name := "fnExpandIdentityIsFreshCopy", fn := fun _ => fun
  | [d1, d2, d3] => { results := [.lit (.bool true)], args := [d1, d2, d3] }
  | _ => none }
def fnExpandIdentityIsFreshCopyRow : OpenClaim := { program := "qxb6614432a", sum := "e1c05d4e49a9702831231ce66d8b9e4deb939aef3441f718e40032623e2b802b", func := "example.com/culprit/culprit/zzlaws_internal_search_b1.FnExpandIdentityIsFreshCopy", spec := "fnExpandIdentityIsFreshCopy", inPlace := ["internal/bytealg.IndexByteString", "sync/atomic.LoadUint32", "(*internal/sync.Mutex).Lock", "internal/race.Disable", "sync/atomic.CompareAndSwapInt32", "internal/race.Enable", "internal/race.Acquire", "(*internal/sync.Mutex).lockSlow", "internal/sync.runtime_canSpin", "internal/sync.runtime_doSpin", "internal/sync.throw", "internal/sync.runtime_nanotime", "internal/sync.runtime_SemacquireMutex", "sync/atomic.AddInt32", "(*internal/sync.Mutex).Unlock", "internal/race.ReleaseMerge", "(*internal/sync.Mutex).unlockSlow", "internal/sync.fatal", "internal/sync.runtime_Semrelease", "sync/atomic.StoreUint32"], unfollowed := true, recurses := true, apart := false }
def FnExpandIdentityIsFreshCopySaid : Prop := fnExpandIdentityIsFreshCopyRow.holds Try.pinned (OpenSpec.ofChange fnExpandIdentityIsFreshCopySpec)

/-- ITS FALSE NEIGHBOUR: 'it returns false'. Refute it at one input. -/
def fnExpandIdentityIsFreshCopyWrong : ChangeSpec := { name := "fnExpandIdentityIsFreshCopy", fn := fun _ => fun
  | [d1, d2, d3] => { results := [.lit (.bool false)], args := [d1, d2, d3] }
  | _ => none }
def FnExpandIdentityIsFreshCopyWrongFalsely : Prop := fnExpandIdentityIsFreshCopyRow.holds Try.pinned (OpenSpec.ofChange fnExpandIdentityIsFreshCopyWrong)

/-- 'zzlaws_internal_search_b1.FnHasPatternIffValueHoldsWord': WHATEVER THE INPUT: true; the input reads as it did. -/
def fnHasPatternIffValueHoldsWordSpec : ChangeSpec := { name := "fnHasPatternIffValueHoldsWord", fn := fun _ => fun
  | [d1, d2] => { results := [.lit (.bool true)], args := [d1, d2] }
  | _ => none }
def fnHasPatternIffValueHoldsWordRow : OpenClaim := { program := "qxb6614432a", sum := "e1c05d4e49a9702831231ce66d8b9e4deb939aef3441f718e40032623e2b802b", func := "example.com/culprit/culprit/zzlaws_internal_search_b1.FnHasPatternIffValueHoldsWord", spec := "fnHasPatternIffValueHoldsWord", inPlace := ["internal/bytealg.IndexByteString", "sync/atomic.LoadUint32", "(*internal/sync.Mutex).Lock", "internal/race.Disable", "sync/atomic.CompareAndSwapInt32", "internal/race.Enable", "internal/race.Acquire", "(*internal/sync.Mutex).lockSlow", "internal/sync.runtime_canSpin", "internal/sync.runtime_doSpin", "internal/sync.throw", "internal/sync.runtime_nanotime", "internal/sync.runtime_SemacquireMutex", "sync/atomic.AddInt32", "(*internal/sync.Mutex).Unlock", "internal/race.ReleaseMerge", "(*internal/sync.Mutex).unlockSlow", "internal/sync.fatal", "internal/sync.runtime_Semrelease", "sync/atomic.StoreUint32"], unfollowed := true, recurses := true, apart := false }
def FnHasPatternIffValueHoldsWordSaid : Prop := fnHasPatternIffValueHoldsWordRow.holds Try.pinned (OpenSpec.ofChange fnHasPatternIffValueHoldsWordSpec)

/-- ITS FALSE NEIGHBOUR: 'it returns false'. Refute it at one input. -/
def fnHasPatternIffValueHoldsWordWrong : ChangeSpec := { name := "fnHasPatternIffValueHoldsWord", fn := fun _ => fun
  | [d1, d2] => { results := [.lit (.bool false)], args := [d1, d2] }
  | _ => none }
def FnHasPatternIffValueHoldsWordWrongFalsely : Prop := fnHasPatternIffValueHoldsWordRow.holds Try.pinned (OpenSpec.ofChange fnHasPatternIffValueHoldsWordWrong)

/-- 'zzlaws_internal_search_b1.FnHasPatternOneMorePlace': WHATEVER THE INPUT: true; the input reads as it did. -/
def fnHasPatternOneMorePlaceSpec : ChangeSpec := { name := "fnHasPatternOneMorePlace", fn := fun _ => fun
  | [d1, d2, d3, d4, d5, d6] => { results := [.lit (.bool true)], args := [d1, d2, d3, d4, d5, d6] }
  | _ => none }
def fnHasPatternOneMorePlaceRow : OpenClaim := { program := "qxb6614432a", sum := "e1c05d4e49a9702831231ce66d8b9e4deb939aef3441f718e40032623e2b802b", func := "example.com/culprit/culprit/zzlaws_internal_search_b1.FnHasPatternOneMorePlace", spec := "fnHasPatternOneMorePlace", inPlace := ["internal/bytealg.IndexByteString", "sync/atomic.LoadUint32", "(*internal/sync.Mutex).Lock", "internal/race.Disable", "sync/atomic.CompareAndSwapInt32", "internal/race.Enable", "internal/race.Acquire", "(*internal/sync.Mutex).lockSlow", "internal/sync.runtime_canSpin", "internal/sync.runtime_doSpin", "internal/sync.throw", "internal/sync.runtime_nanotime", "internal/sync.runtime_SemacquireMutex", "sync/atomic.AddInt32", "(*internal/sync.Mutex).Unlock", "internal/race.ReleaseMerge", "(*internal/sync.Mutex).unlockSlow", "internal/sync.fatal", "internal/sync.runtime_Semrelease", "sync/atomic.StoreUint32"], unfollowed := true, recurses := true, apart := false }
def FnHasPatternOneMorePlaceSaid : Prop := fnHasPatternOneMorePlaceRow.holds Try.pinned (OpenSpec.ofChange fnHasPatternOneMorePlaceSpec)

/-- ITS FALSE NEIGHBOUR: 'it returns false'. Refute it at one input. -/
def fnHasPatternOneMorePlaceWrong : ChangeSpec := { name := "fnHasPatternOneMorePlace", fn := fun _ => fun
  | [d1, d2, d3, d4, d5, d6] => { results := [.lit (.bool false)], args := [d1, d2, d3, d4, d5, d6] }
  | _ => none }
def FnHasPatternOneMorePlaceWrongFalsely : Prop := fnHasPatternOneMorePlaceRow.holds Try.pinned (OpenSpec.ofChange fnHasPatternOneMorePlaceWrong)

end Rows
end Go.Proofs.Qxb6614432a
