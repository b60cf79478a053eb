/-
  No cell of these rows narrows 'for every input' (looked for: loops, veiled, ifaces, maps, wideKeys, modest, calm, conditions, laid).
  DERIVED. THE GIVEN ROWS OF THIS SEAT. 2 by the template 'for every input the law returns true; each argument reads behind the call as it read before'; 0 by the template 'total and deterministic' (their statements: Qxb6613347aTotals.lean).
  GIVEN WITH THE SEED: the statements are not yours to turn. If you find one false, say at which input.
  Laid BY PROGRAM, IN A SANDBOX (cutbox-rows.mjs): the forced cells as the released guide's own fill.sh prints them over the translation a6b60c6e9ab3d0c0… (all of the seat's roots in one cut). By AI agents, Wed Nov 11 2026. No macro, syntax, notation, axiom, sorry.
-/
import Derived.Test.Qxb6613347aChecked
import GoSem.Claim
import GoSem.ClaimJoined
import GoSem.ClaimMapViews
import Derived.JoinedTies
import Derived.KernelRfl
namespace Go.Proofs.Qxb6613347a
/- THE CELL 'sum', in the pinned program and in every row, IS THE sha256 OF THE DUMP (.gsa) THAT Qxb6613347aProg.lean LOADS. Nothing in Lean hashes anything: it is a label: what it is worth is what the hold of that sum in a sandbox is worth. -/
noncomputable def Try.pinned : Pinned := { name := "qxb6613347a", sum := "a6b60c6e9ab3d0c0667f64468d5afb08d2a251a15efe58fa2d82739c828c0ff9", checked := Try.checked }
namespace Rows
def none {H : Type} : Left H := { results := [], args := [] }

/-- 'zzlaws_internal_accesslog_b1.FnIdentityAndUserJoinSplitsAtSpace': WHATEVER THE INPUT: true; the input reads as it did. -/
def fnIdentityAndUserJoinSplitsAtSpaceSpec : ChangeSpec := { name := "fnIdentityAndUserJoinSplitsAtSpace", fn := fun _ => fun
  | [d1, d2] => { results := [.lit (.bool true)], args := [d1, d2] }
  | _ => none }
def fnIdentityAndUserJoinSplitsAtSpaceRow : OpenClaim := { program := "qxb6613347a", sum := "a6b60c6e9ab3d0c0667f64468d5afb08d2a251a15efe58fa2d82739c828c0ff9", func := "example.com/overload-guard/overload-guard/zzlaws_internal_accesslog_b1.FnIdentityAndUserJoinSplitsAtSpace", spec := "fnIdentityAndUserJoinSplitsAtSpace", inPlace := ["internal/bytealg.IndexByteString", "internal/bytealg.IndexString"], named := ["internal/bytealg.MaxLen"], apart := false }
def FnIdentityAndUserJoinSplitsAtSpaceSaid : Prop := fnIdentityAndUserJoinSplitsAtSpaceRow.holds Try.pinned (OpenSpec.ofChange fnIdentityAndUserJoinSplitsAtSpaceSpec)

/-- ITS FALSE NEIGHBOUR: 'it returns false'. Refute it at one input. -/
def fnIdentityAndUserJoinSplitsAtSpaceWrong : ChangeSpec := { name := "fnIdentityAndUserJoinSplitsAtSpace", fn := fun _ => fun
  | [d1, d2] => { results := [.lit (.bool false)], args := [d1, d2] }
  | _ => none }
def FnIdentityAndUserJoinSplitsAtSpaceWrongFalsely : Prop := fnIdentityAndUserJoinSplitsAtSpaceRow.holds Try.pinned (OpenSpec.ofChange fnIdentityAndUserJoinSplitsAtSpaceWrong)

/-- 'zzlaws_internal_accesslog_b1.FnIdentityAndUserReversalSymmetric': WHATEVER THE INPUT: true; the input reads as it did. -/
def fnIdentityAndUserReversalSymmetricSpec : ChangeSpec := { name := "fnIdentityAndUserReversalSymmetric", fn := fun _ => fun
  | [d] => { results := [.lit (.bool true)], args := [d] }
  | _ => none }
def fnIdentityAndUserReversalSymmetricRow : OpenClaim := { program := "qxb6613347a", sum := "a6b60c6e9ab3d0c0667f64468d5afb08d2a251a15efe58fa2d82739c828c0ff9", func := "example.com/overload-guard/overload-guard/zzlaws_internal_accesslog_b1.FnIdentityAndUserReversalSymmetric", spec := "fnIdentityAndUserReversalSymmetric", inPlace := ["internal/bytealg.IndexByteString", "internal/bytealg.IndexString"], named := ["internal/bytealg.MaxLen"], apart := false }
def FnIdentityAndUserReversalSymmetricSaid : Prop := fnIdentityAndUserReversalSymmetricRow.holds Try.pinned (OpenSpec.ofChange fnIdentityAndUserReversalSymmetricSpec)

/-- ITS FALSE NEIGHBOUR: 'it returns false'. Refute it at one input. -/
def fnIdentityAndUserReversalSymmetricWrong : ChangeSpec := { name := "fnIdentityAndUserReversalSymmetric", fn := fun _ => fun
  | [d] => { results := [.lit (.bool false)], args := [d] }
  | _ => none }
def FnIdentityAndUserReversalSymmetricWrongFalsely : Prop := fnIdentityAndUserReversalSymmetricRow.holds Try.pinned (OpenSpec.ofChange fnIdentityAndUserReversalSymmetricWrong)

end Rows
end Go.Proofs.Qxb6613347a
