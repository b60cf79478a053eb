/-
  errors.Is (14) at a bare sentinel and at one that fmt.Errorf wraps (after the kit's Derived/Test/SentryIs.lean).
-/
import Derived.Test.Qxb6612715aFmtProg
import Derived.WalkKit
import Derived.LaidEql
import Derived.Stop.Asserts
import Derived.RowKitTokens
import Derived.LoopN
namespace Go.Proofs.Qxb6612715aFmt
open Go.RowKit Go.Extern.Stop Go.Stop Go.Extern

/-! ### CLOSED FACTS: what 'reflectlite.TypeOf(target).Comparable()' gives at such a target -/
theorem Tryf.type20 (v : Value) (w : World) : (callFunc 20 #[.iface 76 v]).run Tryf.prog w = .ok (.value (.iface 65 (.agg #[.pointer (some ⟨9, 76, none⟩)]))) w := by kernel_rfl
theorem Tryf.comp53 (w : World) : (callFunc 53 #[.agg #[.pointer (some ⟨9, 76, none⟩)]]).run Tryf.prog w = .ok (.value (.bool true)) w := by kernel_rfl
theorem Tryf.isMethodComparable (v : Value) (w : World) : (Go.method 218 65 v "Comparable").run Tryf.prog w = .ok (53, v) w := by kernel_rfl
theorem Tryf.isComp : (Tryf.prog.info? 76).map (·.comparable) = some true := by kernel_rfl
theorem Tryf.isSize : (Tryf.prog.info? 78).map (·.size) = some 1 := by kernel_rfl

/-! ### CLOSED FACTS ON THE METHOD SETS: what errors.is's assertions find -/
theorem Tryf.noIsE (v : Value) (xT : TypeId) (w : World) : (Instr.typeAssert (.iface 76 v) xT 67 true).run Tryf.prog w = .ok (.tuple #[.nilIface, .bool false]) w := run_typeAssert_lacksB Tryf.underlying67 (by kernel_rfl) (by kernel_rfl) v xT w
theorem Tryf.noUnwrapE (v : Value) (xT : TypeId) (w : World) : (Instr.typeAssert (.iface 76 v) xT 70 true).run Tryf.prog w = .ok (.tuple #[.nilIface, .bool false]) w := run_typeAssert_lacksB Tryf.underlying70 (by kernel_rfl) (by kernel_rfl) v xT w
theorem Tryf.noUnwrapsE (v : Value) (xT : TypeId) (w : World) : (Instr.typeAssert (.iface 76 v) xT 71 true).run Tryf.prog w = .ok (.tuple #[.nilIface, .bool false]) w := run_typeAssert_lacksB Tryf.underlying71 (by kernel_rfl) (by kernel_rfl) v xT w
theorem Tryf.noIsW (v : Value) (xT : TypeId) (w : World) : (Instr.typeAssert (.iface 63 v) xT 67 true).run Tryf.prog w = .ok (.tuple #[.nilIface, .bool false]) w := run_typeAssert_lacksB Tryf.underlying67 (by kernel_rfl) (by kernel_rfl) v xT w
theorem Tryf.hasUnwrapW (v : Value) (xT : TypeId) (w : World) : (Instr.typeAssert (.iface 63 v) xT 70 true).run Tryf.prog w = .ok (.tuple #[.iface 63 v, .bool true]) w := run_typeAssert_hasB Tryf.underlying70 (by kernel_rfl) v xT w
theorem Tryf.methodUnwrap (v : Value) (w : World) : (Go.method 218 63 v "Unwrap").run Tryf.prog w = .ok (49, v) w := by kernel_rfl

/-- errors.Is(x, y), two different pointers to errors.errorString: neither has Is nor Unwrap: false. -/
theorem is_other (a b : Addr) (ca cb : Array Value) (ta tb : TypeId) (w : World) (hne : a ≠ b) (ha : w.heap[a.block]? = some (.cells ca ta (0, 0))) (hb : w.heap[b.block]? = some (.cells cb tb (0, 0))) :
    Calls Tryf.prog 14 #[.iface 76 (.pointer (some a)), .iface 76 (.pointer (some b))] w fun e w' => e = .returned (.bool false) ∧ w' = w := by
  obtain ⟨i, hi, hcmp⟩ := Option.map_eq_some_iff.1 Tryf.isComp
  obtain ⟨j, hj, hjs⟩ := Option.map_eq_some_iff.1 Tryf.isSize
  have h8 := Tryf.type20
  have h32 := Tryf.comp53
  have mR := Tryf.isMethodComparable
  have nE := Tryf.noIsE
  have uE := Tryf.noUnwrapE
  have vE := Tryf.noUnwrapsE
  have nW := Tryf.noIsW
  have uW := Tryf.hasUnwrapW
  have mU := Tryf.methodUnwrap
  have heq := run_eql_iface_ptr_other (P := Tryf.prog) w Tryf.underlying32 Tryf.underlying76 hi hcmp hj (by rw [hjs]; decide) hne ha hb
  go_enter Tryf.func14, Tryf.ntmps14
  go_wp2
  refine wp_loop_rounds 1 ?_
  rw [rounds_succ]
  go_wp2
  go_ret
  exact ⟨rfl, rfl⟩

/-- errors.Is(e, x), e a *fmt.wrapError that wraps x itself: one Unwrap, then equal. -/
theorem is_wrap_same (pb po : Nat) (b : Addr) (w : World) (h1 : w.cell? ⟨pb, po + 1, none⟩ = some (.iface 76 (.pointer (some b)))) :
    Calls Tryf.prog 14 #[.iface 63 (.pointer (some ⟨pb, po, none⟩)), .iface 76 (.pointer (some b))] w fun e w' => e = .returned (.bool true) ∧ w' = w := by
  obtain ⟨i, hi, hcmp⟩ := Option.map_eq_some_iff.1 Tryf.isComp
  obtain ⟨j, hj, hjs⟩ := Option.map_eq_some_iff.1 Tryf.isSize
  have h8 := Tryf.type20
  have h32 := Tryf.comp53
  have mR := Tryf.isMethodComparable
  have nE := Tryf.noIsE
  have uE := Tryf.noUnwrapE
  have vE := Tryf.noUnwrapsE
  have nW := Tryf.noIsW
  have uW := Tryf.hasUnwrapW
  have mU := Tryf.methodUnwrap
  have heq := run_eql_iface_ptr_same (P := Tryf.prog) w b Tryf.underlying32 Tryf.underlying76 hi hcmp hj
  have hty := run_eql_iface_types (P := Tryf.prog) 63 76 (.pointer (some ⟨pb, po, none⟩)) (.pointer (some b)) Tryf.underlying32 (by decide) w
  go_enter Tryf.func14, Tryf.ntmps14
  go_wp2
  refine wp_loop_rounds 2 ?_
  rw [rounds_succ]
  go_wp2
  rw [rounds_succ]
  go_wp2
  go_ret
  exact ⟨rfl, rfl⟩

end Go.Proofs.Qxb6612715aFmt
