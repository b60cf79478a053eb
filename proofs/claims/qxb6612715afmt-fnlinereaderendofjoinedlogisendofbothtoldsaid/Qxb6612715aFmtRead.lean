/-
  (*strings.Reader).Read (47).
-/
import Derived.Test.Qxb6612715aFmtSplit
namespace Go.Proofs.Qxb6612715aFmt
open Go.RowKit

theorem Tryf.size5 : (Tryf.prog.info? 5).map (·.size) = some 1 := by kernel_rfl

/-- all but blocks g and k, and those only in their cells -/
structure Only2 (g k : Nat) (w w' : World) : Prop where
  os : w'.os = w.os
  tape : w'.tape = w.tape
  output : w'.output = w.output
  size : w'.heap.size = w.heap.size
  block : ∀ j, j ≠ g → j ≠ k → w'.heap[j]? = w.heap[j]?

/-- nothing but draws -/
structure Same (w w' : World) : Prop where
  os : w'.os = w.os
  tape : w'.tape = w.tape
  output : w'.output = w.output
  heap : w'.heap = w.heap

set_option maxRecDepth 100000 in
set_option maxHeartbeats 2000000 in
theorem read_end (rb : Nat) (t : ByteArray) (i : Nat) (pr : Int) (sl ve : Value) (w : World) (h : RdBlk w rb t i pr) (hi : t.size ≤ i) (hg : w.cell? ⟨1, 0, none⟩ = some ve) :
    Calls Tryf.prog 47 #[.pointer (some ⟨rb, 0, none⟩), sl] w fun e w' => e = .returned (.tuple #[.int .i64 0, ve]) ∧ Same w w' := by
  have hc0 := h.c0
  have hc1 := h.c1
  have hge : decide ((t.size : Int) ≤ (i : Int)) = true := by simp; omega
  clear h
  go_enter Tryf.func47, Tryf.ntmps47
  go_wp2_with fail
  go_quiet (fail)
  go_wp2_with fail
  go_quiet (fail)
  go_wp2
  go_ret2
  exact ⟨rfl, rfl, rfl, rfl, rfl⟩

def ReadPost (rb bb : Nat) (t : ByteArray) (i o m : Nat) (cur : List Value) (w : World) (e : Ending) (w' : World) : Prop :=
  e = .returned (.tuple #[.int .i64 m, .nilIface]) ∧ Row w' bb (splice cur o (Lib.byteCells ((t.data.toList.drop i).take m))) ∧ RdBlk w' rb t ((i : Int) + m) (-1) ∧ Only2 bb rb w w'

set_option maxRecDepth 100000 in
set_option maxHeartbeats 2000000 in
theorem read_some (rb bb : Nat) (t : ByteArray) (i o n cap m : Nat) (pr : Int) (cur : List Value) (w : World) (h : RdBlk w rb t i pr) (hi : i < t.size) (ht : t.size ≤ 2097152) (hr : Row w bb cur) (hne : bb ≠ rb) (hfit : o + n ≤ cur.length) (hm : m = Nat.min (t.size - i) n) :
    Calls Tryf.prog 47 #[.pointer (some ⟨rb, 0, none⟩), .slice (some ⟨bb, o, none⟩) n cap] w fun e w' => ReadPost rb bb t i o m cur w e w' := by
  have hc0 := h.c0
  have hc1 := h.c1
  have hc2 := h.c2
  have hf2 := h.fz 2
  have HD : Hid (RdBlk w rb t i pr) := h
  have HR : Hid (Row w bb cur) := hr
  have hge : decide ((t.size : Int) ≤ (i : Int)) = false := by simp; omega
  have hmi : m ≤ t.size - i := by rw [hm]; exact Nat.min_le_left _ _
  have hmn : m ≤ n := by rw [hm]; exact Nat.min_le_right _ _
  have HM : Hid (m = Nat.min (t.size - i) n) := hm
  clear h hr hm
  go_enter Tryf.func47, Tryf.ntmps47
  go_wp2_with fail
  go_quiet (fail)
  go_wp2_with fail
  have HDW : Hid (RdBlk ((w.drewN nq).setCell ⟨rb, 2, none⟩ (.int .i64 (-1))) rb t i (-1)) := RdBlk.set2 (w := w.drewN nq) (HD.out.same rfl) (-1)
  have HRW : Hid (Row ((w.drewN nq).setCell ⟨rb, 2, none⟩ (.int .i64 (-1))) bb cur) := Row.same (w := w) HR.out (Below.heap_setCell _ _ _ _ hne)
  have HOW : Hid (Only rb w ((w.drewN nq).setCell ⟨rb, 2, none⟩ (.int .i64 (-1)))) := ⟨rfl, rfl, rfl, by simp [World.setCell], fun k hk => Below.heap_setCell _ _ _ _ hk⟩
  generalize (w.drewN nq).setCell ⟨rb, 2, none⟩ (.int .i64 (-1)) = W at HDW HRW HOW ⊢
  clear hc0 hc1 hc2 hf2 HD HR hge
  have hd0 := HDW.out.c0
  have hd1 := HDW.out.c1
  have hile : i ≤ t.size := by omega
  have hti : (t.extract i t.size).size = t.size - i := by rw [ByteArray.size_extract]; omega
  have HTX : Hid ((t.extract i t.size).data.toList.take m = (t.data.toList.drop i).take m) := by
    show _ = _
    rw [Lib.extract_data, List.take_take]
    congr 1
    omega
  go_region_law
    (refine step_copy_str rfl (.tmp 20) (.tmp 29) 36 9 rfl 5 Tryf.underlying36 Tryf.size5 bb o n cap (t.extract i t.size) rfl rfl cur 5 HRW.out m (by rw [hti]; exact HM.out) (by omega) ?_
     intro w2 hrow honly
     have HD2 : Hid (RdBlk w2 rb t i (-1)) := HDW.out.same (honly.out.block rb (fun e => hne e.symm))
     have he1 := HD2.out.c1
     have hf1 := HD2.out.fz 1)
  all_goals
    go_wp2
    go_ret2
    refine ⟨rfl, ?_, RdBlk.set1 (HD2.out.same rfl) _, ?_⟩
    · have h := hrow.out
      rw [HTX.out] at h
      exact Row.same (w := w2) h (Below.heap_setCell _ _ _ _ hne)
    · exact ⟨honly.out.os.trans HOW.out.os, honly.out.tape.trans HOW.out.tape, honly.out.output.trans HOW.out.output, by simp [World.setCell]; exact honly.out.size.trans HOW.out.size, fun j h1 h2 => (Below.heap_setCell _ _ _ _ h2).trans ((honly.out.block j h1).trans (HOW.out.block j h2))⟩

end Go.Proofs.Qxb6612715aFmt
