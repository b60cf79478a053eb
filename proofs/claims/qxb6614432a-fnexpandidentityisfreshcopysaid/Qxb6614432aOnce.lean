/-
  THE REPLACER's ONCE: buildOnce (23), doSlow (26), Do (22), over whatever build (27) hands back.
-/
import Derived.Test.Qxb6614432aSingle
import Derived.Test.Qxb6614432aSync
import Derived.Maps.AppendAt
import Derived.OwnWalk
namespace Go.Proofs.Qxb6614432a
open Go.RowKit

/-- a strings.Replacer in a block of its own: done, the lock's state, the built replacer, the pairs -/
def RepBlk (w : World) (b : Nat) (d s : Int) (rv ov : Value) : Prop := w.heap[b]? = some (.cells #[.int .u32 d, .int .i32 s, .int .u32 0, rv, ov] 60 (0, 0))

section
variable {w : World} {b : Nat} {d s : Int} {rv ov : Value}
theorem RepBlk.lt (h : RepBlk w b d s rv ov) : b < w.heap.size := (Array.getElem?_eq_some_iff.1 h).1
theorem RepBlk.c0 (h : RepBlk w b d s rv ov) : w.cell? ⟨b, 0, none⟩ = some (.int .u32 d) := by rw [Lib.cell_of_heap h]; rfl
theorem RepBlk.c1 (h : RepBlk w b d s rv ov) : w.cell? ⟨b, 1, none⟩ = some (.int .i32 s) := by rw [Lib.cell_of_heap h]; rfl
theorem RepBlk.c3 (h : RepBlk w b d s rv ov) : w.cell? ⟨b, 3, none⟩ = some rv := by rw [Lib.cell_of_heap h]; rfl
theorem RepBlk.c4 (h : RepBlk w b d s rv ov) : w.cell? ⟨b, 4, none⟩ = some ov := by rw [Lib.cell_of_heap h]; rfl
theorem RepBlk.fz (h : RepBlk w b d s rv ov) (j : Nat) : w.frozen? ⟨b, j, none⟩ = false := Lib.frozen_of_heap h j
theorem RepBlk.same {w' : World} (h : RepBlk w b d s rv ov) (e : w'.heap[b]? = w.heap[b]?) : RepBlk w' b d s rv ov := e.trans h
theorem RepBlk.set0 (h : RepBlk w b d s rv ov) (x : Int) : RepBlk (w.setCell ⟨b, 0, none⟩ (.int .u32 x)) b x s rv ov := by
  show (w.setCell _ _).heap[b]? = _
  have h' : w.heap[b]? = _ := h
  simp [World.setCell, Array.getElem?_modify, h']
theorem RepBlk.set1 (h : RepBlk w b d s rv ov) (x : Int) : RepBlk (w.setCell ⟨b, 1, none⟩ (.int .i32 x)) b d x rv ov := by
  show (w.setCell _ _).heap[b]? = _
  have h' : w.heap[b]? = _ := h
  simp [World.setCell, Array.getElem?_modify, h']
theorem RepBlk.set3 (h : RepBlk w b d s rv ov) (x : Value) : RepBlk (w.setCell ⟨b, 3, none⟩ x) b d s x ov := by
  show (w.setCell _ _).heap[b]? = _
  have h' : w.heap[b]? = _ := h
  simp [World.setCell, Array.getElem?_modify, h']
theorem RepBlk.set4 (h : RepBlk w b d s rv ov) (x : Value) : RepBlk (w.setCell ⟨b, 4, none⟩ x) b d s rv x := by
  show (w.setCell _ _).heap[b]? = _
  have h' : w.heap[b]? = _ := h
  simp [World.setCell, Array.getElem?_modify, h']
end

theorem grown_set (w : World) (b j : Nat) (v : Value) : w.grownBy (w.setCell ⟨b, j, none⟩ v) (some b) :=
  ⟨rfl, rfl, rfl, by simp [World.setCell], fun k _ hk => Below.heap_setCell _ _ _ _ (fun e => hk (by rw [e]))⟩
theorem grown_drew {w w' : World} {row : Option Nat} (h : w.grownBy w' row) : w.grownBy w'.drew row := ⟨h.os, h.tape, h.output, h.size, h.block⟩
theorem grown_drewN {w w' : World} {row : Option Nat} (h : w.grownBy w' row) (n : Nat) : w.grownBy (w'.drewN n) row := ⟨h.os, h.tape, h.output, h.size, h.block⟩
theorem grown_below {w w' : World} (h : Below w.heap.size w w') (row : Option Nat) : w.grownBy w' row := ⟨h.os, h.tape, h.output, h.size, fun k hk _ => h.block k hk⟩

/-- a kind of built replacer: what it needs lies in the blocks F -/
structure Kind (K : World → Value → List Nat → Prop) : Prop where
  same : ∀ w w' v F, K w v F → (∀ k ∈ F, w'.heap[k]? = w.heap[k]?) → K w' v F
  lt : ∀ w v F, K w v F → ∀ k ∈ F, k < w.heap.size
  val : ∀ w v F, K w v F → ∃ t a, v = .iface t (.pointer a)

def BuildPost (K : World → Value → List Nat → Prop) (w : World) (e : Ending) (w' : World) : Prop :=
  ∃ t a F, e = .returned (.iface t (.pointer a)) ∧ K w' (.iface t (.pointer a)) F ∧ (∀ k ∈ F, w.heap.size ≤ k) ∧ Below w.heap.size w w'
def OncePost (K : World → Value → List Nat → Prop) (b : Nat) (d s : Int) (w : World) (e : Ending) (w' : World) : Prop :=
  ∃ v F, e = .returned (.tuple #[]) ∧ RepBlk w' b d s v (.slice none 0 0) ∧ K w' v F ∧ (∀ k ∈ F, w.heap.size ≤ k) ∧ w.grownBy w' (some b)

set_option maxRecDepth 100000 in
set_option maxHeartbeats 2000000 in
theorem buildOnce_any {K : World → Value → List Nat → Prop} (hK : Kind K) (b : Nat) (s : Int) (ov : Value) (w : World) (hb : RepBlk w b 0 s .nilIface ov)
    (hbd : Calls Try.prog 27 #[.pointer (some ⟨b, 0, none⟩)] w fun e w' => BuildPost K w e w') :
    Calls Try.prog 23 #[.pointer (some ⟨b, 0, none⟩)] w fun e w' => OncePost K b 0 s w e w' := by
  have HBd : Hid (Calls Try.prog 27 #[.pointer (some ⟨b, 0, none⟩)] w fun e w' => BuildPost K w e w') := hbd
  have HRB : Hid (RepBlk w b 0 s .nilIface ov) := hb
  clear hbd hb
  go_enter Try.func23, Try.ntmps23
  go_wp2_with
    (go_at_call 27
     refine Calls.mono HBd.out ?_
     rintro e w1 ⟨t, a, F, rfl, hk, hge, hbel⟩
     have h1 : RepBlk w1 b 0 s .nilIface ov := HRB.out.same (hbel.block b HRB.out.lt)
     have hc3 := h1.c3
     have hf3 := h1.fz 3
     have h2 := h1.set3 (.iface t (.pointer a))
     have hc4 := h2.c4
     have hf4 := h2.fz 4
     have HE : Hid (OncePost K b 0 s w (.returned (.tuple #[])) ((w1.setCell ⟨b, 3, none⟩ (.iface t (.pointer a))).setCell ⟨b, 4, none⟩ (.slice none 0 0))) := by
       refine ⟨_, F, rfl, h2.set4 _, hK.same _ _ _ _ hk (fun k hkF => ?_), hge, ((grown_below hbel _).trans (grown_set _ _ _ _)).trans (grown_set _ _ _ _)⟩
       have hne : k ≠ b := fun e => by have h5 := hge k hkF; have h6 := HRB.out.lt; omega
       rw [Below.heap_setCell _ _ _ _ hne, Below.heap_setCell _ _ _ _ hne]
     clear h1 h2 hk hge hbel)
  go_end0
  exact HE.out

set_option maxRecDepth 100000 in
set_option maxHeartbeats 2000000 in
theorem doSlow_any {K : World → Value → List Nat → Prop} (hK : Kind K) (b : Nat) (ov : Value) (w : World) (hb : RepBlk w b 0 0 .nilIface ov)
    (hbd : Calls Try.prog 27 #[.pointer (some ⟨b, 0, none⟩)] (w.setCell ⟨b, 1, none⟩ (.int .i32 1)) fun e w' => BuildPost K (w.setCell ⟨b, 1, none⟩ (.int .i32 1)) e w') :
    Calls Try.prog 26 #[.pointer (some ⟨b, 0, none⟩), .func (.func 23) #[.pointer (some ⟨b, 0, none⟩)] #[]] w fun e w' => OncePost K b 1 0 w e w' := by
  have h1 := hb.set1 1
  have HO : Hid (Calls Try.prog 23 #[.pointer (some ⟨b, 0, none⟩)] (w.setCell ⟨b, 1, none⟩ (.int .i32 1)) fun e w' => OncePost K b 0 1 (w.setCell ⟨b, 1, none⟩ (.int .i32 1)) e w') := buildOnce_any hK b 1 ov _ h1 hbd
  have hl := run_call_load (P := Try.prog) Try.func28 (by kernel_rfl) (by kernel_rfl) (by kernel_rfl) .u32 (by kernel_rfl) h1.c0
  have hnot : ∀ (x : Bool) (w : World), (Op.unary .not (.bool x)).run Try.prog w = .ok (.bool (!x)) w := fun _ _ => rfl
  have hc1 := hb.c1
  have hf1 := hb.fz 1
  have HSZ : Hid ((w.setCell ⟨b, 1, none⟩ (.int .i32 1)).heap.size = w.heap.size) := by show _ = _; simp [World.setCell]
  have HG0 : Hid (w.grownBy (w.setCell ⟨b, 1, none⟩ (.int .i32 1)) (some b)) := grown_set _ _ _ _
  have HBL : Hid (b < w.heap.size) := hb.lt
  clear hbd h1 hb
  go_enter_defers Try.func26, Try.ntmps26
  go_wp2_with first
    | (go_at_call 29
       refine (lock_free ⟨b, 1, none⟩ _ hc1 hf1).mono ?_
       rintro e w' ⟨rfl, rfl⟩)
    | (go_at_call 25; go_in)
    | (go_at_call 23
       refine Calls.mono HO.out ?_
       rintro e w2 ⟨v, F, rfl, hrb, hk, hge, hgr⟩
       have HRB : Hid (RepBlk w2 b 0 1 v (.slice none 0 0)) := hrb
       have HK : Hid (K w2 v F) := hk
       have HGe : Hid (∀ k ∈ F, (w.setCell ⟨b, 1, none⟩ (.int .i32 1)).heap.size ≤ k) := hge
       have HGr : Hid ((w.setCell ⟨b, 1, none⟩ (.int .i32 1)).grownBy w2 (some b)) := hgr
       clear hrb hk hge hgr)
  have h3 := HRB.out
  have h4 : RepBlk (w2.drew.setCell ⟨b, 0, none⟩ (.int .u32 1)) b 1 1 v (.slice none 0 0) := RepBlk.set0 (w := w2.drew) (RepBlk.same (w := w2) (w' := w2.drew) h3 rfl) 1
  refine leaves_cons (f := 31) (args := #[.pointer (some ⟨b, 0, none⟩), .bool true]) (by simp) (by simp [go_sem]) ?_
  refine (store_deferred ⟨b, 0, none⟩ (.int .u32 0) .returning _ h3.c0 (h3.fz 0)).mono ?_
  rintro e u' w'' ⟨rfl, rfl, rfl⟩
  refine leaves_cons (f := 30) (args := #[.pointer (some ⟨b, 1, none⟩)]) (by simp [settle]) (by simp [go_sem]) ?_
  refine (unlock_deferred ⟨b, 1, none⟩ _ _ h4.c1 (h4.fz 1)).mono ?_
  rintro e u' w'' ⟨rfl, rfl, rfl⟩
  have HE : OncePost K b 1 0 w (.returned (.tuple #[])) ((w2.drew.setCell ⟨b, 0, none⟩ (.int .u32 1)).setCell ⟨b, 1, none⟩ (.int .i32 0)) := by
    have hge : ∀ k ∈ F, w.heap.size ≤ k := fun k hk => by rw [← HSZ.out]; exact HGe.out k hk
    refine ⟨v, F, rfl, h4.set1 0, hK.same _ _ _ _ HK.out (fun k hkF => ?_), hge, (((HG0.out.trans HGr.out).trans (grown_drew (World.grownBy.refl w2 _))).trans (grown_set _ _ _ _)).trans (grown_set _ _ _ _)⟩
    have hne : k ≠ b := fun e => by have h5 := hge k hkF; have h6 := HBL.out; omega
    rw [Below.heap_setCell _ _ _ _ hne, Below.heap_setCell _ _ _ _ hne]
    rfl
  simpa [Leaves, settle, results, Try.results26] using HE

set_option maxRecDepth 100000 in
set_option maxHeartbeats 2000000 in
theorem do_first {K : World → Value → List Nat → Prop} (hK : Kind K) (b : Nat) (ov : Value) (w : World) (hb : RepBlk w b 0 0 .nilIface ov)
    (hbd : Calls Try.prog 27 #[.pointer (some ⟨b, 0, none⟩)] (w.setCell ⟨b, 1, none⟩ (.int .i32 1)) fun e w' => BuildPost K (w.setCell ⟨b, 1, none⟩ (.int .i32 1)) e w') :
    Calls Try.prog 22 #[.pointer (some ⟨b, 0, none⟩), .func (.func 23) #[.pointer (some ⟨b, 0, none⟩)] #[]] w fun e w' => OncePost K b 1 0 w e w' := by
  have HS : Hid (Calls Try.prog 26 #[.pointer (some ⟨b, 0, none⟩), .func (.func 23) #[.pointer (some ⟨b, 0, none⟩)] #[]] w fun e w' => OncePost K b 1 0 w e w') := doSlow_any hK b ov w hb hbd
  have hl := run_call_load (P := Try.prog) Try.func28 (by kernel_rfl) (by kernel_rfl) (by kernel_rfl) .u32 (by kernel_rfl) hb.c0
  have hnot : ∀ (x : Bool) (w : World), (Op.unary .not (.bool x)).run Try.prog w = .ok (.bool (!x)) w := fun _ _ => rfl
  clear hbd
  go_enter Try.func22, Try.ntmps22
  go_wp2_with first
    | (go_at_call 26
       refine Calls.mono HS.out ?_
       rintro e w2 ⟨v, F, rfl, hrb⟩
       have HRB : Hid (RepBlk w2 b 1 0 v (.slice none 0 0) ∧ K w2 v F ∧ (∀ k ∈ F, w.heap.size ≤ k) ∧ w.grownBy w2 (some b)) := hrb
       clear hrb)
    | (go_at_call 25; go_in)
  go_end0
  exact ⟨v, F, rfl, HRB.out⟩

theorem do_done (b : Nat) (fv rv ov : Value) (w : World) (hb : RepBlk w b 1 0 rv ov) :
    Calls Try.prog 22 #[.pointer (some ⟨b, 0, none⟩), fv] w fun e w' => e = .returned (.tuple #[]) ∧ w' = w := by
  have hl := run_call_load (P := Try.prog) Try.func28 (by kernel_rfl) (by kernel_rfl) (by kernel_rfl) .u32 (by kernel_rfl) hb.c0
  have hnot : ∀ (x : Bool) (w : World), (Op.unary .not (.bool x)).run Try.prog w = .ok (.bool (!x)) w := fun _ _ => rfl
  go_enter Try.func22, Try.ntmps22
  go_wp2_with (go_at_call 25; go_in)
  go_end0
  exact ⟨rfl, rfl⟩

end Go.Proofs.Qxb6614432a
