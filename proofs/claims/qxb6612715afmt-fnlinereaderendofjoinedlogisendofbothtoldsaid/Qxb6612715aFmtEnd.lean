/-
  (*Scanner).Err (18), fmt.Errorf (19), (*lineReader).end (13), ZZend (7).
-/
import Derived.Test.Qxb6612715aFmtIs
import Derived.Test.Qxb6612715aFmtBlk
import Derived.Stop.CallBack
import Derived.Stop.IfaceNil
import Derived.BigQuiet
import Derived.Deep.QuietTactic
namespace Go.Proofs.Qxb6612715aFmt
open Go.RowKit Go.Extern.Stop Go.Stop Go.Extern

theorem Tryf.call25 (args : Array Value) (w : World) : (callFunc 25 args).run Tryf.prog w = ((FmtStop.errorf #[9, 61] #[32] args).run Tryf.prog w).andThen fun v w' => .ok (.value v) w' :=
  run_callFunc_extern Tryf.func25 (by kernel_rfl) (by kernel_rfl) (by kernel_rfl) (by kernel_rfl) args w
theorem Tryf.guard (name : String) (w : World) : (FmtStop.guard name).run Tryf.prog w = .ok () w := by kernel_rfl
def logFmt : ByteArray := ⟨#[97, 110, 116, 101, 99, 101, 100, 101, 58, 32, 114, 101, 97, 100, 105, 110, 103, 32, 108, 111, 103, 32, 108, 105, 110, 101, 32, 37, 100, 58, 32, 37, 119]⟩
theorem Tryf.fmt0 : FmtStop.printed? ⟨#[97, 110, 116, 101, 99, 101, 100, 101, 58, 32, 114, 101, 97, 100, 105, 110, 103, 32, 108, 111, 103, 32, 108, 105, 110, 101, 32, 37, 100, 58, 32, 37, 119]⟩ 2 = some [(0, 100, false), (1, 119, false)] := by kernel_rfl
theorem Tryf.fmt0r (w : World) : (FmtDoors.printed ⟨#[97, 110, 116, 101, 99, 101, 100, 101, 58, 32, 114, 101, 97, 100, 105, 110, 103, 32, 108, 111, 103, 32, 108, 105, 110, 101, 32, 37, 100, 58, 32, 37, 119]⟩ 2).run Tryf.prog w = .ok [(0, 100, false), (1, 119, false)] w := by kernel_rfl
def Tryf.shape3 : List UInt8 := [5, 3, 0, 0, 0, 0, 0, 0, 0, 105, 110, 116]
theorem Tryf.op3_100 (name : String) (x : Int) (w : World) : (FmtStop.operand name false 100 false (.iface 3 (.int .i64 x))).run Tryf.prog w = .ok (Tryf.shape3, Go.Extern.Stop.digits 8 (x % 2 ^ 64).toNat) w := by kernel_rfl
theorem Tryf.op3_100w (name : String) (x : Int) (w : World) : (FmtStop.operand name true 100 false (.iface 3 (.int .i64 x))).run Tryf.prog w = .ok (Tryf.shape3, Go.Extern.Stop.digits 8 (x % 2 ^ 64).toNat) w := by kernel_rfl
theorem Tryf.strict3 (name : String) (x : Int) (w : World) : (FmtStop.strict name (.iface 3 (.int .i64 x))).run Tryf.prog w = .ok (Tryf.shape3, Go.Extern.Stop.digits 8 (x % 2 ^ 64).toNat) w := by kernel_rfl
theorem Tryf.ptr63 (w : World) : (FmtStop.ptrTo "fmt.wrapError").run Tryf.prog w = .ok 63 w := by kernel_rfl
theorem Tryf.elem63 (w : World) : (elemOf 63).run Tryf.prog w = .ok 103 w := by kernel_rfl
theorem Tryf.isError63 (w : World) : (FmtDoors.textMethod 63 "Error").run Tryf.prog w = .ok true w := by kernel_rfl
theorem Tryf.isError76 (w : World) : (FmtDoors.textMethod 76 "Error").run Tryf.prog w = .ok true w := by kernel_rfl
def Tryf.plain76 : List UInt8 := 14 :: FmtStop.pack "*errors.errorString".toUTF8.data.toList
theorem Tryf.opPlain76_119w (name : String) (a : Addr) (s : ByteArray) (w : World) (hc : w.cell? a = some (.string s)) :
    (FmtStop.operand name true 119 false (.iface 76 (.pointer (some a)))).run Tryf.prog w = .ok (Tryf.plain76, s.data.toList) w := by
  have h1 : (typeStr 76).run Tryf.prog w = .ok "*errors.errorString" w := by kernel_rfl
  have d2 : Tryf.t76.desc = .pointer 78 := rfl
  have d3 : Tryf.t78.desc = .named "errors.errorString" 77 := rfl
  simp [FmtStop.operand, h1, d2, d3, run_load, hc, Tryf.plain76]

set_option maxRecDepth 100000 in
set_option maxHeartbeats 1000000 in
theorem errorf_wrap (F : Interp) (n : Int) (a : Addr) (s : ByteArray) (blk : Nat) (w : World) (hF : F.answers w.tape) (hc0 : w.cell? ⟨blk, 0, none⟩ = some (.iface 3 (.int .i64 n))) (hc1 : w.cell? ⟨blk, 1, none⟩ = some (.iface 76 (.pointer (some a)))) (hs : w.cell? a = some (.string s)) :
    Calls Tryf.prog 19 #[.string ⟨#[97, 110, 116, 101, 99, 101, 100, 101, 58, 32, 114, 101, 97, 100, 105, 110, 103, 32, 108, 111, 103, 32, 108, 105, 110, 101, 32, 37, 100, 58, 32, 37, 119]⟩, .slice (some ⟨blk, 0, none⟩) 2 2] w fun e w' =>
      e = .returned (.iface 63 (.pointer (some ⟨w.heap.size, 0, none⟩))) ∧ w'.cell? ⟨w.heap.size, 1, none⟩ = some (.iface 76 (.pointer (some a))) ∧ Below w.heap.size w w' := by
  have hF' : ∀ i name reading k range, w.tape i (.extern (word name reading k) range) = F name reading k := hF
  have f1 := Tryf.call25; have f2 := Tryf.guard; have f3 := Tryf.op3_100; have f4 := Tryf.op3_100w; have f5 := Tryf.strict3; have f6 := Tryf.ptr63; have f7 := Tryf.elem63; have f8 := Tryf.fmt0; have f9 := Tryf.fmt0r
  have f10 := Tryf.isError63; have f11 := Tryf.isError76
  have hop := Tryf.opPlain76_119w "fmt.errorf" a s w hs
  go_enter Tryf.func19, Tryf.ntmps19
  go_wp2
  go_ret
  exact ⟨rfl, by simp, ((Below.refl _ _).alloc (Nat.le_refl _) _).drew⟩

/-- what the three package-level variables hold -/
structure Glob (w : World) (aN aE aT : Addr) (sT : ByteArray) : Prop where
  g0 : w.cell? ⟨0, 0, none⟩ = some (.iface 76 (.pointer (some aN)))
  g1 : w.cell? ⟨1, 0, none⟩ = some (.iface 76 (.pointer (some aE)))
  g2 : w.cell? ⟨2, 0, none⟩ = some (.iface 76 (.pointer (some aT)))
  bN : ∃ c t, w.heap[aN.block]? = some (.cells c t (0, 0))
  bE : ∃ c t, w.heap[aE.block]? = some (.cells c t (0, 0))
  bT : ∃ c t, w.heap[aT.block]? = some (.cells c t (0, 0))
  nEN : aE ≠ aN
  nET : aE ≠ aT
  t : w.cell? aT = some (.string sT)
theorem Glob.below {w w' : World} {aN aE aT : Addr} {sT : ByteArray} (h : Glob w aN aE aT sT) (hb : Below w.heap.size w w') : Glob w' aN aE aT sT := by
  have k : ∀ (b : Nat) {o : Obj}, w.heap[b]? = some o → w'.heap[b]? = some o := fun b o hh => (hb.block b (Array.getElem?_eq_some_iff.1 hh).1).trans hh
  have q : ∀ (p : Addr) {v : Value}, w.cell? p = some v → w'.cell? p = some v := fun p v hh => (hb.cell (World.block_lt_of_cell? _ _ hh)).trans hh
  obtain ⟨c1, t1, h1⟩ := h.bN
  obtain ⟨c2, t2, h2⟩ := h.bE
  obtain ⟨c3, t3, h3⟩ := h.bT
  exact ⟨q _ h.g0, q _ h.g1, q _ h.g2, ⟨c1, t1, k _ h1⟩, ⟨c2, t2, k _ h2⟩, ⟨c3, t3, k _ h3⟩, h.nEN, h.nET, q _ h.t⟩
theorem Glob.lt {w : World} {aN aE aT : Addr} {sT : ByteArray} (h : Glob w aN aE aT sT) : 2 < w.heap.size := World.block_lt_of_cell? _ _ h.g2

/-- a line reader at its end: its scanner's error -/
structure LR (w : World) (lb sb : Nat) (er : Addr) : Prop where
  c0 : w.cell? ⟨lb, 0, none⟩ = some (.pointer (some ⟨sb, 0, none⟩))
  c1 : w.cell? ⟨lb, 1, none⟩ = some (.int .i64 0)
  e : w.cell? ⟨sb, 7, none⟩ = some (.iface 76 (.pointer (some er)))
theorem LR.below {w w' : World} {lb sb : Nat} {er : Addr} (h : LR w lb sb er) (hb : Below w.heap.size w w') : LR w' lb sb er := by
  have q : ∀ (p : Addr) {v : Value}, w.cell? p = some v → w'.cell? p = some v := fun p v hh => (hb.cell (World.block_lt_of_cell? _ _ hh)).trans hh
  exact ⟨q _ h.c0, q _ h.c1, q _ h.e⟩

theorem Tryf.isComp' : ∃ i, Tryf.prog.info? 76 = some i ∧ i.comparable = true := by
  obtain ⟨i, hi, hcmp⟩ := Option.map_eq_some_iff.1 Tryf.isComp
  exact ⟨i, hi, hcmp⟩
theorem eql_same (a : Addr) (w : World) : (binOp .eql 32 (.iface 76 (.pointer (some a))) (.iface 76 (.pointer (some a)))).run Tryf.prog w = .ok (.bool true) w := by
  obtain ⟨i, hi, hcmp⟩ := Option.map_eq_some_iff.1 Tryf.isComp
  obtain ⟨j, hj, hjs⟩ := Option.map_eq_some_iff.1 Tryf.isSize
  exact run_eql_iface_ptr_same (P := Tryf.prog) w a Tryf.underlying32 Tryf.underlying76 hi hcmp hj
theorem eql_other {a b : Addr} {w : World} (hne : a ≠ b) (ha : ∃ c t, w.heap[a.block]? = some (.cells c t (0, 0))) (hb : ∃ c t, w.heap[b.block]? = some (.cells c t (0, 0))) (n : Nat) :
    (binOp .eql 32 (.iface 76 (.pointer (some a))) (.iface 76 (.pointer (some b)))).run Tryf.prog (w.drewN n) = .ok (.bool false) (w.drewN n) := by
  obtain ⟨i, hi, hcmp⟩ := Option.map_eq_some_iff.1 Tryf.isComp
  obtain ⟨j, hj, hjs⟩ := Option.map_eq_some_iff.1 Tryf.isSize
  obtain ⟨c, t, ha⟩ := ha
  obtain ⟨c', t', hb⟩ := hb
  exact run_eql_iface_ptr_other (P := Tryf.prog) (w.drewN n) Tryf.underlying32 Tryf.underlying76 hi hcmp hj (by rw [hjs]; decide) hne ha hb
theorem eql_types (a b : Addr) (w : World) : (binOp .eql 32 (.iface 63 (.pointer (some a))) (.iface 76 (.pointer (some b)))).run Tryf.prog w = .ok (.bool false) w :=
  run_eql_iface_types (P := Tryf.prog) 63 76 (.pointer (some a)) (.pointer (some b)) Tryf.underlying32 (by decide) w

set_option maxRecDepth 100000 in
set_option maxHeartbeats 2000000 in
theorem err_eof (w : World) (aN aE aT : Addr) (sT : ByteArray) (sb : Nat) (hg : Glob w aN aE aT sT) (he : w.cell? ⟨sb, 7, none⟩ = some (.iface 76 (.pointer (some aE)))) :
    Calls Tryf.prog 18 #[.pointer (some ⟨sb, 0, none⟩)] w fun e w' => e = .returned .nilIface ∧ ∃ n, w' = w.drewN n := by
  have g1 := hg.g1
  have es := eql_same aE
  clear hg
  go_enter Tryf.func18, Tryf.ntmps18
  go_wp2_with fail
  go_quiet (fail)
  go_wp2
  go_ret
  exact ⟨rfl, _, rfl⟩
set_option maxRecDepth 100000 in
set_option maxHeartbeats 2000000 in
theorem err_long (w : World) (aN aE aT : Addr) (sT : ByteArray) (sb : Nat) (hg : Glob w aN aE aT sT) (he : w.cell? ⟨sb, 7, none⟩ = some (.iface 76 (.pointer (some aT)))) :
    Calls Tryf.prog 18 #[.pointer (some ⟨sb, 0, none⟩)] w fun e w' => e = .returned (.iface 76 (.pointer (some aT))) ∧ ∃ n, w' = w.drewN n := by
  have g1 := hg.g1
  have es := eql_other (fun e => hg.nET e.symm) hg.bT hg.bE
  clear hg
  go_enter Tryf.func18, Tryf.ntmps18
  go_wp2_with fail
  go_quiet (fail)
  go_wp2
  go_ret
  exact ⟨rfl, _, rfl⟩

set_option maxRecDepth 100000 in
set_option maxHeartbeats 2000000 in
theorem end_eof (w : World) (aN aE aT : Addr) (sT : ByteArray) (lb sb : Nat) (hg : Glob w aN aE aT sT) (hl : LR w lb sb aE) :
    Calls Tryf.prog 13 #[.pointer (some ⟨lb, 0, none⟩)] w fun e w' => e = .returned (.iface 76 (.pointer (some aE))) ∧ ∃ n, w' = w.drewN n := by
  have g1 := hg.g1
  have l0 := hl.c0
  have HE : Hid (Calls Tryf.prog 18 #[.pointer (some ⟨sb, 0, none⟩)] w fun e w' => e = .returned .nilIface ∧ ∃ n, w' = w.drewN n) := err_eof w aN aE aT sT sb hg hl.e
  clear hg hl
  go_enter Tryf.func13, Tryf.ntmps13
  go_wp2_with (go_at_call 18; refine Calls.mono HE.out ?_; rintro e w1 ⟨rfl, n1, rfl⟩)
  go_ret
  exact ⟨rfl, _, rfl⟩
set_option maxRecDepth 100000 in
set_option maxHeartbeats 2000000 in
theorem end_long (F : Interp) (w : World) (hF : F.answers w.tape) (aN aE aT : Addr) (sT : ByteArray) (lb sb : Nat) (hg : Glob w aN aE aT sT) (hl : LR w lb sb aT) :
    Calls Tryf.prog 13 #[.pointer (some ⟨lb, 0, none⟩)] w fun e w' => ∃ b, e = .returned (.iface 63 (.pointer (some ⟨b, 0, none⟩))) ∧ w'.cell? ⟨b, 1, none⟩ = some (.iface 76 (.pointer (some aT))) ∧ Below w.heap.size w w' := by
  have l0 := hl.c0
  have l1 := hl.c1
  have HE : Hid (Calls Tryf.prog 18 #[.pointer (some ⟨sb, 0, none⟩)] w fun e w' => e = .returned (.iface 76 (.pointer (some aT))) ∧ ∃ n, w' = w.drewN n) := err_long w aN aE aT sT sb hg hl.e
  have HT : Hid (w.cell? aT = some (.string sT)) := hg.t
  have HEF : Hid (∀ W : World, W.tape = w.tape → W.heap = w.heap → W.os = w.os → W.output = w.output → Calls Tryf.prog 19 #[.string ⟨#[97, 110, 116, 101, 99, 101, 100, 101, 58, 32, 114, 101, 97, 100, 105, 110, 103, 32, 108, 111, 103, 32, 108, 105, 110, 101, 32, 37, 100, 58, 32, 37, 119]⟩, .slice (some ⟨w.heap.size, 0, none⟩) 2 2] (W.alloc (.cells #[.iface 3 (.int .i64 1), .iface 76 (.pointer (some aT))] 20)) fun e w' =>
      e = .returned (.iface 63 (.pointer (some ⟨w.heap.size + 1, 0, none⟩))) ∧ w'.cell? ⟨w.heap.size + 1, 1, none⟩ = some (.iface 76 (.pointer (some aT))) ∧ Below w.heap.size w w') := by
    intro W k1 k2 k3 k4
    have hn := heap_alloc_new W (.cells #[.iface 3 (.int .i64 1), .iface 76 (.pointer (some aT))] 20)
    rw [k2] at hn
    have hT : (W.alloc (.cells #[.iface 3 (.int .i64 1), .iface 76 (.pointer (some aT))] 20)).cell? aT = some (.string sT) := by
      have h1 : W.cell? aT = some (.string sT) := by
        rw [← HT.out]; unfold World.cell?; rw [k2]
      exact (World.cell?_of_block (Lib.alloc_old W _ aT.block (World.block_lt_of_cell? _ _ h1))).trans h1
    have h := errorf_wrap F 1 aT sT w.heap.size (W.alloc (.cells #[.iface 3 (.int .i64 1), .iface 76 (.pointer (some aT))] 20)) (by intro i name reading k range; show W.tape i _ = _; rw [k1]; exact hF i name reading k range) (by rw [Lib.cell_of_heap hn]; rfl) (by rw [Lib.cell_of_heap hn]; rfl) hT
    have hsz : (W.alloc (.cells #[.iface 3 (.int .i64 1), .iface 76 (.pointer (some aT))] 20)).heap.size = w.heap.size + 1 := by rw [← k2]; simp
    rw [hsz] at h
    exact h.mono fun _ _ ⟨a1, a2, a3⟩ => ⟨a1, a2, a3.os.trans k3, a3.tape.trans k1, a3.output.trans k4, by have := a3.size; omega, fun k hk => (a3.block k (by omega)).trans (by rw [Lib.alloc_old W _ k (by rw [k2]; exact hk), k2])⟩
  clear hg hl
  go_enter Tryf.func13, Tryf.ntmps13
  go_wp2_with first
    | (go_at_call 18; refine Calls.mono HE.out ?_; rintro e w1 ⟨rfl, n1, rfl⟩)
    | (go_at_call 19
       refine Calls.mono (HEF.out _ rfl rfl rfl rfl) ?_
       rintro e w2 ⟨rfl, hc2, hb2⟩
       have HC2 : Hid (w2.cell? ⟨w.heap.size + 1, 1, none⟩ = some (.iface 76 (.pointer (some aT)))) := hc2
       have HB2 : Hid (Below w.heap.size w w2) := hb2
       clear hc2 hb2)
  go_ret
  exact ⟨_, rfl, HC2.out, HB2.out⟩

theorem results_tmp4 {fn : Func} {t u v x : Tmp} (h : fn.results = #[.tmp t, .tmp u, .tmp v, .tmp x]) (tmps : Array Value) (P : Program) (w : World) :
    (results fn tmps).run P w = .ok (.tuple #[tmps.getD t undef, tmps.getD u undef, tmps.getD v undef, tmps.getD x undef]) w := by
  simp [results, h]
theorem below_draw {B : Nat} {a w : World} (h : Below B a w) (n : Nat) : Below B a (w.drewN n) := ⟨h.os, h.tape, h.output, h.size, h.block⟩

set_option maxRecDepth 100000 in
set_option maxHeartbeats 2000000 in
theorem zzend_eof (w : World) (aN aE aT : Addr) (sT : ByteArray) (lb sb : Nat) (hg : Glob w aN aE aT sT) (hl : LR w lb sb aE) :
    Calls Tryf.prog 7 #[.pointer (some ⟨lb, 0, none⟩)] w fun e w' => e = .returned (.tuple #[.bool true, .bool false, .bool true, .bool false]) ∧ Below w.heap.size w w' := by
  have HE : Hid (Calls Tryf.prog 13 #[.pointer (some ⟨lb, 0, none⟩)] w fun e w' => e = .returned (.iface 76 (.pointer (some aE))) ∧ ∃ n, w' = w.drewN n) := end_eof w aN aE aT sT lb sb hg hl
  have g0 := hg.g0
  have g1 := hg.g1
  have g2 := hg.g2
  have e0 := eql_other hg.nEN hg.bE hg.bN
  have e1 := eql_same aE
  have HIS : Hid (∀ i, Calls Tryf.prog 14 #[.iface 76 (.pointer (some aE)), .iface 76 (.pointer (some aT))] (w.drewN i) fun e w' => e = .returned (.bool false) ∧ w' = w.drewN i) := by
    intro i
    obtain ⟨c, t, ha⟩ := hg.bE
    obtain ⟨c', t', hb⟩ := hg.bT
    exact is_other aE aT c c' t t' (w.drewN i) hg.nET ha hb
  clear hg hl
  go_enter Tryf.func7, Tryf.ntmps7
  go_wp2_with (go_at_call 13; refine Calls.mono HE.out ?_; rintro e w1 ⟨rfl, n1, rfl⟩)
  go_quiet (exact (HIS.out _).mono fun _ _ h => ⟨h.1, _, h.2⟩)
  go_wp2
  (try simp only [Exit.inBlock, Exit.then])
  refine bodyPost_ret (results_tmp4 rfl _ _ _) rfl ?_
  exact ⟨rfl, below_draw (below_draw (Below.refl _ _) _) _⟩
set_option maxRecDepth 100000 in
set_option maxHeartbeats 2000000 in
theorem zzend_long (F : Interp) (w : World) (hF : F.answers w.tape) (aN aE aT : Addr) (sT : ByteArray) (lb sb : Nat) (hg : Glob w aN aE aT sT) (hl : LR w lb sb aT) :
    Calls Tryf.prog 7 #[.pointer (some ⟨lb, 0, none⟩)] w fun e w' => e = .returned (.tuple #[.bool true, .bool false, .bool false, .bool true]) ∧ Below w.heap.size w w' := by
  have HE : Hid (Calls Tryf.prog 13 #[.pointer (some ⟨lb, 0, none⟩)] w fun e w' => ∃ b, e = .returned (.iface 63 (.pointer (some ⟨b, 0, none⟩))) ∧ w'.cell? ⟨b, 1, none⟩ = some (.iface 76 (.pointer (some aT))) ∧ Below w.heap.size w w') := end_long F w hF aN aE aT sT lb sb hg hl
  have HG : Hid (Glob w aN aE aT sT) := hg
  have e0 := eql_types
  clear hg hl
  go_enter Tryf.func7, Tryf.ntmps7
  go_wp2_with (go_at_call 13
               refine Calls.mono HE.out ?_
               rintro e w1 ⟨b, rfl, hc1, hb1⟩
               have HB1 : Hid (Below w.heap.size w w1) := hb1
               have HIS : Hid (∀ i, Calls Tryf.prog 14 #[.iface 63 (.pointer (some ⟨b, 0, none⟩)), .iface 76 (.pointer (some aT))] (w1.drewN i) fun e w' => e = .returned (.bool true) ∧ w' = w1.drewN i) := fun i => is_wrap_same b 0 aT (w1.drewN i) hc1
               have g0 := (HG.out.below hb1).g0
               have g1 := (HG.out.below hb1).g1
               have g2 := (HG.out.below hb1).g2
               clear hb1 hc1)
  go_quiet (exact (HIS.out _).mono fun _ _ h => ⟨h.1, _, h.2⟩)
  go_wp2
  (try simp only [Exit.inBlock, Exit.then])
  refine bodyPost_ret (results_tmp4 rfl _ _ _) rfl ?_
  exact ⟨rfl, below_draw HB1.out _⟩

end Go.Proofs.Qxb6612715aFmt
