/-
  Scan's loop, part 5, the reader is at its end.
-/
import Derived.Test.Qxb6612715aFmtSegs
import Derived.OwnWalk
import Derived.LoopN
import Derived.Deep.RegionHeld3
namespace Go.Proofs.Qxb6612715aFmt
open Go.RowKit

set_option maxRecDepth 100000 in
set_option maxHeartbeats 2000000 in
theorem read_eof (rb : Nat) (t : ByteArray) (i : Nat) (pr : Int) (sl ve : Value) (w : World) (h : RdBlk w rb t i pr) (hi : t.size ≤ i) (hg : w.cell? ⟨1, 0, none⟩ = some ve) :
    Calls Tryf.prog 47 #[.pointer (some ⟨rb, 0, none⟩), sl] w fun e w' => e = .returned (.tuple #[.int .i64 0, ve]) ∧ ∃ n, w' = w.drewN n := by
  have hc0 := h.c0
  have hc1 := h.c1
  have hge : decide ((t.size : Int) ≤ (i : Int)) = true := by simp; omega
  clear h
  go_enter Tryf.func47, Tryf.ntmps47
  go_wp2_with fail
  go_quiet (fail)
  go_wp2_with fail
  go_quiet (fail)
  go_wp2
  go_ret2
  exact ⟨rfl, _, World.drewN_drewN _ _ _⟩

set_option maxRecDepth 100000 in
set_option maxHeartbeats 8000000 in
theorem seg5_end (w0 w : World) (B sb rb : Nat) (t : ByteArray) (aE aT : Addr) (c0 m c e N st : Nat) (tk bv : Value) (em pr : Int) (sc : Bool) (hcore : Core w0 w B sb rb t aE c0 c e N st tk bv .nilIface em pr sc) (hm : t.size - e + 1 = m) (hno : st + (e - c) < N) (he : e = t.size) (hB : 2 < B) (hg1 : w0.cell? ⟨1, 0, none⟩ = some (.iface 76 (.pointer (some aE))))
    (Q0 : Exit → Act → World → Prop) (hret : ∀ a' w' b, Ret a' b → ScanPost w0 B sb rb t aE aT c0 b w' → Q0 .ret a' w') (a : Act) (hf : Frame sb a) :
    Code.wp Tryf.prog seg5 (Exit.then (fun a' w' => Frame sb a' ∧ M5 w0 B sb rb t aE c0 m w') Q0) a w := by
  have HC : Hid (Core w0 w B sb rb t aE c0 c e N st tk bv .nilIface em pr sc) := hcore
  have HRET : Hid (∀ a' w' b, Ret a' b → ScanPost w0 B sb rb t aE aT c0 b w' → Q0 .ret a' w') := hret
  have hfit := hcore.s.fit
  have hn64 := hcore.s.n64
  obtain ⟨en, hen⟩ : ∃ en : Nat, en = st + (e - c) := ⟨_, rfl⟩
  have hsb := hcore.s.sc'
  rw [← hen] at hsb hfit
  have HSB : Hid (ScBlk w sb (.iface 40 (.pointer (some ⟨rb, 0, none⟩))) tk bv (st : Int) (en : Int) .nilIface em sc false) := hsb
  have HEN : Hid (en = st + (e - c)) := hen
  have hc0 := hsb.c0
  have hc4 := hsb.c4
  have hc5 := hsb.c5
  have hc6 := hsb.c6
  have hc8 := hsb.c8
  rcases hcore.s.buf with ⟨h1, _⟩ | ⟨hN0, bb, cur, rfl, hBb, hrow, hcl, hby⟩
  · exfalso; omega
  have HM : Hid (t.size - e + 1 = m) := hm
  have hf6 := hsb.fz 6
  have hf8 := hsb.fz 8
  have HNO : Hid (st + (e - c) < N) := hno
  have hmr : ∀ (a : Addr) (w : World), (method 218 40 (.pointer (some a)) "Read").run Tryf.prog w = .ok (47, .pointer (some a)) w := fun _ _ => by kernel_rfl
  have hslw : ∀ W, (Instr.slice 36 (.slice (some ⟨bb, 0, none⟩) N N) (some (.int .i64 (en : Int))) (some (.int .i64 (N : Int))) none).run Tryf.prog W = .ok (.slice (some ⟨bb, en, none⟩) (N - en) (N - en)) W := fun W => by
    have h := Lib.run_slice_window (P := Tryf.prog) W 36 5 Tryf.underlying36 Tryf.sizeOf5 bb 0 N N en N (by omega) (Nat.le_refl _)
    rw [Nat.zero_add] at h
    exact h
  have HROW : Hid (Row w bb cur) := hrow
  have HCL : Hid (cur.length = N) := hcl
  have HBB : Hid (Free B bb) := hBb
  have HBY : Hid (Lib.Bytes w bb st (t.extract c e)) := hby
  have HN0 : Hid (0 < N) := hN0
  have hnsb : sb ≠ bb := sc_ne_row hsb hrow
  have hnsr : sb ≠ rb := sc_ne_rd hsb hcore.s.rd
  have hgw : w.cell? ⟨1, 0, none⟩ = some (.iface 76 (.pointer (some aE))) := (hcore.bel.cell (p := ⟨1, 0, none⟩) (by show 1 < B; omega)).trans hg1
  have HRD : Hid (∀ i, Calls Tryf.prog 47 #[.pointer (some ⟨rb, 0, none⟩), .slice (some ⟨bb, en, none⟩) (N - en) (N - en)] (w.drewN i) fun e' w' => e' = .returned (.tuple #[.int .i64 0, .iface 76 (.pointer (some aE))]) ∧ ∃ n, w' = (w.drewN i).drewN n) := fun i =>
    read_eof rb t e pr _ _ (w.drewN i) (hcore.s.rd.same rfl) (by omega) hgw
  have HSE : Hid (∀ W : World, W.os = w.os → W.tape = w.tape → W.output = w.output → ScBlk W sb (.iface 40 (.pointer (some ⟨rb, 0, none⟩))) tk (.slice (some ⟨bb, 0, none⟩) N N) (st : Int) (en : Int) .nilIface em sc false → W.heap.size = w.heap.size → (∀ j, j ≠ sb → W.heap[j]? = w.heap[j]?) → Calls Tryf.prog 23 #[.pointer (some ⟨sb, 0, none⟩), .iface 76 (.pointer (some aE))] W fun e w' => e = .returned (.tuple #[]) ∧ ScBlk w' sb (.iface 40 (.pointer (some ⟨rb, 0, none⟩))) tk (.slice (some ⟨bb, 0, none⟩) N N) (st : Int) (en : Int) (.iface 76 (.pointer (some aE))) em sc false ∧ Only sb w w') := by
    intro W k1 k2 k3 k4 k5 k6
    exact (setErr_any (w := W) k4 76 (.pointer (some aE))).mono fun _ _ ⟨g1, g2, g3⟩ => ⟨g1, g2, g3.os.trans k1, g3.tape.trans k2, g3.output.trans k3, by rw [g3.size, k5], fun k hk => by rw [g3.block k hk, k6 k hk]⟩
  have hq1 : wrap64 ((N : Int) - (en : Int)) = ((N - en : Nat) : Int) := by unfold wrap64; omega
  have hq3 : decide (((N - en : Nat) : Int) < 0) = false := by apply decide_eq_false; omega
  have hcw := hsb.c6
  have HNE : Hid (rb ≠ sb) := fun e => hnsr e.symm
  clear hcore hret hm hsb hen hno hBb hrow hcl hby

  refine frame_elim (C := fun a => Code.wp Tryf.prog seg5 (Exit.then (fun a' w' => Frame sb a' ∧ M5 w0 B sb rb t aE c0 m w') Q0) a w) hf ?_
  intro u1 u2 u3 u4 u5 u6 u7 u8 u9 u10 u11 u12 u13 u14 u15 u16 u17 u18 u19 u20 u21 u22 u23 u24 u25 u26 u27 u28 u29 u30 u31 u32 u33 u34 u35 u36 u37 u38 u39 u40 u41 u42 u43 u44 u45 u46 u47 u48 u49 u50 u51 u52 u53 u54 u55 u56 u57 u58 u59 u60 u61 u62 u63 u64 u65 u66 u67 u68 u69 u70 u71 u72 u73 u74 u75 u76 u77 u78 u79 u80 u81 u82 u83 u84 u85 u86 u87 u88 u89 u90 u91 u92 u93 u94 u95 u96 u97 u98 u99 u100 u101 u102 u103 u104 u105 u106 u107 u108 u109 u110 u111 u112 u113 u114 u115 u116 u117 u118 u119 u120 u121 u122 u123 u124 u125 u126 u127 u128 u129 u130 u131 u132 u133 u134 u135 u136 u137 u138 u139 u140 u141 u142 u143 u144 u145 u146 u147 u148 u149 u150 u151 u152 u153 u154 u155 u156 u157 u158 u159 u160 u161 u162 u163 u164 u165 u166 u167 u168 u169 u170 u171 u172 u173 u174 u175 u176 u177 u178 u179 u180 u181 u182 u183 u184 u185 u186 u187 u188 u189 u190 u191 u192 u193 u194 u195 u196 u197 u198 u199 u200 u201 u202 u203 u204 u205 u206 u207 u208 u209 u210 u211 u212 u213 u214 u215 u216 u217 u218 u219 u220 u221 u222 u223 u224 u225 u226 u227 u228 u229 u230 u231 u232 u233 u234 u235 u236 u237 u238 u239 u240 u241 u242 u243 u244 u245 u246 u247 u248 u249 u250 u251 u252 u253 u254 u255 u256 u257 u258 u259 u260 u261 u262 u263 u264 u265 u266 u267 u268 u269 u270 u271 u272 u273 u274 u275 u276 u277 u278 u279 u280 u281 u282 u283 u284 u285 u286 u287 u288 u289 u290 u291 u292 u293 u294 u295 u296 u297 u298 u299 u300 u301 u302 u303 u304 u305 u306 u307 u308 u309 u310 u311 u312 u313 u314 u315 u316 u317 u318 u319 u320 u321 u322 u323 u324 u325 u326 u327 u328 u329 u330 u331 u332 u333
  clear hf
  conv => arg 2; whnf
  go_wp2_with fail
  refine wp_loop_rounds 1 ?_
  rw [rounds_succ]
  go_wp2_with fail
  go_quiet (exact Calls.quiet_of (HRD.out _))
  go_wp2_with fail
  go_quiet (fail)
  go_wp2_with (go_at_call 23
               refine Calls.mono (HSE.out _ rfl rfl rfl (ScBlk.set6 (w := w.drewN _) (HSB.out.same rfl) (en : Int)) (by simp [World.setCell]) (fun j hj => Below.heap_setCell _ _ _ _ hj)) ?_
               rintro e1 w1 ⟨rfl, hs1, ho1⟩
               have HS1 : Hid (ScBlk w1 sb (.iface 40 (.pointer (some ⟨rb, 0, none⟩))) tk (.slice (some ⟨bb, 0, none⟩) N N) (st : Int) (en : Int) (.iface 76 (.pointer (some aE))) em sc false) := hs1
               have HO1 : Hid (Only sb w w1) := ho1
               clear hs1 ho1)
  have HST : Hid (St w1 B sb rb t c e N st tk (.slice (some ⟨bb, 0, none⟩) N N) (.iface 76 (.pointer (some aE))) em pr sc) :=
    HC.out.s.turn (c' := c) (st' := st) (by have h := HS1.out; rw [HEN.out] at h; exact h) HO1.out (Nat.le_refl _) HC.out.s.ce (by omega) (Or.inr HNO.out)
  refine ⟨⟨rfl, rfl, rfl⟩, c, e, N, st, tk, _, _, em, pr, sc, ⟨HST.out, Or.inr ⟨rfl, he⟩, HC.out.nw, HC.out.ls, HC.out.le, HO1.out.below HC.out.bel HC.out.s.hs⟩, ?_⟩
  rw [rdI_of HST.out.rd, erN_some HS1.out]
  have := HM.out
  omega


end Go.Proofs.Qxb6612715aFmt
