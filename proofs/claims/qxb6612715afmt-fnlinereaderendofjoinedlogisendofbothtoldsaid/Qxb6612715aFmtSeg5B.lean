/-
  Scan's loop, part 5, bytes are read.
-/
import Derived.Test.Qxb6612715aFmtSegs
import Derived.OwnWalk
import Derived.LoopN
import Derived.Deep.RegionHeld3
namespace Go.Proofs.Qxb6612715aFmt
open Go.RowKit

set_option maxRecDepth 100000 in
set_option maxHeartbeats 8000000 in
theorem seg5_some (w0 w : World) (B sb rb : Nat) (t : ByteArray) (aE aT : Addr) (c0 m c e N st : Nat) (tk bv : Value) (em pr : Int) (sc : Bool) (hcore : Core w0 w B sb rb t aE c0 c e N st tk bv .nilIface em pr sc) (hm : t.size - e + 1 = m) (hno : st + (e - c) < N) (he : e < t.size) (ht : t.size ≤ 2097152)
    (Q0 : Exit → Act → World → Prop) (hret : ∀ a' w' b, Ret a' b → ScanPost w0 B sb rb t aE aT c0 b w' → Q0 .ret a' w') (a : Act) (hf : Frame sb a) :
    Code.wp Tryf.prog seg5 (Exit.then (fun a' w' => Frame sb a' ∧ M5 w0 B sb rb t aE c0 m w') Q0) a w := by
  have HC : Hid (Core w0 w B sb rb t aE c0 c e N st tk bv .nilIface em pr sc) := hcore
  have HRET : Hid (∀ a' w' b, Ret a' b → ScanPost w0 B sb rb t aE aT c0 b w' → Q0 .ret a' w') := hret
  have hfit := hcore.s.fit
  have hn64 := hcore.s.n64
  obtain ⟨en, hen⟩ : ∃ en : Nat, en = st + (e - c) := ⟨_, rfl⟩
  have hsb := hcore.s.sc'
  rw [← hen] at hsb hfit
  have HSB : Hid (ScBlk w sb (.iface 40 (.pointer (some ⟨rb, 0, none⟩))) tk bv (st : Int) (en : Int) .nilIface em sc false) := hsb
  have HEN : Hid (en = st + (e - c)) := hen
  have hc0 := hsb.c0
  have hc4 := hsb.c4
  have hc5 := hsb.c5
  have hc6 := hsb.c6
  have hc8 := hsb.c8
  rcases hcore.s.buf with ⟨h1, _⟩ | ⟨hN0, bb, cur, rfl, hBb, hrow, hcl, hby⟩
  · exfalso; omega
  have HM : Hid (t.size - e + 1 = m) := hm
  have hf6 := hsb.fz 6
  have hf8 := hsb.fz 8
  have HNO : Hid (st + (e - c) < N) := hno
  have hmr : ∀ (a : Addr) (w : World), (method 218 40 (.pointer (some a)) "Read").run Tryf.prog w = .ok (47, .pointer (some a)) w := fun _ _ => by kernel_rfl
  have hslw : ∀ W, (Instr.slice 36 (.slice (some ⟨bb, 0, none⟩) N N) (some (.int .i64 (en : Int))) (some (.int .i64 (N : Int))) none).run Tryf.prog W = .ok (.slice (some ⟨bb, en, none⟩) (N - en) (N - en)) W := fun W => by
    have h := Lib.run_slice_window (P := Tryf.prog) W 36 5 Tryf.underlying36 Tryf.sizeOf5 bb 0 N N en N (by omega) (Nat.le_refl _)
    rw [Nat.zero_add] at h
    exact h
  have HROW : Hid (Row w bb cur) := hrow
  have HCL : Hid (cur.length = N) := hcl
  have HBB : Hid (Free B bb) := hBb
  have HBY : Hid (Lib.Bytes w bb st (t.extract c e)) := hby
  have HN0 : Hid (0 < N) := hN0
  have hnsb : sb ≠ bb := sc_ne_row hsb hrow
  have hnsr : sb ≠ rb := sc_ne_rd hsb hcore.s.rd
  obtain ⟨k, hk⟩ : ∃ k, k = Nat.min (t.size - e) (N - en) := ⟨_, rfl⟩
  have HRD : Hid (∀ W : World, W.os = w.os → W.tape = w.tape → W.output = w.output → W.heap = w.heap → Calls Tryf.prog 47 #[.pointer (some ⟨rb, 0, none⟩), .slice (some ⟨bb, en, none⟩) (N - en) (N - en)] W fun e' w' => ReadPost rb bb t e en k cur W e' w') := by
    intro W k1 k2 k3 k4
    exact read_some rb bb t e en (N - en) (N - en) k pr cur W (hcore.s.rd.same (by rw [k4])) he ht (hrow.same (by rw [k4])) (fun e => rd_ne_row hcore.s.rd hrow e.symm) (by omega) hk
  have HK : Hid (k = Nat.min (t.size - e) (N - en)) := hk
  have hk0 : 0 < k := by rw [hk]; exact Nat.lt_min.2 ⟨by omega, by omega⟩
  have hk1 : k ≤ N - en := by rw [hk]; exact Nat.min_le_right _ _
  have hke : e + k ≤ t.size := by have h : k ≤ t.size - e := (by rw [hk]; exact Nat.min_le_left _ _); omega
  have hq1 : decide ((k : Int) < 0) = false := by apply decide_eq_false; omega
  have hq2 : wrap64 ((N : Int) - (en : Int)) = ((N - en : Nat) : Int) := by unfold wrap64; omega
  have hq3 : decide (((N - en : Nat) : Int) < (k : Int)) = false := by apply decide_eq_false; omega
  have hq3' : decide (N - en < k) = false := by apply decide_eq_false; omega
  have hq4 : decide ((0 : Int) < (k : Int)) = true := by apply decide_eq_true; omega
  have hq4' : decide (0 < k) = true := by apply decide_eq_true; omega
  clear hk
  clear hcore hret hm hsb hen hno hBb hrow hcl hby

  refine frame_elim (C := fun a => Code.wp Tryf.prog seg5 (Exit.then (fun a' w' => Frame sb a' ∧ M5 w0 B sb rb t aE c0 m w') Q0) a w) hf ?_
  intro u1 u2 u3 u4 u5 u6 u7 u8 u9 u10 u11 u12 u13 u14 u15 u16 u17 u18 u19 u20 u21 u22 u23 u24 u25 u26 u27 u28 u29 u30 u31 u32 u33 u34 u35 u36 u37 u38 u39 u40 u41 u42 u43 u44 u45 u46 u47 u48 u49 u50 u51 u52 u53 u54 u55 u56 u57 u58 u59 u60 u61 u62 u63 u64 u65 u66 u67 u68 u69 u70 u71 u72 u73 u74 u75 u76 u77 u78 u79 u80 u81 u82 u83 u84 u85 u86 u87 u88 u89 u90 u91 u92 u93 u94 u95 u96 u97 u98 u99 u100 u101 u102 u103 u104 u105 u106 u107 u108 u109 u110 u111 u112 u113 u114 u115 u116 u117 u118 u119 u120 u121 u122 u123 u124 u125 u126 u127 u128 u129 u130 u131 u132 u133 u134 u135 u136 u137 u138 u139 u140 u141 u142 u143 u144 u145 u146 u147 u148 u149 u150 u151 u152 u153 u154 u155 u156 u157 u158 u159 u160 u161 u162 u163 u164 u165 u166 u167 u168 u169 u170 u171 u172 u173 u174 u175 u176 u177 u178 u179 u180 u181 u182 u183 u184 u185 u186 u187 u188 u189 u190 u191 u192 u193 u194 u195 u196 u197 u198 u199 u200 u201 u202 u203 u204 u205 u206 u207 u208 u209 u210 u211 u212 u213 u214 u215 u216 u217 u218 u219 u220 u221 u222 u223 u224 u225 u226 u227 u228 u229 u230 u231 u232 u233 u234 u235 u236 u237 u238 u239 u240 u241 u242 u243 u244 u245 u246 u247 u248 u249 u250 u251 u252 u253 u254 u255 u256 u257 u258 u259 u260 u261 u262 u263 u264 u265 u266 u267 u268 u269 u270 u271 u272 u273 u274 u275 u276 u277 u278 u279 u280 u281 u282 u283 u284 u285 u286 u287 u288 u289 u290 u291 u292 u293 u294 u295 u296 u297 u298 u299 u300 u301 u302 u303 u304 u305 u306 u307 u308 u309 u310 u311 u312 u313 u314 u315 u316 u317 u318 u319 u320 u321 u322 u323 u324 u325 u326 u327 u328 u329 u330 u331 u332 u333
  clear hf
  conv => arg 2; whnf
  go_wp2_with fail
  refine wp_loop_rounds 1 ?_
  rw [rounds_succ]
  go_wp2_with fail
  go_region_held3 (fun w' => w'.cell? ⟨sb, 0, none⟩ = some (.iface 40 (.pointer (some ⟨rb, 0, none⟩))) ∧ w'.cell? ⟨sb, 4, none⟩ = some (.slice (some ⟨bb, 0, none⟩) N N) ∧ w'.cell? ⟨sb, 6, none⟩ = some (.int .i64 (en : Int))) (go_keep)
    (first | (go_at_call 47
              refine Calls.mono (HRD.out _ rfl rfl rfl rfl) ?_
              rintro e1 w2 ⟨rfl, hrow2, hrd2, ho2⟩
              have HRW : Hid (Row w2 bb (splice cur en (Lib.byteCells ((t.data.toList.drop e).take k)))) := hrow2
              have HRD2 : Hid (RdBlk w2 rb t ((e : Int) + k) (-1)) := hrd2
              have HO2 : Hid (Only2 bb rb w w2) := ⟨ho2.os, ho2.tape, ho2.output, ho2.size, ho2.block⟩
              have HS2 : Hid (ScBlk w2 sb (.iface 40 (.pointer (some ⟨rb, 0, none⟩))) tk (.slice (some ⟨bb, 0, none⟩) N N) (st : Int) (en : Int) .nilIface em sc false) := HSB.out.same (HO2.out.block sb hnsb hnsr)
              have he0 := HS2.out.c0
              have he4 := HS2.out.c4
              have he6 := HS2.out.c6
              have he8 := HS2.out.c8
              have hg6 := HS2.out.fz 6
              have hg8 := HS2.out.fz 8
              clear hrow2 hrd2 ho2))
  go_wp2_with fail
  go_quiet (fail)
  go_wp2
  have HSF : Hid (ScBlk (((w2.drewN nq).setCell ⟨sb, 6, none⟩ (.int .i64 ((en : Int) + (k : Int)))).setCell ⟨sb, 8, none⟩ (.int .i64 0)) sb (.iface 40 (.pointer (some ⟨rb, 0, none⟩))) tk (.slice (some ⟨bb, 0, none⟩) N N) (st : Int) ((en : Int) + (k : Int)) .nilIface 0 sc false) := (ScBlk.set6 (w := w2.drewN nq) (HS2.out.same rfl) _).set8 0
  have HOF : Hid (Only sb w2 (((w2.drewN nq).setCell ⟨sb, 6, none⟩ (.int .i64 ((en : Int) + (k : Int)))).setCell ⟨sb, 8, none⟩ (.int .i64 0))) := ⟨rfl, rfl, rfl, by simp [World.setCell], fun k hk => (Below.heap_setCell _ _ _ _ hk).trans (Below.heap_setCell _ _ _ _ hk)⟩
  have hrs : rb ≠ sb := fun e => hnsr e.symm
  have hbs : bb ≠ sb := fun e => hnsb e.symm
  have HRF : Hid (RdBlk (((w2.drewN nq).setCell ⟨sb, 6, none⟩ (.int .i64 ((en : Int) + (k : Int)))).setCell ⟨sb, 8, none⟩ (.int .i64 0)) rb t ((e + k : Nat) : Int) (-1)) := by
    have h := HRD2.out.same (HOF.out.block rb hrs)
    exact h
  have HB2 : Hid (Kept B w0 w2) := ⟨HO2.out.os.trans HC.out.bel.os, HO2.out.tape.trans HC.out.bel.tape, HO2.out.output.trans HC.out.bel.output, by rw [HO2.out.size]; exact HC.out.bel.size, fun j hj => (HO2.out.block j (by have := HBB.out.le; omega) (by have := HC.out.s.hr.le; omega)).trans (HC.out.bel.block j hj), (HO2.out.block _ (fun e => HBB.out.ne e.symm) (fun e => HC.out.s.hr.ne e.symm)).trans HC.out.bel.l, by rw [HO2.out.size]; exact HC.out.bel.lt⟩
  have hCE := HC.out.s.ce
  have hHE := HEN.out
  have HBY2 : Hid (Lib.Bytes (((w2.drewN nq).setCell ⟨sb, 6, none⟩ (.int .i64 ((en : Int) + (k : Int)))).setCell ⟨sb, 8, none⟩ (.int .i64 0)) bb st (t.extract c (e + k))) := by
    have h := HRW.out
    rw [hHE] at h
    exact bytes_same (splice_more HROW.out HBY.out hCE hke (by rw [HCL.out]; omega) h) (HOF.out.block bb hbs)
  have hlk : (Lib.byteCells ((t.data.toList.drop e).take k)).length = k := by rw [Lib.byteCells_length, List.length_take, List.length_drop, ← Lib.size_eq]; omega
  refine ⟨⟨rfl, rfl, rfl⟩, c, e + k, N, st, tk, _, .nilIface, 0, -1, sc, ⟨⟨?_, HRF.out, Or.inr ⟨HN0.out, bb, _, rfl, HBB.out, HRW.out.same (HOF.out.block bb hbs), ?_, HBY2.out⟩, by omega, hke, hn64, by omega, Or.inl rfl, HC.out.s.hs, HC.out.s.hr⟩, Or.inl rfl, HC.out.nw, HC.out.ls, HC.out.le, HOF.out.below HB2.out HC.out.s.hs⟩, ?_⟩
  · rw [show ((st + (e + k - c) : Nat) : Int) = (en : Int) + (k : Int) from by omega]
    exact HSF.out
  · rw [length_splice _ _ _ (by rw [hlk, HCL.out]; omega)]; exact HCL.out
  · rw [rdI_of HRF.out, erN_nil HSF.out]
    have := HM.out
    omega


end Go.Proofs.Qxb6612715aFmt
