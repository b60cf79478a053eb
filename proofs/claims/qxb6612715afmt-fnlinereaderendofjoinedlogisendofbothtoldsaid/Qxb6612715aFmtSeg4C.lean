/-
  Scan's loop, part 4, the buffer grows.
-/
import Derived.Test.Qxb6612715aFmtSegs
import Derived.OwnWalk
namespace Go.Proofs.Qxb6612715aFmt
open Go.RowKit

set_option maxRecDepth 100000 in
set_option maxHeartbeats 8000000 in
theorem seg4_grow (w0 w : World) (B sb rb : Nat) (t : ByteArray) (aE aT : Addr) (c0 m c e N st : Nat) (tk bv : Value) (em pr : Int) (sc : Bool) (hcore : Core w0 w B sb rb t aE c0 c e N st tk bv .nilIface em pr sc) (hm : t.size - e + 1 = m) (hst : st = 0) (hfull : st + (e - c) = N) (hN0 : 0 < N) (hlt : N < 65536) (N2 : Nat) (hN2 : N2 = min (2 * N) 65536)
    (Q0 : Exit → Act → World → Prop) (hret : ∀ a' w' b, Ret a' b → ScanPost w0 B sb rb t aE aT c0 b w' → Q0 .ret a' w') (a : Act) (hf : Frame sb a) :
    Code.wp Tryf.prog seg4 (Exit.then (fun a' w' => Frame sb a' ∧ M4 w0 B sb rb t aE c0 m w') Q0) a w := by
  have HC : Hid (Core w0 w B sb rb t aE c0 c e N st tk bv .nilIface em pr sc) := hcore
  have HRET : Hid (∀ a' w' b, Ret a' b → ScanPost w0 B sb rb t aE aT c0 b w' → Q0 .ret a' w') := hret
  have hn64 := hcore.s.n64
  have HM : Hid (t.size - e + 1 = m) := hm
  have hsb := hcore.s.sc'
  subst hst
  rw [hfull] at hsb
  rcases hcore.s.buf with ⟨h1, _⟩ | ⟨_, bb, cur, rfl, hBb, hrow, hcl, hby⟩
  · exfalso; omega
  obtain ⟨sp, hsp, hslw0⟩ := slice_held bb N 0 N (Nat.zero_le _) (Nat.le_refl _)
  have hslw : ∀ W, (Instr.slice 36 (.slice (some ⟨bb, 0, none⟩) N N) (some (.int .i64 0)) (some (.int .i64 (N : Int))) none).run Tryf.prog W = .ok (.slice sp N N) W := fun W => by have h := hslw0 W; rw [Nat.sub_zero] at h; exact h
  have HSP : Hid (0 < N → sp = some ⟨bb, 0, none⟩) := hsp
  have HBY : Hid (Lib.Bytes w bb 0 (t.extract c e)) := hby
  have HROW : Hid (Row w bb cur) := hrow
  have HBB : Hid (Free B bb) := hBb
  have hd1 : ((N : Int) == (N : Int)) = true := by rw [beq_iff_eq]
  have hd2 : decide ((65536 : Int) ≤ (N : Int)) = false := by apply decide_eq_false; omega
  have hd2' : decide (65536 ≤ N) = false := by apply decide_eq_false; omega
  have hd3 : decide ((4611686018427387903 : Int) < (N : Int)) = false := by apply decide_eq_false; omega
  have hd3' : decide (4611686018427387903 < N) = false := by apply decide_eq_false; omega
  have hwr2 : wrap64 ((N : Int) * 2) = (N : Int) * 2 := by unfold wrap64; omega
  have hz2' : ((N : Int) * 2 == 0) = false := by rw [beq_eq_false_iff_ne]; omega
  have HN2 : Hid (min ((N : Int) * 2) 65536 = (N2 : Int)) := by show _ = _; omega
  have hNN : N < N2 := by omega
  have hN3 : N2 ≤ 65536 := by omega
  clear hsp hby hrow hBb hcl hN2 hslw0
  have HSB : Hid (ScBlk w sb (.iface 40 (.pointer (some ⟨rb, 0, none⟩))) tk (.slice (some ⟨bb, 0, none⟩) N N) ((0 : Nat) : Int) (N : Int) .nilIface em sc false) := hsb
  have hc2 := hsb.c2
  have hc4 := hsb.c4
  have hc5 := hsb.c5
  have hc6 := hsb.c6
  have hf4 := hsb.fz 4
  have hf5 := hsb.fz 5
  have hf6 := hsb.fz 6
  obtain ⟨i5, hi5, hz0, hz1, hz2⟩ := info_parts Tryf.info5
  have hdz : (t.extract c e).size = N := by rw [ByteArray.size_extract]; have := hcore.s.et; omega
  have hcz : (Lib.byteCells (t.extract c e).data.toList).length = N := by rw [byteCells_size, hdz]
  have HFULL : Hid (e - c = N) := by show e - c = N; omega
  clear hcore hret hsb hfull hm

  refine frame_elim (C := fun a => Code.wp Tryf.prog seg4 (Exit.then (fun a' w' => Frame sb a' ∧ M4 w0 B sb rb t aE c0 m w') Q0) a w) hf ?_
  intro u1 u2 u3 u4 u5 u6 u7 u8 u9 u10 u11 u12 u13 u14 u15 u16 u17 u18 u19 u20 u21 u22 u23 u24 u25 u26 u27 u28 u29 u30 u31 u32 u33 u34 u35 u36 u37 u38 u39 u40 u41 u42 u43 u44 u45 u46 u47 u48 u49 u50 u51 u52 u53 u54 u55 u56 u57 u58 u59 u60 u61 u62 u63 u64 u65 u66 u67 u68 u69 u70 u71 u72 u73 u74 u75 u76 u77 u78 u79 u80 u81 u82 u83 u84 u85 u86 u87 u88 u89 u90 u91 u92 u93 u94 u95 u96 u97 u98 u99 u100 u101 u102 u103 u104 u105 u106 u107 u108 u109 u110 u111 u112 u113 u114 u115 u116 u117 u118 u119 u120 u121 u122 u123 u124 u125 u126 u127 u128 u129 u130 u131 u132 u133 u134 u135 u136 u137 u138 u139 u140 u141 u142 u143 u144 u145 u146 u147 u148 u149 u150 u151 u152 u153 u154 u155 u156 u157 u158 u159 u160 u161 u162 u163 u164 u165 u166 u167 u168 u169 u170 u171 u172 u173 u174 u175 u176 u177 u178 u179 u180 u181 u182 u183 u184 u185 u186 u187 u188 u189 u190 u191 u192 u193 u194 u195 u196 u197 u198 u199 u200 u201 u202 u203 u204 u205 u206 u207 u208 u209 u210 u211 u212 u213 u214 u215 u216 u217 u218 u219 u220 u221 u222 u223 u224 u225 u226 u227 u228 u229 u230 u231 u232 u233 u234 u235 u236 u237 u238 u239 u240 u241 u242 u243 u244 u245 u246 u247 u248 u249 u250 u251 u252 u253 u254 u255 u256 u257 u258 u259 u260 u261 u262 u263 u264 u265 u266 u267 u268 u269 u270 u271 u272 u273 u274 u275 u276 u277 u278 u279 u280 u281 u282 u283 u284 u285 u286 u287 u288 u289 u290 u291 u292 u293 u294 u295 u296 u297 u298 u299 u300 u301 u302 u303 u304 u305 u306 u307 u308 u309 u310 u311 u312 u313 u314 u315 u316 u317 u318 u319 u320 u321 u322 u323 u324 u325 u326 u327 u328 u329 u330 u331 u332 u333
  clear hf
  conv => arg 2; whnf
  go_wp2_with fail
  go_quiet (fail)
  go_wp2_with fail
  go_quiet (fail)
  go_wp2_with (at_make
               refine wpList_make_full _ rfl _ _ 36 rfl w.heap.size 5 i5 (.int .u8 0) 1 Tryf.underlying36 hi5 hz0 hz1 .i64 .i64 _ _ N2 rfl rfl HN2.out HN2.out (by rw [hz2]; omega) (by unfold maxLen; omega) (Nat.le_refl _) ?_
               intro w3 hown hgrow
               have HG3 : Hid (w.grownBy w3 none) := ⟨hgrow.os, hgrow.tape, hgrow.output, hgrow.size, hgrow.block⟩
               obtain ⟨ncur, hncl, hnrow⟩ := own_block hown
               have HNR : Hid (Row w3 w.heap.size ncur) := hnrow
               have HNC : Hid (ncur.length = N2) := hncl
               have HS3 : Hid (ScBlk w3 sb (.iface 40 (.pointer (some ⟨rb, 0, none⟩))) tk (.slice (some ⟨bb, 0, none⟩) N N) ((0 : Nat) : Int) (N : Int) .nilIface em sc false) := HSB.out.same (hgrow.block sb HSB.out.lt (fun e => by cases e))
               have he4 := HS3.out.c4
               have he5 := HS3.out.c5
               have he6 := HS3.out.c6
               have hg4 := HS3.out.fz 4
               have hg5 := HS3.out.fz 5
               have hg6 := HS3.out.fz 6
               clear hgrow hown hncl hnrow)
  have HLT : Hid (sb < w.heap.size) := HSB.out.lt
  clear hc2 hc4 hc5 hc6 hf4 hf5 hf6
  refine still_tail 14 (by kernel_rfl) (by kernel_rfl) ?_
  simp only [List.take_succ_cons, List.take_zero, List.drop_succ_cons, List.drop_zero]
  repeat still_step
  refine wpStill_nil ?_
  refine wpList_copy_only rfl (.tmp 233) (.tmp 246) 36 36 rfl 5 Tryf.underlying36 Tryf.size5 (some ⟨w.heap.size, 0, none⟩) sp N2 N2 N N rfl rfl w.heap.size 0 ncur 5 HNR.out (Lib.byteCells (t.extract c e).data.toList) (by rw [hcz]; exact (Nat.min_eq_left (by omega)).symm) (fun h0 => ⟨rfl, _, HSP.out hN0, fun j v hj => by have h := bytes_cells HBY.out j v hj; rw [Addr.add_lit] at h ⊢; rw [← h]; exact World.cell?_of_block (a := ⟨bb, 0 + j, none⟩) (HG3.out.block bb HROW.out.lt (fun e => by cases e))⟩) (by rw [hcz, HNC.out]; omega) (Lib.byteCells_one _) ?_
  intro w4 hrow4 honly4
  have HO4 : Hid (Only w.heap.size w3 w4) := ⟨honly4.out.os, honly4.out.tape, honly4.out.output, honly4.out.size, honly4.out.block⟩
  have HS4 : Hid (ScBlk w4 sb (.iface 40 (.pointer (some ⟨rb, 0, none⟩))) tk (.slice (some ⟨bb, 0, none⟩) N N) ((0 : Nat) : Int) (N : Int) .nilIface em sc false) := HS3.out.same (HO4.out.block sb (by have := HLT.out; omega))
  have hh4 := HS4.out.c4
  have hh5 := HS4.out.c5
  have hh6 := HS4.out.c6
  have hi4 := HS4.out.fz 4
  have hi5' := HS4.out.fz 5
  have hi6 := HS4.out.fz 6
  clear honly4 he4 he5 he6 hg4 hg5 hg6
  go_wp2_with fail
  refine still_tail 11 (by kernel_rfl) (by kernel_rfl) ?_
  simp only [List.take_succ_cons, List.take_zero, List.drop_succ_cons, List.drop_zero]
  repeat still_step
  refine wpStill_nil ?_
  go_wp2
  have HSF : Hid (ScBlk (((w4.setCell ⟨sb, 4, none⟩ (.slice (some ⟨w.heap.size, 0, none⟩) N2 N2)).setCell ⟨sb, 6, none⟩ (.int .i64 ((N : Int)))).setCell ⟨sb, 5, none⟩ (.int .i64 0)).drew sb (.iface 40 (.pointer (some ⟨rb, 0, none⟩))) tk (.slice (some ⟨w.heap.size, 0, none⟩) N2 N2) 0 ((N : Int)) .nilIface em sc false) := (((HS4.out.set4 _).set6 _).set5 0).same rfl
  have HOF : Hid (Only sb w4 (((w4.setCell ⟨sb, 4, none⟩ (.slice (some ⟨w.heap.size, 0, none⟩) N2 N2)).setCell ⟨sb, 6, none⟩ (.int .i64 ((N : Int)))).setCell ⟨sb, 5, none⟩ (.int .i64 0)).drew) := only_drew (((only_set _ _ _ _).trans (only_set _ _ _ _)).trans (only_set _ _ _ _))
  have HRW : Hid (Row w4 w.heap.size (splice ncur 0 (Lib.byteCells (t.extract c e).data.toList))) := hrow4.out
  have hBs := HC.out.s.hs.le
  have hBl := HC.out.bel.lt
  have hls := HLT.out
  have hrl := HC.out.s.rd.lt
  have HBF : Hid (Kept B w0 (((w4.setCell ⟨sb, 4, none⟩ (.slice (some ⟨w.heap.size, 0, none⟩) N2 N2)).setCell ⟨sb, 6, none⟩ (.int .i64 ((N : Int)))).setCell ⟨sb, 5, none⟩ (.int .i64 0)).drew) := HOF.out.below (HO4.out.below (HC.out.bel.grown HG3.out) ⟨by omega, by omega⟩) HC.out.s.hs
  have hHF := HFULL.out
  refine ⟨⟨rfl, rfl, rfl⟩, c, e, N2, 0, tk, _, em, pr, sc, ⟨⟨?_, ?_, Or.inr ⟨by omega, w.heap.size, splice ncur 0 (Lib.byteCells (t.extract c e).data.toList), rfl, ⟨by omega, by omega⟩, HRW.out.same (HOF.out.block w.heap.size (by omega)), ?_, bytes_same (splice_bytes HRW.out (Nat.zero_le _)) (HOF.out.block w.heap.size (by omega))⟩, HC.out.s.ce, HC.out.s.et, by omega, by omega, Or.inl rfl, HC.out.s.hs, HC.out.s.hr⟩, HC.out.x, HC.out.nw, HC.out.ls, HC.out.le, HBF.out⟩, HM.out, by omega⟩
  · rw [show 0 + (e - c) = N from by omega]
    exact HSF.out
  · exact ((HC.out.s.rd.same (HG3.out.block rb hrl (fun e => by cases e))).same (HO4.out.block rb (by omega))).same (HOF.out.block rb (fun e => sc_ne_rd HC.out.s.sc' HC.out.s.rd e.symm))
  · rw [length_splice _ _ _ (by rw [hcz, HNC.out]; omega)]; exact HNC.out


end Go.Proofs.Qxb6612715aFmt
