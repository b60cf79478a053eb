/-
  Scan's loop, part 3, what is held is shifted (the buffer's end is reached).
-/
import Derived.Test.Qxb6612715aFmtSegs
import Derived.OwnWalk
namespace Go.Proofs.Qxb6612715aFmt
open Go.RowKit

set_option maxRecDepth 100000 in
set_option maxHeartbeats 8000000 in
theorem seg3_full (w0 w : World) (B sb rb : Nat) (t : ByteArray) (aE aT : Addr) (c0 m c e N st : Nat) (tk bv : Value) (em pr : Int) (sc : Bool) (hcore : Core w0 w B sb rb t aE c0 c e N st tk bv .nilIface em pr sc) (hnl : NoLF t c e) (hm : t.size - e + 1 = m) (hst : 0 < st) (hfull : st + (e - c) = N)
    (Q0 : Exit → Act → World → Prop) (hret : ∀ a' w' b, Ret a' b → ScanPost w0 B sb rb t aE aT c0 b w' → Q0 .ret a' w') (a : Act) (hf : Frame sb a) :
    Code.wp Tryf.prog seg3 (Exit.then (fun a' w' => Frame sb a' ∧ M3 w0 B sb rb t aE c0 m w') Q0) a w := by
  have HC : Hid (Core w0 w B sb rb t aE c0 c e N st tk bv .nilIface em pr sc) := hcore
  have HRET : Hid (∀ a' w' b, Ret a' b → ScanPost w0 B sb rb t aE aT c0 b w' → Q0 .ret a' w') := hret
  have hfit := hcore.s.fit
  have hn64 := hcore.s.n64
  obtain ⟨en, hen⟩ : ∃ en : Nat, en = st + (e - c) := ⟨_, rfl⟩
  have hsb := hcore.s.sc'
  rw [← hen] at hsb hfit
  have HSB : Hid (ScBlk w sb (.iface 40 (.pointer (some ⟨rb, 0, none⟩))) tk bv (st : Int) (en : Int) .nilIface em sc false) := hsb
  have HEN : Hid (en = st + (e - c)) := hen
  have hc4 := hsb.c4
  have hc5 := hsb.c5
  have hc6 := hsb.c6
  rcases hcore.s.buf with ⟨h1, _⟩ | ⟨hN0, bb, cur, rfl, hBb, hrow, hcl, hby⟩
  · exfalso; omega
  have HNL : Hid (NoLF t c e) := hnl
  have HM : Hid (t.size - e + 1 = m) := hm
  have hd0 : decide ((0 : Int) < (st : Int)) = true := by apply decide_eq_true; omega
  have hd0' : decide (0 < st) = true := by apply decide_eq_true; omega
  have hd1 : ((en : Int) == (N : Int)) = true := by rw [beq_iff_eq]; omega
  clear hfull
  have hwr : wrap64 ((en : Int) - (st : Int)) = ((en - st : Nat) : Int) := by unfold wrap64; omega
  obtain ⟨sp, hsp, hslw⟩ := slice_held bb N st en (by omega) hfit
  have hdz : (t.extract c e).size = en - st := by rw [ByteArray.size_extract]; have := hcore.s.et; omega
  have hcz : (Lib.byteCells (t.extract c e).data.toList).length = en - st := by rw [byteCells_size, hdz]
  have HROW : Hid (Row w bb cur) := hrow
  have HCL : Hid (cur.length = N) := hcl
  have HBB : Hid (Free B bb) := hBb
  have HN0 : Hid (0 < N) := hN0
  have hnsb : sb ≠ bb := sc_ne_row hsb hrow
  have hnrb : rb ≠ bb := rd_ne_row hcore.s.rd hrow
  have HPOS : Hid (∀ W : World, W.heap = w.heap → 0 < (Lib.byteCells (t.extract c e).data.toList).length → ∃ ad, sp = some ad ∧ ∀ j v, (Lib.byteCells (t.extract c e).data.toList)[j]? = some v → W.cell? (ad.add j) = some v) := by
    intro W hW h0
    refine ⟨_, hsp (by omega), fun j v hj => ?_⟩
    rw [← bytes_cells hby j v hj]
    unfold World.cell?
    rw [hW]
  clear hcore hret hnl hm hsb hen hst hBb hrow hcl hby hsp

  refine frame_elim (C := fun a => Code.wp Tryf.prog seg3 (Exit.then (fun a' w' => Frame sb a' ∧ M3 w0 B sb rb t aE c0 m w') Q0) a w) hf ?_
  intro u1 u2 u3 u4 u5 u6 u7 u8 u9 u10 u11 u12 u13 u14 u15 u16 u17 u18 u19 u20 u21 u22 u23 u24 u25 u26 u27 u28 u29 u30 u31 u32 u33 u34 u35 u36 u37 u38 u39 u40 u41 u42 u43 u44 u45 u46 u47 u48 u49 u50 u51 u52 u53 u54 u55 u56 u57 u58 u59 u60 u61 u62 u63 u64 u65 u66 u67 u68 u69 u70 u71 u72 u73 u74 u75 u76 u77 u78 u79 u80 u81 u82 u83 u84 u85 u86 u87 u88 u89 u90 u91 u92 u93 u94 u95 u96 u97 u98 u99 u100 u101 u102 u103 u104 u105 u106 u107 u108 u109 u110 u111 u112 u113 u114 u115 u116 u117 u118 u119 u120 u121 u122 u123 u124 u125 u126 u127 u128 u129 u130 u131 u132 u133 u134 u135 u136 u137 u138 u139 u140 u141 u142 u143 u144 u145 u146 u147 u148 u149 u150 u151 u152 u153 u154 u155 u156 u157 u158 u159 u160 u161 u162 u163 u164 u165 u166 u167 u168 u169 u170 u171 u172 u173 u174 u175 u176 u177 u178 u179 u180 u181 u182 u183 u184 u185 u186 u187 u188 u189 u190 u191 u192 u193 u194 u195 u196 u197 u198 u199 u200 u201 u202 u203 u204 u205 u206 u207 u208 u209 u210 u211 u212 u213 u214 u215 u216 u217 u218 u219 u220 u221 u222 u223 u224 u225 u226 u227 u228 u229 u230 u231 u232 u233 u234 u235 u236 u237 u238 u239 u240 u241 u242 u243 u244 u245 u246 u247 u248 u249 u250 u251 u252 u253 u254 u255 u256 u257 u258 u259 u260 u261 u262 u263 u264 u265 u266 u267 u268 u269 u270 u271 u272 u273 u274 u275 u276 u277 u278 u279 u280 u281 u282 u283 u284 u285 u286 u287 u288 u289 u290 u291 u292 u293 u294 u295 u296 u297 u298 u299 u300 u301 u302 u303 u304 u305 u306 u307 u308 u309 u310 u311 u312 u313 u314 u315 u316 u317 u318 u319 u320 u321 u322 u323 u324 u325 u326 u327 u328 u329 u330 u331 u332 u333
  clear hf
  conv => arg 2; whnf
  go_wp2_with fail
  go_quiet (fail)
  go_wp2_with fail
  refine still_tail 17 (by kernel_rfl) (by kernel_rfl) ?_
  simp only [List.take_succ_cons, List.take_zero, List.drop_succ_cons, List.drop_zero]
  repeat still_step
  refine wpStill_nil ?_
  refine wpList_copy_only rfl (.tmp 157) (.tmp 170) 36 36 rfl 5 Tryf.underlying36 Tryf.size5 (some ⟨bb, 0, none⟩) sp N N (en - st) (N - st) rfl rfl bb 0 cur 5 HROW.out (Lib.byteCells (t.extract c e).data.toList) (by rw [hcz]; exact (Nat.min_eq_left (by omega)).symm) (fun h0 => ⟨rfl, HPOS.out _ rfl h0⟩) (by rw [hcz, HCL.out]; omega) (Lib.byteCells_one _) ?_
  intro w2 hrow2 honly2
  have HO2 : Hid (Only bb w w2) := ⟨honly2.out.os, honly2.out.tape, honly2.out.output, honly2.out.size, honly2.out.block⟩
  have HS2 : Hid (ScBlk w2 sb (.iface 40 (.pointer (some ⟨rb, 0, none⟩))) tk (.slice (some ⟨bb, 0, none⟩) N N) (st : Int) (en : Int) .nilIface em sc false) := HSB.out.same (HO2.out.block sb hnsb)
  have he5 := HS2.out.c5
  have he6 := HS2.out.c6
  have hg5 := HS2.out.fz 5
  have hg6 := HS2.out.fz 6
  clear honly2
  go_wp2_with fail
  refine still_tail 11 (by kernel_rfl) (by kernel_rfl) ?_
  simp only [List.take_succ_cons, List.take_zero, List.drop_succ_cons, List.drop_zero]
  repeat still_step
  refine wpStill_nil ?_
  go_wp2
  have HSF : Hid (ScBlk ((w2.setCell ⟨sb, 6, none⟩ (.int .i64 ((en - st : Nat) : Int))).setCell ⟨sb, 5, none⟩ (.int .i64 0)).drew sb (.iface 40 (.pointer (some ⟨rb, 0, none⟩))) tk (.slice (some ⟨bb, 0, none⟩) N N) 0 ((en - st : Nat) : Int) .nilIface em sc false) := ((HS2.out.set6 _).set5 0).same rfl
  have HOF : Hid (Only sb w2 ((w2.setCell ⟨sb, 6, none⟩ (.int .i64 ((en - st : Nat) : Int))).setCell ⟨sb, 5, none⟩ (.int .i64 0)).drew) := only_drew ((only_set _ _ _ _).trans (only_set _ _ _ _))
  have HRW : Hid (Row w2 bb (splice cur 0 (Lib.byteCells (t.extract c e).data.toList))) := hrow2.out
  have HBF : Hid (Kept B w0 ((w2.setCell ⟨sb, 6, none⟩ (.int .i64 ((en - st : Nat) : Int))).setCell ⟨sb, 5, none⟩ (.int .i64 0)).drew) := HOF.out.below (HO2.out.below HC.out.bel HBB.out) HC.out.s.hs
  refine ⟨⟨rfl, rfl, rfl⟩, c, e, N, 0, tk, _, em, pr, sc, ⟨⟨?_, ?_, Or.inr ⟨HN0.out, bb, splice cur 0 (Lib.byteCells (t.extract c e).data.toList), rfl, HBB.out, HRW.out.same (HOF.out.block bb (fun e => hnsb e.symm)), ?_, bytes_same (splice_bytes HRW.out (Nat.zero_le _)) (HOF.out.block bb (fun e => hnsb e.symm))⟩, HC.out.s.ce, HC.out.s.et, hn64, by have := HEN.out; omega, Or.inl rfl, HC.out.s.hs, HC.out.s.hr⟩, HC.out.x, HC.out.nw, HC.out.ls, HC.out.le, HBF.out⟩, HNL.out, HM.out, Or.inl rfl⟩
  · rw [show 0 + (e - c) = en - st from by have := HEN.out; omega]
    exact HSF.out
  · exact (HC.out.s.rd.same (HO2.out.block rb hnrb)).same (HOF.out.block rb (fun e => sc_ne_rd HC.out.s.sc' HC.out.s.rd e.symm))
  · rw [length_splice _ _ _ (by rw [hcz, HCL.out]; omega)]; exact HCL.out


end Go.Proofs.Qxb6612715aFmt
