/-
  Scan's loop, part 1: the last line is held, the reader is at its end.
-/
import Derived.Test.Qxb6612715aFmtMids
namespace Go.Proofs.Qxb6612715aFmt
open Go.RowKit

set_option maxRecDepth 100000 in
set_option maxHeartbeats 8000000 in
theorem seg1_last (w0 w : World) (B sb rb : Nat) (t : ByteArray) (aE aT : Addr) (c0 m c e N st : Nat) (tk bv : Value) (em pr : Int) (sc : Bool) (hcore : Core w0 w B sb rb t aE c0 c e N st tk bv (.iface 76 (.pointer (some aE))) em pr sc) (hnl : Lib.indexByte (t.extract c e).data.toList 10 = -1) (hlt : c < e)
    (Q0 : Exit → Act → World → Prop) (hret : ∀ a' w' b, Ret a' b → ScanPost w0 B sb rb t aE aT c0 b w' → Q0 .ret a' w') (a : Act) (hf : Frame sb a) :
    Code.wp Tryf.prog seg1 (Exit.then (fun a' w' => Frame sb a' ∧ M1 w0 B sb rb t aE c0 m w') Q0) a w := by
  have HC : Hid (Core w0 w B sb rb t aE c0 c e N st tk bv (.iface 76 (.pointer (some aE))) em pr sc) := hcore
  have HRET : Hid (∀ a' w' b, Ret a' b → ScanPost w0 B sb rb t aE aT c0 b w' → Q0 .ret a' w') := hret
  have nq36 := fun (w : World) (a : Option Addr) (n c : Nat) => run_neq_slice_nil_any (P := Tryf.prog) w 36 5 a n c 0 0 Tryf.underlying36
  have hfit := hcore.s.fit
  have hn64 := hcore.s.n64
  obtain ⟨en, hen⟩ : ∃ en : Nat, en = st + (e - c) := ⟨_, rfl⟩
  have hsb := hcore.s.sc'
  rw [← hen] at hsb hfit
  have HSB : Hid (ScBlk w sb (.iface 40 (.pointer (some ⟨rb, 0, none⟩))) tk bv (st : Int) (en : Int) (.iface 76 (.pointer (some aE))) em sc false) := hsb
  rcases hcore.s.buf with ⟨h1, _⟩ | ⟨hN0, bb, cur, rfl, hBb, hrow, hcl, hby⟩
  · exfalso; omega
  have hsl : st < en → ∀ W, (Instr.slice 36 (.slice (some ⟨bb, 0, none⟩) N N) (some (.int .i64 (st : Int))) (some (.int .i64 (en : Int))) none).run Tryf.prog W = .ok (.slice (some ⟨bb, st, none⟩) (en - st) (N - st)) W := fun hl W => by
    have h := Lib.run_slice_window (P := Tryf.prog) W 36 5 Tryf.underlying36 Tryf.sizeOf5 bb 0 N N st en hl hfit
    rw [Nat.zero_add] at h
    exact h
  have hdz : (t.extract c e).size = en - st := by rw [ByteArray.size_extract]; have := hcore.s.et; omega
  have HEN : Hid (en = st + (e - c)) := hen
  have hc1 := hsb.c1
  have hc3 := hsb.c3
  have hc4 := hsb.c4
  have hc5 := hsb.c5
  have hc6 := hsb.c6
  have hc7 := hsb.c7
  have hf3 := hsb.fz 3
  have hlt' : st < en := by omega
  have hdl : decide ((st : Int) < (en : Int)) = true := by simp; omega
  have hslw := hsl hlt'
  clear hsl
  obtain ⟨m', hsp⟩ := split_last bb st (N - st) (t.extract c e) w hby (by omega) (by omega) hnl (by omega)
  have HSP : Hid (∀ i, Calls Tryf.prog 22 #[.slice (some ⟨bb, st, none⟩) (en - st) (N - st), .bool true] (w.drewN i) fun e w' => e = .returned (.tuple #[.int .i64 ((en - st : Nat) : Int), .slice (some ⟨bb, st, none⟩) m' (N - st), .nilIface]) ∧ w' = w.drewN i) := by
    rw [hdz] at hsp
    exact hsp
  clear hsp
  have HAD : Hid (∀ W : World, W.os = w.os → W.tape = w.tape → W.output = w.output → W.heap = w.heap → Calls Tryf.prog 24 #[.pointer (some ⟨sb, 0, none⟩), .int .i64 (((en - st : Nat) : Int))] W fun e w' => e = .returned (.bool true) ∧ ScBlk w' sb (.iface 40 (.pointer (some ⟨rb, 0, none⟩))) tk (.slice (some ⟨bb, 0, none⟩) N N) ((st + (en - st) : Nat) : Int) (en : Int) (.iface 76 (.pointer (some aE))) em sc false ∧ Only sb w w') := by
    intro W k1 k2 k3 k4
    have h := advance_any (w := W) ((en - st)) (HSB.out.same (by rw [k4])) (by omega) (by omega) (by omega)
    have e1 : (((en - st) : Nat) : Int) = ((en - st : Nat) : Int) := by omega
    have e2 : (st : Int) + (((en - st) : Nat) : Int) = ((st + ((en - st)) : Nat) : Int) := by omega
    rw [e2, e1] at h
    exact h.mono fun _ _ ⟨g1, g2, g3⟩ => ⟨g1, g2, g3.os.trans k1, g3.tape.trans k2, g3.output.trans k3, by rw [g3.size, k4], fun k hk => by rw [g3.block k hk, k4]⟩
  have hq0 : decide ((0 : Int) < ((en - st : Nat) : Int)) = true := by simp; omega
  clear hcore hret hsb hby hrow hcl hen hfit hBb
  clear hnl

  refine frame_elim (C := fun a => Code.wp Tryf.prog seg1 (Exit.then (fun a' w' => Frame sb a' ∧ M1 w0 B sb rb t aE c0 m w') Q0) a w) hf ?_
  intro u1 u2 u3 u4 u5 u6 u7 u8 u9 u10 u11 u12 u13 u14 u15 u16 u17 u18 u19 u20 u21 u22 u23 u24 u25 u26 u27 u28 u29 u30 u31 u32 u33 u34 u35 u36 u37 u38 u39 u40 u41 u42 u43 u44 u45 u46 u47 u48 u49 u50 u51 u52 u53 u54 u55 u56 u57 u58 u59 u60 u61 u62 u63 u64 u65 u66 u67 u68 u69 u70 u71 u72 u73 u74 u75 u76 u77 u78 u79 u80 u81 u82 u83 u84 u85 u86 u87 u88 u89 u90 u91 u92 u93 u94 u95 u96 u97 u98 u99 u100 u101 u102 u103 u104 u105 u106 u107 u108 u109 u110 u111 u112 u113 u114 u115 u116 u117 u118 u119 u120 u121 u122 u123 u124 u125 u126 u127 u128 u129 u130 u131 u132 u133 u134 u135 u136 u137 u138 u139 u140 u141 u142 u143 u144 u145 u146 u147 u148 u149 u150 u151 u152 u153 u154 u155 u156 u157 u158 u159 u160 u161 u162 u163 u164 u165 u166 u167 u168 u169 u170 u171 u172 u173 u174 u175 u176 u177 u178 u179 u180 u181 u182 u183 u184 u185 u186 u187 u188 u189 u190 u191 u192 u193 u194 u195 u196 u197 u198 u199 u200 u201 u202 u203 u204 u205 u206 u207 u208 u209 u210 u211 u212 u213 u214 u215 u216 u217 u218 u219 u220 u221 u222 u223 u224 u225 u226 u227 u228 u229 u230 u231 u232 u233 u234 u235 u236 u237 u238 u239 u240 u241 u242 u243 u244 u245 u246 u247 u248 u249 u250 u251 u252 u253 u254 u255 u256 u257 u258 u259 u260 u261 u262 u263 u264 u265 u266 u267 u268 u269 u270 u271 u272 u273 u274 u275 u276 u277 u278 u279 u280 u281 u282 u283 u284 u285 u286 u287 u288 u289 u290 u291 u292 u293 u294 u295 u296 u297 u298 u299 u300 u301 u302 u303 u304 u305 u306 u307 u308 u309 u310 u311 u312 u313 u314 u315 u316 u317 u318 u319 u320 u321 u322 u323 u324 u325 u326 u327 u328 u329 u330 u331 u332 u333
  clear hf
  conv => arg 2; whnf
  go_wp2_with fail
  go_quiet (fail)
  go_wp2_with fail
  go_quiet (exact (HSP.out _).mono fun _ _ h => ⟨h.1, _, h.2⟩)
  go_wp2_with (go_at_call 24
               refine Calls.mono (HAD.out _ rfl rfl rfl rfl) ?_
               rintro e1 w1 ⟨rfl, hs1, ho1⟩
               have HS1 : Hid (ScBlk w1 sb (.iface 40 (.pointer (some ⟨rb, 0, none⟩))) tk (.slice (some ⟨bb, 0, none⟩) N N) ((st + (en - st) : Nat) : Int) (en : Int) (.iface 76 (.pointer (some aE))) em sc false) := hs1
               have HO1 : Hid (Only sb w w1) := ho1
               have hd3 := hs1.c3
               have hg3 := hs1.fz 3
               have hd7 := hs1.c7
               have hd8 := hs1.c8
               have hg8 := hs1.fz 8
               clear hs1 ho1)
  have HSF : Hid (ScBlk ((w1.setCell ⟨sb, 3, none⟩ (.slice (some ⟨bb, st, none⟩) m' (N - st))).setCell ⟨sb, 8, none⟩ (.int .i64 0)) sb (.iface 40 (.pointer (some ⟨rb, 0, none⟩))) (.slice (some ⟨bb, st, none⟩) m' (N - st)) (.slice (some ⟨bb, 0, none⟩) N N) ((st + (en - st) : Nat) : Int) (en : Int) (.iface 76 (.pointer (some aE))) 0 sc false) := (HS1.out.set3 _).set8 _
  have HOF : Hid (Only sb w ((w1.setCell ⟨sb, 3, none⟩ (.slice (some ⟨bb, st, none⟩) m' (N - st))).setCell ⟨sb, 8, none⟩ (.int .i64 0))) := (HO1.out.trans (only_set _ _ _ _)).trans (only_set _ _ _ _)
  have hL : t.data.toList.length = t.size := (Lib.size_eq t).symm
  have hET : e = t.size := by
    rcases HC.out.x with h | ⟨_, h⟩
    · cases h
    · exact h
  have hES : st + (e - c) < N := by
    rcases HC.out.s.eof with h | h
    · cases h
    · exact h
  have hNW : NoWin t.data.toList e := by
    have h := HC.out.nw.last HC.out.ls (by omega)
    rw [hL, ← hET] at h
    exact h
  refine HRET.out _ _ true ⟨rfl, rfl⟩ (Or.inl ⟨rfl, e, e, N, st + (en - st), _, _, _, 0, pr, sc, ⟨HC.out.s.turn (c' := e) (st' := st + (en - st)) (by have h := HSF.out; rw [show (en : Int) = ((st + (en - st) + (e - e) : Nat) : Int) from by omega] at h; exact h) HOF.out (by omega) (by omega) (by have := HEN.out; omega) (Or.inr hES), HC.out.x, hNW, Or.inr (Or.inr (by omega)), by have := HC.out.le; omega, HOF.out.below HC.out.bel HC.out.s.hs⟩⟩)


end Go.Proofs.Qxb6612715aFmt
