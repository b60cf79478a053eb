/-
  Scan's loop, part 2.
-/
import Derived.Test.Qxb6612715aFmtSegs
import Derived.OwnWalk
namespace Go.Proofs.Qxb6612715aFmt
open Go.RowKit

set_option maxRecDepth 100000 in
set_option maxHeartbeats 8000000 in
theorem seg2_nil (w0 w : World) (B sb rb : Nat) (t : ByteArray) (aE aT : Addr) (c0 m c e N st : Nat) (tk bv : Value) (em pr : Int) (sc : Bool) (hcore : Core w0 w B sb rb t aE c0 c e N st tk bv .nilIface em pr sc) (hnl : NoLF t c e) (hm : t.size - e + 1 = m)
    (Q0 : Exit → Act → World → Prop) (hret : ∀ a' w' b, Ret a' b → ScanPost w0 B sb rb t aE aT c0 b w' → Q0 .ret a' w') (a : Act) (hf : Frame sb a) :
    Code.wp Tryf.prog seg2 (Exit.then (fun a' w' => Frame sb a' ∧ M2 w0 B sb rb t aE c0 m w') Q0) a w := by
  have HC : Hid (Core w0 w B sb rb t aE c0 c e N st tk bv .nilIface em pr sc) := hcore
  have HRET : Hid (∀ a' w' b, Ret a' b → ScanPost w0 B sb rb t aE aT c0 b w' → Q0 .ret a' w') := hret
  have hc7 := hcore.s.sc'.c7
  have HNL : Hid (NoLF t c e) := hnl
  have HM : Hid (t.size - e + 1 = m) := hm
  clear hcore hret hnl hm

  refine frame_elim (C := fun a => Code.wp Tryf.prog seg2 (Exit.then (fun a' w' => Frame sb a' ∧ M2 w0 B sb rb t aE c0 m w') Q0) a w) hf ?_
  intro u1 u2 u3 u4 u5 u6 u7 u8 u9 u10 u11 u12 u13 u14 u15 u16 u17 u18 u19 u20 u21 u22 u23 u24 u25 u26 u27 u28 u29 u30 u31 u32 u33 u34 u35 u36 u37 u38 u39 u40 u41 u42 u43 u44 u45 u46 u47 u48 u49 u50 u51 u52 u53 u54 u55 u56 u57 u58 u59 u60 u61 u62 u63 u64 u65 u66 u67 u68 u69 u70 u71 u72 u73 u74 u75 u76 u77 u78 u79 u80 u81 u82 u83 u84 u85 u86 u87 u88 u89 u90 u91 u92 u93 u94 u95 u96 u97 u98 u99 u100 u101 u102 u103 u104 u105 u106 u107 u108 u109 u110 u111 u112 u113 u114 u115 u116 u117 u118 u119 u120 u121 u122 u123 u124 u125 u126 u127 u128 u129 u130 u131 u132 u133 u134 u135 u136 u137 u138 u139 u140 u141 u142 u143 u144 u145 u146 u147 u148 u149 u150 u151 u152 u153 u154 u155 u156 u157 u158 u159 u160 u161 u162 u163 u164 u165 u166 u167 u168 u169 u170 u171 u172 u173 u174 u175 u176 u177 u178 u179 u180 u181 u182 u183 u184 u185 u186 u187 u188 u189 u190 u191 u192 u193 u194 u195 u196 u197 u198 u199 u200 u201 u202 u203 u204 u205 u206 u207 u208 u209 u210 u211 u212 u213 u214 u215 u216 u217 u218 u219 u220 u221 u222 u223 u224 u225 u226 u227 u228 u229 u230 u231 u232 u233 u234 u235 u236 u237 u238 u239 u240 u241 u242 u243 u244 u245 u246 u247 u248 u249 u250 u251 u252 u253 u254 u255 u256 u257 u258 u259 u260 u261 u262 u263 u264 u265 u266 u267 u268 u269 u270 u271 u272 u273 u274 u275 u276 u277 u278 u279 u280 u281 u282 u283 u284 u285 u286 u287 u288 u289 u290 u291 u292 u293 u294 u295 u296 u297 u298 u299 u300 u301 u302 u303 u304 u305 u306 u307 u308 u309 u310 u311 u312 u313 u314 u315 u316 u317 u318 u319 u320 u321 u322 u323 u324 u325 u326 u327 u328 u329 u330 u331 u332 u333
  clear hf
  conv => arg 2; whnf
  go_wp2
  exact ⟨⟨rfl, rfl, rfl⟩, c, e, N, st, _, _, em, pr, sc, HC.out, HNL.out, HM.out⟩


set_option maxRecDepth 100000 in
set_option maxHeartbeats 8000000 in
theorem seg2_eof (w0 w : World) (B sb rb : Nat) (t : ByteArray) (aE aT : Addr) (c0 m c e N st : Nat) (tk bv : Value) (em pr : Int) (sc : Bool) (hcore : Core w0 w B sb rb t aE c0 c e N st tk bv (.iface 76 (.pointer (some aE))) em pr sc) (hce : c = e)
    (Q0 : Exit → Act → World → Prop) (hret : ∀ a' w' b, Ret a' b → ScanPost w0 B sb rb t aE aT c0 b w' → Q0 .ret a' w') (a : Act) (hf : Frame sb a) :
    Code.wp Tryf.prog seg2 (Exit.then (fun a' w' => Frame sb a' ∧ M2 w0 B sb rb t aE c0 m w') Q0) a w := by
  have HC : Hid (Core w0 w B sb rb t aE c0 c e N st tk bv (.iface 76 (.pointer (some aE))) em pr sc) := hcore
  have HRET : Hid (∀ a' w' b, Ret a' b → ScanPost w0 B sb rb t aE aT c0 b w' → Q0 .ret a' w') := hret
  have hsb := hcore.s.sc'
  have HSB : Hid (ScBlk w sb (.iface 40 (.pointer (some ⟨rb, 0, none⟩))) tk bv (st : Int) ((st + (e - c) : Nat) : Int) (.iface 76 (.pointer (some aE))) em sc false) := hsb
  have hc5 := hsb.c5
  have hc6 := hsb.c6
  have hc7 := hsb.c7
  have hf5 := hsb.fz 5
  have hf6 := hsb.fz 6
  clear hcore hret hsb

  refine frame_elim (C := fun a => Code.wp Tryf.prog seg2 (Exit.then (fun a' w' => Frame sb a' ∧ M2 w0 B sb rb t aE c0 m w') Q0) a w) hf ?_
  intro u1 u2 u3 u4 u5 u6 u7 u8 u9 u10 u11 u12 u13 u14 u15 u16 u17 u18 u19 u20 u21 u22 u23 u24 u25 u26 u27 u28 u29 u30 u31 u32 u33 u34 u35 u36 u37 u38 u39 u40 u41 u42 u43 u44 u45 u46 u47 u48 u49 u50 u51 u52 u53 u54 u55 u56 u57 u58 u59 u60 u61 u62 u63 u64 u65 u66 u67 u68 u69 u70 u71 u72 u73 u74 u75 u76 u77 u78 u79 u80 u81 u82 u83 u84 u85 u86 u87 u88 u89 u90 u91 u92 u93 u94 u95 u96 u97 u98 u99 u100 u101 u102 u103 u104 u105 u106 u107 u108 u109 u110 u111 u112 u113 u114 u115 u116 u117 u118 u119 u120 u121 u122 u123 u124 u125 u126 u127 u128 u129 u130 u131 u132 u133 u134 u135 u136 u137 u138 u139 u140 u141 u142 u143 u144 u145 u146 u147 u148 u149 u150 u151 u152 u153 u154 u155 u156 u157 u158 u159 u160 u161 u162 u163 u164 u165 u166 u167 u168 u169 u170 u171 u172 u173 u174 u175 u176 u177 u178 u179 u180 u181 u182 u183 u184 u185 u186 u187 u188 u189 u190 u191 u192 u193 u194 u195 u196 u197 u198 u199 u200 u201 u202 u203 u204 u205 u206 u207 u208 u209 u210 u211 u212 u213 u214 u215 u216 u217 u218 u219 u220 u221 u222 u223 u224 u225 u226 u227 u228 u229 u230 u231 u232 u233 u234 u235 u236 u237 u238 u239 u240 u241 u242 u243 u244 u245 u246 u247 u248 u249 u250 u251 u252 u253 u254 u255 u256 u257 u258 u259 u260 u261 u262 u263 u264 u265 u266 u267 u268 u269 u270 u271 u272 u273 u274 u275 u276 u277 u278 u279 u280 u281 u282 u283 u284 u285 u286 u287 u288 u289 u290 u291 u292 u293 u294 u295 u296 u297 u298 u299 u300 u301 u302 u303 u304 u305 u306 u307 u308 u309 u310 u311 u312 u313 u314 u315 u316 u317 u318 u319 u320 u321 u322 u323 u324 u325 u326 u327 u328 u329 u330 u331 u332 u333
  clear hf
  conv => arg 2; whnf
  go_wp2
  have HOF : Hid (Only sb w ((w.setCell ⟨sb, 5, none⟩ (.int .i64 0)).setCell ⟨sb, 6, none⟩ (.int .i64 0))) := (only_set _ _ _ _).trans (only_set _ _ _ _)
  have hET : e = t.size := by
    rcases HC.out.x with h | ⟨_, h⟩
    · cases h
    · exact h
  refine HRET.out _ _ false ⟨rfl, rfl⟩ (Or.inr ⟨rfl, HOF.out.below HC.out.bel HC.out.s.hs, Or.inl ⟨((HSB.out.set5 0).set6 0).c7, ?_⟩⟩)
  have h := HC.out.nw
  rw [hce, hET, Lib.size_eq] at h
  exact h.short


end Go.Proofs.Qxb6612715aFmt
