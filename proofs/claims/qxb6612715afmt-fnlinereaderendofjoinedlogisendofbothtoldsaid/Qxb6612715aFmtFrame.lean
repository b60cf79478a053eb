/-
  Scan's FRAME and the parts of its loop's body.
-/
import Derived.Test.Qxb6612715aFmtState
namespace Go.Proofs.Qxb6612715aFmt
open Go.RowKit

def firstLoop : Code → Option Code
  | .loop c => some c
  | .seq a b => match firstLoop a with
    | some c => some c
    | none => firstLoop b
  | .block _ c => firstLoop c
  | .scope c => firstLoop c
  | .cond _ a b => match firstLoop a with
    | some c => some c
    | none => firstLoop b
  | _ => none
def seqL : Code → Code
  | .seq a _ => a
  | c => c
def seqR : Code → Code
  | .seq _ b => b
  | c => c
def inB : Code → Code
  | .block _ c => c
  | c => c
noncomputable def scanBody : Code := (Tryf.f17.body.bind firstLoop).getD .skip
noncomputable def seg1 : Code := seqL (inB scanBody)
noncomputable def seg2 : Code := seqL (seqR (inB scanBody))
noncomputable def seg3 : Code := seqL (seqR (seqR (inB scanBody)))
noncomputable def seg4 : Code := seqL (seqR (seqR (seqR (inB scanBody))))
noncomputable def seg5 : Code := seqR (seqR (seqR (seqR (inB scanBody))))
set_option maxRecDepth 100000 in
theorem scanBody_is : scanBody = .block 1 (.seq seg1 (.seq seg2 (.seq seg3 (.seq seg4 seg5)))) := by kernel_rfl

/-- Scan's frame: the scanner in its first slot -/
structure Frame (sb : Nat) (a : Act) : Prop where
  d : a.defers = []
  n : a.tmps.size = 334
  p : a.tmps[0]? = some (.pointer (some ⟨sb, 0, none⟩))

theorem cons_of {α : Type} {l : List α} {n : Nat} (h : l.length = n + 1) : ∃ x l', l = x :: l' ∧ l'.length = n := by
  cases l with
  | nil => simp at h
  | cons x l' => exact ⟨x, l', rfl, by simpa using h⟩

set_option maxRecDepth 100000 in
set_option maxHeartbeats 4000000 in
theorem frame_elim {sb : Nat} {a : Act} (hf : Frame sb a) {C : Act → Prop} (h : ∀ (u1 u2 u3 u4 u5 u6 u7 u8 u9 u10 u11 u12 u13 u14 u15 u16 u17 u18 u19 u20 u21 u22 u23 u24 u25 u26 u27 u28 u29 u30 u31 u32 u33 u34 u35 u36 u37 u38 u39 u40 u41 u42 u43 u44 u45 u46 u47 u48 u49 u50 u51 u52 u53 u54 u55 u56 u57 u58 u59 u60 u61 u62 u63 u64 u65 u66 u67 u68 u69 u70 u71 u72 u73 u74 u75 u76 u77 u78 u79 u80 u81 u82 u83 u84 u85 u86 u87 u88 u89 u90 u91 u92 u93 u94 u95 u96 u97 u98 u99 u100 u101 u102 u103 u104 u105 u106 u107 u108 u109 u110 u111 u112 u113 u114 u115 u116 u117 u118 u119 u120 u121 u122 u123 u124 u125 u126 u127 u128 u129 u130 u131 u132 u133 u134 u135 u136 u137 u138 u139 u140 u141 u142 u143 u144 u145 u146 u147 u148 u149 u150 u151 u152 u153 u154 u155 u156 u157 u158 u159 u160 u161 u162 u163 u164 u165 u166 u167 u168 u169 u170 u171 u172 u173 u174 u175 u176 u177 u178 u179 u180 u181 u182 u183 u184 u185 u186 u187 u188 u189 u190 u191 u192 u193 u194 u195 u196 u197 u198 u199 u200 u201 u202 u203 u204 u205 u206 u207 u208 u209 u210 u211 u212 u213 u214 u215 u216 u217 u218 u219 u220 u221 u222 u223 u224 u225 u226 u227 u228 u229 u230 u231 u232 u233 u234 u235 u236 u237 u238 u239 u240 u241 u242 u243 u244 u245 u246 u247 u248 u249 u250 u251 u252 u253 u254 u255 u256 u257 u258 u259 u260 u261 u262 u263 u264 u265 u266 u267 u268 u269 u270 u271 u272 u273 u274 u275 u276 u277 u278 u279 u280 u281 u282 u283 u284 u285 u286 u287 u288 u289 u290 u291 u292 u293 u294 u295 u296 u297 u298 u299 u300 u301 u302 u303 u304 u305 u306 u307 u308 u309 u310 u311 u312 u313 u314 u315 u316 u317 u318 u319 u320 u321 u322 u323 u324 u325 u326 u327 u328 u329 u330 u331 u332 u333 : Value), C ⟨#[.pointer (some ⟨sb, 0, none⟩), u1, u2, u3, u4, u5, u6, u7, u8, u9, u10, u11, u12, u13, u14, u15, u16, u17, u18, u19, u20, u21, u22, u23, u24, u25, u26, u27, u28, u29, u30, u31, u32, u33, u34, u35, u36, u37, u38, u39, u40, u41, u42, u43, u44, u45, u46, u47, u48, u49, u50, u51, u52, u53, u54, u55, u56, u57, u58, u59, u60, u61, u62, u63, u64, u65, u66, u67, u68, u69, u70, u71, u72, u73, u74, u75, u76, u77, u78, u79, u80, u81, u82, u83, u84, u85, u86, u87, u88, u89, u90, u91, u92, u93, u94, u95, u96, u97, u98, u99, u100, u101, u102, u103, u104, u105, u106, u107, u108, u109, u110, u111, u112, u113, u114, u115, u116, u117, u118, u119, u120, u121, u122, u123, u124, u125, u126, u127, u128, u129, u130, u131, u132, u133, u134, u135, u136, u137, u138, u139, u140, u141, u142, u143, u144, u145, u146, u147, u148, u149, u150, u151, u152, u153, u154, u155, u156, u157, u158, u159, u160, u161, u162, u163, u164, u165, u166, u167, u168, u169, u170, u171, u172, u173, u174, u175, u176, u177, u178, u179, u180, u181, u182, u183, u184, u185, u186, u187, u188, u189, u190, u191, u192, u193, u194, u195, u196, u197, u198, u199, u200, u201, u202, u203, u204, u205, u206, u207, u208, u209, u210, u211, u212, u213, u214, u215, u216, u217, u218, u219, u220, u221, u222, u223, u224, u225, u226, u227, u228, u229, u230, u231, u232, u233, u234, u235, u236, u237, u238, u239, u240, u241, u242, u243, u244, u245, u246, u247, u248, u249, u250, u251, u252, u253, u254, u255, u256, u257, u258, u259, u260, u261, u262, u263, u264, u265, u266, u267, u268, u269, u270, u271, u272, u273, u274, u275, u276, u277, u278, u279, u280, u281, u282, u283, u284, u285, u286, u287, u288, u289, u290, u291, u292, u293, u294, u295, u296, u297, u298, u299, u300, u301, u302, u303, u304, u305, u306, u307, u308, u309, u310, u311, u312, u313, u314, u315, u316, u317, u318, u319, u320, u321, u322, u323, u324, u325, u326, u327, u328, u329, u330, u331, u332, u333], []⟩) : C a := by
  obtain ⟨hd, hn, hp⟩ := hf
  obtain ⟨⟨l⟩, d⟩ := a
  have hd' : d = [] := hd
  have hl0 : l.length = 334 := hn
  have hp' : l[0]? = some (.pointer (some ⟨sb, 0, none⟩)) := by simpa using hp
  subst hd'
  clear hd hn hp
  obtain ⟨u0, l1, rfl, hl1⟩ := cons_of hl0
  have e0 : u0 = .pointer (some ⟨sb, 0, none⟩) := by simpa using hp'
  subst e0
  clear hp' hl0
  obtain ⟨u1, l2, rfl, hl2⟩ := cons_of hl1
  clear hl1
  obtain ⟨u2, l3, rfl, hl3⟩ := cons_of hl2
  clear hl2
  obtain ⟨u3, l4, rfl, hl4⟩ := cons_of hl3
  clear hl3
  obtain ⟨u4, l5, rfl, hl5⟩ := cons_of hl4
  clear hl4
  obtain ⟨u5, l6, rfl, hl6⟩ := cons_of hl5
  clear hl5
  obtain ⟨u6, l7, rfl, hl7⟩ := cons_of hl6
  clear hl6
  obtain ⟨u7, l8, rfl, hl8⟩ := cons_of hl7
  clear hl7
  obtain ⟨u8, l9, rfl, hl9⟩ := cons_of hl8
  clear hl8
  obtain ⟨u9, l10, rfl, hl10⟩ := cons_of hl9
  clear hl9
  obtain ⟨u10, l11, rfl, hl11⟩ := cons_of hl10
  clear hl10
  obtain ⟨u11, l12, rfl, hl12⟩ := cons_of hl11
  clear hl11
  obtain ⟨u12, l13, rfl, hl13⟩ := cons_of hl12
  clear hl12
  obtain ⟨u13, l14, rfl, hl14⟩ := cons_of hl13
  clear hl13
  obtain ⟨u14, l15, rfl, hl15⟩ := cons_of hl14
  clear hl14
  obtain ⟨u15, l16, rfl, hl16⟩ := cons_of hl15
  clear hl15
  obtain ⟨u16, l17, rfl, hl17⟩ := cons_of hl16
  clear hl16
  obtain ⟨u17, l18, rfl, hl18⟩ := cons_of hl17
  clear hl17
  obtain ⟨u18, l19, rfl, hl19⟩ := cons_of hl18
  clear hl18
  obtain ⟨u19, l20, rfl, hl20⟩ := cons_of hl19
  clear hl19
  obtain ⟨u20, l21, rfl, hl21⟩ := cons_of hl20
  clear hl20
  obtain ⟨u21, l22, rfl, hl22⟩ := cons_of hl21
  clear hl21
  obtain ⟨u22, l23, rfl, hl23⟩ := cons_of hl22
  clear hl22
  obtain ⟨u23, l24, rfl, hl24⟩ := cons_of hl23
  clear hl23
  obtain ⟨u24, l25, rfl, hl25⟩ := cons_of hl24
  clear hl24
  obtain ⟨u25, l26, rfl, hl26⟩ := cons_of hl25
  clear hl25
  obtain ⟨u26, l27, rfl, hl27⟩ := cons_of hl26
  clear hl26
  obtain ⟨u27, l28, rfl, hl28⟩ := cons_of hl27
  clear hl27
  obtain ⟨u28, l29, rfl, hl29⟩ := cons_of hl28
  clear hl28
  obtain ⟨u29, l30, rfl, hl30⟩ := cons_of hl29
  clear hl29
  obtain ⟨u30, l31, rfl, hl31⟩ := cons_of hl30
  clear hl30
  obtain ⟨u31, l32, rfl, hl32⟩ := cons_of hl31
  clear hl31
  obtain ⟨u32, l33, rfl, hl33⟩ := cons_of hl32
  clear hl32
  obtain ⟨u33, l34, rfl, hl34⟩ := cons_of hl33
  clear hl33
  obtain ⟨u34, l35, rfl, hl35⟩ := cons_of hl34
  clear hl34
  obtain ⟨u35, l36, rfl, hl36⟩ := cons_of hl35
  clear hl35
  obtain ⟨u36, l37, rfl, hl37⟩ := cons_of hl36
  clear hl36
  obtain ⟨u37, l38, rfl, hl38⟩ := cons_of hl37
  clear hl37
  obtain ⟨u38, l39, rfl, hl39⟩ := cons_of hl38
  clear hl38
  obtain ⟨u39, l40, rfl, hl40⟩ := cons_of hl39
  clear hl39
  obtain ⟨u40, l41, rfl, hl41⟩ := cons_of hl40
  clear hl40
  obtain ⟨u41, l42, rfl, hl42⟩ := cons_of hl41
  clear hl41
  obtain ⟨u42, l43, rfl, hl43⟩ := cons_of hl42
  clear hl42
  obtain ⟨u43, l44, rfl, hl44⟩ := cons_of hl43
  clear hl43
  obtain ⟨u44, l45, rfl, hl45⟩ := cons_of hl44
  clear hl44
  obtain ⟨u45, l46, rfl, hl46⟩ := cons_of hl45
  clear hl45
  obtain ⟨u46, l47, rfl, hl47⟩ := cons_of hl46
  clear hl46
  obtain ⟨u47, l48, rfl, hl48⟩ := cons_of hl47
  clear hl47
  obtain ⟨u48, l49, rfl, hl49⟩ := cons_of hl48
  clear hl48
  obtain ⟨u49, l50, rfl, hl50⟩ := cons_of hl49
  clear hl49
  obtain ⟨u50, l51, rfl, hl51⟩ := cons_of hl50
  clear hl50
  obtain ⟨u51, l52, rfl, hl52⟩ := cons_of hl51
  clear hl51
  obtain ⟨u52, l53, rfl, hl53⟩ := cons_of hl52
  clear hl52
  obtain ⟨u53, l54, rfl, hl54⟩ := cons_of hl53
  clear hl53
  obtain ⟨u54, l55, rfl, hl55⟩ := cons_of hl54
  clear hl54
  obtain ⟨u55, l56, rfl, hl56⟩ := cons_of hl55
  clear hl55
  obtain ⟨u56, l57, rfl, hl57⟩ := cons_of hl56
  clear hl56
  obtain ⟨u57, l58, rfl, hl58⟩ := cons_of hl57
  clear hl57
  obtain ⟨u58, l59, rfl, hl59⟩ := cons_of hl58
  clear hl58
  obtain ⟨u59, l60, rfl, hl60⟩ := cons_of hl59
  clear hl59
  obtain ⟨u60, l61, rfl, hl61⟩ := cons_of hl60
  clear hl60
  obtain ⟨u61, l62, rfl, hl62⟩ := cons_of hl61
  clear hl61
  obtain ⟨u62, l63, rfl, hl63⟩ := cons_of hl62
  clear hl62
  obtain ⟨u63, l64, rfl, hl64⟩ := cons_of hl63
  clear hl63
  obtain ⟨u64, l65, rfl, hl65⟩ := cons_of hl64
  clear hl64
  obtain ⟨u65, l66, rfl, hl66⟩ := cons_of hl65
  clear hl65
  obtain ⟨u66, l67, rfl, hl67⟩ := cons_of hl66
  clear hl66
  obtain ⟨u67, l68, rfl, hl68⟩ := cons_of hl67
  clear hl67
  obtain ⟨u68, l69, rfl, hl69⟩ := cons_of hl68
  clear hl68
  obtain ⟨u69, l70, rfl, hl70⟩ := cons_of hl69
  clear hl69
  obtain ⟨u70, l71, rfl, hl71⟩ := cons_of hl70
  clear hl70
  obtain ⟨u71, l72, rfl, hl72⟩ := cons_of hl71
  clear hl71
  obtain ⟨u72, l73, rfl, hl73⟩ := cons_of hl72
  clear hl72
  obtain ⟨u73, l74, rfl, hl74⟩ := cons_of hl73
  clear hl73
  obtain ⟨u74, l75, rfl, hl75⟩ := cons_of hl74
  clear hl74
  obtain ⟨u75, l76, rfl, hl76⟩ := cons_of hl75
  clear hl75
  obtain ⟨u76, l77, rfl, hl77⟩ := cons_of hl76
  clear hl76
  obtain ⟨u77, l78, rfl, hl78⟩ := cons_of hl77
  clear hl77
  obtain ⟨u78, l79, rfl, hl79⟩ := cons_of hl78
  clear hl78
  obtain ⟨u79, l80, rfl, hl80⟩ := cons_of hl79
  clear hl79
  obtain ⟨u80, l81, rfl, hl81⟩ := cons_of hl80
  clear hl80
  obtain ⟨u81, l82, rfl, hl82⟩ := cons_of hl81
  clear hl81
  obtain ⟨u82, l83, rfl, hl83⟩ := cons_of hl82
  clear hl82
  obtain ⟨u83, l84, rfl, hl84⟩ := cons_of hl83
  clear hl83
  obtain ⟨u84, l85, rfl, hl85⟩ := cons_of hl84
  clear hl84
  obtain ⟨u85, l86, rfl, hl86⟩ := cons_of hl85
  clear hl85
  obtain ⟨u86, l87, rfl, hl87⟩ := cons_of hl86
  clear hl86
  obtain ⟨u87, l88, rfl, hl88⟩ := cons_of hl87
  clear hl87
  obtain ⟨u88, l89, rfl, hl89⟩ := cons_of hl88
  clear hl88
  obtain ⟨u89, l90, rfl, hl90⟩ := cons_of hl89
  clear hl89
  obtain ⟨u90, l91, rfl, hl91⟩ := cons_of hl90
  clear hl90
  obtain ⟨u91, l92, rfl, hl92⟩ := cons_of hl91
  clear hl91
  obtain ⟨u92, l93, rfl, hl93⟩ := cons_of hl92
  clear hl92
  obtain ⟨u93, l94, rfl, hl94⟩ := cons_of hl93
  clear hl93
  obtain ⟨u94, l95, rfl, hl95⟩ := cons_of hl94
  clear hl94
  obtain ⟨u95, l96, rfl, hl96⟩ := cons_of hl95
  clear hl95
  obtain ⟨u96, l97, rfl, hl97⟩ := cons_of hl96
  clear hl96
  obtain ⟨u97, l98, rfl, hl98⟩ := cons_of hl97
  clear hl97
  obtain ⟨u98, l99, rfl, hl99⟩ := cons_of hl98
  clear hl98
  obtain ⟨u99, l100, rfl, hl100⟩ := cons_of hl99
  clear hl99
  obtain ⟨u100, l101, rfl, hl101⟩ := cons_of hl100
  clear hl100
  obtain ⟨u101, l102, rfl, hl102⟩ := cons_of hl101
  clear hl101
  obtain ⟨u102, l103, rfl, hl103⟩ := cons_of hl102
  clear hl102
  obtain ⟨u103, l104, rfl, hl104⟩ := cons_of hl103
  clear hl103
  obtain ⟨u104, l105, rfl, hl105⟩ := cons_of hl104
  clear hl104
  obtain ⟨u105, l106, rfl, hl106⟩ := cons_of hl105
  clear hl105
  obtain ⟨u106, l107, rfl, hl107⟩ := cons_of hl106
  clear hl106
  obtain ⟨u107, l108, rfl, hl108⟩ := cons_of hl107
  clear hl107
  obtain ⟨u108, l109, rfl, hl109⟩ := cons_of hl108
  clear hl108
  obtain ⟨u109, l110, rfl, hl110⟩ := cons_of hl109
  clear hl109
  obtain ⟨u110, l111, rfl, hl111⟩ := cons_of hl110
  clear hl110
  obtain ⟨u111, l112, rfl, hl112⟩ := cons_of hl111
  clear hl111
  obtain ⟨u112, l113, rfl, hl113⟩ := cons_of hl112
  clear hl112
  obtain ⟨u113, l114, rfl, hl114⟩ := cons_of hl113
  clear hl113
  obtain ⟨u114, l115, rfl, hl115⟩ := cons_of hl114
  clear hl114
  obtain ⟨u115, l116, rfl, hl116⟩ := cons_of hl115
  clear hl115
  obtain ⟨u116, l117, rfl, hl117⟩ := cons_of hl116
  clear hl116
  obtain ⟨u117, l118, rfl, hl118⟩ := cons_of hl117
  clear hl117
  obtain ⟨u118, l119, rfl, hl119⟩ := cons_of hl118
  clear hl118
  obtain ⟨u119, l120, rfl, hl120⟩ := cons_of hl119
  clear hl119
  obtain ⟨u120, l121, rfl, hl121⟩ := cons_of hl120
  clear hl120
  obtain ⟨u121, l122, rfl, hl122⟩ := cons_of hl121
  clear hl121
  obtain ⟨u122, l123, rfl, hl123⟩ := cons_of hl122
  clear hl122
  obtain ⟨u123, l124, rfl, hl124⟩ := cons_of hl123
  clear hl123
  obtain ⟨u124, l125, rfl, hl125⟩ := cons_of hl124
  clear hl124
  obtain ⟨u125, l126, rfl, hl126⟩ := cons_of hl125
  clear hl125
  obtain ⟨u126, l127, rfl, hl127⟩ := cons_of hl126
  clear hl126
  obtain ⟨u127, l128, rfl, hl128⟩ := cons_of hl127
  clear hl127
  obtain ⟨u128, l129, rfl, hl129⟩ := cons_of hl128
  clear hl128
  obtain ⟨u129, l130, rfl, hl130⟩ := cons_of hl129
  clear hl129
  obtain ⟨u130, l131, rfl, hl131⟩ := cons_of hl130
  clear hl130
  obtain ⟨u131, l132, rfl, hl132⟩ := cons_of hl131
  clear hl131
  obtain ⟨u132, l133, rfl, hl133⟩ := cons_of hl132
  clear hl132
  obtain ⟨u133, l134, rfl, hl134⟩ := cons_of hl133
  clear hl133
  obtain ⟨u134, l135, rfl, hl135⟩ := cons_of hl134
  clear hl134
  obtain ⟨u135, l136, rfl, hl136⟩ := cons_of hl135
  clear hl135
  obtain ⟨u136, l137, rfl, hl137⟩ := cons_of hl136
  clear hl136
  obtain ⟨u137, l138, rfl, hl138⟩ := cons_of hl137
  clear hl137
  obtain ⟨u138, l139, rfl, hl139⟩ := cons_of hl138
  clear hl138
  obtain ⟨u139, l140, rfl, hl140⟩ := cons_of hl139
  clear hl139
  obtain ⟨u140, l141, rfl, hl141⟩ := cons_of hl140
  clear hl140
  obtain ⟨u141, l142, rfl, hl142⟩ := cons_of hl141
  clear hl141
  obtain ⟨u142, l143, rfl, hl143⟩ := cons_of hl142
  clear hl142
  obtain ⟨u143, l144, rfl, hl144⟩ := cons_of hl143
  clear hl143
  obtain ⟨u144, l145, rfl, hl145⟩ := cons_of hl144
  clear hl144
  obtain ⟨u145, l146, rfl, hl146⟩ := cons_of hl145
  clear hl145
  obtain ⟨u146, l147, rfl, hl147⟩ := cons_of hl146
  clear hl146
  obtain ⟨u147, l148, rfl, hl148⟩ := cons_of hl147
  clear hl147
  obtain ⟨u148, l149, rfl, hl149⟩ := cons_of hl148
  clear hl148
  obtain ⟨u149, l150, rfl, hl150⟩ := cons_of hl149
  clear hl149
  obtain ⟨u150, l151, rfl, hl151⟩ := cons_of hl150
  clear hl150
  obtain ⟨u151, l152, rfl, hl152⟩ := cons_of hl151
  clear hl151
  obtain ⟨u152, l153, rfl, hl153⟩ := cons_of hl152
  clear hl152
  obtain ⟨u153, l154, rfl, hl154⟩ := cons_of hl153
  clear hl153
  obtain ⟨u154, l155, rfl, hl155⟩ := cons_of hl154
  clear hl154
  obtain ⟨u155, l156, rfl, hl156⟩ := cons_of hl155
  clear hl155
  obtain ⟨u156, l157, rfl, hl157⟩ := cons_of hl156
  clear hl156
  obtain ⟨u157, l158, rfl, hl158⟩ := cons_of hl157
  clear hl157
  obtain ⟨u158, l159, rfl, hl159⟩ := cons_of hl158
  clear hl158
  obtain ⟨u159, l160, rfl, hl160⟩ := cons_of hl159
  clear hl159
  obtain ⟨u160, l161, rfl, hl161⟩ := cons_of hl160
  clear hl160
  obtain ⟨u161, l162, rfl, hl162⟩ := cons_of hl161
  clear hl161
  obtain ⟨u162, l163, rfl, hl163⟩ := cons_of hl162
  clear hl162
  obtain ⟨u163, l164, rfl, hl164⟩ := cons_of hl163
  clear hl163
  obtain ⟨u164, l165, rfl, hl165⟩ := cons_of hl164
  clear hl164
  obtain ⟨u165, l166, rfl, hl166⟩ := cons_of hl165
  clear hl165
  obtain ⟨u166, l167, rfl, hl167⟩ := cons_of hl166
  clear hl166
  obtain ⟨u167, l168, rfl, hl168⟩ := cons_of hl167
  clear hl167
  obtain ⟨u168, l169, rfl, hl169⟩ := cons_of hl168
  clear hl168
  obtain ⟨u169, l170, rfl, hl170⟩ := cons_of hl169
  clear hl169
  obtain ⟨u170, l171, rfl, hl171⟩ := cons_of hl170
  clear hl170
  obtain ⟨u171, l172, rfl, hl172⟩ := cons_of hl171
  clear hl171
  obtain ⟨u172, l173, rfl, hl173⟩ := cons_of hl172
  clear hl172
  obtain ⟨u173, l174, rfl, hl174⟩ := cons_of hl173
  clear hl173
  obtain ⟨u174, l175, rfl, hl175⟩ := cons_of hl174
  clear hl174
  obtain ⟨u175, l176, rfl, hl176⟩ := cons_of hl175
  clear hl175
  obtain ⟨u176, l177, rfl, hl177⟩ := cons_of hl176
  clear hl176
  obtain ⟨u177, l178, rfl, hl178⟩ := cons_of hl177
  clear hl177
  obtain ⟨u178, l179, rfl, hl179⟩ := cons_of hl178
  clear hl178
  obtain ⟨u179, l180, rfl, hl180⟩ := cons_of hl179
  clear hl179
  obtain ⟨u180, l181, rfl, hl181⟩ := cons_of hl180
  clear hl180
  obtain ⟨u181, l182, rfl, hl182⟩ := cons_of hl181
  clear hl181
  obtain ⟨u182, l183, rfl, hl183⟩ := cons_of hl182
  clear hl182
  obtain ⟨u183, l184, rfl, hl184⟩ := cons_of hl183
  clear hl183
  obtain ⟨u184, l185, rfl, hl185⟩ := cons_of hl184
  clear hl184
  obtain ⟨u185, l186, rfl, hl186⟩ := cons_of hl185
  clear hl185
  obtain ⟨u186, l187, rfl, hl187⟩ := cons_of hl186
  clear hl186
  obtain ⟨u187, l188, rfl, hl188⟩ := cons_of hl187
  clear hl187
  obtain ⟨u188, l189, rfl, hl189⟩ := cons_of hl188
  clear hl188
  obtain ⟨u189, l190, rfl, hl190⟩ := cons_of hl189
  clear hl189
  obtain ⟨u190, l191, rfl, hl191⟩ := cons_of hl190
  clear hl190
  obtain ⟨u191, l192, rfl, hl192⟩ := cons_of hl191
  clear hl191
  obtain ⟨u192, l193, rfl, hl193⟩ := cons_of hl192
  clear hl192
  obtain ⟨u193, l194, rfl, hl194⟩ := cons_of hl193
  clear hl193
  obtain ⟨u194, l195, rfl, hl195⟩ := cons_of hl194
  clear hl194
  obtain ⟨u195, l196, rfl, hl196⟩ := cons_of hl195
  clear hl195
  obtain ⟨u196, l197, rfl, hl197⟩ := cons_of hl196
  clear hl196
  obtain ⟨u197, l198, rfl, hl198⟩ := cons_of hl197
  clear hl197
  obtain ⟨u198, l199, rfl, hl199⟩ := cons_of hl198
  clear hl198
  obtain ⟨u199, l200, rfl, hl200⟩ := cons_of hl199
  clear hl199
  obtain ⟨u200, l201, rfl, hl201⟩ := cons_of hl200
  clear hl200
  obtain ⟨u201, l202, rfl, hl202⟩ := cons_of hl201
  clear hl201
  obtain ⟨u202, l203, rfl, hl203⟩ := cons_of hl202
  clear hl202
  obtain ⟨u203, l204, rfl, hl204⟩ := cons_of hl203
  clear hl203
  obtain ⟨u204, l205, rfl, hl205⟩ := cons_of hl204
  clear hl204
  obtain ⟨u205, l206, rfl, hl206⟩ := cons_of hl205
  clear hl205
  obtain ⟨u206, l207, rfl, hl207⟩ := cons_of hl206
  clear hl206
  obtain ⟨u207, l208, rfl, hl208⟩ := cons_of hl207
  clear hl207
  obtain ⟨u208, l209, rfl, hl209⟩ := cons_of hl208
  clear hl208
  obtain ⟨u209, l210, rfl, hl210⟩ := cons_of hl209
  clear hl209
  obtain ⟨u210, l211, rfl, hl211⟩ := cons_of hl210
  clear hl210
  obtain ⟨u211, l212, rfl, hl212⟩ := cons_of hl211
  clear hl211
  obtain ⟨u212, l213, rfl, hl213⟩ := cons_of hl212
  clear hl212
  obtain ⟨u213, l214, rfl, hl214⟩ := cons_of hl213
  clear hl213
  obtain ⟨u214, l215, rfl, hl215⟩ := cons_of hl214
  clear hl214
  obtain ⟨u215, l216, rfl, hl216⟩ := cons_of hl215
  clear hl215
  obtain ⟨u216, l217, rfl, hl217⟩ := cons_of hl216
  clear hl216
  obtain ⟨u217, l218, rfl, hl218⟩ := cons_of hl217
  clear hl217
  obtain ⟨u218, l219, rfl, hl219⟩ := cons_of hl218
  clear hl218
  obtain ⟨u219, l220, rfl, hl220⟩ := cons_of hl219
  clear hl219
  obtain ⟨u220, l221, rfl, hl221⟩ := cons_of hl220
  clear hl220
  obtain ⟨u221, l222, rfl, hl222⟩ := cons_of hl221
  clear hl221
  obtain ⟨u222, l223, rfl, hl223⟩ := cons_of hl222
  clear hl222
  obtain ⟨u223, l224, rfl, hl224⟩ := cons_of hl223
  clear hl223
  obtain ⟨u224, l225, rfl, hl225⟩ := cons_of hl224
  clear hl224
  obtain ⟨u225, l226, rfl, hl226⟩ := cons_of hl225
  clear hl225
  obtain ⟨u226, l227, rfl, hl227⟩ := cons_of hl226
  clear hl226
  obtain ⟨u227, l228, rfl, hl228⟩ := cons_of hl227
  clear hl227
  obtain ⟨u228, l229, rfl, hl229⟩ := cons_of hl228
  clear hl228
  obtain ⟨u229, l230, rfl, hl230⟩ := cons_of hl229
  clear hl229
  obtain ⟨u230, l231, rfl, hl231⟩ := cons_of hl230
  clear hl230
  obtain ⟨u231, l232, rfl, hl232⟩ := cons_of hl231
  clear hl231
  obtain ⟨u232, l233, rfl, hl233⟩ := cons_of hl232
  clear hl232
  obtain ⟨u233, l234, rfl, hl234⟩ := cons_of hl233
  clear hl233
  obtain ⟨u234, l235, rfl, hl235⟩ := cons_of hl234
  clear hl234
  obtain ⟨u235, l236, rfl, hl236⟩ := cons_of hl235
  clear hl235
  obtain ⟨u236, l237, rfl, hl237⟩ := cons_of hl236
  clear hl236
  obtain ⟨u237, l238, rfl, hl238⟩ := cons_of hl237
  clear hl237
  obtain ⟨u238, l239, rfl, hl239⟩ := cons_of hl238
  clear hl238
  obtain ⟨u239, l240, rfl, hl240⟩ := cons_of hl239
  clear hl239
  obtain ⟨u240, l241, rfl, hl241⟩ := cons_of hl240
  clear hl240
  obtain ⟨u241, l242, rfl, hl242⟩ := cons_of hl241
  clear hl241
  obtain ⟨u242, l243, rfl, hl243⟩ := cons_of hl242
  clear hl242
  obtain ⟨u243, l244, rfl, hl244⟩ := cons_of hl243
  clear hl243
  obtain ⟨u244, l245, rfl, hl245⟩ := cons_of hl244
  clear hl244
  obtain ⟨u245, l246, rfl, hl246⟩ := cons_of hl245
  clear hl245
  obtain ⟨u246, l247, rfl, hl247⟩ := cons_of hl246
  clear hl246
  obtain ⟨u247, l248, rfl, hl248⟩ := cons_of hl247
  clear hl247
  obtain ⟨u248, l249, rfl, hl249⟩ := cons_of hl248
  clear hl248
  obtain ⟨u249, l250, rfl, hl250⟩ := cons_of hl249
  clear hl249
  obtain ⟨u250, l251, rfl, hl251⟩ := cons_of hl250
  clear hl250
  obtain ⟨u251, l252, rfl, hl252⟩ := cons_of hl251
  clear hl251
  obtain ⟨u252, l253, rfl, hl253⟩ := cons_of hl252
  clear hl252
  obtain ⟨u253, l254, rfl, hl254⟩ := cons_of hl253
  clear hl253
  obtain ⟨u254, l255, rfl, hl255⟩ := cons_of hl254
  clear hl254
  obtain ⟨u255, l256, rfl, hl256⟩ := cons_of hl255
  clear hl255
  obtain ⟨u256, l257, rfl, hl257⟩ := cons_of hl256
  clear hl256
  obtain ⟨u257, l258, rfl, hl258⟩ := cons_of hl257
  clear hl257
  obtain ⟨u258, l259, rfl, hl259⟩ := cons_of hl258
  clear hl258
  obtain ⟨u259, l260, rfl, hl260⟩ := cons_of hl259
  clear hl259
  obtain ⟨u260, l261, rfl, hl261⟩ := cons_of hl260
  clear hl260
  obtain ⟨u261, l262, rfl, hl262⟩ := cons_of hl261
  clear hl261
  obtain ⟨u262, l263, rfl, hl263⟩ := cons_of hl262
  clear hl262
  obtain ⟨u263, l264, rfl, hl264⟩ := cons_of hl263
  clear hl263
  obtain ⟨u264, l265, rfl, hl265⟩ := cons_of hl264
  clear hl264
  obtain ⟨u265, l266, rfl, hl266⟩ := cons_of hl265
  clear hl265
  obtain ⟨u266, l267, rfl, hl267⟩ := cons_of hl266
  clear hl266
  obtain ⟨u267, l268, rfl, hl268⟩ := cons_of hl267
  clear hl267
  obtain ⟨u268, l269, rfl, hl269⟩ := cons_of hl268
  clear hl268
  obtain ⟨u269, l270, rfl, hl270⟩ := cons_of hl269
  clear hl269
  obtain ⟨u270, l271, rfl, hl271⟩ := cons_of hl270
  clear hl270
  obtain ⟨u271, l272, rfl, hl272⟩ := cons_of hl271
  clear hl271
  obtain ⟨u272, l273, rfl, hl273⟩ := cons_of hl272
  clear hl272
  obtain ⟨u273, l274, rfl, hl274⟩ := cons_of hl273
  clear hl273
  obtain ⟨u274, l275, rfl, hl275⟩ := cons_of hl274
  clear hl274
  obtain ⟨u275, l276, rfl, hl276⟩ := cons_of hl275
  clear hl275
  obtain ⟨u276, l277, rfl, hl277⟩ := cons_of hl276
  clear hl276
  obtain ⟨u277, l278, rfl, hl278⟩ := cons_of hl277
  clear hl277
  obtain ⟨u278, l279, rfl, hl279⟩ := cons_of hl278
  clear hl278
  obtain ⟨u279, l280, rfl, hl280⟩ := cons_of hl279
  clear hl279
  obtain ⟨u280, l281, rfl, hl281⟩ := cons_of hl280
  clear hl280
  obtain ⟨u281, l282, rfl, hl282⟩ := cons_of hl281
  clear hl281
  obtain ⟨u282, l283, rfl, hl283⟩ := cons_of hl282
  clear hl282
  obtain ⟨u283, l284, rfl, hl284⟩ := cons_of hl283
  clear hl283
  obtain ⟨u284, l285, rfl, hl285⟩ := cons_of hl284
  clear hl284
  obtain ⟨u285, l286, rfl, hl286⟩ := cons_of hl285
  clear hl285
  obtain ⟨u286, l287, rfl, hl287⟩ := cons_of hl286
  clear hl286
  obtain ⟨u287, l288, rfl, hl288⟩ := cons_of hl287
  clear hl287
  obtain ⟨u288, l289, rfl, hl289⟩ := cons_of hl288
  clear hl288
  obtain ⟨u289, l290, rfl, hl290⟩ := cons_of hl289
  clear hl289
  obtain ⟨u290, l291, rfl, hl291⟩ := cons_of hl290
  clear hl290
  obtain ⟨u291, l292, rfl, hl292⟩ := cons_of hl291
  clear hl291
  obtain ⟨u292, l293, rfl, hl293⟩ := cons_of hl292
  clear hl292
  obtain ⟨u293, l294, rfl, hl294⟩ := cons_of hl293
  clear hl293
  obtain ⟨u294, l295, rfl, hl295⟩ := cons_of hl294
  clear hl294
  obtain ⟨u295, l296, rfl, hl296⟩ := cons_of hl295
  clear hl295
  obtain ⟨u296, l297, rfl, hl297⟩ := cons_of hl296
  clear hl296
  obtain ⟨u297, l298, rfl, hl298⟩ := cons_of hl297
  clear hl297
  obtain ⟨u298, l299, rfl, hl299⟩ := cons_of hl298
  clear hl298
  obtain ⟨u299, l300, rfl, hl300⟩ := cons_of hl299
  clear hl299
  obtain ⟨u300, l301, rfl, hl301⟩ := cons_of hl300
  clear hl300
  obtain ⟨u301, l302, rfl, hl302⟩ := cons_of hl301
  clear hl301
  obtain ⟨u302, l303, rfl, hl303⟩ := cons_of hl302
  clear hl302
  obtain ⟨u303, l304, rfl, hl304⟩ := cons_of hl303
  clear hl303
  obtain ⟨u304, l305, rfl, hl305⟩ := cons_of hl304
  clear hl304
  obtain ⟨u305, l306, rfl, hl306⟩ := cons_of hl305
  clear hl305
  obtain ⟨u306, l307, rfl, hl307⟩ := cons_of hl306
  clear hl306
  obtain ⟨u307, l308, rfl, hl308⟩ := cons_of hl307
  clear hl307
  obtain ⟨u308, l309, rfl, hl309⟩ := cons_of hl308
  clear hl308
  obtain ⟨u309, l310, rfl, hl310⟩ := cons_of hl309
  clear hl309
  obtain ⟨u310, l311, rfl, hl311⟩ := cons_of hl310
  clear hl310
  obtain ⟨u311, l312, rfl, hl312⟩ := cons_of hl311
  clear hl311
  obtain ⟨u312, l313, rfl, hl313⟩ := cons_of hl312
  clear hl312
  obtain ⟨u313, l314, rfl, hl314⟩ := cons_of hl313
  clear hl313
  obtain ⟨u314, l315, rfl, hl315⟩ := cons_of hl314
  clear hl314
  obtain ⟨u315, l316, rfl, hl316⟩ := cons_of hl315
  clear hl315
  obtain ⟨u316, l317, rfl, hl317⟩ := cons_of hl316
  clear hl316
  obtain ⟨u317, l318, rfl, hl318⟩ := cons_of hl317
  clear hl317
  obtain ⟨u318, l319, rfl, hl319⟩ := cons_of hl318
  clear hl318
  obtain ⟨u319, l320, rfl, hl320⟩ := cons_of hl319
  clear hl319
  obtain ⟨u320, l321, rfl, hl321⟩ := cons_of hl320
  clear hl320
  obtain ⟨u321, l322, rfl, hl322⟩ := cons_of hl321
  clear hl321
  obtain ⟨u322, l323, rfl, hl323⟩ := cons_of hl322
  clear hl322
  obtain ⟨u323, l324, rfl, hl324⟩ := cons_of hl323
  clear hl323
  obtain ⟨u324, l325, rfl, hl325⟩ := cons_of hl324
  clear hl324
  obtain ⟨u325, l326, rfl, hl326⟩ := cons_of hl325
  clear hl325
  obtain ⟨u326, l327, rfl, hl327⟩ := cons_of hl326
  clear hl326
  obtain ⟨u327, l328, rfl, hl328⟩ := cons_of hl327
  clear hl327
  obtain ⟨u328, l329, rfl, hl329⟩ := cons_of hl328
  clear hl328
  obtain ⟨u329, l330, rfl, hl330⟩ := cons_of hl329
  clear hl329
  obtain ⟨u330, l331, rfl, hl331⟩ := cons_of hl330
  clear hl330
  obtain ⟨u331, l332, rfl, hl332⟩ := cons_of hl331
  clear hl331
  obtain ⟨u332, l333, rfl, hl333⟩ := cons_of hl332
  clear hl332
  obtain ⟨u333, l334, rfl, hl334⟩ := cons_of hl333
  clear hl333
  obtain rfl : l334 = [] := List.eq_nil_of_length_eq_zero hl334
  exact h u1 u2 u3 u4 u5 u6 u7 u8 u9 u10 u11 u12 u13 u14 u15 u16 u17 u18 u19 u20 u21 u22 u23 u24 u25 u26 u27 u28 u29 u30 u31 u32 u33 u34 u35 u36 u37 u38 u39 u40 u41 u42 u43 u44 u45 u46 u47 u48 u49 u50 u51 u52 u53 u54 u55 u56 u57 u58 u59 u60 u61 u62 u63 u64 u65 u66 u67 u68 u69 u70 u71 u72 u73 u74 u75 u76 u77 u78 u79 u80 u81 u82 u83 u84 u85 u86 u87 u88 u89 u90 u91 u92 u93 u94 u95 u96 u97 u98 u99 u100 u101 u102 u103 u104 u105 u106 u107 u108 u109 u110 u111 u112 u113 u114 u115 u116 u117 u118 u119 u120 u121 u122 u123 u124 u125 u126 u127 u128 u129 u130 u131 u132 u133 u134 u135 u136 u137 u138 u139 u140 u141 u142 u143 u144 u145 u146 u147 u148 u149 u150 u151 u152 u153 u154 u155 u156 u157 u158 u159 u160 u161 u162 u163 u164 u165 u166 u167 u168 u169 u170 u171 u172 u173 u174 u175 u176 u177 u178 u179 u180 u181 u182 u183 u184 u185 u186 u187 u188 u189 u190 u191 u192 u193 u194 u195 u196 u197 u198 u199 u200 u201 u202 u203 u204 u205 u206 u207 u208 u209 u210 u211 u212 u213 u214 u215 u216 u217 u218 u219 u220 u221 u222 u223 u224 u225 u226 u227 u228 u229 u230 u231 u232 u233 u234 u235 u236 u237 u238 u239 u240 u241 u242 u243 u244 u245 u246 u247 u248 u249 u250 u251 u252 u253 u254 u255 u256 u257 u258 u259 u260 u261 u262 u263 u264 u265 u266 u267 u268 u269 u270 u271 u272 u273 u274 u275 u276 u277 u278 u279 u280 u281 u282 u283 u284 u285 u286 u287 u288 u289 u290 u291 u292 u293 u294 u295 u296 u297 u298 u299 u300 u301 u302 u303 u304 u305 u306 u307 u308 u309 u310 u311 u312 u313 u314 u315 u316 u317 u318 u319 u320 u321 u322 u323 u324 u325 u326 u327 u328 u329 u330 u331 u332 u333

end Go.Proofs.Qxb6612715aFmt
