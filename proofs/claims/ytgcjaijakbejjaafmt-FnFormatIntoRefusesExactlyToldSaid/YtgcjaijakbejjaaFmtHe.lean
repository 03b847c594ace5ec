/- Proved: contracts of formatInto at a nil argument list, and some rounds with an argument list. Conditions: as each theorem says. -/
import Derived.Test.YtgcjaijakbejjaaFmtFxJ
import Derived.Test.YtgcjaijakbejjaaFmtFxK
import Derived.Test.YtgcjaijakbejjaaFmtHd
/- Proved: the round of formatInto's loop, case by case. Conditions: those of 'Cs'. PRINTED by gen_fig.py. -/
namespace Go.Proofs.YtgcjaijakbejjaaFmt
open Go.RowKit Go.Proofs.YtgcjaijakbejjaaFmtW.PrintWords
set_option linter.unusedVariables false

set_option maxHeartbeats 4000000 in
set_option maxRecDepth 1000000 in
theorem round_stop {B b n nf ia k : Nat} {s : ByteArray} {w0 wr : World} {c9 c28 c29 : Value} {Q0 : Exit → Act → World → Prop} (u6 u7 u11 u12 u13 u14 u15 u16 u17 u18 u19 u20 u21 u22 u23 u24 u25 u26 u27 u30 u31 u32 u33 u34 u35 u36 u37 u38 u39 u40 u41 u42 u43 u44 u45 u46 u47 u48 u49 u50 u51 u52 u53 u54 u55 u56 u57 u58 u59 u60 u61 u62 u63 u64 u65 u66 u67 u68 u69 u70 u71 u72 u73 u74 u75 u76 u77 u78 u79 u80 u81 u82 u83 u84 u85 u86 u87 u88 u89 u90 u91 u92 u93 u94 u95 u96 u97 u98 u99 u100 u101 u102 u103 u104 u105 u106 u107 u108 u109 u110 u111 u112 u113 u114 u115 u116 u117 u118 u119 u120 u121 u122 u123 u124 u125 u126 u127 u128 u129 u130 u131 u132 u133 u134 u135 u136 u137 u138 u139 u140 u141 u142 u143 u144 u145 u146 u147 u148 u149 u150 u151 u152 u153 u154 u155 u156 u157 u158 u159 u160 u161 u162 u163 u164 u165 u166 u167 u168 u169 u170 u171 u172 u173 u174 u175 u176 u177 u178 u179 u180 u181 u182 u183 u184 u185 u186 u187 u188 u189 u190 u191 u192 u193 u194 u195 u196 u197 u198 u199 u200 u201 u202 u203 u204 u205 u206 u207 u208 u209 u210 u211 u212 u213 u214 u215 u216 u217 u218 u219 u220 u221 u222 u223 u224 u225 u226 u227 u228 u229 u230 u231 u232 u233 u234 u235 u236 u237 u238 u239 u240 u241 u242 u243 u244 u245 u246 u247 u248 u249 u250 u251 u252 u253 u254 u255 u256 u257 u258 u259 u260 u261 u262 u263 u264 u265 u266 u267 u268 u269 u270 u271 u272 u273 u274 u275 u276 u277 u278 u279 u280 u281 u282 u283 u284 u285 u286 u287 u288 u289 u290 u291 u292 : Value) (hs : s.size ≤ 1048580) (hn : n ≤ 2000000000) (hE : Hid (Evs w0)) (h5 : 5 ≤ B) (H : Hid (Cs B b (n + 4 * k) nf ia s k w0 wr)) (hk : k ≤ s.size + 1) (hkn : ¬ k < s.size) (hexit : ∀ a w, WX B b n nf s w0 c9 c28 c29 a w → Q0 (.exit 0) a w) : Code.wp Tryf.prog fiBody (Exit.then (fun a w => WI B b n nf s w0 c9 c28 c29 a w ∧ fiMu s a w < fiMu s ⟨#[.pointer (some ⟨b, 0, none⟩), .string s, .slice none 0 0, undef, .pointer (some ⟨nf, 0, none⟩), undef, u6, u7, .slice none 0 0, c9, .pointer (some ⟨ia, 0, none⟩), u11, u12, u13, u14, u15, u16, u17, u18, u19, u20, u21, u22, u23, u24, u25, u26, u27, c28, c29, u30, u31, u32, u33, u34, u35, u36, u37, u38, u39, u40, u41, u42, u43, u44, u45, u46, u47, u48, u49, u50, u51, u52, u53, u54, u55, u56, u57, u58, u59, u60, u61, u62, u63, u64, u65, u66, u67, u68, u69, u70, u71, u72, u73, u74, u75, u76, u77, u78, u79, u80, u81, u82, u83, u84, u85, u86, u87, u88, u89, u90, u91, u92, u93, u94, u95, u96, u97, u98, u99, u100, u101, u102, u103, u104, u105, u106, u107, u108, u109, u110, u111, u112, u113, u114, u115, u116, u117, u118, u119, u120, u121, u122, u123, u124, u125, u126, u127, u128, u129, u130, u131, u132, u133, u134, u135, u136, u137, u138, u139, u140, u141, u142, u143, u144, u145, u146, u147, u148, u149, u150, u151, u152, u153, u154, u155, u156, u157, u158, u159, u160, u161, u162, u163, u164, u165, u166, u167, u168, u169, u170, u171, u172, u173, u174, u175, u176, u177, u178, u179, u180, u181, u182, u183, u184, u185, u186, u187, u188, u189, u190, u191, u192, u193, u194, u195, u196, u197, u198, u199, u200, u201, u202, u203, u204, u205, u206, u207, u208, u209, u210, u211, u212, u213, u214, u215, u216, u217, u218, u219, u220, u221, u222, u223, u224, u225, u226, u227, u228, u229, u230, u231, u232, u233, u234, u235, u236, u237, u238, u239, u240, u241, u242, u243, u244, u245, u246, u247, u248, u249, u250, u251, u252, u253, u254, u255, u256, u257, u258, u259, u260, u261, u262, u263, u264, u265, u266, u267, u268, u269, u270, u271, u272, u273, u274, u275, u276, u277, u278, u279, u280, u281, u282, u283, u284, u285, u286, u287, u288, u289, u290, u291, u292, undef, undef, undef, undef, undef, undef, undef, undef], []⟩ wr) Q0) ⟨#[.pointer (some ⟨b, 0, none⟩), .string s, .slice none 0 0, undef, .pointer (some ⟨nf, 0, none⟩), undef, u6, u7, .slice none 0 0, c9, .pointer (some ⟨ia, 0, none⟩), u11, u12, u13, u14, u15, u16, u17, u18, u19, u20, u21, u22, u23, u24, u25, u26, u27, c28, c29, u30, u31, u32, u33, u34, u35, u36, u37, u38, u39, u40, u41, u42, u43, u44, u45, u46, u47, u48, u49, u50, u51, u52, u53, u54, u55, u56, u57, u58, u59, u60, u61, u62, u63, u64, u65, u66, u67, u68, u69, u70, u71, u72, u73, u74, u75, u76, u77, u78, u79, u80, u81, u82, u83, u84, u85, u86, u87, u88, u89, u90, u91, u92, u93, u94, u95, u96, u97, u98, u99, u100, u101, u102, u103, u104, u105, u106, u107, u108, u109, u110, u111, u112, u113, u114, u115, u116, u117, u118, u119, u120, u121, u122, u123, u124, u125, u126, u127, u128, u129, u130, u131, u132, u133, u134, u135, u136, u137, u138, u139, u140, u141, u142, u143, u144, u145, u146, u147, u148, u149, u150, u151, u152, u153, u154, u155, u156, u157, u158, u159, u160, u161, u162, u163, u164, u165, u166, u167, u168, u169, u170, u171, u172, u173, u174, u175, u176, u177, u178, u179, u180, u181, u182, u183, u184, u185, u186, u187, u188, u189, u190, u191, u192, u193, u194, u195, u196, u197, u198, u199, u200, u201, u202, u203, u204, u205, u206, u207, u208, u209, u210, u211, u212, u213, u214, u215, u216, u217, u218, u219, u220, u221, u222, u223, u224, u225, u226, u227, u228, u229, u230, u231, u232, u233, u234, u235, u236, u237, u238, u239, u240, u241, u242, u243, u244, u245, u246, u247, u248, u249, u250, u251, u252, u253, u254, u255, u256, u257, u258, u259, u260, u261, u262, u263, u264, u265, u266, u267, u268, u269, u270, u271, u272, u273, u274, u275, u276, u277, u278, u279, u280, u281, u282, u283, u284, u285, u286, u287, u288, u289, u290, u291, u292, undef, undef, undef, undef, undef, undef, undef, undef], []⟩ wr := by
  conv => arg 2; whnf
  have ci := H.out.ci
  have cf := H.out.cf
  have hkb : decide ((k : Int) < (s.size : Int)) = false := decide_eq_false (by omega)
  go_wp2
  first
    | exact ⟨k, ia, hk, H, _, _, _, _, _, _, _, _, _, _, _, _, _, _, _, _, _, _, _, _, _, _, _, _, _, _, _, _, _, _, _, _, _, _, _, _, _, _, _, _, _, _, _, _, _, _, _, _, _, _, _, _, _, _, _, _, _, _, _, _, _, _, _, _, _, _, _, _, _, _, _, _, _, _, _, _, _, _, _, _, _, _, _, _, _, _, _, _, _, _, _, _, _, _, _, _, _, _, _, _, _, _, _, _, _, _, _, _, _, _, _, _, _, _, _, _, _, _, _, _, _, _, _, _, _, _, _, _, _, _, _, _, _, _, _, _, _, _, _, _, _, _, _, _, _, _, _, _, _, _, _, _, _, _, _, _, _, _, _, _, _, _, _, _, _, _, _, _, _, _, _, _, _, _, _, _, _, _, _, _, _, _, _, _, _, _, _, _, _, _, _, _, _, _, _, _, _, _, _, _, _, _, _, _, _, _, _, _, _, _, _, _, _, _, _, _, _, _, _, _, _, _, _, _, _, _, _, _, _, _, _, _, _, _, _, _, _, _, _, _, _, _, _, _, _, _, _, _, _, _, _, _, _, _, _, _, _, _, _, _, _, _, _, _, _, _, _, _, _, _, _, _, _, _, _, _, _, _, _, _, _, _, rfl⟩
    | exact hexit _ _ ⟨k, ia, hk, H, _, _, _, _, _, _, _, _, _, _, _, _, _, _, _, _, _, _, _, _, _, _, _, _, _, _, _, _, _, _, _, _, _, _, _, _, _, _, _, _, _, _, _, _, _, _, _, _, _, _, _, _, _, _, _, _, _, _, _, _, _, _, _, _, _, _, _, _, _, _, _, _, _, _, _, _, _, _, _, _, _, _, _, _, _, _, _, _, _, _, _, _, _, _, _, _, _, _, _, _, _, _, _, _, _, _, _, _, _, _, _, _, _, _, _, _, _, _, _, _, _, _, _, _, _, _, _, _, _, _, _, _, _, _, _, _, _, _, _, _, _, _, _, _, _, _, _, _, _, _, _, _, _, _, _, _, _, _, _, _, _, _, _, _, _, _, _, _, _, _, _, _, _, _, _, _, _, _, _, _, _, _, _, _, _, _, _, _, _, _, _, _, _, _, _, _, _, _, _, _, _, _, _, _, _, _, _, _, _, _, _, _, _, _, _, _, _, _, _, _, _, _, _, _, _, _, _, _, _, _, _, _, _, _, _, _, _, _, _, _, _, _, _, _, _, _, _, _, _, _, _, _, _, _, _, _, _, _, _, _, _, _, _, _, _, _, _, _, _, _, _, _, _, _, _, _, _, _, _, _, _, _, rfl⟩

set_option maxHeartbeats 8000000 in
set_option maxRecDepth 1000000 in
theorem fi_round {B b n nf : Nat} {s : ByteArray} {w0 : World} {c9 c28 c29 : Value} {Q0 : Exit → Act → World → Prop} (hs : s.size ≤ 1048580) (hn : n ≤ 2000000000) (hE : Hid (Evs w0)) (h5 : 5 ≤ B) (hexit : ∀ a w, WX B b n nf s w0 c9 c28 c29 a w → Q0 (.exit 0) a w) (a : Act) (w : World) (hI : WI B b n nf s w0 c9 c28 c29 a w) :
    Code.wp Tryf.prog fiBody (Exit.then (fun a' w' => WI B b n nf s w0 c9 c28 c29 a' w' ∧ fiMu s a' w' < fiMu s a w) Q0) a w := by
  obtain ⟨k, ia, hk, H, hI⟩ := hI
  obtain ⟨u6, hI⟩ := hI
  obtain ⟨u7, hI⟩ := hI
  obtain ⟨u11, hI⟩ := hI
  obtain ⟨u12, hI⟩ := hI
  obtain ⟨u13, hI⟩ := hI
  obtain ⟨u14, hI⟩ := hI
  obtain ⟨u15, hI⟩ := hI
  obtain ⟨u16, hI⟩ := hI
  obtain ⟨u17, hI⟩ := hI
  obtain ⟨u18, hI⟩ := hI
  obtain ⟨u19, hI⟩ := hI
  obtain ⟨u20, hI⟩ := hI
  obtain ⟨u21, hI⟩ := hI
  obtain ⟨u22, hI⟩ := hI
  obtain ⟨u23, hI⟩ := hI
  obtain ⟨u24, hI⟩ := hI
  obtain ⟨u25, hI⟩ := hI
  obtain ⟨u26, hI⟩ := hI
  obtain ⟨u27, hI⟩ := hI
  obtain ⟨u30, hI⟩ := hI
  obtain ⟨u31, hI⟩ := hI
  obtain ⟨u32, hI⟩ := hI
  obtain ⟨u33, hI⟩ := hI
  obtain ⟨u34, hI⟩ := hI
  obtain ⟨u35, hI⟩ := hI
  obtain ⟨u36, hI⟩ := hI
  obtain ⟨u37, hI⟩ := hI
  obtain ⟨u38, hI⟩ := hI
  obtain ⟨u39, hI⟩ := hI
  obtain ⟨u40, hI⟩ := hI
  obtain ⟨u41, hI⟩ := hI
  obtain ⟨u42, hI⟩ := hI
  obtain ⟨u43, hI⟩ := hI
  obtain ⟨u44, hI⟩ := hI
  obtain ⟨u45, hI⟩ := hI
  obtain ⟨u46, hI⟩ := hI
  obtain ⟨u47, hI⟩ := hI
  obtain ⟨u48, hI⟩ := hI
  obtain ⟨u49, hI⟩ := hI
  obtain ⟨u50, hI⟩ := hI
  obtain ⟨u51, hI⟩ := hI
  obtain ⟨u52, hI⟩ := hI
  obtain ⟨u53, hI⟩ := hI
  obtain ⟨u54, hI⟩ := hI
  obtain ⟨u55, hI⟩ := hI
  obtain ⟨u56, hI⟩ := hI
  obtain ⟨u57, hI⟩ := hI
  obtain ⟨u58, hI⟩ := hI
  obtain ⟨u59, hI⟩ := hI
  obtain ⟨u60, hI⟩ := hI
  obtain ⟨u61, hI⟩ := hI
  obtain ⟨u62, hI⟩ := hI
  obtain ⟨u63, hI⟩ := hI
  obtain ⟨u64, hI⟩ := hI
  obtain ⟨u65, hI⟩ := hI
  obtain ⟨u66, hI⟩ := hI
  obtain ⟨u67, hI⟩ := hI
  obtain ⟨u68, hI⟩ := hI
  obtain ⟨u69, hI⟩ := hI
  obtain ⟨u70, hI⟩ := hI
  obtain ⟨u71, hI⟩ := hI
  obtain ⟨u72, hI⟩ := hI
  obtain ⟨u73, hI⟩ := hI
  obtain ⟨u74, hI⟩ := hI
  obtain ⟨u75, hI⟩ := hI
  obtain ⟨u76, hI⟩ := hI
  obtain ⟨u77, hI⟩ := hI
  obtain ⟨u78, hI⟩ := hI
  obtain ⟨u79, hI⟩ := hI
  obtain ⟨u80, hI⟩ := hI
  obtain ⟨u81, hI⟩ := hI
  obtain ⟨u82, hI⟩ := hI
  obtain ⟨u83, hI⟩ := hI
  obtain ⟨u84, hI⟩ := hI
  obtain ⟨u85, hI⟩ := hI
  obtain ⟨u86, hI⟩ := hI
  obtain ⟨u87, hI⟩ := hI
  obtain ⟨u88, hI⟩ := hI
  obtain ⟨u89, hI⟩ := hI
  obtain ⟨u90, hI⟩ := hI
  obtain ⟨u91, hI⟩ := hI
  obtain ⟨u92, hI⟩ := hI
  obtain ⟨u93, hI⟩ := hI
  obtain ⟨u94, hI⟩ := hI
  obtain ⟨u95, hI⟩ := hI
  obtain ⟨u96, hI⟩ := hI
  obtain ⟨u97, hI⟩ := hI
  obtain ⟨u98, hI⟩ := hI
  obtain ⟨u99, hI⟩ := hI
  obtain ⟨u100, hI⟩ := hI
  obtain ⟨u101, hI⟩ := hI
  obtain ⟨u102, hI⟩ := hI
  obtain ⟨u103, hI⟩ := hI
  obtain ⟨u104, hI⟩ := hI
  obtain ⟨u105, hI⟩ := hI
  obtain ⟨u106, hI⟩ := hI
  obtain ⟨u107, hI⟩ := hI
  obtain ⟨u108, hI⟩ := hI
  obtain ⟨u109, hI⟩ := hI
  obtain ⟨u110, hI⟩ := hI
  obtain ⟨u111, hI⟩ := hI
  obtain ⟨u112, hI⟩ := hI
  obtain ⟨u113, hI⟩ := hI
  obtain ⟨u114, hI⟩ := hI
  obtain ⟨u115, hI⟩ := hI
  obtain ⟨u116, hI⟩ := hI
  obtain ⟨u117, hI⟩ := hI
  obtain ⟨u118, hI⟩ := hI
  obtain ⟨u119, hI⟩ := hI
  obtain ⟨u120, hI⟩ := hI
  obtain ⟨u121, hI⟩ := hI
  obtain ⟨u122, hI⟩ := hI
  obtain ⟨u123, hI⟩ := hI
  obtain ⟨u124, hI⟩ := hI
  obtain ⟨u125, hI⟩ := hI
  obtain ⟨u126, hI⟩ := hI
  obtain ⟨u127, hI⟩ := hI
  obtain ⟨u128, hI⟩ := hI
  obtain ⟨u129, hI⟩ := hI
  obtain ⟨u130, hI⟩ := hI
  obtain ⟨u131, hI⟩ := hI
  obtain ⟨u132, hI⟩ := hI
  obtain ⟨u133, hI⟩ := hI
  obtain ⟨u134, hI⟩ := hI
  obtain ⟨u135, hI⟩ := hI
  obtain ⟨u136, hI⟩ := hI
  obtain ⟨u137, hI⟩ := hI
  obtain ⟨u138, hI⟩ := hI
  obtain ⟨u139, hI⟩ := hI
  obtain ⟨u140, hI⟩ := hI
  obtain ⟨u141, hI⟩ := hI
  obtain ⟨u142, hI⟩ := hI
  obtain ⟨u143, hI⟩ := hI
  obtain ⟨u144, hI⟩ := hI
  obtain ⟨u145, hI⟩ := hI
  obtain ⟨u146, hI⟩ := hI
  obtain ⟨u147, hI⟩ := hI
  obtain ⟨u148, hI⟩ := hI
  obtain ⟨u149, hI⟩ := hI
  obtain ⟨u150, hI⟩ := hI
  obtain ⟨u151, hI⟩ := hI
  obtain ⟨u152, hI⟩ := hI
  obtain ⟨u153, hI⟩ := hI
  obtain ⟨u154, hI⟩ := hI
  obtain ⟨u155, hI⟩ := hI
  obtain ⟨u156, hI⟩ := hI
  obtain ⟨u157, hI⟩ := hI
  obtain ⟨u158, hI⟩ := hI
  obtain ⟨u159, hI⟩ := hI
  obtain ⟨u160, hI⟩ := hI
  obtain ⟨u161, hI⟩ := hI
  obtain ⟨u162, hI⟩ := hI
  obtain ⟨u163, hI⟩ := hI
  obtain ⟨u164, hI⟩ := hI
  obtain ⟨u165, hI⟩ := hI
  obtain ⟨u166, hI⟩ := hI
  obtain ⟨u167, hI⟩ := hI
  obtain ⟨u168, hI⟩ := hI
  obtain ⟨u169, hI⟩ := hI
  obtain ⟨u170, hI⟩ := hI
  obtain ⟨u171, hI⟩ := hI
  obtain ⟨u172, hI⟩ := hI
  obtain ⟨u173, hI⟩ := hI
  obtain ⟨u174, hI⟩ := hI
  obtain ⟨u175, hI⟩ := hI
  obtain ⟨u176, hI⟩ := hI
  obtain ⟨u177, hI⟩ := hI
  obtain ⟨u178, hI⟩ := hI
  obtain ⟨u179, hI⟩ := hI
  obtain ⟨u180, hI⟩ := hI
  obtain ⟨u181, hI⟩ := hI
  obtain ⟨u182, hI⟩ := hI
  obtain ⟨u183, hI⟩ := hI
  obtain ⟨u184, hI⟩ := hI
  obtain ⟨u185, hI⟩ := hI
  obtain ⟨u186, hI⟩ := hI
  obtain ⟨u187, hI⟩ := hI
  obtain ⟨u188, hI⟩ := hI
  obtain ⟨u189, hI⟩ := hI
  obtain ⟨u190, hI⟩ := hI
  obtain ⟨u191, hI⟩ := hI
  obtain ⟨u192, hI⟩ := hI
  obtain ⟨u193, hI⟩ := hI
  obtain ⟨u194, hI⟩ := hI
  obtain ⟨u195, hI⟩ := hI
  obtain ⟨u196, hI⟩ := hI
  obtain ⟨u197, hI⟩ := hI
  obtain ⟨u198, hI⟩ := hI
  obtain ⟨u199, hI⟩ := hI
  obtain ⟨u200, hI⟩ := hI
  obtain ⟨u201, hI⟩ := hI
  obtain ⟨u202, hI⟩ := hI
  obtain ⟨u203, hI⟩ := hI
  obtain ⟨u204, hI⟩ := hI
  obtain ⟨u205, hI⟩ := hI
  obtain ⟨u206, hI⟩ := hI
  obtain ⟨u207, hI⟩ := hI
  obtain ⟨u208, hI⟩ := hI
  obtain ⟨u209, hI⟩ := hI
  obtain ⟨u210, hI⟩ := hI
  obtain ⟨u211, hI⟩ := hI
  obtain ⟨u212, hI⟩ := hI
  obtain ⟨u213, hI⟩ := hI
  obtain ⟨u214, hI⟩ := hI
  obtain ⟨u215, hI⟩ := hI
  obtain ⟨u216, hI⟩ := hI
  obtain ⟨u217, hI⟩ := hI
  obtain ⟨u218, hI⟩ := hI
  obtain ⟨u219, hI⟩ := hI
  obtain ⟨u220, hI⟩ := hI
  obtain ⟨u221, hI⟩ := hI
  obtain ⟨u222, hI⟩ := hI
  obtain ⟨u223, hI⟩ := hI
  obtain ⟨u224, hI⟩ := hI
  obtain ⟨u225, hI⟩ := hI
  obtain ⟨u226, hI⟩ := hI
  obtain ⟨u227, hI⟩ := hI
  obtain ⟨u228, hI⟩ := hI
  obtain ⟨u229, hI⟩ := hI
  obtain ⟨u230, hI⟩ := hI
  obtain ⟨u231, hI⟩ := hI
  obtain ⟨u232, hI⟩ := hI
  obtain ⟨u233, hI⟩ := hI
  obtain ⟨u234, hI⟩ := hI
  obtain ⟨u235, hI⟩ := hI
  obtain ⟨u236, hI⟩ := hI
  obtain ⟨u237, hI⟩ := hI
  obtain ⟨u238, hI⟩ := hI
  obtain ⟨u239, hI⟩ := hI
  obtain ⟨u240, hI⟩ := hI
  obtain ⟨u241, hI⟩ := hI
  obtain ⟨u242, hI⟩ := hI
  obtain ⟨u243, hI⟩ := hI
  obtain ⟨u244, hI⟩ := hI
  obtain ⟨u245, hI⟩ := hI
  obtain ⟨u246, hI⟩ := hI
  obtain ⟨u247, hI⟩ := hI
  obtain ⟨u248, hI⟩ := hI
  obtain ⟨u249, hI⟩ := hI
  obtain ⟨u250, hI⟩ := hI
  obtain ⟨u251, hI⟩ := hI
  obtain ⟨u252, hI⟩ := hI
  obtain ⟨u253, hI⟩ := hI
  obtain ⟨u254, hI⟩ := hI
  obtain ⟨u255, hI⟩ := hI
  obtain ⟨u256, hI⟩ := hI
  obtain ⟨u257, hI⟩ := hI
  obtain ⟨u258, hI⟩ := hI
  obtain ⟨u259, hI⟩ := hI
  obtain ⟨u260, hI⟩ := hI
  obtain ⟨u261, hI⟩ := hI
  obtain ⟨u262, hI⟩ := hI
  obtain ⟨u263, hI⟩ := hI
  obtain ⟨u264, hI⟩ := hI
  obtain ⟨u265, hI⟩ := hI
  obtain ⟨u266, hI⟩ := hI
  obtain ⟨u267, hI⟩ := hI
  obtain ⟨u268, hI⟩ := hI
  obtain ⟨u269, hI⟩ := hI
  obtain ⟨u270, hI⟩ := hI
  obtain ⟨u271, hI⟩ := hI
  obtain ⟨u272, hI⟩ := hI
  obtain ⟨u273, hI⟩ := hI
  obtain ⟨u274, hI⟩ := hI
  obtain ⟨u275, hI⟩ := hI
  obtain ⟨u276, hI⟩ := hI
  obtain ⟨u277, hI⟩ := hI
  obtain ⟨u278, hI⟩ := hI
  obtain ⟨u279, hI⟩ := hI
  obtain ⟨u280, hI⟩ := hI
  obtain ⟨u281, hI⟩ := hI
  obtain ⟨u282, hI⟩ := hI
  obtain ⟨u283, hI⟩ := hI
  obtain ⟨u284, hI⟩ := hI
  obtain ⟨u285, hI⟩ := hI
  obtain ⟨u286, hI⟩ := hI
  obtain ⟨u287, hI⟩ := hI
  obtain ⟨u288, hI⟩ := hI
  obtain ⟨u289, hI⟩ := hI
  obtain ⟨u290, hI⟩ := hI
  obtain ⟨u291, hI⟩ := hI
  obtain ⟨u292, hI⟩ := hI
  subst hI
  by_cases hkn : k < s.size
  · obtain ⟨c, q, hc, hc0, hc1⟩ := byte_at2 s k hkn
    by_cases h92 : c = 92
    · subst h92
      by_cases hk2 : k + 1 < s.size
      · obtain ⟨c2, q2, hc2, h20, h21⟩ := byte_at2 s (k + 1) hk2
        by_cases n97 : c2 = 97
        · subst n97
          exact round_esc97 u6 u7 u11 u12 u13 u14 u15 u16 u17 u18 u19 u20 u21 u22 u23 u24 u25 u26 u27 u30 u31 u32 u33 u34 u35 u36 u37 u38 u39 u40 u41 u42 u43 u44 u45 u46 u47 u48 u49 u50 u51 u52 u53 u54 u55 u56 u57 u58 u59 u60 u61 u62 u63 u64 u65 u66 u67 u68 u69 u70 u71 u72 u73 u74 u75 u76 u77 u78 u79 u80 u81 u82 u83 u84 u85 u86 u87 u88 u89 u90 u91 u92 u93 u94 u95 u96 u97 u98 u99 u100 u101 u102 u103 u104 u105 u106 u107 u108 u109 u110 u111 u112 u113 u114 u115 u116 u117 u118 u119 u120 u121 u122 u123 u124 u125 u126 u127 u128 u129 u130 u131 u132 u133 u134 u135 u136 u137 u138 u139 u140 u141 u142 u143 u144 u145 u146 u147 u148 u149 u150 u151 u152 u153 u154 u155 u156 u157 u158 u159 u160 u161 u162 u163 u164 u165 u166 u167 u168 u169 u170 u171 u172 u173 u174 u175 u176 u177 u178 u179 u180 u181 u182 u183 u184 u185 u186 u187 u188 u189 u190 u191 u192 u193 u194 u195 u196 u197 u198 u199 u200 u201 u202 u203 u204 u205 u206 u207 u208 u209 u210 u211 u212 u213 u214 u215 u216 u217 u218 u219 u220 u221 u222 u223 u224 u225 u226 u227 u228 u229 u230 u231 u232 u233 u234 u235 u236 u237 u238 u239 u240 u241 u242 u243 u244 u245 u246 u247 u248 u249 u250 u251 u252 u253 u254 u255 u256 u257 u258 u259 u260 u261 u262 u263 u264 u265 u266 u267 u268 u269 u270 u271 u272 u273 u274 u275 u276 u277 u278 u279 u280 u281 u282 u283 u284 u285 u286 u287 u288 u289 u290 u291 u292 hs hn hE h5 H hkn q hc hk2 q2 hc2
        by_cases n98 : c2 = 98
        · subst n98
          exact round_esc98 u6 u7 u11 u12 u13 u14 u15 u16 u17 u18 u19 u20 u21 u22 u23 u24 u25 u26 u27 u30 u31 u32 u33 u34 u35 u36 u37 u38 u39 u40 u41 u42 u43 u44 u45 u46 u47 u48 u49 u50 u51 u52 u53 u54 u55 u56 u57 u58 u59 u60 u61 u62 u63 u64 u65 u66 u67 u68 u69 u70 u71 u72 u73 u74 u75 u76 u77 u78 u79 u80 u81 u82 u83 u84 u85 u86 u87 u88 u89 u90 u91 u92 u93 u94 u95 u96 u97 u98 u99 u100 u101 u102 u103 u104 u105 u106 u107 u108 u109 u110 u111 u112 u113 u114 u115 u116 u117 u118 u119 u120 u121 u122 u123 u124 u125 u126 u127 u128 u129 u130 u131 u132 u133 u134 u135 u136 u137 u138 u139 u140 u141 u142 u143 u144 u145 u146 u147 u148 u149 u150 u151 u152 u153 u154 u155 u156 u157 u158 u159 u160 u161 u162 u163 u164 u165 u166 u167 u168 u169 u170 u171 u172 u173 u174 u175 u176 u177 u178 u179 u180 u181 u182 u183 u184 u185 u186 u187 u188 u189 u190 u191 u192 u193 u194 u195 u196 u197 u198 u199 u200 u201 u202 u203 u204 u205 u206 u207 u208 u209 u210 u211 u212 u213 u214 u215 u216 u217 u218 u219 u220 u221 u222 u223 u224 u225 u226 u227 u228 u229 u230 u231 u232 u233 u234 u235 u236 u237 u238 u239 u240 u241 u242 u243 u244 u245 u246 u247 u248 u249 u250 u251 u252 u253 u254 u255 u256 u257 u258 u259 u260 u261 u262 u263 u264 u265 u266 u267 u268 u269 u270 u271 u272 u273 u274 u275 u276 u277 u278 u279 u280 u281 u282 u283 u284 u285 u286 u287 u288 u289 u290 u291 u292 hs hn hE h5 H hkn q hc hk2 q2 hc2
        by_cases n101 : c2 = 101
        · subst n101
          exact round_esc101 u6 u7 u11 u12 u13 u14 u15 u16 u17 u18 u19 u20 u21 u22 u23 u24 u25 u26 u27 u30 u31 u32 u33 u34 u35 u36 u37 u38 u39 u40 u41 u42 u43 u44 u45 u46 u47 u48 u49 u50 u51 u52 u53 u54 u55 u56 u57 u58 u59 u60 u61 u62 u63 u64 u65 u66 u67 u68 u69 u70 u71 u72 u73 u74 u75 u76 u77 u78 u79 u80 u81 u82 u83 u84 u85 u86 u87 u88 u89 u90 u91 u92 u93 u94 u95 u96 u97 u98 u99 u100 u101 u102 u103 u104 u105 u106 u107 u108 u109 u110 u111 u112 u113 u114 u115 u116 u117 u118 u119 u120 u121 u122 u123 u124 u125 u126 u127 u128 u129 u130 u131 u132 u133 u134 u135 u136 u137 u138 u139 u140 u141 u142 u143 u144 u145 u146 u147 u148 u149 u150 u151 u152 u153 u154 u155 u156 u157 u158 u159 u160 u161 u162 u163 u164 u165 u166 u167 u168 u169 u170 u171 u172 u173 u174 u175 u176 u177 u178 u179 u180 u181 u182 u183 u184 u185 u186 u187 u188 u189 u190 u191 u192 u193 u194 u195 u196 u197 u198 u199 u200 u201 u202 u203 u204 u205 u206 u207 u208 u209 u210 u211 u212 u213 u214 u215 u216 u217 u218 u219 u220 u221 u222 u223 u224 u225 u226 u227 u228 u229 u230 u231 u232 u233 u234 u235 u236 u237 u238 u239 u240 u241 u242 u243 u244 u245 u246 u247 u248 u249 u250 u251 u252 u253 u254 u255 u256 u257 u258 u259 u260 u261 u262 u263 u264 u265 u266 u267 u268 u269 u270 u271 u272 u273 u274 u275 u276 u277 u278 u279 u280 u281 u282 u283 u284 u285 u286 u287 u288 u289 u290 u291 u292 hs hn hE h5 H hkn q hc hk2 q2 hc2
        by_cases n69 : c2 = 69
        · subst n69
          exact round_esc69 u6 u7 u11 u12 u13 u14 u15 u16 u17 u18 u19 u20 u21 u22 u23 u24 u25 u26 u27 u30 u31 u32 u33 u34 u35 u36 u37 u38 u39 u40 u41 u42 u43 u44 u45 u46 u47 u48 u49 u50 u51 u52 u53 u54 u55 u56 u57 u58 u59 u60 u61 u62 u63 u64 u65 u66 u67 u68 u69 u70 u71 u72 u73 u74 u75 u76 u77 u78 u79 u80 u81 u82 u83 u84 u85 u86 u87 u88 u89 u90 u91 u92 u93 u94 u95 u96 u97 u98 u99 u100 u101 u102 u103 u104 u105 u106 u107 u108 u109 u110 u111 u112 u113 u114 u115 u116 u117 u118 u119 u120 u121 u122 u123 u124 u125 u126 u127 u128 u129 u130 u131 u132 u133 u134 u135 u136 u137 u138 u139 u140 u141 u142 u143 u144 u145 u146 u147 u148 u149 u150 u151 u152 u153 u154 u155 u156 u157 u158 u159 u160 u161 u162 u163 u164 u165 u166 u167 u168 u169 u170 u171 u172 u173 u174 u175 u176 u177 u178 u179 u180 u181 u182 u183 u184 u185 u186 u187 u188 u189 u190 u191 u192 u193 u194 u195 u196 u197 u198 u199 u200 u201 u202 u203 u204 u205 u206 u207 u208 u209 u210 u211 u212 u213 u214 u215 u216 u217 u218 u219 u220 u221 u222 u223 u224 u225 u226 u227 u228 u229 u230 u231 u232 u233 u234 u235 u236 u237 u238 u239 u240 u241 u242 u243 u244 u245 u246 u247 u248 u249 u250 u251 u252 u253 u254 u255 u256 u257 u258 u259 u260 u261 u262 u263 u264 u265 u266 u267 u268 u269 u270 u271 u272 u273 u274 u275 u276 u277 u278 u279 u280 u281 u282 u283 u284 u285 u286 u287 u288 u289 u290 u291 u292 hs hn hE h5 H hkn q hc hk2 q2 hc2
        by_cases n102 : c2 = 102
        · subst n102
          exact round_esc102 u6 u7 u11 u12 u13 u14 u15 u16 u17 u18 u19 u20 u21 u22 u23 u24 u25 u26 u27 u30 u31 u32 u33 u34 u35 u36 u37 u38 u39 u40 u41 u42 u43 u44 u45 u46 u47 u48 u49 u50 u51 u52 u53 u54 u55 u56 u57 u58 u59 u60 u61 u62 u63 u64 u65 u66 u67 u68 u69 u70 u71 u72 u73 u74 u75 u76 u77 u78 u79 u80 u81 u82 u83 u84 u85 u86 u87 u88 u89 u90 u91 u92 u93 u94 u95 u96 u97 u98 u99 u100 u101 u102 u103 u104 u105 u106 u107 u108 u109 u110 u111 u112 u113 u114 u115 u116 u117 u118 u119 u120 u121 u122 u123 u124 u125 u126 u127 u128 u129 u130 u131 u132 u133 u134 u135 u136 u137 u138 u139 u140 u141 u142 u143 u144 u145 u146 u147 u148 u149 u150 u151 u152 u153 u154 u155 u156 u157 u158 u159 u160 u161 u162 u163 u164 u165 u166 u167 u168 u169 u170 u171 u172 u173 u174 u175 u176 u177 u178 u179 u180 u181 u182 u183 u184 u185 u186 u187 u188 u189 u190 u191 u192 u193 u194 u195 u196 u197 u198 u199 u200 u201 u202 u203 u204 u205 u206 u207 u208 u209 u210 u211 u212 u213 u214 u215 u216 u217 u218 u219 u220 u221 u222 u223 u224 u225 u226 u227 u228 u229 u230 u231 u232 u233 u234 u235 u236 u237 u238 u239 u240 u241 u242 u243 u244 u245 u246 u247 u248 u249 u250 u251 u252 u253 u254 u255 u256 u257 u258 u259 u260 u261 u262 u263 u264 u265 u266 u267 u268 u269 u270 u271 u272 u273 u274 u275 u276 u277 u278 u279 u280 u281 u282 u283 u284 u285 u286 u287 u288 u289 u290 u291 u292 hs hn hE h5 H hkn q hc hk2 q2 hc2
        by_cases n110 : c2 = 110
        · subst n110
          exact round_esc110 u6 u7 u11 u12 u13 u14 u15 u16 u17 u18 u19 u20 u21 u22 u23 u24 u25 u26 u27 u30 u31 u32 u33 u34 u35 u36 u37 u38 u39 u40 u41 u42 u43 u44 u45 u46 u47 u48 u49 u50 u51 u52 u53 u54 u55 u56 u57 u58 u59 u60 u61 u62 u63 u64 u65 u66 u67 u68 u69 u70 u71 u72 u73 u74 u75 u76 u77 u78 u79 u80 u81 u82 u83 u84 u85 u86 u87 u88 u89 u90 u91 u92 u93 u94 u95 u96 u97 u98 u99 u100 u101 u102 u103 u104 u105 u106 u107 u108 u109 u110 u111 u112 u113 u114 u115 u116 u117 u118 u119 u120 u121 u122 u123 u124 u125 u126 u127 u128 u129 u130 u131 u132 u133 u134 u135 u136 u137 u138 u139 u140 u141 u142 u143 u144 u145 u146 u147 u148 u149 u150 u151 u152 u153 u154 u155 u156 u157 u158 u159 u160 u161 u162 u163 u164 u165 u166 u167 u168 u169 u170 u171 u172 u173 u174 u175 u176 u177 u178 u179 u180 u181 u182 u183 u184 u185 u186 u187 u188 u189 u190 u191 u192 u193 u194 u195 u196 u197 u198 u199 u200 u201 u202 u203 u204 u205 u206 u207 u208 u209 u210 u211 u212 u213 u214 u215 u216 u217 u218 u219 u220 u221 u222 u223 u224 u225 u226 u227 u228 u229 u230 u231 u232 u233 u234 u235 u236 u237 u238 u239 u240 u241 u242 u243 u244 u245 u246 u247 u248 u249 u250 u251 u252 u253 u254 u255 u256 u257 u258 u259 u260 u261 u262 u263 u264 u265 u266 u267 u268 u269 u270 u271 u272 u273 u274 u275 u276 u277 u278 u279 u280 u281 u282 u283 u284 u285 u286 u287 u288 u289 u290 u291 u292 hs hn hE h5 H hkn q hc hk2 q2 hc2
        by_cases n114 : c2 = 114
        · subst n114
          exact round_esc114 u6 u7 u11 u12 u13 u14 u15 u16 u17 u18 u19 u20 u21 u22 u23 u24 u25 u26 u27 u30 u31 u32 u33 u34 u35 u36 u37 u38 u39 u40 u41 u42 u43 u44 u45 u46 u47 u48 u49 u50 u51 u52 u53 u54 u55 u56 u57 u58 u59 u60 u61 u62 u63 u64 u65 u66 u67 u68 u69 u70 u71 u72 u73 u74 u75 u76 u77 u78 u79 u80 u81 u82 u83 u84 u85 u86 u87 u88 u89 u90 u91 u92 u93 u94 u95 u96 u97 u98 u99 u100 u101 u102 u103 u104 u105 u106 u107 u108 u109 u110 u111 u112 u113 u114 u115 u116 u117 u118 u119 u120 u121 u122 u123 u124 u125 u126 u127 u128 u129 u130 u131 u132 u133 u134 u135 u136 u137 u138 u139 u140 u141 u142 u143 u144 u145 u146 u147 u148 u149 u150 u151 u152 u153 u154 u155 u156 u157 u158 u159 u160 u161 u162 u163 u164 u165 u166 u167 u168 u169 u170 u171 u172 u173 u174 u175 u176 u177 u178 u179 u180 u181 u182 u183 u184 u185 u186 u187 u188 u189 u190 u191 u192 u193 u194 u195 u196 u197 u198 u199 u200 u201 u202 u203 u204 u205 u206 u207 u208 u209 u210 u211 u212 u213 u214 u215 u216 u217 u218 u219 u220 u221 u222 u223 u224 u225 u226 u227 u228 u229 u230 u231 u232 u233 u234 u235 u236 u237 u238 u239 u240 u241 u242 u243 u244 u245 u246 u247 u248 u249 u250 u251 u252 u253 u254 u255 u256 u257 u258 u259 u260 u261 u262 u263 u264 u265 u266 u267 u268 u269 u270 u271 u272 u273 u274 u275 u276 u277 u278 u279 u280 u281 u282 u283 u284 u285 u286 u287 u288 u289 u290 u291 u292 hs hn hE h5 H hkn q hc hk2 q2 hc2
        by_cases n116 : c2 = 116
        · subst n116
          exact round_esc116 u6 u7 u11 u12 u13 u14 u15 u16 u17 u18 u19 u20 u21 u22 u23 u24 u25 u26 u27 u30 u31 u32 u33 u34 u35 u36 u37 u38 u39 u40 u41 u42 u43 u44 u45 u46 u47 u48 u49 u50 u51 u52 u53 u54 u55 u56 u57 u58 u59 u60 u61 u62 u63 u64 u65 u66 u67 u68 u69 u70 u71 u72 u73 u74 u75 u76 u77 u78 u79 u80 u81 u82 u83 u84 u85 u86 u87 u88 u89 u90 u91 u92 u93 u94 u95 u96 u97 u98 u99 u100 u101 u102 u103 u104 u105 u106 u107 u108 u109 u110 u111 u112 u113 u114 u115 u116 u117 u118 u119 u120 u121 u122 u123 u124 u125 u126 u127 u128 u129 u130 u131 u132 u133 u134 u135 u136 u137 u138 u139 u140 u141 u142 u143 u144 u145 u146 u147 u148 u149 u150 u151 u152 u153 u154 u155 u156 u157 u158 u159 u160 u161 u162 u163 u164 u165 u166 u167 u168 u169 u170 u171 u172 u173 u174 u175 u176 u177 u178 u179 u180 u181 u182 u183 u184 u185 u186 u187 u188 u189 u190 u191 u192 u193 u194 u195 u196 u197 u198 u199 u200 u201 u202 u203 u204 u205 u206 u207 u208 u209 u210 u211 u212 u213 u214 u215 u216 u217 u218 u219 u220 u221 u222 u223 u224 u225 u226 u227 u228 u229 u230 u231 u232 u233 u234 u235 u236 u237 u238 u239 u240 u241 u242 u243 u244 u245 u246 u247 u248 u249 u250 u251 u252 u253 u254 u255 u256 u257 u258 u259 u260 u261 u262 u263 u264 u265 u266 u267 u268 u269 u270 u271 u272 u273 u274 u275 u276 u277 u278 u279 u280 u281 u282 u283 u284 u285 u286 u287 u288 u289 u290 u291 u292 hs hn hE h5 H hkn q hc hk2 q2 hc2
        by_cases n118 : c2 = 118
        · subst n118
          exact round_esc118 u6 u7 u11 u12 u13 u14 u15 u16 u17 u18 u19 u20 u21 u22 u23 u24 u25 u26 u27 u30 u31 u32 u33 u34 u35 u36 u37 u38 u39 u40 u41 u42 u43 u44 u45 u46 u47 u48 u49 u50 u51 u52 u53 u54 u55 u56 u57 u58 u59 u60 u61 u62 u63 u64 u65 u66 u67 u68 u69 u70 u71 u72 u73 u74 u75 u76 u77 u78 u79 u80 u81 u82 u83 u84 u85 u86 u87 u88 u89 u90 u91 u92 u93 u94 u95 u96 u97 u98 u99 u100 u101 u102 u103 u104 u105 u106 u107 u108 u109 u110 u111 u112 u113 u114 u115 u116 u117 u118 u119 u120 u121 u122 u123 u124 u125 u126 u127 u128 u129 u130 u131 u132 u133 u134 u135 u136 u137 u138 u139 u140 u141 u142 u143 u144 u145 u146 u147 u148 u149 u150 u151 u152 u153 u154 u155 u156 u157 u158 u159 u160 u161 u162 u163 u164 u165 u166 u167 u168 u169 u170 u171 u172 u173 u174 u175 u176 u177 u178 u179 u180 u181 u182 u183 u184 u185 u186 u187 u188 u189 u190 u191 u192 u193 u194 u195 u196 u197 u198 u199 u200 u201 u202 u203 u204 u205 u206 u207 u208 u209 u210 u211 u212 u213 u214 u215 u216 u217 u218 u219 u220 u221 u222 u223 u224 u225 u226 u227 u228 u229 u230 u231 u232 u233 u234 u235 u236 u237 u238 u239 u240 u241 u242 u243 u244 u245 u246 u247 u248 u249 u250 u251 u252 u253 u254 u255 u256 u257 u258 u259 u260 u261 u262 u263 u264 u265 u266 u267 u268 u269 u270 u271 u272 u273 u274 u275 u276 u277 u278 u279 u280 u281 u282 u283 u284 u285 u286 u287 u288 u289 u290 u291 u292 hs hn hE h5 H hkn q hc hk2 q2 hc2
        by_cases n92 : c2 = 92
        · subst n92
          exact round_esc92 u6 u7 u11 u12 u13 u14 u15 u16 u17 u18 u19 u20 u21 u22 u23 u24 u25 u26 u27 u30 u31 u32 u33 u34 u35 u36 u37 u38 u39 u40 u41 u42 u43 u44 u45 u46 u47 u48 u49 u50 u51 u52 u53 u54 u55 u56 u57 u58 u59 u60 u61 u62 u63 u64 u65 u66 u67 u68 u69 u70 u71 u72 u73 u74 u75 u76 u77 u78 u79 u80 u81 u82 u83 u84 u85 u86 u87 u88 u89 u90 u91 u92 u93 u94 u95 u96 u97 u98 u99 u100 u101 u102 u103 u104 u105 u106 u107 u108 u109 u110 u111 u112 u113 u114 u115 u116 u117 u118 u119 u120 u121 u122 u123 u124 u125 u126 u127 u128 u129 u130 u131 u132 u133 u134 u135 u136 u137 u138 u139 u140 u141 u142 u143 u144 u145 u146 u147 u148 u149 u150 u151 u152 u153 u154 u155 u156 u157 u158 u159 u160 u161 u162 u163 u164 u165 u166 u167 u168 u169 u170 u171 u172 u173 u174 u175 u176 u177 u178 u179 u180 u181 u182 u183 u184 u185 u186 u187 u188 u189 u190 u191 u192 u193 u194 u195 u196 u197 u198 u199 u200 u201 u202 u203 u204 u205 u206 u207 u208 u209 u210 u211 u212 u213 u214 u215 u216 u217 u218 u219 u220 u221 u222 u223 u224 u225 u226 u227 u228 u229 u230 u231 u232 u233 u234 u235 u236 u237 u238 u239 u240 u241 u242 u243 u244 u245 u246 u247 u248 u249 u250 u251 u252 u253 u254 u255 u256 u257 u258 u259 u260 u261 u262 u263 u264 u265 u266 u267 u268 u269 u270 u271 u272 u273 u274 u275 u276 u277 u278 u279 u280 u281 u282 u283 u284 u285 u286 u287 u288 u289 u290 u291 u292 hs hn hE h5 H hkn q hc hk2 q2 hc2
        by_cases n39 : c2 = 39
        · subst n39
          exact round_esc39 u6 u7 u11 u12 u13 u14 u15 u16 u17 u18 u19 u20 u21 u22 u23 u24 u25 u26 u27 u30 u31 u32 u33 u34 u35 u36 u37 u38 u39 u40 u41 u42 u43 u44 u45 u46 u47 u48 u49 u50 u51 u52 u53 u54 u55 u56 u57 u58 u59 u60 u61 u62 u63 u64 u65 u66 u67 u68 u69 u70 u71 u72 u73 u74 u75 u76 u77 u78 u79 u80 u81 u82 u83 u84 u85 u86 u87 u88 u89 u90 u91 u92 u93 u94 u95 u96 u97 u98 u99 u100 u101 u102 u103 u104 u105 u106 u107 u108 u109 u110 u111 u112 u113 u114 u115 u116 u117 u118 u119 u120 u121 u122 u123 u124 u125 u126 u127 u128 u129 u130 u131 u132 u133 u134 u135 u136 u137 u138 u139 u140 u141 u142 u143 u144 u145 u146 u147 u148 u149 u150 u151 u152 u153 u154 u155 u156 u157 u158 u159 u160 u161 u162 u163 u164 u165 u166 u167 u168 u169 u170 u171 u172 u173 u174 u175 u176 u177 u178 u179 u180 u181 u182 u183 u184 u185 u186 u187 u188 u189 u190 u191 u192 u193 u194 u195 u196 u197 u198 u199 u200 u201 u202 u203 u204 u205 u206 u207 u208 u209 u210 u211 u212 u213 u214 u215 u216 u217 u218 u219 u220 u221 u222 u223 u224 u225 u226 u227 u228 u229 u230 u231 u232 u233 u234 u235 u236 u237 u238 u239 u240 u241 u242 u243 u244 u245 u246 u247 u248 u249 u250 u251 u252 u253 u254 u255 u256 u257 u258 u259 u260 u261 u262 u263 u264 u265 u266 u267 u268 u269 u270 u271 u272 u273 u274 u275 u276 u277 u278 u279 u280 u281 u282 u283 u284 u285 u286 u287 u288 u289 u290 u291 u292 hs hn hE h5 H hkn q hc hk2 q2 hc2
        by_cases n34 : c2 = 34
        · subst n34
          exact round_esc34 u6 u7 u11 u12 u13 u14 u15 u16 u17 u18 u19 u20 u21 u22 u23 u24 u25 u26 u27 u30 u31 u32 u33 u34 u35 u36 u37 u38 u39 u40 u41 u42 u43 u44 u45 u46 u47 u48 u49 u50 u51 u52 u53 u54 u55 u56 u57 u58 u59 u60 u61 u62 u63 u64 u65 u66 u67 u68 u69 u70 u71 u72 u73 u74 u75 u76 u77 u78 u79 u80 u81 u82 u83 u84 u85 u86 u87 u88 u89 u90 u91 u92 u93 u94 u95 u96 u97 u98 u99 u100 u101 u102 u103 u104 u105 u106 u107 u108 u109 u110 u111 u112 u113 u114 u115 u116 u117 u118 u119 u120 u121 u122 u123 u124 u125 u126 u127 u128 u129 u130 u131 u132 u133 u134 u135 u136 u137 u138 u139 u140 u141 u142 u143 u144 u145 u146 u147 u148 u149 u150 u151 u152 u153 u154 u155 u156 u157 u158 u159 u160 u161 u162 u163 u164 u165 u166 u167 u168 u169 u170 u171 u172 u173 u174 u175 u176 u177 u178 u179 u180 u181 u182 u183 u184 u185 u186 u187 u188 u189 u190 u191 u192 u193 u194 u195 u196 u197 u198 u199 u200 u201 u202 u203 u204 u205 u206 u207 u208 u209 u210 u211 u212 u213 u214 u215 u216 u217 u218 u219 u220 u221 u222 u223 u224 u225 u226 u227 u228 u229 u230 u231 u232 u233 u234 u235 u236 u237 u238 u239 u240 u241 u242 u243 u244 u245 u246 u247 u248 u249 u250 u251 u252 u253 u254 u255 u256 u257 u258 u259 u260 u261 u262 u263 u264 u265 u266 u267 u268 u269 u270 u271 u272 u273 u274 u275 u276 u277 u278 u279 u280 u281 u282 u283 u284 u285 u286 u287 u288 u289 u290 u291 u292 hs hn hE h5 H hkn q hc hk2 q2 hc2
        by_cases n63 : c2 = 63
        · subst n63
          exact round_esc63 u6 u7 u11 u12 u13 u14 u15 u16 u17 u18 u19 u20 u21 u22 u23 u24 u25 u26 u27 u30 u31 u32 u33 u34 u35 u36 u37 u38 u39 u40 u41 u42 u43 u44 u45 u46 u47 u48 u49 u50 u51 u52 u53 u54 u55 u56 u57 u58 u59 u60 u61 u62 u63 u64 u65 u66 u67 u68 u69 u70 u71 u72 u73 u74 u75 u76 u77 u78 u79 u80 u81 u82 u83 u84 u85 u86 u87 u88 u89 u90 u91 u92 u93 u94 u95 u96 u97 u98 u99 u100 u101 u102 u103 u104 u105 u106 u107 u108 u109 u110 u111 u112 u113 u114 u115 u116 u117 u118 u119 u120 u121 u122 u123 u124 u125 u126 u127 u128 u129 u130 u131 u132 u133 u134 u135 u136 u137 u138 u139 u140 u141 u142 u143 u144 u145 u146 u147 u148 u149 u150 u151 u152 u153 u154 u155 u156 u157 u158 u159 u160 u161 u162 u163 u164 u165 u166 u167 u168 u169 u170 u171 u172 u173 u174 u175 u176 u177 u178 u179 u180 u181 u182 u183 u184 u185 u186 u187 u188 u189 u190 u191 u192 u193 u194 u195 u196 u197 u198 u199 u200 u201 u202 u203 u204 u205 u206 u207 u208 u209 u210 u211 u212 u213 u214 u215 u216 u217 u218 u219 u220 u221 u222 u223 u224 u225 u226 u227 u228 u229 u230 u231 u232 u233 u234 u235 u236 u237 u238 u239 u240 u241 u242 u243 u244 u245 u246 u247 u248 u249 u250 u251 u252 u253 u254 u255 u256 u257 u258 u259 u260 u261 u262 u263 u264 u265 u266 u267 u268 u269 u270 u271 u272 u273 u274 u275 u276 u277 u278 u279 u280 u281 u282 u283 u284 u285 u286 u287 u288 u289 u290 u291 u292 hs hn hE h5 H hkn q hc hk2 q2 hc2
        by_cases n48 : c2 = 48
        · subst n48
          exact round_oct48 u6 u7 u11 u12 u13 u14 u15 u16 u17 u18 u19 u20 u21 u22 u23 u24 u25 u26 u27 u30 u31 u32 u33 u34 u35 u36 u37 u38 u39 u40 u41 u42 u43 u44 u45 u46 u47 u48 u49 u50 u51 u52 u53 u54 u55 u56 u57 u58 u59 u60 u61 u62 u63 u64 u65 u66 u67 u68 u69 u70 u71 u72 u73 u74 u75 u76 u77 u78 u79 u80 u81 u82 u83 u84 u85 u86 u87 u88 u89 u90 u91 u92 u93 u94 u95 u96 u97 u98 u99 u100 u101 u102 u103 u104 u105 u106 u107 u108 u109 u110 u111 u112 u113 u114 u115 u116 u117 u118 u119 u120 u121 u122 u123 u124 u125 u126 u127 u128 u129 u130 u131 u132 u133 u134 u135 u136 u137 u138 u139 u140 u141 u142 u143 u144 u145 u146 u147 u148 u149 u150 u151 u152 u153 u154 u155 u156 u157 u158 u159 u160 u161 u162 u163 u164 u165 u166 u167 u168 u169 u170 u171 u172 u173 u174 u175 u176 u177 u178 u179 u180 u181 u182 u183 u184 u185 u186 u187 u188 u189 u190 u191 u192 u193 u194 u195 u196 u197 u198 u199 u200 u201 u202 u203 u204 u205 u206 u207 u208 u209 u210 u211 u212 u213 u214 u215 u216 u217 u218 u219 u220 u221 u222 u223 u224 u225 u226 u227 u228 u229 u230 u231 u232 u233 u234 u235 u236 u237 u238 u239 u240 u241 u242 u243 u244 u245 u246 u247 u248 u249 u250 u251 u252 u253 u254 u255 u256 u257 u258 u259 u260 u261 u262 u263 u264 u265 u266 u267 u268 u269 u270 u271 u272 u273 u274 u275 u276 u277 u278 u279 u280 u281 u282 u283 u284 u285 u286 u287 u288 u289 u290 u291 u292 hs hn hE h5 H hkn q hc hk2 q2 hc2
        by_cases n49 : c2 = 49
        · subst n49
          exact round_oct49 u6 u7 u11 u12 u13 u14 u15 u16 u17 u18 u19 u20 u21 u22 u23 u24 u25 u26 u27 u30 u31 u32 u33 u34 u35 u36 u37 u38 u39 u40 u41 u42 u43 u44 u45 u46 u47 u48 u49 u50 u51 u52 u53 u54 u55 u56 u57 u58 u59 u60 u61 u62 u63 u64 u65 u66 u67 u68 u69 u70 u71 u72 u73 u74 u75 u76 u77 u78 u79 u80 u81 u82 u83 u84 u85 u86 u87 u88 u89 u90 u91 u92 u93 u94 u95 u96 u97 u98 u99 u100 u101 u102 u103 u104 u105 u106 u107 u108 u109 u110 u111 u112 u113 u114 u115 u116 u117 u118 u119 u120 u121 u122 u123 u124 u125 u126 u127 u128 u129 u130 u131 u132 u133 u134 u135 u136 u137 u138 u139 u140 u141 u142 u143 u144 u145 u146 u147 u148 u149 u150 u151 u152 u153 u154 u155 u156 u157 u158 u159 u160 u161 u162 u163 u164 u165 u166 u167 u168 u169 u170 u171 u172 u173 u174 u175 u176 u177 u178 u179 u180 u181 u182 u183 u184 u185 u186 u187 u188 u189 u190 u191 u192 u193 u194 u195 u196 u197 u198 u199 u200 u201 u202 u203 u204 u205 u206 u207 u208 u209 u210 u211 u212 u213 u214 u215 u216 u217 u218 u219 u220 u221 u222 u223 u224 u225 u226 u227 u228 u229 u230 u231 u232 u233 u234 u235 u236 u237 u238 u239 u240 u241 u242 u243 u244 u245 u246 u247 u248 u249 u250 u251 u252 u253 u254 u255 u256 u257 u258 u259 u260 u261 u262 u263 u264 u265 u266 u267 u268 u269 u270 u271 u272 u273 u274 u275 u276 u277 u278 u279 u280 u281 u282 u283 u284 u285 u286 u287 u288 u289 u290 u291 u292 hs hn hE h5 H hkn q hc hk2 q2 hc2
        by_cases n50 : c2 = 50
        · subst n50
          exact round_oct50 u6 u7 u11 u12 u13 u14 u15 u16 u17 u18 u19 u20 u21 u22 u23 u24 u25 u26 u27 u30 u31 u32 u33 u34 u35 u36 u37 u38 u39 u40 u41 u42 u43 u44 u45 u46 u47 u48 u49 u50 u51 u52 u53 u54 u55 u56 u57 u58 u59 u60 u61 u62 u63 u64 u65 u66 u67 u68 u69 u70 u71 u72 u73 u74 u75 u76 u77 u78 u79 u80 u81 u82 u83 u84 u85 u86 u87 u88 u89 u90 u91 u92 u93 u94 u95 u96 u97 u98 u99 u100 u101 u102 u103 u104 u105 u106 u107 u108 u109 u110 u111 u112 u113 u114 u115 u116 u117 u118 u119 u120 u121 u122 u123 u124 u125 u126 u127 u128 u129 u130 u131 u132 u133 u134 u135 u136 u137 u138 u139 u140 u141 u142 u143 u144 u145 u146 u147 u148 u149 u150 u151 u152 u153 u154 u155 u156 u157 u158 u159 u160 u161 u162 u163 u164 u165 u166 u167 u168 u169 u170 u171 u172 u173 u174 u175 u176 u177 u178 u179 u180 u181 u182 u183 u184 u185 u186 u187 u188 u189 u190 u191 u192 u193 u194 u195 u196 u197 u198 u199 u200 u201 u202 u203 u204 u205 u206 u207 u208 u209 u210 u211 u212 u213 u214 u215 u216 u217 u218 u219 u220 u221 u222 u223 u224 u225 u226 u227 u228 u229 u230 u231 u232 u233 u234 u235 u236 u237 u238 u239 u240 u241 u242 u243 u244 u245 u246 u247 u248 u249 u250 u251 u252 u253 u254 u255 u256 u257 u258 u259 u260 u261 u262 u263 u264 u265 u266 u267 u268 u269 u270 u271 u272 u273 u274 u275 u276 u277 u278 u279 u280 u281 u282 u283 u284 u285 u286 u287 u288 u289 u290 u291 u292 hs hn hE h5 H hkn q hc hk2 q2 hc2
        by_cases n51 : c2 = 51
        · subst n51
          exact round_oct51 u6 u7 u11 u12 u13 u14 u15 u16 u17 u18 u19 u20 u21 u22 u23 u24 u25 u26 u27 u30 u31 u32 u33 u34 u35 u36 u37 u38 u39 u40 u41 u42 u43 u44 u45 u46 u47 u48 u49 u50 u51 u52 u53 u54 u55 u56 u57 u58 u59 u60 u61 u62 u63 u64 u65 u66 u67 u68 u69 u70 u71 u72 u73 u74 u75 u76 u77 u78 u79 u80 u81 u82 u83 u84 u85 u86 u87 u88 u89 u90 u91 u92 u93 u94 u95 u96 u97 u98 u99 u100 u101 u102 u103 u104 u105 u106 u107 u108 u109 u110 u111 u112 u113 u114 u115 u116 u117 u118 u119 u120 u121 u122 u123 u124 u125 u126 u127 u128 u129 u130 u131 u132 u133 u134 u135 u136 u137 u138 u139 u140 u141 u142 u143 u144 u145 u146 u147 u148 u149 u150 u151 u152 u153 u154 u155 u156 u157 u158 u159 u160 u161 u162 u163 u164 u165 u166 u167 u168 u169 u170 u171 u172 u173 u174 u175 u176 u177 u178 u179 u180 u181 u182 u183 u184 u185 u186 u187 u188 u189 u190 u191 u192 u193 u194 u195 u196 u197 u198 u199 u200 u201 u202 u203 u204 u205 u206 u207 u208 u209 u210 u211 u212 u213 u214 u215 u216 u217 u218 u219 u220 u221 u222 u223 u224 u225 u226 u227 u228 u229 u230 u231 u232 u233 u234 u235 u236 u237 u238 u239 u240 u241 u242 u243 u244 u245 u246 u247 u248 u249 u250 u251 u252 u253 u254 u255 u256 u257 u258 u259 u260 u261 u262 u263 u264 u265 u266 u267 u268 u269 u270 u271 u272 u273 u274 u275 u276 u277 u278 u279 u280 u281 u282 u283 u284 u285 u286 u287 u288 u289 u290 u291 u292 hs hn hE h5 H hkn q hc hk2 q2 hc2
        by_cases n52 : c2 = 52
        · subst n52
          exact round_oct52 u6 u7 u11 u12 u13 u14 u15 u16 u17 u18 u19 u20 u21 u22 u23 u24 u25 u26 u27 u30 u31 u32 u33 u34 u35 u36 u37 u38 u39 u40 u41 u42 u43 u44 u45 u46 u47 u48 u49 u50 u51 u52 u53 u54 u55 u56 u57 u58 u59 u60 u61 u62 u63 u64 u65 u66 u67 u68 u69 u70 u71 u72 u73 u74 u75 u76 u77 u78 u79 u80 u81 u82 u83 u84 u85 u86 u87 u88 u89 u90 u91 u92 u93 u94 u95 u96 u97 u98 u99 u100 u101 u102 u103 u104 u105 u106 u107 u108 u109 u110 u111 u112 u113 u114 u115 u116 u117 u118 u119 u120 u121 u122 u123 u124 u125 u126 u127 u128 u129 u130 u131 u132 u133 u134 u135 u136 u137 u138 u139 u140 u141 u142 u143 u144 u145 u146 u147 u148 u149 u150 u151 u152 u153 u154 u155 u156 u157 u158 u159 u160 u161 u162 u163 u164 u165 u166 u167 u168 u169 u170 u171 u172 u173 u174 u175 u176 u177 u178 u179 u180 u181 u182 u183 u184 u185 u186 u187 u188 u189 u190 u191 u192 u193 u194 u195 u196 u197 u198 u199 u200 u201 u202 u203 u204 u205 u206 u207 u208 u209 u210 u211 u212 u213 u214 u215 u216 u217 u218 u219 u220 u221 u222 u223 u224 u225 u226 u227 u228 u229 u230 u231 u232 u233 u234 u235 u236 u237 u238 u239 u240 u241 u242 u243 u244 u245 u246 u247 u248 u249 u250 u251 u252 u253 u254 u255 u256 u257 u258 u259 u260 u261 u262 u263 u264 u265 u266 u267 u268 u269 u270 u271 u272 u273 u274 u275 u276 u277 u278 u279 u280 u281 u282 u283 u284 u285 u286 u287 u288 u289 u290 u291 u292 hs hn hE h5 H hkn q hc hk2 q2 hc2
        by_cases n53 : c2 = 53
        · subst n53
          exact round_oct53 u6 u7 u11 u12 u13 u14 u15 u16 u17 u18 u19 u20 u21 u22 u23 u24 u25 u26 u27 u30 u31 u32 u33 u34 u35 u36 u37 u38 u39 u40 u41 u42 u43 u44 u45 u46 u47 u48 u49 u50 u51 u52 u53 u54 u55 u56 u57 u58 u59 u60 u61 u62 u63 u64 u65 u66 u67 u68 u69 u70 u71 u72 u73 u74 u75 u76 u77 u78 u79 u80 u81 u82 u83 u84 u85 u86 u87 u88 u89 u90 u91 u92 u93 u94 u95 u96 u97 u98 u99 u100 u101 u102 u103 u104 u105 u106 u107 u108 u109 u110 u111 u112 u113 u114 u115 u116 u117 u118 u119 u120 u121 u122 u123 u124 u125 u126 u127 u128 u129 u130 u131 u132 u133 u134 u135 u136 u137 u138 u139 u140 u141 u142 u143 u144 u145 u146 u147 u148 u149 u150 u151 u152 u153 u154 u155 u156 u157 u158 u159 u160 u161 u162 u163 u164 u165 u166 u167 u168 u169 u170 u171 u172 u173 u174 u175 u176 u177 u178 u179 u180 u181 u182 u183 u184 u185 u186 u187 u188 u189 u190 u191 u192 u193 u194 u195 u196 u197 u198 u199 u200 u201 u202 u203 u204 u205 u206 u207 u208 u209 u210 u211 u212 u213 u214 u215 u216 u217 u218 u219 u220 u221 u222 u223 u224 u225 u226 u227 u228 u229 u230 u231 u232 u233 u234 u235 u236 u237 u238 u239 u240 u241 u242 u243 u244 u245 u246 u247 u248 u249 u250 u251 u252 u253 u254 u255 u256 u257 u258 u259 u260 u261 u262 u263 u264 u265 u266 u267 u268 u269 u270 u271 u272 u273 u274 u275 u276 u277 u278 u279 u280 u281 u282 u283 u284 u285 u286 u287 u288 u289 u290 u291 u292 hs hn hE h5 H hkn q hc hk2 q2 hc2
        by_cases n54 : c2 = 54
        · subst n54
          exact round_oct54 u6 u7 u11 u12 u13 u14 u15 u16 u17 u18 u19 u20 u21 u22 u23 u24 u25 u26 u27 u30 u31 u32 u33 u34 u35 u36 u37 u38 u39 u40 u41 u42 u43 u44 u45 u46 u47 u48 u49 u50 u51 u52 u53 u54 u55 u56 u57 u58 u59 u60 u61 u62 u63 u64 u65 u66 u67 u68 u69 u70 u71 u72 u73 u74 u75 u76 u77 u78 u79 u80 u81 u82 u83 u84 u85 u86 u87 u88 u89 u90 u91 u92 u93 u94 u95 u96 u97 u98 u99 u100 u101 u102 u103 u104 u105 u106 u107 u108 u109 u110 u111 u112 u113 u114 u115 u116 u117 u118 u119 u120 u121 u122 u123 u124 u125 u126 u127 u128 u129 u130 u131 u132 u133 u134 u135 u136 u137 u138 u139 u140 u141 u142 u143 u144 u145 u146 u147 u148 u149 u150 u151 u152 u153 u154 u155 u156 u157 u158 u159 u160 u161 u162 u163 u164 u165 u166 u167 u168 u169 u170 u171 u172 u173 u174 u175 u176 u177 u178 u179 u180 u181 u182 u183 u184 u185 u186 u187 u188 u189 u190 u191 u192 u193 u194 u195 u196 u197 u198 u199 u200 u201 u202 u203 u204 u205 u206 u207 u208 u209 u210 u211 u212 u213 u214 u215 u216 u217 u218 u219 u220 u221 u222 u223 u224 u225 u226 u227 u228 u229 u230 u231 u232 u233 u234 u235 u236 u237 u238 u239 u240 u241 u242 u243 u244 u245 u246 u247 u248 u249 u250 u251 u252 u253 u254 u255 u256 u257 u258 u259 u260 u261 u262 u263 u264 u265 u266 u267 u268 u269 u270 u271 u272 u273 u274 u275 u276 u277 u278 u279 u280 u281 u282 u283 u284 u285 u286 u287 u288 u289 u290 u291 u292 hs hn hE h5 H hkn q hc hk2 q2 hc2
        by_cases n55 : c2 = 55
        · subst n55
          exact round_oct55 u6 u7 u11 u12 u13 u14 u15 u16 u17 u18 u19 u20 u21 u22 u23 u24 u25 u26 u27 u30 u31 u32 u33 u34 u35 u36 u37 u38 u39 u40 u41 u42 u43 u44 u45 u46 u47 u48 u49 u50 u51 u52 u53 u54 u55 u56 u57 u58 u59 u60 u61 u62 u63 u64 u65 u66 u67 u68 u69 u70 u71 u72 u73 u74 u75 u76 u77 u78 u79 u80 u81 u82 u83 u84 u85 u86 u87 u88 u89 u90 u91 u92 u93 u94 u95 u96 u97 u98 u99 u100 u101 u102 u103 u104 u105 u106 u107 u108 u109 u110 u111 u112 u113 u114 u115 u116 u117 u118 u119 u120 u121 u122 u123 u124 u125 u126 u127 u128 u129 u130 u131 u132 u133 u134 u135 u136 u137 u138 u139 u140 u141 u142 u143 u144 u145 u146 u147 u148 u149 u150 u151 u152 u153 u154 u155 u156 u157 u158 u159 u160 u161 u162 u163 u164 u165 u166 u167 u168 u169 u170 u171 u172 u173 u174 u175 u176 u177 u178 u179 u180 u181 u182 u183 u184 u185 u186 u187 u188 u189 u190 u191 u192 u193 u194 u195 u196 u197 u198 u199 u200 u201 u202 u203 u204 u205 u206 u207 u208 u209 u210 u211 u212 u213 u214 u215 u216 u217 u218 u219 u220 u221 u222 u223 u224 u225 u226 u227 u228 u229 u230 u231 u232 u233 u234 u235 u236 u237 u238 u239 u240 u241 u242 u243 u244 u245 u246 u247 u248 u249 u250 u251 u252 u253 u254 u255 u256 u257 u258 u259 u260 u261 u262 u263 u264 u265 u266 u267 u268 u269 u270 u271 u272 u273 u274 u275 u276 u277 u278 u279 u280 u281 u282 u283 u284 u285 u286 u287 u288 u289 u290 u291 u292 hs hn hE h5 H hkn q hc hk2 q2 hc2
        by_cases n120 : c2 = 120
        · subst n120
          exact round_hex120 u6 u7 u11 u12 u13 u14 u15 u16 u17 u18 u19 u20 u21 u22 u23 u24 u25 u26 u27 u30 u31 u32 u33 u34 u35 u36 u37 u38 u39 u40 u41 u42 u43 u44 u45 u46 u47 u48 u49 u50 u51 u52 u53 u54 u55 u56 u57 u58 u59 u60 u61 u62 u63 u64 u65 u66 u67 u68 u69 u70 u71 u72 u73 u74 u75 u76 u77 u78 u79 u80 u81 u82 u83 u84 u85 u86 u87 u88 u89 u90 u91 u92 u93 u94 u95 u96 u97 u98 u99 u100 u101 u102 u103 u104 u105 u106 u107 u108 u109 u110 u111 u112 u113 u114 u115 u116 u117 u118 u119 u120 u121 u122 u123 u124 u125 u126 u127 u128 u129 u130 u131 u132 u133 u134 u135 u136 u137 u138 u139 u140 u141 u142 u143 u144 u145 u146 u147 u148 u149 u150 u151 u152 u153 u154 u155 u156 u157 u158 u159 u160 u161 u162 u163 u164 u165 u166 u167 u168 u169 u170 u171 u172 u173 u174 u175 u176 u177 u178 u179 u180 u181 u182 u183 u184 u185 u186 u187 u188 u189 u190 u191 u192 u193 u194 u195 u196 u197 u198 u199 u200 u201 u202 u203 u204 u205 u206 u207 u208 u209 u210 u211 u212 u213 u214 u215 u216 u217 u218 u219 u220 u221 u222 u223 u224 u225 u226 u227 u228 u229 u230 u231 u232 u233 u234 u235 u236 u237 u238 u239 u240 u241 u242 u243 u244 u245 u246 u247 u248 u249 u250 u251 u252 u253 u254 u255 u256 u257 u258 u259 u260 u261 u262 u263 u264 u265 u266 u267 u268 u269 u270 u271 u272 u273 u274 u275 u276 u277 u278 u279 u280 u281 u282 u283 u284 u285 u286 u287 u288 u289 u290 u291 u292 hs hn hE h5 H hkn q hc hk2 q2 hc2
        by_cases n117 : c2 = 117
        · subst n117
          exact round_hex117 u6 u7 u11 u12 u13 u14 u15 u16 u17 u18 u19 u20 u21 u22 u23 u24 u25 u26 u27 u30 u31 u32 u33 u34 u35 u36 u37 u38 u39 u40 u41 u42 u43 u44 u45 u46 u47 u48 u49 u50 u51 u52 u53 u54 u55 u56 u57 u58 u59 u60 u61 u62 u63 u64 u65 u66 u67 u68 u69 u70 u71 u72 u73 u74 u75 u76 u77 u78 u79 u80 u81 u82 u83 u84 u85 u86 u87 u88 u89 u90 u91 u92 u93 u94 u95 u96 u97 u98 u99 u100 u101 u102 u103 u104 u105 u106 u107 u108 u109 u110 u111 u112 u113 u114 u115 u116 u117 u118 u119 u120 u121 u122 u123 u124 u125 u126 u127 u128 u129 u130 u131 u132 u133 u134 u135 u136 u137 u138 u139 u140 u141 u142 u143 u144 u145 u146 u147 u148 u149 u150 u151 u152 u153 u154 u155 u156 u157 u158 u159 u160 u161 u162 u163 u164 u165 u166 u167 u168 u169 u170 u171 u172 u173 u174 u175 u176 u177 u178 u179 u180 u181 u182 u183 u184 u185 u186 u187 u188 u189 u190 u191 u192 u193 u194 u195 u196 u197 u198 u199 u200 u201 u202 u203 u204 u205 u206 u207 u208 u209 u210 u211 u212 u213 u214 u215 u216 u217 u218 u219 u220 u221 u222 u223 u224 u225 u226 u227 u228 u229 u230 u231 u232 u233 u234 u235 u236 u237 u238 u239 u240 u241 u242 u243 u244 u245 u246 u247 u248 u249 u250 u251 u252 u253 u254 u255 u256 u257 u258 u259 u260 u261 u262 u263 u264 u265 u266 u267 u268 u269 u270 u271 u272 u273 u274 u275 u276 u277 u278 u279 u280 u281 u282 u283 u284 u285 u286 u287 u288 u289 u290 u291 u292 hs hn hE h5 H hkn q hc hk2 q2 hc2
        by_cases n85 : c2 = 85
        · subst n85
          exact round_hex85 u6 u7 u11 u12 u13 u14 u15 u16 u17 u18 u19 u20 u21 u22 u23 u24 u25 u26 u27 u30 u31 u32 u33 u34 u35 u36 u37 u38 u39 u40 u41 u42 u43 u44 u45 u46 u47 u48 u49 u50 u51 u52 u53 u54 u55 u56 u57 u58 u59 u60 u61 u62 u63 u64 u65 u66 u67 u68 u69 u70 u71 u72 u73 u74 u75 u76 u77 u78 u79 u80 u81 u82 u83 u84 u85 u86 u87 u88 u89 u90 u91 u92 u93 u94 u95 u96 u97 u98 u99 u100 u101 u102 u103 u104 u105 u106 u107 u108 u109 u110 u111 u112 u113 u114 u115 u116 u117 u118 u119 u120 u121 u122 u123 u124 u125 u126 u127 u128 u129 u130 u131 u132 u133 u134 u135 u136 u137 u138 u139 u140 u141 u142 u143 u144 u145 u146 u147 u148 u149 u150 u151 u152 u153 u154 u155 u156 u157 u158 u159 u160 u161 u162 u163 u164 u165 u166 u167 u168 u169 u170 u171 u172 u173 u174 u175 u176 u177 u178 u179 u180 u181 u182 u183 u184 u185 u186 u187 u188 u189 u190 u191 u192 u193 u194 u195 u196 u197 u198 u199 u200 u201 u202 u203 u204 u205 u206 u207 u208 u209 u210 u211 u212 u213 u214 u215 u216 u217 u218 u219 u220 u221 u222 u223 u224 u225 u226 u227 u228 u229 u230 u231 u232 u233 u234 u235 u236 u237 u238 u239 u240 u241 u242 u243 u244 u245 u246 u247 u248 u249 u250 u251 u252 u253 u254 u255 u256 u257 u258 u259 u260 u261 u262 u263 u264 u265 u266 u267 u268 u269 u270 u271 u272 u273 u274 u275 u276 u277 u278 u279 u280 u281 u282 u283 u284 u285 u286 u287 u288 u289 u290 u291 u292 hs hn hE h5 H hkn q hc hk2 q2 hc2
        exact round_other u6 u7 u11 u12 u13 u14 u15 u16 u17 u18 u19 u20 u21 u22 u23 u24 u25 u26 u27 u30 u31 u32 u33 u34 u35 u36 u37 u38 u39 u40 u41 u42 u43 u44 u45 u46 u47 u48 u49 u50 u51 u52 u53 u54 u55 u56 u57 u58 u59 u60 u61 u62 u63 u64 u65 u66 u67 u68 u69 u70 u71 u72 u73 u74 u75 u76 u77 u78 u79 u80 u81 u82 u83 u84 u85 u86 u87 u88 u89 u90 u91 u92 u93 u94 u95 u96 u97 u98 u99 u100 u101 u102 u103 u104 u105 u106 u107 u108 u109 u110 u111 u112 u113 u114 u115 u116 u117 u118 u119 u120 u121 u122 u123 u124 u125 u126 u127 u128 u129 u130 u131 u132 u133 u134 u135 u136 u137 u138 u139 u140 u141 u142 u143 u144 u145 u146 u147 u148 u149 u150 u151 u152 u153 u154 u155 u156 u157 u158 u159 u160 u161 u162 u163 u164 u165 u166 u167 u168 u169 u170 u171 u172 u173 u174 u175 u176 u177 u178 u179 u180 u181 u182 u183 u184 u185 u186 u187 u188 u189 u190 u191 u192 u193 u194 u195 u196 u197 u198 u199 u200 u201 u202 u203 u204 u205 u206 u207 u208 u209 u210 u211 u212 u213 u214 u215 u216 u217 u218 u219 u220 u221 u222 u223 u224 u225 u226 u227 u228 u229 u230 u231 u232 u233 u234 u235 u236 u237 u238 u239 u240 u241 u242 u243 u244 u245 u246 u247 u248 u249 u250 u251 u252 u253 u254 u255 u256 u257 u258 u259 u260 u261 u262 u263 u264 u265 u266 u267 u268 u269 u270 u271 u272 u273 u274 u275 u276 u277 u278 u279 u280 u281 u282 u283 u284 u285 u286 u287 u288 u289 u290 u291 u292 hs hn hE h5 H hkn q hc hk2 q2 c2 hc2 h20 h21 (beq_eq_false_iff_ne.2 n97) (beq_eq_false_iff_ne.2 n98) (beq_eq_false_iff_ne.2 n101) (beq_eq_false_iff_ne.2 n69) (beq_eq_false_iff_ne.2 n102) (beq_eq_false_iff_ne.2 n110) (beq_eq_false_iff_ne.2 n114) (beq_eq_false_iff_ne.2 n116) (beq_eq_false_iff_ne.2 n118) (beq_eq_false_iff_ne.2 n92) (beq_eq_false_iff_ne.2 n39) (beq_eq_false_iff_ne.2 n34) (beq_eq_false_iff_ne.2 n63) (beq_eq_false_iff_ne.2 n48) (beq_eq_false_iff_ne.2 n49) (beq_eq_false_iff_ne.2 n50) (beq_eq_false_iff_ne.2 n51) (beq_eq_false_iff_ne.2 n52) (beq_eq_false_iff_ne.2 n53) (beq_eq_false_iff_ne.2 n54) (beq_eq_false_iff_ne.2 n55) (beq_eq_false_iff_ne.2 n120) (beq_eq_false_iff_ne.2 n117) (beq_eq_false_iff_ne.2 n85)
      · exact round_bsend u6 u7 u11 u12 u13 u14 u15 u16 u17 u18 u19 u20 u21 u22 u23 u24 u25 u26 u27 u30 u31 u32 u33 u34 u35 u36 u37 u38 u39 u40 u41 u42 u43 u44 u45 u46 u47 u48 u49 u50 u51 u52 u53 u54 u55 u56 u57 u58 u59 u60 u61 u62 u63 u64 u65 u66 u67 u68 u69 u70 u71 u72 u73 u74 u75 u76 u77 u78 u79 u80 u81 u82 u83 u84 u85 u86 u87 u88 u89 u90 u91 u92 u93 u94 u95 u96 u97 u98 u99 u100 u101 u102 u103 u104 u105 u106 u107 u108 u109 u110 u111 u112 u113 u114 u115 u116 u117 u118 u119 u120 u121 u122 u123 u124 u125 u126 u127 u128 u129 u130 u131 u132 u133 u134 u135 u136 u137 u138 u139 u140 u141 u142 u143 u144 u145 u146 u147 u148 u149 u150 u151 u152 u153 u154 u155 u156 u157 u158 u159 u160 u161 u162 u163 u164 u165 u166 u167 u168 u169 u170 u171 u172 u173 u174 u175 u176 u177 u178 u179 u180 u181 u182 u183 u184 u185 u186 u187 u188 u189 u190 u191 u192 u193 u194 u195 u196 u197 u198 u199 u200 u201 u202 u203 u204 u205 u206 u207 u208 u209 u210 u211 u212 u213 u214 u215 u216 u217 u218 u219 u220 u221 u222 u223 u224 u225 u226 u227 u228 u229 u230 u231 u232 u233 u234 u235 u236 u237 u238 u239 u240 u241 u242 u243 u244 u245 u246 u247 u248 u249 u250 u251 u252 u253 u254 u255 u256 u257 u258 u259 u260 u261 u262 u263 u264 u265 u266 u267 u268 u269 u270 u271 u272 u273 u274 u275 u276 u277 u278 u279 u280 u281 u282 u283 u284 u285 u286 u287 u288 u289 u290 u291 u292 hs hn hE h5 H hkn q hc hk2
    · exact round_plain u6 u7 u11 u12 u13 u14 u15 u16 u17 u18 u19 u20 u21 u22 u23 u24 u25 u26 u27 u30 u31 u32 u33 u34 u35 u36 u37 u38 u39 u40 u41 u42 u43 u44 u45 u46 u47 u48 u49 u50 u51 u52 u53 u54 u55 u56 u57 u58 u59 u60 u61 u62 u63 u64 u65 u66 u67 u68 u69 u70 u71 u72 u73 u74 u75 u76 u77 u78 u79 u80 u81 u82 u83 u84 u85 u86 u87 u88 u89 u90 u91 u92 u93 u94 u95 u96 u97 u98 u99 u100 u101 u102 u103 u104 u105 u106 u107 u108 u109 u110 u111 u112 u113 u114 u115 u116 u117 u118 u119 u120 u121 u122 u123 u124 u125 u126 u127 u128 u129 u130 u131 u132 u133 u134 u135 u136 u137 u138 u139 u140 u141 u142 u143 u144 u145 u146 u147 u148 u149 u150 u151 u152 u153 u154 u155 u156 u157 u158 u159 u160 u161 u162 u163 u164 u165 u166 u167 u168 u169 u170 u171 u172 u173 u174 u175 u176 u177 u178 u179 u180 u181 u182 u183 u184 u185 u186 u187 u188 u189 u190 u191 u192 u193 u194 u195 u196 u197 u198 u199 u200 u201 u202 u203 u204 u205 u206 u207 u208 u209 u210 u211 u212 u213 u214 u215 u216 u217 u218 u219 u220 u221 u222 u223 u224 u225 u226 u227 u228 u229 u230 u231 u232 u233 u234 u235 u236 u237 u238 u239 u240 u241 u242 u243 u244 u245 u246 u247 u248 u249 u250 u251 u252 u253 u254 u255 u256 u257 u258 u259 u260 u261 u262 u263 u264 u265 u266 u267 u268 u269 u270 u271 u272 u273 u274 u275 u276 u277 u278 u279 u280 u281 u282 u283 u284 u285 u286 u287 u288 u289 u290 u291 u292 hs hn hE h5 H hkn q c hc hc0 hc1 (beq_eq_false_iff_ne.2 h92)
  · exact round_stop u6 u7 u11 u12 u13 u14 u15 u16 u17 u18 u19 u20 u21 u22 u23 u24 u25 u26 u27 u30 u31 u32 u33 u34 u35 u36 u37 u38 u39 u40 u41 u42 u43 u44 u45 u46 u47 u48 u49 u50 u51 u52 u53 u54 u55 u56 u57 u58 u59 u60 u61 u62 u63 u64 u65 u66 u67 u68 u69 u70 u71 u72 u73 u74 u75 u76 u77 u78 u79 u80 u81 u82 u83 u84 u85 u86 u87 u88 u89 u90 u91 u92 u93 u94 u95 u96 u97 u98 u99 u100 u101 u102 u103 u104 u105 u106 u107 u108 u109 u110 u111 u112 u113 u114 u115 u116 u117 u118 u119 u120 u121 u122 u123 u124 u125 u126 u127 u128 u129 u130 u131 u132 u133 u134 u135 u136 u137 u138 u139 u140 u141 u142 u143 u144 u145 u146 u147 u148 u149 u150 u151 u152 u153 u154 u155 u156 u157 u158 u159 u160 u161 u162 u163 u164 u165 u166 u167 u168 u169 u170 u171 u172 u173 u174 u175 u176 u177 u178 u179 u180 u181 u182 u183 u184 u185 u186 u187 u188 u189 u190 u191 u192 u193 u194 u195 u196 u197 u198 u199 u200 u201 u202 u203 u204 u205 u206 u207 u208 u209 u210 u211 u212 u213 u214 u215 u216 u217 u218 u219 u220 u221 u222 u223 u224 u225 u226 u227 u228 u229 u230 u231 u232 u233 u234 u235 u236 u237 u238 u239 u240 u241 u242 u243 u244 u245 u246 u247 u248 u249 u250 u251 u252 u253 u254 u255 u256 u257 u258 u259 u260 u261 u262 u263 u264 u265 u266 u267 u268 u269 u270 u271 u272 u273 u274 u275 u276 u277 u278 u279 u280 u281 u282 u283 u284 u285 u286 u287 u288 u289 u290 u291 u292 hs hn hE h5 H hk hkn hexit
theorem fi_loop {B b n nf : Nat} {s : ByteArray} {w0 : World} {c9 c28 c29 : Value} {Q0 : Exit → Act → World → Prop} (hs : s.size ≤ 1048580) (hn : n ≤ 2000000000) (hE : Hid (Evs w0)) (h5 : 5 ≤ B) (hexit : ∀ a w, WX B b n nf s w0 c9 c28 c29 a w → Q0 (.exit 0) a w) (a : Act) (w : World) (hI : WI B b n nf s w0 c9 c28 c29 a w) :
    Code.wp Tryf.prog (Code.loop fiBody) Q0 a w :=
  wp_loop (WI B b n nf s w0 c9 c28 c29) (fiMu s) hI (fun a w hI => fi_round hs hn hE h5 hexit a w hI)
end Go.Proofs.YtgcjaijakbejjaaFmt

/- Proved: formatInto at a nil argument list returns (0, nil) and leaves its builder one. Conditions: those of 'Cs'. PRINTED by gen_fig.py. -/
namespace Go.Proofs.YtgcjaijakbejjaaFmt
open Go.RowKit Go.Proofs.YtgcjaijakbejjaaFmtW.PrintWords
set_option linter.unusedVariables false

set_option maxHeartbeats 8000000 in
set_option maxRecDepth 1000000 in
theorem fi_nil (B b n : Nat) (s : ByteArray) (hs : s.size ≤ 1048580) (hn : n ≤ 2000000000) (w : World) (hbd : Bd B b n w) (hB : B ≤ b) (hb : b < w.heap.size) (hE : Hid (Evs w)) (h5 : 5 ≤ B) :
    Calls Tryf.prog 37 #[.pointer (some ⟨b, 0, none⟩), .string s, .slice none 0 0] w (FiRes B b (n + 4 * s.size + 8) 0 w) := by
  have H0 : Cs B b n w.heap.size (w.heap.size + 1) s 0 w ((w.alloc (.cells #[.string s] 9)).alloc (.cells #[.int .i64 0] 3)) := by
    have a1 : ((w.alloc (.cells #[.string s] 9)).alloc (.cells #[.int .i64 0] 3)).heap[w.heap.size]? = some (.cells #[.string s] 9 (0, 0)) := by
      rw [Below.heap_alloc _ _ _ (by simp)]; exact World.new_at w _
    have a2 : ((w.alloc (.cells #[.string s] 9)).alloc (.cells #[.int .i64 0] 3)).heap[w.heap.size + 1]? = some (.cells #[.int .i64 0] 3 (0, 0)) := by
      have := World.new_at (w.alloc (.cells #[.string s] 9)) (.cells #[.int .i64 0] 3)
      simpa using this
    exact ⟨bd_alloc (bd_alloc hbd _) _, ((Below.refl B w).alloc (by omega) _).alloc (by simp; omega) _, ((Lib.OthersKept.refl _ _ w).alloc _).alloc _, a1, a2, by omega, by omega, hb, hB, by omega⟩
  have HH0 := Lib.hid H0
  clear H0
  go_enter Tryf.func37, Tryf.ntmps37
  go_upto_region 4 with (fail)
  refine fi_loop (B := B) (b := b) (n := n) (nf := w.heap.size) (s := s) (w0 := w) (c9 := .int .i64 0) (c28 := .slice none 0 0) (c29 := .int .i64 0) hs hn hE h5 ?_ _ _ ⟨0, w.heap.size + 1, by omega, HH0, _, _, _, _, _, _, _, _, _, _, _, _, _, _, _, _, _, _, _, _, _, _, _, _, _, _, _, _, _, _, _, _, _, _, _, _, _, _, _, _, _, _, _, _, _, _, _, _, _, _, _, _, _, _, _, _, _, _, _, _, _, _, _, _, _, _, _, _, _, _, _, _, _, _, _, _, _, _, _, _, _, _, _, _, _, _, _, _, _, _, _, _, _, _, _, _, _, _, _, _, _, _, _, _, _, _, _, _, _, _, _, _, _, _, _, _, _, _, _, _, _, _, _, _, _, _, _, _, _, _, _, _, _, _, _, _, _, _, _, _, _, _, _, _, _, _, _, _, _, _, _, _, _, _, _, _, _, _, _, _, _, _, _, _, _, _, _, _, _, _, _, _, _, _, _, _, _, _, _, _, _, _, _, _, _, _, _, _, _, _, _, _, _, _, _, _, _, _, _, _, _, _, _, _, _, _, _, _, _, _, _, _, _, _, _, _, _, _, _, _, _, _, _, _, _, _, _, _, _, _, _, _, _, _, _, _, _, _, _, _, _, _, _, _, _, _, _, _, _, _, _, _, _, _, _, _, _, _, _, _, _, _, _, _, _, _, _, _, _, _, _, _, _, _, _, _, _, _, _, _, _, _, rfl⟩
  intro a' w' hI
  obtain ⟨k, ia, hk, H, hI⟩ := hI
  obtain ⟨u6, hI⟩ := hI
  obtain ⟨u7, hI⟩ := hI
  obtain ⟨u11, hI⟩ := hI
  obtain ⟨u12, hI⟩ := hI
  obtain ⟨u13, hI⟩ := hI
  obtain ⟨u14, hI⟩ := hI
  obtain ⟨u15, hI⟩ := hI
  obtain ⟨u16, hI⟩ := hI
  obtain ⟨u17, hI⟩ := hI
  obtain ⟨u18, hI⟩ := hI
  obtain ⟨u19, hI⟩ := hI
  obtain ⟨u20, hI⟩ := hI
  obtain ⟨u21, hI⟩ := hI
  obtain ⟨u22, hI⟩ := hI
  obtain ⟨u23, hI⟩ := hI
  obtain ⟨u24, hI⟩ := hI
  obtain ⟨u25, hI⟩ := hI
  obtain ⟨u26, hI⟩ := hI
  obtain ⟨u27, hI⟩ := hI
  obtain ⟨u30, hI⟩ := hI
  obtain ⟨u31, hI⟩ := hI
  obtain ⟨u32, hI⟩ := hI
  obtain ⟨u33, hI⟩ := hI
  obtain ⟨u34, hI⟩ := hI
  obtain ⟨u35, hI⟩ := hI
  obtain ⟨u36, hI⟩ := hI
  obtain ⟨u37, hI⟩ := hI
  obtain ⟨u38, hI⟩ := hI
  obtain ⟨u39, hI⟩ := hI
  obtain ⟨u40, hI⟩ := hI
  obtain ⟨u41, hI⟩ := hI
  obtain ⟨u42, hI⟩ := hI
  obtain ⟨u43, hI⟩ := hI
  obtain ⟨u44, hI⟩ := hI
  obtain ⟨u45, hI⟩ := hI
  obtain ⟨u46, hI⟩ := hI
  obtain ⟨u47, hI⟩ := hI
  obtain ⟨u48, hI⟩ := hI
  obtain ⟨u49, hI⟩ := hI
  obtain ⟨u50, hI⟩ := hI
  obtain ⟨u51, hI⟩ := hI
  obtain ⟨u52, hI⟩ := hI
  obtain ⟨u53, hI⟩ := hI
  obtain ⟨u54, hI⟩ := hI
  obtain ⟨u55, hI⟩ := hI
  obtain ⟨u56, hI⟩ := hI
  obtain ⟨u57, hI⟩ := hI
  obtain ⟨u58, hI⟩ := hI
  obtain ⟨u59, hI⟩ := hI
  obtain ⟨u60, hI⟩ := hI
  obtain ⟨u61, hI⟩ := hI
  obtain ⟨u62, hI⟩ := hI
  obtain ⟨u63, hI⟩ := hI
  obtain ⟨u64, hI⟩ := hI
  obtain ⟨u65, hI⟩ := hI
  obtain ⟨u66, hI⟩ := hI
  obtain ⟨u67, hI⟩ := hI
  obtain ⟨u68, hI⟩ := hI
  obtain ⟨u69, hI⟩ := hI
  obtain ⟨u70, hI⟩ := hI
  obtain ⟨u71, hI⟩ := hI
  obtain ⟨u72, hI⟩ := hI
  obtain ⟨u73, hI⟩ := hI
  obtain ⟨u74, hI⟩ := hI
  obtain ⟨u75, hI⟩ := hI
  obtain ⟨u76, hI⟩ := hI
  obtain ⟨u77, hI⟩ := hI
  obtain ⟨u78, hI⟩ := hI
  obtain ⟨u79, hI⟩ := hI
  obtain ⟨u80, hI⟩ := hI
  obtain ⟨u81, hI⟩ := hI
  obtain ⟨u82, hI⟩ := hI
  obtain ⟨u83, hI⟩ := hI
  obtain ⟨u84, hI⟩ := hI
  obtain ⟨u85, hI⟩ := hI
  obtain ⟨u86, hI⟩ := hI
  obtain ⟨u87, hI⟩ := hI
  obtain ⟨u88, hI⟩ := hI
  obtain ⟨u89, hI⟩ := hI
  obtain ⟨u90, hI⟩ := hI
  obtain ⟨u91, hI⟩ := hI
  obtain ⟨u92, hI⟩ := hI
  obtain ⟨u93, hI⟩ := hI
  obtain ⟨u94, hI⟩ := hI
  obtain ⟨u95, hI⟩ := hI
  obtain ⟨u96, hI⟩ := hI
  obtain ⟨u97, hI⟩ := hI
  obtain ⟨u98, hI⟩ := hI
  obtain ⟨u99, hI⟩ := hI
  obtain ⟨u100, hI⟩ := hI
  obtain ⟨u101, hI⟩ := hI
  obtain ⟨u102, hI⟩ := hI
  obtain ⟨u103, hI⟩ := hI
  obtain ⟨u104, hI⟩ := hI
  obtain ⟨u105, hI⟩ := hI
  obtain ⟨u106, hI⟩ := hI
  obtain ⟨u107, hI⟩ := hI
  obtain ⟨u108, hI⟩ := hI
  obtain ⟨u109, hI⟩ := hI
  obtain ⟨u110, hI⟩ := hI
  obtain ⟨u111, hI⟩ := hI
  obtain ⟨u112, hI⟩ := hI
  obtain ⟨u113, hI⟩ := hI
  obtain ⟨u114, hI⟩ := hI
  obtain ⟨u115, hI⟩ := hI
  obtain ⟨u116, hI⟩ := hI
  obtain ⟨u117, hI⟩ := hI
  obtain ⟨u118, hI⟩ := hI
  obtain ⟨u119, hI⟩ := hI
  obtain ⟨u120, hI⟩ := hI
  obtain ⟨u121, hI⟩ := hI
  obtain ⟨u122, hI⟩ := hI
  obtain ⟨u123, hI⟩ := hI
  obtain ⟨u124, hI⟩ := hI
  obtain ⟨u125, hI⟩ := hI
  obtain ⟨u126, hI⟩ := hI
  obtain ⟨u127, hI⟩ := hI
  obtain ⟨u128, hI⟩ := hI
  obtain ⟨u129, hI⟩ := hI
  obtain ⟨u130, hI⟩ := hI
  obtain ⟨u131, hI⟩ := hI
  obtain ⟨u132, hI⟩ := hI
  obtain ⟨u133, hI⟩ := hI
  obtain ⟨u134, hI⟩ := hI
  obtain ⟨u135, hI⟩ := hI
  obtain ⟨u136, hI⟩ := hI
  obtain ⟨u137, hI⟩ := hI
  obtain ⟨u138, hI⟩ := hI
  obtain ⟨u139, hI⟩ := hI
  obtain ⟨u140, hI⟩ := hI
  obtain ⟨u141, hI⟩ := hI
  obtain ⟨u142, hI⟩ := hI
  obtain ⟨u143, hI⟩ := hI
  obtain ⟨u144, hI⟩ := hI
  obtain ⟨u145, hI⟩ := hI
  obtain ⟨u146, hI⟩ := hI
  obtain ⟨u147, hI⟩ := hI
  obtain ⟨u148, hI⟩ := hI
  obtain ⟨u149, hI⟩ := hI
  obtain ⟨u150, hI⟩ := hI
  obtain ⟨u151, hI⟩ := hI
  obtain ⟨u152, hI⟩ := hI
  obtain ⟨u153, hI⟩ := hI
  obtain ⟨u154, hI⟩ := hI
  obtain ⟨u155, hI⟩ := hI
  obtain ⟨u156, hI⟩ := hI
  obtain ⟨u157, hI⟩ := hI
  obtain ⟨u158, hI⟩ := hI
  obtain ⟨u159, hI⟩ := hI
  obtain ⟨u160, hI⟩ := hI
  obtain ⟨u161, hI⟩ := hI
  obtain ⟨u162, hI⟩ := hI
  obtain ⟨u163, hI⟩ := hI
  obtain ⟨u164, hI⟩ := hI
  obtain ⟨u165, hI⟩ := hI
  obtain ⟨u166, hI⟩ := hI
  obtain ⟨u167, hI⟩ := hI
  obtain ⟨u168, hI⟩ := hI
  obtain ⟨u169, hI⟩ := hI
  obtain ⟨u170, hI⟩ := hI
  obtain ⟨u171, hI⟩ := hI
  obtain ⟨u172, hI⟩ := hI
  obtain ⟨u173, hI⟩ := hI
  obtain ⟨u174, hI⟩ := hI
  obtain ⟨u175, hI⟩ := hI
  obtain ⟨u176, hI⟩ := hI
  obtain ⟨u177, hI⟩ := hI
  obtain ⟨u178, hI⟩ := hI
  obtain ⟨u179, hI⟩ := hI
  obtain ⟨u180, hI⟩ := hI
  obtain ⟨u181, hI⟩ := hI
  obtain ⟨u182, hI⟩ := hI
  obtain ⟨u183, hI⟩ := hI
  obtain ⟨u184, hI⟩ := hI
  obtain ⟨u185, hI⟩ := hI
  obtain ⟨u186, hI⟩ := hI
  obtain ⟨u187, hI⟩ := hI
  obtain ⟨u188, hI⟩ := hI
  obtain ⟨u189, hI⟩ := hI
  obtain ⟨u190, hI⟩ := hI
  obtain ⟨u191, hI⟩ := hI
  obtain ⟨u192, hI⟩ := hI
  obtain ⟨u193, hI⟩ := hI
  obtain ⟨u194, hI⟩ := hI
  obtain ⟨u195, hI⟩ := hI
  obtain ⟨u196, hI⟩ := hI
  obtain ⟨u197, hI⟩ := hI
  obtain ⟨u198, hI⟩ := hI
  obtain ⟨u199, hI⟩ := hI
  obtain ⟨u200, hI⟩ := hI
  obtain ⟨u201, hI⟩ := hI
  obtain ⟨u202, hI⟩ := hI
  obtain ⟨u203, hI⟩ := hI
  obtain ⟨u204, hI⟩ := hI
  obtain ⟨u205, hI⟩ := hI
  obtain ⟨u206, hI⟩ := hI
  obtain ⟨u207, hI⟩ := hI
  obtain ⟨u208, hI⟩ := hI
  obtain ⟨u209, hI⟩ := hI
  obtain ⟨u210, hI⟩ := hI
  obtain ⟨u211, hI⟩ := hI
  obtain ⟨u212, hI⟩ := hI
  obtain ⟨u213, hI⟩ := hI
  obtain ⟨u214, hI⟩ := hI
  obtain ⟨u215, hI⟩ := hI
  obtain ⟨u216, hI⟩ := hI
  obtain ⟨u217, hI⟩ := hI
  obtain ⟨u218, hI⟩ := hI
  obtain ⟨u219, hI⟩ := hI
  obtain ⟨u220, hI⟩ := hI
  obtain ⟨u221, hI⟩ := hI
  obtain ⟨u222, hI⟩ := hI
  obtain ⟨u223, hI⟩ := hI
  obtain ⟨u224, hI⟩ := hI
  obtain ⟨u225, hI⟩ := hI
  obtain ⟨u226, hI⟩ := hI
  obtain ⟨u227, hI⟩ := hI
  obtain ⟨u228, hI⟩ := hI
  obtain ⟨u229, hI⟩ := hI
  obtain ⟨u230, hI⟩ := hI
  obtain ⟨u231, hI⟩ := hI
  obtain ⟨u232, hI⟩ := hI
  obtain ⟨u233, hI⟩ := hI
  obtain ⟨u234, hI⟩ := hI
  obtain ⟨u235, hI⟩ := hI
  obtain ⟨u236, hI⟩ := hI
  obtain ⟨u237, hI⟩ := hI
  obtain ⟨u238, hI⟩ := hI
  obtain ⟨u239, hI⟩ := hI
  obtain ⟨u240, hI⟩ := hI
  obtain ⟨u241, hI⟩ := hI
  obtain ⟨u242, hI⟩ := hI
  obtain ⟨u243, hI⟩ := hI
  obtain ⟨u244, hI⟩ := hI
  obtain ⟨u245, hI⟩ := hI
  obtain ⟨u246, hI⟩ := hI
  obtain ⟨u247, hI⟩ := hI
  obtain ⟨u248, hI⟩ := hI
  obtain ⟨u249, hI⟩ := hI
  obtain ⟨u250, hI⟩ := hI
  obtain ⟨u251, hI⟩ := hI
  obtain ⟨u252, hI⟩ := hI
  obtain ⟨u253, hI⟩ := hI
  obtain ⟨u254, hI⟩ := hI
  obtain ⟨u255, hI⟩ := hI
  obtain ⟨u256, hI⟩ := hI
  obtain ⟨u257, hI⟩ := hI
  obtain ⟨u258, hI⟩ := hI
  obtain ⟨u259, hI⟩ := hI
  obtain ⟨u260, hI⟩ := hI
  obtain ⟨u261, hI⟩ := hI
  obtain ⟨u262, hI⟩ := hI
  obtain ⟨u263, hI⟩ := hI
  obtain ⟨u264, hI⟩ := hI
  obtain ⟨u265, hI⟩ := hI
  obtain ⟨u266, hI⟩ := hI
  obtain ⟨u267, hI⟩ := hI
  obtain ⟨u268, hI⟩ := hI
  obtain ⟨u269, hI⟩ := hI
  obtain ⟨u270, hI⟩ := hI
  obtain ⟨u271, hI⟩ := hI
  obtain ⟨u272, hI⟩ := hI
  obtain ⟨u273, hI⟩ := hI
  obtain ⟨u274, hI⟩ := hI
  obtain ⟨u275, hI⟩ := hI
  obtain ⟨u276, hI⟩ := hI
  obtain ⟨u277, hI⟩ := hI
  obtain ⟨u278, hI⟩ := hI
  obtain ⟨u279, hI⟩ := hI
  obtain ⟨u280, hI⟩ := hI
  obtain ⟨u281, hI⟩ := hI
  obtain ⟨u282, hI⟩ := hI
  obtain ⟨u283, hI⟩ := hI
  obtain ⟨u284, hI⟩ := hI
  obtain ⟨u285, hI⟩ := hI
  obtain ⟨u286, hI⟩ := hI
  obtain ⟨u287, hI⟩ := hI
  obtain ⟨u288, hI⟩ := hI
  obtain ⟨u289, hI⟩ := hI
  obtain ⟨u290, hI⟩ := hI
  obtain ⟨u291, hI⟩ := hI
  obtain ⟨u292, hI⟩ := hI
  subst hI
  have H1 := H.out
  clear HH0 H
  go_wp2
  go_ret2
  exact ⟨rfl, bd_le H1.bd (by omega), H1.bel, H1.oth⟩
end Go.Proofs.YtgcjaijakbejjaaFmt

/- Proved: the round of formatInto's loop, case by case. Conditions: those of 'Cs'. PRINTED by gen_fig.py. -/
namespace Go.Proofs.YtgcjaijakbejjaaFmt
open Go.RowKit Go.Proofs.YtgcjaijakbejjaaFmtW.PrintWords
set_option linter.unusedVariables false

set_option maxRecDepth 1000000 in
/-- The frame ahead of a round: the index k, the argument list v2, the format bytes v8. -/
def FS (B b n nf : Nat) (s : ByteArray) (w0 : World) (c9 c28 c29 v2 v8 : Value) (k : Nat) (a : Act) (w : World) : Prop :=
  ∃ ia : Nat, Hid (Cs B b (n + 4 * k) nf ia s k w0 w) ∧ ∃ u6 u7 u11 u12 u13 u14 u15 u16 u17 u18 u19 u20 u21 u22 u23 u24 u25 u26 u27 u30 u31 u32 u33 u34 u35 u36 u37 u38 u39 u40 u41 u42 u43 u44 u45 u46 u47 u48 u49 u50 u51 u52 u53 u54 u55 u56 u57 u58 u59 u60 u61 u62 u63 u64 u65 u66 u67 u68 u69 u70 u71 u72 u73 u74 u75 u76 u77 u78 u79 u80 u81 u82 u83 u84 u85 u86 u87 u88 u89 u90 u91 u92 u93 u94 u95 u96 u97 u98 u99 u100 u101 u102 u103 u104 u105 u106 u107 u108 u109 u110 u111 u112 u113 u114 u115 u116 u117 u118 u119 u120 u121 u122 u123 u124 u125 u126 u127 u128 u129 u130 u131 u132 u133 u134 u135 u136 u137 u138 u139 u140 u141 u142 u143 u144 u145 u146 u147 u148 u149 u150 u151 u152 u153 u154 u155 u156 u157 u158 u159 u160 u161 u162 u163 u164 u165 u166 u167 u168 u169 u170 u171 u172 u173 u174 u175 u176 u177 u178 u179 u180 u181 u182 u183 u184 u185 u186 u187 u188 u189 u190 u191 u192 u193 u194 u195 u196 u197 u198 u199 u200 u201 u202 u203 u204 u205 u206 u207 u208 u209 u210 u211 u212 u213 u214 u215 u216 u217 u218 u219 u220 u221 u222 u223 u224 u225 u226 u227 u228 u229 u230 u231 u232 u233 u234 u235 u236 u237 u238 u239 u240 u241 u242 u243 u244 u245 u246 u247 u248 u249 u250 u251 u252 u253 u254 u255 u256 u257 u258 u259 u260 u261 u262 u263 u264 u265 u266 u267 u268 u269 u270 u271 u272 u273 u274 u275 u276 u277 u278 u279 u280 u281 u282 u283 u284 u285 u286 u287 u288 u289 u290 u291 u292 : Value, a = ⟨#[.pointer (some ⟨b, 0, none⟩), .string s, v2, undef, .pointer (some ⟨nf, 0, none⟩), undef, u6, u7, v8, c9, .pointer (some ⟨ia, 0, none⟩), u11, u12, u13, u14, u15, u16, u17, u18, u19, u20, u21, u22, u23, u24, u25, u26, u27, c28, c29, u30, u31, u32, u33, u34, u35, u36, u37, u38, u39, u40, u41, u42, u43, u44, u45, u46, u47, u48, u49, u50, u51, u52, u53, u54, u55, u56, u57, u58, u59, u60, u61, u62, u63, u64, u65, u66, u67, u68, u69, u70, u71, u72, u73, u74, u75, u76, u77, u78, u79, u80, u81, u82, u83, u84, u85, u86, u87, u88, u89, u90, u91, u92, u93, u94, u95, u96, u97, u98, u99, u100, u101, u102, u103, u104, u105, u106, u107, u108, u109, u110, u111, u112, u113, u114, u115, u116, u117, u118, u119, u120, u121, u122, u123, u124, u125, u126, u127, u128, u129, u130, u131, u132, u133, u134, u135, u136, u137, u138, u139, u140, u141, u142, u143, u144, u145, u146, u147, u148, u149, u150, u151, u152, u153, u154, u155, u156, u157, u158, u159, u160, u161, u162, u163, u164, u165, u166, u167, u168, u169, u170, u171, u172, u173, u174, u175, u176, u177, u178, u179, u180, u181, u182, u183, u184, u185, u186, u187, u188, u189, u190, u191, u192, u193, u194, u195, u196, u197, u198, u199, u200, u201, u202, u203, u204, u205, u206, u207, u208, u209, u210, u211, u212, u213, u214, u215, u216, u217, u218, u219, u220, u221, u222, u223, u224, u225, u226, u227, u228, u229, u230, u231, u232, u233, u234, u235, u236, u237, u238, u239, u240, u241, u242, u243, u244, u245, u246, u247, u248, u249, u250, u251, u252, u253, u254, u255, u256, u257, u258, u259, u260, u261, u262, u263, u264, u265, u266, u267, u268, u269, u270, u271, u272, u273, u274, u275, u276, u277, u278, u279, u280, u281, u282, u283, u284, u285, u286, u287, u288, u289, u290, u291, u292, undef, undef, undef, undef, undef, undef, undef, undef], []⟩
set_option maxRecDepth 1000000 in
theorem fs_end {B b n nf k : Nat} {s : ByteArray} {w0 w3 : World} {c9 c28 c29 v2 v8 : Value} {a' : Act} (ia' : Nat) (H : Hid (Cs B b (n + 4 * (k + 1)) nf ia' s ((k : Int) + 1) w0 w3)) (u6 u7 u11 u12 u13 u14 u15 u16 u17 u18 u19 u20 u21 u22 u23 u24 u25 u26 u27 u30 u31 u32 u33 u34 u35 u36 u37 u38 u39 u40 u41 u42 u43 u44 u45 u46 u47 u48 u49 u50 u51 u52 u53 u54 u55 u56 u57 u58 u59 u60 u61 u62 u63 u64 u65 u66 u67 u68 u69 u70 u71 u72 u73 u74 u75 u76 u77 u78 u79 u80 u81 u82 u83 u84 u85 u86 u87 u88 u89 u90 u91 u92 u93 u94 u95 u96 u97 u98 u99 u100 u101 u102 u103 u104 u105 u106 u107 u108 u109 u110 u111 u112 u113 u114 u115 u116 u117 u118 u119 u120 u121 u122 u123 u124 u125 u126 u127 u128 u129 u130 u131 u132 u133 u134 u135 u136 u137 u138 u139 u140 u141 u142 u143 u144 u145 u146 u147 u148 u149 u150 u151 u152 u153 u154 u155 u156 u157 u158 u159 u160 u161 u162 u163 u164 u165 u166 u167 u168 u169 u170 u171 u172 u173 u174 u175 u176 u177 u178 u179 u180 u181 u182 u183 u184 u185 u186 u187 u188 u189 u190 u191 u192 u193 u194 u195 u196 u197 u198 u199 u200 u201 u202 u203 u204 u205 u206 u207 u208 u209 u210 u211 u212 u213 u214 u215 u216 u217 u218 u219 u220 u221 u222 u223 u224 u225 u226 u227 u228 u229 u230 u231 u232 u233 u234 u235 u236 u237 u238 u239 u240 u241 u242 u243 u244 u245 u246 u247 u248 u249 u250 u251 u252 u253 u254 u255 u256 u257 u258 u259 u260 u261 u262 u263 u264 u265 u266 u267 u268 u269 u270 u271 u272 u273 u274 u275 u276 u277 u278 u279 u280 u281 u282 u283 u284 u285 u286 u287 u288 u289 u290 u291 u292 : Value) (ha' : a' = ⟨#[.pointer (some ⟨b, 0, none⟩), .string s, v2, undef, .pointer (some ⟨nf, 0, none⟩), undef, u6, u7, v8, c9, .pointer (some ⟨ia', 0, none⟩), u11, u12, u13, u14, u15, u16, u17, u18, u19, u20, u21, u22, u23, u24, u25, u26, u27, c28, c29, u30, u31, u32, u33, u34, u35, u36, u37, u38, u39, u40, u41, u42, u43, u44, u45, u46, u47, u48, u49, u50, u51, u52, u53, u54, u55, u56, u57, u58, u59, u60, u61, u62, u63, u64, u65, u66, u67, u68, u69, u70, u71, u72, u73, u74, u75, u76, u77, u78, u79, u80, u81, u82, u83, u84, u85, u86, u87, u88, u89, u90, u91, u92, u93, u94, u95, u96, u97, u98, u99, u100, u101, u102, u103, u104, u105, u106, u107, u108, u109, u110, u111, u112, u113, u114, u115, u116, u117, u118, u119, u120, u121, u122, u123, u124, u125, u126, u127, u128, u129, u130, u131, u132, u133, u134, u135, u136, u137, u138, u139, u140, u141, u142, u143, u144, u145, u146, u147, u148, u149, u150, u151, u152, u153, u154, u155, u156, u157, u158, u159, u160, u161, u162, u163, u164, u165, u166, u167, u168, u169, u170, u171, u172, u173, u174, u175, u176, u177, u178, u179, u180, u181, u182, u183, u184, u185, u186, u187, u188, u189, u190, u191, u192, u193, u194, u195, u196, u197, u198, u199, u200, u201, u202, u203, u204, u205, u206, u207, u208, u209, u210, u211, u212, u213, u214, u215, u216, u217, u218, u219, u220, u221, u222, u223, u224, u225, u226, u227, u228, u229, u230, u231, u232, u233, u234, u235, u236, u237, u238, u239, u240, u241, u242, u243, u244, u245, u246, u247, u248, u249, u250, u251, u252, u253, u254, u255, u256, u257, u258, u259, u260, u261, u262, u263, u264, u265, u266, u267, u268, u269, u270, u271, u272, u273, u274, u275, u276, u277, u278, u279, u280, u281, u282, u283, u284, u285, u286, u287, u288, u289, u290, u291, u292, undef, undef, undef, undef, undef, undef, undef, undef], []⟩) : FS B b n nf s w0 c9 c28 c29 v2 v8 (k + 1) a' w3 := by
  have e : ((k + 1 : Nat) : Int) = (k : Int) + 1 := by omega
  exact ⟨ia', by rw [e]; exact H, u6, u7, u11, u12, u13, u14, u15, u16, u17, u18, u19, u20, u21, u22, u23, u24, u25, u26, u27, u30, u31, u32, u33, u34, u35, u36, u37, u38, u39, u40, u41, u42, u43, u44, u45, u46, u47, u48, u49, u50, u51, u52, u53, u54, u55, u56, u57, u58, u59, u60, u61, u62, u63, u64, u65, u66, u67, u68, u69, u70, u71, u72, u73, u74, u75, u76, u77, u78, u79, u80, u81, u82, u83, u84, u85, u86, u87, u88, u89, u90, u91, u92, u93, u94, u95, u96, u97, u98, u99, u100, u101, u102, u103, u104, u105, u106, u107, u108, u109, u110, u111, u112, u113, u114, u115, u116, u117, u118, u119, u120, u121, u122, u123, u124, u125, u126, u127, u128, u129, u130, u131, u132, u133, u134, u135, u136, u137, u138, u139, u140, u141, u142, u143, u144, u145, u146, u147, u148, u149, u150, u151, u152, u153, u154, u155, u156, u157, u158, u159, u160, u161, u162, u163, u164, u165, u166, u167, u168, u169, u170, u171, u172, u173, u174, u175, u176, u177, u178, u179, u180, u181, u182, u183, u184, u185, u186, u187, u188, u189, u190, u191, u192, u193, u194, u195, u196, u197, u198, u199, u200, u201, u202, u203, u204, u205, u206, u207, u208, u209, u210, u211, u212, u213, u214, u215, u216, u217, u218, u219, u220, u221, u222, u223, u224, u225, u226, u227, u228, u229, u230, u231, u232, u233, u234, u235, u236, u237, u238, u239, u240, u241, u242, u243, u244, u245, u246, u247, u248, u249, u250, u251, u252, u253, u254, u255, u256, u257, u258, u259, u260, u261, u262, u263, u264, u265, u266, u267, u268, u269, u270, u271, u272, u273, u274, u275, u276, u277, u278, u279, u280, u281, u282, u283, u284, u285, u286, u287, u288, u289, u290, u291, u292, ha'⟩

set_option maxHeartbeats 4000000 in
set_option maxRecDepth 1000000 in
theorem roundA_plain {B b n nf ia k : Nat} {s : ByteArray} {w0 wr : World} {c9 c28 c29 : Value} {A : Addr} {m cap : Nat} {Q0 : Exit → Act → World → Prop} (u6 u7 u11 u12 u13 u14 u15 u16 u17 u18 u19 u20 u21 u22 u23 u24 u25 u26 u27 u30 u31 u32 u33 u34 u35 u36 u37 u38 u39 u40 u41 u42 u43 u44 u45 u46 u47 u48 u49 u50 u51 u52 u53 u54 u55 u56 u57 u58 u59 u60 u61 u62 u63 u64 u65 u66 u67 u68 u69 u70 u71 u72 u73 u74 u75 u76 u77 u78 u79 u80 u81 u82 u83 u84 u85 u86 u87 u88 u89 u90 u91 u92 u93 u94 u95 u96 u97 u98 u99 u100 u101 u102 u103 u104 u105 u106 u107 u108 u109 u110 u111 u112 u113 u114 u115 u116 u117 u118 u119 u120 u121 u122 u123 u124 u125 u126 u127 u128 u129 u130 u131 u132 u133 u134 u135 u136 u137 u138 u139 u140 u141 u142 u143 u144 u145 u146 u147 u148 u149 u150 u151 u152 u153 u154 u155 u156 u157 u158 u159 u160 u161 u162 u163 u164 u165 u166 u167 u168 u169 u170 u171 u172 u173 u174 u175 u176 u177 u178 u179 u180 u181 u182 u183 u184 u185 u186 u187 u188 u189 u190 u191 u192 u193 u194 u195 u196 u197 u198 u199 u200 u201 u202 u203 u204 u205 u206 u207 u208 u209 u210 u211 u212 u213 u214 u215 u216 u217 u218 u219 u220 u221 u222 u223 u224 u225 u226 u227 u228 u229 u230 u231 u232 u233 u234 u235 u236 u237 u238 u239 u240 u241 u242 u243 u244 u245 u246 u247 u248 u249 u250 u251 u252 u253 u254 u255 u256 u257 u258 u259 u260 u261 u262 u263 u264 u265 u266 u267 u268 u269 u270 u271 u272 u273 u274 u275 u276 u277 u278 u279 u280 u281 u282 u283 u284 u285 u286 u287 u288 u289 u290 u291 u292 : Value) (hs : s.size ≤ 1048580) (hn : n ≤ 2000000000) (hE : Hid (Evs w0)) (h5 : 5 ≤ B) (H : Hid (Cs B b (n + 4 * k) nf ia s k w0 wr)) (hk : k < s.size) (q : (k < s.size) = True) (c : Int) (hc : ∀ h : k < s.size, ((s[k]'h).toNat : Int) = c) (hc0 : 0 ≤ c) (hc1 : c < 256) (h92 : (c == 92) = false) (h37 : (c == 37) = false) : Code.wp Tryf.prog fiBody (Exit.then (fun a w => FS B b n nf s w0 c9 c28 c29 (.slice (some A) m cap) (.slice none 0 0) (k + 1) a w) Q0) ⟨#[.pointer (some ⟨b, 0, none⟩), .string s, .slice (some A) m cap, undef, .pointer (some ⟨nf, 0, none⟩), undef, u6, u7, .slice none 0 0, c9, .pointer (some ⟨ia, 0, none⟩), u11, u12, u13, u14, u15, u16, u17, u18, u19, u20, u21, u22, u23, u24, u25, u26, u27, c28, c29, u30, u31, u32, u33, u34, u35, u36, u37, u38, u39, u40, u41, u42, u43, u44, u45, u46, u47, u48, u49, u50, u51, u52, u53, u54, u55, u56, u57, u58, u59, u60, u61, u62, u63, u64, u65, u66, u67, u68, u69, u70, u71, u72, u73, u74, u75, u76, u77, u78, u79, u80, u81, u82, u83, u84, u85, u86, u87, u88, u89, u90, u91, u92, u93, u94, u95, u96, u97, u98, u99, u100, u101, u102, u103, u104, u105, u106, u107, u108, u109, u110, u111, u112, u113, u114, u115, u116, u117, u118, u119, u120, u121, u122, u123, u124, u125, u126, u127, u128, u129, u130, u131, u132, u133, u134, u135, u136, u137, u138, u139, u140, u141, u142, u143, u144, u145, u146, u147, u148, u149, u150, u151, u152, u153, u154, u155, u156, u157, u158, u159, u160, u161, u162, u163, u164, u165, u166, u167, u168, u169, u170, u171, u172, u173, u174, u175, u176, u177, u178, u179, u180, u181, u182, u183, u184, u185, u186, u187, u188, u189, u190, u191, u192, u193, u194, u195, u196, u197, u198, u199, u200, u201, u202, u203, u204, u205, u206, u207, u208, u209, u210, u211, u212, u213, u214, u215, u216, u217, u218, u219, u220, u221, u222, u223, u224, u225, u226, u227, u228, u229, u230, u231, u232, u233, u234, u235, u236, u237, u238, u239, u240, u241, u242, u243, u244, u245, u246, u247, u248, u249, u250, u251, u252, u253, u254, u255, u256, u257, u258, u259, u260, u261, u262, u263, u264, u265, u266, u267, u268, u269, u270, u271, u272, u273, u274, u275, u276, u277, u278, u279, u280, u281, u282, u283, u284, u285, u286, u287, u288, u289, u290, u291, u292, undef, undef, undef, undef, undef, undef, undef, undef], []⟩ wr := by
  conv => arg 2; whnf
  have ci := H.out.ci
  have cf := H.out.cf
  have fi := H.out.fi
  have hkb : decide ((k : Int) < (s.size : Int)) = true := decide_eq_true (by omega)
  have hneq : ∀ W, (binOp .neq 31 (.slice (some A) m cap) (.slice none 0 0)).run Tryf.prog W = .ok (.bool true) W := fun W => run_neq_slice_nil W 31 9 (some A) m cap Tryf.underlying31
  go_wp2_with (go_at_call 53; refine Calls.mono (wb_c H (by omega) c hc0 hc1) ?_; rintro e w2 ⟨rfl, H2⟩; have ci2 := H2.out.ci; have cf2 := H2.out.cf; have fi2 := H2.out.fi)
  exact fs_end _ (Lib.hid ((H2.out.fresh _).le (by omega))) _ _ _ _ _ _ _ _ _ _ _ _ _ _ _ _ _ _ _ _ _ _ _ _ _ _ _ _ _ _ _ _ _ _ _ _ _ _ _ _ _ _ _ _ _ _ _ _ _ _ _ _ _ _ _ _ _ _ _ _ _ _ _ _ _ _ _ _ _ _ _ _ _ _ _ _ _ _ _ _ _ _ _ _ _ _ _ _ _ _ _ _ _ _ _ _ _ _ _ _ _ _ _ _ _ _ _ _ _ _ _ _ _ _ _ _ _ _ _ _ _ _ _ _ _ _ _ _ _ _ _ _ _ _ _ _ _ _ _ _ _ _ _ _ _ _ _ _ _ _ _ _ _ _ _ _ _ _ _ _ _ _ _ _ _ _ _ _ _ _ _ _ _ _ _ _ _ _ _ _ _ _ _ _ _ _ _ _ _ _ _ _ _ _ _ _ _ _ _ _ _ _ _ _ _ _ _ _ _ _ _ _ _ _ _ _ _ _ _ _ _ _ _ _ _ _ _ _ _ _ _ _ _ _ _ _ _ _ _ _ _ _ _ _ _ _ _ _ _ _ _ _ _ _ _ _ _ _ _ _ _ _ _ _ _ _ _ _ _ _ _ _ _ _ _ _ _ _ _ _ _ _ rfl

set_option maxHeartbeats 4000000 in
set_option maxRecDepth 1000000 in
theorem roundA_percent {B b n nf ia k : Nat} {s : ByteArray} {w0 wr : World} {c9 c28 c29 : Value} {A : Addr} {m cap : Nat} {Q0 : Exit → Act → World → Prop} (u6 u7 u11 u12 u13 u14 u15 u16 u17 u18 u19 u20 u21 u22 u23 u24 u25 u26 u27 u30 u31 u32 u33 u34 u35 u36 u37 u38 u39 u40 u41 u42 u43 u44 u45 u46 u47 u48 u49 u50 u51 u52 u53 u54 u55 u56 u57 u58 u59 u60 u61 u62 u63 u64 u65 u66 u67 u68 u69 u70 u71 u72 u73 u74 u75 u76 u77 u78 u79 u80 u81 u82 u83 u84 u85 u86 u87 u88 u89 u90 u91 u92 u93 u94 u95 u96 u97 u98 u99 u100 u101 u102 u103 u104 u105 u106 u107 u108 u109 u110 u111 u112 u113 u114 u115 u116 u117 u118 u119 u120 u121 u122 u123 u124 u125 u126 u127 u128 u129 u130 u131 u132 u133 u134 u135 u136 u137 u138 u139 u140 u141 u142 u143 u144 u145 u146 u147 u148 u149 u150 u151 u152 u153 u154 u155 u156 u157 u158 u159 u160 u161 u162 u163 u164 u165 u166 u167 u168 u169 u170 u171 u172 u173 u174 u175 u176 u177 u178 u179 u180 u181 u182 u183 u184 u185 u186 u187 u188 u189 u190 u191 u192 u193 u194 u195 u196 u197 u198 u199 u200 u201 u202 u203 u204 u205 u206 u207 u208 u209 u210 u211 u212 u213 u214 u215 u216 u217 u218 u219 u220 u221 u222 u223 u224 u225 u226 u227 u228 u229 u230 u231 u232 u233 u234 u235 u236 u237 u238 u239 u240 u241 u242 u243 u244 u245 u246 u247 u248 u249 u250 u251 u252 u253 u254 u255 u256 u257 u258 u259 u260 u261 u262 u263 u264 u265 u266 u267 u268 u269 u270 u271 u272 u273 u274 u275 u276 u277 u278 u279 u280 u281 u282 u283 u284 u285 u286 u287 u288 u289 u290 u291 u292 : Value) (hs : s.size ≤ 1048580) (hn : n ≤ 2000000000) (hE : Hid (Evs w0)) (h5 : 5 ≤ B) (H : Hid (Cs B b (n + 4 * k) nf ia s k w0 wr)) (hk : k < s.size) (q : (k < s.size) = True) (hc : ∀ h : k < s.size, ((s[k]'h).toNat : Int) = 37) : Code.wp Tryf.prog fiBody (Exit.then (fun a w => ∃ g, FS B b n nf s w0 c9 c28 c29 (.slice (some A) m cap) (.slice (some ⟨g, 0, none⟩) 1 1) (k + 1) a w ∧ w.heap[g]? = some (.cells #[.int .u8 37] 5 (0, 0))) Q0) ⟨#[.pointer (some ⟨b, 0, none⟩), .string s, .slice (some A) m cap, undef, .pointer (some ⟨nf, 0, none⟩), undef, u6, u7, .slice none 0 0, c9, .pointer (some ⟨ia, 0, none⟩), u11, u12, u13, u14, u15, u16, u17, u18, u19, u20, u21, u22, u23, u24, u25, u26, u27, c28, c29, u30, u31, u32, u33, u34, u35, u36, u37, u38, u39, u40, u41, u42, u43, u44, u45, u46, u47, u48, u49, u50, u51, u52, u53, u54, u55, u56, u57, u58, u59, u60, u61, u62, u63, u64, u65, u66, u67, u68, u69, u70, u71, u72, u73, u74, u75, u76, u77, u78, u79, u80, u81, u82, u83, u84, u85, u86, u87, u88, u89, u90, u91, u92, u93, u94, u95, u96, u97, u98, u99, u100, u101, u102, u103, u104, u105, u106, u107, u108, u109, u110, u111, u112, u113, u114, u115, u116, u117, u118, u119, u120, u121, u122, u123, u124, u125, u126, u127, u128, u129, u130, u131, u132, u133, u134, u135, u136, u137, u138, u139, u140, u141, u142, u143, u144, u145, u146, u147, u148, u149, u150, u151, u152, u153, u154, u155, u156, u157, u158, u159, u160, u161, u162, u163, u164, u165, u166, u167, u168, u169, u170, u171, u172, u173, u174, u175, u176, u177, u178, u179, u180, u181, u182, u183, u184, u185, u186, u187, u188, u189, u190, u191, u192, u193, u194, u195, u196, u197, u198, u199, u200, u201, u202, u203, u204, u205, u206, u207, u208, u209, u210, u211, u212, u213, u214, u215, u216, u217, u218, u219, u220, u221, u222, u223, u224, u225, u226, u227, u228, u229, u230, u231, u232, u233, u234, u235, u236, u237, u238, u239, u240, u241, u242, u243, u244, u245, u246, u247, u248, u249, u250, u251, u252, u253, u254, u255, u256, u257, u258, u259, u260, u261, u262, u263, u264, u265, u266, u267, u268, u269, u270, u271, u272, u273, u274, u275, u276, u277, u278, u279, u280, u281, u282, u283, u284, u285, u286, u287, u288, u289, u290, u291, u292, undef, undef, undef, undef, undef, undef, undef, undef], []⟩ wr := by
  conv => arg 2; whnf
  have ci := H.out.ci
  have cf := H.out.cf
  have fi := H.out.fi
  have hkb : decide ((k : Int) < (s.size : Int)) = true := decide_eq_true (by omega)
  have hneq : ∀ W, (binOp .neq 31 (.slice (some A) m cap) (.slice none 0 0)).run Tryf.prog W = .ok (.bool true) W := fun W => run_neq_slice_nil W 31 9 (some A) m cap Tryf.underlying31
  have HA := H.out.alloc (.cells #[.int .u8 37] 5)
  have cia := HA.ci
  have cfa := HA.cf
  have HB := HA.fresh ((k : Int) + 1)
  have hg := World.new_at wr (.cells #[.int .u8 37] 5)
  have hsz : (wr.alloc (.cells #[.int .u8 37] 5)).heap.size = wr.heap.size + 1 := by simp
  rw [hsz] at HB
  go_wp2
  exact ⟨wr.heap.size, fs_end _ (Lib.hid (HB.le (by omega))) _ _ _ _ _ _ _ _ _ _ _ _ _ _ _ _ _ _ _ _ _ _ _ _ _ _ _ _ _ _ _ _ _ _ _ _ _ _ _ _ _ _ _ _ _ _ _ _ _ _ _ _ _ _ _ _ _ _ _ _ _ _ _ _ _ _ _ _ _ _ _ _ _ _ _ _ _ _ _ _ _ _ _ _ _ _ _ _ _ _ _ _ _ _ _ _ _ _ _ _ _ _ _ _ _ _ _ _ _ _ _ _ _ _ _ _ _ _ _ _ _ _ _ _ _ _ _ _ _ _ _ _ _ _ _ _ _ _ _ _ _ _ _ _ _ _ _ _ _ _ _ _ _ _ _ _ _ _ _ _ _ _ _ _ _ _ _ _ _ _ _ _ _ _ _ _ _ _ _ _ _ _ _ _ _ _ _ _ _ _ _ _ _ _ _ _ _ _ _ _ _ _ _ _ _ _ _ _ _ _ _ _ _ _ _ _ _ _ _ _ _ _ _ _ _ _ _ _ _ _ _ _ _ _ _ _ _ _ _ _ _ _ _ _ _ _ _ _ _ _ _ _ _ _ _ _ _ _ _ _ _ _ _ _ _ _ _ _ _ _ _ _ _ _ _ _ _ _ _ _ _ _ rfl, (Below.heap_alloc _ _ _ (blk_lt hg)).trans hg⟩

set_option maxHeartbeats 4000000 in
set_option maxRecDepth 1000000 in
theorem roundC_37 {B b n nf ia k : Nat} {s : ByteArray} {w0 wr : World} {c9 c28 c29 : Value} {A : Addr} {m cap : Nat} {Q0 : Exit → Act → World → Prop} (u6 u7 u11 u12 u13 u14 u15 u16 u17 u18 u19 u20 u21 u22 u23 u24 u25 u26 u27 u30 u31 u32 u33 u34 u35 u36 u37 u38 u39 u40 u41 u42 u43 u44 u45 u46 u47 u48 u49 u50 u51 u52 u53 u54 u55 u56 u57 u58 u59 u60 u61 u62 u63 u64 u65 u66 u67 u68 u69 u70 u71 u72 u73 u74 u75 u76 u77 u78 u79 u80 u81 u82 u83 u84 u85 u86 u87 u88 u89 u90 u91 u92 u93 u94 u95 u96 u97 u98 u99 u100 u101 u102 u103 u104 u105 u106 u107 u108 u109 u110 u111 u112 u113 u114 u115 u116 u117 u118 u119 u120 u121 u122 u123 u124 u125 u126 u127 u128 u129 u130 u131 u132 u133 u134 u135 u136 u137 u138 u139 u140 u141 u142 u143 u144 u145 u146 u147 u148 u149 u150 u151 u152 u153 u154 u155 u156 u157 u158 u159 u160 u161 u162 u163 u164 u165 u166 u167 u168 u169 u170 u171 u172 u173 u174 u175 u176 u177 u178 u179 u180 u181 u182 u183 u184 u185 u186 u187 u188 u189 u190 u191 u192 u193 u194 u195 u196 u197 u198 u199 u200 u201 u202 u203 u204 u205 u206 u207 u208 u209 u210 u211 u212 u213 u214 u215 u216 u217 u218 u219 u220 u221 u222 u223 u224 u225 u226 u227 u228 u229 u230 u231 u232 u233 u234 u235 u236 u237 u238 u239 u240 u241 u242 u243 u244 u245 u246 u247 u248 u249 u250 u251 u252 u253 u254 u255 u256 u257 u258 u259 u260 u261 u262 u263 u264 u265 u266 u267 u268 u269 u270 u271 u272 u273 u274 u275 u276 u277 u278 u279 u280 u281 u282 u283 u284 u285 u286 u287 u288 u289 u290 u291 u292 : Value) (hs : s.size ≤ 1048580) (hn : n ≤ 2000000000) (hE : Hid (Evs w0)) (h5 : 5 ≤ B) (H : Hid (Cs B b (n + 4 * k) nf ia s k w0 wr)) (hk : k < s.size) (q : (k < s.size) = True) {g8 : Nat} (hg8 : wr.heap[g8]? = some (.cells #[.int .u8 37] 5 (0, 0))) (hc : ∀ h : k < s.size, ((s[k]'h).toNat : Int) = 37) : Code.wp Tryf.prog fiBody (Exit.then (fun a w => FS B b n nf s w0 c9 c28 c29 (.slice (some A) m cap) (.slice none 0 0) (k + 1) a w) Q0) ⟨#[.pointer (some ⟨b, 0, none⟩), .string s, .slice (some A) m cap, undef, .pointer (some ⟨nf, 0, none⟩), undef, u6, u7, .slice (some ⟨g8, 0, none⟩) 1 1, c9, .pointer (some ⟨ia, 0, none⟩), u11, u12, u13, u14, u15, u16, u17, u18, u19, u20, u21, u22, u23, u24, u25, u26, u27, c28, c29, u30, u31, u32, u33, u34, u35, u36, u37, u38, u39, u40, u41, u42, u43, u44, u45, u46, u47, u48, u49, u50, u51, u52, u53, u54, u55, u56, u57, u58, u59, u60, u61, u62, u63, u64, u65, u66, u67, u68, u69, u70, u71, u72, u73, u74, u75, u76, u77, u78, u79, u80, u81, u82, u83, u84, u85, u86, u87, u88, u89, u90, u91, u92, u93, u94, u95, u96, u97, u98, u99, u100, u101, u102, u103, u104, u105, u106, u107, u108, u109, u110, u111, u112, u113, u114, u115, u116, u117, u118, u119, u120, u121, u122, u123, u124, u125, u126, u127, u128, u129, u130, u131, u132, u133, u134, u135, u136, u137, u138, u139, u140, u141, u142, u143, u144, u145, u146, u147, u148, u149, u150, u151, u152, u153, u154, u155, u156, u157, u158, u159, u160, u161, u162, u163, u164, u165, u166, u167, u168, u169, u170, u171, u172, u173, u174, u175, u176, u177, u178, u179, u180, u181, u182, u183, u184, u185, u186, u187, u188, u189, u190, u191, u192, u193, u194, u195, u196, u197, u198, u199, u200, u201, u202, u203, u204, u205, u206, u207, u208, u209, u210, u211, u212, u213, u214, u215, u216, u217, u218, u219, u220, u221, u222, u223, u224, u225, u226, u227, u228, u229, u230, u231, u232, u233, u234, u235, u236, u237, u238, u239, u240, u241, u242, u243, u244, u245, u246, u247, u248, u249, u250, u251, u252, u253, u254, u255, u256, u257, u258, u259, u260, u261, u262, u263, u264, u265, u266, u267, u268, u269, u270, u271, u272, u273, u274, u275, u276, u277, u278, u279, u280, u281, u282, u283, u284, u285, u286, u287, u288, u289, u290, u291, u292, undef, undef, undef, undef, undef, undef, undef, undef], []⟩ wr := by
  conv => arg 2; whnf
  have ci := H.out.ci
  have cf := H.out.cf
  have fi := H.out.fi
  have hkb : decide ((k : Int) < (s.size : Int)) = true := decide_eq_true (by omega)
  go_wp2_with (go_at_call 53; refine Calls.mono (wb_c H (by omega) _ (by omega) (by omega)) ?_; rintro e w2 ⟨rfl, H2⟩; have ci2 := H2.out.ci; have cf2 := H2.out.cf; have fi2 := H2.out.fi)
  exact fs_end _ (Lib.hid ((H2.out.fresh _).le (by omega))) _ _ _ _ _ _ _ _ _ _ _ _ _ _ _ _ _ _ _ _ _ _ _ _ _ _ _ _ _ _ _ _ _ _ _ _ _ _ _ _ _ _ _ _ _ _ _ _ _ _ _ _ _ _ _ _ _ _ _ _ _ _ _ _ _ _ _ _ _ _ _ _ _ _ _ _ _ _ _ _ _ _ _ _ _ _ _ _ _ _ _ _ _ _ _ _ _ _ _ _ _ _ _ _ _ _ _ _ _ _ _ _ _ _ _ _ _ _ _ _ _ _ _ _ _ _ _ _ _ _ _ _ _ _ _ _ _ _ _ _ _ _ _ _ _ _ _ _ _ _ _ _ _ _ _ _ _ _ _ _ _ _ _ _ _ _ _ _ _ _ _ _ _ _ _ _ _ _ _ _ _ _ _ _ _ _ _ _ _ _ _ _ _ _ _ _ _ _ _ _ _ _ _ _ _ _ _ _ _ _ _ _ _ _ _ _ _ _ _ _ _ _ _ _ _ _ _ _ _ _ _ _ _ _ _ _ _ _ _ _ _ _ _ _ _ _ _ _ _ _ _ _ _ _ _ _ _ _ _ _ _ _ _ _ _ _ _ _ _ _ _ _ _ _ _ _ _ _ _ _ _ _ rfl

set_option maxHeartbeats 4000000 in
set_option maxRecDepth 1000000 in
theorem roundC_99_none {B b n nf ia k : Nat} {s : ByteArray} {w0 wr : World} {c9 c28 c29 : Value} {A : Addr} {m cap : Nat} {Q0 : Exit → Act → World → Prop} (u6 u7 u11 u12 u13 u14 u15 u16 u17 u18 u19 u20 u21 u22 u23 u24 u25 u26 u27 u30 u31 u32 u33 u34 u35 u36 u37 u38 u39 u40 u41 u42 u43 u44 u45 u46 u47 u48 u49 u50 u51 u52 u53 u54 u55 u56 u57 u58 u59 u60 u61 u62 u63 u64 u65 u66 u67 u68 u69 u70 u71 u72 u73 u74 u75 u76 u77 u78 u79 u80 u81 u82 u83 u84 u85 u86 u87 u88 u89 u90 u91 u92 u93 u94 u95 u96 u97 u98 u99 u100 u101 u102 u103 u104 u105 u106 u107 u108 u109 u110 u111 u112 u113 u114 u115 u116 u117 u118 u119 u120 u121 u122 u123 u124 u125 u126 u127 u128 u129 u130 u131 u132 u133 u134 u135 u136 u137 u138 u139 u140 u141 u142 u143 u144 u145 u146 u147 u148 u149 u150 u151 u152 u153 u154 u155 u156 u157 u158 u159 u160 u161 u162 u163 u164 u165 u166 u167 u168 u169 u170 u171 u172 u173 u174 u175 u176 u177 u178 u179 u180 u181 u182 u183 u184 u185 u186 u187 u188 u189 u190 u191 u192 u193 u194 u195 u196 u197 u198 u199 u200 u201 u202 u203 u204 u205 u206 u207 u208 u209 u210 u211 u212 u213 u214 u215 u216 u217 u218 u219 u220 u221 u222 u223 u224 u225 u226 u227 u228 u229 u230 u231 u232 u233 u234 u235 u236 u237 u238 u239 u240 u241 u242 u243 u244 u245 u246 u247 u248 u249 u250 u251 u252 u253 u254 u255 u256 u257 u258 u259 u260 u261 u262 u263 u264 u265 u266 u267 u268 u269 u270 u271 u272 u273 u274 u275 u276 u277 u278 u279 u280 u281 u282 u283 u284 u285 u286 u287 u288 u289 u290 u291 u292 : Value) (hs : s.size ≤ 1048580) (hn : n ≤ 2000000000) (hE : Hid (Evs w0)) (h5 : 5 ≤ B) (H : Hid (Cs B b (n + 4 * k) nf ia s k w0 wr)) (hk : k < s.size) (q : (k < s.size) = True) {g8 : Nat} (hg8 : wr.heap[g8]? = some (.cells #[.int .u8 37] 5 (0, 0))) (hc : ∀ h : k < s.size, ((s[k]'h).toNat : Int) = 99) (hm : m = 0) : Code.wp Tryf.prog fiBody (Exit.then (fun a w => FS B b n nf s w0 c9 c28 c29 (.slice (some A) m cap) (.slice none 0 0) (k + 1) a w) Q0) ⟨#[.pointer (some ⟨b, 0, none⟩), .string s, .slice (some A) m cap, undef, .pointer (some ⟨nf, 0, none⟩), undef, u6, u7, .slice (some ⟨g8, 0, none⟩) 1 1, c9, .pointer (some ⟨ia, 0, none⟩), u11, u12, u13, u14, u15, u16, u17, u18, u19, u20, u21, u22, u23, u24, u25, u26, u27, c28, c29, u30, u31, u32, u33, u34, u35, u36, u37, u38, u39, u40, u41, u42, u43, u44, u45, u46, u47, u48, u49, u50, u51, u52, u53, u54, u55, u56, u57, u58, u59, u60, u61, u62, u63, u64, u65, u66, u67, u68, u69, u70, u71, u72, u73, u74, u75, u76, u77, u78, u79, u80, u81, u82, u83, u84, u85, u86, u87, u88, u89, u90, u91, u92, u93, u94, u95, u96, u97, u98, u99, u100, u101, u102, u103, u104, u105, u106, u107, u108, u109, u110, u111, u112, u113, u114, u115, u116, u117, u118, u119, u120, u121, u122, u123, u124, u125, u126, u127, u128, u129, u130, u131, u132, u133, u134, u135, u136, u137, u138, u139, u140, u141, u142, u143, u144, u145, u146, u147, u148, u149, u150, u151, u152, u153, u154, u155, u156, u157, u158, u159, u160, u161, u162, u163, u164, u165, u166, u167, u168, u169, u170, u171, u172, u173, u174, u175, u176, u177, u178, u179, u180, u181, u182, u183, u184, u185, u186, u187, u188, u189, u190, u191, u192, u193, u194, u195, u196, u197, u198, u199, u200, u201, u202, u203, u204, u205, u206, u207, u208, u209, u210, u211, u212, u213, u214, u215, u216, u217, u218, u219, u220, u221, u222, u223, u224, u225, u226, u227, u228, u229, u230, u231, u232, u233, u234, u235, u236, u237, u238, u239, u240, u241, u242, u243, u244, u245, u246, u247, u248, u249, u250, u251, u252, u253, u254, u255, u256, u257, u258, u259, u260, u261, u262, u263, u264, u265, u266, u267, u268, u269, u270, u271, u272, u273, u274, u275, u276, u277, u278, u279, u280, u281, u282, u283, u284, u285, u286, u287, u288, u289, u290, u291, u292, undef, undef, undef, undef, undef, undef, undef, undef], []⟩ wr := by
  conv => arg 2; whnf
  have ci := H.out.ci
  have cf := H.out.cf
  have fi := H.out.fi
  have hkb : decide ((k : Int) < (s.size : Int)) = true := decide_eq_true (by omega)
  subst hm
  go_wp2_with (go_at_call 53; refine Calls.mono (wb_c H (by omega) _ (by omega) (by omega)) ?_; rintro e w2 ⟨rfl, H2⟩; have ci2 := H2.out.ci; have cf2 := H2.out.cf; have fi2 := H2.out.fi)
  exact fs_end _ (Lib.hid ((H2.out.fresh _).le (by omega))) _ _ _ _ _ _ _ _ _ _ _ _ _ _ _ _ _ _ _ _ _ _ _ _ _ _ _ _ _ _ _ _ _ _ _ _ _ _ _ _ _ _ _ _ _ _ _ _ _ _ _ _ _ _ _ _ _ _ _ _ _ _ _ _ _ _ _ _ _ _ _ _ _ _ _ _ _ _ _ _ _ _ _ _ _ _ _ _ _ _ _ _ _ _ _ _ _ _ _ _ _ _ _ _ _ _ _ _ _ _ _ _ _ _ _ _ _ _ _ _ _ _ _ _ _ _ _ _ _ _ _ _ _ _ _ _ _ _ _ _ _ _ _ _ _ _ _ _ _ _ _ _ _ _ _ _ _ _ _ _ _ _ _ _ _ _ _ _ _ _ _ _ _ _ _ _ _ _ _ _ _ _ _ _ _ _ _ _ _ _ _ _ _ _ _ _ _ _ _ _ _ _ _ _ _ _ _ _ _ _ _ _ _ _ _ _ _ _ _ _ _ _ _ _ _ _ _ _ _ _ _ _ _ _ _ _ _ _ _ _ _ _ _ _ _ _ _ _ _ _ _ _ _ _ _ _ _ _ _ _ _ _ _ _ _ _ _ _ _ _ _ _ _ _ _ _ _ _ _ _ _ _ rfl

set_option maxHeartbeats 4000000 in
set_option maxRecDepth 1000000 in
theorem roundC_99_e {B b n nf ia k : Nat} {s : ByteArray} {w0 wr : World} {c9 c28 c29 : Value} {A : Addr} {m cap : Nat} {Q0 : Exit → Act → World → Prop} (u6 u7 u11 u12 u13 u14 u15 u16 u17 u18 u19 u20 u21 u22 u23 u24 u25 u26 u27 u30 u31 u32 u33 u34 u35 u36 u37 u38 u39 u40 u41 u42 u43 u44 u45 u46 u47 u48 u49 u50 u51 u52 u53 u54 u55 u56 u57 u58 u59 u60 u61 u62 u63 u64 u65 u66 u67 u68 u69 u70 u71 u72 u73 u74 u75 u76 u77 u78 u79 u80 u81 u82 u83 u84 u85 u86 u87 u88 u89 u90 u91 u92 u93 u94 u95 u96 u97 u98 u99 u100 u101 u102 u103 u104 u105 u106 u107 u108 u109 u110 u111 u112 u113 u114 u115 u116 u117 u118 u119 u120 u121 u122 u123 u124 u125 u126 u127 u128 u129 u130 u131 u132 u133 u134 u135 u136 u137 u138 u139 u140 u141 u142 u143 u144 u145 u146 u147 u148 u149 u150 u151 u152 u153 u154 u155 u156 u157 u158 u159 u160 u161 u162 u163 u164 u165 u166 u167 u168 u169 u170 u171 u172 u173 u174 u175 u176 u177 u178 u179 u180 u181 u182 u183 u184 u185 u186 u187 u188 u189 u190 u191 u192 u193 u194 u195 u196 u197 u198 u199 u200 u201 u202 u203 u204 u205 u206 u207 u208 u209 u210 u211 u212 u213 u214 u215 u216 u217 u218 u219 u220 u221 u222 u223 u224 u225 u226 u227 u228 u229 u230 u231 u232 u233 u234 u235 u236 u237 u238 u239 u240 u241 u242 u243 u244 u245 u246 u247 u248 u249 u250 u251 u252 u253 u254 u255 u256 u257 u258 u259 u260 u261 u262 u263 u264 u265 u266 u267 u268 u269 u270 u271 u272 u273 u274 u275 u276 u277 u278 u279 u280 u281 u282 u283 u284 u285 u286 u287 u288 u289 u290 u291 u292 : Value) (hs : s.size ≤ 1048580) (hn : n ≤ 2000000000) (hE : Hid (Evs w0)) (h5 : 5 ≤ B) (H : Hid (Cs B b (n + 4 * k) nf ia s k w0 wr)) (hk : k < s.size) (q : (k < s.size) = True) {g8 : Nat} (hg8 : wr.heap[g8]? = some (.cells #[.int .u8 37] 5 (0, 0))) (hc : ∀ h : k < s.size, ((s[k]'h).toNat : Int) = 99) (hm : 0 < m) (hmc : m ≤ cap) (t : ByteArray) (ht : wr.cell? A = some (.string t)) (ht0 : t.size = 0) : Code.wp Tryf.prog fiBody (Exit.then (fun a w => ∃ A2 : Option Addr, FS B b n nf s w0 c9 c28 c29 (.slice A2 (m - 1) (cap - 1)) (.slice none 0 0) (k + 1) a w) Q0) ⟨#[.pointer (some ⟨b, 0, none⟩), .string s, .slice (some A) m cap, undef, .pointer (some ⟨nf, 0, none⟩), undef, u6, u7, .slice (some ⟨g8, 0, none⟩) 1 1, c9, .pointer (some ⟨ia, 0, none⟩), u11, u12, u13, u14, u15, u16, u17, u18, u19, u20, u21, u22, u23, u24, u25, u26, u27, c28, c29, u30, u31, u32, u33, u34, u35, u36, u37, u38, u39, u40, u41, u42, u43, u44, u45, u46, u47, u48, u49, u50, u51, u52, u53, u54, u55, u56, u57, u58, u59, u60, u61, u62, u63, u64, u65, u66, u67, u68, u69, u70, u71, u72, u73, u74, u75, u76, u77, u78, u79, u80, u81, u82, u83, u84, u85, u86, u87, u88, u89, u90, u91, u92, u93, u94, u95, u96, u97, u98, u99, u100, u101, u102, u103, u104, u105, u106, u107, u108, u109, u110, u111, u112, u113, u114, u115, u116, u117, u118, u119, u120, u121, u122, u123, u124, u125, u126, u127, u128, u129, u130, u131, u132, u133, u134, u135, u136, u137, u138, u139, u140, u141, u142, u143, u144, u145, u146, u147, u148, u149, u150, u151, u152, u153, u154, u155, u156, u157, u158, u159, u160, u161, u162, u163, u164, u165, u166, u167, u168, u169, u170, u171, u172, u173, u174, u175, u176, u177, u178, u179, u180, u181, u182, u183, u184, u185, u186, u187, u188, u189, u190, u191, u192, u193, u194, u195, u196, u197, u198, u199, u200, u201, u202, u203, u204, u205, u206, u207, u208, u209, u210, u211, u212, u213, u214, u215, u216, u217, u218, u219, u220, u221, u222, u223, u224, u225, u226, u227, u228, u229, u230, u231, u232, u233, u234, u235, u236, u237, u238, u239, u240, u241, u242, u243, u244, u245, u246, u247, u248, u249, u250, u251, u252, u253, u254, u255, u256, u257, u258, u259, u260, u261, u262, u263, u264, u265, u266, u267, u268, u269, u270, u271, u272, u273, u274, u275, u276, u277, u278, u279, u280, u281, u282, u283, u284, u285, u286, u287, u288, u289, u290, u291, u292, undef, undef, undef, undef, undef, undef, undef, undef], []⟩ wr := by
  conv => arg 2; whnf
  have ci := H.out.ci
  have cf := H.out.cf
  have fi := H.out.fi
  have hkb : decide ((k : Int) < (s.size : Int)) = true := decide_eq_true (by omega)
  have hm1 : decide ((0 : Int) < (m : Int)) = true := decide_eq_true (by omega)
  have hm2 : (1 ≤ m) = True := eq_true hm
  have hm3 : (0 < m) = True := eq_true hm
  have hmc2 : (m ≤ cap) = True := eq_true hmc
  have HD := Lib.hid H.out.drewN
  have cid := HD.out.ci
  have cfd := HD.out.cf
  have htb : decide ((0 : Int) < (t.size : Int)) = false := decide_eq_false (by omega)
  go_upto_region 76 with (fail)
  go_region
  go_wp2_with (go_at_call 53; refine Calls.mono (wb_c HD (by omega) _ (by omega) (by omega)) ?_; rintro e w2 ⟨rfl, H2⟩; have ci2 := H2.out.ci; have cf2 := H2.out.cf; have fi2 := H2.out.fi)
  all_goals exact ⟨_, fs_end _ (Lib.hid ((H2.out.fresh _).le (by omega))) _ _ _ _ _ _ _ _ _ _ _ _ _ _ _ _ _ _ _ _ _ _ _ _ _ _ _ _ _ _ _ _ _ _ _ _ _ _ _ _ _ _ _ _ _ _ _ _ _ _ _ _ _ _ _ _ _ _ _ _ _ _ _ _ _ _ _ _ _ _ _ _ _ _ _ _ _ _ _ _ _ _ _ _ _ _ _ _ _ _ _ _ _ _ _ _ _ _ _ _ _ _ _ _ _ _ _ _ _ _ _ _ _ _ _ _ _ _ _ _ _ _ _ _ _ _ _ _ _ _ _ _ _ _ _ _ _ _ _ _ _ _ _ _ _ _ _ _ _ _ _ _ _ _ _ _ _ _ _ _ _ _ _ _ _ _ _ _ _ _ _ _ _ _ _ _ _ _ _ _ _ _ _ _ _ _ _ _ _ _ _ _ _ _ _ _ _ _ _ _ _ _ _ _ _ _ _ _ _ _ _ _ _ _ _ _ _ _ _ _ _ _ _ _ _ _ _ _ _ _ _ _ _ _ _ _ _ _ _ _ _ _ _ _ _ _ _ _ _ _ _ _ _ _ _ _ _ _ _ _ _ _ _ _ _ _ _ _ _ _ _ _ _ _ _ _ _ _ _ _ _ _ rfl⟩

set_option maxHeartbeats 4000000 in
set_option maxRecDepth 1000000 in
theorem roundC_99_f {B b n nf ia k : Nat} {s : ByteArray} {w0 wr : World} {c9 c28 c29 : Value} {A : Addr} {m cap : Nat} {Q0 : Exit → Act → World → Prop} (u6 u7 u11 u12 u13 u14 u15 u16 u17 u18 u19 u20 u21 u22 u23 u24 u25 u26 u27 u30 u31 u32 u33 u34 u35 u36 u37 u38 u39 u40 u41 u42 u43 u44 u45 u46 u47 u48 u49 u50 u51 u52 u53 u54 u55 u56 u57 u58 u59 u60 u61 u62 u63 u64 u65 u66 u67 u68 u69 u70 u71 u72 u73 u74 u75 u76 u77 u78 u79 u80 u81 u82 u83 u84 u85 u86 u87 u88 u89 u90 u91 u92 u93 u94 u95 u96 u97 u98 u99 u100 u101 u102 u103 u104 u105 u106 u107 u108 u109 u110 u111 u112 u113 u114 u115 u116 u117 u118 u119 u120 u121 u122 u123 u124 u125 u126 u127 u128 u129 u130 u131 u132 u133 u134 u135 u136 u137 u138 u139 u140 u141 u142 u143 u144 u145 u146 u147 u148 u149 u150 u151 u152 u153 u154 u155 u156 u157 u158 u159 u160 u161 u162 u163 u164 u165 u166 u167 u168 u169 u170 u171 u172 u173 u174 u175 u176 u177 u178 u179 u180 u181 u182 u183 u184 u185 u186 u187 u188 u189 u190 u191 u192 u193 u194 u195 u196 u197 u198 u199 u200 u201 u202 u203 u204 u205 u206 u207 u208 u209 u210 u211 u212 u213 u214 u215 u216 u217 u218 u219 u220 u221 u222 u223 u224 u225 u226 u227 u228 u229 u230 u231 u232 u233 u234 u235 u236 u237 u238 u239 u240 u241 u242 u243 u244 u245 u246 u247 u248 u249 u250 u251 u252 u253 u254 u255 u256 u257 u258 u259 u260 u261 u262 u263 u264 u265 u266 u267 u268 u269 u270 u271 u272 u273 u274 u275 u276 u277 u278 u279 u280 u281 u282 u283 u284 u285 u286 u287 u288 u289 u290 u291 u292 : Value) (hs : s.size ≤ 1048580) (hn : n ≤ 2000000000) (hE : Hid (Evs w0)) (h5 : 5 ≤ B) (H : Hid (Cs B b (n + 4 * k) nf ia s k w0 wr)) (hk : k < s.size) (q : (k < s.size) = True) {g8 : Nat} (hg8 : wr.heap[g8]? = some (.cells #[.int .u8 37] 5 (0, 0))) (hc : ∀ h : k < s.size, ((s[k]'h).toNat : Int) = 99) (hm : 0 < m) (hmc : m ≤ cap) (t : ByteArray) (ht : wr.cell? A = some (.string t)) (c2 : Int) (q2 : (0 < t.size) = True) (hc2 : ∀ h : 0 < t.size, ((t[0]'h).toNat : Int) = c2) (h20 : 0 ≤ c2) (h21 : c2 < 256) (ht0 : 0 < t.size) : Code.wp Tryf.prog fiBody (Exit.then (fun a w => ∃ A2 : Option Addr, FS B b n nf s w0 c9 c28 c29 (.slice A2 (m - 1) (cap - 1)) (.slice none 0 0) (k + 1) a w) Q0) ⟨#[.pointer (some ⟨b, 0, none⟩), .string s, .slice (some A) m cap, undef, .pointer (some ⟨nf, 0, none⟩), undef, u6, u7, .slice (some ⟨g8, 0, none⟩) 1 1, c9, .pointer (some ⟨ia, 0, none⟩), u11, u12, u13, u14, u15, u16, u17, u18, u19, u20, u21, u22, u23, u24, u25, u26, u27, c28, c29, u30, u31, u32, u33, u34, u35, u36, u37, u38, u39, u40, u41, u42, u43, u44, u45, u46, u47, u48, u49, u50, u51, u52, u53, u54, u55, u56, u57, u58, u59, u60, u61, u62, u63, u64, u65, u66, u67, u68, u69, u70, u71, u72, u73, u74, u75, u76, u77, u78, u79, u80, u81, u82, u83, u84, u85, u86, u87, u88, u89, u90, u91, u92, u93, u94, u95, u96, u97, u98, u99, u100, u101, u102, u103, u104, u105, u106, u107, u108, u109, u110, u111, u112, u113, u114, u115, u116, u117, u118, u119, u120, u121, u122, u123, u124, u125, u126, u127, u128, u129, u130, u131, u132, u133, u134, u135, u136, u137, u138, u139, u140, u141, u142, u143, u144, u145, u146, u147, u148, u149, u150, u151, u152, u153, u154, u155, u156, u157, u158, u159, u160, u161, u162, u163, u164, u165, u166, u167, u168, u169, u170, u171, u172, u173, u174, u175, u176, u177, u178, u179, u180, u181, u182, u183, u184, u185, u186, u187, u188, u189, u190, u191, u192, u193, u194, u195, u196, u197, u198, u199, u200, u201, u202, u203, u204, u205, u206, u207, u208, u209, u210, u211, u212, u213, u214, u215, u216, u217, u218, u219, u220, u221, u222, u223, u224, u225, u226, u227, u228, u229, u230, u231, u232, u233, u234, u235, u236, u237, u238, u239, u240, u241, u242, u243, u244, u245, u246, u247, u248, u249, u250, u251, u252, u253, u254, u255, u256, u257, u258, u259, u260, u261, u262, u263, u264, u265, u266, u267, u268, u269, u270, u271, u272, u273, u274, u275, u276, u277, u278, u279, u280, u281, u282, u283, u284, u285, u286, u287, u288, u289, u290, u291, u292, undef, undef, undef, undef, undef, undef, undef, undef], []⟩ wr := by
  conv => arg 2; whnf
  have ci := H.out.ci
  have cf := H.out.cf
  have fi := H.out.fi
  have hkb : decide ((k : Int) < (s.size : Int)) = true := decide_eq_true (by omega)
  have hm1 : decide ((0 : Int) < (m : Int)) = true := decide_eq_true (by omega)
  have hm2 : (1 ≤ m) = True := eq_true hm
  have hm3 : (0 < m) = True := eq_true hm
  have hmc2 : (m ≤ cap) = True := eq_true hmc
  have HD := Lib.hid H.out.drewN
  have cid := HD.out.ci
  have cfd := HD.out.cf
  have htb : decide ((0 : Int) < (t.size : Int)) = true := decide_eq_true (by omega)
  go_upto_region 76 with (fail)
  go_region
  go_wp2_with (go_at_call 53; refine Calls.mono (wb_c HD (by omega) _ h20 h21) ?_; rintro e w2 ⟨rfl, H2⟩; have ci2 := H2.out.ci; have cf2 := H2.out.cf; have fi2 := H2.out.fi)
  all_goals exact ⟨_, fs_end _ (Lib.hid ((H2.out.fresh _).le (by omega))) _ _ _ _ _ _ _ _ _ _ _ _ _ _ _ _ _ _ _ _ _ _ _ _ _ _ _ _ _ _ _ _ _ _ _ _ _ _ _ _ _ _ _ _ _ _ _ _ _ _ _ _ _ _ _ _ _ _ _ _ _ _ _ _ _ _ _ _ _ _ _ _ _ _ _ _ _ _ _ _ _ _ _ _ _ _ _ _ _ _ _ _ _ _ _ _ _ _ _ _ _ _ _ _ _ _ _ _ _ _ _ _ _ _ _ _ _ _ _ _ _ _ _ _ _ _ _ _ _ _ _ _ _ _ _ _ _ _ _ _ _ _ _ _ _ _ _ _ _ _ _ _ _ _ _ _ _ _ _ _ _ _ _ _ _ _ _ _ _ _ _ _ _ _ _ _ _ _ _ _ _ _ _ _ _ _ _ _ _ _ _ _ _ _ _ _ _ _ _ _ _ _ _ _ _ _ _ _ _ _ _ _ _ _ _ _ _ _ _ _ _ _ _ _ _ _ _ _ _ _ _ _ _ _ _ _ _ _ _ _ _ _ _ _ _ _ _ _ _ _ _ _ _ _ _ _ _ _ _ _ _ _ _ _ _ _ _ _ _ _ _ _ _ _ _ _ _ _ _ _ _ _ rfl⟩
end Go.Proofs.YtgcjaijakbejjaaFmt

/- Proved: the round of formatInto's loop, case by case. Conditions: those of 'Cs'. PRINTED by gen_fig.py. -/
namespace Go.Proofs.YtgcjaijakbejjaaFmt
open Go.RowKit Go.Proofs.YtgcjaijakbejjaaFmtW.PrintWords
set_option linter.unusedVariables false

set_option maxHeartbeats 4000000 in
set_option maxRecDepth 1000000 in
theorem roundC_92 {B b n nf ia k : Nat} {s : ByteArray} {w0 wr : World} {c9 c28 c29 : Value} {A : Addr} {m cap : Nat} {Q0 : Exit → Act → World → Prop} (u6 u7 u11 u12 u13 u14 u15 u16 u17 u18 u19 u20 u21 u22 u23 u24 u25 u26 u27 u30 u31 u32 u33 u34 u35 u36 u37 u38 u39 u40 u41 u42 u43 u44 u45 u46 u47 u48 u49 u50 u51 u52 u53 u54 u55 u56 u57 u58 u59 u60 u61 u62 u63 u64 u65 u66 u67 u68 u69 u70 u71 u72 u73 u74 u75 u76 u77 u78 u79 u80 u81 u82 u83 u84 u85 u86 u87 u88 u89 u90 u91 u92 u93 u94 u95 u96 u97 u98 u99 u100 u101 u102 u103 u104 u105 u106 u107 u108 u109 u110 u111 u112 u113 u114 u115 u116 u117 u118 u119 u120 u121 u122 u123 u124 u125 u126 u127 u128 u129 u130 u131 u132 u133 u134 u135 u136 u137 u138 u139 u140 u141 u142 u143 u144 u145 u146 u147 u148 u149 u150 u151 u152 u153 u154 u155 u156 u157 u158 u159 u160 u161 u162 u163 u164 u165 u166 u167 u168 u169 u170 u171 u172 u173 u174 u175 u176 u177 u178 u179 u180 u181 u182 u183 u184 u185 u186 u187 u188 u189 u190 u191 u192 u193 u194 u195 u196 u197 u198 u199 u200 u201 u202 u203 u204 u205 u206 u207 u208 u209 u210 u211 u212 u213 u214 u215 u216 u217 u218 u219 u220 u221 u222 u223 u224 u225 u226 u227 u228 u229 u230 u231 u232 u233 u234 u235 u236 u237 u238 u239 u240 u241 u242 u243 u244 u245 u246 u247 u248 u249 u250 u251 u252 u253 u254 u255 u256 u257 u258 u259 u260 u261 u262 u263 u264 u265 u266 u267 u268 u269 u270 u271 u272 u273 u274 u275 u276 u277 u278 u279 u280 u281 u282 u283 u284 u285 u286 u287 u288 u289 u290 u291 u292 : Value) (hs : s.size ≤ 1048580) (hn : n ≤ 2000000000) (hE : Hid (Evs w0)) (h5 : 5 ≤ B) (H : Hid (Cs B b (n + 4 * k) nf ia s k w0 wr)) (hk : k < s.size) (q : (k < s.size) = True) {g8 : Nat} (hg8 : wr.heap[g8]? = some (.cells #[.int .u8 37] 5 (0, 0))) (hc : ∀ h : k < s.size, ((s[k]'h).toNat : Int) = 92) (hk2 : ¬ k + 1 < s.size) : Code.wp Tryf.prog fiBody (Exit.then (fun a w => FS B b n nf s w0 c9 c28 c29 (.slice (some A) m cap) (.slice (some ⟨g8, 0, none⟩) 1 1) (k + 1 + 1) a w) Q0) ⟨#[.pointer (some ⟨b, 0, none⟩), .string s, .slice (some A) m cap, undef, .pointer (some ⟨nf, 0, none⟩), undef, u6, u7, .slice (some ⟨g8, 0, none⟩) 1 1, c9, .pointer (some ⟨ia, 0, none⟩), u11, u12, u13, u14, u15, u16, u17, u18, u19, u20, u21, u22, u23, u24, u25, u26, u27, c28, c29, u30, u31, u32, u33, u34, u35, u36, u37, u38, u39, u40, u41, u42, u43, u44, u45, u46, u47, u48, u49, u50, u51, u52, u53, u54, u55, u56, u57, u58, u59, u60, u61, u62, u63, u64, u65, u66, u67, u68, u69, u70, u71, u72, u73, u74, u75, u76, u77, u78, u79, u80, u81, u82, u83, u84, u85, u86, u87, u88, u89, u90, u91, u92, u93, u94, u95, u96, u97, u98, u99, u100, u101, u102, u103, u104, u105, u106, u107, u108, u109, u110, u111, u112, u113, u114, u115, u116, u117, u118, u119, u120, u121, u122, u123, u124, u125, u126, u127, u128, u129, u130, u131, u132, u133, u134, u135, u136, u137, u138, u139, u140, u141, u142, u143, u144, u145, u146, u147, u148, u149, u150, u151, u152, u153, u154, u155, u156, u157, u158, u159, u160, u161, u162, u163, u164, u165, u166, u167, u168, u169, u170, u171, u172, u173, u174, u175, u176, u177, u178, u179, u180, u181, u182, u183, u184, u185, u186, u187, u188, u189, u190, u191, u192, u193, u194, u195, u196, u197, u198, u199, u200, u201, u202, u203, u204, u205, u206, u207, u208, u209, u210, u211, u212, u213, u214, u215, u216, u217, u218, u219, u220, u221, u222, u223, u224, u225, u226, u227, u228, u229, u230, u231, u232, u233, u234, u235, u236, u237, u238, u239, u240, u241, u242, u243, u244, u245, u246, u247, u248, u249, u250, u251, u252, u253, u254, u255, u256, u257, u258, u259, u260, u261, u262, u263, u264, u265, u266, u267, u268, u269, u270, u271, u272, u273, u274, u275, u276, u277, u278, u279, u280, u281, u282, u283, u284, u285, u286, u287, u288, u289, u290, u291, u292, undef, undef, undef, undef, undef, undef, undef, undef], []⟩ wr := by
  conv => arg 2; whnf
  have ci := H.out.ci
  have cf := H.out.cf
  have fi := H.out.fi
  have hkb : decide ((k : Int) < (s.size : Int)) = true := decide_eq_true (by omega)
  have H1 := Lib.hid (H.out.put ((k : Int) + 1))
  have ci1 := H1.out.ci
  have cf1 := H1.out.cf
  have fi1 := H1.out.fi
  have hkc : decide ((s.size : Int) ≤ (k : Int) + 1) = true := decide_eq_true (by omega)
  go_wp2_with (go_at_call 53; refine Calls.mono (wb_c H1 (by omega) _ (by omega) (by omega)) ?_; rintro e w2 ⟨rfl, H2⟩; have ci2 := H2.out.ci; have cf2 := H2.out.cf; have fi2 := H2.out.fi)
  exact fs_end (k := k + 1) _ (Lib.hid ((H2.out.fresh _).le (by omega))) _ _ _ _ _ _ _ _ _ _ _ _ _ _ _ _ _ _ _ _ _ _ _ _ _ _ _ _ _ _ _ _ _ _ _ _ _ _ _ _ _ _ _ _ _ _ _ _ _ _ _ _ _ _ _ _ _ _ _ _ _ _ _ _ _ _ _ _ _ _ _ _ _ _ _ _ _ _ _ _ _ _ _ _ _ _ _ _ _ _ _ _ _ _ _ _ _ _ _ _ _ _ _ _ _ _ _ _ _ _ _ _ _ _ _ _ _ _ _ _ _ _ _ _ _ _ _ _ _ _ _ _ _ _ _ _ _ _ _ _ _ _ _ _ _ _ _ _ _ _ _ _ _ _ _ _ _ _ _ _ _ _ _ _ _ _ _ _ _ _ _ _ _ _ _ _ _ _ _ _ _ _ _ _ _ _ _ _ _ _ _ _ _ _ _ _ _ _ _ _ _ _ _ _ _ _ _ _ _ _ _ _ _ _ _ _ _ _ _ _ _ _ _ _ _ _ _ _ _ _ _ _ _ _ _ _ _ _ _ _ _ _ _ _ _ _ _ _ _ _ _ _ _ _ _ _ _ _ _ _ _ _ _ _ _ _ _ _ _ _ _ _ _ _ _ _ _ _ _ _ _ _ rfl
end Go.Proofs.YtgcjaijakbejjaaFmt

/- Proved: the round of formatInto's loop, case by case. Conditions: those of 'Cs'. PRINTED by gen_fig.py. -/
namespace Go.Proofs.YtgcjaijakbejjaaFmt
open Go.RowKit Go.Proofs.YtgcjaijakbejjaaFmtW.PrintWords
set_option linter.unusedVariables false

set_option maxHeartbeats 4000000 in
set_option maxRecDepth 1000000 in
theorem roundC_98_none {B b n nf ia k : Nat} {s : ByteArray} {w0 wr : World} {c9 c28 c29 : Value} {A : Addr} {m cap : Nat} {Q0 : Exit → Act → World → Prop} (u6 u7 u11 u12 u13 u14 u15 u16 u17 u18 u19 u20 u21 u22 u23 u24 u25 u26 u27 u30 u31 u32 u33 u34 u35 u36 u37 u38 u39 u40 u41 u42 u43 u44 u45 u46 u47 u48 u49 u50 u51 u52 u53 u54 u55 u56 u57 u58 u59 u60 u61 u62 u63 u64 u65 u66 u67 u68 u69 u70 u71 u72 u73 u74 u75 u76 u77 u78 u79 u80 u81 u82 u83 u84 u85 u86 u87 u88 u89 u90 u91 u92 u93 u94 u95 u96 u97 u98 u99 u100 u101 u102 u103 u104 u105 u106 u107 u108 u109 u110 u111 u112 u113 u114 u115 u116 u117 u118 u119 u120 u121 u122 u123 u124 u125 u126 u127 u128 u129 u130 u131 u132 u133 u134 u135 u136 u137 u138 u139 u140 u141 u142 u143 u144 u145 u146 u147 u148 u149 u150 u151 u152 u153 u154 u155 u156 u157 u158 u159 u160 u161 u162 u163 u164 u165 u166 u167 u168 u169 u170 u171 u172 u173 u174 u175 u176 u177 u178 u179 u180 u181 u182 u183 u184 u185 u186 u187 u188 u189 u190 u191 u192 u193 u194 u195 u196 u197 u198 u199 u200 u201 u202 u203 u204 u205 u206 u207 u208 u209 u210 u211 u212 u213 u214 u215 u216 u217 u218 u219 u220 u221 u222 u223 u224 u225 u226 u227 u228 u229 u230 u231 u232 u233 u234 u235 u236 u237 u238 u239 u240 u241 u242 u243 u244 u245 u246 u247 u248 u249 u250 u251 u252 u253 u254 u255 u256 u257 u258 u259 u260 u261 u262 u263 u264 u265 u266 u267 u268 u269 u270 u271 u272 u273 u274 u275 u276 u277 u278 u279 u280 u281 u282 u283 u284 u285 u286 u287 u288 u289 u290 u291 u292 : Value) (hs : s.size ≤ 1048580) (hn : n ≤ 2000000000) (hE : Hid (Evs w0)) (h5 : 5 ≤ B) (H : Hid (Cs B b (n + 4 * k) nf ia s k w0 wr)) (hk : k < s.size) (q : (k < s.size) = True) {g8 : Nat} (hg8 : wr.heap[g8]? = some (.cells #[.int .u8 37] 5 (0, 0))) (hc : ∀ h : k < s.size, ((s[k]'h).toNat : Int) = 98) (hm : m = 0) (hn9 : n ≤ 1000000000) : Code.wp Tryf.prog fiBody (Exit.then (fun a w => FS B b (n + 8) nf s w0 c9 c28 c29 (.slice (some A) m cap) (.slice none 0 0) (k + 1) a w) Q0) ⟨#[.pointer (some ⟨b, 0, none⟩), .string s, .slice (some A) m cap, undef, .pointer (some ⟨nf, 0, none⟩), undef, u6, u7, .slice (some ⟨g8, 0, none⟩) 1 1, c9, .pointer (some ⟨ia, 0, none⟩), u11, u12, u13, u14, u15, u16, u17, u18, u19, u20, u21, u22, u23, u24, u25, u26, u27, c28, c29, u30, u31, u32, u33, u34, u35, u36, u37, u38, u39, u40, u41, u42, u43, u44, u45, u46, u47, u48, u49, u50, u51, u52, u53, u54, u55, u56, u57, u58, u59, u60, u61, u62, u63, u64, u65, u66, u67, u68, u69, u70, u71, u72, u73, u74, u75, u76, u77, u78, u79, u80, u81, u82, u83, u84, u85, u86, u87, u88, u89, u90, u91, u92, u93, u94, u95, u96, u97, u98, u99, u100, u101, u102, u103, u104, u105, u106, u107, u108, u109, u110, u111, u112, u113, u114, u115, u116, u117, u118, u119, u120, u121, u122, u123, u124, u125, u126, u127, u128, u129, u130, u131, u132, u133, u134, u135, u136, u137, u138, u139, u140, u141, u142, u143, u144, u145, u146, u147, u148, u149, u150, u151, u152, u153, u154, u155, u156, u157, u158, u159, u160, u161, u162, u163, u164, u165, u166, u167, u168, u169, u170, u171, u172, u173, u174, u175, u176, u177, u178, u179, u180, u181, u182, u183, u184, u185, u186, u187, u188, u189, u190, u191, u192, u193, u194, u195, u196, u197, u198, u199, u200, u201, u202, u203, u204, u205, u206, u207, u208, u209, u210, u211, u212, u213, u214, u215, u216, u217, u218, u219, u220, u221, u222, u223, u224, u225, u226, u227, u228, u229, u230, u231, u232, u233, u234, u235, u236, u237, u238, u239, u240, u241, u242, u243, u244, u245, u246, u247, u248, u249, u250, u251, u252, u253, u254, u255, u256, u257, u258, u259, u260, u261, u262, u263, u264, u265, u266, u267, u268, u269, u270, u271, u272, u273, u274, u275, u276, u277, u278, u279, u280, u281, u282, u283, u284, u285, u286, u287, u288, u289, u290, u291, u292, undef, undef, undef, undef, undef, undef, undef, undef], []⟩ wr := by
  conv => arg 2; whnf
  have ci := H.out.ci
  have cf := H.out.cf
  have fi := H.out.fi
  have hkb : decide ((k : Int) < (s.size : Int)) = true := decide_eq_true (by omega)
  subst hm
  have HD := H
  have hcall := fi_nil B b (n + 4 * k) ⟨#[]⟩ (by decide) (by omega) wr HD.out.bd HD.out.hB (Nat.lt_of_lt_of_le HD.out.hb HD.out.bel.size) (Lib.hid (hE.out.belowB h5 HD.out.bel)) h5
  go_wp2_with (go_at_call 37; refine Calls.mono hcall ?_; rintro e w2 ⟨rfl, q1, q2, q3⟩; have H2 := Lib.hid (HD.out.step q1 q2 q3); have ci2 := H2.out.ci; have cf2 := H2.out.cf; have fi2 := H2.out.fi)
  exact fs_end _ (Lib.hid ((H2.out.fresh _).le (by show n + 4 * k + 4 * 0 + 8 ≤ _; omega))) _ _ _ _ _ _ _ _ _ _ _ _ _ _ _ _ _ _ _ _ _ _ _ _ _ _ _ _ _ _ _ _ _ _ _ _ _ _ _ _ _ _ _ _ _ _ _ _ _ _ _ _ _ _ _ _ _ _ _ _ _ _ _ _ _ _ _ _ _ _ _ _ _ _ _ _ _ _ _ _ _ _ _ _ _ _ _ _ _ _ _ _ _ _ _ _ _ _ _ _ _ _ _ _ _ _ _ _ _ _ _ _ _ _ _ _ _ _ _ _ _ _ _ _ _ _ _ _ _ _ _ _ _ _ _ _ _ _ _ _ _ _ _ _ _ _ _ _ _ _ _ _ _ _ _ _ _ _ _ _ _ _ _ _ _ _ _ _ _ _ _ _ _ _ _ _ _ _ _ _ _ _ _ _ _ _ _ _ _ _ _ _ _ _ _ _ _ _ _ _ _ _ _ _ _ _ _ _ _ _ _ _ _ _ _ _ _ _ _ _ _ _ _ _ _ _ _ _ _ _ _ _ _ _ _ _ _ _ _ _ _ _ _ _ _ _ _ _ _ _ _ _ _ _ _ _ _ _ _ _ _ _ _ _ _ _ _ _ _ _ _ _ _ _ _ _ _ _ _ _ _ _ rfl

set_option maxHeartbeats 4000000 in
set_option maxRecDepth 1000000 in
theorem roundC_98_arg {B b n nf ia k : Nat} {s : ByteArray} {w0 wr : World} {c9 c28 c29 : Value} {A : Addr} {m cap : Nat} {Q0 : Exit → Act → World → Prop} (u6 u7 u11 u12 u13 u14 u15 u16 u17 u18 u19 u20 u21 u22 u23 u24 u25 u26 u27 u30 u31 u32 u33 u34 u35 u36 u37 u38 u39 u40 u41 u42 u43 u44 u45 u46 u47 u48 u49 u50 u51 u52 u53 u54 u55 u56 u57 u58 u59 u60 u61 u62 u63 u64 u65 u66 u67 u68 u69 u70 u71 u72 u73 u74 u75 u76 u77 u78 u79 u80 u81 u82 u83 u84 u85 u86 u87 u88 u89 u90 u91 u92 u93 u94 u95 u96 u97 u98 u99 u100 u101 u102 u103 u104 u105 u106 u107 u108 u109 u110 u111 u112 u113 u114 u115 u116 u117 u118 u119 u120 u121 u122 u123 u124 u125 u126 u127 u128 u129 u130 u131 u132 u133 u134 u135 u136 u137 u138 u139 u140 u141 u142 u143 u144 u145 u146 u147 u148 u149 u150 u151 u152 u153 u154 u155 u156 u157 u158 u159 u160 u161 u162 u163 u164 u165 u166 u167 u168 u169 u170 u171 u172 u173 u174 u175 u176 u177 u178 u179 u180 u181 u182 u183 u184 u185 u186 u187 u188 u189 u190 u191 u192 u193 u194 u195 u196 u197 u198 u199 u200 u201 u202 u203 u204 u205 u206 u207 u208 u209 u210 u211 u212 u213 u214 u215 u216 u217 u218 u219 u220 u221 u222 u223 u224 u225 u226 u227 u228 u229 u230 u231 u232 u233 u234 u235 u236 u237 u238 u239 u240 u241 u242 u243 u244 u245 u246 u247 u248 u249 u250 u251 u252 u253 u254 u255 u256 u257 u258 u259 u260 u261 u262 u263 u264 u265 u266 u267 u268 u269 u270 u271 u272 u273 u274 u275 u276 u277 u278 u279 u280 u281 u282 u283 u284 u285 u286 u287 u288 u289 u290 u291 u292 : Value) (hs : s.size ≤ 1048580) (hn : n ≤ 2000000000) (hE : Hid (Evs w0)) (h5 : 5 ≤ B) (H : Hid (Cs B b (n + 4 * k) nf ia s k w0 wr)) (hk : k < s.size) (q : (k < s.size) = True) {g8 : Nat} (hg8 : wr.heap[g8]? = some (.cells #[.int .u8 37] 5 (0, 0))) (hc : ∀ h : k < s.size, ((s[k]'h).toNat : Int) = 98) (hm : 0 < m) (hmc : m ≤ cap) (t : ByteArray) (ht : wr.cell? A = some (.string t)) (htz : t.size ≤ 1048580) (hn9 : n ≤ 1000000000) : Code.wp Tryf.prog fiBody (Exit.then (fun a w => ∃ A2 : Option Addr, FS B b (n + 4 * t.size + 8) nf s w0 c9 c28 c29 (.slice A2 (m - 1) (cap - 1)) (.slice none 0 0) (k + 1) a w) Q0) ⟨#[.pointer (some ⟨b, 0, none⟩), .string s, .slice (some A) m cap, undef, .pointer (some ⟨nf, 0, none⟩), undef, u6, u7, .slice (some ⟨g8, 0, none⟩) 1 1, c9, .pointer (some ⟨ia, 0, none⟩), u11, u12, u13, u14, u15, u16, u17, u18, u19, u20, u21, u22, u23, u24, u25, u26, u27, c28, c29, u30, u31, u32, u33, u34, u35, u36, u37, u38, u39, u40, u41, u42, u43, u44, u45, u46, u47, u48, u49, u50, u51, u52, u53, u54, u55, u56, u57, u58, u59, u60, u61, u62, u63, u64, u65, u66, u67, u68, u69, u70, u71, u72, u73, u74, u75, u76, u77, u78, u79, u80, u81, u82, u83, u84, u85, u86, u87, u88, u89, u90, u91, u92, u93, u94, u95, u96, u97, u98, u99, u100, u101, u102, u103, u104, u105, u106, u107, u108, u109, u110, u111, u112, u113, u114, u115, u116, u117, u118, u119, u120, u121, u122, u123, u124, u125, u126, u127, u128, u129, u130, u131, u132, u133, u134, u135, u136, u137, u138, u139, u140, u141, u142, u143, u144, u145, u146, u147, u148, u149, u150, u151, u152, u153, u154, u155, u156, u157, u158, u159, u160, u161, u162, u163, u164, u165, u166, u167, u168, u169, u170, u171, u172, u173, u174, u175, u176, u177, u178, u179, u180, u181, u182, u183, u184, u185, u186, u187, u188, u189, u190, u191, u192, u193, u194, u195, u196, u197, u198, u199, u200, u201, u202, u203, u204, u205, u206, u207, u208, u209, u210, u211, u212, u213, u214, u215, u216, u217, u218, u219, u220, u221, u222, u223, u224, u225, u226, u227, u228, u229, u230, u231, u232, u233, u234, u235, u236, u237, u238, u239, u240, u241, u242, u243, u244, u245, u246, u247, u248, u249, u250, u251, u252, u253, u254, u255, u256, u257, u258, u259, u260, u261, u262, u263, u264, u265, u266, u267, u268, u269, u270, u271, u272, u273, u274, u275, u276, u277, u278, u279, u280, u281, u282, u283, u284, u285, u286, u287, u288, u289, u290, u291, u292, undef, undef, undef, undef, undef, undef, undef, undef], []⟩ wr := by
  conv => arg 2; whnf
  have ci := H.out.ci
  have cf := H.out.cf
  have fi := H.out.fi
  have hkb : decide ((k : Int) < (s.size : Int)) = true := decide_eq_true (by omega)
  have hm1 : decide ((0 : Int) < (m : Int)) = true := decide_eq_true (by omega)
  have hm2 : (1 ≤ m) = True := eq_true hm
  have hm3 : (0 < m) = True := eq_true hm
  have hmc2 : (m ≤ cap) = True := eq_true hmc
  have HD := Lib.hid H.out.drewN
  have cid := HD.out.ci
  have cfd := HD.out.cf
  have hcall := fi_nil B b (n + 4 * k) t htz (by omega) wr.drew HD.out.bd HD.out.hB (Nat.lt_of_lt_of_le HD.out.hb HD.out.bel.size) (Lib.hid (hE.out.belowB h5 HD.out.bel)) h5
  go_upto_region 107 with (fail)
  go_region
  go_wp2_with (go_at_call 37; refine Calls.mono hcall ?_; rintro e w2 ⟨rfl, q1, q2, q3⟩; have H2 := Lib.hid (HD.out.step q1 q2 q3); have ci2 := H2.out.ci; have cf2 := H2.out.cf; have fi2 := H2.out.fi)
  all_goals exact ⟨_, fs_end _ (Lib.hid ((H2.out.fresh _).le (by omega))) _ _ _ _ _ _ _ _ _ _ _ _ _ _ _ _ _ _ _ _ _ _ _ _ _ _ _ _ _ _ _ _ _ _ _ _ _ _ _ _ _ _ _ _ _ _ _ _ _ _ _ _ _ _ _ _ _ _ _ _ _ _ _ _ _ _ _ _ _ _ _ _ _ _ _ _ _ _ _ _ _ _ _ _ _ _ _ _ _ _ _ _ _ _ _ _ _ _ _ _ _ _ _ _ _ _ _ _ _ _ _ _ _ _ _ _ _ _ _ _ _ _ _ _ _ _ _ _ _ _ _ _ _ _ _ _ _ _ _ _ _ _ _ _ _ _ _ _ _ _ _ _ _ _ _ _ _ _ _ _ _ _ _ _ _ _ _ _ _ _ _ _ _ _ _ _ _ _ _ _ _ _ _ _ _ _ _ _ _ _ _ _ _ _ _ _ _ _ _ _ _ _ _ _ _ _ _ _ _ _ _ _ _ _ _ _ _ _ _ _ _ _ _ _ _ _ _ _ _ _ _ _ _ _ _ _ _ _ _ _ _ _ _ _ _ _ _ _ _ _ _ _ _ _ _ _ _ _ _ _ _ _ _ _ _ _ _ _ _ _ _ _ _ _ _ _ _ _ _ _ _ _ rfl⟩
end Go.Proofs.YtgcjaijakbejjaaFmt
