/- storeRawMsg: its parts, one declaration each. PRINTED by wip/gen_sr.py. storeRawMsg: its parts, one declaration each. PRINTED by wip/gen_sr.py. storeRawMsg: its parts, one declaration each. PRINTED by wip/gen_sr.py. storeRawMsg: its parts, one declaration each. PRINTED by wip/gen_sr.py. storeRawMsg: its parts, one declaration each. PRINTED by wip/gen_sr.py. storeRawMsg: its parts, one declaration each. PRINTED by wip/gen_sr.py. -/
import Derived.Test.YtmblkpjnafgplaaGreatDoorR13
import Derived.Test.YtmblkpjnafgplaaGreatDoorR08
namespace Go.Proofs.YtmblkpjnafgplaaGreatDoor
open Go Go.RowKit
set_option maxRecDepth 100000
set_option linter.unusedVariables false
set_option linter.unusedSimpArgs false

set_option maxRecDepth 1000000 in
/-- what is asked of the text from statement 15 on -/
def Cont15 (R : Ending → World → Prop) (w : World) (ms : Nat) (h : Hd) (its : List Item) (M : List Ent) (F : List Nat) (rc : Rec) (Ah Ad : Option Addr) (ch cd : Nat) (s17 : Value) : Prop :=
  ∀ (wy : World) (u8 u9 u10 u11 u12 u13 u14 u15 u18 u19 u20 u21 u23 u24 u25 u26 u27 u28 u29 u30 u31 u32 u33 u34 u35 u36 u37 u38 u39 u40 u41 u42 u43 u44 u45 u46 u47 u48 u49 u50 u51 u52 u53 u54 u55 u56 u57 u58 u59 u60 u61 u62 u63 u64 u65 u66 u67 u68 u69 u70 u71 u72 u73 u74 u75 u76 u77 u78 u79 u80 u81 u82 u83 u84 u85 u86 u87 u88 u89 u90 u91 u92 u93 u94 u95 u96 u97 u98 u99 u100 u101 u102 u103 u104 u105 u106 u107 u108 u109 u110 u111 u112 u113 u114 u115 u116 u117 u118 u119 u120 u121 u122 u123 u124 u125 u126 u127 u128 u129 u130 u131 u132 u133 u134 u135 u136 u137 u138 u139 u140 u141 u142 u143 u144 u145 u146 u147 u148 u149 u150 u151 u152 u153 u154 u155 u156 u157 u158 u159 u160 u161 u162 u163 u164 u165 u166 u167 u168 u169 u170 u171 u172 u173 u174 u175 u176 u177 u178 u179 u180 u181 u182 u183 u184 u185 u186 u187 u188 u189 u190 u191 u192 u193 u194 u195 u196 u197 u198 u199 u200 u201 u202 u203 u204 u205 u206 u207 u208 u209 u210 u211 u212 u213 u214 u215 u216 u217 u218 u219 u220 u221 u222 u223 u224 u225 u226 u227 u228 u229 u230 u231 u232 u233 u234 u235 u236 u237 u238 u239 u240 u241 u242 u243 u244 u245 u246 u247 u248 u249 u250 u251 u252 u253 u254 u255 u256 u257 u258 u259 u260 u261 u262 u263 u264 u265 u266 u267 u268 u269 u270 u271 u272 u273 u274 u275 u276 u277 u278 u279 u280 u281 u282 u283 u284 u285 u286 u287 u288 u289 u290 u291 u292 u293 u294 u295 u296 u297 u298 u299 u300 u301 u302 u303 u304 u305 u306 u307 u308 u309 u310 u311 u312 u313 u314 u315 u316 u317 u318 u319 u320 u321 u322 u323 u324 u325 u326 u327 u328 u329 u330 u331 u332 u333 u334 u335 u336 u337 u338 u339 u340 u341 u342 u343 u344 u345 u346 u347 u348 u349 u350 u351 u352 u353 u354 u355 u356 u357 u358 u359 u360 u361 u362 : Value) (h1 : Hd) (b : Nat), Mid0 w wy ms h its M F rc h1 b → Code.wp Tryz.prog (sT 15) (bodyPost Tryz.prog Tryz.f61 R) ⟨#[.pointer (some ⟨ms, 0, none⟩), str rc.subj, .slice Ah rc.hdr.length ch, .slice Ad rc.dat.length cd, .int .u64 ((h.n + 1 : Nat) : Int), .int .i64 rc.ts, .int .i64 0, .bool true, u8, u9, u10, u11, u12, u13, u14, u15, .nilIface, s17, u18, u19, u20, u21, .int .i64 rc.ts, u23, u24, u25, u26, u27, u28, u29, u30, u31, u32, u33, u34, u35, u36, u37, u38, u39, u40, u41, u42, u43, u44, u45, u46, u47, u48, u49, u50, u51, u52, u53, u54, u55, u56, u57, u58, u59, u60, u61, u62, u63, u64, u65, u66, u67, u68, u69, u70, u71, u72, u73, u74, u75, u76, u77, u78, u79, u80, u81, u82, u83, u84, u85, u86, u87, u88, u89, u90, u91, u92, u93, u94, u95, u96, u97, u98, u99, u100, u101, u102, u103, u104, u105, u106, u107, u108, u109, u110, u111, u112, u113, u114, u115, u116, u117, u118, u119, u120, u121, u122, u123, u124, u125, u126, u127, u128, u129, u130, u131, u132, u133, u134, u135, u136, u137, u138, u139, u140, u141, u142, u143, u144, u145, u146, u147, u148, u149, u150, u151, u152, u153, u154, u155, u156, u157, u158, u159, u160, u161, u162, u163, u164, u165, u166, u167, u168, u169, u170, u171, u172, u173, u174, u175, u176, u177, u178, u179, u180, u181, u182, u183, u184, u185, u186, u187, u188, u189, u190, u191, u192, u193, u194, u195, u196, u197, u198, u199, u200, u201, u202, u203, u204, u205, u206, u207, u208, u209, u210, u211, u212, u213, u214, u215, u216, u217, u218, u219, u220, u221, u222, u223, u224, u225, u226, u227, u228, u229, u230, u231, u232, u233, u234, u235, u236, u237, u238, u239, u240, u241, u242, u243, u244, u245, u246, u247, u248, u249, u250, u251, u252, u253, u254, u255, u256, u257, u258, u259, u260, u261, u262, u263, u264, u265, u266, u267, u268, u269, u270, u271, u272, u273, u274, u275, u276, u277, u278, u279, u280, u281, u282, u283, u284, u285, u286, u287, u288, u289, u290, u291, u292, u293, u294, u295, u296, u297, u298, u299, u300, u301, u302, u303, u304, u305, u306, u307, u308, u309, u310, u311, u312, u313, u314, u315, u316, u317, u318, u319, u320, u321, u322, u323, u324, u325, u326, u327, u328, u329, u330, u331, u332, u333, u334, u335, u336, u337, u338, u339, u340, u341, u342, u343, u344, u345, u346, u347, u348, u349, u350, u351, u352, u353, u354, u355, u356, u357, u358, u359, u360, u361, u362], []⟩ wy

set_option maxHeartbeats 4000000 in
set_option maxRecDepth 1000000 in
theorem st14 {R : Ending → World → Prop} {ms : Nat} {rc : Rec} {Ah Ad : Option Addr} {ch cd : Nat} {u8 u9 u10 u11 u12 u13 u14 u15 u18 u19 u20 u21 u24 u25 u26 u27 u28 u29 u30 u31 u32 u33 u34 u35 u36 u37 u38 u39 u40 u41 u42 u43 u44 u45 u46 u47 u48 u49 u50 u51 u52 u53 u54 u55 u56 u57 u58 u59 u60 u61 u62 u63 u64 u65 u66 u67 u68 u69 u70 u71 u72 u73 u74 u75 u76 u77 u78 u79 u80 u81 u82 u83 u84 u85 u86 u87 u88 u89 u90 u91 u92 u93 u94 u95 u96 u97 u98 u99 u100 u101 u102 u103 u104 u105 u106 u107 u108 u109 u110 u111 u112 u113 u114 u115 u116 u117 u118 u119 u120 u121 u122 u123 u124 u125 u126 u127 u128 u129 u130 u131 u132 u133 u134 u135 u136 u137 u138 u139 u140 u141 u142 u143 u144 u145 u146 u147 u148 u149 u150 u151 u152 u153 u154 u155 u156 u157 u158 u159 u160 u161 u162 u163 u164 u165 u166 u167 u168 u169 u170 u171 u172 u173 u174 u175 u176 u177 u178 u179 u180 u181 u182 u183 u184 u185 u186 u187 u188 u189 u190 u191 u192 u193 u194 u195 u196 u197 u198 u199 u200 u201 u202 u203 u204 u205 u206 u207 u208 u209 u210 u211 u212 u213 u214 u215 u216 u217 u218 u219 u220 u221 u222 u223 u224 u225 u226 u227 u228 u229 u230 u231 u232 u233 u234 u235 u236 u237 u238 u239 u240 u241 u242 u243 u244 u245 u246 u247 u248 u249 u250 u251 u252 u253 u254 u255 u256 u257 u258 u259 u260 u261 u262 u263 u264 u265 u266 u267 u268 u269 u270 u271 u272 u273 u274 u275 u276 u277 u278 u279 u280 u281 u282 u283 u284 u285 u286 u287 u288 u289 u290 u291 u292 u293 u294 u295 u296 u297 u298 u299 u300 u301 u302 u303 u304 u305 u306 u307 u308 u309 u310 u311 u312 u313 u314 u315 u316 u317 u318 u319 u320 u321 u322 u323 u324 u325 u326 u327 u328 u329 u330 u331 u332 u333 u334 u335 u336 u337 u338 u339 u340 u341 u342 u343 u344 u345 u346 u347 u348 u349 u350 u351 u352 u353 u354 u355 u356 u357 u358 u359 u360 u361 u362 : Value} {w wx : World} {h h1 : Hd} {its : List Item} {M : List Ent} {F : List Nat} {b : Nat} (S : StoreAt w ms h its M F) (hok : rc.Ok) (hn : h.n < 30) {s17 : Value} (m : Made w wx ms h F rc h1 b) (h15 : Cont15 R w ms h its M F rc Ah Ad ch cd s17)  :
    Code.wp Tryz.prog (sT 14) (bodyPost Tryz.prog Tryz.f61 R) ⟨#[.pointer (some ⟨ms, 0, none⟩), str rc.subj, .slice Ah rc.hdr.length ch, .slice Ad rc.dat.length cd, .int .u64 ((h.n + 1 : Nat) : Int), .int .i64 rc.ts, .int .i64 0, .bool true, u8, u9, u10, u11, u12, u13, u14, u15, .nilIface, s17, u18, u19, u20, u21, .int .i64 rc.ts, .pointer (some ⟨b, 0, none⟩), u24, u25, u26, u27, u28, u29, u30, u31, u32, u33, u34, u35, u36, u37, u38, u39, u40, u41, u42, u43, u44, u45, u46, u47, u48, u49, u50, u51, u52, u53, u54, u55, u56, u57, u58, u59, u60, u61, u62, u63, u64, u65, u66, u67, u68, u69, u70, u71, u72, u73, u74, u75, u76, u77, u78, u79, u80, u81, u82, u83, u84, u85, u86, u87, u88, u89, u90, u91, u92, u93, u94, u95, u96, u97, u98, u99, u100, u101, u102, u103, u104, u105, u106, u107, u108, u109, u110, u111, u112, u113, u114, u115, u116, u117, u118, u119, u120, u121, u122, u123, u124, u125, u126, u127, u128, u129, u130, u131, u132, u133, u134, u135, u136, u137, u138, u139, u140, u141, u142, u143, u144, u145, u146, u147, u148, u149, u150, u151, u152, u153, u154, u155, u156, u157, u158, u159, u160, u161, u162, u163, u164, u165, u166, u167, u168, u169, u170, u171, u172, u173, u174, u175, u176, u177, u178, u179, u180, u181, u182, u183, u184, u185, u186, u187, u188, u189, u190, u191, u192, u193, u194, u195, u196, u197, u198, u199, u200, u201, u202, u203, u204, u205, u206, u207, u208, u209, u210, u211, u212, u213, u214, u215, u216, u217, u218, u219, u220, u221, u222, u223, u224, u225, u226, u227, u228, u229, u230, u231, u232, u233, u234, u235, u236, u237, u238, u239, u240, u241, u242, u243, u244, u245, u246, u247, u248, u249, u250, u251, u252, u253, u254, u255, u256, u257, u258, u259, u260, u261, u262, u263, u264, u265, u266, u267, u268, u269, u270, u271, u272, u273, u274, u275, u276, u277, u278, u279, u280, u281, u282, u283, u284, u285, u286, u287, u288, u289, u290, u291, u292, u293, u294, u295, u296, u297, u298, u299, u300, u301, u302, u303, u304, u305, u306, u307, u308, u309, u310, u311, u312, u313, u314, u315, u316, u317, u318, u319, u320, u321, u322, u323, u324, u325, u326, u327, u328, u329, u330, u331, u332, u333, u334, u335, u336, u337, u338, u339, u340, u341, u342, u343, u344, u345, u346, u347, u348, u349, u350, u351, u352, u353, u354, u355, u356, u357, u358, u359, u360, u361, u362], []⟩ wx := by
  have c25 : wx.cell? ⟨ms, 25, none⟩ = some (.map (some h.r)) := by rw [m.hd.cell, ← m.adj.r]; rfl
  have hmap := S.mapA.keep m.keep (fun e => S.dis2.1 e.symm)
  have hfr : ∀ x ∈ (its.map fun i => (i.seq, i.blk)), x.1 ≠ h.n + 1 := by
    intro x hx
    obtain ⟨i, hi, rfl⟩ := List.mem_map.1 hx
    have := (S.num i hi).2
    simp only
    omega
  have HM := Lib.hid hmap
  have MM := Lib.hid (And.intro m S)
  clear m S hmap
  refine wp_seq_of (show sT 14 = .seq (sH 14) (sT 15) from rfl) fun K hK => ?_
  conv => arg 2; whnf
  go_wp2_with (first | (refine wpList_put rfl _ _ _ rfl (h.n + 1) b rfl rfl rfl HM.out hfr ?_; intro w' hm' hk') | fail)
  obtain ⟨m, S⟩ := MM.out
  exact h15 _ _ _ _ _ _ _ _ _ _ _ _ _ _ _ _ _ _ _ _ _ _ _ _ _ _ _ _ _ _ _ _ _ _ _ _ _ _ _ _ _ _ _ _ _ _ _ _ _ _ _ _ _ _ _ _ _ _ _ _ _ _ _ _ _ _ _ _ _ _ _ _ _ _ _ _ _ _ _ _ _ _ _ _ _ _ _ _ _ _ _ _ _ _ _ _ _ _ _ _ _ _ _ _ _ _ _ _ _ _ _ _ _ _ _ _ _ _ _ _ _ _ _ _ _ _ _ _ _ _ _ _ _ _ _ _ _ _ _ _ _ _ _ _ _ _ _ _ _ _ _ _ _ _ _ _ _ _ _ _ _ _ _ _ _ _ _ _ _ _ _ _ _ _ _ _ _ _ _ _ _ _ _ _ _ _ _ _ _ _ _ _ _ _ _ _ _ _ _ _ _ _ _ _ _ _ _ _ _ _ _ _ _ _ _ _ _ _ _ _ _ _ _ _ _ _ _ _ _ _ _ _ _ _ _ _ _ _ _ _ _ _ _ _ _ _ _ _ _ _ _ _ _ _ _ _ _ _ _ _ _ _ _ _ _ _ _ _ _ _ _ _ _ _ _ _ _ _ _ _ _ _ _ _ _ _ _ _ _ _ _ _ _ _ _ _ _ _ _ _ _ _ _ _ _ _ _ _ _ _ _ _ _ _ _ _ _ _ _ _ _ _ _ _ _ _ _ _ _ _ _ _ _ _ _ _ _ _ _ _ _ _ _ _ _ _ _ _ _ _ _ _ _ _ _ (m.up S hk' hm')


end Go.Proofs.YtmblkpjnafgplaaGreatDoor

namespace Go.Proofs.YtmblkpjnafgplaaGreatDoor
open Go Go.RowKit
set_option maxRecDepth 100000
set_option linter.unusedVariables false
set_option linter.unusedSimpArgs false

set_option maxRecDepth 1000000 in
/-- what is asked of the text from statement 14 on -/
def Cont14 (R : Ending → World → Prop) (w : World) (ms : Nat) (h : Hd) (its : List Item) (M : List Ent) (F : List Nat) (rc : Rec) (Ah Ad : Option Addr) (ch cd : Nat) (s17 : Value) : Prop :=
  ∀ (wy : World) (u8 u9 u10 u11 u12 u13 u14 u15 u18 u19 u20 u21 u24 u25 u26 u27 u28 u29 u30 u31 u32 u33 u34 u35 u36 u37 u38 u39 u40 u41 u42 u43 u44 u45 u46 u47 u48 u49 u50 u51 u52 u53 u54 u55 u56 u57 u58 u59 u60 u61 u62 u63 u64 u65 u66 u67 u68 u69 u70 u71 u72 u73 u74 u75 u76 u77 u78 u79 u80 u81 u82 u83 u84 u85 u86 u87 u88 u89 u90 u91 u92 u93 u94 u95 u96 u97 u98 u99 u100 u101 u102 u103 u104 u105 u106 u107 u108 u109 u110 u111 u112 u113 u114 u115 u116 u117 u118 u119 u120 u121 u122 u123 u124 u125 u126 u127 u128 u129 u130 u131 u132 u133 u134 u135 u136 u137 u138 u139 u140 u141 u142 u143 u144 u145 u146 u147 u148 u149 u150 u151 u152 u153 u154 u155 u156 u157 u158 u159 u160 u161 u162 u163 u164 u165 u166 u167 u168 u169 u170 u171 u172 u173 u174 u175 u176 u177 u178 u179 u180 u181 u182 u183 u184 u185 u186 u187 u188 u189 u190 u191 u192 u193 u194 u195 u196 u197 u198 u199 u200 u201 u202 u203 u204 u205 u206 u207 u208 u209 u210 u211 u212 u213 u214 u215 u216 u217 u218 u219 u220 u221 u222 u223 u224 u225 u226 u227 u228 u229 u230 u231 u232 u233 u234 u235 u236 u237 u238 u239 u240 u241 u242 u243 u244 u245 u246 u247 u248 u249 u250 u251 u252 u253 u254 u255 u256 u257 u258 u259 u260 u261 u262 u263 u264 u265 u266 u267 u268 u269 u270 u271 u272 u273 u274 u275 u276 u277 u278 u279 u280 u281 u282 u283 u284 u285 u286 u287 u288 u289 u290 u291 u292 u293 u294 u295 u296 u297 u298 u299 u300 u301 u302 u303 u304 u305 u306 u307 u308 u309 u310 u311 u312 u313 u314 u315 u316 u317 u318 u319 u320 u321 u322 u323 u324 u325 u326 u327 u328 u329 u330 u331 u332 u333 u334 u335 u336 u337 u338 u339 u340 u341 u342 u343 u344 u345 u346 u347 u348 u349 u350 u351 u352 u353 u354 u355 u356 u357 u358 u359 u360 u361 u362 : Value) (h1 : Hd) (b : Nat), Made w wy ms h F rc h1 b → Code.wp Tryz.prog (sT 14) (bodyPost Tryz.prog Tryz.f61 R) ⟨#[.pointer (some ⟨ms, 0, none⟩), str rc.subj, .slice Ah rc.hdr.length ch, .slice Ad rc.dat.length cd, .int .u64 ((h.n + 1 : Nat) : Int), .int .i64 rc.ts, .int .i64 0, .bool true, u8, u9, u10, u11, u12, u13, u14, u15, .nilIface, s17, u18, u19, u20, u21, .int .i64 rc.ts, .pointer (some ⟨b, 0, none⟩), u24, u25, u26, u27, u28, u29, u30, u31, u32, u33, u34, u35, u36, u37, u38, u39, u40, u41, u42, u43, u44, u45, u46, u47, u48, u49, u50, u51, u52, u53, u54, u55, u56, u57, u58, u59, u60, u61, u62, u63, u64, u65, u66, u67, u68, u69, u70, u71, u72, u73, u74, u75, u76, u77, u78, u79, u80, u81, u82, u83, u84, u85, u86, u87, u88, u89, u90, u91, u92, u93, u94, u95, u96, u97, u98, u99, u100, u101, u102, u103, u104, u105, u106, u107, u108, u109, u110, u111, u112, u113, u114, u115, u116, u117, u118, u119, u120, u121, u122, u123, u124, u125, u126, u127, u128, u129, u130, u131, u132, u133, u134, u135, u136, u137, u138, u139, u140, u141, u142, u143, u144, u145, u146, u147, u148, u149, u150, u151, u152, u153, u154, u155, u156, u157, u158, u159, u160, u161, u162, u163, u164, u165, u166, u167, u168, u169, u170, u171, u172, u173, u174, u175, u176, u177, u178, u179, u180, u181, u182, u183, u184, u185, u186, u187, u188, u189, u190, u191, u192, u193, u194, u195, u196, u197, u198, u199, u200, u201, u202, u203, u204, u205, u206, u207, u208, u209, u210, u211, u212, u213, u214, u215, u216, u217, u218, u219, u220, u221, u222, u223, u224, u225, u226, u227, u228, u229, u230, u231, u232, u233, u234, u235, u236, u237, u238, u239, u240, u241, u242, u243, u244, u245, u246, u247, u248, u249, u250, u251, u252, u253, u254, u255, u256, u257, u258, u259, u260, u261, u262, u263, u264, u265, u266, u267, u268, u269, u270, u271, u272, u273, u274, u275, u276, u277, u278, u279, u280, u281, u282, u283, u284, u285, u286, u287, u288, u289, u290, u291, u292, u293, u294, u295, u296, u297, u298, u299, u300, u301, u302, u303, u304, u305, u306, u307, u308, u309, u310, u311, u312, u313, u314, u315, u316, u317, u318, u319, u320, u321, u322, u323, u324, u325, u326, u327, u328, u329, u330, u331, u332, u333, u334, u335, u336, u337, u338, u339, u340, u341, u342, u343, u344, u345, u346, u347, u348, u349, u350, u351, u352, u353, u354, u355, u356, u357, u358, u359, u360, u361, u362], []⟩ wy

set_option maxHeartbeats 4000000 in
set_option maxRecDepth 1000000 in
theorem st13 {R : Ending → World → Prop} {ms : Nat} {rc : Rec} {Ah Ad : Option Addr} {ch cd : Nat} {u8 u9 u10 u11 u12 u13 u14 u15 u18 u19 u20 u21 u24 u25 u26 u27 u28 u29 u30 u31 u32 u33 u34 u35 u36 u37 u38 u39 u40 u41 u42 u43 u44 u45 u46 u47 u48 u49 u50 u51 u52 u53 u54 u55 u56 u57 u58 u59 u60 u61 u62 u63 u64 u65 u66 u67 u68 u69 u70 u71 u72 u73 u74 u75 u76 u77 u78 u79 u80 u81 u82 u83 u84 u85 u86 u87 u88 u89 u90 u91 u92 u93 u94 u95 u96 u97 u98 u99 u100 u101 u102 u103 u104 u105 u106 u107 u108 u109 u110 u111 u112 u113 u114 u115 u116 u117 u118 u119 u120 u121 u122 u123 u124 u125 u126 u127 u128 u129 u130 u131 u132 u133 u134 u135 u136 u137 u138 u139 u140 u141 u142 u143 u144 u145 u146 u147 u148 u149 u150 u151 u152 u153 u154 u155 u156 u157 u158 u159 u160 u161 u162 u163 u164 u165 u166 u167 u168 u169 u170 u171 u172 u173 u174 u175 u176 u177 u178 u179 u180 u181 u182 u183 u184 u185 u186 u187 u188 u189 u190 u191 u192 u193 u194 u195 u196 u197 u198 u199 u200 u201 u202 u203 u204 u205 u206 u207 u208 u209 u210 u211 u212 u213 u214 u215 u216 u217 u218 u219 u220 u221 u222 u223 u224 u225 u226 u227 u228 u229 u230 u231 u232 u233 u234 u235 u236 u237 u238 u239 u240 u241 u242 u243 u244 u245 u246 u247 u248 u249 u250 u251 u252 u253 u254 u255 u256 u257 u258 u259 u260 u261 u262 u263 u264 u265 u266 u267 u268 u269 u270 u271 u272 u273 u274 u275 u276 u277 u278 u279 u280 u281 u282 u283 u284 u285 u286 u287 u288 u289 u290 u291 u292 u293 u294 u295 u296 u297 u298 u299 u300 u301 u302 u303 u304 u305 u306 u307 u308 u309 u310 u311 u312 u313 u314 u315 u316 u317 u318 u319 u320 u321 u322 u323 u324 u325 u326 u327 u328 u329 u330 u331 u332 u333 u334 u335 u336 u337 u338 u339 u340 u341 u342 u343 u344 u345 u346 u347 u348 u349 u350 u351 u352 u353 u354 u355 u356 u357 u358 u359 u360 u361 u362 : Value} {w wx : World} {h h1 : Hd} {its : List Item} {M : List Ent} {F : List Nat} {b : Nat} (S : StoreAt w ms h its M F) (hok : rc.Ok) (hn : h.n < 30) {s17 hv dv v : Value} (m : Bld w wx ms h rc h1 b hv dv v (rc.hdr ++ rc.dat)) (hh : HdrAt w wx b hv rc.hdr) (h14 : Cont14 R w ms h its M F rc Ah Ad ch cd s17)  :
    Code.wp Tryz.prog (sT 13) (bodyPost Tryz.prog Tryz.f61 R) ⟨#[.pointer (some ⟨ms, 0, none⟩), str rc.subj, .slice Ah rc.hdr.length ch, .slice Ad rc.dat.length cd, .int .u64 ((h.n + 1 : Nat) : Int), .int .i64 rc.ts, .int .i64 0, .bool true, u8, u9, u10, u11, u12, u13, u14, u15, .nilIface, s17, u18, u19, u20, u21, .int .i64 rc.ts, .pointer (some ⟨b, 0, none⟩), u24, u25, u26, u27, u28, u29, u30, u31, u32, u33, u34, u35, u36, u37, u38, u39, u40, u41, u42, u43, u44, u45, u46, u47, u48, u49, u50, u51, u52, u53, u54, u55, u56, u57, u58, u59, u60, u61, u62, u63, u64, u65, u66, u67, u68, u69, u70, u71, u72, u73, u74, u75, u76, u77, u78, u79, u80, u81, u82, u83, u84, u85, u86, u87, u88, u89, u90, u91, u92, u93, u94, u95, u96, u97, u98, u99, u100, u101, u102, u103, u104, u105, u106, u107, u108, u109, u110, u111, u112, u113, u114, u115, u116, u117, u118, u119, u120, u121, u122, u123, u124, u125, u126, u127, u128, u129, u130, u131, u132, u133, u134, u135, u136, u137, u138, u139, u140, u141, u142, u143, u144, u145, u146, u147, u148, u149, u150, u151, u152, u153, u154, u155, u156, u157, u158, u159, u160, u161, u162, u163, u164, u165, u166, u167, u168, u169, u170, u171, u172, u173, u174, u175, u176, u177, u178, u179, u180, u181, u182, u183, u184, u185, u186, u187, u188, u189, u190, u191, u192, u193, u194, u195, u196, u197, u198, u199, u200, u201, u202, u203, u204, u205, u206, u207, u208, u209, u210, u211, u212, u213, u214, u215, u216, u217, u218, u219, u220, u221, u222, u223, u224, u225, u226, u227, u228, u229, u230, u231, u232, u233, u234, u235, u236, u237, u238, u239, u240, u241, u242, u243, u244, u245, u246, u247, u248, u249, u250, u251, u252, u253, u254, u255, u256, u257, u258, u259, u260, u261, u262, u263, u264, u265, u266, u267, u268, u269, u270, u271, u272, u273, u274, u275, u276, u277, u278, u279, u280, u281, u282, u283, u284, u285, u286, u287, u288, u289, u290, u291, u292, u293, u294, u295, u296, u297, u298, u299, u300, u301, u302, u303, u304, u305, u306, u307, u308, u309, u310, u311, u312, u313, u314, u315, u316, u317, u318, u319, u320, u321, u322, u323, u324, u325, u326, u327, u328, u329, u330, u331, u332, u333, u334, u335, u336, u337, u338, u339, u340, u341, u342, u343, u344, u345, u346, u347, u348, u349, u350, u351, u352, u353, u354, u355, u356, u357, u358, u359, u360, u361, u362], []⟩ wx := by
  obtain ⟨A, c, rfl, hc1, hcm, hr, hk⟩ := m.row.row
  have c3 : wx.cell? ⟨b, 3, none⟩ = some (.slice A (rc.hdr ++ rc.dat).length c) := by rw [m.blk.cell]; rfl
  have c2 : wx.cell? ⟨b, 2, none⟩ = some dv := by rw [m.blk.cell]; rfl
  have f2 : wx.frozen? ⟨b, 2, none⟩ = false := m.blk.frozen 2
  have hcut := cut_lo A (rc.hdr ++ rc.dat).length c rc.hdr.length (by simp)
  have hfin := m.made S hh (its := its) (M := M) (F := F)
  have MM := Lib.hid hfin
  clear m S hfin hr hk hc1 hcm
  generalize (rc.hdr ++ rc.dat).length = n at *
  refine wp_seq_of (show sT 13 = .seq (sH 13) (sT 14) from rfl) fun K hK => ?_
  conv => arg 2; whnf
  go_wp2_with fail
  exact h14 _ _ _ _ _ _ _ _ _ _ _ _ _ _ _ _ _ _ _ _ _ _ _ _ _ _ _ _ _ _ _ _ _ _ _ _ _ _ _ _ _ _ _ _ _ _ _ _ _ _ _ _ _ _ _ _ _ _ _ _ _ _ _ _ _ _ _ _ _ _ _ _ _ _ _ _ _ _ _ _ _ _ _ _ _ _ _ _ _ _ _ _ _ _ _ _ _ _ _ _ _ _ _ _ _ _ _ _ _ _ _ _ _ _ _ _ _ _ _ _ _ _ _ _ _ _ _ _ _ _ _ _ _ _ _ _ _ _ _ _ _ _ _ _ _ _ _ _ _ _ _ _ _ _ _ _ _ _ _ _ _ _ _ _ _ _ _ _ _ _ _ _ _ _ _ _ _ _ _ _ _ _ _ _ _ _ _ _ _ _ _ _ _ _ _ _ _ _ _ _ _ _ _ _ _ _ _ _ _ _ _ _ _ _ _ _ _ _ _ _ _ _ _ _ _ _ _ _ _ _ _ _ _ _ _ _ _ _ _ _ _ _ _ _ _ _ _ _ _ _ _ _ _ _ _ _ _ _ _ _ _ _ _ _ _ _ _ _ _ _ _ _ _ _ _ _ _ _ _ _ _ _ _ _ _ _ _ _ _ _ _ _ _ _ _ _ _ _ _ _ _ _ _ _ _ _ _ _ _ _ _ _ _ _ _ _ _ _ _ _ _ _ _ _ _ _ _ _ _ _ _ _ _ _ _ _ _ _ _ _ _ _ _ _ _ _ _ _ _ _ _ _ _ _ MM.out


end Go.Proofs.YtmblkpjnafgplaaGreatDoor

namespace Go.Proofs.YtmblkpjnafgplaaGreatDoor
open Go Go.RowKit
set_option maxRecDepth 100000
set_option linter.unusedVariables false
set_option linter.unusedSimpArgs false

set_option maxHeartbeats 4000000 in
set_option maxRecDepth 1000000 in
theorem st12 {R : Ending → World → Prop} {ms : Nat} {rc : Rec} {Ah Ad : Option Addr} {ch cd : Nat} {u8 u9 u10 u11 u12 u13 u14 u15 u18 u19 u20 u21 u24 u25 u26 u27 u28 u29 u30 u31 u32 u33 u34 u35 u36 u37 u38 u39 u40 u41 u42 u43 u44 u45 u46 u47 u48 u49 u50 u51 u52 u53 u54 u55 u56 u57 u58 u59 u60 u61 u62 u63 u64 u65 u66 u67 u68 u69 u70 u71 u72 u73 u74 u75 u76 u77 u78 u79 u80 u81 u82 u83 u84 u85 u86 u87 u88 u89 u90 u91 u92 u93 u94 u95 u96 u97 u98 u99 u100 u101 u102 u103 u104 u105 u106 u107 u108 u109 u110 u111 u112 u113 u114 u115 u116 u117 u118 u119 u120 u121 u122 u123 u124 u125 u126 u127 u128 u129 u130 u131 u132 u133 u134 u135 u136 u137 u138 u139 u140 u141 u142 u143 u144 u145 u146 u147 u148 u149 u150 u151 u152 u153 u154 u155 u156 u157 u158 u159 u160 u161 u162 u163 u164 u165 u166 u167 u168 u169 u170 u171 u172 u173 u174 u175 u176 u177 u178 u179 u180 u181 u182 u183 u184 u185 u186 u187 u188 u189 u190 u191 u192 u193 u194 u195 u196 u197 u198 u199 u200 u201 u202 u203 u204 u205 u206 u207 u208 u209 u210 u211 u212 u213 u214 u215 u216 u217 u218 u219 u220 u221 u222 u223 u224 u225 u226 u227 u228 u229 u230 u231 u232 u233 u234 u235 u236 u237 u238 u239 u240 u241 u242 u243 u244 u245 u246 u247 u248 u249 u250 u251 u252 u253 u254 u255 u256 u257 u258 u259 u260 u261 u262 u263 u264 u265 u266 u267 u268 u269 u270 u271 u272 u273 u274 u275 u276 u277 u278 u279 u280 u281 u282 u283 u284 u285 u286 u287 u288 u289 u290 u291 u292 u293 u294 u295 u296 u297 u298 u299 u300 u301 u302 u303 u304 u305 u306 u307 u308 u309 u310 u311 u312 u313 u314 u315 u316 u317 u318 u319 u320 u321 u322 u323 u324 u325 u326 u327 u328 u329 u330 u331 u332 u333 u334 u335 u336 u337 u338 u339 u340 u341 u342 u343 u344 u345 u346 u347 u348 u349 u350 u351 u352 u353 u354 u355 u356 u357 u358 u359 u360 u361 u362 : Value} {w wx : World} {h h1 : Hd} {its : List Item} {M : List Ent} {F : List Nat} {b : Nat} (S : StoreAt w ms h its M F) (hok : rc.Ok) (hn : h.n < 30) {s17 v : Value} (m : Bld w wx ms h rc h1 b (.slice none 0 0) (.slice none 0 0) v (rc.hdr ++ rc.dat)) (h14 : Cont14 R w ms h its M F rc Ah Ad ch cd s17)  :
    Code.wp Tryz.prog (sT 12) (bodyPost Tryz.prog Tryz.f61 R) ⟨#[.pointer (some ⟨ms, 0, none⟩), str rc.subj, .slice Ah rc.hdr.length ch, .slice Ad rc.dat.length cd, .int .u64 ((h.n + 1 : Nat) : Int), .int .i64 rc.ts, .int .i64 0, .bool true, u8, u9, u10, u11, u12, u13, u14, u15, .nilIface, s17, u18, u19, u20, u21, .int .i64 rc.ts, .pointer (some ⟨b, 0, none⟩), u24, u25, u26, u27, u28, u29, u30, u31, u32, u33, u34, u35, u36, u37, u38, u39, u40, u41, u42, u43, u44, u45, u46, u47, u48, u49, u50, u51, u52, u53, u54, u55, u56, u57, u58, u59, u60, u61, u62, u63, u64, u65, u66, u67, u68, u69, u70, u71, u72, u73, u74, u75, u76, u77, u78, u79, u80, u81, u82, u83, u84, u85, u86, u87, u88, u89, u90, u91, u92, u93, u94, u95, u96, u97, u98, u99, u100, u101, u102, u103, u104, u105, u106, u107, u108, u109, u110, u111, u112, u113, u114, u115, u116, u117, u118, u119, u120, u121, u122, u123, u124, u125, u126, u127, u128, u129, u130, u131, u132, u133, u134, u135, u136, u137, u138, u139, u140, u141, u142, u143, u144, u145, u146, u147, u148, u149, u150, u151, u152, u153, u154, u155, u156, u157, u158, u159, u160, u161, u162, u163, u164, u165, u166, u167, u168, u169, u170, u171, u172, u173, u174, u175, u176, u177, u178, u179, u180, u181, u182, u183, u184, u185, u186, u187, u188, u189, u190, u191, u192, u193, u194, u195, u196, u197, u198, u199, u200, u201, u202, u203, u204, u205, u206, u207, u208, u209, u210, u211, u212, u213, u214, u215, u216, u217, u218, u219, u220, u221, u222, u223, u224, u225, u226, u227, u228, u229, u230, u231, u232, u233, u234, u235, u236, u237, u238, u239, u240, u241, u242, u243, u244, u245, u246, u247, u248, u249, u250, u251, u252, u253, u254, u255, u256, u257, u258, u259, u260, u261, u262, u263, u264, u265, u266, u267, u268, u269, u270, u271, u272, u273, u274, u275, u276, u277, u278, u279, u280, u281, u282, u283, u284, u285, u286, u287, u288, u289, u290, u291, u292, u293, u294, u295, u296, u297, u298, u299, u300, u301, u302, u303, u304, u305, u306, u307, u308, u309, u310, u311, u312, u313, u314, u315, u316, u317, u318, u319, u320, u321, u322, u323, u324, u325, u326, u327, u328, u329, u330, u331, u332, u333, u334, u335, u336, u337, u338, u339, u340, u341, u342, u343, u344, u345, u346, u347, u348, u349, u350, u351, u352, u353, u354, u355, u356, u357, u358, u359, u360, u361, u362], []⟩ wx := by
  by_cases h0 : rc.hdr.length = 0
  · have hle : (rc.hdr.length : Int) ≤ 0 := by omega
    have hnil : rc.hdr = [] := List.eq_nil_of_length_eq_zero h0
    have MM := Lib.hid m
    have HN := Lib.hid hnil
    clear m hnil h0
    refine wp_seq_of (show sT 12 = .seq (sH 12) (sT 13) from rfl) fun K hK => ?_
    conv => arg 2; whnf
    go_wp2_with fail
    exact st13 S hok hn MM.out (by rw [HN.out]; exact HdrAt.nil_ _ _ _) h14
  · have hpos : (0 : Int) < (rc.hdr.length : Int) := by omega
    obtain ⟨A, c, rfl, hc1, hcm, hr, hk⟩ := m.row.row
    have c3 : wx.cell? ⟨b, 3, none⟩ = some (.slice A (rc.hdr ++ rc.dat).length c) := by rw [m.blk.cell]; rfl
    have c1 : wx.cell? ⟨b, 1, none⟩ = some (.slice none 0 0) := by rw [m.blk.cell]; rfl
    have f1 : wx.frozen? ⟨b, 1, none⟩ = false := m.blk.frozen 1
    have hcut := cut_h A (rc.hdr ++ rc.dat).length c rc.hdr.length (by simp at hc1; omega)
    have MM := Lib.hid (m.hdr S)
    clear m hr hk hc1 hcm
    generalize hnn : (rc.hdr ++ rc.dat).length = n at c3 hcut
    refine wp_seq_of (show sT 12 = .seq (sH 12) (sT 13) from rfl) fun K hK => ?_
    conv => arg 2; whnf
    go_wp2_with fail
    exact st13 S hok hn MM.out.1 MM.out.2 h14


end Go.Proofs.YtmblkpjnafgplaaGreatDoor

namespace Go.Proofs.YtmblkpjnafgplaaGreatDoor
open Go Go.RowKit
set_option maxRecDepth 100000
set_option linter.unusedVariables false
set_option linter.unusedSimpArgs false

set_option maxHeartbeats 4000000 in
set_option maxRecDepth 1000000 in
theorem st9 {R : Ending → World → Prop} {ms : Nat} {rc : Rec} {Ah Ad : Option Addr} {ch cd : Nat} {u8 u9 u10 u11 u12 u13 u14 u15 u18 u19 u20 u21 u23 u24 u25 u26 u27 u28 u29 u30 u31 u32 u33 u34 u35 u36 u37 u38 u39 u40 u41 u42 u43 u44 u45 u46 u47 u48 u49 u50 u51 u52 u53 u54 u55 u56 u57 u58 u59 u60 u61 u62 u63 u64 u65 u66 u67 u68 u69 u70 u71 u72 u73 u74 u75 u76 u77 u78 u79 u80 u81 u82 u83 u84 u85 u86 u87 u88 u89 u90 u91 u92 u93 u94 u95 u96 u97 u98 u99 u100 u101 u102 u103 u104 u105 u106 u107 u108 u109 u110 u111 u112 u113 u114 u115 u116 u117 u118 u119 u120 u121 u122 u123 u124 u125 u126 u127 u128 u129 u130 u131 u132 u133 u134 u135 u136 u137 u138 u139 u140 u141 u142 u143 u144 u145 u146 u147 u148 u149 u150 u151 u152 u153 u154 u155 u156 u157 u158 u159 u160 u161 u162 u163 u164 u165 u166 u167 u168 u169 u170 u171 u172 u173 u174 u175 u176 u177 u178 u179 u180 u181 u182 u183 u184 u185 u186 u187 u188 u189 u190 u191 u192 u193 u194 u195 u196 u197 u198 u199 u200 u201 u202 u203 u204 u205 u206 u207 u208 u209 u210 u211 u212 u213 u214 u215 u216 u217 u218 u219 u220 u221 u222 u223 u224 u225 u226 u227 u228 u229 u230 u231 u232 u233 u234 u235 u236 u237 u238 u239 u240 u241 u242 u243 u244 u245 u246 u247 u248 u249 u250 u251 u252 u253 u254 u255 u256 u257 u258 u259 u260 u261 u262 u263 u264 u265 u266 u267 u268 u269 u270 u271 u272 u273 u274 u275 u276 u277 u278 u279 u280 u281 u282 u283 u284 u285 u286 u287 u288 u289 u290 u291 u292 u293 u294 u295 u296 u297 u298 u299 u300 u301 u302 u303 u304 u305 u306 u307 u308 u309 u310 u311 u312 u313 u314 u315 u316 u317 u318 u319 u320 u321 u322 u323 u324 u325 u326 u327 u328 u329 u330 u331 u332 u333 u334 u335 u336 u337 u338 u339 u340 u341 u342 u343 u344 u345 u346 u347 u348 u349 u350 u351 u352 u353 u354 u355 u356 u357 u358 u359 u360 u361 u362 : Value} {w wx : World} {h h1 : Hd} {its : List Item} {M : List Ent} {F : List Nat} (S : StoreAt w ms h its M F) (hok : rc.Ok) (hn : h.n < 30) {s17 : Value} (hd : Blk wx ms 87 h1.cells) (hk : Keep (fun k => k = ms) w wx) (adj : h.Adj h1) (hh : RowAt wx 1 Ah rc.hdr.length (rc.hdr.map byteV)) (hdt : RowAt wx 1 Ad rc.dat.length (rc.dat.map byteV)) (h14 : Cont14 R w ms h its M F rc Ah Ad ch cd s17)  :
    Code.wp Tryz.prog (sT 9) (bodyPost Tryz.prog Tryz.f61 R) ⟨#[.pointer (some ⟨ms, 0, none⟩), str rc.subj, .slice Ah rc.hdr.length ch, .slice Ad rc.dat.length cd, .int .u64 ((h.n + 1 : Nat) : Int), .int .i64 rc.ts, .int .i64 0, .bool true, u8, u9, u10, u11, u12, u13, u14, u15, .nilIface, s17, u18, u19, u20, u21, .int .i64 rc.ts, u23, u24, u25, u26, u27, u28, u29, u30, u31, u32, u33, u34, u35, u36, u37, u38, u39, u40, u41, u42, u43, u44, u45, u46, u47, u48, u49, u50, u51, u52, u53, u54, u55, u56, u57, u58, u59, u60, u61, u62, u63, u64, u65, u66, u67, u68, u69, u70, u71, u72, u73, u74, u75, u76, u77, u78, u79, u80, u81, u82, u83, u84, u85, u86, u87, u88, u89, u90, u91, u92, u93, u94, u95, u96, u97, u98, u99, u100, u101, u102, u103, u104, u105, u106, u107, u108, u109, u110, u111, u112, u113, u114, u115, u116, u117, u118, u119, u120, u121, u122, u123, u124, u125, u126, u127, u128, u129, u130, u131, u132, u133, u134, u135, u136, u137, u138, u139, u140, u141, u142, u143, u144, u145, u146, u147, u148, u149, u150, u151, u152, u153, u154, u155, u156, u157, u158, u159, u160, u161, u162, u163, u164, u165, u166, u167, u168, u169, u170, u171, u172, u173, u174, u175, u176, u177, u178, u179, u180, u181, u182, u183, u184, u185, u186, u187, u188, u189, u190, u191, u192, u193, u194, u195, u196, u197, u198, u199, u200, u201, u202, u203, u204, u205, u206, u207, u208, u209, u210, u211, u212, u213, u214, u215, u216, u217, u218, u219, u220, u221, u222, u223, u224, u225, u226, u227, u228, u229, u230, u231, u232, u233, u234, u235, u236, u237, u238, u239, u240, u241, u242, u243, u244, u245, u246, u247, u248, u249, u250, u251, u252, u253, u254, u255, u256, u257, u258, u259, u260, u261, u262, u263, u264, u265, u266, u267, u268, u269, u270, u271, u272, u273, u274, u275, u276, u277, u278, u279, u280, u281, u282, u283, u284, u285, u286, u287, u288, u289, u290, u291, u292, u293, u294, u295, u296, u297, u298, u299, u300, u301, u302, u303, u304, u305, u306, u307, u308, u309, u310, u311, u312, u313, u314, u315, u316, u317, u318, u319, u320, u321, u322, u323, u324, u325, u326, u327, u328, u329, u330, u331, u332, u333, u334, u335, u336, u337, u338, u339, u340, u341, u342, u343, u344, u345, u346, u347, u348, u349, u350, u351, u352, u353, u354, u355, u356, u357, u358, u359, u360, u361, u362], []⟩ wx := by
  have hh1 : (rc.hdr.length : Int) ≤ 4096 := by have := hok.h1; omega
  have hd1 : (rc.dat.length : Int) ≤ 4096 := by have := hok.d1; omega
  have hh1' := hok.h1
  have hd1' := hok.d1
  have HH := Lib.hid hh
  have HD := Lib.hid hdt
  have MM := Lib.hid (And.intro hd (And.intro hk adj))
  clear hh hdt hd hk adj
  refine wp_seq_of (show sT 9 = .seq (sH 9) (sT 10) from rfl) fun K hK => ?_
  conv => arg 2; whnf
  go_wp2_with (first | (refine wpList_make37 rfl _ _ rfl (rc.hdr.length + rc.dat.length) rfl rfl (by omega) ?_; intro w1 hr1 hk1) | fail)
  have hb2 := Blk.new w1 145 #[str rc.subj, .slice none 0 0, .slice none 0 0, .slice (some ⟨wx.heap.size, 0, none⟩) 0 (rc.hdr.length + rc.dat.length), .int .u64 ((h.n : Int) + 1), .int .i64 rc.ts]
  have hr2 : BRow (w1.alloc (.cells #[str rc.subj, .slice none 0 0, .slice none 0 0, .slice (some ⟨wx.heap.size, 0, none⟩) 0 (rc.hdr.length + rc.dat.length), .int .u64 ((h.n : Int) + 1), .int .i64 rc.ts] 145)) wx.heap.size _ [] := hr1.alloc _
  have hk2 := hk1.alloc (.cells #[str rc.subj, .slice none 0 0, .slice none 0 0, .slice (some ⟨wx.heap.size, 0, none⟩) 0 (rc.hdr.length + rc.dat.length), .int .u64 ((h.n : Int) + 1), .int .i64 rc.ts] 145)
  have hbz : wx.heap.size ≤ w1.heap.size := hk1.size
  generalize w1.heap.size = b at *
  generalize w1.alloc (.cells #[str rc.subj, .slice none 0 0, .slice none 0 0, .slice (some ⟨wx.heap.size, 0, none⟩) 0 (rc.hdr.length + rc.dat.length), .int .u64 ((h.n : Int) + 1), .int .i64 rc.ts] 145) = w2 at hb2 hr2 hk2 ⊢
  have c3 : w2.cell? ⟨b, 3, none⟩ = some (.slice (some ⟨wx.heap.size, 0, none⟩) 0 (rc.hdr.length + rc.dat.length)) := by rw [hb2.cell]; rfl
  have B2 := Lib.hid (And.intro hb2 (And.intro hr2 hk2))
  clear hb2 hr2 hk2 hr1 hk1
  refine wp_seq_of (show sT 10 = .seq (sH 10) (sT 11) from rfl) fun K hK => ?_
  conv => arg 2; whnf
  go_wp2_with (first | (at_builtin; refine wpList_append_b _ rfl _ _ rfl wx.heap.size _ [] Ah rc.hdr.length ch rc.hdr rfl rfl B2.out.2.1 (HH.out.keep B2.out.2.2 (fun _ _ _ h => h)) B2.out.2.2.size (by simp; omega) ?_; intro v3 w3 hr3 hg3; obtain ⟨A3, n3, k3, rfl⟩ := hr3.shape; have hb3 := B2.out.2.1.grown_blk B2.out.1 (by decide) hg3; have hk3 := grown_keep B2.out.2.2 B2.out.2.1 (Nat.le_refl _) hg3; have d3 : w3.cell? ⟨b, 3, none⟩ = some (.slice (some ⟨wx.heap.size, 0, none⟩) 0 (rc.hdr.length + rc.dat.length)) := (by rw [hb3.cell]; rfl); have f3 : w3.frozen? ⟨b, 3, none⟩ = false := hb3.frozen 3; have B3 := Lib.hid (And.intro hb3 (And.intro hr3 hk3)); clear hb3 hr3 hk3 hg3) | fail)
  have hb4 := B3.out.1.set_ 3 (.slice A3 n3 k3)
  have hr4 := BRow.put B3.out.2.1 B3.out.1 (by decide) 3 (.slice A3 n3 k3)
  have hk4 := B3.out.2.2.above hbz 3 (.slice A3 n3 k3)
  generalize w3.setCell ⟨b, 3, none⟩ (.slice A3 n3 k3) = w4 at hb4 hr4 hk4 ⊢
  have e4 : w4.cell? ⟨b, 3, none⟩ = some (.slice A3 n3 k3) := by rw [hb4.cell]; rfl
  have B4 := Lib.hid (And.intro hb4 (And.intro hr4 hk4))
  clear hb4 hr4 hk4
  refine wp_seq_of (show sT 11 = .seq (sH 11) (sT 12) from rfl) fun K hK => ?_
  conv => arg 2; whnf
  go_wp2_with (first | (at_builtin; refine wpList_append_b _ rfl _ _ rfl wx.heap.size _ ([] ++ rc.hdr) Ad rc.dat.length cd rc.dat rfl rfl B4.out.2.1 (HD.out.keep B4.out.2.2 (fun _ _ _ h => h)) B4.out.2.2.size (by simp; omega) ?_; intro v5 w5 hr5 hg5; obtain ⟨A5, n5, k5, rfl⟩ := hr5.shape; have hb5 := B4.out.2.1.grown_blk B4.out.1 (by decide) hg5; have hk5 := grown_keep B4.out.2.2 B4.out.2.1 (Nat.le_refl _) hg5; have d5 : w5.cell? ⟨b, 3, none⟩ = some (.slice A3 n3 k3) := (by rw [hb5.cell]; rfl); have f5 : w5.frozen? ⟨b, 3, none⟩ = false := hb5.frozen 3; have B5 := Lib.hid (And.intro hb5 (And.intro hr5 hk5)); clear hb5 hr5 hk5 hg5) | fail)
  obtain ⟨hd, hk, adj⟩ := MM.out
  have hk6 := B5.out.2.2.above hbz 3 (.slice A5 n5 k5)
  have hz := hk.size
  exact st12 S hok hn ⟨hk6.blk hd (fun h => h), hk.none_trans hk6, B5.out.1.set_ 3 (.slice A5 n5 k5), ((BRow.put B5.out.2.1 B5.out.1 (by decide) 3 (.slice A5 n5 k5)).mono hz), by omega, adj⟩ h14


end Go.Proofs.YtmblkpjnafgplaaGreatDoor

namespace Go.Proofs.YtmblkpjnafgplaaGreatDoor
open Go Go.RowKit
set_option maxRecDepth 100000
set_option linter.unusedVariables false
set_option linter.unusedSimpArgs false

set_option maxHeartbeats 4000000 in
set_option maxRecDepth 1000000 in
theorem st6f {R : Ending → World → Prop} {ms : Nat} {rc : Rec} {Ah Ad : Option Addr} {ch cd : Nat} {u8 u9 u10 u11 u12 u13 u14 u15 u18 u19 u20 u21 u22 u23 u24 u25 u26 u27 u28 u29 u30 u31 u32 u33 u34 u35 u36 u37 u38 u39 u40 u41 u42 u43 u44 u45 u46 u47 u48 u49 u50 u51 u52 u53 u54 u55 u56 u57 u58 u59 u60 u61 u62 u63 u64 u65 u66 u67 u68 u69 u70 u71 u72 u73 u74 u75 u76 u77 u78 u79 u80 u81 u82 u83 u84 u85 u86 u87 u88 u89 u90 u91 u92 u93 u94 u95 u96 u97 u98 u99 u100 u101 u102 u103 u104 u105 u106 u107 u108 u109 u110 u111 u112 u113 u114 u115 u116 u117 u118 u119 u120 u121 u122 u123 u124 u125 u126 u127 u128 u129 u130 u131 u132 u133 u134 u135 u136 u137 u138 u139 u140 u141 u142 u143 u144 u145 u146 u147 u148 u149 u150 u151 u152 u153 u154 u155 u156 u157 u158 u159 u160 u161 u162 u163 u164 u165 u166 u167 u168 u169 u170 u171 u172 u173 u174 u175 u176 u177 u178 u179 u180 u181 u182 u183 u184 u185 u186 u187 u188 u189 u190 u191 u192 u193 u194 u195 u196 u197 u198 u199 u200 u201 u202 u203 u204 u205 u206 u207 u208 u209 u210 u211 u212 u213 u214 u215 u216 u217 u218 u219 u220 u221 u222 u223 u224 u225 u226 u227 u228 u229 u230 u231 u232 u233 u234 u235 u236 u237 u238 u239 u240 u241 u242 u243 u244 u245 u246 u247 u248 u249 u250 u251 u252 u253 u254 u255 u256 u257 u258 u259 u260 u261 u262 u263 u264 u265 u266 u267 u268 u269 u270 u271 u272 u273 u274 u275 u276 u277 u278 u279 u280 u281 u282 u283 u284 u285 u286 u287 u288 u289 u290 u291 u292 u293 u294 u295 u296 u297 u298 u299 u300 u301 u302 u303 u304 u305 u306 u307 u308 u309 u310 u311 u312 u313 u314 u315 u316 u317 u318 u319 u320 u321 u322 u323 u324 u325 u326 u327 u328 u329 u330 u331 u332 u333 u334 u335 u336 u337 u338 u339 u340 u341 u342 u343 u344 u345 u346 u347 u348 u349 u350 u351 u352 u353 u354 u355 u356 u357 u358 u359 u360 u361 u362 : Value} {w wx : World} {h : Hd} {its : List Item} {M : List Ent} {F : List Nat} (S : StoreAt w ms h its M F) (hok : rc.Ok) (hn : h.n < 30) {s17 : Value} (hk : Keep NoB w wx) (hnr : ∀ k, blkOf Ah k ∨ blkOf Ad k → ¬ Mut ms h F k) (hh : RowAt wx 1 Ah rc.hdr.length (rc.hdr.map byteV)) (hdt : RowAt wx 1 Ad rc.dat.length (rc.dat.map byteV)) (hc : h.cnt = 0) (h14 : Cont14 R w ms h its M F rc Ah Ad ch cd s17)  :
    Code.wp Tryz.prog (sT 6) (bodyPost Tryz.prog Tryz.f61 R) ⟨#[.pointer (some ⟨ms, 0, none⟩), str rc.subj, .slice Ah rc.hdr.length ch, .slice Ad rc.dat.length cd, .int .u64 0, .int .i64 rc.ts, .int .i64 0, .bool true, u8, u9, u10, u11, u12, u13, u14, u15, .nilIface, s17, u18, u19, u20, u21, u22, u23, u24, u25, u26, u27, u28, u29, u30, u31, u32, u33, u34, u35, u36, u37, u38, u39, u40, u41, u42, u43, u44, u45, u46, u47, u48, u49, u50, u51, u52, u53, u54, u55, u56, u57, u58, u59, u60, u61, u62, u63, u64, u65, u66, u67, u68, u69, u70, u71, u72, u73, u74, u75, u76, u77, u78, u79, u80, u81, u82, u83, u84, u85, u86, u87, u88, u89, u90, u91, u92, u93, u94, u95, u96, u97, u98, u99, u100, u101, u102, u103, u104, u105, u106, u107, u108, u109, u110, u111, u112, u113, u114, u115, u116, u117, u118, u119, u120, u121, u122, u123, u124, u125, u126, u127, u128, u129, u130, u131, u132, u133, u134, u135, u136, u137, u138, u139, u140, u141, u142, u143, u144, u145, u146, u147, u148, u149, u150, u151, u152, u153, u154, u155, u156, u157, u158, u159, u160, u161, u162, u163, u164, u165, u166, u167, u168, u169, u170, u171, u172, u173, u174, u175, u176, u177, u178, u179, u180, u181, u182, u183, u184, u185, u186, u187, u188, u189, u190, u191, u192, u193, u194, u195, u196, u197, u198, u199, u200, u201, u202, u203, u204, u205, u206, u207, u208, u209, u210, u211, u212, u213, u214, u215, u216, u217, u218, u219, u220, u221, u222, u223, u224, u225, u226, u227, u228, u229, u230, u231, u232, u233, u234, u235, u236, u237, u238, u239, u240, u241, u242, u243, u244, u245, u246, u247, u248, u249, u250, u251, u252, u253, u254, u255, u256, u257, u258, u259, u260, u261, u262, u263, u264, u265, u266, u267, u268, u269, u270, u271, u272, u273, u274, u275, u276, u277, u278, u279, u280, u281, u282, u283, u284, u285, u286, u287, u288, u289, u290, u291, u292, u293, u294, u295, u296, u297, u298, u299, u300, u301, u302, u303, u304, u305, u306, u307, u308, u309, u310, u311, u312, u313, u314, u315, u316, u317, u318, u319, u320, u321, u322, u323, u324, u325, u326, u327, u328, u329, u330, u331, u332, u333, u334, u335, u336, u337, u338, u339, u340, u341, u342, u343, u344, u345, u346, u347, u348, u349, u350, u351, u352, u353, u354, u355, u356, u357, u358, u359, u360, u361, u362], []⟩ wx := by
  have hb := hk.blk S.hd (fun h => h)
  have c18 : wx.cell? ⟨ms, 18, none⟩ = some (.int .u64 (h.n : Int)) := by rw [hb.cell]; rfl
  have c14 : wx.cell? ⟨ms, 14, none⟩ = some (.int .u64 (h.cnt : Int)) := by rw [hb.cell]; rfl
  have c16 : wx.cell? ⟨ms, 16, none⟩ = some (.int .u64 (h.fsq : Int)) := by rw [hb.cell]; rfl
  have c17 : wx.cell? ⟨ms, 17, none⟩ = some (.int .i64 h.ft) := by rw [hb.cell]; rfl
  have f16 : wx.frozen? ⟨ms, 16, none⟩ = false := hb.frozen 16
  have f17 : wx.frozen? ⟨ms, 17, none⟩ = false := hb.frozen 17
  have hn1 : (h.n : Int) < 30 := by omega
  have hne : ¬ (0 : Int) = (h.n : Int) + 1 := by omega
  rw [hc] at c14
  have c14 : wx.cell? ⟨ms, 14, none⟩ = some (.int .u64 0) := c14
  have hmsr : ∀ k, blkOf Ah k ∨ blkOf Ad k → k ≠ ms := fun k hk e => hnr k hk (.inl e)
  have hK := (keep1 wx ms 16 (.int .u64 ((h.n : Int) + 1))).put rfl 17 (.int .i64 rc.ts)
  have hb17 : Blk ((wx.setCell ⟨ms, 16, none⟩ (.int .u64 ((h.n : Int) + 1))).setCell ⟨ms, 17, none⟩ (.int .i64 rc.ts)) ms 87 ({ h with fsq := h.n + 1, ft := rc.ts } : Hd).cells := (hb.set_ 16 (.int .u64 ((h.n : Int) + 1))).set_ 17 (.int .i64 rc.ts)
  have MM := Lib.hid (And.intro hb17 (And.intro ((hk.mono (G := fun k => k = ms) (fun _ _ h => h.elim)).trans hK (fun _ _ h => h)) (And.intro (Hd.adj_first hc rc.ts) (And.intro (hh.keep hK (fun k hk' _ => hmsr k (.inl hk'))) (hdt.keep hK (fun k hk' _ => hmsr k (.inr hk')))))))
  clear hK hb hb17 hk hh hdt hc hmsr
  refine wp_seq_of (show sT 6 = .seq (sH 6) (sT 7) from rfl) fun K hK => ?_
  conv => arg 2; whnf
  go_wp2_with fail
  refine wp_seq_of (show sT 7 = .seq (sH 7) (sT 8) from rfl) fun K hK => ?_
  conv => arg 2; whnf
  go_wp2_with fail
  refine wp_seq_of (show sT 8 = .seq (sH 8) (sT 9) from rfl) fun K hK => ?_
  conv => arg 2; whnf
  go_wp2_with fail
  obtain ⟨x1, x2, x3, x4, x5⟩ := MM.out
  exact st9 S hok hn x1 x2 x3 x4 x5 h14

set_option maxHeartbeats 4000000 in
set_option maxRecDepth 1000000 in
theorem st6n {R : Ending → World → Prop} {ms : Nat} {rc : Rec} {Ah Ad : Option Addr} {ch cd : Nat} {u8 u9 u10 u11 u12 u13 u14 u15 u18 u19 u20 u21 u22 u23 u24 u25 u26 u27 u28 u29 u30 u31 u32 u33 u34 u35 u36 u37 u38 u39 u40 u41 u42 u43 u44 u45 u46 u47 u48 u49 u50 u51 u52 u53 u54 u55 u56 u57 u58 u59 u60 u61 u62 u63 u64 u65 u66 u67 u68 u69 u70 u71 u72 u73 u74 u75 u76 u77 u78 u79 u80 u81 u82 u83 u84 u85 u86 u87 u88 u89 u90 u91 u92 u93 u94 u95 u96 u97 u98 u99 u100 u101 u102 u103 u104 u105 u106 u107 u108 u109 u110 u111 u112 u113 u114 u115 u116 u117 u118 u119 u120 u121 u122 u123 u124 u125 u126 u127 u128 u129 u130 u131 u132 u133 u134 u135 u136 u137 u138 u139 u140 u141 u142 u143 u144 u145 u146 u147 u148 u149 u150 u151 u152 u153 u154 u155 u156 u157 u158 u159 u160 u161 u162 u163 u164 u165 u166 u167 u168 u169 u170 u171 u172 u173 u174 u175 u176 u177 u178 u179 u180 u181 u182 u183 u184 u185 u186 u187 u188 u189 u190 u191 u192 u193 u194 u195 u196 u197 u198 u199 u200 u201 u202 u203 u204 u205 u206 u207 u208 u209 u210 u211 u212 u213 u214 u215 u216 u217 u218 u219 u220 u221 u222 u223 u224 u225 u226 u227 u228 u229 u230 u231 u232 u233 u234 u235 u236 u237 u238 u239 u240 u241 u242 u243 u244 u245 u246 u247 u248 u249 u250 u251 u252 u253 u254 u255 u256 u257 u258 u259 u260 u261 u262 u263 u264 u265 u266 u267 u268 u269 u270 u271 u272 u273 u274 u275 u276 u277 u278 u279 u280 u281 u282 u283 u284 u285 u286 u287 u288 u289 u290 u291 u292 u293 u294 u295 u296 u297 u298 u299 u300 u301 u302 u303 u304 u305 u306 u307 u308 u309 u310 u311 u312 u313 u314 u315 u316 u317 u318 u319 u320 u321 u322 u323 u324 u325 u326 u327 u328 u329 u330 u331 u332 u333 u334 u335 u336 u337 u338 u339 u340 u341 u342 u343 u344 u345 u346 u347 u348 u349 u350 u351 u352 u353 u354 u355 u356 u357 u358 u359 u360 u361 u362 : Value} {w wx : World} {h : Hd} {its : List Item} {M : List Ent} {F : List Nat} (S : StoreAt w ms h its M F) (hok : rc.Ok) (hn : h.n < 30) {s17 : Value} (hk : Keep NoB w wx) (hnr : ∀ k, blkOf Ah k ∨ blkOf Ad k → ¬ Mut ms h F k) (hh : RowAt wx 1 Ah rc.hdr.length (rc.hdr.map byteV)) (hdt : RowAt wx 1 Ad rc.dat.length (rc.dat.map byteV)) (hc : 0 < h.cnt) (h14 : Cont14 R w ms h its M F rc Ah Ad ch cd s17)  :
    Code.wp Tryz.prog (sT 6) (bodyPost Tryz.prog Tryz.f61 R) ⟨#[.pointer (some ⟨ms, 0, none⟩), str rc.subj, .slice Ah rc.hdr.length ch, .slice Ad rc.dat.length cd, .int .u64 0, .int .i64 rc.ts, .int .i64 0, .bool true, u8, u9, u10, u11, u12, u13, u14, u15, .nilIface, s17, u18, u19, u20, u21, u22, u23, u24, u25, u26, u27, u28, u29, u30, u31, u32, u33, u34, u35, u36, u37, u38, u39, u40, u41, u42, u43, u44, u45, u46, u47, u48, u49, u50, u51, u52, u53, u54, u55, u56, u57, u58, u59, u60, u61, u62, u63, u64, u65, u66, u67, u68, u69, u70, u71, u72, u73, u74, u75, u76, u77, u78, u79, u80, u81, u82, u83, u84, u85, u86, u87, u88, u89, u90, u91, u92, u93, u94, u95, u96, u97, u98, u99, u100, u101, u102, u103, u104, u105, u106, u107, u108, u109, u110, u111, u112, u113, u114, u115, u116, u117, u118, u119, u120, u121, u122, u123, u124, u125, u126, u127, u128, u129, u130, u131, u132, u133, u134, u135, u136, u137, u138, u139, u140, u141, u142, u143, u144, u145, u146, u147, u148, u149, u150, u151, u152, u153, u154, u155, u156, u157, u158, u159, u160, u161, u162, u163, u164, u165, u166, u167, u168, u169, u170, u171, u172, u173, u174, u175, u176, u177, u178, u179, u180, u181, u182, u183, u184, u185, u186, u187, u188, u189, u190, u191, u192, u193, u194, u195, u196, u197, u198, u199, u200, u201, u202, u203, u204, u205, u206, u207, u208, u209, u210, u211, u212, u213, u214, u215, u216, u217, u218, u219, u220, u221, u222, u223, u224, u225, u226, u227, u228, u229, u230, u231, u232, u233, u234, u235, u236, u237, u238, u239, u240, u241, u242, u243, u244, u245, u246, u247, u248, u249, u250, u251, u252, u253, u254, u255, u256, u257, u258, u259, u260, u261, u262, u263, u264, u265, u266, u267, u268, u269, u270, u271, u272, u273, u274, u275, u276, u277, u278, u279, u280, u281, u282, u283, u284, u285, u286, u287, u288, u289, u290, u291, u292, u293, u294, u295, u296, u297, u298, u299, u300, u301, u302, u303, u304, u305, u306, u307, u308, u309, u310, u311, u312, u313, u314, u315, u316, u317, u318, u319, u320, u321, u322, u323, u324, u325, u326, u327, u328, u329, u330, u331, u332, u333, u334, u335, u336, u337, u338, u339, u340, u341, u342, u343, u344, u345, u346, u347, u348, u349, u350, u351, u352, u353, u354, u355, u356, u357, u358, u359, u360, u361, u362], []⟩ wx := by
  have hb := hk.blk S.hd (fun h => h)
  have c18 : wx.cell? ⟨ms, 18, none⟩ = some (.int .u64 (h.n : Int)) := by rw [hb.cell]; rfl
  have c14 : wx.cell? ⟨ms, 14, none⟩ = some (.int .u64 (h.cnt : Int)) := by rw [hb.cell]; rfl
  have c16 : wx.cell? ⟨ms, 16, none⟩ = some (.int .u64 (h.fsq : Int)) := by rw [hb.cell]; rfl
  have c17 : wx.cell? ⟨ms, 17, none⟩ = some (.int .i64 h.ft) := by rw [hb.cell]; rfl
  have f16 : wx.frozen? ⟨ms, 16, none⟩ = false := hb.frozen 16
  have f17 : wx.frozen? ⟨ms, 17, none⟩ = false := hb.frozen 17
  have hn1 : (h.n : Int) < 30 := by omega
  have hne : ¬ (0 : Int) = (h.n : Int) + 1 := by omega
  have hc1 : ¬ (h.cnt : Int) = 0 := by omega
  have MM := Lib.hid (And.intro hb (And.intro (hk.mono (G := fun k => k = ms) (fun _ _ h => h.elim)) (And.intro (Hd.adj_self hc) (And.intro hh hdt))))
  clear hb hk hh hdt hc
  refine wp_seq_of (show sT 6 = .seq (sH 6) (sT 7) from rfl) fun K hK => ?_
  conv => arg 2; whnf
  go_wp2_with fail
  refine wp_seq_of (show sT 7 = .seq (sH 7) (sT 8) from rfl) fun K hK => ?_
  conv => arg 2; whnf
  go_wp2_with fail
  refine wp_seq_of (show sT 8 = .seq (sH 8) (sT 9) from rfl) fun K hK => ?_
  conv => arg 2; whnf
  go_wp2_with fail
  obtain ⟨x1, x2, x3, x4, x5⟩ := MM.out
  exact st9 S hok hn x1 x2 x3 x4 x5 h14


end Go.Proofs.YtmblkpjnafgplaaGreatDoor

namespace Go.Proofs.YtmblkpjnafgplaaGreatDoor
open Go Go.RowKit
set_option maxRecDepth 100000
set_option linter.unusedVariables false
set_option linter.unusedSimpArgs false

set_option maxHeartbeats 4000000 in
set_option maxRecDepth 1000000 in
theorem st19n {R : Ending → World → Prop} {ms : Nat} {rc : Rec} {Ah Ad : Option Addr} {ch cd : Nat} {u8 u9 u10 u11 u12 u13 u14 u15 u18 u19 u20 u21 u22 u23 u24 u25 u26 u27 u28 u29 u30 u31 u32 u33 u34 u35 u36 u37 u38 u39 u40 u41 u42 u43 u44 u45 u46 u47 u48 u49 u50 u51 u52 u53 u54 u55 u56 u57 u58 u59 u60 u61 u62 u63 u64 u65 u66 u67 u68 u69 u70 u71 u72 u73 u74 u75 u76 u77 u78 u79 u80 u81 u82 u83 u84 u85 u86 u87 u88 u89 u90 u91 u92 u93 u94 u95 u96 u97 u98 u99 u100 u101 u102 u103 u104 u105 u106 u107 u108 u109 u110 u111 u112 u113 u114 u115 u116 u117 u118 u119 u120 u121 u122 u123 u124 u125 u126 u127 u128 u129 u130 u131 u132 u133 u134 u135 u136 u137 u138 u139 u140 u141 u142 u143 u144 u145 u146 u147 u148 u149 u150 u151 u152 u153 u154 u155 u156 u157 u158 u159 u160 u161 u162 u163 u164 u165 u166 u167 u168 u169 u170 u171 u172 u173 u174 u175 u176 u177 u178 u179 u180 u181 u182 u183 u184 u185 u186 u187 u188 u189 u190 u191 u192 u193 u194 u195 u196 u197 u198 u199 u200 u201 u202 u203 u204 u205 u206 u207 u208 u209 u210 u211 u212 u213 u214 u215 u216 u217 u218 u219 u220 u221 u222 u223 u224 u225 u226 u227 u228 u229 u230 u231 u232 u233 u234 u235 u236 u237 u238 u239 u240 u241 u242 u243 u244 u245 u246 u247 u248 u249 u250 u251 u252 u253 u254 u255 u256 u257 u258 u259 u260 u261 u262 u263 u264 u265 u266 u267 u268 u269 u270 u271 u272 u273 u274 u275 u276 u277 u278 u279 u280 u281 u282 u283 u284 u285 u286 u287 u288 u289 u290 u291 u292 u293 u294 u295 u296 u297 u298 u299 u300 u301 u302 u303 u304 u305 u306 u307 u308 u309 u310 u311 u312 u313 u314 u315 u316 u317 u318 u319 u320 u321 u322 u323 u324 u325 u326 u327 u328 u329 u330 u331 u332 u333 u334 u335 u336 u337 u338 u339 u340 u341 u342 u343 u344 u345 u346 u347 u348 u349 u350 u351 u352 u353 u354 u355 u356 u357 u358 u359 u360 u361 u362 : Value} {w wx : World} {h h2 : Hd} {its : List Item} {M : List Ent} {F : List Nat} {b : Nat} (m : Mid w wx ms h its M F rc h2 b) (S : StoreAt w ms h its M F) (hok : rc.Ok) (hn : h.n < 30) (hl : Lim h its) (hM : ∀ x, (rc.subj, x) ∉ M) (hR : ∀ w', Stored w w' ms h its M F rc → R (.returned .nilIface) w') :
    Code.wp Tryz.prog (sT 19) (bodyPost Tryz.prog Tryz.f61 R) ⟨#[.pointer (some ⟨ms, 0, none⟩), str rc.subj, .slice Ah rc.hdr.length ch, .slice Ad rc.dat.length cd, .int .u64 ((h.n + 1 : Nat) : Int), .int .i64 rc.ts, .int .i64 0, .bool true, u8, u9, u10, u11, u12, u13, u14, u15, .nilIface, .pointer none, u18, u19, u20, u21, u22, u23, u24, u25, u26, u27, u28, u29, u30, u31, u32, u33, u34, u35, u36, u37, u38, u39, u40, u41, u42, u43, u44, u45, u46, u47, u48, u49, u50, u51, u52, u53, u54, u55, u56, u57, u58, u59, u60, u61, u62, u63, u64, u65, u66, u67, u68, u69, u70, u71, u72, u73, u74, u75, u76, u77, u78, u79, u80, u81, u82, u83, u84, u85, u86, u87, u88, u89, u90, u91, u92, u93, u94, u95, u96, u97, u98, u99, u100, u101, u102, u103, u104, u105, u106, u107, u108, u109, u110, u111, u112, u113, u114, u115, u116, u117, u118, u119, u120, u121, u122, u123, u124, u125, u126, u127, u128, u129, u130, u131, u132, u133, u134, u135, u136, u137, u138, u139, u140, u141, u142, u143, u144, u145, u146, u147, u148, u149, u150, u151, u152, u153, u154, u155, u156, u157, u158, u159, u160, u161, u162, u163, u164, u165, u166, u167, u168, u169, u170, u171, u172, u173, u174, u175, u176, u177, u178, u179, u180, u181, u182, u183, u184, u185, u186, u187, u188, u189, u190, u191, u192, u193, u194, u195, u196, u197, u198, u199, u200, u201, u202, u203, u204, u205, u206, u207, u208, u209, u210, u211, u212, u213, u214, u215, u216, u217, u218, u219, u220, u221, u222, u223, u224, u225, u226, u227, u228, u229, u230, u231, u232, u233, u234, u235, u236, u237, u238, u239, u240, u241, u242, u243, u244, u245, u246, u247, u248, u249, u250, u251, u252, u253, u254, u255, u256, u257, u258, u259, u260, u261, u262, u263, u264, u265, u266, u267, u268, u269, u270, u271, u272, u273, u274, u275, u276, u277, u278, u279, u280, u281, u282, u283, u284, u285, u286, u287, u288, u289, u290, u291, u292, u293, u294, u295, u296, u297, u298, u299, u300, u301, u302, u303, u304, u305, u306, u307, u308, u309, u310, u311, u312, u313, u314, u315, u316, u317, u318, u319, u320, u321, u322, u323, u324, u325, u326, u327, u328, u329, u330, u331, u332, u333, u334, u335, u336, u337, u338, u339, u340, u341, u342, u343, u344, u345, u346, u347, u348, u349, u350, u351, u352, u353, u354, u355, u356, u357, u358, u359, u360, u361, u362], []⟩ wx := by
  have hlen : (0 : Int) < rc.subj.length := by have := List.length_pos_iff.2 hok.s0; omega
  have hlb : ByteArray.size ⟨rc.subj.toArray⟩ = rc.subj.length := by simp [ByteArray.size]
  have hl63 : rc.subj.length < 2 ^ 63 := by have := hok.s1; omega
  have hl61 : rc.subj.length ≤ 2305843009213693952 := by have := hok.s1; omega
  have hkF : ∀ k, (k = ms ∨ k = h.r) → k ∉ F := fun k hx hF => hx.elim (fun e => S.dis1.1 (e ▸ hF)) (fun e => S.dis1.2 (e ▸ hF))
  have hkt : ¬ (h.tb = ms ∨ h.tb = h.r) := fun hx => hx.elim (fun e => S.dis2.2.1 e.symm) (fun e => S.dis2.2.2 e.symm)
  have htx : TreeAt wx h.tb M.length M F := S.tree.keep m.keep hkt (fun k hk hx => hkF k hx hk)
  have c26 : wx.cell? ⟨ms, 26, none⟩ = some (.pointer (some ⟨h.tb, 0, none⟩)) := by rw [m.hd.cell, ← m.next.tb]; rfl
  have hFlt : ∀ k ∈ F, k < wx.heap.size := by
    obtain ⟨root, _, hr, _⟩ := htx
    rcases hr with ⟨_, _, rfl⟩ | hr
    · intro k hk; cases hk
    · exact hr.lt
  have htlt : h.tb < wx.heap.size := by
    obtain ⟨root, hb, _⟩ := htx
    exact hb.lt
  have hc := Lib.run_convert_string_bytes (P := Tryz.prog) wx 9 37 5 ⟨rc.subj.toArray⟩ Tryz.underlying9 Tryz.underlying37 Tryz.underlying5
  obtain ⟨A, c, he, hcc, hrow, hbk, hkw⟩ := made_bytes wx rc.subj hl63
  rw [show (⟨rc.subj.toArray⟩ : ByteArray).size = rc.subj.length from by simp [ByteArray.size]] at hc
  injection he with he
  rw [he] at hc
  clear he
  generalize Lib.bytesWorld wx 5 ⟨rc.subj.toArray⟩ = wy at *
  have hins := insert_tree h.tb A rc.subj.length c rc.subj 1 ((h.n + 1 : Nat) : Int) ((h.n + 1 : Nat) : Int) false false M.length M F wy (htx.keep hkw (fun h => h) (fun k _ h => h)) hrow hl61 hcc hok.s2 (by have := S.lenM; omega)
    (fun k hk => ⟨fun hF => by have := hFlt k hF; have := (hbk k hk).1; omega, fun e => by have := (hbk k hk).1; omega⟩) S.no127 S.short (by have := S.lenM; omega) hM
  have hdisc : (h2.disc = 0 ∧ h2.mm = 0) ∨ h2.disc = 1 := by rw [m.next.disc, m.next.mm]; exact S.disc.imp id (fun h => h.1)
  have hfin : ∀ w3 q, InsT h.tb M.length M F rc.subj (ssv 1 ((h.n + 1 : Nat) : Int) ((h.n + 1 : Nat) : Int) false false) wy w3 → R (.returned .nilIface) (w3.drewN q) ∧ Blk w3 ms 87 h2.cells := by
    intro w3 q hi
    have hkMd : Keep (Mut ms h F) w w3 := (m.keepM.none_trans hkw).trans hi.kept (fun k _ hx => hx.elim (fun h => .inr (.inr (.inr (.inl h)))) (fun h => .inr (.inr (.inl h))))
    have hk3 : Keep NoB w3 (w3.drewN q) := (Keep.refl NoB w3).drewN q
    obtain ⟨M', F', hS, hF'⟩ := m.fresh S hok hn hM hkw hi
    have hlim : h.mp = 0 ∨ (seqs its rc.subj).length + 1 ≤ h.mp := by
      have hsj : seqs its rc.subj = [] := by
        cases hq : seqs its rc.subj with
        | nil => rfl
        | cons k t =>
          obtain ⟨i, hi, hie, _⟩ := mem_seqs.1 (show k ∈ seqs its rc.subj by rw [hq]; simp)
          obtain ⟨x, hx⟩ := S.key i hi
          rw [hie] at hx
          exact absurd hx (hM x)
      rw [hsj]; simp only [List.length_nil]; omega
    refine ⟨hR _ (.of_within (hS.keep hk3 (fun _ _ h => h)) m.next hl hlim (fun k hk => (hF' k hk).imp id (fun h => Nat.le_trans m.keep.size h)) (hkMd.none_trans hk3)), hS.hd⟩
  have HFIN := Lib.hid (And.intro hfin hdisc)
  have HINS := Lib.hid hins
  clear hfin hdisc hR hins hrow hbk hkw
  generalize ((h.n + 1 : Nat) : Int) = n1 at *
  refine wp_seq_of (show sT 19 = .seq (sH 19) (sT 20) from rfl) fun K hK => ?_
  conv => arg 2; whnf
  go_wp2_with fail
  refine HINS.out.mono ?_
  rintro e w3 ⟨rfl, hi⟩
  go_wp2_with fail
  exact st20 (HFIN.out.1 w3 0 hi).2 HFIN.out.2 (fun q => (HFIN.out.1 w3 q hi).1)


end Go.Proofs.YtmblkpjnafgplaaGreatDoor
