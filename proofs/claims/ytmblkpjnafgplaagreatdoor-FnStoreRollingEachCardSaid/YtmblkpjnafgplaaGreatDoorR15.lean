/- storeRawMsg: its parts, one declaration each. PRINTED by wip/gen_sr.py. storeRawMsg: its parts, one declaration each. PRINTED by wip/gen_sr.py. storeRawMsg: its parts, one declaration each. PRINTED by wip/gen_sr.py. StoreRawMsg; a store as its steps leave it. Parts, message: a message as plain data. same, sameMsg, sameMsgs, where what is compared is alike. sameMsg, where what is compared is alike. -/
import Derived.Test.YtmblkpjnafgplaaGreatDoorR14
import Derived.Test.YtmblkpjnafgplaaGreatDoorR13
import Derived.Test.YtmblkpjnafgplaaGreatDoorR08
import Derived.BigQuiet
import Derived.Test.YtmblkpjnafgplaaGreatDoorR11
import Derived.Deep.RegionHeld3
import Derived.LoopTactic
import Derived.Lib.Hide
namespace Go.Proofs.YtmblkpjnafgplaaGreatDoor
open Go Go.RowKit
set_option maxRecDepth 100000
set_option linter.unusedVariables false
set_option linter.unusedSimpArgs false

set_option maxHeartbeats 4000000 in
set_option maxRecDepth 1000000 in
theorem st5o {R : Ending → World → Prop} {ms : Nat} {rc : Rec} {Ah Ad : Option Addr} {ch cd : Nat} {u8 u9 u10 u11 u12 u13 u14 u15 u19 u20 u21 u22 u23 u24 u25 u26 u27 u28 u29 u30 u31 u32 u33 u34 u35 u36 u37 u38 u39 u40 u41 u42 u43 u44 u45 u46 u47 u48 u49 u50 u51 u52 u53 u54 u55 u56 u57 u58 u59 u60 u61 u62 u63 u64 u65 u66 u67 u68 u69 u70 u71 u72 u73 u74 u75 u76 u77 u78 u79 u80 u81 u82 u83 u84 u85 u86 u87 u88 u89 u90 u91 u92 u93 u94 u95 u96 u97 u98 u99 u100 u101 u102 u103 u104 u105 u106 u107 u108 u109 u110 u111 u112 u113 u114 u115 u116 u117 u118 u119 u120 u121 u122 u123 u124 u125 u126 u127 u128 u129 u130 u131 u132 u133 u134 u135 u136 u137 u138 u139 u140 u141 u142 u143 u144 u145 u146 u147 u148 u149 u150 u151 u152 u153 u154 u155 u156 u157 u158 u159 u160 u161 u162 u163 u164 u165 u166 u167 u168 u169 u170 u171 u172 u173 u174 u175 u176 u177 u178 u179 u180 u181 u182 u183 u184 u185 u186 u187 u188 u189 u190 u191 u192 u193 u194 u195 u196 u197 u198 u199 u200 u201 u202 u203 u204 u205 u206 u207 u208 u209 u210 u211 u212 u213 u214 u215 u216 u217 u218 u219 u220 u221 u222 u223 u224 u225 u226 u227 u228 u229 u230 u231 u232 u233 u234 u235 u236 u237 u238 u239 u240 u241 u242 u243 u244 u245 u246 u247 u248 u249 u250 u251 u252 u253 u254 u255 u256 u257 u258 u259 u260 u261 u262 u263 u264 u265 u266 u267 u268 u269 u270 u271 u272 u273 u274 u275 u276 u277 u278 u279 u280 u281 u282 u283 u284 u285 u286 u287 u288 u289 u290 u291 u292 u293 u294 u295 u296 u297 u298 u299 u300 u301 u302 u303 u304 u305 u306 u307 u308 u309 u310 u311 u312 u313 u314 u315 u316 u317 u318 u319 u320 u321 u322 u323 u324 u325 u326 u327 u328 u329 u330 u331 u332 u333 u334 u335 u336 u337 u338 u339 u340 u341 u342 u343 u344 u345 u346 u347 u348 u349 u350 u351 u352 u353 u354 u355 u356 u357 u358 u359 u360 u361 u362 : Value} {w wx : World} {h : Hd} {its : List Item} {M : List Ent} {F : List Nat} (S : StoreAt w ms h its M F) (hok : rc.Ok) (hn : h.n < 30) {s17 s18 : Value} (hk : Keep NoB w wx) (hnr : ∀ k, blkOf Ah k ∨ blkOf Ad k → ¬ Mut ms h F k) (hh : RowAt wx 1 Ah rc.hdr.length (rc.hdr.map byteV)) (hdt : RowAt wx 1 Ad rc.dat.length (rc.dat.map byteV)) (hdc : h.disc = 0) (h14 : Cont14 R w ms h its M F rc Ah Ad ch cd s17)  :
    Code.wp Tryz.prog (sT 5) (bodyPost Tryz.prog Tryz.f61 R) ⟨#[.pointer (some ⟨ms, 0, none⟩), str rc.subj, .slice Ah rc.hdr.length ch, .slice Ad rc.dat.length cd, .int .u64 0, .int .i64 rc.ts, .int .i64 0, .bool true, u8, u9, u10, u11, u12, u13, u14, u15, .nilIface, s17, s18, u19, u20, u21, u22, u23, u24, u25, u26, u27, u28, u29, u30, u31, u32, u33, u34, u35, u36, u37, u38, u39, u40, u41, u42, u43, u44, u45, u46, u47, u48, u49, u50, u51, u52, u53, u54, u55, u56, u57, u58, u59, u60, u61, u62, u63, u64, u65, u66, u67, u68, u69, u70, u71, u72, u73, u74, u75, u76, u77, u78, u79, u80, u81, u82, u83, u84, u85, u86, u87, u88, u89, u90, u91, u92, u93, u94, u95, u96, u97, u98, u99, u100, u101, u102, u103, u104, u105, u106, u107, u108, u109, u110, u111, u112, u113, u114, u115, u116, u117, u118, u119, u120, u121, u122, u123, u124, u125, u126, u127, u128, u129, u130, u131, u132, u133, u134, u135, u136, u137, u138, u139, u140, u141, u142, u143, u144, u145, u146, u147, u148, u149, u150, u151, u152, u153, u154, u155, u156, u157, u158, u159, u160, u161, u162, u163, u164, u165, u166, u167, u168, u169, u170, u171, u172, u173, u174, u175, u176, u177, u178, u179, u180, u181, u182, u183, u184, u185, u186, u187, u188, u189, u190, u191, u192, u193, u194, u195, u196, u197, u198, u199, u200, u201, u202, u203, u204, u205, u206, u207, u208, u209, u210, u211, u212, u213, u214, u215, u216, u217, u218, u219, u220, u221, u222, u223, u224, u225, u226, u227, u228, u229, u230, u231, u232, u233, u234, u235, u236, u237, u238, u239, u240, u241, u242, u243, u244, u245, u246, u247, u248, u249, u250, u251, u252, u253, u254, u255, u256, u257, u258, u259, u260, u261, u262, u263, u264, u265, u266, u267, u268, u269, u270, u271, u272, u273, u274, u275, u276, u277, u278, u279, u280, u281, u282, u283, u284, u285, u286, u287, u288, u289, u290, u291, u292, u293, u294, u295, u296, u297, u298, u299, u300, u301, u302, u303, u304, u305, u306, u307, u308, u309, u310, u311, u312, u313, u314, u315, u316, u317, u318, u319, u320, u321, u322, u323, u324, u325, u326, u327, u328, u329, u330, u331, u332, u333, u334, u335, u336, u337, u338, u339, u340, u341, u342, u343, u344, u345, u346, u347, u348, u349, u350, u351, u352, u353, u354, u355, u356, u357, u358, u359, u360, u361, u362], []⟩ wx := by
  have hb := hk.blk S.hd (fun h => h)
  have c11 : wx.cell? ⟨ms, 11, none⟩ = some (.int .i64 (h.disc : Int)) := by rw [hb.cell]; rfl
  have c8 : wx.cell? ⟨ms, 8, none⟩ = some (.int .i64 (h.mm : Int)) := by rw [hb.cell]; rfl
  have c9 : wx.cell? ⟨ms, 9, none⟩ = some (.int .i64 0) := by rw [hb.cell]; rfl
  have c14 : wx.cell? ⟨ms, 14, none⟩ = some (.int .u64 (h.cnt : Int)) := by rw [hb.cell]; rfl
  have hmm1 := S.mpb.2
  rw [hdc] at c11
  have c11 : wx.cell? ⟨ms, 11, none⟩ = some (.int .i64 0) := c11
  have PK := Lib.hid (And.intro S (And.intro hk (And.intro hnr (And.intro hh hdt))))
  clear hh hdt hk hb hnr S
  refine wp_seq_of (show sT 5 = .seq (sH 5) (sT 6) from rfl) fun K hK => ?_
  conv => arg 2; whnf
  go_wp2_with fail
  have KQ : Keep NoB wx wx := Keep.refl NoB wx
  obtain ⟨S, hk, hnr, hh, hdt⟩ := PK.out
  rcases Nat.eq_zero_or_pos h.cnt with hc | hc
  · exact st6f S hok hn (hk.none_trans KQ) hnr (hh.keep KQ (fun _ _ _ h => h)) (hdt.keep KQ (fun _ _ _ h => h)) hc h14
  · exact st6n S hok hn (hk.none_trans KQ) hnr (hh.keep KQ (fun _ _ _ h => h)) (hdt.keep KQ (fun _ _ _ h => h)) hc h14

set_option maxHeartbeats 4000000 in
set_option maxRecDepth 1000000 in
theorem st5r {R : Ending → World → Prop} {ms : Nat} {rc : Rec} {Ah Ad : Option Addr} {ch cd : Nat} {u8 u9 u10 u11 u12 u13 u14 u15 u19 u20 u21 u22 u23 u24 u25 u26 u27 u28 u29 u30 u31 u32 u33 u34 u35 u36 u37 u38 u39 u40 u41 u42 u43 u44 u45 u46 u47 u48 u49 u50 u51 u52 u53 u54 u55 u56 u57 u58 u59 u60 u61 u62 u63 u64 u65 u66 u67 u68 u69 u70 u71 u72 u73 u74 u75 u76 u77 u78 u79 u80 u81 u82 u83 u84 u85 u86 u87 u88 u89 u90 u91 u92 u93 u94 u95 u96 u97 u98 u99 u100 u101 u102 u103 u104 u105 u106 u107 u108 u109 u110 u111 u112 u113 u114 u115 u116 u117 u118 u119 u120 u121 u122 u123 u124 u125 u126 u127 u128 u129 u130 u131 u132 u133 u134 u135 u136 u137 u138 u139 u140 u141 u142 u143 u144 u145 u146 u147 u148 u149 u150 u151 u152 u153 u154 u155 u156 u157 u158 u159 u160 u161 u162 u163 u164 u165 u166 u167 u168 u169 u170 u171 u172 u173 u174 u175 u176 u177 u178 u179 u180 u181 u182 u183 u184 u185 u186 u187 u188 u189 u190 u191 u192 u193 u194 u195 u196 u197 u198 u199 u200 u201 u202 u203 u204 u205 u206 u207 u208 u209 u210 u211 u212 u213 u214 u215 u216 u217 u218 u219 u220 u221 u222 u223 u224 u225 u226 u227 u228 u229 u230 u231 u232 u233 u234 u235 u236 u237 u238 u239 u240 u241 u242 u243 u244 u245 u246 u247 u248 u249 u250 u251 u252 u253 u254 u255 u256 u257 u258 u259 u260 u261 u262 u263 u264 u265 u266 u267 u268 u269 u270 u271 u272 u273 u274 u275 u276 u277 u278 u279 u280 u281 u282 u283 u284 u285 u286 u287 u288 u289 u290 u291 u292 u293 u294 u295 u296 u297 u298 u299 u300 u301 u302 u303 u304 u305 u306 u307 u308 u309 u310 u311 u312 u313 u314 u315 u316 u317 u318 u319 u320 u321 u322 u323 u324 u325 u326 u327 u328 u329 u330 u331 u332 u333 u334 u335 u336 u337 u338 u339 u340 u341 u342 u343 u344 u345 u346 u347 u348 u349 u350 u351 u352 u353 u354 u355 u356 u357 u358 u359 u360 u361 u362 : Value} {w wx : World} {h : Hd} {its : List Item} {M : List Ent} {F : List Nat} (S : StoreAt w ms h its M F) (hok : rc.Ok) (hn : h.n < 30) {s17 : Value} {t5 : TypeId} {v5 : Value} (hk : Keep NoB w wx) (g5 : w.cell? ⟨5, 0, none⟩ = some (.iface t5 v5)) (hdc : h.disc = 1) (hm0 : 0 < h.mm) (hfull : h.mm ≤ h.cnt) (hR : ∀ q, R (.returned (.iface t5 v5)) (wx.drewN q))  :
    Code.wp Tryz.prog (sT 5) (bodyPost Tryz.prog Tryz.f61 R) ⟨#[.pointer (some ⟨ms, 0, none⟩), str rc.subj, .slice Ah rc.hdr.length ch, .slice Ad rc.dat.length cd, .int .u64 0, .int .i64 rc.ts, .int .i64 0, .bool true, u8, u9, u10, u11, u12, u13, u14, u15, .nilIface, s17, .bool false, u19, u20, u21, u22, u23, u24, u25, u26, u27, u28, u29, u30, u31, u32, u33, u34, u35, u36, u37, u38, u39, u40, u41, u42, u43, u44, u45, u46, u47, u48, u49, u50, u51, u52, u53, u54, u55, u56, u57, u58, u59, u60, u61, u62, u63, u64, u65, u66, u67, u68, u69, u70, u71, u72, u73, u74, u75, u76, u77, u78, u79, u80, u81, u82, u83, u84, u85, u86, u87, u88, u89, u90, u91, u92, u93, u94, u95, u96, u97, u98, u99, u100, u101, u102, u103, u104, u105, u106, u107, u108, u109, u110, u111, u112, u113, u114, u115, u116, u117, u118, u119, u120, u121, u122, u123, u124, u125, u126, u127, u128, u129, u130, u131, u132, u133, u134, u135, u136, u137, u138, u139, u140, u141, u142, u143, u144, u145, u146, u147, u148, u149, u150, u151, u152, u153, u154, u155, u156, u157, u158, u159, u160, u161, u162, u163, u164, u165, u166, u167, u168, u169, u170, u171, u172, u173, u174, u175, u176, u177, u178, u179, u180, u181, u182, u183, u184, u185, u186, u187, u188, u189, u190, u191, u192, u193, u194, u195, u196, u197, u198, u199, u200, u201, u202, u203, u204, u205, u206, u207, u208, u209, u210, u211, u212, u213, u214, u215, u216, u217, u218, u219, u220, u221, u222, u223, u224, u225, u226, u227, u228, u229, u230, u231, u232, u233, u234, u235, u236, u237, u238, u239, u240, u241, u242, u243, u244, u245, u246, u247, u248, u249, u250, u251, u252, u253, u254, u255, u256, u257, u258, u259, u260, u261, u262, u263, u264, u265, u266, u267, u268, u269, u270, u271, u272, u273, u274, u275, u276, u277, u278, u279, u280, u281, u282, u283, u284, u285, u286, u287, u288, u289, u290, u291, u292, u293, u294, u295, u296, u297, u298, u299, u300, u301, u302, u303, u304, u305, u306, u307, u308, u309, u310, u311, u312, u313, u314, u315, u316, u317, u318, u319, u320, u321, u322, u323, u324, u325, u326, u327, u328, u329, u330, u331, u332, u333, u334, u335, u336, u337, u338, u339, u340, u341, u342, u343, u344, u345, u346, u347, u348, u349, u350, u351, u352, u353, u354, u355, u356, u357, u358, u359, u360, u361, u362], []⟩ wx := by
  have hb := hk.blk S.hd (fun h => h)
  have c11 : wx.cell? ⟨ms, 11, none⟩ = some (.int .i64 (h.disc : Int)) := by rw [hb.cell]; rfl
  have c8 : wx.cell? ⟨ms, 8, none⟩ = some (.int .i64 (h.mm : Int)) := by rw [hb.cell]; rfl
  have c9 : wx.cell? ⟨ms, 9, none⟩ = some (.int .i64 0) := by rw [hb.cell]; rfl
  have c14 : wx.cell? ⟨ms, 14, none⟩ = some (.int .u64 (h.cnt : Int)) := by rw [hb.cell]; rfl
  have hmm1 := S.mpb.2
  rw [hdc] at c11
  have c11 : wx.cell? ⟨ms, 11, none⟩ = some (.int .i64 1) := c11
  have hg := hk.cellS g5 (fun h => h)
  have HR := Lib.hid hR
  clear hR hk hb S
  have hmm2 : (0 : Int) < (h.mm : Int) := by omega
  have hle : (h.mm : Int) ≤ (h.cnt : Int) := by omega
  refine wp_seq_of (show sT 5 = .seq (sH 5) (sT 6) from rfl) fun K hK => ?_
  conv => arg 2; whnf
  go_wp2_with fail
  go_quiet (fail)
  go_wp2_with fail
  exact HR.out _

set_option maxHeartbeats 4000000 in
set_option maxRecDepth 1000000 in
theorem st5a {R : Ending → World → Prop} {ms : Nat} {rc : Rec} {Ah Ad : Option Addr} {ch cd : Nat} {u8 u9 u10 u11 u12 u13 u14 u15 u19 u20 u21 u22 u23 u24 u25 u26 u27 u28 u29 u30 u31 u32 u33 u34 u35 u36 u37 u38 u39 u40 u41 u42 u43 u44 u45 u46 u47 u48 u49 u50 u51 u52 u53 u54 u55 u56 u57 u58 u59 u60 u61 u62 u63 u64 u65 u66 u67 u68 u69 u70 u71 u72 u73 u74 u75 u76 u77 u78 u79 u80 u81 u82 u83 u84 u85 u86 u87 u88 u89 u90 u91 u92 u93 u94 u95 u96 u97 u98 u99 u100 u101 u102 u103 u104 u105 u106 u107 u108 u109 u110 u111 u112 u113 u114 u115 u116 u117 u118 u119 u120 u121 u122 u123 u124 u125 u126 u127 u128 u129 u130 u131 u132 u133 u134 u135 u136 u137 u138 u139 u140 u141 u142 u143 u144 u145 u146 u147 u148 u149 u150 u151 u152 u153 u154 u155 u156 u157 u158 u159 u160 u161 u162 u163 u164 u165 u166 u167 u168 u169 u170 u171 u172 u173 u174 u175 u176 u177 u178 u179 u180 u181 u182 u183 u184 u185 u186 u187 u188 u189 u190 u191 u192 u193 u194 u195 u196 u197 u198 u199 u200 u201 u202 u203 u204 u205 u206 u207 u208 u209 u210 u211 u212 u213 u214 u215 u216 u217 u218 u219 u220 u221 u222 u223 u224 u225 u226 u227 u228 u229 u230 u231 u232 u233 u234 u235 u236 u237 u238 u239 u240 u241 u242 u243 u244 u245 u246 u247 u248 u249 u250 u251 u252 u253 u254 u255 u256 u257 u258 u259 u260 u261 u262 u263 u264 u265 u266 u267 u268 u269 u270 u271 u272 u273 u274 u275 u276 u277 u278 u279 u280 u281 u282 u283 u284 u285 u286 u287 u288 u289 u290 u291 u292 u293 u294 u295 u296 u297 u298 u299 u300 u301 u302 u303 u304 u305 u306 u307 u308 u309 u310 u311 u312 u313 u314 u315 u316 u317 u318 u319 u320 u321 u322 u323 u324 u325 u326 u327 u328 u329 u330 u331 u332 u333 u334 u335 u336 u337 u338 u339 u340 u341 u342 u343 u344 u345 u346 u347 u348 u349 u350 u351 u352 u353 u354 u355 u356 u357 u358 u359 u360 u361 u362 : Value} {w wx : World} {h : Hd} {its : List Item} {M : List Ent} {F : List Nat} (S : StoreAt w ms h its M F) (hok : rc.Ok) (hn : h.n < 30) {s17 : Value} (hk : Keep NoB w wx) (hnr : ∀ k, blkOf Ah k ∨ blkOf Ad k → ¬ Mut ms h F k) (hh : RowAt wx 1 Ah rc.hdr.length (rc.hdr.map byteV)) (hdt : RowAt wx 1 Ad rc.dat.length (rc.dat.map byteV)) (hdc : h.disc = 1) (hm0 : 0 < h.mm) (hroom : h.cnt < h.mm) (h14 : Cont14 R w ms h its M F rc Ah Ad ch cd s17)  :
    Code.wp Tryz.prog (sT 5) (bodyPost Tryz.prog Tryz.f61 R) ⟨#[.pointer (some ⟨ms, 0, none⟩), str rc.subj, .slice Ah rc.hdr.length ch, .slice Ad rc.dat.length cd, .int .u64 0, .int .i64 rc.ts, .int .i64 0, .bool true, u8, u9, u10, u11, u12, u13, u14, u15, .nilIface, s17, .bool false, u19, u20, u21, u22, u23, u24, u25, u26, u27, u28, u29, u30, u31, u32, u33, u34, u35, u36, u37, u38, u39, u40, u41, u42, u43, u44, u45, u46, u47, u48, u49, u50, u51, u52, u53, u54, u55, u56, u57, u58, u59, u60, u61, u62, u63, u64, u65, u66, u67, u68, u69, u70, u71, u72, u73, u74, u75, u76, u77, u78, u79, u80, u81, u82, u83, u84, u85, u86, u87, u88, u89, u90, u91, u92, u93, u94, u95, u96, u97, u98, u99, u100, u101, u102, u103, u104, u105, u106, u107, u108, u109, u110, u111, u112, u113, u114, u115, u116, u117, u118, u119, u120, u121, u122, u123, u124, u125, u126, u127, u128, u129, u130, u131, u132, u133, u134, u135, u136, u137, u138, u139, u140, u141, u142, u143, u144, u145, u146, u147, u148, u149, u150, u151, u152, u153, u154, u155, u156, u157, u158, u159, u160, u161, u162, u163, u164, u165, u166, u167, u168, u169, u170, u171, u172, u173, u174, u175, u176, u177, u178, u179, u180, u181, u182, u183, u184, u185, u186, u187, u188, u189, u190, u191, u192, u193, u194, u195, u196, u197, u198, u199, u200, u201, u202, u203, u204, u205, u206, u207, u208, u209, u210, u211, u212, u213, u214, u215, u216, u217, u218, u219, u220, u221, u222, u223, u224, u225, u226, u227, u228, u229, u230, u231, u232, u233, u234, u235, u236, u237, u238, u239, u240, u241, u242, u243, u244, u245, u246, u247, u248, u249, u250, u251, u252, u253, u254, u255, u256, u257, u258, u259, u260, u261, u262, u263, u264, u265, u266, u267, u268, u269, u270, u271, u272, u273, u274, u275, u276, u277, u278, u279, u280, u281, u282, u283, u284, u285, u286, u287, u288, u289, u290, u291, u292, u293, u294, u295, u296, u297, u298, u299, u300, u301, u302, u303, u304, u305, u306, u307, u308, u309, u310, u311, u312, u313, u314, u315, u316, u317, u318, u319, u320, u321, u322, u323, u324, u325, u326, u327, u328, u329, u330, u331, u332, u333, u334, u335, u336, u337, u338, u339, u340, u341, u342, u343, u344, u345, u346, u347, u348, u349, u350, u351, u352, u353, u354, u355, u356, u357, u358, u359, u360, u361, u362], []⟩ wx := by
  have hb := hk.blk S.hd (fun h => h)
  have c11 : wx.cell? ⟨ms, 11, none⟩ = some (.int .i64 (h.disc : Int)) := by rw [hb.cell]; rfl
  have c8 : wx.cell? ⟨ms, 8, none⟩ = some (.int .i64 (h.mm : Int)) := by rw [hb.cell]; rfl
  have c9 : wx.cell? ⟨ms, 9, none⟩ = some (.int .i64 0) := by rw [hb.cell]; rfl
  have c14 : wx.cell? ⟨ms, 14, none⟩ = some (.int .u64 (h.cnt : Int)) := by rw [hb.cell]; rfl
  have hmm1 := S.mpb.2
  rw [hdc] at c11
  have c11 : wx.cell? ⟨ms, 11, none⟩ = some (.int .i64 1) := c11
  have PK := Lib.hid (And.intro S (And.intro hk (And.intro hnr (And.intro hh hdt))))
  clear hh hdt hk hb hnr S
  have hmm2 : (0 : Int) < (h.mm : Int) := by omega
  have hle : (h.cnt : Int) < (h.mm : Int) := by omega
  refine wp_seq_of (show sT 5 = .seq (sH 5) (sT 6) from rfl) fun K hK => ?_
  conv => arg 2; whnf
  go_wp2_with fail
  go_quiet (fail)
  go_wp2_with fail
  go_quiet (fail)
  go_wp2_with fail
  rename_i q1 hx1
  have KQ : Keep NoB wx ((wx.drewN q1).drewN nq) := ((Keep.refl NoB wx).drewN q1).drewN nq
  obtain ⟨S, hk, hnr, hh, hdt⟩ := PK.out
  rcases Nat.eq_zero_or_pos h.cnt with hc | hc
  · exact st6f S hok hn (hk.none_trans KQ) hnr (hh.keep KQ (fun _ _ _ h => h)) (hdt.keep KQ (fun _ _ _ h => h)) hc h14
  · exact st6n S hok hn (hk.none_trans KQ) hnr (hh.keep KQ (fun _ _ _ h => h)) (hdt.keep KQ (fun _ _ _ h => h)) hc h14


end Go.Proofs.YtmblkpjnafgplaaGreatDoor

namespace Go.Proofs.YtmblkpjnafgplaaGreatDoor
open Go Go.RowKit
set_option maxRecDepth 100000
set_option linter.unusedVariables false
set_option linter.unusedSimpArgs false

set_option maxHeartbeats 4000000 in
set_option maxRecDepth 1000000 in
theorem st19z {R : Ending → World → Prop} {ms : Nat} {rc : Rec} {Ah Ad : Option Addr} {ch cd : Nat} {u8 u9 u10 u11 u12 u13 u14 u15 u18 u19 u20 u21 u22 u23 u24 u25 u26 u27 u28 u29 u30 u31 u32 u33 u34 u35 u36 u37 u38 u39 u40 u41 u42 u43 u44 u45 u46 u47 u48 u49 u50 u51 u52 u53 u54 u55 u56 u57 u58 u59 u60 u61 u62 u63 u64 u65 u66 u67 u68 u69 u70 u71 u72 u73 u74 u75 u76 u77 u78 u79 u80 u81 u82 u83 u84 u85 u86 u87 u88 u89 u90 u91 u92 u93 u94 u95 u96 u97 u98 u99 u100 u101 u102 u103 u104 u105 u106 u107 u108 u109 u110 u111 u112 u113 u114 u115 u116 u117 u118 u119 u120 u121 u122 u123 u124 u125 u126 u127 u128 u129 u130 u131 u132 u133 u134 u135 u136 u137 u138 u139 u140 u141 u142 u143 u144 u145 u146 u147 u148 u149 u150 u151 u152 u153 u154 u155 u156 u157 u158 u159 u160 u161 u162 u163 u164 u165 u166 u167 u168 u169 u170 u171 u172 u173 u174 u175 u176 u177 u178 u179 u180 u181 u182 u183 u184 u185 u186 u187 u188 u189 u190 u191 u192 u193 u194 u195 u196 u197 u198 u199 u200 u201 u202 u203 u204 u205 u206 u207 u208 u209 u210 u211 u212 u213 u214 u215 u216 u217 u218 u219 u220 u221 u222 u223 u224 u225 u226 u227 u228 u229 u230 u231 u232 u233 u234 u235 u236 u237 u238 u239 u240 u241 u242 u243 u244 u245 u246 u247 u248 u249 u250 u251 u252 u253 u254 u255 u256 u257 u258 u259 u260 u261 u262 u263 u264 u265 u266 u267 u268 u269 u270 u271 u272 u273 u274 u275 u276 u277 u278 u279 u280 u281 u282 u283 u284 u285 u286 u287 u288 u289 u290 u291 u292 u293 u294 u295 u296 u297 u298 u299 u300 u301 u302 u303 u304 u305 u306 u307 u308 u309 u310 u311 u312 u313 u314 u315 u316 u317 u318 u319 u320 u321 u322 u323 u324 u325 u326 u327 u328 u329 u330 u331 u332 u333 u334 u335 u336 u337 u338 u339 u340 u341 u342 u343 u344 u345 u346 u347 u348 u349 u350 u351 u352 u353 u354 u355 u356 u357 u358 u359 u360 u361 u362 : Value} {w wx : World} {h h2 : Hd} {its : List Item} {M : List Ent} {F : List Nat} {b : Nat} (m : Mid w wx ms h its M F rc h2 b) (S : StoreAt w ms h its M F) (hok : rc.Ok) (hn : h.n < 30) (hl : Lim h its) {b0 : Nat} (hM : (rc.subj, b0) ∈ M) (h0 : h.mp = 0) (hw : h.mp = 0 ∨ (seqs its rc.subj).length + 1 ≤ h.mp) (hR : ∀ w', Stored w w' ms h its M F rc → R (.returned .nilIface) w') :
    Code.wp Tryz.prog (sT 19) (bodyPost Tryz.prog Tryz.f61 R) ⟨#[.pointer (some ⟨ms, 0, none⟩), str rc.subj, .slice Ah rc.hdr.length ch, .slice Ad rc.dat.length cd, .int .u64 ((h.n + 1 : Nat) : Int), .int .i64 rc.ts, .int .i64 0, .bool true, u8, u9, u10, u11, u12, u13, u14, u15, .nilIface, .pointer (some ⟨b0, 0, none⟩), u18, u19, u20, u21, u22, u23, u24, u25, u26, u27, u28, u29, u30, u31, u32, u33, u34, u35, u36, u37, u38, u39, u40, u41, u42, u43, u44, u45, u46, u47, u48, u49, u50, u51, u52, u53, u54, u55, u56, u57, u58, u59, u60, u61, u62, u63, u64, u65, u66, u67, u68, u69, u70, u71, u72, u73, u74, u75, u76, u77, u78, u79, u80, u81, u82, u83, u84, u85, u86, u87, u88, u89, u90, u91, u92, u93, u94, u95, u96, u97, u98, u99, u100, u101, u102, u103, u104, u105, u106, u107, u108, u109, u110, u111, u112, u113, u114, u115, u116, u117, u118, u119, u120, u121, u122, u123, u124, u125, u126, u127, u128, u129, u130, u131, u132, u133, u134, u135, u136, u137, u138, u139, u140, u141, u142, u143, u144, u145, u146, u147, u148, u149, u150, u151, u152, u153, u154, u155, u156, u157, u158, u159, u160, u161, u162, u163, u164, u165, u166, u167, u168, u169, u170, u171, u172, u173, u174, u175, u176, u177, u178, u179, u180, u181, u182, u183, u184, u185, u186, u187, u188, u189, u190, u191, u192, u193, u194, u195, u196, u197, u198, u199, u200, u201, u202, u203, u204, u205, u206, u207, u208, u209, u210, u211, u212, u213, u214, u215, u216, u217, u218, u219, u220, u221, u222, u223, u224, u225, u226, u227, u228, u229, u230, u231, u232, u233, u234, u235, u236, u237, u238, u239, u240, u241, u242, u243, u244, u245, u246, u247, u248, u249, u250, u251, u252, u253, u254, u255, u256, u257, u258, u259, u260, u261, u262, u263, u264, u265, u266, u267, u268, u269, u270, u271, u272, u273, u274, u275, u276, u277, u278, u279, u280, u281, u282, u283, u284, u285, u286, u287, u288, u289, u290, u291, u292, u293, u294, u295, u296, u297, u298, u299, u300, u301, u302, u303, u304, u305, u306, u307, u308, u309, u310, u311, u312, u313, u314, u315, u316, u317, u318, u319, u320, u321, u322, u323, u324, u325, u326, u327, u328, u329, u330, u331, u332, u333, u334, u335, u336, u337, u338, u339, u340, u341, u342, u343, u344, u345, u346, u347, u348, u349, u350, u351, u352, u353, u354, u355, u356, u357, u358, u359, u360, u361, u362], []⟩ wx := by
  have hlen : (0 : Int) < rc.subj.length := by have := List.length_pos_iff.2 hok.s0; omega
  have hlb : ByteArray.size ⟨rc.subj.toArray⟩ = rc.subj.length := by simp [ByteArray.size]
  have hkF : ∀ k, (k = ms ∨ k = h.r) → k ∉ F := fun k hx hF => hx.elim (fun e => S.dis1.1 (e ▸ hF)) (fun e => S.dis1.2 (e ▸ hF))
  obtain ⟨hbF, C, hbw, hz⟩ := S.tree.mem _ hM
  have hb := m.keep.blk hbw (fun hx => hkF _ hx hbF)
  obtain ⟨fs, ls, fn, _, _, _, _, _, s0, s1, s2, s3, s4⟩ := (S.sub _ hM).keep m.keep (fun hx => hkF _ hx hbF)
  have hL30 : (seqs its rc.subj).length ≤ 30 := by have h1 := S.len; have h2 : (seqs its rc.subj).length ≤ its.length := by unfold seqs; rw [List.length_map]; exact List.length_filter_le _ _
                                                   omega
  have HB := Lib.hid hb
  have c31 : wx.cell? ⟨ms, 31, none⟩ = some (.int .i64 (h.mp : Int)) := by rw [m.hd.cell, ← m.next.mp]; rfl
  have hbne : ms ≠ b0 := fun e => S.dis1.1 (e ▸ hbF)
  have e0 := s0
  simp only at s0 s1 s2 s3 s4
  have f0 := hb.frozen 0
  have f2 := hb.frozen 2
  have f4 := hb.frozen 4
  simp only at f0 f2 f4
  have hfin : ∀ q, R (.returned .nilIface) ((((wx.setCell ⟨b0, 0, none⟩ (.int .u64 (((seqs its rc.subj).length + 1 : Nat) : Int))).setCell ⟨b0, 2, none⟩ (.int .u64 ((h.n + 1 : Nat) : Int))).setCell ⟨b0, 4, none⟩ (.bool false)).drewN q) := by
    intro q
    have hb3 := ((HB.out.set_ 0 (.int .u64 (((seqs its rc.subj).length + 1 : Nat) : Int))).set_ 2 (.int .u64 ((h.n + 1 : Nat) : Int))).set_ 4 (.bool false)
    have hk3 := (((keep1 wx b0 0 (.int .u64 (((seqs its rc.subj).length + 1 : Nat) : Int))).put rfl 2 (.int .u64 ((h.n + 1 : Nat) : Int))).put rfl 4 (.bool false)).drewN q
    have hS := m.found S hok hn hM hk3 HB.out hb3 (by simp) (by simp [hz]) (by simp) (by simp [hz]) (by simp) (by simp [hz]) (by simp)
    exact hR _ (.of_within hS m.next hl hw (fun k hk => .inl hk) (m.keepM.trans hk3 (fun k _ hx => .inr (.inr (.inr (.inl (hx ▸ hbF)))))))
  have hd20 : ∀ q, Blk ((((wx.setCell ⟨b0, 0, none⟩ (.int .u64 (((seqs its rc.subj).length + 1 : Nat) : Int))).setCell ⟨b0, 2, none⟩ (.int .u64 ((h.n + 1 : Nat) : Int))).setCell ⟨b0, 4, none⟩ (.bool false)).drewN q) ms 87 h2.cells :=
    fun q => ((((keep1 wx b0 0 _).put rfl 2 _).put rfl 4 _).drewN q).blk m.hd hbne
  have hdisc : (h2.disc = 0 ∧ h2.mm = 0) ∨ h2.disc = 1 := by rw [m.next.disc, m.next.mm]; exact S.disc.imp id (fun h => h.1)
  have HFIN := Lib.hid (And.intro hfin (And.intro hd20 hdisc))
  clear hfin hd20 hdisc hR hb hbw e0
  generalize (seqs its rc.subj).length = L at *
  have c31 : wx.cell? ⟨ms, 31, none⟩ = some (.int .i64 0) := by rw [h0] at c31; exact c31
  refine wp_seq_of (show sT 19 = .seq (sH 19) (sT 20) from rfl) fun K hK => ?_
  conv => arg 2; whnf
  go_wp2_with fail
  go_quiet (fail)
  go_wp2_with fail
  refine st20 (HFIN.out.2.1 _) HFIN.out.2.2 (fun q => ?_)
  rw [World.drewN_drewN]
  exact HFIN.out.1 _

set_option maxHeartbeats 4000000 in
set_option maxRecDepth 1000000 in
theorem st19p {R : Ending → World → Prop} {ms : Nat} {rc : Rec} {Ah Ad : Option Addr} {ch cd : Nat} {u8 u9 u10 u11 u12 u13 u14 u15 u18 u19 u20 u21 u22 u23 u24 u25 u26 u27 u28 u29 u30 u31 u32 u33 u34 u35 u36 u37 u38 u39 u40 u41 u42 u43 u44 u45 u46 u47 u48 u49 u50 u51 u52 u53 u54 u55 u56 u57 u58 u59 u60 u61 u62 u63 u64 u65 u66 u67 u68 u69 u70 u71 u72 u73 u74 u75 u76 u77 u78 u79 u80 u81 u82 u83 u84 u85 u86 u87 u88 u89 u90 u91 u92 u93 u94 u95 u96 u97 u98 u99 u100 u101 u102 u103 u104 u105 u106 u107 u108 u109 u110 u111 u112 u113 u114 u115 u116 u117 u118 u119 u120 u121 u122 u123 u124 u125 u126 u127 u128 u129 u130 u131 u132 u133 u134 u135 u136 u137 u138 u139 u140 u141 u142 u143 u144 u145 u146 u147 u148 u149 u150 u151 u152 u153 u154 u155 u156 u157 u158 u159 u160 u161 u162 u163 u164 u165 u166 u167 u168 u169 u170 u171 u172 u173 u174 u175 u176 u177 u178 u179 u180 u181 u182 u183 u184 u185 u186 u187 u188 u189 u190 u191 u192 u193 u194 u195 u196 u197 u198 u199 u200 u201 u202 u203 u204 u205 u206 u207 u208 u209 u210 u211 u212 u213 u214 u215 u216 u217 u218 u219 u220 u221 u222 u223 u224 u225 u226 u227 u228 u229 u230 u231 u232 u233 u234 u235 u236 u237 u238 u239 u240 u241 u242 u243 u244 u245 u246 u247 u248 u249 u250 u251 u252 u253 u254 u255 u256 u257 u258 u259 u260 u261 u262 u263 u264 u265 u266 u267 u268 u269 u270 u271 u272 u273 u274 u275 u276 u277 u278 u279 u280 u281 u282 u283 u284 u285 u286 u287 u288 u289 u290 u291 u292 u293 u294 u295 u296 u297 u298 u299 u300 u301 u302 u303 u304 u305 u306 u307 u308 u309 u310 u311 u312 u313 u314 u315 u316 u317 u318 u319 u320 u321 u322 u323 u324 u325 u326 u327 u328 u329 u330 u331 u332 u333 u334 u335 u336 u337 u338 u339 u340 u341 u342 u343 u344 u345 u346 u347 u348 u349 u350 u351 u352 u353 u354 u355 u356 u357 u358 u359 u360 u361 u362 : Value} {w wx : World} {h h2 : Hd} {its : List Item} {M : List Ent} {F : List Nat} {b : Nat} (m : Mid w wx ms h its M F rc h2 b) (S : StoreAt w ms h its M F) (hok : rc.Ok) (hn : h.n < 30) (hl : Lim h its) {b0 : Nat} (hM : (rc.subj, b0) ∈ M) (h0 : 0 < h.mp) (hw : h.mp = 0 ∨ (seqs its rc.subj).length + 1 ≤ h.mp) (hR : ∀ w', Stored w w' ms h its M F rc → R (.returned .nilIface) w') :
    Code.wp Tryz.prog (sT 19) (bodyPost Tryz.prog Tryz.f61 R) ⟨#[.pointer (some ⟨ms, 0, none⟩), str rc.subj, .slice Ah rc.hdr.length ch, .slice Ad rc.dat.length cd, .int .u64 ((h.n + 1 : Nat) : Int), .int .i64 rc.ts, .int .i64 0, .bool true, u8, u9, u10, u11, u12, u13, u14, u15, .nilIface, .pointer (some ⟨b0, 0, none⟩), u18, u19, u20, u21, u22, u23, u24, u25, u26, u27, u28, u29, u30, u31, u32, u33, u34, u35, u36, u37, u38, u39, u40, u41, u42, u43, u44, u45, u46, u47, u48, u49, u50, u51, u52, u53, u54, u55, u56, u57, u58, u59, u60, u61, u62, u63, u64, u65, u66, u67, u68, u69, u70, u71, u72, u73, u74, u75, u76, u77, u78, u79, u80, u81, u82, u83, u84, u85, u86, u87, u88, u89, u90, u91, u92, u93, u94, u95, u96, u97, u98, u99, u100, u101, u102, u103, u104, u105, u106, u107, u108, u109, u110, u111, u112, u113, u114, u115, u116, u117, u118, u119, u120, u121, u122, u123, u124, u125, u126, u127, u128, u129, u130, u131, u132, u133, u134, u135, u136, u137, u138, u139, u140, u141, u142, u143, u144, u145, u146, u147, u148, u149, u150, u151, u152, u153, u154, u155, u156, u157, u158, u159, u160, u161, u162, u163, u164, u165, u166, u167, u168, u169, u170, u171, u172, u173, u174, u175, u176, u177, u178, u179, u180, u181, u182, u183, u184, u185, u186, u187, u188, u189, u190, u191, u192, u193, u194, u195, u196, u197, u198, u199, u200, u201, u202, u203, u204, u205, u206, u207, u208, u209, u210, u211, u212, u213, u214, u215, u216, u217, u218, u219, u220, u221, u222, u223, u224, u225, u226, u227, u228, u229, u230, u231, u232, u233, u234, u235, u236, u237, u238, u239, u240, u241, u242, u243, u244, u245, u246, u247, u248, u249, u250, u251, u252, u253, u254, u255, u256, u257, u258, u259, u260, u261, u262, u263, u264, u265, u266, u267, u268, u269, u270, u271, u272, u273, u274, u275, u276, u277, u278, u279, u280, u281, u282, u283, u284, u285, u286, u287, u288, u289, u290, u291, u292, u293, u294, u295, u296, u297, u298, u299, u300, u301, u302, u303, u304, u305, u306, u307, u308, u309, u310, u311, u312, u313, u314, u315, u316, u317, u318, u319, u320, u321, u322, u323, u324, u325, u326, u327, u328, u329, u330, u331, u332, u333, u334, u335, u336, u337, u338, u339, u340, u341, u342, u343, u344, u345, u346, u347, u348, u349, u350, u351, u352, u353, u354, u355, u356, u357, u358, u359, u360, u361, u362], []⟩ wx := by
  have hlen : (0 : Int) < rc.subj.length := by have := List.length_pos_iff.2 hok.s0; omega
  have hlb : ByteArray.size ⟨rc.subj.toArray⟩ = rc.subj.length := by simp [ByteArray.size]
  have hkF : ∀ k, (k = ms ∨ k = h.r) → k ∉ F := fun k hx hF => hx.elim (fun e => S.dis1.1 (e ▸ hF)) (fun e => S.dis1.2 (e ▸ hF))
  obtain ⟨hbF, C, hbw, hz⟩ := S.tree.mem _ hM
  have hb := m.keep.blk hbw (fun hx => hkF _ hx hbF)
  obtain ⟨fs, ls, fn, _, _, _, _, _, s0, s1, s2, s3, s4⟩ := (S.sub _ hM).keep m.keep (fun hx => hkF _ hx hbF)
  have hL30 : (seqs its rc.subj).length ≤ 30 := by have h1 := S.len; have h2 : (seqs its rc.subj).length ≤ its.length := by unfold seqs; rw [List.length_map]; exact List.length_filter_le _ _
                                                   omega
  have HB := Lib.hid hb
  have c31 : wx.cell? ⟨ms, 31, none⟩ = some (.int .i64 (h.mp : Int)) := by rw [m.hd.cell, ← m.next.mp]; rfl
  have hbne : ms ≠ b0 := fun e => S.dis1.1 (e ▸ hbF)
  have e0 := s0
  simp only at s0 s1 s2 s3 s4
  have f0 := hb.frozen 0
  have f2 := hb.frozen 2
  have f4 := hb.frozen 4
  simp only at f0 f2 f4
  have hfin : ∀ q, R (.returned .nilIface) ((((wx.setCell ⟨b0, 0, none⟩ (.int .u64 (((seqs its rc.subj).length + 1 : Nat) : Int))).setCell ⟨b0, 2, none⟩ (.int .u64 ((h.n + 1 : Nat) : Int))).setCell ⟨b0, 4, none⟩ (.bool false)).drewN q) := by
    intro q
    have hb3 := ((HB.out.set_ 0 (.int .u64 (((seqs its rc.subj).length + 1 : Nat) : Int))).set_ 2 (.int .u64 ((h.n + 1 : Nat) : Int))).set_ 4 (.bool false)
    have hk3 := (((keep1 wx b0 0 (.int .u64 (((seqs its rc.subj).length + 1 : Nat) : Int))).put rfl 2 (.int .u64 ((h.n + 1 : Nat) : Int))).put rfl 4 (.bool false)).drewN q
    have hS := m.found S hok hn hM hk3 HB.out hb3 (by simp) (by simp [hz]) (by simp) (by simp [hz]) (by simp) (by simp [hz]) (by simp)
    exact hR _ (.of_within hS m.next hl hw (fun k hk => .inl hk) (m.keepM.trans hk3 (fun k _ hx => .inr (.inr (.inr (.inl (hx ▸ hbF)))))))
  have hd20 : ∀ q, Blk ((((wx.setCell ⟨b0, 0, none⟩ (.int .u64 (((seqs its rc.subj).length + 1 : Nat) : Int))).setCell ⟨b0, 2, none⟩ (.int .u64 ((h.n + 1 : Nat) : Int))).setCell ⟨b0, 4, none⟩ (.bool false)).drewN q) ms 87 h2.cells :=
    fun q => ((((keep1 wx b0 0 _).put rfl 2 _).put rfl 4 _).drewN q).blk m.hd hbne
  have hdisc : (h2.disc = 0 ∧ h2.mm = 0) ∨ h2.disc = 1 := by rw [m.next.disc, m.next.mm]; exact S.disc.imp id (fun h => h.1)
  have HFIN := Lib.hid (And.intro hfin (And.intro hd20 hdisc))
  clear hfin hd20 hdisc hR hb hbw e0
  generalize (seqs its rc.subj).length = L at *
  have hpos : (0 : Int) < (h.mp : Int) := by omega
  have hle : (L : Int) + 1 ≤ (h.mp : Int) := by omega
  have hmp := S.mpb
  refine wp_seq_of (show sT 19 = .seq (sH 19) (sT 20) from rfl) fun K hK => ?_
  conv => arg 2; whnf
  go_wp2_with fail
  go_quiet (fail)
  go_wp2_with fail
  refine st20 (HFIN.out.2.1 _) HFIN.out.2.2 (fun q => ?_)
  rw [World.drewN_drewN]
  exact HFIN.out.1 _


end Go.Proofs.YtmblkpjnafgplaaGreatDoor

namespace Go.Proofs.YtmblkpjnafgplaaGreatDoor
open Go Go.RowKit
set_option maxRecDepth 100000
set_option linter.unusedVariables false
set_option linter.unusedSimpArgs false

/-- what storeRawMsg leaves behind -/
def SPost (w : World) (ms : Nat) (h : Hd) (its : List Item) (M : List Ent) (F : List Nat) (rc : Rec) (e : Ending) (w' : World) : Prop :=
  (h.disc = 1 ∧ h.mm ≤ h.cnt ∧ (∃ t v, e = .returned (.iface t v)) ∧ Keep NoB w w') ∨ (¬ (h.disc = 1 ∧ h.mm ≤ h.cnt) ∧ e = .returned .nilIface ∧ Stored w w' ms h its M F rc)

set_option maxHeartbeats 4000000 in
set_option maxRecDepth 1000000 in
theorem storeRaw_of (w : World) (ms : Nat) (h : Hd) (its : List Item) (M : List Ent) (F : List Nat) (rc : Rec) (Ah Ad : Option Addr) (ch cd : Nat) (S : StoreAt w ms h its M F) (hok : rc.Ok) (hn : h.n < 30)
    (hh : RowAt w 1 Ah rc.hdr.length (rc.hdr.map byteV)) (hdt : RowAt w 1 Ad rc.dat.length (rc.dat.map byteV)) (hnr : ∀ k, blkOf Ah k ∨ blkOf Ad k → ¬ Mut ms h F k) (t5 : TypeId) (v5 : Value) (g5 : w.cell? ⟨5, 0, none⟩ = some (.iface t5 v5))
    (h19 : ∀ s17, ¬ (h.disc = 1 ∧ h.mm ≤ h.cnt) → Got M rc.subj s17 → Cont19 (SPost w ms h its M F rc) w ms h its M F rc Ah Ad ch cd s17) :
    Calls Tryz.prog 61 #[.pointer (some ⟨ms, 0, none⟩), str rc.subj, .slice Ah rc.hdr.length ch, .slice Ad rc.dat.length cd, .int .u64 0, .int .i64 rc.ts, .int .i64 0, .bool true] w (SPost w ms h its M F rc) := by
  have c25 : w.cell? ⟨ms, 25, none⟩ = some (.map (some h.r)) := by rw [S.hd.cell]; rfl
  have hmap := map_nil h.r
  have h5 : Cont5 (SPost w ms h its M F rc) w ms h M rc Ah Ad ch cd := by
    intro wy s17 s18
    intros
    rename_i hk hg hs
    have hh' := hh.keep hk (fun _ _ _ h => h)
    have hd' := hdt.keep hk (fun _ _ _ h => h)
    have h14 : ¬ (h.disc = 1 ∧ h.mm ≤ h.cnt) → Cont14 (SPost w ms h its M F rc) w ms h its M F rc Ah Ad ch cd s17 := by
      intro hrej wz
      intros
      rename_i h1 b m
      have h15 : Cont15 (SPost w ms h its M F rc) w ms h its M F rc Ah Ad ch cd s17 := by
        intro wz
        intros
        rename_i h1 b m
        exact st15 S hok hn m (h19 s17 hrej hg)
      exact st14 S hok hn m h15
    rcases S.disc with ⟨hd0, _⟩ | ⟨hd1, hm0⟩
    · exact st5o S hok hn hk hnr hh' hd' hd0 (h14 (fun hx => by omega))
    · obtain rfl := hs hd1
      by_cases hf : h.mm ≤ h.cnt
      · exact st5r S hok hn hk g5 hd1 hm0 hf (fun q => .inl ⟨hd1, hf, ⟨t5, v5, rfl⟩, hk.drewN q⟩)
      · exact st5a S hok hn hk hnr hh' hd' hd1 hm0 (by omega) (h14 (fun hx => hf hx.2))
  have SS := Lib.hid S
  clear S h19 hh hdt hnr
  go_enter Tryz.func61, Tryz.ntmps61
  change Code.wp _ (sT 0) _ _ _
  refine wp_seq_of (show sT 0 = .seq (sH 0) (sT 1) from rfl) fun K hK => ?_
  conv => arg 2; whnf
  go_wp2_with fail
  refine wp_seq_of (show sT 1 = .seq (sH 1) (sT 2) from rfl) fun K hK => ?_
  conv => arg 2; whnf
  go_wp2_with fail
  refine wp_seq_of (show sT 2 = .seq (sH 2) (sT 3) from rfl) fun K hK => ?_
  conv => arg 2; whnf
  go_wp2_with fail
  refine wp_seq_of (show sT 3 = .seq (sH 3) (sT 4) from rfl) fun K hK => ?_
  conv => arg 2; whnf
  go_wp2_with fail
  exact st4 SS.out hok h5

theorem storeRaw0 (w : World) (ms : Nat) (h : Hd) (its : List Item) (M : List Ent) (F : List Nat) (rc : Rec) (Ah Ad : Option Addr) (ch cd : Nat) (S : StoreAt w ms h its M F) (hok : rc.Ok) (hn : h.n < 30) (hl : Lim h its) (h0 : h.mp = 0)
    (hh : RowAt w 1 Ah rc.hdr.length (rc.hdr.map byteV)) (hdt : RowAt w 1 Ad rc.dat.length (rc.dat.map byteV)) (hnr : ∀ k, blkOf Ah k ∨ blkOf Ad k → ¬ Mut ms h F k) (t5 : TypeId) (v5 : Value) (g5 : w.cell? ⟨5, 0, none⟩ = some (.iface t5 v5)) :
    Calls Tryz.prog 61 #[.pointer (some ⟨ms, 0, none⟩), str rc.subj, .slice Ah rc.hdr.length ch, .slice Ad rc.dat.length cd, .int .u64 0, .int .i64 rc.ts, .int .i64 0, .bool true] w (SPost w ms h its M F rc) := by
  refine storeRaw_of w ms h its M F rc Ah Ad ch cd S hok hn hh hdt hnr t5 v5 g5 ?_
  intro s17 hrej hg wy
  intros
  rename_i h2 b m
  rcases hg with ⟨b0, hM, rfl⟩ | ⟨hM, rfl⟩
  · exact st19z m S hok hn hl hM h0 (.inl h0) (fun w' hs => .inr ⟨hrej, rfl, hs⟩)
  · exact st19n m S hok hn hl hM (fun w' hs => .inr ⟨hrej, rfl, hs⟩)

end Go.Proofs.YtmblkpjnafgplaaGreatDoor

namespace Go.Proofs.YtmblkpjnafgplaaGreatDoor
open Go Go.RowKit
set_option maxRecDepth 100000
set_option linter.unusedVariables false
set_option linter.unusedSimpArgs false

abbrev Hd.lk (h : Hd) : Hd := { h with l0 := 1, l4 := -1073741824 }
abbrev Hd.un (h : Hd) : Hd := { h with l0 := 0, l4 := 0 }

theorem Hd.lk_un {h : Hd} (h0 : h.l0 = 0) (h4 : h.l4 = 0) : h.lk.un = h := by
  cases h; simp at h0 h4 ⊢; exact ⟨h0.symm, h4.symm⟩

/-- what storeRawMsg does, where the limit of a subject is as P says -/
def RawLaw (P : Nat → Prop) : Prop := ∀ (w : World) (ms : Nat) (h : Hd) (its : List Item) (M : List Ent) (F : List Nat) (rc : Rec) (Ah Ad : Option Addr) (ch cd : Nat), StoreAt w ms h its M F → P h.mp → rc.Ok → h.n < 30 → Lim h its →
  RowAt w 1 Ah rc.hdr.length (rc.hdr.map byteV) → RowAt w 1 Ad rc.dat.length (rc.dat.map byteV) → (∀ k, blkOf Ah k ∨ blkOf Ad k → ¬ Mut ms h F k) → (∃ t5 v5, w.cell? ⟨5, 0, none⟩ = some (.iface t5 v5)) →
  Calls Tryz.prog 61 #[.pointer (some ⟨ms, 0, none⟩), str rc.subj, .slice Ah rc.hdr.length ch, .slice Ad rc.dat.length cd, .int .u64 0, .int .i64 rc.ts, .int .i64 0, .bool true] w (SPost w ms h its M F rc)

theorem rawLaw0 : RawLaw (fun m => m = 0) := fun w ms h its M F rc Ah Ad ch cd S h0 hok hn hl hh hd hnr ⟨t5, v5, g5⟩ =>
  storeRaw0 w ms h its M F rc Ah Ad ch cd S hok hn hl h0 hh hd hnr t5 v5 g5

/-- what StoreRawMsg leaves behind -/
def RPost (w : World) (ms : Nat) (h : Hd) (its : List Item) (M : List Ent) (F : List Nat) (rc : Rec) (e : Ending) (w' : World) : Prop :=
  (h.disc = 1 ∧ h.mm ≤ h.cnt ∧ (∃ t v, e = .returned (.iface t v)) ∧ StoreAt w' ms h its M F ∧ Keep (Mut ms h F) w w') ∨ (¬ (h.disc = 1 ∧ h.mm ≤ h.cnt) ∧ e = .returned .nilIface ∧ Stored w w' ms h its M F rc)

set_option maxHeartbeats 1000000 in
theorem storeMsg_any {P : Nat → Prop} (hraw : RawLaw P) (w : World) (ms : Nat) (h : Hd) (its : List Item) (M : List Ent) (F : List Nat) (rc : Rec) (Ah Ad : Option Addr) (ch cd : Nat) (S : StoreAt w ms h its M F) (hP : P h.mp) (hok : rc.Ok) (hn : h.n < 30) (hl : Lim h its)
    (h0 : h.l0 = 0) (h4 : h.l4 = 0) (hh : RowAt w 1 Ah rc.hdr.length (rc.hdr.map byteV)) (hdt : RowAt w 1 Ad rc.dat.length (rc.dat.map byteV)) (hnr : ∀ k, blkOf Ah k ∨ blkOf Ad k → ¬ Mut ms h F k)
    (g5 : ∃ t5 v5, w.cell? ⟨5, 0, none⟩ = some (.iface t5 v5)) (h5 : ¬ Mut ms h F 5) :
    Calls Tryz.prog 24 #[.pointer (some ⟨ms, 0, none⟩), str rc.subj, .slice Ah rc.hdr.length ch, .slice Ad rc.dat.length cd, .int .u64 0, .int .i64 rc.ts, .int .i64 0, .bool true] w (RPost w ms h its M F rc) := by
  have hlock := hd_wlock S.hd h0 h4
  have step : ∀ w1, Blk w1 ms 87 h.lk.cells → Keep (fun k => k = ms) w w1 → StoreAt w1 ms h.lk its M F ∧ Calls Tryz.prog 61 #[.pointer (some ⟨ms, 0, none⟩), str rc.subj, .slice Ah rc.hdr.length ch, .slice Ad rc.dat.length cd, .int .u64 0, .int .i64 rc.ts, .int .i64 0, .bool true] w1 (SPost w1 ms h.lk its M F rc) := by
    intro w1 hb1 hk1
    have S1 : StoreAt w1 ms h.lk its M F := S.turn hk1 hb1 ⟨rfl, rfl, rfl, rfl, rfl, rfl, rfl, rfl, rfl, rfl⟩
    obtain ⟨t5, v5, g5⟩ := g5
    exact ⟨S1, hraw w1 ms h.lk its M F rc Ah Ad ch cd S1 hP hok hn hl (hh.keep hk1 (fun k hk _ e => hnr k (.inl hk) (.inl e))) (hdt.keep hk1 (fun k hk _ e => hnr k (.inr hk) (.inl e))) hnr ⟨t5, v5, hk1.cellS g5 (fun e => h5 (.inl e))⟩⟩
  have HS := Lib.hid (And.intro S (And.intro h0 (And.intro h4 step)))
  clear S hh hdt hnr g5 h5 step h0 h4 hl hP
  go_enter Tryz.func24, Tryz.ntmps24
  go_wp2_with fail
  refine hlock.mono ?_
  rintro e w1 ⟨rfl, hb1, hk1⟩
  have H1 := Lib.hid (And.intro hb1 hk1)
  clear hb1 hk1 hlock
  go_wp2_with fail
  refine (HS.out.2.2.2 w1 H1.out.1 H1.out.2).2.mono ?_
  rintro e w2 (⟨hd1, hm1, ⟨t, v, rfl⟩, hk2⟩ | ⟨hx, rfl, hs⟩)
  · have S1 := (HS.out.2.2.2 w1 H1.out.1 H1.out.2).1
    have S2 : StoreAt w2 ms h.lk its M F := S1.keep hk2 (fun _ _ h => h)
    have hun := hd_wunlock S2.hd rfl rfl
    have H2 := Lib.hid (And.intro S2 (And.intro hd1 (And.intro hm1 hk2)))
    clear S1 S2 hk2 hd1 hm1
    go_wp2_with fail
    refine hun.mono ?_
    rintro e w3 ⟨rfl, hb3, hk3⟩
    have H3 := Lib.hid (And.intro hb3 hk3)
    clear hb3 hk3 hun
    go_wp2_with fail
    go_ret
    obtain ⟨S2, hd1, hm1, hk2⟩ := H2.out
    have S3 := S2.turn H3.out.2 H3.out.1 ⟨rfl, rfl, rfl, rfl, rfl, rfl, rfl, rfl, rfl, rfl⟩
    have e := Hd.lk_un HS.out.2.1 HS.out.2.2.1
    have S4 : StoreAt w3 ms h.lk.un its M F := S3
    rw [e] at S4
    exact .inl ⟨hd1, hm1, ⟨t, v, rfl⟩, S4, ((H1.out.2.none_trans hk2).trans H3.out.2 (fun _ _ h => h)).mono (fun _ _ e => .inl e)⟩
  · obtain ⟨⟨h', its', M', F', S2, kin, hn', hp', hl2, hM⟩, hk2⟩ := hs
    have hun := hd_wunlock S2.hd kin.l0 kin.l4
    have H2 := Lib.hid (And.intro S2 (And.intro kin (And.intro hn' (And.intro hp' (And.intro hl2 (And.intro hM (And.intro hk2 hx)))))))
    clear S2 kin hn' hp' hl2 hM hk2 hx
    go_wp2_with fail
    refine hun.mono ?_
    rintro e w3 ⟨rfl, hb3, hk3⟩
    have H3 := Lib.hid (And.intro hb3 hk3)
    clear hb3 hk3 hun
    go_wp2_with fail
    go_ret
    obtain ⟨S2, kin, hn', hp', hl2, hM, hk2, hx⟩ := H2.out
    have S3 : StoreAt w3 ms h'.un its' M' F' := S2.turn H3.out.2 H3.out.1 ⟨rfl, rfl, rfl, rfl, rfl, rfl, rfl, rfl, rfl, rfl⟩
    have hk12 : Keep (Mut ms h F) w w2 := (H1.out.2.mono (G := Mut ms h F) (fun _ _ e => .inl e)).trans hk2 (fun _ _ h => h)
    exact .inr ⟨hx, rfl, ⟨⟨h'.un, its', M', F', S3, ⟨HS.out.2.1.symm, HS.out.2.2.1.symm, kin.mm, kin.mp, kin.disc⟩, hn', hp', hl2, fun k hk => (hM k hk).imp id (fun e => Nat.le_trans H1.out.2.size e)⟩, hk12.trans H3.out.2 (fun k _ e => .inl e)⟩⟩

/-- a store as numbers and messages: its limits, its last number, its messages -/
structure Ab where
  mm : Nat
  mp : Nat
  disc : Nat
  n : Nat
  l : List (Nat × Rec)

/-- what is new is refused, and there are as many as may be -/
def Ab.full (a : Ab) : Prop := a.disc = 1 ∧ a.mm ≤ a.l.length
instance (a : Ab) : Decidable a.full := inferInstanceAs (Decidable (_ ∧ _))

/-- a message stored, unless it is refused -/
def Ab.put (a : Ab) (rc : Rec) : Ab := if a.full then a else { a with n := a.n + 1, l := addRec a.mp a.n a.l rc }

/-- a store in memory, in blocks above those of w0, of which nothing has turned -/
def Ses (w0 w : World) (ms : Nat) (a : Ab) : Prop := ∃ h its M F, StoreAt w ms h its M F ∧ Lim h its ∧ h.l0 = 0 ∧ h.l4 = 0 ∧ h.mm = a.mm ∧ h.mp = a.mp ∧ h.disc = a.disc ∧ h.n = a.n ∧ pairs its = a.l ∧ (∀ k, Mut ms h F k → w0.heap.size ≤ k) ∧ Keep NoB w0 w

theorem Ses.keep {w0 w w' : World} {ms : Nat} {a : Ab} (s : Ses w0 w ms a) (hk : Keep NoB w w') : Ses w0 w' ms a := by
  obtain ⟨h, its, M, F, S, hl, a1, a2, a3, a4, a5, a6, a7, a8, a9⟩ := s
  exact ⟨h, its, M, F, S.keep hk (fun _ _ h => h), hl, a1, a2, a3, a4, a5, a6, a7, a8, a9.none_trans hk⟩

theorem Keep.own {F : Nat → Prop} {w0 w w' : World} (k0 : Keep NoB w0 w) (hk : Keep F w w') (hF : ∀ k, F k → w0.heap.size ≤ k) : Keep NoB w0 w' :=
  k0.trans hk (fun k hk hf => by have := hF k hf; omega)

end Go.Proofs.YtmblkpjnafgplaaGreatDoor

namespace Go.Proofs.YtmblkpjnafgplaaGreatDoor
open Go Go.RowKit
set_option maxRecDepth 100000
set_option linter.unusedVariables false
set_option linter.unusedSimpArgs false

/-- a message as plain data: its five cells -/
def MsgV (w : World) (cs : List Value) (q : Nat) (rc : Rec) : Prop :=
  ∃ A1 c1 A2 c2, cs = [str rc.subj, .slice A1 rc.hdr.length c1, .slice A2 rc.dat.length c2, .int .u64 (q : Int), .int .i64 rc.ts] ∧
    RowAt w 1 A1 rc.hdr.length (rc.hdr.map byteV) ∧ RowAt w 1 A2 rc.dat.length (rc.dat.map byteV) ∧ rc.hdr.length ≤ c1 ∧ rc.dat.length ≤ c2 ∧ ∀ k, blkOf A1 k ∨ blkOf A2 k → ∃ cs, Blk w k 5 cs

theorem MsgV.keep {w w' : World} {cs : List Value} {q : Nat} {rc : Rec} (h : MsgV w cs q rc) (hk : Keep NoB w w') : MsgV w' cs q rc := by
  obtain ⟨A1, c1, A2, c2, e, r1, r2, l1, l2, h5⟩ := h
  exact ⟨A1, c1, A2, c2, e, r1.keep hk (fun _ _ _ h => h), r2.keep hk (fun _ _ _ h => h), l1, l2, fun k hk' => by obtain ⟨cs, h5⟩ := h5 k hk'; exact ⟨cs, hk.blk h5 (fun h => h)⟩⟩

set_option maxHeartbeats 1000000 in
theorem parts_any (d : Nat) (s : Bs) (A1 A2 A3 : Option Addr) (n1 c1 n2 c2 n3 c3 : Nat) (q ts : Int) (w : World)
    (hb : Blk w d 145 #[str s, .slice A1 n1 c1, .slice A2 n2 c2, .slice A3 n3 c3, .int .u64 q, .int .i64 ts]) :
    Calls Tryz.prog 113 #[.pointer (some ⟨d, 0, none⟩)] w fun e w' => e = .returned (.tuple #[str s, .slice A1 n1 c1, .slice A2 n2 c2, .int .u64 q, .int .i64 ts]) ∧ ∃ k, w' = w.drewN k := by
  have c0 : w.cell? ⟨d, 0, none⟩ = some (str s) := by rw [hb.cell]; rfl
  have c1' : w.cell? ⟨d, 1, none⟩ = some (.slice A1 n1 c1) := by rw [hb.cell]; rfl
  have c2' : w.cell? ⟨d, 2, none⟩ = some (.slice A2 n2 c2) := by rw [hb.cell]; rfl
  have c4' : w.cell? ⟨d, 4, none⟩ = some (.int .u64 q) := by rw [hb.cell]; rfl
  have c5' : w.cell? ⟨d, 5, none⟩ = some (.int .i64 ts) := by rw [hb.cell]; rfl
  go_enter Tryz.func113, Tryz.ntmps113
  go_wp2
  go_quiet (fail)
  go_wp2
  exact bodyPost_ret (v := .tuple #[str s, .slice A1 n1 c1, .slice A2 n2 c2, .int .u64 q, .int .i64 ts]) (by simp [results, Tryz.results113, go_sem]) rfl ⟨rfl, _, rfl⟩

set_option maxHeartbeats 2000000 in
theorem message_any (d q : Nat) (rc : Rec) (w : World) (N : Nat → Prop) (hm : MsgAt w N ⟨q, d, rc⟩) (hok : rc.Ok) :
    Calls Tryz.prog 56 #[.pointer (some ⟨d, 0, none⟩)] w fun e w' => ∃ v1 v2, e = .returned (.agg #[str rc.subj, v1, v2, .int .u64 (q : Int), .int .i64 rc.ts]) ∧
      MsgV w' [str rc.subj, v1, v2, .int .u64 (q : Int), .int .i64 rc.ts] q rc ∧ Keep NoB w w' := by
  obtain ⟨A1, c1, A2, c2, A3, c3, hb, hn, r1, r2, r3, l1, l2, l3, hbk⟩ := hm
  have hlt := hb.lt
  have HM := Lib.hid (And.intro hb (And.intro r1 r2))
  clear hb hn r1 r2 r3 l1 l2 l3 hbk
  go_enter Tryz.func56, Tryz.ntmps56
  go_wp2_with fail
  have kp : ∀ k, Keep NoB w ((w.alloc (.cells #[str [], .slice none 0 0, .slice none 0 0, .int .u64 0, .int .i64 0] 39)).drewN k) := fun k => ((Keep.refl NoB w).alloc _).drewN k
  refine (parts_any d rc.subj A1 A2 A3 _ _ _ _ _ _ _ _ _ (by simpa using ((Keep.refl NoB w).alloc _).blk HM.out.1 (fun h => h))).mono ?_
  rintro e w1 ⟨rfl, k, rfl⟩
  have hb0 : Blk ((w.alloc (.cells #[str [], .slice none 0 0, .slice none 0 0, .int .u64 0, .int .i64 0] 39)).drewN k) w.heap.size 39 #[str [], .slice none 0 0, .slice none 0 0, .int .u64 0, .int .i64 0] := (Keep.refl NoB _).drewN k |>.blk (Blk.new w 39 _) (fun h => h)
  have hk1 := kp k
  have hz1 : w.heap.size + 1 = ((w.alloc (.cells #[str [], .slice none 0 0, .slice none 0 0, .int .u64 0, .int .i64 0] 39)).drewN k).heap.size := by simp
  have cp1 := copied_any A1 rc.hdr.length c1 rc.hdr ((w.alloc (.cells #[str [], .slice none 0 0, .slice none 0 0, .int .u64 0, .int .i64 0] 39)).drewN k) (HM.out.2.1.keep hk1 (fun _ _ _ h => h)) (by have := hok.h1; omega)
  have HK := Lib.hid (And.intro hk1 (And.intro hb0 (And.intro hz1 cp1)))
  clear hk1 hb0 hz1 cp1 kp
  go_wp2_with fail
  refine HK.out.2.2.2.mono ?_
  rintro e w2 ⟨v1, rfl, hv1, hk2⟩
  obtain ⟨B1, m1, d1, rfl⟩ := hv1.shape
  have cp2 := copied_any A2 rc.dat.length c2 rc.dat w2 (HM.out.2.2.keep (HK.out.1.none_trans hk2) (fun _ _ _ h => h)) (by have := hok.d1; omega)
  have H2 := Lib.hid (And.intro hv1 (And.intro hk2 cp2))
  clear hv1 hk2 cp2
  go_wp2_with fail
  refine H2.out.2.2.mono ?_
  rintro e w3 ⟨v2, rfl, hv2, hk3⟩
  obtain ⟨B2, m2, d2, rfl⟩ := hv2.shape
  have hb3 := hk3.blk (H2.out.2.1.blk HK.out.2.1 (fun h => h)) (fun h => h)
  have f0 := hb3.frozen 0
  have f1 := hb3.frozen 1
  have f2 := hb3.frozen 2
  have f3 := hb3.frozen 3
  have f4 := hb3.frozen 4
  have c0 : w3.cell? ⟨w.heap.size, 0, none⟩ = some (str []) := by rw [hb3.cell]; rfl
  have c1' : w3.cell? ⟨w.heap.size, 1, none⟩ = some (.slice none 0 0) := by rw [hb3.cell]; rfl
  have c2' : w3.cell? ⟨w.heap.size, 2, none⟩ = some (.slice none 0 0) := by rw [hb3.cell]; rfl
  have c3' : w3.cell? ⟨w.heap.size, 3, none⟩ = some (.int .u64 0) := by rw [hb3.cell]; rfl
  have c4' : w3.cell? ⟨w.heap.size, 4, none⟩ = some (.int .i64 0) := by rw [hb3.cell]; rfl
  have H3 := Lib.hid (And.intro hv2 (And.intro hk3 hb3))
  clear hv2 hk3 hb3
  go_wp2_with fail
  have hb4 := ((((H3.out.2.2.set_ 0 (str rc.subj)).set_ 1 (.slice B1 m1 d1)).set_ 2 (.slice B2 m2 d2)).set_ 3 (.int .u64 (q : Int))).set_ 4 (.int .i64 rc.ts)
  have hk4 := ((((keep1 w3 w.heap.size 0 (str rc.subj)).put rfl 1 (.slice B1 m1 d1)).put rfl 2 (.slice B2 m2 d2)).put rfl 3 (.int .u64 (q : Int))).put rfl 4 (.int .i64 rc.ts)
  change Blk _ _ _ #[str rc.subj, .slice B1 m1 d1, .slice B2 m2 d2, .int .u64 (q : Int), .int .i64 rc.ts] at hb4
  change bodyPost _ _ _ _ _ (((((w3.setCell ⟨w.heap.size, 0, none⟩ (str rc.subj)).setCell ⟨w.heap.size, 1, none⟩ (.slice B1 m1 d1)).setCell ⟨w.heap.size, 2, none⟩ (.slice B2 m2 d2)).setCell ⟨w.heap.size, 3, none⟩ (.int .u64 (q : Int))).setCell ⟨w.heap.size, 4, none⟩ (.int .i64 rc.ts))
  generalize ((((w3.setCell ⟨w.heap.size, 0, none⟩ (str rc.subj)).setCell ⟨w.heap.size, 1, none⟩ (.slice B1 m1 d1)).setCell ⟨w.heap.size, 2, none⟩ (.slice B2 m2 d2)).setCell ⟨w.heap.size, 3, none⟩ (.int .u64 (q : Int))).setCell ⟨w.heap.size, 4, none⟩ (.int .i64 rc.ts) = W at hb4 hk4 ⊢
  have x0 : W.cell? ⟨w.heap.size, 0, none⟩ = some (str rc.subj) := by rw [hb4.cell]; rfl
  have x1 : W.cell? ⟨w.heap.size, 1, none⟩ = some (.slice B1 m1 d1) := by rw [hb4.cell]; rfl
  have x2 : W.cell? ⟨w.heap.size, 2, none⟩ = some (.slice B2 m2 d2) := by rw [hb4.cell]; rfl
  have x3 : W.cell? ⟨w.heap.size, 3, none⟩ = some (.int .u64 (q : Int)) := by rw [hb4.cell]; rfl
  have x4 : W.cell? ⟨w.heap.size, 4, none⟩ = some (.int .i64 rc.ts) := by rw [hb4.cell]; rfl
  refine bodyPost_ret (v := .agg #[str rc.subj, .slice B1 m1 d1, .slice B2 m2 d2, .int .u64 (q : Int), .int .i64 rc.ts]) (by simp [results, Tryz.results56, go_sem, x0, x1, x2, x3, x4]) rfl ?_
  obtain ⟨hv1, hk2, _⟩ := H2.out
  obtain ⟨hv2, hk3, hb3⟩ := H3.out
  have t1 := hv1.ty
  have t2 := hv2.ty
  obtain ⟨A, c, e, l1, _, q1, b1⟩ := hv1.row
  injection e with e1 e2 e3; subst e1; subst e2; subst e3
  obtain ⟨A', c', e, l2, _, q2, b2⟩ := hv2.row
  injection e with e1 e2 e3; subst e1; subst e2; subst e3
  have hz2 := hk2.size
  have hz1 := HK.out.2.2.1
  refine ⟨_, _, rfl, ⟨B1, d1, B2, d2, rfl, (q1.keep hk3 (fun _ _ _ h => h)).keep hk4 (fun k hk _ e => by have := b1 k hk; omega), q2.keep hk4 (fun k hk _ e => by have := b2 k hk; omega), l1, l2, ?_⟩, ?_⟩
  · rintro k (hk | hk)
    · obtain ⟨cs, h5⟩ := t1 k hk
      exact ⟨cs, hk4.blk (hk3.blk h5 (fun h => h)) (fun e => by have := b1 k hk; omega)⟩
    · obtain ⟨cs, h5⟩ := t2 k hk
      exact ⟨cs, hk4.blk h5 (fun e => by have := b2 k hk; omega)⟩
  exact (((HK.out.1.none_trans hk2).none_trans hk3).own (F := fun k => k = w.heap.size) hk4 (fun k e => by omega))


end Go.Proofs.YtmblkpjnafgplaaGreatDoor

namespace Go.Proofs.YtmblkpjnafgplaaGreatDoor
open Go Go.RowKit
set_option maxRecDepth 100000
set_option linter.unusedVariables false
set_option linter.unusedSimpArgs false

set_option maxHeartbeats 2000000 in
theorem same_eq (A B : Option Addr) (c d : Nat) (xs : Bs) (w : World) (hA : RowAt w 1 A xs.length (xs.map byteV)) (hB : RowAt w 1 B xs.length (xs.map byteV)) (hl : xs.length ≤ 100000) :
    Calls Tryz.prog 57 #[.slice A xs.length c, .slice B xs.length d] w fun e w' => e = .returned (.bool true) ∧ ∃ q, w' = w.drewN q := by
  have HA := Lib.hid (And.intro hA hB)
  clear hA hB
  go_enter Tryz.func57, Tryz.ntmps57
  go_wp2
  go_loopw [5] (fun i wr => ∃ j q : Nat, i = .int .i64 (j : Int) ∧ j ≤ xs.length ∧ wr = w.drewN q) (fun i _ => xs.length - (intOf i).toNat)
  case atStart => exact ⟨0, 0, rfl, Nat.zero_le _, rfl⟩
  case round =>
    obtain ⟨j, q, rfl, hj, rfl⟩ := hrel
    by_cases hlt : j < xs.length
    · obtain ⟨⟨a, oa, sa⟩, u, rfl, hsa, hu, hca⟩ := HA.out.1.at_ hlt
      obtain ⟨⟨b, ob, sb⟩, u', rfl, hsb, hu', hcb⟩ := HA.out.2.at_ hlt
      simp only at hsa hsb hca hcb
      subst hsa; subst hsb
      rw [hu] at hu'
      injection hu' with hu'
      subst hu'
      obtain ⟨y, _, rfl⟩ : ∃ y, y ∈ xs ∧ byteV y = u := by
        have hm := List.mem_of_getElem? hu
        obtain ⟨y, hy, e⟩ := List.mem_map.1 hm
        exact ⟨y, hy, e⟩
      have h0 : (0 : Int) ≤ (j : Int) := Int.natCast_nonneg _
      have h1 : (j : Int) < (xs.length : Int) := by omega
      clear hu
      go_wp2
      go_quiet (fail)
      go_wp2
      go_roundw
      case rel => exact ⟨j + 1, _, by go_num, by omega, rfl⟩
      case measure => simp [intOf]; omega
    · go_wp2
      go_ret
      exact ⟨rfl, q, rfl⟩

end Go.Proofs.YtmblkpjnafgplaaGreatDoor

namespace Go.Proofs.YtmblkpjnafgplaaGreatDoor
open Go Go.RowKit
set_option maxRecDepth 100000
set_option linter.unusedVariables false
set_option linter.unusedSimpArgs false

abbrev mC (s : Bs) (A : Option Addr) (n c : Nat) (B : Option Addr) (m d : Nat) (q ts : Int) : Array Value := #[str s, .slice A n c, .slice B m d, .int .u64 q, .int .i64 ts]

set_option maxHeartbeats 4000000 in
theorem sameMsg_eq (rc : Rec) (q : Nat) (A1 A2 B1 B2 : Option Addr) (c1 c2 d1 d2 : Nat) (w : World) (h1 : rc.hdr.length ≤ 100000) (h2 : rc.dat.length ≤ 100000)
    (r1 : RowAt w 1 A1 rc.hdr.length (rc.hdr.map byteV)) (r2 : RowAt w 1 A2 rc.dat.length (rc.dat.map byteV)) (s1 : RowAt w 1 B1 rc.hdr.length (rc.hdr.map byteV)) (s2 : RowAt w 1 B2 rc.dat.length (rc.dat.map byteV)) :
    Calls Tryz.prog 19 #[.agg (mC rc.subj A1 rc.hdr.length c1 A2 rc.dat.length c2 q rc.ts), .agg (mC rc.subj B1 rc.hdr.length d1 B2 rc.dat.length d2 q rc.ts)] w fun e w' => e = .returned (.bool true) ∧ Keep NoB w w' := by
  have hk := ((Keep.refl NoB w).alloc (.cells (mC rc.subj A1 rc.hdr.length c1 A2 rc.dat.length c2 q rc.ts) 39)).alloc (.cells (mC rc.subj B1 rc.hdr.length d1 B2 rc.dat.length d2 q rc.ts) 39)
  have hs := same_eq A1 B1 c1 d1 rc.hdr (((w.alloc (.cells (mC rc.subj A1 rc.hdr.length c1 A2 rc.dat.length c2 q rc.ts) 39)).alloc (.cells (mC rc.subj B1 rc.hdr.length d1 B2 rc.dat.length d2 q rc.ts) 39))) (r1.keep hk (fun _ _ _ h => h)) (s1.keep hk (fun _ _ _ h => h)) h1
  have ht := fun n : Nat => same_eq A2 B2 c2 d2 rc.dat (((w.alloc (.cells (mC rc.subj A1 rc.hdr.length c1 A2 rc.dat.length c2 q rc.ts) 39)).alloc (.cells (mC rc.subj B1 rc.hdr.length d1 B2 rc.dat.length d2 q rc.ts) 39)).drewN n) (r2.keep (hk.drewN n) (fun _ _ _ h => h)) (s2.keep (hk.drewN n) (fun _ _ _ h => h)) h2
  have HH := Lib.hid (And.intro hk (And.intro hs ht))
  clear hk hs ht r1 r2 s1 s2
  go_enter Tryz.func19, Tryz.ntmps19
  go_wp2_with fail
  refine HH.out.2.1.mono ?_
  rintro e w2 ⟨rfl, n, rfl⟩
  go_wp2_with fail
  refine (HH.out.2.2 n).mono ?_
  rintro e w3 ⟨rfl, m, rfl⟩
  go_wp2_with fail
  go_ret
  exact ⟨rfl, HH.out.1.drewN (n + m)⟩

end Go.Proofs.YtmblkpjnafgplaaGreatDoor
