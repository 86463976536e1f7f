/-
  5535A: ia, ib and the first windows that are wanted (the run's nodes a and b).
-/
import Derived.Test.YbulkdjpkAS0
namespace Go.Proofs.Ybulkdjpk.lawS5535AWhole
open Go.RowKit Go.Deep

/-- Ahead of loop 7: want holds the windows of node a. -/
def AtB2 (w0 wp : World) (ao po : Option Addr) (cap pcap : Nat) (css : List (List (Int × Int))) (qs : List Part) (n a b stop ia ib : Nat) (R : Code) : Prop :=
  ∀ {u5 u6 u7 u8 u9 u10 u11 u12 u13 u16 u17 u18 u19 u20 u21 u22 u23 u27 u28 u29 u30 u31 u32 u33 u34 u35 u36 u37 u38 u39 u40 u41 u42 u43 u44 u45 u46 u47 u48 u49 u50 u51 u52 u53 u54 u55 u56 u57 u58 u59 u60 u61 u62 u63 u64 u65 u66 u67 u68 u69 u70 u71 u72 u73 u74 u75 u76 u77 u78 u79 u80 u81 u82 u83 u84 u85 u86 u87 u88 u89 u90 u91 u92 u93 u94 u95 u96 u97 u98 u99 u100 u101 u102 u103 u104 u105 u106 u107 u108 u109 u110 u111 u112 u113 u114 u115 u116 u117 u118 u119 u120 u121 u122 u123 u124 u125 u126 u127 u128 u129 u130 u131 u132 u133 u134 u135 u136 u137 u138 u139 u140 u141 u142 u143 u144 u145 u146 u147 u148 u149 u150 u151 u152 u153 u154 u155 u156 u157 u158 u159 u160 u161 u162 u163 u164 u165 u166 u167 u168 u169 u170 u171 u172 u173 u174 u175 u176 u177 u178 u179 u180 u181 u182 u183 u184 u185 u186 u187 u188 u189 u190 u191 u192 u193 u194 u195 u196 u197 u198 u199 u200 u201 u202 u203 u204 u205 u206 u207 u208 u209 u210 u211 u212 u213 u214 u215 u216 u217 u218 u219 u220 u221 u222 u223 u224 u225 u226 u227 u228 u229 u230 u231 u232 u233 u234 u235 u236 u237 u238 u239 u240 u241 u242 u243 u244 u245 u246 u247 u248 u249 u250 u251 u252 u253 u254 u255 u256 u257 u258 u259 u260 u261 u262 u263 u264 u265 u266 u267 u268 u269 u270 u271 u272 u273 u274 u275 u276 u277 u278 u279 u280 u281 u282 u283 u284 u285 u286 u287 u288 u289 u290 u291 u292 u293 u294 u295 u296 u297 u298 u299 u300 u301 u302 u303 u304 u305 u306 u307 u308 u309 u310 u311 u312 u313 u314 u315 u316 u317 u318 u319 u320 u321 u322 u323 u324 u325 u326 u327 u328 u329 u330 u331 u332 u333 u334 u335 u336 u337 u338 u339 u340 u341 u342 u343 u344 u345 u346 u347 u348 u349 u350 u351 u352 u353 u354 u355 u356 u357 u358 u359 u360 u361 u362 u363 u364 u365 u366 u367 u368 u369 u370 u371 u372 u373 u374 u375 u376 u377 u378 u379 u380 u381 u382 u383 u384 u385 u386 u387 u388 u389 u390 u391 u392 u393 u394 u395 u396 u397 u398 u399 u400 u401 u402 u403 u404 : Value} {v : Value} (wk : World), wk.ownsRow wp.heap.size 59 2 v (fcs css ia).length (flat (fcs css ia)) → Below wp.heap.size wp wk → Code.wp Yba.prog R (QQ w0) ⟨#[.slice ao css.length cap, .slice po qs.length pcap, .int .u64 a, .int .u64 b, .int .u64 stop, u5, u6, u7, u8, u9, u10, u11, u12, u13, .int .i64 n, ptr w0.heap.size, u16, u17, u18, u19, u20, u21, u22, u23, .int .i64 (ia : Nat), .int .i64 (ib : Nat), v, u27, u28, u29, u30, u31, u32, u33, u34, u35, u36, u37, u38, u39, u40, u41, u42, u43, u44, u45, u46, u47, u48, u49, u50, u51, u52, u53, u54, u55, u56, u57, u58, u59, u60, u61, u62, u63, u64, u65, u66, u67, u68, u69, u70, u71, u72, u73, u74, u75, u76, u77, u78, u79, u80, u81, u82, u83, u84, u85, u86, u87, u88, u89, u90, u91, u92, u93, u94, u95, u96, u97, u98, u99, u100, u101, u102, u103, u104, u105, u106, u107, u108, u109, u110, u111, u112, u113, u114, u115, u116, u117, u118, u119, u120, u121, u122, u123, u124, u125, u126, u127, u128, u129, u130, u131, u132, u133, u134, u135, u136, u137, u138, u139, u140, u141, u142, u143, u144, u145, u146, u147, u148, u149, u150, u151, u152, u153, u154, u155, u156, u157, u158, u159, u160, u161, u162, u163, u164, u165, u166, u167, u168, u169, u170, u171, u172, u173, u174, u175, u176, u177, u178, u179, u180, u181, u182, u183, u184, u185, u186, u187, u188, u189, u190, u191, u192, u193, u194, u195, u196, u197, u198, u199, u200, u201, u202, u203, u204, u205, u206, u207, u208, u209, u210, u211, u212, u213, u214, u215, u216, u217, u218, u219, u220, u221, u222, u223, u224, u225, u226, u227, u228, u229, u230, u231, u232, u233, u234, u235, u236, u237, u238, u239, u240, u241, u242, u243, u244, u245, u246, u247, u248, u249, u250, u251, u252, u253, u254, u255, u256, u257, u258, u259, u260, u261, u262, u263, u264, u265, u266, u267, u268, u269, u270, u271, u272, u273, u274, u275, u276, u277, u278, u279, u280, u281, u282, u283, u284, u285, u286, u287, u288, u289, u290, u291, u292, u293, u294, u295, u296, u297, u298, u299, u300, u301, u302, u303, u304, u305, u306, u307, u308, u309, u310, u311, u312, u313, u314, u315, u316, u317, u318, u319, u320, u321, u322, u323, u324, u325, u326, u327, u328, u329, u330, u331, u332, u333, u334, u335, u336, u337, u338, u339, u340, u341, u342, u343, u344, u345, u346, u347, u348, u349, u350, u351, u352, u353, u354, u355, u356, u357, u358, u359, u360, u361, u362, u363, u364, u365, u366, u367, u368, u369, u370, u371, u372, u373, u374, u375, u376, u377, u378, u379, u380, u381, u382, u383, u384, u385, u386, u387, u388, u389, u390, u391, u392, u393, u394, u395, u396, u397, u398, u399, u400, u401, u402, u403, u404], []⟩ wk
/-- Ahead of loop 8: want holds the windows xs. -/
def AtC (w0 wp : World) (ao po : Option Addr) (cap pcap : Nat) (css : List (List (Int × Int))) (qs : List Part) (n a b stop ia ib : Nat) (xs : List (Int × Int)) (R : Code) : Prop :=
  ∀ {u5 u6 u7 u8 u9 u10 u11 u12 u13 u16 u17 u18 u19 u20 u21 u22 u23 u27 u28 u29 u30 u31 u32 u33 u34 u35 u36 u37 u38 u39 u40 u41 u42 u43 u44 u45 u46 u47 u48 u49 u50 u51 u52 u53 u54 u55 u56 u57 u58 u59 u60 u61 u62 u63 u64 u65 u66 u67 u68 u69 u70 u71 u72 u73 u74 u75 u76 u77 u78 u79 u80 u81 u82 u83 u84 u85 u86 u87 u88 u89 u90 u91 u92 u93 u94 u95 u96 u97 u98 u99 u100 u101 u102 u103 u104 u105 u106 u107 u108 u109 u110 u111 u112 u113 u114 u115 u116 u117 u118 u119 u120 u121 u122 u123 u124 u125 u126 u127 u128 u129 u130 u131 u132 u133 u134 u135 u136 u137 u138 u139 u140 u141 u142 u143 u144 u145 u146 u147 u148 u149 u150 u151 u152 u153 u154 u155 u156 u157 u158 u159 u160 u161 u162 u163 u164 u165 u166 u167 u168 u169 u170 u171 u172 u173 u174 u175 u176 u177 u178 u179 u180 u181 u182 u183 u184 u185 u186 u187 u188 u189 u190 u191 u192 u193 u194 u195 u196 u197 u198 u199 u200 u201 u202 u203 u204 u205 u206 u207 u208 u209 u210 u211 u212 u213 u214 u215 u216 u217 u218 u219 u220 u221 u222 u223 u224 u225 u226 u227 u228 u229 u230 u231 u232 u233 u234 u235 u236 u237 u238 u239 u240 u241 u242 u243 u244 u245 u246 u247 u248 u249 u250 u251 u252 u253 u254 u255 u256 u257 u258 u259 u260 u261 u262 u263 u264 u265 u266 u267 u268 u269 u270 u271 u272 u273 u274 u275 u276 u277 u278 u279 u280 u281 u282 u283 u284 u285 u286 u287 u288 u289 u290 u291 u292 u293 u294 u295 u296 u297 u298 u299 u300 u301 u302 u303 u304 u305 u306 u307 u308 u309 u310 u311 u312 u313 u314 u315 u316 u317 u318 u319 u320 u321 u322 u323 u324 u325 u326 u327 u328 u329 u330 u331 u332 u333 u334 u335 u336 u337 u338 u339 u340 u341 u342 u343 u344 u345 u346 u347 u348 u349 u350 u351 u352 u353 u354 u355 u356 u357 u358 u359 u360 u361 u362 u363 u364 u365 u366 u367 u368 u369 u370 u371 u372 u373 u374 u375 u376 u377 u378 u379 u380 u381 u382 u383 u384 u385 u386 u387 u388 u389 u390 u391 u392 u393 u394 u395 u396 u397 u398 u399 u400 u401 u402 u403 u404 : Value} {v : Value} (wk : World), wk.ownsRow wp.heap.size 59 2 v xs.length (flat xs) → Below wp.heap.size wp wk → Code.wp Yba.prog R (QQ w0) ⟨#[.slice ao css.length cap, .slice po qs.length pcap, .int .u64 a, .int .u64 b, .int .u64 stop, u5, u6, u7, u8, u9, u10, u11, u12, u13, .int .i64 n, ptr w0.heap.size, u16, u17, u18, u19, u20, u21, u22, u23, .int .i64 (ia : Nat), .int .i64 (ib : Nat), v, u27, u28, u29, u30, u31, u32, u33, u34, u35, u36, u37, u38, u39, u40, u41, u42, u43, u44, u45, u46, u47, u48, u49, u50, u51, u52, u53, u54, u55, u56, u57, u58, u59, u60, u61, u62, u63, u64, u65, u66, u67, u68, u69, u70, u71, u72, u73, u74, u75, u76, u77, u78, u79, u80, u81, u82, u83, u84, u85, u86, u87, u88, u89, u90, u91, u92, u93, u94, u95, u96, u97, u98, u99, u100, u101, u102, u103, u104, u105, u106, u107, u108, u109, u110, u111, u112, u113, u114, u115, u116, u117, u118, u119, u120, u121, u122, u123, u124, u125, u126, u127, u128, u129, u130, u131, u132, u133, u134, u135, u136, u137, u138, u139, u140, u141, u142, u143, u144, u145, u146, u147, u148, u149, u150, u151, u152, u153, u154, u155, u156, u157, u158, u159, u160, u161, u162, u163, u164, u165, u166, u167, u168, u169, u170, u171, u172, u173, u174, u175, u176, u177, u178, u179, u180, u181, u182, u183, u184, u185, u186, u187, u188, u189, u190, u191, u192, u193, u194, u195, u196, u197, u198, u199, u200, u201, u202, u203, u204, u205, u206, u207, u208, u209, u210, u211, u212, u213, u214, u215, u216, u217, u218, u219, u220, u221, u222, u223, u224, u225, u226, u227, u228, u229, u230, u231, u232, u233, u234, u235, u236, u237, u238, u239, u240, u241, u242, u243, u244, u245, u246, u247, u248, u249, u250, u251, u252, u253, u254, u255, u256, u257, u258, u259, u260, u261, u262, u263, u264, u265, u266, u267, u268, u269, u270, u271, u272, u273, u274, u275, u276, u277, u278, u279, u280, u281, u282, u283, u284, u285, u286, u287, u288, u289, u290, u291, u292, u293, u294, u295, u296, u297, u298, u299, u300, u301, u302, u303, u304, u305, u306, u307, u308, u309, u310, u311, u312, u313, u314, u315, u316, u317, u318, u319, u320, u321, u322, u323, u324, u325, u326, u327, u328, u329, u330, u331, u332, u333, u334, u335, u336, u337, u338, u339, u340, u341, u342, u343, u344, u345, u346, u347, u348, u349, u350, u351, u352, u353, u354, u355, u356, u357, u358, u359, u360, u361, u362, u363, u364, u365, u366, u367, u368, u369, u370, u371, u372, u373, u374, u375, u376, u377, u378, u379, u380, u381, u382, u383, u384, u385, u386, u387, u388, u389, u390, u391, u392, u393, u394, u395, u396, u397, u398, u399, u400, u401, u402, u403, u404], []⟩ wk

set_option maxRecDepth 1000000 in
set_option maxHeartbeats 4000000 in
theorem segB1 {w0 wp : World} {ao po : Option Addr} {cap pcap : Nat} {css : List (List (Int × Int))} {qs : List Part} {n : Nat} {vN vP : Value} {ptrs cells : List Value} {a b stop ia ib : Nat}
    (hia : a % n = ia) (hib : b % n = ib) (E : Env w0 wp ao po css qs n vN vP ptrs cells) (R : Code)
    (hR : AtB2 w0 wp ao po cap pcap css qs n a b stop ia ib R)
    {u5 u6 u7 u8 u9 u10 u11 u12 u13 u16 u17 u18 u19 u20 u21 u22 u23 u24 u25 u26 u27 u28 u29 u30 u31 u32 u33 u34 u35 u36 u37 u38 u39 u40 u41 u42 u43 u44 u45 u46 u47 u48 u49 u50 u51 u52 u53 u54 u55 u56 u57 u58 u59 u60 u61 u62 u63 u64 u65 u66 u67 u68 u69 u70 u71 u72 u73 u74 u75 u76 u77 u78 u79 u80 u81 u82 u83 u84 u85 u86 u87 u88 u89 u90 u91 u92 u93 u94 u95 u96 u97 u98 u99 u100 u101 u102 u103 u104 u105 u106 u107 u108 u109 u110 u111 u112 u113 u114 u115 u116 u117 u118 u119 u120 u121 u122 u123 u124 u125 u126 u127 u128 u129 u130 u131 u132 u133 u134 u135 u136 u137 u138 u139 u140 u141 u142 u143 u144 u145 u146 u147 u148 u149 u150 u151 u152 u153 u154 u155 u156 u157 u158 u159 u160 u161 u162 u163 u164 u165 u166 u167 u168 u169 u170 u171 u172 u173 u174 u175 u176 u177 u178 u179 u180 u181 u182 u183 u184 u185 u186 u187 u188 u189 u190 u191 u192 u193 u194 u195 u196 u197 u198 u199 u200 u201 u202 u203 u204 u205 u206 u207 u208 u209 u210 u211 u212 u213 u214 u215 u216 u217 u218 u219 u220 u221 u222 u223 u224 u225 u226 u227 u228 u229 u230 u231 u232 u233 u234 u235 u236 u237 u238 u239 u240 u241 u242 u243 u244 u245 u246 u247 u248 u249 u250 u251 u252 u253 u254 u255 u256 u257 u258 u259 u260 u261 u262 u263 u264 u265 u266 u267 u268 u269 u270 u271 u272 u273 u274 u275 u276 u277 u278 u279 u280 u281 u282 u283 u284 u285 u286 u287 u288 u289 u290 u291 u292 u293 u294 u295 u296 u297 u298 u299 u300 u301 u302 u303 u304 u305 u306 u307 u308 u309 u310 u311 u312 u313 u314 u315 u316 u317 u318 u319 u320 u321 u322 u323 u324 u325 u326 u327 u328 u329 u330 u331 u332 u333 u334 u335 u336 u337 u338 u339 u340 u341 u342 u343 u344 u345 u346 u347 u348 u349 u350 u351 u352 u353 u354 u355 u356 u357 u358 u359 u360 u361 u362 u363 u364 u365 u366 u367 u368 u369 u370 u371 u372 u373 u374 u375 u376 u377 u378 u379 u380 u381 u382 u383 u384 u385 u386 u387 u388 u389 u390 u391 u392 u393 u394 u395 u396 u397 u398 u399 u400 u401 u402 u403 u404 : Value} : Code.wp Yba.prog (.seq (nth 10 body) (.seq (nth 11 body) (.seq (nth 12 body) (.seq (nth 13 body) R)))) (QQ w0) ⟨#[.slice ao css.length cap, .slice po qs.length pcap, .int .u64 a, .int .u64 b, .int .u64 stop, u5, u6, u7, u8, u9, u10, u11, u12, u13, .int .i64 n, ptr w0.heap.size, u16, u17, u18, u19, u20, u21, u22, u23, u24, u25, u26, u27, u28, u29, u30, u31, u32, u33, u34, u35, u36, u37, u38, u39, u40, u41, u42, u43, u44, u45, u46, u47, u48, u49, u50, u51, u52, u53, u54, u55, u56, u57, u58, u59, u60, u61, u62, u63, u64, u65, u66, u67, u68, u69, u70, u71, u72, u73, u74, u75, u76, u77, u78, u79, u80, u81, u82, u83, u84, u85, u86, u87, u88, u89, u90, u91, u92, u93, u94, u95, u96, u97, u98, u99, u100, u101, u102, u103, u104, u105, u106, u107, u108, u109, u110, u111, u112, u113, u114, u115, u116, u117, u118, u119, u120, u121, u122, u123, u124, u125, u126, u127, u128, u129, u130, u131, u132, u133, u134, u135, u136, u137, u138, u139, u140, u141, u142, u143, u144, u145, u146, u147, u148, u149, u150, u151, u152, u153, u154, u155, u156, u157, u158, u159, u160, u161, u162, u163, u164, u165, u166, u167, u168, u169, u170, u171, u172, u173, u174, u175, u176, u177, u178, u179, u180, u181, u182, u183, u184, u185, u186, u187, u188, u189, u190, u191, u192, u193, u194, u195, u196, u197, u198, u199, u200, u201, u202, u203, u204, u205, u206, u207, u208, u209, u210, u211, u212, u213, u214, u215, u216, u217, u218, u219, u220, u221, u222, u223, u224, u225, u226, u227, u228, u229, u230, u231, u232, u233, u234, u235, u236, u237, u238, u239, u240, u241, u242, u243, u244, u245, u246, u247, u248, u249, u250, u251, u252, u253, u254, u255, u256, u257, u258, u259, u260, u261, u262, u263, u264, u265, u266, u267, u268, u269, u270, u271, u272, u273, u274, u275, u276, u277, u278, u279, u280, u281, u282, u283, u284, u285, u286, u287, u288, u289, u290, u291, u292, u293, u294, u295, u296, u297, u298, u299, u300, u301, u302, u303, u304, u305, u306, u307, u308, u309, u310, u311, u312, u313, u314, u315, u316, u317, u318, u319, u320, u321, u322, u323, u324, u325, u326, u327, u328, u329, u330, u331, u332, u333, u334, u335, u336, u337, u338, u339, u340, u341, u342, u343, u344, u345, u346, u347, u348, u349, u350, u351, u352, u353, u354, u355, u356, u357, u358, u359, u360, u361, u362, u363, u364, u365, u366, u367, u368, u369, u370, u371, u372, u373, u374, u375, u376, u377, u378, u379, u380, u381, u382, u383, u384, u385, u386, u387, u388, u389, u390, u391, u392, u393, u394, u395, u396, u397, u398, u399, u400, u401, u402, u403, u404], []⟩ wp := by
  conv => arg 2; arg 1; whnf
  conv => arg 2; arg 2; arg 1; whnf
  conv => arg 2; arg 2; arg 2; arg 1; whnf
  conv => arg 2; arg 2; arg 2; arg 2; arg 1; whnf
  obtain ⟨hn1, hn2, hn3, hql, ht, hC, hP, HP⟩ := E
  clear hP
  have hta : ((a : Int).tmod (n : Int)) = ((a % n : Nat) : Int) := Int.ofNat_tmod a n
  have htb : ((b : Int).tmod (n : Int)) = ((b % n : Nat) : Int) := Int.ofNat_tmod b n
  have hial : ia < n := by rw [← hia]; exact Nat.mod_lt _ (by omega)
  have hibl : ib < n := by rw [← hib]; exact Nat.mod_lt _ (by omega)
  rw [hia] at hta
  rw [hib] at htb
  clear hia hib
  go_upto_if 167 with fail
  by_cases hkc : ia < css.length
  · obtain ⟨ws, hws⟩ : ∃ ws, css[ia]? = some ws := ⟨_, List.getElem?_eq_getElem hkc⟩
    have hgd : fcs css ia = ws := by unfold fcs; rw [List.getD_eq_getElem?_getD, hws]; rfl
    have hwl2 := total_le hws
    obtain ⟨bb, o, rfl, hb, ao2, c2, hc, hwin⟩ := (hC.below HP.bel) ia ws hws
    obtain ⟨i59, hi, hz0, hz1, hz2⟩ := info_parts info59
    have hkb : decide (ia < css.length) = true := decide_eq_true hkc
    rw [hkb]
    go_wp2_with fail
    go_loopw [26, 173] (fun v j w3 => ∃ jj : Nat, jj ≤ ws.length ∧ j = .int .i64 jj ∧ w3.ownsRow wp.heap.size 59 2 v jj (flat (ws.take jj)) ∧ Below wp.heap.size wp w3) (fun _ j _ => ws.length - (intOf j).toNat)
    case atStart => exact ⟨0, Nat.zero_le _, rfl, World.ownsRow_nil _ _ _ _, Below.refl _ _⟩
    case round =>
      obtain ⟨jj, hjj, rfl, hrow, hB3⟩ := hrel
      obtain ⟨av, cv, rfl⟩ := row_form hrow
      by_cases hj : jj < ws.length
      · obtain ⟨x, hx⟩ : ∃ x, ws[jj]? = some x := ⟨_, List.getElem?_eq_getElem hj⟩
        obtain ⟨b2, o2, rfl, hb2, c0, c1⟩ := (hwin.below hB3) jj x hx
        have htk : ws.take (jj + 1) = ws.take jj ++ [x] := by rw [List.take_add_one, hx]; rfl
        have hs3 := hB3.size
        have HN := news2 (((wr.alloc (.cells #[.int .i64 x.1, .int .i64 x.2] 56)).alloc (.cells #[.int .i64 x.1, .int .i64 x.2] 56)).alloc (.cells #[.int .i64 x.1, .int .i64 x.2] 59)) (.int .i64 x.1) (.int .i64 x.2) 59 rfl rfl
        have HR : Hid (wr.ownsRow wp.heap.size 59 2 (.slice av jj cv) jj (flat (ws.take jj))) := hrow
        have HN1 : Hid (∀ j u, [Value.int .i64 x.1, .int .i64 x.2][j]? = some u → ((((wr.alloc (.cells #[.int .i64 x.1, .int .i64 x.2] 56)).alloc (.cells #[.int .i64 x.1, .int .i64 x.2] 56)).alloc (.cells #[.int .i64 x.1, .int .i64 x.2] 59)).alloc (.cells #[.int .i64 x.1, .int .i64 x.2] 59)).cell? ((⟨wr.heap.size + 1 + 1 + 1, 0, none⟩ : Addr).add j) = some u) := by have h := HN.1; simp only [World.size_alloc] at h; exact h
        have HN2 : Hid (∀ u ∈ [Value.int .i64 x.1, .int .i64 x.2], u.oneCell' = true) := HN.2
        clear HN hrow
        go_wp2_with (first
          | (go_at_call 5; refine (awin_any x _).mono ?_; rintro e w' ⟨rfl, rfl⟩)
          | (at_builtin; refine wpList_append_own _ rfl (.tmp 177) (.tmp 180) 54 rfl wp.heap.size 59 i59 (.agg #[.int .i64 0, .int .i64 0]) 2 16 Yba.underlying54 hi hz0 hz1 hz2 rfl (by decide) (.slice av jj cv) jj (flat (ws.take jj)) rfl ((((HR.out.alloc _).alloc _).alloc _).alloc _) ⟨wr.heap.size + 1 + 1 + 1, 0, none⟩ 1 1 [.int .i64 x.1, .int .i64 x.2] rfl rfl HN1.out HN2.out (by unfold maxLen; omega) (by omega) (by simp; omega) ?_))
        intro v' w1 hown hgr _
        have HW : Hid (w1.ownsRow wp.heap.size 59 2 v' (jj + 1) (flat (ws.take (jj + 1))) ∧ Below wp.heap.size wp w1) := by rw [htk]; exact want_step HR.out hB3 hB3.size hown hgr
        clear hown hgr HR HN1 HN2
        go_wp2
        go_roundw
        case rel => exact ⟨jj + 1, by omega, by go_num, HW.out.1, HW.out.2⟩
        case measure => simp [intOf]; omega
      · obtain rfl : jj = ws.length := by omega
        rw [List.take_length] at hrow
        have HF : Hid (wr.ownsRow wp.heap.size 59 2 (.slice av ws.length cv) (fcs css ia).length (flat (fcs css ia)) ∧ Below wp.heap.size wp wr) := ⟨by rw [hgd]; exact hrow, hB3⟩
        clear hrow hB3
        go_wp2
        exact hR _ HF.out.1 HF.out.2
  · have hgd : fcs css ia = [] := by unfold fcs; rw [List.getD_eq_getElem?_getD, List.getElem?_eq_none (by omega)]; rfl
    have HF : Hid (wp.ownsRow wp.heap.size 59 2 (.slice none 0 0) (fcs css ia).length (flat (fcs css ia)) ∧ Below wp.heap.size wp wp) := ⟨by rw [hgd]; exact World.ownsRow_nil _ _ _ _, Below.refl _ _⟩
    go_wp2
    exact hR _ HF.out.1 HF.out.2

set_option maxRecDepth 1000000 in
set_option maxHeartbeats 4000000 in
theorem segB2 {w0 wp wq : World} {ao po : Option Addr} {cap pcap : Nat} {css : List (List (Int × Int))} {qs : List Part} {n : Nat} {vN vP : Value} {ptrs cells : List Value} {a b stop ia ib : Nat}
    (E : Env w0 wp ao po css qs n vN vP ptrs cells) (wa : List (Int × Int)) (hla : wa.length ≤ 1048576) {v : Value} (hw6 : wq.ownsRow wp.heap.size 59 2 v wa.length (flat wa)) (hB6 : Below wp.heap.size wp wq) (R : Code)
    (hR : AtC w0 wp ao po cap pcap css qs n a b stop ia ib (wa ++ fcs css ib) R)
    {u5 u6 u7 u8 u9 u10 u11 u12 u13 u16 u17 u18 u19 u20 u21 u22 u23 u27 u28 u29 u30 u31 u32 u33 u34 u35 u36 u37 u38 u39 u40 u41 u42 u43 u44 u45 u46 u47 u48 u49 u50 u51 u52 u53 u54 u55 u56 u57 u58 u59 u60 u61 u62 u63 u64 u65 u66 u67 u68 u69 u70 u71 u72 u73 u74 u75 u76 u77 u78 u79 u80 u81 u82 u83 u84 u85 u86 u87 u88 u89 u90 u91 u92 u93 u94 u95 u96 u97 u98 u99 u100 u101 u102 u103 u104 u105 u106 u107 u108 u109 u110 u111 u112 u113 u114 u115 u116 u117 u118 u119 u120 u121 u122 u123 u124 u125 u126 u127 u128 u129 u130 u131 u132 u133 u134 u135 u136 u137 u138 u139 u140 u141 u142 u143 u144 u145 u146 u147 u148 u149 u150 u151 u152 u153 u154 u155 u156 u157 u158 u159 u160 u161 u162 u163 u164 u165 u166 u167 u168 u169 u170 u171 u172 u173 u174 u175 u176 u177 u178 u179 u180 u181 u182 u183 u184 u185 u186 u187 u188 u189 u190 u191 u192 u193 u194 u195 u196 u197 u198 u199 u200 u201 u202 u203 u204 u205 u206 u207 u208 u209 u210 u211 u212 u213 u214 u215 u216 u217 u218 u219 u220 u221 u222 u223 u224 u225 u226 u227 u228 u229 u230 u231 u232 u233 u234 u235 u236 u237 u238 u239 u240 u241 u242 u243 u244 u245 u246 u247 u248 u249 u250 u251 u252 u253 u254 u255 u256 u257 u258 u259 u260 u261 u262 u263 u264 u265 u266 u267 u268 u269 u270 u271 u272 u273 u274 u275 u276 u277 u278 u279 u280 u281 u282 u283 u284 u285 u286 u287 u288 u289 u290 u291 u292 u293 u294 u295 u296 u297 u298 u299 u300 u301 u302 u303 u304 u305 u306 u307 u308 u309 u310 u311 u312 u313 u314 u315 u316 u317 u318 u319 u320 u321 u322 u323 u324 u325 u326 u327 u328 u329 u330 u331 u332 u333 u334 u335 u336 u337 u338 u339 u340 u341 u342 u343 u344 u345 u346 u347 u348 u349 u350 u351 u352 u353 u354 u355 u356 u357 u358 u359 u360 u361 u362 u363 u364 u365 u366 u367 u368 u369 u370 u371 u372 u373 u374 u375 u376 u377 u378 u379 u380 u381 u382 u383 u384 u385 u386 u387 u388 u389 u390 u391 u392 u393 u394 u395 u396 u397 u398 u399 u400 u401 u402 u403 u404 : Value} : Code.wp Yba.prog (.seq (nth 14 body) R) (QQ w0) ⟨#[.slice ao css.length cap, .slice po qs.length pcap, .int .u64 a, .int .u64 b, .int .u64 stop, u5, u6, u7, u8, u9, u10, u11, u12, u13, .int .i64 n, ptr w0.heap.size, u16, u17, u18, u19, u20, u21, u22, u23, .int .i64 (ia : Nat), .int .i64 (ib : Nat), v, u27, u28, u29, u30, u31, u32, u33, u34, u35, u36, u37, u38, u39, u40, u41, u42, u43, u44, u45, u46, u47, u48, u49, u50, u51, u52, u53, u54, u55, u56, u57, u58, u59, u60, u61, u62, u63, u64, u65, u66, u67, u68, u69, u70, u71, u72, u73, u74, u75, u76, u77, u78, u79, u80, u81, u82, u83, u84, u85, u86, u87, u88, u89, u90, u91, u92, u93, u94, u95, u96, u97, u98, u99, u100, u101, u102, u103, u104, u105, u106, u107, u108, u109, u110, u111, u112, u113, u114, u115, u116, u117, u118, u119, u120, u121, u122, u123, u124, u125, u126, u127, u128, u129, u130, u131, u132, u133, u134, u135, u136, u137, u138, u139, u140, u141, u142, u143, u144, u145, u146, u147, u148, u149, u150, u151, u152, u153, u154, u155, u156, u157, u158, u159, u160, u161, u162, u163, u164, u165, u166, u167, u168, u169, u170, u171, u172, u173, u174, u175, u176, u177, u178, u179, u180, u181, u182, u183, u184, u185, u186, u187, u188, u189, u190, u191, u192, u193, u194, u195, u196, u197, u198, u199, u200, u201, u202, u203, u204, u205, u206, u207, u208, u209, u210, u211, u212, u213, u214, u215, u216, u217, u218, u219, u220, u221, u222, u223, u224, u225, u226, u227, u228, u229, u230, u231, u232, u233, u234, u235, u236, u237, u238, u239, u240, u241, u242, u243, u244, u245, u246, u247, u248, u249, u250, u251, u252, u253, u254, u255, u256, u257, u258, u259, u260, u261, u262, u263, u264, u265, u266, u267, u268, u269, u270, u271, u272, u273, u274, u275, u276, u277, u278, u279, u280, u281, u282, u283, u284, u285, u286, u287, u288, u289, u290, u291, u292, u293, u294, u295, u296, u297, u298, u299, u300, u301, u302, u303, u304, u305, u306, u307, u308, u309, u310, u311, u312, u313, u314, u315, u316, u317, u318, u319, u320, u321, u322, u323, u324, u325, u326, u327, u328, u329, u330, u331, u332, u333, u334, u335, u336, u337, u338, u339, u340, u341, u342, u343, u344, u345, u346, u347, u348, u349, u350, u351, u352, u353, u354, u355, u356, u357, u358, u359, u360, u361, u362, u363, u364, u365, u366, u367, u368, u369, u370, u371, u372, u373, u374, u375, u376, u377, u378, u379, u380, u381, u382, u383, u384, u385, u386, u387, u388, u389, u390, u391, u392, u393, u394, u395, u396, u397, u398, u399, u400, u401, u402, u403, u404], []⟩ wq := by
  conv => arg 2; arg 1; whnf
  obtain ⟨hn1, hn2, hn3, hql, ht, hC, hP, HP⟩ := E
  clear hP
  obtain ⟨a6, c6, rfl⟩ := row_form hw6
  have hBel : Below w0.heap.size w0 wq := HP.bel.trans (hB6.mono HP.bel.size)
  go_upto_if 186 with fail
  by_cases hkc : ib < css.length
  · obtain ⟨ws, hws⟩ : ∃ ws, css[ib]? = some ws := ⟨_, List.getElem?_eq_getElem hkc⟩
    have hgd : fcs css ib = ws := by unfold fcs; rw [List.getD_eq_getElem?_getD, hws]; rfl
    have hwl2 := total_le hws
    obtain ⟨bb, o, rfl, hb, ao2, c2, hc0, hwin⟩ := hC ib ws hws
    have hc := (hBel.cell (p := ⟨bb, o + ib, none⟩) hb).trans hc0
    have hbq : bb < wq.heap.size := Nat.lt_of_lt_of_le hb hBel.size
    clear hc0
    obtain ⟨i59, hi, hz0, hz1, hz2⟩ := info_parts info59
    have hkb : decide (ib < css.length) = true := decide_eq_true hkc
    rw [hkb]
    go_wp2_with fail
    go_loopw [26, 192] (fun v j w3 => ∃ jj : Nat, jj ≤ ws.length ∧ j = .int .i64 jj ∧ w3.ownsRow wp.heap.size 59 2 v (wa.length + jj) (flat (wa ++ ws.take jj)) ∧ Below wp.heap.size wp w3) (fun _ j _ => ws.length - (intOf j).toNat)
    case atStart => exact ⟨0, Nat.zero_le _, rfl, by simpa using hw6, hB6⟩
    case round =>
      obtain ⟨jj, hjj, rfl, hrow, hB3⟩ := hrel
      obtain ⟨av, cv, rfl⟩ := row_form hrow
      by_cases hj : jj < ws.length
      · obtain ⟨x, hx⟩ : ∃ x, ws[jj]? = some x := ⟨_, List.getElem?_eq_getElem hj⟩
        obtain ⟨b2, o2, rfl, hb2, c0, c1⟩ := (hwin.below (HP.bel.trans (hB3.mono HP.bel.size))) jj x hx
        have htk : wa ++ ws.take (jj + 1) = (wa ++ ws.take jj) ++ [x] := by rw [List.take_add_one, hx]; simp
        have hs3 := hB3.size
        obtain ⟨m, hm⟩ : ∃ m, wa.length + jj = m := ⟨_, rfl⟩
        obtain ⟨xs, hxs⟩ : ∃ xs, wa ++ ws.take jj = xs := ⟨_, rfl⟩
        rw [hm, hxs] at hrow
        rw [hxs] at htk
        have HN := news2 (((wr.alloc (.cells #[.int .i64 x.1, .int .i64 x.2] 56)).alloc (.cells #[.int .i64 x.1, .int .i64 x.2] 56)).alloc (.cells #[.int .i64 x.1, .int .i64 x.2] 59)) (.int .i64 x.1) (.int .i64 x.2) 59 rfl rfl
        have HR : Hid (wr.ownsRow wp.heap.size 59 2 (.slice av m cv) m (flat xs)) := hrow
        have HN1 : Hid (∀ j u, [Value.int .i64 x.1, .int .i64 x.2][j]? = some u → ((((wr.alloc (.cells #[.int .i64 x.1, .int .i64 x.2] 56)).alloc (.cells #[.int .i64 x.1, .int .i64 x.2] 56)).alloc (.cells #[.int .i64 x.1, .int .i64 x.2] 59)).alloc (.cells #[.int .i64 x.1, .int .i64 x.2] 59)).cell? ((⟨wr.heap.size + 1 + 1 + 1, 0, none⟩ : Addr).add j) = some u) := by have h := HN.1; simp only [World.size_alloc] at h; exact h
        have HN2 : Hid (∀ u ∈ [Value.int .i64 x.1, .int .i64 x.2], u.oneCell' = true) := HN.2
        have hmle : m ≤ 2097152 := by omega
        clear HN hrow
        rw [hm]
        go_wp2_with (first
          | (go_at_call 5; refine (awin_any x _).mono ?_; rintro e w' ⟨rfl, rfl⟩)
          | (at_builtin; refine wpList_append_own _ rfl (.tmp 196) (.tmp 199) 54 rfl wp.heap.size 59 i59 (.agg #[.int .i64 0, .int .i64 0]) 2 16 Yba.underlying54 hi hz0 hz1 hz2 rfl (by decide) (.slice av m cv) m (flat xs) rfl ((((HR.out.alloc _).alloc _).alloc _).alloc _) ⟨wr.heap.size + 1 + 1 + 1, 0, none⟩ 1 1 [.int .i64 x.1, .int .i64 x.2] rfl rfl HN1.out HN2.out (by unfold maxLen; omega) (by omega) (by simp; omega) ?_))
        intro v' w1 hown hgr _
        have HW : Hid (w1.ownsRow wp.heap.size 59 2 v' (wa.length + (jj + 1)) (flat (wa ++ ws.take (jj + 1))) ∧ Below wp.heap.size wp w1) := by rw [htk, show wa.length + (jj + 1) = m + 1 by omega]; exact want_step HR.out hB3 hB3.size hown hgr
        clear hown hgr HR HN1 HN2
        go_wp2
        go_roundw
        case rel => exact ⟨jj + 1, by omega, by go_num, HW.out.1, HW.out.2⟩
        case measure => simp [intOf]; omega
      · obtain rfl : jj = ws.length := by omega
        rw [List.take_length] at hrow
        have HF : Hid (wr.ownsRow wp.heap.size 59 2 (.slice av (wa.length + ws.length) cv) (wa ++ fcs css ib).length (flat (wa ++ fcs css ib)) ∧ Below wp.heap.size wp wr) := ⟨by rw [hgd, List.length_append]; exact hrow, hB3⟩
        clear hrow hB3
        go_wp2
        exact hR _ HF.out.1 HF.out.2
  · have hgd : fcs css ib = [] := by unfold fcs; rw [List.getD_eq_getElem?_getD, List.getElem?_eq_none (by omega)]; rfl
    have HF : Hid (wq.ownsRow wp.heap.size 59 2 (.slice a6 wa.length c6) (wa ++ fcs css ib).length (flat (wa ++ fcs css ib)) ∧ Below wp.heap.size wp wq) := ⟨by rw [hgd, List.append_nil]; exact hw6, hB6⟩
    go_wp2
    exact hR _ HF.out.1 HF.out.2
end Go.Proofs.Ybulkdjpk.lawS5535AWhole
