/-
  5535A: the run is built (loops 1 to 5).
-/
import Derived.Test.YbulkdjpkAS0
namespace Go.Proofs.Ybulkdjpk.lawS5535AWhole
open Go.RowKit Go.Deep

/-- Ahead of loop 4: the nodes are there. -/
def AtA2 (w0 : World) (ao po : Option Addr) (cap pcap : Nat) (css : List (List (Int × Int))) (qs : List Part) (a b stop : Nat) (R : Code) : Prop :=
  ∀ {u5 u6 u7 u8 u9 u10 u11 u12 u13 u16 u17 u18 u19 u20 u21 u22 u23 u24 u25 u26 u27 u28 u29 u30 u31 u32 u33 u34 u35 u36 u37 u38 u39 u40 u41 u42 u43 u44 u45 u46 u47 u48 u49 u50 u51 u52 u53 u54 u55 u56 u57 u58 u59 u60 u61 u62 u63 u64 u65 u66 u67 u68 u69 u70 u71 u72 u73 u74 u75 u76 u77 u78 u79 u80 u81 u82 u83 u84 u85 u86 u87 u88 u89 u90 u91 u92 u93 u94 u95 u96 u97 u98 u99 u100 u101 u102 u103 u104 u105 u106 u107 u108 u109 u110 u111 u112 u113 u114 u115 u116 u117 u118 u119 u120 u121 u122 u123 u124 u125 u126 u127 u128 u129 u130 u131 u132 u133 u134 u135 u136 u137 u138 u139 u140 u141 u142 u143 u144 u145 u146 u147 u148 u149 u150 u151 u152 u153 u154 u155 u156 u157 u158 u159 u160 u161 u162 u163 u164 u165 u166 u167 u168 u169 u170 u171 u172 u173 u174 u175 u176 u177 u178 u179 u180 u181 u182 u183 u184 u185 u186 u187 u188 u189 u190 u191 u192 u193 u194 u195 u196 u197 u198 u199 u200 u201 u202 u203 u204 u205 u206 u207 u208 u209 u210 u211 u212 u213 u214 u215 u216 u217 u218 u219 u220 u221 u222 u223 u224 u225 u226 u227 u228 u229 u230 u231 u232 u233 u234 u235 u236 u237 u238 u239 u240 u241 u242 u243 u244 u245 u246 u247 u248 u249 u250 u251 u252 u253 u254 u255 u256 u257 u258 u259 u260 u261 u262 u263 u264 u265 u266 u267 u268 u269 u270 u271 u272 u273 u274 u275 u276 u277 u278 u279 u280 u281 u282 u283 u284 u285 u286 u287 u288 u289 u290 u291 u292 u293 u294 u295 u296 u297 u298 u299 u300 u301 u302 u303 u304 u305 u306 u307 u308 u309 u310 u311 u312 u313 u314 u315 u316 u317 u318 u319 u320 u321 u322 u323 u324 u325 u326 u327 u328 u329 u330 u331 u332 u333 u334 u335 u336 u337 u338 u339 u340 u341 u342 u343 u344 u345 u346 u347 u348 u349 u350 u351 u352 u353 u354 u355 u356 u357 u358 u359 u360 u361 u362 u363 u364 u365 u366 u367 u368 u369 u370 u371 u372 u373 u374 u375 u376 u377 u378 u379 u380 u381 u382 u383 u384 u385 u386 u387 u388 u389 u390 u391 u392 u393 u394 u395 u396 u397 u398 u399 u400 u401 u402 u403 u404 : Value} {k : Nat} {vN : Value} {ptrs : List Value} (wk : World), 1 ≤ k → k ≤ 1048576 → css.length ≤ k → total css ≤ 1048576 → CarryN w0 wk (fcs css) k vN ptrs → Code.wp Yba.prog R (QQ w0) ⟨#[.slice ao css.length cap, .slice po qs.length pcap, .int .u64 a, .int .u64 b, .int .u64 stop, u5, u6, u7, u8, u9, u10, u11, u12, u13, .int .i64 (k : Nat), ptr w0.heap.size, u16, u17, u18, u19, u20, u21, u22, u23, u24, u25, u26, u27, u28, u29, u30, u31, u32, u33, u34, u35, u36, u37, u38, u39, u40, u41, u42, u43, u44, u45, u46, u47, u48, u49, u50, u51, u52, u53, u54, u55, u56, u57, u58, u59, u60, u61, u62, u63, u64, u65, u66, u67, u68, u69, u70, u71, u72, u73, u74, u75, u76, u77, u78, u79, u80, u81, u82, u83, u84, u85, u86, u87, u88, u89, u90, u91, u92, u93, u94, u95, u96, u97, u98, u99, u100, u101, u102, u103, u104, u105, u106, u107, u108, u109, u110, u111, u112, u113, u114, u115, u116, u117, u118, u119, u120, u121, u122, u123, u124, u125, u126, u127, u128, u129, u130, u131, u132, u133, u134, u135, u136, u137, u138, u139, u140, u141, u142, u143, u144, u145, u146, u147, u148, u149, u150, u151, u152, u153, u154, u155, u156, u157, u158, u159, u160, u161, u162, u163, u164, u165, u166, u167, u168, u169, u170, u171, u172, u173, u174, u175, u176, u177, u178, u179, u180, u181, u182, u183, u184, u185, u186, u187, u188, u189, u190, u191, u192, u193, u194, u195, u196, u197, u198, u199, u200, u201, u202, u203, u204, u205, u206, u207, u208, u209, u210, u211, u212, u213, u214, u215, u216, u217, u218, u219, u220, u221, u222, u223, u224, u225, u226, u227, u228, u229, u230, u231, u232, u233, u234, u235, u236, u237, u238, u239, u240, u241, u242, u243, u244, u245, u246, u247, u248, u249, u250, u251, u252, u253, u254, u255, u256, u257, u258, u259, u260, u261, u262, u263, u264, u265, u266, u267, u268, u269, u270, u271, u272, u273, u274, u275, u276, u277, u278, u279, u280, u281, u282, u283, u284, u285, u286, u287, u288, u289, u290, u291, u292, u293, u294, u295, u296, u297, u298, u299, u300, u301, u302, u303, u304, u305, u306, u307, u308, u309, u310, u311, u312, u313, u314, u315, u316, u317, u318, u319, u320, u321, u322, u323, u324, u325, u326, u327, u328, u329, u330, u331, u332, u333, u334, u335, u336, u337, u338, u339, u340, u341, u342, u343, u344, u345, u346, u347, u348, u349, u350, u351, u352, u353, u354, u355, u356, u357, u358, u359, u360, u361, u362, u363, u364, u365, u366, u367, u368, u369, u370, u371, u372, u373, u374, u375, u376, u377, u378, u379, u380, u381, u382, u383, u384, u385, u386, u387, u388, u389, u390, u391, u392, u393, u394, u395, u396, u397, u398, u399, u400, u401, u402, u403, u404], []⟩ wk
/-- Behind loop 4: the partitions are there. -/
def AtB (w0 : World) (ao po : Option Addr) (cap pcap : Nat) (css : List (List (Int × Int))) (qs : List Part) (a b stop k : Nat) (vN : Value) (ptrs : List Value) (R : Code) : Prop :=
  ∀ {u5 u6 u7 u8 u9 u10 u11 u12 u13 u16 u17 u18 u19 u20 u21 u22 u23 u24 u25 u26 u27 u28 u29 u30 u31 u32 u33 u34 u35 u36 u37 u38 u39 u40 u41 u42 u43 u44 u45 u46 u47 u48 u49 u50 u51 u52 u53 u54 u55 u56 u57 u58 u59 u60 u61 u62 u63 u64 u65 u66 u67 u68 u69 u70 u71 u72 u73 u74 u75 u76 u77 u78 u79 u80 u81 u82 u83 u84 u85 u86 u87 u88 u89 u90 u91 u92 u93 u94 u95 u96 u97 u98 u99 u100 u101 u102 u103 u104 u105 u106 u107 u108 u109 u110 u111 u112 u113 u114 u115 u116 u117 u118 u119 u120 u121 u122 u123 u124 u125 u126 u127 u128 u129 u130 u131 u132 u133 u134 u135 u136 u137 u138 u139 u140 u141 u142 u143 u144 u145 u146 u147 u148 u149 u150 u151 u152 u153 u154 u155 u156 u157 u158 u159 u160 u161 u162 u163 u164 u165 u166 u167 u168 u169 u170 u171 u172 u173 u174 u175 u176 u177 u178 u179 u180 u181 u182 u183 u184 u185 u186 u187 u188 u189 u190 u191 u192 u193 u194 u195 u196 u197 u198 u199 u200 u201 u202 u203 u204 u205 u206 u207 u208 u209 u210 u211 u212 u213 u214 u215 u216 u217 u218 u219 u220 u221 u222 u223 u224 u225 u226 u227 u228 u229 u230 u231 u232 u233 u234 u235 u236 u237 u238 u239 u240 u241 u242 u243 u244 u245 u246 u247 u248 u249 u250 u251 u252 u253 u254 u255 u256 u257 u258 u259 u260 u261 u262 u263 u264 u265 u266 u267 u268 u269 u270 u271 u272 u273 u274 u275 u276 u277 u278 u279 u280 u281 u282 u283 u284 u285 u286 u287 u288 u289 u290 u291 u292 u293 u294 u295 u296 u297 u298 u299 u300 u301 u302 u303 u304 u305 u306 u307 u308 u309 u310 u311 u312 u313 u314 u315 u316 u317 u318 u319 u320 u321 u322 u323 u324 u325 u326 u327 u328 u329 u330 u331 u332 u333 u334 u335 u336 u337 u338 u339 u340 u341 u342 u343 u344 u345 u346 u347 u348 u349 u350 u351 u352 u353 u354 u355 u356 u357 u358 u359 u360 u361 u362 u363 u364 u365 u366 u367 u368 u369 u370 u371 u372 u373 u374 u375 u376 u377 u378 u379 u380 u381 u382 u383 u384 u385 u386 u387 u388 u389 u390 u391 u392 u393 u394 u395 u396 u397 u398 u399 u400 u401 u402 u403 u404 : Value} {vP : Value} {cells : List Value} (wk : World), CarryP w0 wk (fcs css) k vN ptrs qs qs.length vP cells → Code.wp Yba.prog R (QQ w0) ⟨#[.slice ao css.length cap, .slice po qs.length pcap, .int .u64 a, .int .u64 b, .int .u64 stop, u5, u6, u7, u8, u9, u10, u11, u12, u13, .int .i64 (k : Nat), ptr w0.heap.size, u16, u17, u18, u19, u20, u21, u22, u23, u24, u25, u26, u27, u28, u29, u30, u31, u32, u33, u34, u35, u36, u37, u38, u39, u40, u41, u42, u43, u44, u45, u46, u47, u48, u49, u50, u51, u52, u53, u54, u55, u56, u57, u58, u59, u60, u61, u62, u63, u64, u65, u66, u67, u68, u69, u70, u71, u72, u73, u74, u75, u76, u77, u78, u79, u80, u81, u82, u83, u84, u85, u86, u87, u88, u89, u90, u91, u92, u93, u94, u95, u96, u97, u98, u99, u100, u101, u102, u103, u104, u105, u106, u107, u108, u109, u110, u111, u112, u113, u114, u115, u116, u117, u118, u119, u120, u121, u122, u123, u124, u125, u126, u127, u128, u129, u130, u131, u132, u133, u134, u135, u136, u137, u138, u139, u140, u141, u142, u143, u144, u145, u146, u147, u148, u149, u150, u151, u152, u153, u154, u155, u156, u157, u158, u159, u160, u161, u162, u163, u164, u165, u166, u167, u168, u169, u170, u171, u172, u173, u174, u175, u176, u177, u178, u179, u180, u181, u182, u183, u184, u185, u186, u187, u188, u189, u190, u191, u192, u193, u194, u195, u196, u197, u198, u199, u200, u201, u202, u203, u204, u205, u206, u207, u208, u209, u210, u211, u212, u213, u214, u215, u216, u217, u218, u219, u220, u221, u222, u223, u224, u225, u226, u227, u228, u229, u230, u231, u232, u233, u234, u235, u236, u237, u238, u239, u240, u241, u242, u243, u244, u245, u246, u247, u248, u249, u250, u251, u252, u253, u254, u255, u256, u257, u258, u259, u260, u261, u262, u263, u264, u265, u266, u267, u268, u269, u270, u271, u272, u273, u274, u275, u276, u277, u278, u279, u280, u281, u282, u283, u284, u285, u286, u287, u288, u289, u290, u291, u292, u293, u294, u295, u296, u297, u298, u299, u300, u301, u302, u303, u304, u305, u306, u307, u308, u309, u310, u311, u312, u313, u314, u315, u316, u317, u318, u319, u320, u321, u322, u323, u324, u325, u326, u327, u328, u329, u330, u331, u332, u333, u334, u335, u336, u337, u338, u339, u340, u341, u342, u343, u344, u345, u346, u347, u348, u349, u350, u351, u352, u353, u354, u355, u356, u357, u358, u359, u360, u361, u362, u363, u364, u365, u366, u367, u368, u369, u370, u371, u372, u373, u374, u375, u376, u377, u378, u379, u380, u381, u382, u383, u384, u385, u386, u387, u388, u389, u390, u391, u392, u393, u394, u395, u396, u397, u398, u399, u400, u401, u402, u403, u404], []⟩ wk

set_option maxRecDepth 1000000 in
set_option maxHeartbeats 4000000 in
theorem segA1 {w0 : World} {ao po : Option Addr} {cap pcap : Nat} {css : List (List (Int × Int))} {qs : List Part} {a b stop : Nat}
    (hbig : ¬ 1048576 < (css.length : Int)) (hbig2 : ¬ 1048576 < (qs.length : Int)) (hwl : ∀ (i : Nat) (ws : List (Int × Int)), css[i]? = some ws → ws.length ≤ 140737488355328) (hC : CrashIn w0 ao css) (R : Code)
    (hR : AtA2 w0 ao po cap pcap css qs a b stop R)
    {u5 u6 u7 u8 u9 u10 u11 u12 u13 u14 u15 u16 u17 u18 u19 u20 u21 u22 u23 u24 u25 u26 u27 u28 u29 u30 u31 u32 u33 u34 u35 u36 u37 u38 u39 u40 u41 u42 u43 u44 u45 u46 u47 u48 u49 u50 u51 u52 u53 u54 u55 u56 u57 u58 u59 u60 u61 u62 u63 u64 u65 u66 u67 u68 u69 u70 u71 u72 u73 u74 u75 u76 u77 u78 u79 u80 u81 u82 u83 u84 u85 u86 u87 u88 u89 u90 u91 u92 u93 u94 u95 u96 u97 u98 u99 u100 u101 u102 u103 u104 u105 u106 u107 u108 u109 u110 u111 u112 u113 u114 u115 u116 u117 u118 u119 u120 u121 u122 u123 u124 u125 u126 u127 u128 u129 u130 u131 u132 u133 u134 u135 u136 u137 u138 u139 u140 u141 u142 u143 u144 u145 u146 u147 u148 u149 u150 u151 u152 u153 u154 u155 u156 u157 u158 u159 u160 u161 u162 u163 u164 u165 u166 u167 u168 u169 u170 u171 u172 u173 u174 u175 u176 u177 u178 u179 u180 u181 u182 u183 u184 u185 u186 u187 u188 u189 u190 u191 u192 u193 u194 u195 u196 u197 u198 u199 u200 u201 u202 u203 u204 u205 u206 u207 u208 u209 u210 u211 u212 u213 u214 u215 u216 u217 u218 u219 u220 u221 u222 u223 u224 u225 u226 u227 u228 u229 u230 u231 u232 u233 u234 u235 u236 u237 u238 u239 u240 u241 u242 u243 u244 u245 u246 u247 u248 u249 u250 u251 u252 u253 u254 u255 u256 u257 u258 u259 u260 u261 u262 u263 u264 u265 u266 u267 u268 u269 u270 u271 u272 u273 u274 u275 u276 u277 u278 u279 u280 u281 u282 u283 u284 u285 u286 u287 u288 u289 u290 u291 u292 u293 u294 u295 u296 u297 u298 u299 u300 u301 u302 u303 u304 u305 u306 u307 u308 u309 u310 u311 u312 u313 u314 u315 u316 u317 u318 u319 u320 u321 u322 u323 u324 u325 u326 u327 u328 u329 u330 u331 u332 u333 u334 u335 u336 u337 u338 u339 u340 u341 u342 u343 u344 u345 u346 u347 u348 u349 u350 u351 u352 u353 u354 u355 u356 u357 u358 u359 u360 u361 u362 u363 u364 u365 u366 u367 u368 u369 u370 u371 u372 u373 u374 u375 u376 u377 u378 u379 u380 u381 u382 u383 u384 u385 u386 u387 u388 u389 u390 u391 u392 u393 u394 u395 u396 u397 u398 u399 u400 u401 u402 u403 u404 : Value} : Code.wp Yba.prog (.seq (nth 0 body) (.seq (nth 1 body) (.seq (nth 2 body) (.seq (nth 3 body) (.seq (nth 4 body) (.seq (nth 5 body) (.seq (nth 6 body) (.seq (nth 7 body) (.seq (nth 8 body) R))))))))) (QQ w0) ⟨#[.slice ao css.length cap, .slice po qs.length pcap, .int .u64 a, .int .u64 b, .int .u64 stop, u5, u6, u7, u8, u9, u10, u11, u12, u13, u14, u15, u16, u17, u18, u19, u20, u21, u22, u23, u24, u25, u26, u27, u28, u29, u30, u31, u32, u33, u34, u35, u36, u37, u38, u39, u40, u41, u42, u43, u44, u45, u46, u47, u48, u49, u50, u51, u52, u53, u54, u55, u56, u57, u58, u59, u60, u61, u62, u63, u64, u65, u66, u67, u68, u69, u70, u71, u72, u73, u74, u75, u76, u77, u78, u79, u80, u81, u82, u83, u84, u85, u86, u87, u88, u89, u90, u91, u92, u93, u94, u95, u96, u97, u98, u99, u100, u101, u102, u103, u104, u105, u106, u107, u108, u109, u110, u111, u112, u113, u114, u115, u116, u117, u118, u119, u120, u121, u122, u123, u124, u125, u126, u127, u128, u129, u130, u131, u132, u133, u134, u135, u136, u137, u138, u139, u140, u141, u142, u143, u144, u145, u146, u147, u148, u149, u150, u151, u152, u153, u154, u155, u156, u157, u158, u159, u160, u161, u162, u163, u164, u165, u166, u167, u168, u169, u170, u171, u172, u173, u174, u175, u176, u177, u178, u179, u180, u181, u182, u183, u184, u185, u186, u187, u188, u189, u190, u191, u192, u193, u194, u195, u196, u197, u198, u199, u200, u201, u202, u203, u204, u205, u206, u207, u208, u209, u210, u211, u212, u213, u214, u215, u216, u217, u218, u219, u220, u221, u222, u223, u224, u225, u226, u227, u228, u229, u230, u231, u232, u233, u234, u235, u236, u237, u238, u239, u240, u241, u242, u243, u244, u245, u246, u247, u248, u249, u250, u251, u252, u253, u254, u255, u256, u257, u258, u259, u260, u261, u262, u263, u264, u265, u266, u267, u268, u269, u270, u271, u272, u273, u274, u275, u276, u277, u278, u279, u280, u281, u282, u283, u284, u285, u286, u287, u288, u289, u290, u291, u292, u293, u294, u295, u296, u297, u298, u299, u300, u301, u302, u303, u304, u305, u306, u307, u308, u309, u310, u311, u312, u313, u314, u315, u316, u317, u318, u319, u320, u321, u322, u323, u324, u325, u326, u327, u328, u329, u330, u331, u332, u333, u334, u335, u336, u337, u338, u339, u340, u341, u342, u343, u344, u345, u346, u347, u348, u349, u350, u351, u352, u353, u354, u355, u356, u357, u358, u359, u360, u361, u362, u363, u364, u365, u366, u367, u368, u369, u370, u371, u372, u373, u374, u375, u376, u377, u378, u379, u380, u381, u382, u383, u384, u385, u386, u387, u388, u389, u390, u391, u392, u393, u394, u395, u396, u397, u398, u399, u400, u401, u402, u403, u404], []⟩ w0 := by
  conv => arg 2; arg 1; whnf
  conv => arg 2; arg 2; arg 1; whnf
  conv => arg 2; arg 2; arg 2; arg 1; whnf
  conv => arg 2; arg 2; arg 2; arg 2; arg 1; whnf
  conv => arg 2; arg 2; arg 2; arg 2; arg 2; arg 1; whnf
  conv => arg 2; arg 2; arg 2; arg 2; arg 2; arg 2; arg 1; whnf
  conv => arg 2; arg 2; arg 2; arg 2; arg 2; arg 2; arg 2; arg 1; whnf
  conv => arg 2; arg 2; arg 2; arg 2; arg 2; arg 2; arg 2; arg 2; arg 1; whnf
  conv => arg 2; arg 2; arg 2; arg 2; arg 2; arg 2; arg 2; arg 2; arg 2; arg 1; whnf
  go_wp2_with fail
  go_loopw [11, 59] (fun t i wr => ∃ k : Nat, k ≤ css.length ∧ i = .int .i64 k ∧ t = .int .i64 (total (css.take k) : Nat) ∧ total (css.take k) ≤ 1048576 ∧ wr = w0) (fun _ i _ => css.length - (intOf i).toNat)
  case atStart => exact ⟨0, Nat.zero_le _, rfl, rfl, Nat.zero_le _, rfl⟩
  case round =>
    obtain ⟨k, hk, rfl, rfl, ht, rfl⟩ := hrel
    by_cases hlt : k < css.length
    · obtain ⟨ws, hws⟩ : ∃ ws, css[k]? = some ws := ⟨_, List.getElem?_eq_getElem hlt⟩
      obtain ⟨bb, o, rfl, hb, ao2, c2, hc, _⟩ := hC k ws hws
      have hl2 := hwl k ws hws
      have htk := total_take hws
      generalize total (css.take k) = T at ht htk
      by_cases hov : 1048576 < T + ws.length
      · go_wp2
        refine ⟨_, results_tmp rfl _ _ _, ?_⟩
        exact ⟨rfl, Below.refl _ _⟩
      · go_wp2_with fail
        go_roundw
        case rel => exact ⟨k + 1, by omega, by go_num, by rw [htk]; go_num, by omega, trivial⟩
        case measure => simp [intOf]; omega
    · obtain rfl : k = css.length := by omega
      rw [List.take_length] at ht ⊢
      go_upto_if 73 with fail
      go_cut [14] from 70 to 73 (fun s14 wc => ∃ n : Nat, s14 = .int .i64 n ∧ 1 ≤ n ∧ n ≤ 1048576 ∧ css.length ≤ n ∧ wc = wr)
      case first =>
        by_cases h0 : css.length = 0
        · go_wp2_with fail
          go_meet
          exact ⟨1, rfl, by omega, by omega, by omega, rfl⟩
        · go_wp2_with fail
          go_meet
          exact ⟨css.length, rfl, by omega, by omega, by omega, rfl⟩
      case rest =>
        obtain ⟨n, rfl, hn1, hn2, hn3, rfl⟩ := hcut
        obtain ⟨wz, rfl⟩ : ∃ wz, wz = wc := ⟨_, rfl⟩
        obtain ⟨M, hM⟩ : ∃ M : Nat, n * qs.length = M := ⟨_, rfl⟩
        have hM2 : (n : Int) * (qs.length : Int) = (M : Int) := by rw [← hM]; simp
        have hMle : M ≤ 1048576 * 1048576 := by rw [← hM]; exact Nat.mul_le_mul hn2 (by omega)
        by_cases hmul : 1048576 < M
        · go_wp2
          refine ⟨_, results_tmp rfl _ _ _, ?_⟩
          exact ⟨rfl, Below.refl _ _⟩
        · go_wp2_with fail
          clear hM2 hMle
          go_loopw [16] (fun i wr => ∃ (k : Nat) (vN : Value) (ptrs : List Value), k ≤ n ∧ i = .int .i64 k ∧ CarryN wz wr (fcs css) k vN ptrs) (fun i _ => n - (intOf i).toNat)
          case atStart => exact ⟨0, _, [], Nat.zero_le _, rfl, CarryN.start wz _⟩
          case round =>
            obtain ⟨k, vN, ptrs, hk, rfl, HC⟩ := hrel
            obtain ⟨wo, rfl⟩ : ∃ wo, wo = wr := ⟨_, rfl⟩
            by_cases hlt : k < n
            · have hbs := HC.bel.size
              go_upto_if 89 with fail
              go_cut [17, 19] from 81 to 117 (fun s17 _ wk => CarryN wz wk (fcs css) k vN ptrs ∧ wk.ownsRow wz.heap.size 59 2 s17 (fcs css k).length (flat (fcs css k)))
              case first =>
                by_cases hkc : k < css.length
                · obtain ⟨ws, hws⟩ : ∃ ws, css[k]? = some ws := ⟨_, List.getElem?_eq_getElem hkc⟩
                  have hgd : fcs css k = ws := by unfold fcs; rw [List.getD_eq_getElem?_getD, hws]; rfl
                  have hwl2 := total_le hws
                  obtain ⟨bb, o, rfl, hb, ao2, c2, hc, hwin⟩ := (hC.below HC.bel) k ws hws
                  obtain ⟨i59, hi, hz0, hz1, hz2⟩ := info_parts info59
                  have hkb : decide (k < css.length) = true := decide_eq_true hkc
                  rw [hkb]
                  go_wp2_with fail
                  go_loopw [17, 95] (fun v j w3 => ∃ jj : Nat, jj ≤ ws.length ∧ j = .int .i64 jj ∧ w3.ownsRow wo.heap.size 59 2 v jj (flat (ws.take jj)) ∧ Below wo.heap.size wo w3) (fun _ j _ => ws.length - (intOf j).toNat)
                  case atStart => exact ⟨0, Nat.zero_le _, rfl, World.ownsRow_nil _ _ _ _, Below.refl _ _⟩
                  case round =>
                    obtain ⟨jj, hjj, rfl, hrow, hB3⟩ := hrel
                    obtain ⟨av, cv, rfl⟩ := row_form hrow
                    by_cases hj : jj < ws.length
                    · obtain ⟨x, hx⟩ : ∃ x, ws[jj]? = some x := ⟨_, List.getElem?_eq_getElem hj⟩
                      obtain ⟨b2, o2, rfl, hb2, c0, c1⟩ := (hwin.below hB3) jj x hx
                      have htk : ws.take (jj + 1) = ws.take jj ++ [x] := by rw [List.take_add_one, hx]; rfl
                      have hs3 := hB3.size
                      have HN := news2 (((wr.alloc (.cells #[.int .i64 x.1, .int .i64 x.2] 56)).alloc (.cells #[.int .i64 x.1, .int .i64 x.2] 56)).alloc (.cells #[.int .i64 x.1, .int .i64 x.2] 59)) (.int .i64 x.1) (.int .i64 x.2) 59 rfl rfl
                      have HR : Hid (wr.ownsRow wo.heap.size 59 2 (.slice av jj cv) jj (flat (ws.take jj))) := hrow
                      have HN1 : Hid (∀ j u, [Value.int .i64 x.1, .int .i64 x.2][j]? = some u → ((((wr.alloc (.cells #[.int .i64 x.1, .int .i64 x.2] 56)).alloc (.cells #[.int .i64 x.1, .int .i64 x.2] 56)).alloc (.cells #[.int .i64 x.1, .int .i64 x.2] 59)).alloc (.cells #[.int .i64 x.1, .int .i64 x.2] 59)).cell? ((⟨wr.heap.size + 1 + 1 + 1, 0, none⟩ : Addr).add j) = some u) := by have h := HN.1; simp only [World.size_alloc] at h; exact h
                      have HN2 : Hid (∀ u ∈ [Value.int .i64 x.1, .int .i64 x.2], u.oneCell' = true) := HN.2
                      clear HN hrow
                      go_wp2_with (first
                        | (go_at_call 5; refine (awin_any x _).mono ?_; rintro e w' ⟨rfl, rfl⟩)
                        | (at_builtin; refine wpList_append_own _ rfl (.tmp 99) (.tmp 102) 54 rfl wo.heap.size 59 i59 (.agg #[.int .i64 0, .int .i64 0]) 2 16 Yba.underlying54 hi hz0 hz1 hz2 rfl (by decide) (.slice av jj cv) jj (flat (ws.take jj)) rfl ((((HR.out.alloc _).alloc _).alloc _).alloc _) ⟨wr.heap.size + 1 + 1 + 1, 0, none⟩ 1 1 [.int .i64 x.1, .int .i64 x.2] rfl rfl HN1.out HN2.out (by unfold maxLen; omega) (by omega) (by simp; omega) ?_))
                      intro v' w1 hown hgr _
                      have HW : Hid (w1.ownsRow wo.heap.size 59 2 v' (jj + 1) (flat (ws.take (jj + 1))) ∧ Below wo.heap.size wo w1) := win_step HR.out hB3 htk hown hgr
                      clear hown hgr HR HN1 HN2
                      go_wp2
                      go_roundw
                      case rel => exact ⟨jj + 1, by omega, by go_num, HW.out.1, HW.out.2⟩
                      case measure => simp [intOf]; omega
                    · obtain rfl : jj = ws.length := by omega
                      rw [List.take_length] at hrow
                      have HF : Hid (CarryN wz wr (fcs css) k vN ptrs ∧ wr.ownsRow wz.heap.size 59 2 (.slice av ws.length cv) (fcs css k).length (flat (fcs css k))) := ⟨HC.below hB3, by rw [hgd]; exact hrow.mono hbs⟩
                      clear hrow hB3 HC
                      go_wp2
                      go_meet
                      exact HF.out
                · have hgd : fcs css k = [] := by unfold fcs; rw [List.getD_eq_getElem?_getD, List.getElem?_eq_none (by omega)]; rfl
                  have HF : Hid (CarryN wz wo (fcs css) k vN ptrs ∧ wo.ownsRow wz.heap.size 59 2 (.slice none 0 0) (fcs css k).length (flat (fcs css k))) := ⟨HC, by rw [hgd]; exact World.ownsRow_nil _ _ _ _⟩
                  go_wp2
                  go_meet
                  exact HF.out
              case rest =>
                obtain ⟨HC2, hv⟩ := hcut
                obtain ⟨av, cv, hvf⟩ := row_form hv
                obtain ⟨aN, cN, hNf⟩ := row_form HC2.row
                subst hvf
                subst hNf
                have hcN := HC2.box.cN
                have hRl := HC2.box.lt
                have hfr := HC2.box.frozen (o := 2)
                have hbs2 := HC2.bel.size
                obtain ⟨i61, hi, hz0, hz1, hz2⟩ := info_parts info61
                go_wp2_with (at_builtin; refine wpList_append_own _ rfl (.tmp 109) (.tmp 114) 29 rfl wz.heap.size 61 i61 (.pointer none) 1 8 Yba.underlying29 hi hz0 hz1 hz2 rfl (by decide) (.slice aN k cN) k ptrs rfl ((HC2.row.alloc _).alloc _) ⟨wc.heap.size + 1, 0, none⟩ 1 1 [.pointer (some ⟨wc.heap.size, 0, none⟩)] rfl rfl (by have h := cell_one_new (wc.alloc (.cells (nodeCells k (.slice av (fcs css k).length cv)) 64)) (.pointer (some ⟨wc.heap.size, 0, none⟩)) 61; simp only [World.size_alloc] at h; exact h) (by simp [Value.oneCell']) (by unfold maxLen; omega) (by omega) (by simp; omega) ?_)
                intro v' w6 hown hgr _
                have hbox6 := HC2.mid hgr
                have HS := HC2.step hv hown hgr
                obtain ⟨g', cap', rfl⟩ := ownsRow_succ hown
                have hc6 := hbox6.cN
                have hf6 := hbox6.frozen (o := 2)
                clear hown hgr hbox6 HC2 hv hcN hfr
                go_wp2
                go_roundw
                case rel => exact ⟨k + 1, _, _, by omega, by go_num, HS⟩
                case measure => simp [intOf]; omega
            · obtain rfl : k = n := by omega
              have HF : Hid (CarryN wz wo (fcs css) k vN ptrs) := HC
              clear HC
              go_wp2
              exact hR _ hn1 hn2 hn3 ht HF.out

end Go.Proofs.Ybulkdjpk.lawS5535AWhole
