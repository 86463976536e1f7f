/-
  5535A: the loop over the whole iterator.
-/
import Derived.Test.YbulkdjpkAS4
namespace Go.Proofs.Ybulkdjpk.lawS5535AWhole
open Go.RowKit Go.Deep
attribute [local go_sem] Oper.semAt_some

/-- Behind the first loop over the iterator: got holds the windows xs. -/
def AtE (w0 wq : World) (ao po : Option Addr) (cap pcap : Nat) (css : List (List (Int × Int))) (qs : List Part) (n a b stop ia ib : Nat) (v : Value) (xs : List (Int × Int)) (R : Code) : Prop :=
  ∀ {u5 u6 u7 u8 u9 u10 u11 u12 u13 u16 u17 u18 u19 u20 u21 u22 u23 u27 u28 u29 u30 u31 u32 u33 u35 u36 u37 u38 u39 u40 u41 u42 u43 u44 u45 u46 u47 u48 u49 u50 u51 u52 u53 u54 u55 u56 u57 u58 u59 u60 u61 u62 u63 u64 u65 u66 u67 u68 u69 u70 u71 u72 u73 u74 u75 u76 u77 u78 u79 u80 u81 u82 u83 u84 u85 u86 u87 u88 u89 u90 u91 u92 u93 u94 u95 u96 u97 u98 u99 u100 u101 u102 u103 u104 u105 u106 u107 u108 u109 u110 u111 u112 u113 u114 u115 u116 u117 u118 u119 u120 u121 u122 u123 u124 u125 u126 u127 u128 u129 u130 u131 u132 u133 u134 u135 u136 u137 u138 u139 u140 u141 u142 u143 u144 u145 u146 u147 u148 u149 u150 u151 u152 u153 u154 u155 u156 u157 u158 u159 u160 u161 u162 u163 u164 u165 u166 u167 u168 u169 u170 u171 u172 u173 u174 u175 u176 u177 u178 u179 u180 u181 u182 u183 u184 u185 u186 u187 u188 u189 u190 u191 u192 u193 u194 u195 u196 u197 u198 u199 u200 u201 u202 u203 u204 u205 u206 u207 u208 u209 u210 u211 u212 u213 u214 u215 u216 u217 u218 u219 u220 u221 u222 u223 u224 u225 u226 u227 u228 u229 u230 u231 u232 u233 u234 u235 u236 u237 u238 u239 u240 u241 u242 u243 u244 u245 u246 u247 u248 u249 u250 u251 u252 u253 u254 u255 u256 u257 u258 u259 u260 u261 u262 u263 u264 u265 u266 u267 u268 u269 u270 u271 u272 u273 u274 u275 u276 u277 u278 u279 u280 u281 u282 u283 u284 u285 u286 u287 u288 u289 u290 u291 u292 u293 u294 u295 u296 u297 u298 u299 u300 u301 u302 u303 u304 u305 u306 u307 u308 u309 u310 u311 u312 u313 u314 u315 u316 u317 u318 u319 u320 u321 u322 u323 u324 u325 u326 u327 u328 u329 u330 u331 u332 u333 u334 u335 u336 u337 u338 u339 u340 u341 u342 u343 u344 u345 u346 u347 u348 u349 u350 u351 u352 u353 u354 u355 u356 u357 u358 u359 u360 u361 u362 u363 u364 u365 u366 u367 u368 u369 u370 u371 u372 u373 u374 u375 u376 u377 u378 u379 u380 u381 u382 u383 u384 u385 u386 u387 u388 u389 u390 u391 u392 u393 u394 u395 u396 u397 u398 u399 u400 u401 u402 u403 u404 : Value} {Dd G : Nat} {gv : Value} (wk : World), wq.heap.size ≤ Dd → wk.heap[Dd]? = some (.deferred (some [])) → Below wq.heap.size wq wk → Boxed wk G 54 gv → wk.ownsRow wq.heap.size 59 2 gv xs.length (flat xs) → Code.wp Yba.prog R (QQ w0) ⟨#[.slice ao css.length cap, .slice po qs.length pcap, .int .u64 a, .int .u64 b, .int .u64 stop, u5, u6, u7, u8, u9, u10, u11, u12, u13, .int .i64 n, ptr w0.heap.size, u16, u17, u18, u19, u20, u21, u22, u23, .int .i64 (ia : Nat), .int .i64 (ib : Nat), v, u27, u28, u29, u30, u31, u32, u33, ptr G, u35, u36, u37, u38, u39, u40, u41, u42, u43, u44, u45, u46, u47, u48, u49, u50, u51, u52, u53, u54, u55, u56, u57, u58, u59, u60, u61, u62, u63, u64, u65, u66, u67, u68, u69, u70, u71, u72, u73, u74, u75, u76, u77, u78, u79, u80, u81, u82, u83, u84, u85, u86, u87, u88, u89, u90, u91, u92, u93, u94, u95, u96, u97, u98, u99, u100, u101, u102, u103, u104, u105, u106, u107, u108, u109, u110, u111, u112, u113, u114, u115, u116, u117, u118, u119, u120, u121, u122, u123, u124, u125, u126, u127, u128, u129, u130, u131, u132, u133, u134, u135, u136, u137, u138, u139, u140, u141, u142, u143, u144, u145, u146, u147, u148, u149, u150, u151, u152, u153, u154, u155, u156, u157, u158, u159, u160, u161, u162, u163, u164, u165, u166, u167, u168, u169, u170, u171, u172, u173, u174, u175, u176, u177, u178, u179, u180, u181, u182, u183, u184, u185, u186, u187, u188, u189, u190, u191, u192, u193, u194, u195, u196, u197, u198, u199, u200, u201, u202, u203, u204, u205, u206, u207, u208, u209, u210, u211, u212, u213, u214, u215, u216, u217, u218, u219, u220, u221, u222, u223, u224, u225, u226, u227, u228, u229, u230, u231, u232, u233, u234, u235, u236, u237, u238, u239, u240, u241, u242, u243, u244, u245, u246, u247, u248, u249, u250, u251, u252, u253, u254, u255, u256, u257, u258, u259, u260, u261, u262, u263, u264, u265, u266, u267, u268, u269, u270, u271, u272, u273, u274, u275, u276, u277, u278, u279, u280, u281, u282, u283, u284, u285, u286, u287, u288, u289, u290, u291, u292, u293, u294, u295, u296, u297, u298, u299, u300, u301, u302, u303, u304, u305, u306, u307, u308, u309, u310, u311, u312, u313, u314, u315, u316, u317, u318, u319, u320, u321, u322, u323, u324, u325, u326, u327, u328, u329, u330, u331, u332, u333, u334, u335, u336, u337, u338, u339, u340, u341, u342, u343, u344, u345, u346, u347, u348, u349, u350, u351, u352, u353, u354, u355, u356, u357, u358, u359, u360, u361, u362, u363, u364, u365, u366, u367, u368, u369, u370, u371, u372, u373, u374, u375, u376, u377, u378, u379, u380, u381, u382, u383, u384, u385, u386, u387, u388, u389, u390, u391, u392, u393, u394, u395, u396, u397, u398, u399, u400, u401, u402, u403, u404], [{ target := .collected Dd, args := #[] }]⟩ wk

set_option maxRecDepth 1000000 in
set_option maxHeartbeats 4000000 in
theorem segD {w0 wq : World} {ao po : Option Addr} {cap pcap : Nat} {css : List (List (Int × Int))} {qs : List Part} {n : Nat} {vN vP : Value} {ptrs cells : List Value} {a b stop ia ib : Nat}
    (hia : ia < n) (hib : ib < n) (hql : qs.length ≤ 1048576) (hla : (fcs css ia).length ≤ 1048576) (hlb : (fcs css ib).length ≤ 1048576) (HP : CarryP w0 wq (fcs css) n vN ptrs qs qs.length vP cells) {v : Value} (R : Code)
    (hR : AtE w0 wq ao po cap pcap css qs n a b stop ia ib v (fcs css ia ++ fcs css ib ++ cuts ia ib qs) R)
    {u5 u6 u7 u8 u9 u10 u11 u12 u13 u16 u17 u18 u19 u20 u21 u22 u23 u27 u28 u29 u30 u31 u32 u33 u34 u35 u36 u37 u38 u39 u40 u41 u42 u43 u44 u45 u46 u47 u48 u49 u50 u51 u52 u53 u54 u55 u56 u57 u58 u59 u60 u61 u62 u63 u64 u65 u66 u67 u68 u69 u70 u71 u72 u73 u74 u75 u76 u77 u78 u79 u80 u81 u82 u83 u84 u85 u86 u87 u88 u89 u90 u91 u92 u93 u94 u95 u96 u97 u98 u99 u100 u101 u102 u103 u104 u105 u106 u107 u108 u109 u110 u111 u112 u113 u114 u115 u116 u117 u118 u119 u120 u121 u122 u123 u124 u125 u126 u127 u128 u129 u130 u131 u132 u133 u134 u135 u136 u137 u138 u139 u140 u141 u142 u143 u144 u145 u146 u147 u148 u149 u150 u151 u152 u153 u154 u155 u156 u157 u158 u159 u160 u161 u162 u163 u164 u165 u166 u167 u168 u169 u170 u171 u172 u173 u174 u175 u176 u177 u178 u179 u180 u181 u182 u183 u184 u185 u186 u187 u188 u189 u190 u191 u192 u193 u194 u195 u196 u197 u198 u199 u200 u201 u202 u203 u204 u205 u206 u207 u208 u209 u210 u211 u212 u213 u214 u215 u216 u217 u218 u219 u220 u221 u222 u223 u224 u225 u226 u227 u228 u229 u230 u231 u232 u233 u234 u235 u236 u237 u238 u239 u240 u241 u242 u243 u244 u245 u246 u247 u248 u249 u250 u251 u252 u253 u254 u255 u256 u257 u258 u259 u260 u261 u262 u263 u264 u265 u266 u267 u268 u269 u270 u271 u272 u273 u274 u275 u276 u277 u278 u279 u280 u281 u282 u283 u284 u285 u286 u287 u288 u289 u290 u291 u292 u293 u294 u295 u296 u297 u298 u299 u300 u301 u302 u303 u304 u305 u306 u307 u308 u309 u310 u311 u312 u313 u314 u315 u316 u317 u318 u319 u320 u321 u322 u323 u324 u325 u326 u327 u328 u329 u330 u331 u332 u333 u334 u335 u336 u337 u338 u339 u340 u341 u342 u343 u344 u345 u346 u347 u348 u349 u350 u351 u352 u353 u354 u355 u356 u357 u358 u359 u360 u361 u362 u363 u364 u365 u366 u367 u368 u369 u370 u371 u372 u373 u374 u375 u376 u377 u378 u379 u380 u381 u382 u383 u384 u385 u386 u387 u388 u389 u390 u391 u392 u393 u394 u395 u396 u397 u398 u399 u400 u401 u402 u403 u404 : Value} : Code.wp Yba.prog (.seq (nth 16 body) (.seq (nth 17 body) (.seq (nth 18 body) R))) (QQ w0) ⟨#[.slice ao css.length cap, .slice po qs.length pcap, .int .u64 a, .int .u64 b, .int .u64 stop, u5, u6, u7, u8, u9, u10, u11, u12, u13, .int .i64 n, ptr w0.heap.size, u16, u17, u18, u19, u20, u21, u22, u23, .int .i64 (ia : Nat), .int .i64 (ib : Nat), v, u27, u28, u29, u30, u31, u32, u33, u34, u35, u36, u37, u38, u39, u40, u41, u42, u43, u44, u45, u46, u47, u48, u49, u50, u51, u52, u53, u54, u55, u56, u57, u58, u59, u60, u61, u62, u63, u64, u65, u66, u67, u68, u69, u70, u71, u72, u73, u74, u75, u76, u77, u78, u79, u80, u81, u82, u83, u84, u85, u86, u87, u88, u89, u90, u91, u92, u93, u94, u95, u96, u97, u98, u99, u100, u101, u102, u103, u104, u105, u106, u107, u108, u109, u110, u111, u112, u113, u114, u115, u116, u117, u118, u119, u120, u121, u122, u123, u124, u125, u126, u127, u128, u129, u130, u131, u132, u133, u134, u135, u136, u137, u138, u139, u140, u141, u142, u143, u144, u145, u146, u147, u148, u149, u150, u151, u152, u153, u154, u155, u156, u157, u158, u159, u160, u161, u162, u163, u164, u165, u166, u167, u168, u169, u170, u171, u172, u173, u174, u175, u176, u177, u178, u179, u180, u181, u182, u183, u184, u185, u186, u187, u188, u189, u190, u191, u192, u193, u194, u195, u196, u197, u198, u199, u200, u201, u202, u203, u204, u205, u206, u207, u208, u209, u210, u211, u212, u213, u214, u215, u216, u217, u218, u219, u220, u221, u222, u223, u224, u225, u226, u227, u228, u229, u230, u231, u232, u233, u234, u235, u236, u237, u238, u239, u240, u241, u242, u243, u244, u245, u246, u247, u248, u249, u250, u251, u252, u253, u254, u255, u256, u257, u258, u259, u260, u261, u262, u263, u264, u265, u266, u267, u268, u269, u270, u271, u272, u273, u274, u275, u276, u277, u278, u279, u280, u281, u282, u283, u284, u285, u286, u287, u288, u289, u290, u291, u292, u293, u294, u295, u296, u297, u298, u299, u300, u301, u302, u303, u304, u305, u306, u307, u308, u309, u310, u311, u312, u313, u314, u315, u316, u317, u318, u319, u320, u321, u322, u323, u324, u325, u326, u327, u328, u329, u330, u331, u332, u333, u334, u335, u336, u337, u338, u339, u340, u341, u342, u343, u344, u345, u346, u347, u348, u349, u350, u351, u352, u353, u354, u355, u356, u357, u358, u359, u360, u361, u362, u363, u364, u365, u366, u367, u368, u369, u370, u371, u372, u373, u374, u375, u376, u377, u378, u379, u380, u381, u382, u383, u384, u385, u386, u387, u388, u389, u390, u391, u392, u393, u394, u395, u396, u397, u398, u399, u400, u401, u402, u403, u404], []⟩ wq := by
  conv => arg 2; arg 1; whnf
  conv => arg 2; arg 2; arg 1; whnf
  conv => arg 2; arg 2; arg 2; arg 1; whnf
  have hrl := HP.box.lt
  have hrd := reads_of HP (fun b => b < wq.heap.size) (fun _ h => h) hia hib
  generalize fcs css ia = wa at hla hrd hR
  generalize fcs css ib = wb at hlb hrd hR
  have hrd' : Hid (Reads (fun b => b < wq.heap.size) wq w0.heap.size n ia ib wa wb qs) := hrd
  clear hrd HP
  obtain ⟨i59, hi, hz0, hz1, hz2⟩ := info_parts info59
  go_wp2_with (go_at_call 7; refine (parting_any _ _ _ _).mono ?_; rintro e w' ⟨rfl, rfl⟩)
  obtain ⟨w5, hw5⟩ : ∃ w5, (((wq.alloc (.cells #[.pointer (some ⟨w0.heap.size, 0, none⟩)] 26)).alloc (.cells #[.int .i64 ia] 3)).alloc (.cells #[.int .i64 ib] 3)).alloc (.cells #[.slice none 0 0] 54) = w5 := ⟨_, rfl⟩
  have hs5 : w5.heap.size = wq.heap.size + 4 := by rw [← hw5]; simp
  have e1 : Boxed w5 wq.heap.size 26 (.pointer (some ⟨w0.heap.size, 0, none⟩)) := by rw [← hw5]; exact (((Boxed.new wq 26 _).alloc _).alloc _).alloc _
  have e2 : Boxed w5 (wq.heap.size + 1) 3 (.int .i64 ia) := by
    rw [← hw5]; have := ((Boxed.new (wq.alloc (.cells #[.pointer (some ⟨w0.heap.size, 0, none⟩)] 26)) 3 (.int .i64 ia)).alloc (.cells #[.int .i64 ib] 3)).alloc (.cells #[.slice none 0 0] 54); rwa [World.size_alloc] at this
  have e3 : Boxed w5 (wq.heap.size + 2) 3 (.int .i64 ib) := by
    rw [← hw5]; have := (Boxed.new ((wq.alloc (.cells #[.pointer (some ⟨w0.heap.size, 0, none⟩)] 26)).alloc (.cells #[.int .i64 ia] 3)) 3 (.int .i64 ib)).alloc (.cells #[.slice none 0 0] 54); rwa [World.size_alloc, World.size_alloc] at this
  have e4 : Boxed w5 (wq.heap.size + 1 + 1 + 1) 54 (.slice none 0 0) := by
    rw [← hw5]; have := Boxed.new (((wq.alloc (.cells #[.pointer (some ⟨w0.heap.size, 0, none⟩)] 26)).alloc (.cells #[.int .i64 ia] 3)).alloc (.cells #[.int .i64 ib] 3)) 54 (.slice none 0 0); rwa [World.size_alloc, World.size_alloc, World.size_alloc] at this
  have hb5 : Below wq.heap.size wq w5 := by
    rw [← hw5]; exact ((((Below.refl _ wq).alloc (Nat.le_refl _) _).alloc (by simp) _).alloc (by simp; omega) _).alloc (by simp; omega) _
  rw [hw5]
  clear hw5
  have hrd5 := hrd'.out.kept (KeptOn.of_below hb5 (fun b hb => hb))
  clear hrd'
  have hD5 : ∀ b, b < wq.heap.size → b < w5.heap.size := fun b hb => by omega
  have hcl := cuts_len ia ib qs
  refine (wpIn_wide (n := 5)).1 ?_
  refine range_X (α := Int × Int) rfl rfl (by decide) (gf := 10) (lb := #[ptr wq.heap.size, ptr (wq.heap.size + 1), ptr (wq.heap.size + 2)]) rfl trivial (enters_of Yba.func10 (by kernel_rfl) rfl)
    (part_stops 4 wq.heap.size (wq.heap.size + 1) (wq.heap.size + 2) w0.heap.size n ia ib (fun b => b < wq.heap.size) wa wb qs w5 (by decide) hla hlb hql hia hib hD5 e1 e2 e3 hrd5) KeptOn.trans (KeptOn.putObj hD5) (Below.refl _ _) (fun _ => rfl)
    (Col wq.heap.size wq (wq.heap.size + 1 + 1 + 1)) (fun _ _ _ => False) (Col.own (Nat.le_refl _) (by omega)) (fun c s A B row hs hg hr => hs)
    ⟨_, e4, World.ownsRow_nil _ _ _ _, hb5⟩
    (fun x a' w' => ∃ Bx, w'.heap[Bx]? = some (.cells #[.int .i64 x.1, .int .i64 x.2] 59 (0, 0)) ∧ a' = ⟨#[.slice ao css.length cap, .slice po qs.length pcap, .int .u64 a, .int .u64 b, .int .u64 stop, u5, u6, u7, u8, u9, u10, u11, u12, u13, .int .i64 n, ptr w0.heap.size, u16, u17, u18, u19, u20, u21, u22, u23, .int .i64 (ia : Nat), .int .i64 (ib : Nat), v, u27, u28, u29, u30, u31, u32, .func (.func 10) #[] #[ptr wq.heap.size, ptr (wq.heap.size + 1), ptr (wq.heap.size + 2)], ptr (wq.heap.size + 1 + 1 + 1), ptr Bx, u36, u37, u38, u39, u40, u41, u42, u43, u44, u45, u46, u47, u48, u49, u50, u51, u52, u53, u54, u55, u56, u57, u58, u59, u60, u61, u62, u63, u64, u65, u66, u67, u68, u69, u70, u71, u72, u73, u74, u75, u76, u77, u78, u79, u80, u81, u82, u83, u84, u85, u86, u87, u88, u89, u90, u91, u92, u93, u94, u95, u96, u97, u98, u99, u100, u101, u102, u103, u104, u105, u106, u107, u108, u109, u110, u111, u112, u113, u114, u115, u116, u117, u118, u119, u120, u121, u122, u123, u124, u125, u126, u127, u128, u129, u130, u131, u132, u133, u134, u135, u136, u137, u138, u139, u140, u141, u142, u143, u144, u145, u146, u147, u148, u149, u150, u151, u152, u153, u154, u155, u156, u157, u158, u159, u160, u161, u162, u163, u164, u165, u166, u167, u168, u169, u170, u171, u172, u173, u174, u175, u176, u177, u178, u179, u180, u181, u182, u183, u184, u185, u186, u187, u188, u189, u190, u191, u192, u193, u194, u195, u196, u197, u198, u199, u200, u201, u202, u203, u204, u205, u206, u207, u208, u209, u210, u211, u212, u213, u214, u215, u216, u217, u218, u219, u220, u221, u222, u223, ptr w0.heap.size, .int .i64 (ia : Nat), .int .i64 (ib : Nat), .func (.func 10) #[] #[ptr wq.heap.size, ptr (wq.heap.size + 1), ptr (wq.heap.size + 2)], .func (.func 10) #[] #[ptr wq.heap.size, ptr (wq.heap.size + 1), ptr (wq.heap.size + 2)], winV x, u230, u231, u232, u233, u234, u235, u236, u237, u238, u239, u240, u241, u242, u243, u244, u245, u246, u247, u248, u249, u250, u251, u252, u253, u254, u255, u256, u257, u258, u259, u260, u261, u262, u263, u264, u265, u266, u267, u268, u269, u270, u271, u272, u273, u274, u275, u276, u277, u278, u279, u280, u281, u282, u283, u284, u285, u286, u287, u288, u289, u290, u291, u292, u293, u294, u295, u296, u297, u298, u299, u300, u301, u302, u303, u304, u305, u306, u307, u308, u309, u310, u311, u312, u313, u314, u315, u316, u317, u318, u319, u320, u321, u322, u323, u324, u325, u326, u327, u328, u329, u330, u331, u332, u333, u334, u335, u336, u337, u338, u339, u340, u341, u342, u343, u344, u345, u346, u347, u348, u349, u350, u351, u352, u353, u354, u355, u356, u357, u358, u359, u360, u361, u362, u363, u364, u365, u366, u367, u368, u369, u370, u371, u372, u373, u374, u375, u376, u377, u378, u379, u380, u381, u382, u383, u384, u385, u386, u387, u388, u389, u390, u391, u392, u393, u394, u395, u396, u397, u398, u399, u400, u401, u402, u403, u404], []⟩)
    (fun x a' s A B row hs hg hr => by
      obtain ⟨Bx, hbx, ha'⟩ := hs
      refine ⟨Bx, (hg.block Bx (Array.getElem?_eq_some_iff.1 hbx).1 (fun e => ?_)).trans hbx, ha'⟩
      obtain ⟨o, ho, hc⟩ := (hr Bx e.symm).2
      rw [hbx] at ho; cases ho; cases hc)
    ?assign ?body ?done ?stop
  case assign =>
    intro ll pre x W K hI hK
    gi_wp2
    exact hK _ _ ((KeepsOthers.alloc _ _).from _) (KeptOn.grown_none (World.grownBy_alloc W _ none) (fun b hb => by obtain ⟨_, _, _, hB⟩ := hI; have := hB.size; omega)) (Col.alloc (Nat.le_refl _) hI _) ⟨_, World.alloc_heap_new W _, rfl⟩
  case body =>
    rintro ll pre x a' W ⟨gv, hbx, hrow, hB⟩ ⟨Bx, hx, rfl⟩ hlt
    obtain ⟨av, cv, rfl⟩ := row_form hrow
    have cG := hbx.cell
    have cx0 : W.cell? ⟨Bx, 0, none⟩ = some (.int .i64 x.1) := by simp [World.cell?, hx]
    have cx1 : W.cell? ⟨Bx, 1, none⟩ = some (.int .i64 x.2) := by simp [World.cell?, hx]
    have hs := hB.size
    have HN := news2 W (.int .i64 x.1) (.int .i64 x.2) 59 rfl rfl
    have HR : Hid (W.ownsRow wq.heap.size 59 2 (.slice av pre.length cv) pre.length (flat pre)) := hrow
    have HN1 : Hid (∀ j u, [Value.int .i64 x.1, .int .i64 x.2][j]? = some u → (W.alloc (.cells #[.int .i64 x.1, .int .i64 x.2] 59)).cell? ((⟨W.heap.size, 0, none⟩ : Addr).add j) = some u) := HN.1
    have HN2 : Hid (∀ u ∈ [Value.int .i64 x.1, .int .i64 x.2], u.oneCell' = true) := HN.2
    have HB : Hid (Boxed W (wq.heap.size + 1 + 1 + 1) 54 (.slice av pre.length cv)) := hbx
    clear HN hrow hbx hx hR
    gi_wp2_with (gi_at_builtin; refine wpListIn_append_own _ rfl (.tmp 230) (.tmp 232) 54 rfl wq.heap.size 59 i59 (.agg #[.int .i64 0, .int .i64 0]) 2 16 Yba.underlying54 hi hz0 hz1 hz2 rfl (by decide) (.slice av pre.length cv) pre.length (flat pre) rfl (HR.out.alloc _) ⟨W.heap.size, 0, none⟩ 1 1 [.int .i64 x.1, .int .i64 x.2] rfl rfl HN1.out HN2.out (by unfold maxLen; omega) (by omega) (by simp; omega) ?_)
    intro v' w1 hown hgr _
    obtain ⟨av', cv', rfl⟩ := row_form hown
    obtain ⟨hb1, hkf, hkp, hcol⟩ := col_step (B := w5.heap.size) (x := x) HB.out HR.out hB (Nat.le_refl _) (by omega) hown hgr
    have f1 := hb1.frozen
    have c1 := hb1.cell
    have HK : Hid _ := And.intro hkf (And.intro hkp hcol)
    clear hown hgr HR HN1 HN2 HB hkf hkp hcol hb1
    gi_wp2
    exact HK.out
  case done =>
    rintro Dd ys W hDd rfl ⟨gv, hbx, hrow, hB⟩ hK
    have HF : Hid (Boxed W (wq.heap.size + 1 + 1 + 1) 54 gv ∧ W.ownsRow wq.heap.size 59 2 gv (wa ++ wb ++ cuts ia ib qs).length (flat (wa ++ wb ++ cuts ia ib qs))) := ⟨hbx, hrow⟩
    have hDd2 : wq.heap.size ≤ Dd := by omega
    clear hbx hrow e1 e2 e3 e4 hrd5
    go_wp2
    exact hR W hDd2 hK hB HF.out.1 HF.out.2
  case stop =>
    rintro Dd c pre W hDd hpre h hK
    exact h.elim
end Go.Proofs.Ybulkdjpk.lawS5535AWhole
