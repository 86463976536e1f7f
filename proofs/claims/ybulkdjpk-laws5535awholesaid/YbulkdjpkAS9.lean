/-
  5535A: the run's nodes are left as they were (loops 11, 12).
-/
import Derived.Test.YbulkdjpkAS4
namespace Go.Proofs.Ybulkdjpk.lawS5535AWhole
open Go.RowKit Go.Deep

/-- Ahead of the last loop. -/
def AtI (w0 wk : World) (ao po : Option Addr) (cap pcap : Nat) (css : List (List (Int × Int))) (qs : List Part) (n : Nat) (ds : List Deferred) (R : Code) : Prop :=
  ∀ {u2 u3 u4 u5 u6 u7 u8 u9 u10 u11 u12 u13 u16 u17 u18 u19 u20 u21 u22 u23 u24 u25 u26 u27 u28 u29 u30 u31 u32 u33 u34 u35 u36 u37 u38 u39 u40 u41 u42 u43 u44 u45 u46 u47 u48 u49 u50 u51 u52 u53 u54 u55 u56 u57 u58 u59 u60 u61 u62 u63 u64 u65 u66 u67 u68 u69 u70 u71 u72 u73 u74 u75 u76 u77 u78 u79 u80 u81 u82 u83 u84 u85 u86 u87 u88 u89 u90 u91 u92 u93 u94 u95 u96 u97 u98 u99 u100 u101 u102 u103 u104 u105 u106 u107 u108 u109 u110 u111 u112 u113 u114 u115 u116 u117 u118 u119 u120 u121 u122 u123 u124 u125 u126 u127 u128 u129 u130 u131 u132 u133 u134 u135 u136 u137 u138 u139 u140 u141 u142 u143 u144 u145 u146 u147 u148 u149 u150 u151 u152 u153 u154 u155 u156 u157 u158 u159 u160 u161 u162 u163 u164 u165 u166 u167 u168 u169 u170 u171 u172 u173 u174 u175 u176 u177 u178 u179 u180 u181 u182 u183 u184 u185 u186 u187 u188 u189 u190 u191 u192 u193 u194 u195 u196 u197 u198 u199 u200 u201 u202 u203 u204 u205 u206 u207 u208 u209 u210 u211 u212 u213 u214 u215 u216 u217 u218 u219 u220 u221 u222 u223 u224 u225 u226 u227 u228 u229 u230 u231 u232 u233 u234 u235 u236 u237 u238 u239 u240 u241 u242 u243 u244 u245 u246 u247 u248 u249 u250 u251 u252 u253 u254 u255 u256 u257 u258 u259 u260 u261 u262 u263 u264 u265 u266 u267 u268 u269 u270 u271 u272 u273 u274 u275 u276 u277 u278 u279 u280 u281 u282 u283 u284 u285 u286 u287 u288 u289 u290 u291 u292 u293 u294 u295 u296 u297 u298 u299 u300 u301 u302 u303 u304 u305 u306 u307 u308 u309 u310 u311 u312 u313 u314 u315 u316 u317 u318 u319 u320 u321 u322 u323 u324 u325 u326 u327 u328 u329 u330 u331 u332 u333 u334 u335 u336 u337 u338 u339 u340 u341 u342 u343 u344 u345 u346 u347 u348 u349 u350 u351 u352 u353 u354 u355 u356 u357 u358 u359 u360 u361 u362 u363 u364 u365 u366 u367 u368 u369 u370 u371 u372 u373 u374 u375 u376 u377 u378 u379 u380 u381 u382 u383 u384 u385 u386 u387 u388 u389 u390 u391 u392 u393 u394 u395 u396 u397 u398 u399 u400 u401 u402 u403 u404 : Value} (wm : World), Below wk.heap.size wk wm → Code.wp Yba.prog R (QQ w0) ⟨#[.slice ao css.length cap, .slice po qs.length pcap, u2, u3, u4, u5, u6, u7, u8, u9, u10, u11, u12, u13, .int .i64 n, ptr w0.heap.size, u16, u17, u18, u19, u20, u21, u22, u23, u24, u25, u26, u27, u28, u29, u30, u31, u32, u33, u34, u35, u36, u37, u38, u39, u40, u41, u42, u43, u44, u45, u46, u47, u48, u49, u50, u51, u52, u53, u54, u55, u56, u57, u58, u59, u60, u61, u62, u63, u64, u65, u66, u67, u68, u69, u70, u71, u72, u73, u74, u75, u76, u77, u78, u79, u80, u81, u82, u83, u84, u85, u86, u87, u88, u89, u90, u91, u92, u93, u94, u95, u96, u97, u98, u99, u100, u101, u102, u103, u104, u105, u106, u107, u108, u109, u110, u111, u112, u113, u114, u115, u116, u117, u118, u119, u120, u121, u122, u123, u124, u125, u126, u127, u128, u129, u130, u131, u132, u133, u134, u135, u136, u137, u138, u139, u140, u141, u142, u143, u144, u145, u146, u147, u148, u149, u150, u151, u152, u153, u154, u155, u156, u157, u158, u159, u160, u161, u162, u163, u164, u165, u166, u167, u168, u169, u170, u171, u172, u173, u174, u175, u176, u177, u178, u179, u180, u181, u182, u183, u184, u185, u186, u187, u188, u189, u190, u191, u192, u193, u194, u195, u196, u197, u198, u199, u200, u201, u202, u203, u204, u205, u206, u207, u208, u209, u210, u211, u212, u213, u214, u215, u216, u217, u218, u219, u220, u221, u222, u223, u224, u225, u226, u227, u228, u229, u230, u231, u232, u233, u234, u235, u236, u237, u238, u239, u240, u241, u242, u243, u244, u245, u246, u247, u248, u249, u250, u251, u252, u253, u254, u255, u256, u257, u258, u259, u260, u261, u262, u263, u264, u265, u266, u267, u268, u269, u270, u271, u272, u273, u274, u275, u276, u277, u278, u279, u280, u281, u282, u283, u284, u285, u286, u287, u288, u289, u290, u291, u292, u293, u294, u295, u296, u297, u298, u299, u300, u301, u302, u303, u304, u305, u306, u307, u308, u309, u310, u311, u312, u313, u314, u315, u316, u317, u318, u319, u320, u321, u322, u323, u324, u325, u326, u327, u328, u329, u330, u331, u332, u333, u334, u335, u336, u337, u338, u339, u340, u341, u342, u343, u344, u345, u346, u347, u348, u349, u350, u351, u352, u353, u354, u355, u356, u357, u358, u359, u360, u361, u362, u363, u364, u365, u366, u367, u368, u369, u370, u371, u372, u373, u374, u375, u376, u377, u378, u379, u380, u381, u382, u383, u384, u385, u386, u387, u388, u389, u390, u391, u392, u393, u394, u395, u396, u397, u398, u399, u400, u401, u402, u403, u404], ds⟩ wm

theorem below_drewN {B : Nat} {w W : World} (h : Below B w W) (k : Nat) : Below B w (W.drewN k) := ⟨h.os, h.tape, h.output, h.size, h.block⟩
theorem below_drew {B : Nat} {w W : World} (h : Below B w W) : Below B w W.drew := ⟨h.os, h.tape, h.output, h.size, h.block⟩
theorem below_alloc {w W : World} (h : Below w.heap.size w W) (o : Obj) : Below w.heap.size w (W.alloc o) := h.alloc h.size o
theorem keep5 {w W : World} {p1 p2 p3 p4 p5 : Addr} {v1 v2 v3 v4 v5 : Value} (b1 : p1.block < w.heap.size) (b2 : p2.block < w.heap.size) (b3 : p3.block < w.heap.size) (b4 : p4.block < w.heap.size) (b5 : p5.block < w.heap.size)
    (h1 : w.cell? p1 = some v1) (h2 : w.cell? p2 = some v2) (h3 : w.cell? p3 = some v3) (h4 : w.cell? p4 = some v4) (h5 : w.cell? p5 = some v5) (hB : Below w.heap.size w W) :
    W.cell? p1 = some v1 ∧ W.cell? p2 = some v2 ∧ W.cell? p3 = some v3 ∧ W.cell? p4 = some v4 ∧ W.cell? p5 = some v5 :=
  ⟨(hB.cell b1).trans h1, (hB.cell b2).trans h2, (hB.cell b3).trans h3, (hB.cell b4).trans h4, (hB.cell b5).trans h5⟩

set_option maxRecDepth 1000000 in
set_option maxHeartbeats 4000000 in
theorem segH {w0 wk : World} {ao po : Option Addr} {cap pcap : Nat} {css : List (List (Int × Int))} {qs : List Part} {n : Nat} {vN vP : Value} {ptrs cells : List Value} {ds : List Deferred}
    (hn2 : n ≤ 1048576) (hn3 : css.length ≤ n) (ht : total css ≤ 1048576) (HP : CarryP w0 wk (fcs css) n vN ptrs qs qs.length vP cells) (hC : CrashIn wk ao css) (R : Code)
    (hR : AtI w0 wk ao po cap pcap css qs n ds R)
    {u2 u3 u4 u5 u6 u7 u8 u9 u10 u11 u12 u13 u16 u17 u18 u19 u20 u21 u22 u23 u24 u25 u26 u27 u28 u29 u30 u31 u32 u33 u34 u35 u36 u37 u38 u39 u40 u41 u42 u43 u44 u45 u46 u47 u48 u49 u50 u51 u52 u53 u54 u55 u56 u57 u58 u59 u60 u61 u62 u63 u64 u65 u66 u67 u68 u69 u70 u71 u72 u73 u74 u75 u76 u77 u78 u79 u80 u81 u82 u83 u84 u85 u86 u87 u88 u89 u90 u91 u92 u93 u94 u95 u96 u97 u98 u99 u100 u101 u102 u103 u104 u105 u106 u107 u108 u109 u110 u111 u112 u113 u114 u115 u116 u117 u118 u119 u120 u121 u122 u123 u124 u125 u126 u127 u128 u129 u130 u131 u132 u133 u134 u135 u136 u137 u138 u139 u140 u141 u142 u143 u144 u145 u146 u147 u148 u149 u150 u151 u152 u153 u154 u155 u156 u157 u158 u159 u160 u161 u162 u163 u164 u165 u166 u167 u168 u169 u170 u171 u172 u173 u174 u175 u176 u177 u178 u179 u180 u181 u182 u183 u184 u185 u186 u187 u188 u189 u190 u191 u192 u193 u194 u195 u196 u197 u198 u199 u200 u201 u202 u203 u204 u205 u206 u207 u208 u209 u210 u211 u212 u213 u214 u215 u216 u217 u218 u219 u220 u221 u222 u223 u224 u225 u226 u227 u228 u229 u230 u231 u232 u233 u234 u235 u236 u237 u238 u239 u240 u241 u242 u243 u244 u245 u246 u247 u248 u249 u250 u251 u252 u253 u254 u255 u256 u257 u258 u259 u260 u261 u262 u263 u264 u265 u266 u267 u268 u269 u270 u271 u272 u273 u274 u275 u276 u277 u278 u279 u280 u281 u282 u283 u284 u285 u286 u287 u288 u289 u290 u291 u292 u293 u294 u295 u296 u297 u298 u299 u300 u301 u302 u303 u304 u305 u306 u307 u308 u309 u310 u311 u312 u313 u314 u315 u316 u317 u318 u319 u320 u321 u322 u323 u324 u325 u326 u327 u328 u329 u330 u331 u332 u333 u334 u335 u336 u337 u338 u339 u340 u341 u342 u343 u344 u345 u346 u347 u348 u349 u350 u351 u352 u353 u354 u355 u356 u357 u358 u359 u360 u361 u362 u363 u364 u365 u366 u367 u368 u369 u370 u371 u372 u373 u374 u375 u376 u377 u378 u379 u380 u381 u382 u383 u384 u385 u386 u387 u388 u389 u390 u391 u392 u393 u394 u395 u396 u397 u398 u399 u400 u401 u402 u403 u404 : Value} : Code.wp Yba.prog (.seq (nth 26 body) (.seq (nth 27 body) R)) (QQ w0) ⟨#[.slice ao css.length cap, .slice po qs.length pcap, u2, u3, u4, u5, u6, u7, u8, u9, u10, u11, u12, u13, .int .i64 n, ptr w0.heap.size, u16, u17, u18, u19, u20, u21, u22, u23, u24, u25, u26, u27, u28, u29, u30, u31, u32, u33, u34, u35, u36, u37, u38, u39, u40, u41, u42, u43, u44, u45, u46, u47, u48, u49, u50, u51, u52, u53, u54, u55, u56, u57, u58, u59, u60, u61, u62, u63, u64, u65, u66, u67, u68, u69, u70, u71, u72, u73, u74, u75, u76, u77, u78, u79, u80, u81, u82, u83, u84, u85, u86, u87, u88, u89, u90, u91, u92, u93, u94, u95, u96, u97, u98, u99, u100, u101, u102, u103, u104, u105, u106, u107, u108, u109, u110, u111, u112, u113, u114, u115, u116, u117, u118, u119, u120, u121, u122, u123, u124, u125, u126, u127, u128, u129, u130, u131, u132, u133, u134, u135, u136, u137, u138, u139, u140, u141, u142, u143, u144, u145, u146, u147, u148, u149, u150, u151, u152, u153, u154, u155, u156, u157, u158, u159, u160, u161, u162, u163, u164, u165, u166, u167, u168, u169, u170, u171, u172, u173, u174, u175, u176, u177, u178, u179, u180, u181, u182, u183, u184, u185, u186, u187, u188, u189, u190, u191, u192, u193, u194, u195, u196, u197, u198, u199, u200, u201, u202, u203, u204, u205, u206, u207, u208, u209, u210, u211, u212, u213, u214, u215, u216, u217, u218, u219, u220, u221, u222, u223, u224, u225, u226, u227, u228, u229, u230, u231, u232, u233, u234, u235, u236, u237, u238, u239, u240, u241, u242, u243, u244, u245, u246, u247, u248, u249, u250, u251, u252, u253, u254, u255, u256, u257, u258, u259, u260, u261, u262, u263, u264, u265, u266, u267, u268, u269, u270, u271, u272, u273, u274, u275, u276, u277, u278, u279, u280, u281, u282, u283, u284, u285, u286, u287, u288, u289, u290, u291, u292, u293, u294, u295, u296, u297, u298, u299, u300, u301, u302, u303, u304, u305, u306, u307, u308, u309, u310, u311, u312, u313, u314, u315, u316, u317, u318, u319, u320, u321, u322, u323, u324, u325, u326, u327, u328, u329, u330, u331, u332, u333, u334, u335, u336, u337, u338, u339, u340, u341, u342, u343, u344, u345, u346, u347, u348, u349, u350, u351, u352, u353, u354, u355, u356, u357, u358, u359, u360, u361, u362, u363, u364, u365, u366, u367, u368, u369, u370, u371, u372, u373, u374, u375, u376, u377, u378, u379, u380, u381, u382, u383, u384, u385, u386, u387, u388, u389, u390, u391, u392, u393, u394, u395, u396, u397, u398, u399, u400, u401, u402, u403, u404], ds⟩ wk := by
  conv => arg 2; arg 1; whnf
  conv => arg 2; arg 2; arg 1; whnf
  obtain ⟨aN, cN, hvN⟩ := row_form HP.row
  obtain ⟨aP, cP, hvP⟩ := row_form HP.prow
  subst hvN
  subst hvP
  have kN := HP.box.cN
  have kP := HP.box.cP
  have hrl := HP.box.lt
  go_wp2_with fail
  clear kN kP
  go_loopw [41] (fun i w3 => ∃ k : Nat, k ≤ n ∧ i = .int .i64 k ∧ Below wk.heap.size wk w3) (fun i _ => n - (intOf i).toNat)
  case atStart => exact ⟨0, Nat.zero_le _, rfl, Below.refl _ _⟩
  case round =>
    obtain ⟨i, hi, rfl, hB⟩ := hrel
    obtain ⟨wo, rfl⟩ : ∃ wo, wo = wr := ⟨_, rfl⟩
    by_cases hlt : i < n
    · have HPr := HP.below hB
      have hCr := hC.below hB
      obtain ⟨X, hX, v, hv, hrow⟩ := HPr.nodes.each i hlt
      obtain ⟨g, cg, e, hg, hc⟩ := row_cell HPr.row (by omega)
      cases e
      obtain ⟨av, cv, rfl⟩ := row_form hrow
      have kN := HPr.box.cN
      have kX := hc _ _ hX
      have kv : wo.cell? ⟨X, 6, none⟩ = some (.slice av (fcs css i).length cv) := by simp [World.cell?, hv]
      have hXl := (Array.getElem?_eq_some_iff.1 hv).1
      have hrl2 := HPr.box.lt
      have hfl := Nat.le_trans (fcs_le css i) ht
      clear hc hX hv HPr
      go_upto_if 327 with fail
      go_cut [43] from 309 to 332 (fun s wc => s = .int .i64 (fcs css i).length ∧ wc = wo)
      case first =>
        by_cases hkc : i < css.length
        · obtain ⟨ws, hws⟩ : ∃ ws, css[i]? = some ws := ⟨_, List.getElem?_eq_getElem hkc⟩
          have hgd : fcs css i = ws := by unfold fcs; rw [List.getD_eq_getElem?_getD, hws]; rfl
          obtain ⟨bb, o, rfl, hb, ao2, c2, hc, _⟩ := hCr i ws hws
          have HG : Hid (Value.int .i64 ws.length = .int .i64 (fcs css i).length) := by rw [hgd]; rfl
          clear hgd
          go_wp2
          go_meet
          exact ⟨HG.out, rfl⟩
        · have hgd : fcs css i = [] := by unfold fcs; rw [List.getD_eq_getElem?_getD, List.getElem?_eq_none (by omega)]; rfl
          have HG : Hid (Value.int .i64 0 = .int .i64 (fcs css i).length) := by rw [hgd]; rfl
          clear hgd
          go_wp2
          go_meet
          exact ⟨HG.out, rfl⟩
      case rest =>
        obtain ⟨rfl, rfl⟩ := hcut
        obtain ⟨wp, rfl⟩ : ∃ wp, wp = wc := ⟨_, rfl⟩
        clear kN kX kv
        go_wp2_with fail
        go_loopw [44] (fun j w3 => ∃ jj : Nat, jj ≤ (fcs css i).length ∧ j = .int .i64 jj ∧ Below wp.heap.size wp w3) (fun j _ => (fcs css i).length - (intOf j).toNat)
        case atStart => exact ⟨0, Nat.zero_le _, rfl, Below.refl _ _⟩
        case round =>
          obtain ⟨jj, hjj, rfl, hB3⟩ := hrel
          by_cases hj : jj < (fcs css i).length
          · have hkc : i < css.length := by
              refine Nat.lt_of_not_le fun h => ?_
              have hgd : fcs css i = [] := by unfold fcs; rw [List.getD_eq_getElem?_getD, List.getElem?_eq_none h]; rfl
              rw [hgd] at hj
              simp at hj
            obtain ⟨ws, hws⟩ : ∃ ws, css[i]? = some ws := ⟨_, List.getElem?_eq_getElem hkc⟩
            have hgd : fcs css i = ws := by unfold fcs; rw [List.getD_eq_getElem?_getD, hws]; rfl
            obtain ⟨bb, o, rfl, hb, ao2, c2, hc, hwin⟩ := (hCr.below hB3) i ws hws
            have hrow3 := row_below hrow hB3 (Nat.le_refl _)
            rw [hgd] at hrow3 hj hfl hjj ⊢
            obtain ⟨x, hx⟩ : ∃ x, ws[jj]? = some x := ⟨_, List.getElem?_eq_getElem hj⟩
            obtain ⟨b2, o2, rfl, hb2, k0, k1⟩ := hwin jj x hx
            obtain ⟨f0, f1⟩ := flat_at hx
            obtain ⟨g1, c1, e1, hl1, hc1⟩ := row_cell hrow3 (by omega)
            cases e1
            have k2 := hc1 _ _ f0
            have k3 := hc1 _ _ f1
            have HB3 : Hid (Below wp.heap.size wp wr) := hB3
            have hs3 := hB3.size
            clear hc1 f0 f1 hrow3 hrow hwin hgd hCr hB3
            go_wp2_with fail
            refine wp_region_noPanic ?_
            go_region_held3 (fun W => W.cell? ⟨g1, jj * 2, none⟩ = some (.int .i64 x.1) ∧ W.cell? ⟨g1, jj * 2 + 1, none⟩ = some (.int .i64 x.2) ∧ W.cell? ⟨bb, o + i, none⟩ = some (.slice (some ⟨b2, o2, none⟩) ws.length c2) ∧ W.cell? ⟨b2, o2 + jj * 2, none⟩ = some (.int .i64 x.1) ∧ W.cell? ⟨b2, o2 + jj * 2 + 1, none⟩ = some (.int .i64 x.2))
              ((refine keep5 (w := wr) (by assumption) (by assumption) (by assumption) (by assumption) (by assumption) (by assumption) (by assumption) (by assumption) (by assumption) (by assumption) ?_; repeat (first | exact Below.refl _ _ | refine below_drewN ?_ _ | refine below_drew ?_ | refine below_alloc ?_ _)))
              (first | (go_at_call 5; refine (awin_any x _).mono ?_; rintro e w' ⟨rfl, rfl⟩))
            all_goals (refine NoPanic.normal ?_; go_wp2)
            all_goals go_roundw
            case rel => exact ⟨jj + 1, by omega, by go_num, by repeat (first | exact HB3.out | refine below_drewN ?_ _ | refine below_drew ?_ | refine below_alloc ?_ _)⟩
            case measure => simp [intOf]; omega
          · obtain rfl : jj = (fcs css i).length := by omega
            have HB3 : Hid (Below wk.heap.size wk wr) := hB.trans (hB3.mono hB.size)
            clear hrow hCr hB3
            go_wp2
            go_roundw
            case rel => exact ⟨i + 1, by omega, by go_num, HB3.out⟩
            case measure => simp [intOf]; omega
    · obtain rfl : i = n := by omega
      have HB3 : Hid (Below wk.heap.size wk wo) := hB
      clear hB
      go_wp2
      exact hR _ HB3.out
end Go.Proofs.Ybulkdjpk.lawS5535AWhole
