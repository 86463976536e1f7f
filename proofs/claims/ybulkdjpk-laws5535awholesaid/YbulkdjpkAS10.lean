/-
  5535A: the run's partitions are left as they were (loops 13, 14), and the law's end.
-/
import Derived.Test.YbulkdjpkAS9
import Derived.Test.YbulkdjpkAS3
namespace Go.Proofs.Ybulkdjpk.lawS5535AWhole
open Go.RowKit Go.Deep

set_option maxRecDepth 1000000 in
set_option maxHeartbeats 4000000 in
theorem segI {w0 wk : World} {ao po : Option Addr} {cap pcap : Nat} {css : List (List (Int × Int))} {qs : List Part} {n : Nat} {vN vP : Value} {ptrs cells : List Value} {D1 D2 : Nat}
    (hn1 : 1 ≤ n) (hn2 : n ≤ 1048576) (hql : qs.length ≤ 1048576) (HP : CarryP w0 wk (fcs css) n vN ptrs qs qs.length vP cells) (hPI : PartIn wk po qs) (hDd : D1 < D2) (hD1 : w0.heap.size ≤ D1) (hd1 : wk.heap[D1]? = some (.deferred (some []))) (hd2 : wk.heap[D2]? = some (.deferred (some [])))
    {u2 u3 u4 u5 u6 u7 u8 u9 u10 u11 u12 u13 u16 u17 u18 u19 u20 u21 u22 u23 u24 u25 u26 u27 u28 u29 u30 u31 u32 u33 u34 u35 u36 u37 u38 u39 u40 u41 u42 u43 u44 u45 u46 u47 u48 u49 u50 u51 u52 u53 u54 u55 u56 u57 u58 u59 u60 u61 u62 u63 u64 u65 u66 u67 u68 u69 u70 u71 u72 u73 u74 u75 u76 u77 u78 u79 u80 u81 u82 u83 u84 u85 u86 u87 u88 u89 u90 u91 u92 u93 u94 u95 u96 u97 u98 u99 u100 u101 u102 u103 u104 u105 u106 u107 u108 u109 u110 u111 u112 u113 u114 u115 u116 u117 u118 u119 u120 u121 u122 u123 u124 u125 u126 u127 u128 u129 u130 u131 u132 u133 u134 u135 u136 u137 u138 u139 u140 u141 u142 u143 u144 u145 u146 u147 u148 u149 u150 u151 u152 u153 u154 u155 u156 u157 u158 u159 u160 u161 u162 u163 u164 u165 u166 u167 u168 u169 u170 u171 u172 u173 u174 u175 u176 u177 u178 u179 u180 u181 u182 u183 u184 u185 u186 u187 u188 u189 u190 u191 u192 u193 u194 u195 u196 u197 u198 u199 u200 u201 u202 u203 u204 u205 u206 u207 u208 u209 u210 u211 u212 u213 u214 u215 u216 u217 u218 u219 u220 u221 u222 u223 u224 u225 u226 u227 u228 u229 u230 u231 u232 u233 u234 u235 u236 u237 u238 u239 u240 u241 u242 u243 u244 u245 u246 u247 u248 u249 u250 u251 u252 u253 u254 u255 u256 u257 u258 u259 u260 u261 u262 u263 u264 u265 u266 u267 u268 u269 u270 u271 u272 u273 u274 u275 u276 u277 u278 u279 u280 u281 u282 u283 u284 u285 u286 u287 u288 u289 u290 u291 u292 u293 u294 u295 u296 u297 u298 u299 u300 u301 u302 u303 u304 u305 u306 u307 u308 u309 u310 u311 u312 u313 u314 u315 u316 u317 u318 u319 u320 u321 u322 u323 u324 u325 u326 u327 u328 u329 u330 u331 u332 u333 u334 u335 u336 u337 u338 u339 u340 u341 u342 u343 u344 u345 u346 u347 u348 u349 u350 u351 u352 u353 u354 u355 u356 u357 u358 u359 u360 u361 u362 u363 u364 u365 u366 u367 u368 u369 u370 u371 u372 u373 u374 u375 u376 u377 u378 u379 u380 u381 u382 u383 u384 u385 u386 u387 u388 u389 u390 u391 u392 u393 u394 u395 u396 u397 u398 u399 u400 u401 u402 u403 u404 : Value} : Code.wp Yba.prog (.seq (nth 28 body) (tl 29 body)) (QQ w0) ⟨#[.slice ao css.length cap, .slice po qs.length pcap, u2, u3, u4, u5, u6, u7, u8, u9, u10, u11, u12, u13, .int .i64 n, ptr w0.heap.size, u16, u17, u18, u19, u20, u21, u22, u23, u24, u25, u26, u27, u28, u29, u30, u31, u32, u33, u34, u35, u36, u37, u38, u39, u40, u41, u42, u43, u44, u45, u46, u47, u48, u49, u50, u51, u52, u53, u54, u55, u56, u57, u58, u59, u60, u61, u62, u63, u64, u65, u66, u67, u68, u69, u70, u71, u72, u73, u74, u75, u76, u77, u78, u79, u80, u81, u82, u83, u84, u85, u86, u87, u88, u89, u90, u91, u92, u93, u94, u95, u96, u97, u98, u99, u100, u101, u102, u103, u104, u105, u106, u107, u108, u109, u110, u111, u112, u113, u114, u115, u116, u117, u118, u119, u120, u121, u122, u123, u124, u125, u126, u127, u128, u129, u130, u131, u132, u133, u134, u135, u136, u137, u138, u139, u140, u141, u142, u143, u144, u145, u146, u147, u148, u149, u150, u151, u152, u153, u154, u155, u156, u157, u158, u159, u160, u161, u162, u163, u164, u165, u166, u167, u168, u169, u170, u171, u172, u173, u174, u175, u176, u177, u178, u179, u180, u181, u182, u183, u184, u185, u186, u187, u188, u189, u190, u191, u192, u193, u194, u195, u196, u197, u198, u199, u200, u201, u202, u203, u204, u205, u206, u207, u208, u209, u210, u211, u212, u213, u214, u215, u216, u217, u218, u219, u220, u221, u222, u223, u224, u225, u226, u227, u228, u229, u230, u231, u232, u233, u234, u235, u236, u237, u238, u239, u240, u241, u242, u243, u244, u245, u246, u247, u248, u249, u250, u251, u252, u253, u254, u255, u256, u257, u258, u259, u260, u261, u262, u263, u264, u265, u266, u267, u268, u269, u270, u271, u272, u273, u274, u275, u276, u277, u278, u279, u280, u281, u282, u283, u284, u285, u286, u287, u288, u289, u290, u291, u292, u293, u294, u295, u296, u297, u298, u299, u300, u301, u302, u303, u304, u305, u306, u307, u308, u309, u310, u311, u312, u313, u314, u315, u316, u317, u318, u319, u320, u321, u322, u323, u324, u325, u326, u327, u328, u329, u330, u331, u332, u333, u334, u335, u336, u337, u338, u339, u340, u341, u342, u343, u344, u345, u346, u347, u348, u349, u350, u351, u352, u353, u354, u355, u356, u357, u358, u359, u360, u361, u362, u363, u364, u365, u366, u367, u368, u369, u370, u371, u372, u373, u374, u375, u376, u377, u378, u379, u380, u381, u382, u383, u384, u385, u386, u387, u388, u389, u390, u391, u392, u393, u394, u395, u396, u397, u398, u399, u400, u401, u402, u403, u404], [{ target := .collected D2, args := #[] }, { target := .collected D1, args := #[] }]⟩ wk := by
  conv => arg 2; arg 1; whnf
  conv => arg 2; arg 2; whnf
  go_wp2_with fail
  go_loopw [357] (fun i w3 => ∃ k : Nat, k ≤ qs.length ∧ i = .int .i64 k ∧ Below wk.heap.size wk w3) (fun i _ => qs.length - (intOf i).toNat)
  case atStart => exact ⟨0, Nat.zero_le _, rfl, Below.refl _ _⟩
  case round =>
    obtain ⟨j, hj, rfl, hB⟩ := hrel
    obtain ⟨wo, rfl⟩ : ∃ wo, wo = wr := ⟨_, rfl⟩
    by_cases hlt : j < qs.length
    · have HPr := HP.below hB
      have hPr := hPI.below hB
      obtain ⟨q, hq⟩ : ∃ q, qs[j]? = some q := ⟨_, List.getElem?_eq_getElem hlt⟩
      obtain ⟨hl, bb, o, rfl, hb, ao2, c2, k0, k1, k2, hx⟩ := hPr j q hq
      obtain ⟨gv, m0, m1, m2, G, rfl, _, hG⟩ := HPr.parts.each j q hlt hq
      obtain ⟨g, cg, e, hg, hc⟩ := row_cell HPr.prow (by omega)
      subst e
      have kP := HPr.box.cP
      have hrl2 := HPr.box.lt
      have p0 := hc _ _ m0
      have p1 := hc _ _ m1
      have p2 := hc _ _ m2
      have hGl := hG.lt
      have HGr : Hid (wo.rowIs G 3 n (fun i => .int .i64 (grp q.2 i))) := hG
      clear hc m0 m1 m2 HPr hPr hG
      go_wp2_with fail
      obtain ⟨w5, hw5⟩ : ∃ w5, (wo.alloc (.cells #[.int .i64 q.1.1, .int .i64 q.1.2, .slice ao2 q.2.length c2] 67)).alloc (.cells #[.int .i64 q.1.1, .int .i64 q.1.2, .slice (some ⟨G, 0, none⟩) n n] 70) = w5 := ⟨_, rfl⟩
      rw [hw5]
      have hs5 : w5.heap.size = wo.heap.size + 2 := by rw [← hw5]; simp
      have hB5 : Below wo.heap.size wo w5 := by rw [← hw5]; exact below_alloc (below_alloc (Below.refl _ _) _) _
      have x67 : w5.heap[wo.heap.size]? = some (.cells #[.int .i64 q.1.1, .int .i64 q.1.2, .slice ao2 q.2.length c2] 67 (0, 0)) := by
        rw [← hw5]; exact (Below.heap_alloc _ _ _ (by simp)).trans (World.alloc_heap_new wo _)
      have x70 : w5.heap[wo.heap.size + 1]? = some (.cells #[.int .i64 q.1.1, .int .i64 q.1.2, .slice (some ⟨G, 0, none⟩) n n] 70 (0, 0)) := by
        rw [← hw5]; have := World.alloc_heap_new (wo.alloc (.cells #[.int .i64 q.1.1, .int .i64 q.1.2, .slice ao2 q.2.length c2] 67)) (.cells #[.int .i64 q.1.1, .int .i64 q.1.2, .slice (some ⟨G, 0, none⟩) n n] 70); rwa [World.size_alloc] at this
      clear hw5
      have y0 : w5.cell? ⟨wo.heap.size, 0, none⟩ = some (.int .i64 q.1.1) := by simp [World.cell?, x67]
      have y1 : w5.cell? ⟨wo.heap.size, 1, none⟩ = some (.int .i64 q.1.2) := by simp [World.cell?, x67]
      have y2 : w5.cell? ⟨wo.heap.size, 2, none⟩ = some (.slice ao2 q.2.length c2) := by simp [World.cell?, x67]
      have y3 : w5.cell? ⟨wo.heap.size + 1, 2, none⟩ = some (.slice (some ⟨G, 0, none⟩) n n) := by simp [World.cell?, x70]
      have HG5 : Hid (w5.rowIs G 3 n (fun i => .int .i64 (grp q.2 i))) := rowIs_below HGr.out hB5 (Nat.le_refl _)
      have HX5 : Hid (IntsAt w5 ao2 q.2) := ints_below hx hB5
      have HB5 : Hid (Below wk.heap.size wk w5) := hB.trans (hB5.mono hB.size)
      clear HGr hx x67 x70 hB hB5 k0 k1 k2 p0 p1 p2 kP HP hPI
      go_loopw [48] (fun i w3 => ∃ ii : Nat, ii ≤ n ∧ i = .int .i64 ii ∧ Below w5.heap.size w5 w3) (fun i _ => n - (intOf i).toNat)
      case atStart => exact ⟨0, Nat.zero_le _, rfl, Below.refl _ _⟩
      case round =>
        obtain ⟨ii, hii, rfl, hB3⟩ := hrel
        by_cases hi : ii < n
        · have z0 := (hB3.cell (p := ⟨wo.heap.size, 0, none⟩) (by simp; omega)).trans y0
          have z1 := (hB3.cell (p := ⟨wo.heap.size, 1, none⟩) (by simp; omega)).trans y1
          have z2 := (hB3.cell (p := ⟨wo.heap.size, 2, none⟩) (by simp; omega)).trans y2
          have z3 := (hB3.cell (p := ⟨wo.heap.size + 1, 2, none⟩) (by simp; omega)).trans y3
          have z4 := (rowIs_below HG5.out hB3 (Nat.le_refl _)).cell hi
          have hs3 := hB3.size
          have l0 : wo.heap.size < wr.heap.size := by omega
          have l1 : wo.heap.size + 1 < wr.heap.size := by omega
          have l2 : G < wr.heap.size := by omega
          have HX3 : Hid (IntsAt wr ao2 q.2) := ints_below HX5.out hB3
          have HB3 : Hid (Below w5.heap.size w5 wr) := hB3
          obtain ⟨gi, hgi⟩ : ∃ gi, grp q.2 ii = gi := ⟨_, rfl⟩
          rw [hgi] at z4
          clear y0 y1 y2 y3 HG5 HX5 hB3
          go_wp2_with fail
          refine wp_region_noPanic ?_
          go_region_held3 (fun W => W.cell? ⟨wo.heap.size, 0, none⟩ = some (.int .i64 q.1.1) ∧ W.cell? ⟨wo.heap.size, 1, none⟩ = some (.int .i64 q.1.2) ∧ W.cell? ⟨wo.heap.size, 2, none⟩ = some (.slice ao2 q.2.length c2) ∧ W.cell? ⟨wo.heap.size + 1, 2, none⟩ = some (.slice (some ⟨G, 0, none⟩) n n) ∧ W.cell? ⟨G, ii, none⟩ = some (.int .i64 gi))
            ((refine keep5 (w := wr) l0 l0 l0 l1 l2 z0 z1 z2 z3 z4 ?_; repeat (first | exact Below.refl _ _ | refine below_drewN ?_ _ | refine below_drew ?_ | refine below_alloc ?_ _)))
            (first | (go_at_call 6; refine (group_any q.1.1 q.1.2 ao2 c2 q.2 _ _ hl ?_).mono ?_; (refine ints_below HX3.out ?_; repeat (first | exact Below.refl _ _ | refine below_drewN ?_ _ | refine below_drew ?_ | refine below_alloc ?_ _)); rw [hgi]; rintro e w' ⟨rfl, k, rfl⟩))
          all_goals (refine NoPanic.normal ?_; go_wp2)
          all_goals go_roundw
          case rel => exact ⟨ii + 1, by omega, by go_num, by repeat (first | exact HB3.out | refine below_drewN ?_ _ | refine below_drew ?_ | refine below_alloc ?_ _)⟩
          case measure => simp [intOf]; omega
        · obtain rfl : ii = n := by omega
          have HB4 : Hid (Below wk.heap.size wk wr) := HB5.out.trans (hB3.mono HB5.out.size)
          clear hB3
          go_wp2
          go_roundw
          case rel => exact ⟨j + 1, by omega, by go_num, HB4.out⟩
          case measure => simp [intOf]; omega
    · obtain rfl : j = qs.length := by omega
      have hd1' := (hB.block D1 (Array.getElem?_eq_some_iff.1 hd1).1).trans hd1
      have hd2' := (hB.block D2 (Array.getElem?_eq_some_iff.1 hd2).1).trans hd2
      have HB3 : Hid (Below w0.heap.size w0 wo) := HP.bel.trans (hB.mono HP.bel.size)
      clear hB HP
      go_wp2
      refine ⟨by simp, .inl ⟨_, _, rfl, run_takeDeferred hd2', ?_⟩⟩
      have hd3 : (wo.putObj D2 (.deferred none)).heap[D1]? = some (.deferred (some [])) := (World.putObj_heap_other (by omega)).trans hd1'
      refine ⟨by simp, .inl ⟨_, _, rfl, run_takeDeferred hd3, ?_⟩⟩
      refine ⟨_, results_tmp rfl _ _ _, rfl, ?_⟩
      have hs0 := HB3.out.size
      exact (HB3.out.grown (grownBy_putObj' wo D2 _) hs0 (fun k e => by cases e; omega)).grown (grownBy_putObj' _ D1 _) (by simpa using hs0) (fun k e => by cases e; omega)
end Go.Proofs.Ybulkdjpk.lawS5535AWhole
