/-
  5535A: the partitions are built (loops 4, 5).
-/
import Derived.Test.YbulkdjpkAS1
namespace Go.Proofs.Ybulkdjpk.lawS5535AWhole
open Go.RowKit Go.Deep

set_option maxRecDepth 1000000 in
set_option maxHeartbeats 4000000 in
theorem segA2 {w0 wk : World} {ao po : Option Addr} {cap pcap : Nat} {css : List (List (Int × Int))} {qs : List Part} {a b stop k : Nat} {vN : Value} {ptrs : List Value}
    (hn1 : 1 ≤ k) (hn2 : k ≤ 1048576) (hql : qs.length ≤ 1048576) (HC : CarryN w0 wk (fcs css) k vN ptrs) (hP : PartIn w0 po qs) (R : Code)
    (hR : AtB w0 ao po cap pcap css qs a b stop k vN ptrs R)
    {u5 u6 u7 u8 u9 u10 u11 u12 u13 u16 u17 u18 u19 u20 u21 u22 u23 u24 u25 u26 u27 u28 u29 u30 u31 u32 u33 u34 u35 u36 u37 u38 u39 u40 u41 u42 u43 u44 u45 u46 u47 u48 u49 u50 u51 u52 u53 u54 u55 u56 u57 u58 u59 u60 u61 u62 u63 u64 u65 u66 u67 u68 u69 u70 u71 u72 u73 u74 u75 u76 u77 u78 u79 u80 u81 u82 u83 u84 u85 u86 u87 u88 u89 u90 u91 u92 u93 u94 u95 u96 u97 u98 u99 u100 u101 u102 u103 u104 u105 u106 u107 u108 u109 u110 u111 u112 u113 u114 u115 u116 u117 u118 u119 u120 u121 u122 u123 u124 u125 u126 u127 u128 u129 u130 u131 u132 u133 u134 u135 u136 u137 u138 u139 u140 u141 u142 u143 u144 u145 u146 u147 u148 u149 u150 u151 u152 u153 u154 u155 u156 u157 u158 u159 u160 u161 u162 u163 u164 u165 u166 u167 u168 u169 u170 u171 u172 u173 u174 u175 u176 u177 u178 u179 u180 u181 u182 u183 u184 u185 u186 u187 u188 u189 u190 u191 u192 u193 u194 u195 u196 u197 u198 u199 u200 u201 u202 u203 u204 u205 u206 u207 u208 u209 u210 u211 u212 u213 u214 u215 u216 u217 u218 u219 u220 u221 u222 u223 u224 u225 u226 u227 u228 u229 u230 u231 u232 u233 u234 u235 u236 u237 u238 u239 u240 u241 u242 u243 u244 u245 u246 u247 u248 u249 u250 u251 u252 u253 u254 u255 u256 u257 u258 u259 u260 u261 u262 u263 u264 u265 u266 u267 u268 u269 u270 u271 u272 u273 u274 u275 u276 u277 u278 u279 u280 u281 u282 u283 u284 u285 u286 u287 u288 u289 u290 u291 u292 u293 u294 u295 u296 u297 u298 u299 u300 u301 u302 u303 u304 u305 u306 u307 u308 u309 u310 u311 u312 u313 u314 u315 u316 u317 u318 u319 u320 u321 u322 u323 u324 u325 u326 u327 u328 u329 u330 u331 u332 u333 u334 u335 u336 u337 u338 u339 u340 u341 u342 u343 u344 u345 u346 u347 u348 u349 u350 u351 u352 u353 u354 u355 u356 u357 u358 u359 u360 u361 u362 u363 u364 u365 u366 u367 u368 u369 u370 u371 u372 u373 u374 u375 u376 u377 u378 u379 u380 u381 u382 u383 u384 u385 u386 u387 u388 u389 u390 u391 u392 u393 u394 u395 u396 u397 u398 u399 u400 u401 u402 u403 u404 : Value} : Code.wp Yba.prog (.seq (nth 9 body) R) (QQ w0) ⟨#[.slice ao css.length cap, .slice po qs.length pcap, .int .u64 a, .int .u64 b, .int .u64 stop, u5, u6, u7, u8, u9, u10, u11, u12, u13, .int .i64 (k : Nat), ptr w0.heap.size, u16, u17, u18, u19, u20, u21, u22, u23, u24, u25, u26, u27, u28, u29, u30, u31, u32, u33, u34, u35, u36, u37, u38, u39, u40, u41, u42, u43, u44, u45, u46, u47, u48, u49, u50, u51, u52, u53, u54, u55, u56, u57, u58, u59, u60, u61, u62, u63, u64, u65, u66, u67, u68, u69, u70, u71, u72, u73, u74, u75, u76, u77, u78, u79, u80, u81, u82, u83, u84, u85, u86, u87, u88, u89, u90, u91, u92, u93, u94, u95, u96, u97, u98, u99, u100, u101, u102, u103, u104, u105, u106, u107, u108, u109, u110, u111, u112, u113, u114, u115, u116, u117, u118, u119, u120, u121, u122, u123, u124, u125, u126, u127, u128, u129, u130, u131, u132, u133, u134, u135, u136, u137, u138, u139, u140, u141, u142, u143, u144, u145, u146, u147, u148, u149, u150, u151, u152, u153, u154, u155, u156, u157, u158, u159, u160, u161, u162, u163, u164, u165, u166, u167, u168, u169, u170, u171, u172, u173, u174, u175, u176, u177, u178, u179, u180, u181, u182, u183, u184, u185, u186, u187, u188, u189, u190, u191, u192, u193, u194, u195, u196, u197, u198, u199, u200, u201, u202, u203, u204, u205, u206, u207, u208, u209, u210, u211, u212, u213, u214, u215, u216, u217, u218, u219, u220, u221, u222, u223, u224, u225, u226, u227, u228, u229, u230, u231, u232, u233, u234, u235, u236, u237, u238, u239, u240, u241, u242, u243, u244, u245, u246, u247, u248, u249, u250, u251, u252, u253, u254, u255, u256, u257, u258, u259, u260, u261, u262, u263, u264, u265, u266, u267, u268, u269, u270, u271, u272, u273, u274, u275, u276, u277, u278, u279, u280, u281, u282, u283, u284, u285, u286, u287, u288, u289, u290, u291, u292, u293, u294, u295, u296, u297, u298, u299, u300, u301, u302, u303, u304, u305, u306, u307, u308, u309, u310, u311, u312, u313, u314, u315, u316, u317, u318, u319, u320, u321, u322, u323, u324, u325, u326, u327, u328, u329, u330, u331, u332, u333, u334, u335, u336, u337, u338, u339, u340, u341, u342, u343, u344, u345, u346, u347, u348, u349, u350, u351, u352, u353, u354, u355, u356, u357, u358, u359, u360, u361, u362, u363, u364, u365, u366, u367, u368, u369, u370, u371, u372, u373, u374, u375, u376, u377, u378, u379, u380, u381, u382, u383, u384, u385, u386, u387, u388, u389, u390, u391, u392, u393, u394, u395, u396, u397, u398, u399, u400, u401, u402, u403, u404], []⟩ wk := by
  conv => arg 2; arg 1; whnf
  have hmk := run_make_row' (P := Yba.prog) 65 3 (.int .i64 0) 8 Yba.underlying65 info3 rfl .i64 .i64 k (by omega) (by omega)
  go_wp2_with fail
  go_loopw [120] (fun i wr => ∃ (j : Nat) (vP : Value) (cells : List Value), j ≤ qs.length ∧ i = .int .i64 j ∧ CarryP w0 wr (fcs css) k vN ptrs qs j vP cells) (fun i _ => qs.length - (intOf i).toNat)
  case atStart => exact ⟨0, _, [], Nat.zero_le _, rfl, HC.toP qs⟩
  case round =>
    obtain ⟨j, vP, cells, hj, rfl, HP⟩ := hrel
    obtain ⟨wp, rfl⟩ : ∃ wp, wp = wr := ⟨_, rfl⟩
    clear HC
    by_cases hjl : j < qs.length
    · obtain ⟨q, hq⟩ : ∃ q, qs[j]? = some q := ⟨_, List.getElem?_eq_getElem hjl⟩
      obtain ⟨hgl, bb, o, rfl, hb, ao2, c2, c0, c1, c2', hx⟩ := (hP.below HP.bel) j q hq
      have HX : Hid (IntsAt wp ao2 q.2) := hx
      have HPH : Hid (CarryP w0 wp (fcs css) k vN ptrs qs j vP cells) := HP
      have hbs := HP.bel.size
      clear HP hx
      go_wp2_with fail
      go_loopw [23] (fun i W => ∃ ii : Nat, ii ≤ k ∧ i = .int .i64 ii ∧ W.rowIs (wp.heap.size + 1) 3 k (gf q.2 ii) ∧ W.heap[wp.heap.size]? = some (.cells #[.int .i64 q.1.1, .int .i64 q.1.2, .slice ao2 q.2.length c2] 67 (0, 0)) ∧ Below wp.heap.size wp W) (fun i _ => k - (intOf i).toNat)
      case atStart => exact ⟨0, Nat.zero_le _, rfl, by have h := (World.rowIs_made (wp.alloc (.cells #[.int .i64 q.1.1, .int .i64 q.1.2, .slice ao2 q.2.length c2] 67)) (.int .i64 0) k 3).congr (g := gf q.2 0) (fun i _ => by simp [gf]); rwa [World.size_alloc] at h, (Below.heap_alloc _ _ _ (by simp)).trans (World.alloc_heap_new wp _), ((Below.refl _ _).alloc (Nat.le_refl _) _).alloc (by simp) _⟩
      case round =>
        obtain ⟨ii, hii, rfl, hrow, hbox, hB5⟩ := hrel
        have hs5 := hB5.size
        have cp0 : wr.cell? ⟨wp.heap.size, 0, none⟩ = some (.int .i64 q.1.1) := by simp [World.cell?, hbox]
        have cp1 : wr.cell? ⟨wp.heap.size, 1, none⟩ = some (.int .i64 q.1.2) := by simp [World.cell?, hbox]
        have cp2 : wr.cell? ⟨wp.heap.size, 2, none⟩ = some (.slice ao2 q.2.length c2) := by simp [World.cell?, hbox]
        have hblt := (Array.getElem?_eq_some_iff.1 hbox).1
        have hglt := hrow.lt
        by_cases hil : ii < k
        · have hxi := ints_below HX.out hB5
          have HXI : Hid (IntsAt wr ao2 q.2) := hxi
          have hold := hrow.cell hil
          have hfr := hrow.frozen ii
          have HS : Hid (∀ qd : Nat, (((wr.alloc (.cells #[.int .i64 q.1.1, .int .i64 q.1.2, .slice ao2 q.2.length c2] 67)).drewN qd).setCell ⟨wp.heap.size + 1, ii, none⟩ (.int .i64 (grp q.2 ii))).rowIs (wp.heap.size + 1) 3 k (gf q.2 (ii + 1)) ∧
              (((wr.alloc (.cells #[.int .i64 q.1.1, .int .i64 q.1.2, .slice ao2 q.2.length c2] 67)).drewN qd).setCell ⟨wp.heap.size + 1, ii, none⟩ (.int .i64 (grp q.2 ii))).heap[wp.heap.size]? = some (.cells #[.int .i64 q.1.1, .int .i64 q.1.2, .slice ao2 q.2.length c2] 67 (0, 0)) ∧
              Below wp.heap.size wp (((wr.alloc (.cells #[.int .i64 q.1.1, .int .i64 q.1.2, .slice ao2 q.2.length c2] 67)).drewN qd).setCell ⟨wp.heap.size + 1, ii, none⟩ (.int .i64 (grp q.2 ii)))) := fun qd => group_step hrow hbox hB5 _ qd ii
          clear hxi hrow hbox
          go_wp2_with (go_at_call 6; refine (group_any q.1.1 q.1.2 ao2 c2 q.2 ii wr hgl HXI.out).mono ?_; rintro e w' ⟨rfl, qd, rfl⟩)
          go_roundw
          case rel => exact ⟨ii + 1, by omega, by go_num, (HS.out qd).1, (HS.out qd).2.1, (HS.out qd).2.2⟩
          case measure => simp [intOf]; omega
        · obtain rfl : ii = k := by omega
          have HG : Hid (GroupAt wr w0.heap.size (.slice (some ⟨wp.heap.size + 1, 0, none⟩) ii ii) ii q.2) := ⟨_, rfl, by omega, hrow.congr (fun i hi => by simp [gf, hi])⟩
          have HPW := HPH.out.below hB5
          clear hrow HX HPH
          obtain ⟨aP, cP, hPf⟩ := row_form HPW.prow
          subst hPf
          have hcP := HPW.box.cP
          have hRl := HPW.box.lt
          have hbs5 := HPW.bel.size
          obtain ⟨i70, hi, hz0, hz1, hz2⟩ := info_parts info70
          have hneR : (Value.slice aP j cP).ownBlock ≠ some w0.heap.size := fun e => (row_typ HPW.prow _ e).ne (by decide) HPW.box
          have HROW2 : Hid (((wr.alloc (.cells #[.int .i64 q.1.1, .int .i64 q.1.2, .slice (some ⟨wp.heap.size + 1, 0, none⟩) ii ii] 70)).drew).ownsRow w0.heap.size 70 3 (.slice aP j cP) j cells) := (HPW.prow.alloc _).drew
          have HNEWS : Hid (∀ j u, [Value.int .i64 q.1.1, .int .i64 q.1.2, .slice (some ⟨wp.heap.size + 1, 0, none⟩) ii ii][j]? = some u → ((wr.alloc (.cells #[.int .i64 q.1.1, .int .i64 q.1.2, .slice (some ⟨wp.heap.size + 1, 0, none⟩) ii ii] 70)).drew).cell? ((⟨wr.heap.size, 0, none⟩ : Addr).add j) = some u) := fun j u hu => by
            have hb : ((wr.alloc (.cells #[.int .i64 q.1.1, .int .i64 q.1.2, .slice (some ⟨wp.heap.size + 1, 0, none⟩) ii ii] 70)).drew).heap[wr.heap.size]? = some (.cells #[.int .i64 q.1.1, .int .i64 q.1.2, .slice (some ⟨wp.heap.size + 1, 0, none⟩) ii ii] 70 (0, 0)) := World.alloc_heap_new wr _
            exact World.news_of_block hb j u hu
          have HONE : Hid (∀ u ∈ [Value.int .i64 q.1.1, .int .i64 q.1.2, .slice (some ⟨wp.heap.size + 1, 0, none⟩) ii ii], u.oneCell' = true) := fun u hu => by
            simp only [List.mem_cons, List.not_mem_nil, or_false] at hu
            rcases hu with rfl | rfl | rfl <;> rfl
          have HSZ : Hid (((wr.alloc (.cells #[.int .i64 q.1.1, .int .i64 q.1.2, .slice (some ⟨wp.heap.size + 1, 0, none⟩) ii ii] 70)).drew).heap.size = wr.heap.size + 1) := World.size_alloc _ _
          have HBASE : Hid (w0.heap.size ≤ ((wr.alloc (.cells #[.int .i64 q.1.1, .int .i64 q.1.2, .slice (some ⟨wp.heap.size + 1, 0, none⟩) ii ii] 70)).drew).heap.size) := by have h := HSZ.out; show _ ≤ _; omega
          have HB1 : Hid (j + 1 ≤ maxLen) := by show j + 1 ≤ maxLen; unfold maxLen; omega
          have HB2 : Hid ((j + 1) * 40 ≤ 140737488355328) := by show (j + 1) * 40 ≤ 140737488355328; omega
          have HST : Hid (∀ vP' w2, w2.ownsRow w0.heap.size 70 3 vP' (j + 1) (cells ++ [.int .i64 q.1.1, .int .i64 q.1.2, .slice (some ⟨wp.heap.size + 1, 0, none⟩) ii ii]) → ((wr.alloc (.cells #[.int .i64 q.1.1, .int .i64 q.1.2, .slice (some ⟨wp.heap.size + 1, 0, none⟩) ii ii] 70)).drew).grownBy w2 (Value.slice aP j cP).ownBlock →
              RBox w2 w0.heap.size vN (.slice aP j cP) ∧ CarryP w0 (w2.setCell ⟨w0.heap.size, 9, none⟩ vP') (fcs css) ii vN ptrs qs (j + 1) vP' (cells ++ [.int .i64 q.1.1, .int .i64 q.1.2, .slice (some ⟨wp.heap.size + 1, 0, none⟩) ii ii])) := fun vP' w2 ho hg => by
            have hg' : (wr.alloc (.cells #[.int .i64 q.1.1, .int .i64 q.1.2, .slice (some ⟨wp.heap.size + 1, 0, none⟩) ii ii] 70)).grownBy w2 (Value.slice aP j cP).ownBlock := ⟨hg.os, hg.tape, hg.output, hg.size, hg.block⟩
            exact ⟨HPW.mid hg', HPW.step hq HG.out ho hg'⟩
          clear HPW HG
          go_wp2_with fail
          refine wp_region_noPanic ?_
          go_region_law ((refine step_append_lies _ (by rfl) (.tmp 141) (.tmp 149) 37 (by rfl) w0.heap.size 70 i70 (.agg #[.int .i64 0, .int .i64 0, .slice none 0 0]) 3 40 Yba.underlying37 hi hz0 hz1 hz2 rfl (by decide) (.slice aP j cP) j cells (by rfl) HROW2.out ⟨wr.heap.size, 0, none⟩ 1 1 [.int .i64 q.1.1, .int .i64 q.1.2, .slice (some ⟨wp.heap.size + 1, 0, none⟩) ii ii] (by rfl) rfl HNEWS.out HONE.out (by decide) HB1.out HB2.out HBASE.out (wr.heap.size + 1) HSZ.out ?_; intro g cap' w2 hown2 hgrow2 hat hlt; obtain ⟨hb2, hst⟩ := HST.out _ _ hown2 hgrow2; have q3 := hb2.cP; have qf := hb2.frozen (o := 9)))
          all_goals
            refine NoPanic.normal ?_
            go_wp2
            go_roundw
            case rel => exact ⟨j + 1, _, _, by omega, by go_num, hst⟩
            case measure => simp [intOf]; omega
    · obtain rfl : j = qs.length := by omega
      have HF : Hid (CarryP w0 wp (fcs css) k vN ptrs qs qs.length vP cells) := HP
      clear HP
      go_wp2
      exact hR _ HF.out
end Go.Proofs.Ybulkdjpk.lawS5535AWhole
