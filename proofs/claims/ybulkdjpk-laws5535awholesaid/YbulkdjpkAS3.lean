/-
  5535A: the windows that are wanted: the partitions' part (loop 8).
-/
import Derived.Test.YbulkdjpkAS2
namespace Go.Proofs.Ybulkdjpk.lawS5535AWhole
open Go.RowKit Go.Deep

/-- What the two calls of 'group' keep. -/
structure H8 (wp : World) (Nb : Nat) (q : Part) (ao2 : Option Addr) (c2 : Nat) (v : Value) (m : Nat) (xs : List (Int × Int)) (W : World) : Prop where
  box : W.heap[Nb]? = some (.cells #[.int .i64 q.1.1, .int .i64 q.1.2, .slice ao2 q.2.length c2] 67 (0, 0))
  ints : IntsAt W ao2 q.2
  row : W.ownsRow wp.heap.size 59 2 v m (flat xs)
  bel : Below wp.heap.size wp W
def S8 (wp : World) (Nb : Nat) (q : Part) (ao2 : Option Addr) (c2 : Nat) (v : Value) (m : Nat) (xs : List (Int × Int)) (W : World) : Prop :=
  W.cell? ⟨Nb, 0, none⟩ = some (.int .i64 q.1.1) ∧ W.cell? ⟨Nb, 1, none⟩ = some (.int .i64 q.1.2) ∧ W.cell? ⟨Nb, 2, none⟩ = some (.slice ao2 q.2.length c2) ∧ H8 wp Nb q ao2 c2 v m xs W
section
variable {wp W : World} {Nb : Nat} {q : Part} {ao2 : Option Addr} {c2 : Nat} {v : Value} {m : Nat} {xs : List (Int × Int)}
theorem H8.s8 (h : H8 wp Nb q ao2 c2 v m xs W) : S8 wp Nb q ao2 c2 v m xs W := ⟨by simp [World.cell?, h.box], by simp [World.cell?, h.box], by simp [World.cell?, h.box], h⟩
theorem H8.drewN (h : H8 wp Nb q ao2 c2 v m xs W) (k : Nat) : H8 wp Nb q ao2 c2 v m xs (W.drewN k) :=
  ⟨h.box, fun j hj => h.ints j hj, row_kept h.row (grown_drewN W k) (fun _ e => by cases e), ⟨h.bel.os, h.bel.tape, h.bel.output, h.bel.size, h.bel.block⟩⟩
theorem H8.alloc (h : H8 wp Nb q ao2 c2 v m xs W) (o : Obj) : H8 wp Nb q ao2 c2 v m xs (W.alloc o) := by
  have hlt := (Array.getElem?_eq_some_iff.1 h.box).1
  exact ⟨(Below.heap_alloc W o _ hlt).trans h.box, ints_below h.ints ((Below.refl _ _).alloc (Nat.le_refl _) o), h.row.alloc o, h.bel.alloc h.bel.size o⟩
theorem H8.drew (h : H8 wp Nb q ao2 c2 v m xs W) : H8 wp Nb q ao2 c2 v m xs W.drew :=
  ⟨h.box, fun j hj => h.ints j hj, row_kept h.row (W' := W.drew) (row := none) ⟨rfl, rfl, rfl, Nat.le_refl _, fun _ _ _ => rfl⟩ (fun _ e => by cases e), ⟨h.bel.os, h.bel.tape, h.bel.output, h.bel.size, h.bel.block⟩⟩
end
/-- One window more; one object laid ahead of the append's own. -/
theorem want_step1 {B : Nat} {wo wr w1 : World} {av : Option Addr} {cv m : Nat} {xs : List (Int × Int)} {x : Int × Int} {v' : Value} {o1 : Obj} (hrow : wr.ownsRow B 59 2 (.slice av m cv) m (flat xs)) (hB : Below B wo wr) (hBs : B ≤ wr.heap.size)
    (hown : w1.ownsRow B 59 2 v' (m + 1) (flat xs ++ [.int .i64 x.1, .int .i64 x.2])) (hg : (wr.alloc o1).grownBy w1 (Value.slice av m cv).ownBlock) :
    w1.ownsRow B 59 2 v' (m + 1) (flat (xs ++ [x])) ∧ Below B wo w1 := by
  refine ⟨by rw [flat_append]; exact hown, below_row (hB.alloc hBs o1) (by simp; omega) (hrow.alloc o1) hg⟩

set_option maxRecDepth 1000000 in
set_option maxHeartbeats 4000000 in
theorem segC {w0 wp wq : World} {ao po : Option Addr} {cap pcap : Nat} {css : List (List (Int × Int))} {qs : List Part} {n : Nat} {vN vP : Value} {ptrs cells : List Value} {a b stop ia ib : Nat}
    (E : Env w0 wp ao po css qs n vN vP ptrs cells) (xs : List (Int × Int)) (hla : xs.length ≤ 2097152) {v : Value} (hw6 : wq.ownsRow wp.heap.size 59 2 v xs.length (flat xs)) (hB6 : Below wp.heap.size wp wq) (R : Code)
    (hR : AtC w0 wp ao po cap pcap css qs n a b stop ia ib (xs ++ cuts ia ib qs) R)
    {u5 u6 u7 u8 u9 u10 u11 u12 u13 u16 u17 u18 u19 u20 u21 u22 u23 u27 u28 u29 u30 u31 u32 u33 u34 u35 u36 u37 u38 u39 u40 u41 u42 u43 u44 u45 u46 u47 u48 u49 u50 u51 u52 u53 u54 u55 u56 u57 u58 u59 u60 u61 u62 u63 u64 u65 u66 u67 u68 u69 u70 u71 u72 u73 u74 u75 u76 u77 u78 u79 u80 u81 u82 u83 u84 u85 u86 u87 u88 u89 u90 u91 u92 u93 u94 u95 u96 u97 u98 u99 u100 u101 u102 u103 u104 u105 u106 u107 u108 u109 u110 u111 u112 u113 u114 u115 u116 u117 u118 u119 u120 u121 u122 u123 u124 u125 u126 u127 u128 u129 u130 u131 u132 u133 u134 u135 u136 u137 u138 u139 u140 u141 u142 u143 u144 u145 u146 u147 u148 u149 u150 u151 u152 u153 u154 u155 u156 u157 u158 u159 u160 u161 u162 u163 u164 u165 u166 u167 u168 u169 u170 u171 u172 u173 u174 u175 u176 u177 u178 u179 u180 u181 u182 u183 u184 u185 u186 u187 u188 u189 u190 u191 u192 u193 u194 u195 u196 u197 u198 u199 u200 u201 u202 u203 u204 u205 u206 u207 u208 u209 u210 u211 u212 u213 u214 u215 u216 u217 u218 u219 u220 u221 u222 u223 u224 u225 u226 u227 u228 u229 u230 u231 u232 u233 u234 u235 u236 u237 u238 u239 u240 u241 u242 u243 u244 u245 u246 u247 u248 u249 u250 u251 u252 u253 u254 u255 u256 u257 u258 u259 u260 u261 u262 u263 u264 u265 u266 u267 u268 u269 u270 u271 u272 u273 u274 u275 u276 u277 u278 u279 u280 u281 u282 u283 u284 u285 u286 u287 u288 u289 u290 u291 u292 u293 u294 u295 u296 u297 u298 u299 u300 u301 u302 u303 u304 u305 u306 u307 u308 u309 u310 u311 u312 u313 u314 u315 u316 u317 u318 u319 u320 u321 u322 u323 u324 u325 u326 u327 u328 u329 u330 u331 u332 u333 u334 u335 u336 u337 u338 u339 u340 u341 u342 u343 u344 u345 u346 u347 u348 u349 u350 u351 u352 u353 u354 u355 u356 u357 u358 u359 u360 u361 u362 u363 u364 u365 u366 u367 u368 u369 u370 u371 u372 u373 u374 u375 u376 u377 u378 u379 u380 u381 u382 u383 u384 u385 u386 u387 u388 u389 u390 u391 u392 u393 u394 u395 u396 u397 u398 u399 u400 u401 u402 u403 u404 : Value} : Code.wp Yba.prog (.seq (nth 15 body) R) (QQ w0) ⟨#[.slice ao css.length cap, .slice po qs.length pcap, .int .u64 a, .int .u64 b, .int .u64 stop, u5, u6, u7, u8, u9, u10, u11, u12, u13, .int .i64 n, ptr w0.heap.size, u16, u17, u18, u19, u20, u21, u22, u23, .int .i64 (ia : Nat), .int .i64 (ib : Nat), v, u27, u28, u29, u30, u31, u32, u33, u34, u35, u36, u37, u38, u39, u40, u41, u42, u43, u44, u45, u46, u47, u48, u49, u50, u51, u52, u53, u54, u55, u56, u57, u58, u59, u60, u61, u62, u63, u64, u65, u66, u67, u68, u69, u70, u71, u72, u73, u74, u75, u76, u77, u78, u79, u80, u81, u82, u83, u84, u85, u86, u87, u88, u89, u90, u91, u92, u93, u94, u95, u96, u97, u98, u99, u100, u101, u102, u103, u104, u105, u106, u107, u108, u109, u110, u111, u112, u113, u114, u115, u116, u117, u118, u119, u120, u121, u122, u123, u124, u125, u126, u127, u128, u129, u130, u131, u132, u133, u134, u135, u136, u137, u138, u139, u140, u141, u142, u143, u144, u145, u146, u147, u148, u149, u150, u151, u152, u153, u154, u155, u156, u157, u158, u159, u160, u161, u162, u163, u164, u165, u166, u167, u168, u169, u170, u171, u172, u173, u174, u175, u176, u177, u178, u179, u180, u181, u182, u183, u184, u185, u186, u187, u188, u189, u190, u191, u192, u193, u194, u195, u196, u197, u198, u199, u200, u201, u202, u203, u204, u205, u206, u207, u208, u209, u210, u211, u212, u213, u214, u215, u216, u217, u218, u219, u220, u221, u222, u223, u224, u225, u226, u227, u228, u229, u230, u231, u232, u233, u234, u235, u236, u237, u238, u239, u240, u241, u242, u243, u244, u245, u246, u247, u248, u249, u250, u251, u252, u253, u254, u255, u256, u257, u258, u259, u260, u261, u262, u263, u264, u265, u266, u267, u268, u269, u270, u271, u272, u273, u274, u275, u276, u277, u278, u279, u280, u281, u282, u283, u284, u285, u286, u287, u288, u289, u290, u291, u292, u293, u294, u295, u296, u297, u298, u299, u300, u301, u302, u303, u304, u305, u306, u307, u308, u309, u310, u311, u312, u313, u314, u315, u316, u317, u318, u319, u320, u321, u322, u323, u324, u325, u326, u327, u328, u329, u330, u331, u332, u333, u334, u335, u336, u337, u338, u339, u340, u341, u342, u343, u344, u345, u346, u347, u348, u349, u350, u351, u352, u353, u354, u355, u356, u357, u358, u359, u360, u361, u362, u363, u364, u365, u366, u367, u368, u369, u370, u371, u372, u373, u374, u375, u376, u377, u378, u379, u380, u381, u382, u383, u384, u385, u386, u387, u388, u389, u390, u391, u392, u393, u394, u395, u396, u397, u398, u399, u400, u401, u402, u403, u404], []⟩ wq := by
  conv => arg 2; arg 1; whnf
  obtain ⟨hn1, hn2, hn3, hql, ht, hC, hP, HP⟩ := E
  clear hC
  obtain ⟨a6, c6, rfl⟩ := row_form hw6
  go_wp2_with fail
  go_loopw [26, 204] (fun v j w3 => ∃ jj : Nat, jj ≤ qs.length ∧ j = .int .i64 jj ∧ w3.ownsRow wp.heap.size 59 2 v (xs ++ cuts ia ib (qs.take jj)).length (flat (xs ++ cuts ia ib (qs.take jj))) ∧ Below wp.heap.size wp w3) (fun _ j _ => qs.length - (intOf j).toNat)
  case atStart => exact ⟨0, Nat.zero_le _, rfl, by simpa [cuts] using hw6, hB6⟩
  case round =>
    obtain ⟨jj, hjj, rfl, hrow, hB3⟩ := hrel
    have hml : (xs ++ cuts ia ib (qs.take jj)).length ≤ 3145728 := by
      have := cuts_len ia ib (qs.take jj)
      rw [List.length_append]; rw [List.length_take] at this; omega
    obtain ⟨av, cv, rfl⟩ := row_form hrow
    by_cases hj : jj < qs.length
    · obtain ⟨q, hq⟩ : ∃ q, qs[jj]? = some q := ⟨_, List.getElem?_eq_getElem hj⟩
      obtain ⟨hl, bb, o, rfl, hb, ao2, c2, k0, k1, k2, hx⟩ := (hP.below (HP.bel.trans (hB3.mono HP.bel.size))) jj q hq
      have htk := cuts_take (a := ia) (b := ib) hq
      obtain ⟨ys, hys⟩ : ∃ ys, xs ++ cuts ia ib (qs.take jj) = ys := ⟨_, rfl⟩
      rw [hys] at hrow hml
      have hyt : xs ++ cuts ia ib (qs.take (jj + 1)) = ys ++ (if grp q.2 ia != grp q.2 ib then [q.1] else []) := by rw [htk, ← List.append_assoc, hys]
      clear htk
      obtain ⟨m, hm⟩ : ∃ m, ys.length = m := ⟨_, rfl⟩
      rw [hm] at hrow hml
      rw [hys, hm]
      have HH : Hid (H8 wp wr.heap.size q ao2 c2 (.slice av m cv) m ys (wr.alloc (.cells #[.int .i64 q.1.1, .int .i64 q.1.2, .slice ao2 q.2.length c2] 67))) :=
        ⟨World.alloc_heap_new wr _, ints_below hx ((Below.refl _ _).alloc (Nat.le_refl _) _), hrow.alloc _, hB3.alloc hB3.size _⟩
      clear hrow
      go_upto_region 56 with fail
      go_cut [214] from 206 to 214 (fun s wk => s = .bool (grp q.2 ia != grp q.2 ib) ∧ H8 wp wr.heap.size q ao2 c2 (.slice av m cv) m ys wk)
      case first =>
        refine wp_region_noPanic ?_
        go_region_held3 (fun W => W.cell? ⟨wr.heap.size, 0, none⟩ = some (.int .i64 q.1.1) ∧ W.cell? ⟨wr.heap.size, 1, none⟩ = some (.int .i64 q.1.2) ∧ W.cell? ⟨wr.heap.size, 2, none⟩ = some (.slice ao2 q.2.length c2) ∧ H8 wp wr.heap.size q ao2 c2 (.slice av m cv) m ys W)
          ((refine H8.s8 ?_; repeat (first | exact HH.out | refine H8.drewN ?_ _ | refine H8.drew ?_ | refine H8.alloc ?_ _)))
          (first
            | (go_at_call 6; refine (group_any q.1.1 q.1.2 ao2 c2 q.2 _ _ hl ?_).mono ?_; (refine H8.ints (wp := wp) (Nb := wr.heap.size) (c2 := c2) (v := .slice av m cv) (m := m) (xs := ys) ?_; repeat (first | exact HH.out | refine H8.drewN ?_ _ | refine H8.drew ?_ | refine H8.alloc ?_ _)); rintro e w' ⟨rfl, k, rfl⟩))
        all_goals (refine NoPanic.normal ?_; go_wp2_with fail)
        all_goals go_meet
        all_goals (refine ⟨by first | rfl | simp [bne], ?_⟩; repeat (first | exact HH.out | refine H8.drewN ?_ _ | refine H8.drew ?_ | refine H8.alloc ?_ _))
      case rest =>
        obtain ⟨rfl, h8⟩ := hcut
        obtain ⟨wx, rfl⟩ : ∃ wx, wx = wc := ⟨_, rfl⟩
        clear HH
        obtain ⟨hs0, hs1, hs2, _⟩ := h8.s8
        have hlt8 := (Array.getElem?_eq_some_iff.1 h8.box).1
        by_cases hne : grp q.2 ia = grp q.2 ib
        · have hbn : (grp q.2 ia != grp q.2 ib) = false := by simp [hne]
          have HW : Hid (wx.ownsRow wp.heap.size 59 2 (.slice av m cv) (xs ++ cuts ia ib (qs.take (jj + 1))).length (flat (xs ++ cuts ia ib (qs.take (jj + 1)))) ∧ Below wp.heap.size wp wx) := by
            rw [hyt, hbn]; simp only [Bool.false_eq_true, ↓reduceIte, List.append_nil]; rw [hm]; exact ⟨h8.row, h8.bel⟩
          rw [hbn]
          clear h8 hyt
          go_wp2
          go_roundw
          case rel => exact ⟨jj + 1, by omega, by go_num, HW.out.1, HW.out.2⟩
          case measure => simp [intOf]; omega
        · have hbn : (grp q.2 ia != grp q.2 ib) = true := by simp [hne]
          rw [hbn] at hyt ⊢
          simp only [↓reduceIte] at hyt
          obtain ⟨i59, hi, hz0, hz1, hz2⟩ := info_parts info59
          have HN := news2 wx (.int .i64 q.1.1) (.int .i64 q.1.2) 59 rfl rfl
          have HR : Hid (wx.ownsRow wp.heap.size 59 2 (.slice av m cv) m (flat ys)) := h8.row
          have HN1 : Hid (∀ j u, [Value.int .i64 q.1.1, .int .i64 q.1.2][j]? = some u → (wx.alloc (.cells #[.int .i64 q.1.1, .int .i64 q.1.2] 59)).cell? ((⟨wx.heap.size, 0, none⟩ : Addr).add j) = some u) := HN.1
          have HN2 : Hid (∀ u ∈ [Value.int .i64 q.1.1, .int .i64 q.1.2], u.oneCell' = true) := HN.2
          have HB8 := h8.bel
          have hs8 := HB8.size
          clear HN h8
          go_wp2_with (at_builtin; refine wpList_append_own _ rfl (.tmp 215) (.tmp 221) 54 rfl wp.heap.size 59 i59 (.agg #[.int .i64 0, .int .i64 0]) 2 16 Yba.underlying54 hi hz0 hz1 hz2 rfl (by decide) (.slice av m cv) m (flat ys) rfl (HR.out.alloc _) ⟨wx.heap.size, 0, none⟩ 1 1 [.int .i64 q.1.1, .int .i64 q.1.2] rfl rfl HN1.out HN2.out (by unfold maxLen; omega) (by omega) (by simp; omega) ?_)
          intro v' w1 hown hgr _
          have HW : Hid (w1.ownsRow wp.heap.size 59 2 v' (xs ++ cuts ia ib (qs.take (jj + 1))).length (flat (xs ++ cuts ia ib (qs.take (jj + 1)))) ∧ Below wp.heap.size wp w1) := by
            rw [hyt, List.length_append, hm]; exact want_step1 HR.out HB8 hs8 hown hgr
          clear hown hgr HR HN1 HN2 hyt
          go_wp2
          go_roundw
          case rel => exact ⟨jj + 1, by omega, by go_num, HW.out.1, HW.out.2⟩
          case measure => simp [intOf]; omega
    · obtain rfl : jj = qs.length := by omega
      rw [List.take_length] at hrow ⊢
      have HF : Hid (wr.ownsRow wp.heap.size 59 2 (.slice av (xs ++ cuts ia ib qs).length cv) (xs ++ cuts ia ib qs).length (flat (xs ++ cuts ia ib qs)) ∧ Below wp.heap.size wp wr) := ⟨hrow, hB3⟩
      clear hrow hB3
      go_wp2
      exact hR _ HF.out.1 HF.out.2
end Go.Proofs.Ybulkdjpk.lawS5535AWhole
