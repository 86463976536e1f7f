import Derived.Test.YbulkdjugFmtWalksA
import Derived.Deep.RegionHeld3
import Derived.Deep.RegionLaw
namespace Go.Proofs.YbulkdjugFmt.lawS5544AWhole
open Go.RowKit Go.Maps Go.Extern.Stop Go.Stop Go.Extern

set_option maxHeartbeats 4000000 in
theorem define_new (base PR P bm n0 N : Nat) (D : DataW Unit) (vR : Value) (cs : List Value) (nm : ByteArray) (hn : (nm.toList == [110, 111, 110, 101]) = false) (wt k : Int) (mo : Option Addr) (ml mc : Nat) (w : World)
    (hnm : nm.size ≤ maxLen) (hN : N < 1000000) (hn0 : n0 ≤ 1000000) (hPR : PR < w.heap.size) (hP : P < w.heap.size) (hbase : base ≤ w.heap.size) (hbR : vR.ownBlock ≠ some P) (hbR2 : vR.ownBlock ≠ some PR)
    (hvR : ∃ ao cap, vR = .slice ao n0 cap)
    (hp0 : w.cell? ⟨PR, 0, none⟩ = some (.pointer (some ⟨P, 0, none⟩))) (hp1 : w.cell? ⟨PR, 1, none⟩ = some (.map (some bm)))
    (hq3 : w.cell? ⟨P, 3, none⟩ = some vR) (hf3 : w.frozen? ⟨P, 3, none⟩ = false)
    (hown : w.ownsMap Ybaf.prog 9 (plainElem Ybaf.prog 3) bm N D) (hrow : w.ownsRow base 28 3 vR n0 cs)
    (HL : ∀ o, (Instr.lookup 24 (.map (some bm)) (.string nm) true).run Ybaf.prog (w.alloc o) = .ok (.tuple #[.int .i64 0, .bool false]) (w.alloc o)) :
    Calls Ybaf.prog 5 #[.pointer (some ⟨PR, 0, none⟩), .string nm, .agg #[.int .i64 wt, .int .i64 k, .slice mo ml mc]] w fun e w' =>
      e = .returned .nilIface ∧ Defined w w' base PR P bm n0 N D vR cs nm wt k (.slice mo ml mc) := by
  obtain ⟨i0, hi, hz0, hz1, hz2⟩ := info_parts info28
  obtain ⟨ao, cap, rfl⟩ := hvR
  obtain ⟨w1, hrun, hown1, hgrow1⟩ := ((hown.alloc (.cells #[.int .i64 wt, .int .i64 k, .slice mo ml mc] 28)).drew).update key9 Ybaf.underlying24 (by unfold maxLen; omega) (Go.WideMaps.keyOf_string_mk Ybaf.underlying9 hnm) (plainElem_int (H := Unit) Ybaf.underlying3 (a := (n0 : Int)) (WalkArith.wf_i64 (by omega)))
  go_enter Ybaf.func5, Ybaf.ntmps5
  go_wp2_with fail
  have hbne1 : some PR ≠ some bm := by
    intro e; cases e
    obtain ⟨es, cl, hb, _⟩ := hown; simp [World.cell?, hb] at hp0
  have hbne2 : some P ≠ some bm := by
    intro e; cases e
    obtain ⟨es, cl, hb, _⟩ := hown; simp [World.cell?, hb] at hq3
  have hPR1 : PR < w.heap.size + 1 := by omega
  have hP1 : P < w.heap.size + 1 := by omega
  have g0 : w1.cell? ⟨PR, 0, none⟩ = some (.pointer (some ⟨P, 0, none⟩)) := (hgrow1.cell_far ⟨PR, 0, none⟩ (by simpa using hPR1) hbne1).trans (by simp [go_sem, World.cell?_alloc_past, hPR, hp0])
  have g1 : w1.cell? ⟨PR, 1, none⟩ = some (.map (some bm)) := (hgrow1.cell_far ⟨PR, 1, none⟩ (by simpa using hPR1) hbne1).trans (by simp [go_sem, World.cell?_alloc_past, hPR, hp1])
  have g3 : w1.cell? ⟨P, 3, none⟩ = some (.slice ao n0 cap) := (hgrow1.cell_far ⟨P, 3, none⟩ (by simpa using hP1) hbne2).trans (by simp [go_sem, World.cell?_alloc_past, hP, hq3])
  have f3 : w1.frozen? ⟨P, 3, none⟩ = false := (hgrow1.frozen_far ⟨P, 3, none⟩ (by simpa using hP1) hbne2).trans (by simp [go_sem, World.frozen?_alloc_past, hP, hf3])
  go_region_held3 (fun w' => w'.cell? ⟨PR, 0, none⟩ = some (.pointer (some ⟨P, 0, none⟩)) ∧ w'.cell? ⟨PR, 1, none⟩ = some (.map (some bm)) ∧ w'.cell? ⟨P, 3, none⟩ = some (.slice ao n0 cap)) (first | exact ⟨g0, g1, g3⟩ | (simp [go_sem, World.cell?_alloc_past, hPR, hP, hp0, hp1, hq3]; done) | go_keep) (fail)
  have hbm : bm < w.heap.size := hown.lt
  have hbne3 : some w.heap.size ≠ some bm := by intro e; cases e; omega
  have hsz1 : w.heap.size + 1 ≤ w1.heap.size := by have := hgrow1.size; simpa using this
  have hsz2 : w.heap.size < w1.heap.size := by omega
  have hsz3 : PR < w1.heap.size := by omega
  have hsz4 : P < w1.heap.size := by omega
  have r0 : w1.cell? ⟨w.heap.size, 0, none⟩ = some (.int .i64 wt) := (hgrow1.cell_far ⟨w.heap.size, 0, none⟩ (by simp) hbne3).trans (by simp [go_sem])
  have r1 : w1.cell? ⟨w.heap.size, 1, none⟩ = some (.int .i64 k) := (hgrow1.cell_far ⟨w.heap.size, 1, none⟩ (by simp) hbne3).trans (by simp [go_sem])
  have r2 : w1.cell? ⟨w.heap.size, 2, none⟩ = some (.slice mo ml mc) := (hgrow1.cell_far ⟨w.heap.size, 2, none⟩ (by simp) hbne3).trans (by simp [go_sem])
  have HROW : Hid (w1.ownsRow base 28 3 (.slice ao n0 cap) n0 cs) := by
    refine ((hrow.alloc _).drew).kept hgrow1 ?_
    right
    intro e
    rcases hrow.2 with ⟨h, _⟩ | ⟨g, c2, cur, h, _, hh, _⟩
    · rw [h] at e; cases e
    · rw [h] at e
      simp only [Value.ownBlock, Option.some.injEq] at e
      subst e
      obtain ⟨es, cl, hb, _⟩ := hown
      rw [hb] at hh; cases hh
  clear hp0 hp1 hq3 hf3 hown hrow HL hrun
  have HNEWS : Hid (∀ j u, [Value.int .i64 wt, .int .i64 k, .slice mo ml mc][j]? = some u → ((w1.alloc (.cells #[.int .i64 wt, .int .i64 k, .slice mo ml mc] 28)).drew).cell? ((⟨w1.heap.size, 0, none⟩ : Addr).add j) = some u) := fun j u hu => by
    have hb : ((w1.alloc (.cells #[.int .i64 wt, .int .i64 k, .slice mo ml mc] 28)).drew).heap[w1.heap.size]? = some (.cells #[.int .i64 wt, .int .i64 k, .slice mo ml mc] 28 (0, 0)) := Go.Deep.blk_alloc_new w1 _
    exact World.news_of_block hb j u hu
  have HONE : Hid (∀ u ∈ [Value.int .i64 wt, .int .i64 k, .slice mo ml mc], u.oneCell' = true) := fun u hu => by
    simp only [List.mem_cons, List.not_mem_nil, or_false] at hu
    rcases hu with rfl | rfl | rfl <;> rfl
  have HBASE : Hid (base ≤ ((w1.alloc (.cells #[.int .i64 wt, .int .i64 k, .slice mo ml mc] 28)).drew).heap.size) := by
    show base ≤ (w1.alloc (.cells #[.int .i64 wt, .int .i64 k, .slice mo ml mc] 28)).heap.size
    rw [World.size_alloc]; omega
  have HSZ : Hid (((w1.alloc (.cells #[.int .i64 wt, .int .i64 k, .slice mo ml mc] 28)).drew).heap.size = w1.heap.size + 1) := World.size_alloc _ _
  have HB1 : Hid (n0 + 1 ≤ maxLen) := by show n0 + 1 ≤ maxLen; unfold maxLen; omega
  have HB2 : Hid ((n0 + 1) * 40 ≤ 140737488355328) := by show (n0 + 1) * 40 ≤ 140737488355328; omega
  have HROW2 : Hid (((w1.alloc (.cells #[.int .i64 wt, .int .i64 k, .slice mo ml mc] 28)).drew).ownsRow base 28 3 (.slice ao n0 cap) n0 cs) := (HROW.out.alloc _).drew
  have HXR : Hid (PR < ((w1.alloc (.cells #[.int .i64 wt, .int .i64 k, .slice mo ml mc] 28)).drew).heap.size) := by
    show PR < (w1.alloc (.cells #[.int .i64 wt, .int .i64 k, .slice mo ml mc] 28)).heap.size
    rw [World.size_alloc]; omega
  have HXP : Hid (P < ((w1.alloc (.cells #[.int .i64 wt, .int .i64 k, .slice mo ml mc] 28)).drew).heap.size) := by
    show P < (w1.alloc (.cells #[.int .i64 wt, .int .i64 k, .slice mo ml mc] 28)).heap.size
    rw [World.size_alloc]; omega
  have HY0 : Hid (((w1.alloc (.cells #[.int .i64 wt, .int .i64 k, .slice mo ml mc] 28)).drew).cell? ⟨PR, 0, none⟩ = some (.pointer (some ⟨P, 0, none⟩))) := (World.cell?_alloc_past _ _ _ hsz3).trans g0
  have HY3 : Hid (((w1.alloc (.cells #[.int .i64 wt, .int .i64 k, .slice mo ml mc] 28)).drew).cell? ⟨P, 3, none⟩ = some (.slice ao n0 cap)) := (World.cell?_alloc_past _ _ _ hsz4).trans g3
  have HYF : Hid (((w1.alloc (.cells #[.int .i64 wt, .int .i64 k, .slice mo ml mc] 28)).drew).frozen? ⟨P, 3, none⟩ = false) := (World.frozen?_alloc_past _ _ _ hsz4).trans f3
  go_wp2_with fail
  go_region_law ((refine step_append_lies _ (by rfl) (.tmp 49) (.tmp 51) 25 (by rfl) base 28 i0 (.agg #[.int .i64 0, .int .i64 0, .slice none 0 0]) 3 40 Ybaf.underlying25 hi hz0 hz1 hz2 rfl (by decide) (.slice ao n0 cap) n0 cs (by rfl) HROW2.out ⟨w1.heap.size, 0, none⟩ 1 1 [.int .i64 wt, .int .i64 k, .slice mo ml mc] (by rfl) rfl HNEWS.out HONE.out (by decide) HB1.out HB2.out HBASE.out (w1.heap.size + 1) HSZ.out ?_; intro g cap' w2 hown2 hgrow2 hat hlt; have q0 := (hgrow2.cell_far ⟨PR, 0, none⟩ HXR.out (Ne.symm hbR2)).trans HY0.out; have q3 := (hgrow2.cell_far ⟨P, 3, none⟩ HXP.out (Ne.symm hbR)).trans HY3.out; have qf := (hgrow2.frozen_far ⟨P, 3, none⟩ HXP.out (Ne.symm hbR)).trans HYF.out))
  all_goals
    go_wp2
    go_ret
    exact ⟨rfl, defined_of hP hbm (fun e => hbne2 (by rw [e])) hbR hsz1 hown1 hgrow1 HROW.out hown2 hgrow2 hat q3⟩
end Go.Proofs.YbulkdjugFmt.lawS5544AWhole
