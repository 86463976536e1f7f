/-
  What lies in memory when 'define' has returned (5544A): outside the walk.
-/
import Derived.Test.YbulkdjugFmtRel
namespace Go.Proofs.YbulkdjugFmt.lawS5544AWhole
open Go.RowKit Go.Maps

theorem Carry.below {w wr W : World} {ks : List ByteArray} {D : DataW Unit} {vK vR : Value} (h : Carry w wr ks D vK vR) (hB : Below wr.heap.size wr W) : Carry w W ks D vK vR := by
  have hb : ∀ b, b < wr.heap.size → W.heap[b]? = wr.heap[b]? := hB.block
  have hg : wr.grownBy W none := ⟨hB.os, hB.tape, hB.output, hB.size, fun i hi _ => hb i hi⟩
  exact ⟨h.small, h.map.kept hg (by simp), h.idx, ownsRow_block h.keys (fun g e => hb g (h.keys.lt g e).2), ownsRow_block h.rules (fun g e => hb g (h.rules.lt g e).2), h.bel.trans (hB.mono h.bel.size)⟩

structure After (w W : World) (P PR n N : Nat) (ks kz : List ByteArray) (D : DataW Unit) (vK vR : Value) (tail : List Value) (mo aM : Option Addr) (xs : List Int) : Prop where
  bel : Below w.heap.size w W
  r0 : W.cell? ⟨PR, 0, none⟩ = some (.pointer (some ⟨P, 0, none⟩))
  r1 : W.cell? ⟨PR, 1, none⟩ = some (.map (some w.heap.size))
  r2 : W.cell? ⟨PR, 2, none⟩ = some (.map none)
  r3 : W.cell? ⟨PR, 3, none⟩ = some (.map none)
  r4 : W.cell? ⟨PR, 4, none⟩ = some (.bool false)
  p0 : W.cell? ⟨P, 0, none⟩ = some (.slice none 0 0)
  p1 : W.cell? ⟨P, 1, none⟩ = some (.slice none 0 0)
  p2 : W.cell? ⟨P, 2, none⟩ = some (.slice none 0 0)
  p3 : W.cell? ⟨P, 3, none⟩ = some vR
  p4 : W.cell? ⟨P, 4, none⟩ = some (.int .i64 7)
  keys : W.ownsRow w.heap.size 9 1 vK ks.length (ks.map Value.string)
  rules : W.ownsRow w.heap.size 28 3 vR n (ruleCells ks.length ++ tail)
  map : W.ownsMap Ybaf.prog 9 (plainElem Ybaf.prog 3) w.heap.size N D
  idx : Idx D kz
  pre : ∀ j, j < ks.length → j < kz.length ∧ kz.getD j ⟨#[]⟩ = ks.getD j ⟨#[]⟩
  small : ∀ s ∈ ks, s.size ≤ maxLen
  mem : IntsAt W mo xs
  cpy : IntsAt W aM xs

theorem cell_lt {w : World} {b o : Nat} {v : Value} (h : w.cell? ⟨b, o, none⟩ = some v) : b < w.heap.size := by
  rcases Nat.lt_or_ge b w.heap.size with h' | h'
  · exact h'
  · exfalso; simp [World.cell?, Array.getElem?_eq_none h'] at h

theorem After.below {w W W' : World} {P PR n N : Nat} {ks kz : List ByteArray} {D : DataW Unit} {vK vR : Value} {tail : List Value} {mo aM : Option Addr} {xs : List Int} (h : After w W P PR n N ks kz D vK vR tail mo aM xs) (hB : Below W.heap.size W W') : After w W' P PR n N ks kz D vK vR tail mo aM xs := by
  have hPR := cell_lt h.r0
  have hP := cell_lt h.p0
  have hb : ∀ b, b < W.heap.size → W'.heap[b]? = W.heap[b]? := hB.block
  have hg : W.grownBy W' none := ⟨hB.os, hB.tape, hB.output, hB.size, fun i hi _ => hb i hi⟩
  have cR : ∀ j, W'.cell? ⟨PR, j, none⟩ = W.cell? ⟨PR, j, none⟩ := fun j => World.cell?_of_block (hb PR hPR)
  have cP : ∀ j, W'.cell? ⟨P, j, none⟩ = W.cell? ⟨P, j, none⟩ := fun j => World.cell?_of_block (hb P hP)
  exact ⟨h.bel.trans (hB.mono h.bel.size), (cR 0).trans h.r0, (cR 1).trans h.r1, (cR 2).trans h.r2, (cR 3).trans h.r3, (cR 4).trans h.r4, (cP 0).trans h.p0, (cP 1).trans h.p1, (cP 2).trans h.p2, (cP 3).trans h.p3, (cP 4).trans h.p4,
    ownsRow_block h.keys (fun g e => hb g (h.keys.lt g e).2), ownsRow_block h.rules (fun g e => hb g (h.rules.lt g e).2), h.map.kept hg (by simp), h.idx, h.pre, h.small, h.mem.below hB, h.cpy.below hB⟩

/-- The world in which 'define' is called. -/
theorem after_start {w wc : World} {ks : List ByteArray} {D : DataW Unit} {vK vR : Value} {mo aM : Option Addr} {xs : List Int} (h : Carry w wc ks D vK vR) (hm : IntsAt wc mo xs) (hc : IntsAt wc aM xs) :
    After w ((wc.alloc (.cells #[.slice none 0 0, .slice none 0 0, .slice none 0 0, vR, .int .i64 7] 33)).alloc (.cells #[.pointer (some ⟨wc.heap.size, 0, none⟩), .map (some w.heap.size), .map none, .map none, .bool false] 37)) wc.heap.size (wc.heap.size + 1) ks.length ks.length ks ks D vK vR [] mo aM xs := by
  have hB : Below wc.heap.size wc ((wc.alloc (.cells #[.slice none 0 0, .slice none 0 0, .slice none 0 0, vR, .int .i64 7] 33)).alloc (.cells #[.pointer (some ⟨wc.heap.size, 0, none⟩), .map (some w.heap.size), .map none, .map none, .bool false] 37)) :=
    ((Below.refl _ _).alloc (Nat.le_refl _) _).alloc (by simp) _
  have h2 := h.below hB
  refine ⟨h2.bel, ?_, ?_, ?_, ?_, ?_, ?_, ?_, ?_, ?_, ?_, h2.keys, ?_, h2.map, h2.idx, fun j hj => ⟨hj, rfl⟩, h2.small, hm.below hB, hc.below hB⟩
  all_goals first | (simp [go_sem, World.cell?_alloc_past]; done) | skip
  rw [List.append_nil]; exact h2.rules

/-- .. and behind it, where the name was new. -/
theorem after_defined {w W W' : World} {P PR n0 : Nat} {ks : List ByteArray} {D : DataW Unit} {vK vR : Value} {mo aM : Option Addr} {xs : List Int} {nm : ByteArray} {wt k : Int} {mv : Value}
    (h : After w W P PR n0 n0 ks ks D vK vR [] mo aM xs) (hn0 : n0 = ks.length) (hne : PR ≠ P) (hw : w.heap.size < P) (hw2 : w.heap.size < PR) (hmiss : Maps.has D (kl nm) = false)
    (hmP : ∀ b o, 0 < xs.length → mo = some ⟨b, o, none⟩ → b < w.heap.size) (haM : ∀ b o, aM = some ⟨b, o, none⟩ → b ≠ P ∧ b ≠ w.heap.size ∧ some b ≠ vR.ownBlock) (hPk : vK.ownBlock ≠ some P) (hRPR : vR.ownBlock ≠ some PR)
    (hd : Defined W W' w.heap.size PR P w.heap.size n0 n0 D vR (ruleCells n0) nm wt k mv) :
    ∃ g cap', After w W' P PR (n0 + 1) (n0 + 1) ks (ks ++ [nm]) (D.put (kl nm) (i64 n0)) vK (.slice (some ⟨g, 0, none⟩) (n0 + 1) cap') [.int .i64 wt, .int .i64 k, mv] mo aM xs := by
  subst hn0
  obtain ⟨v', hv3, ⟨g, cap', rfl⟩, hrow⟩ := hd.rules
  refine ⟨g, cap', ?_⟩
  have hPR := cell_lt h.r0
  have hP := cell_lt h.p0
  have hvRge : ∀ b, vR.ownBlock = some b → w.heap.size ≤ b := fun b e => (h.rules.lt b e).1
  have hbel : Below w.heap.size w W' := by
    refine ⟨hd.os.trans h.bel.os, hd.tape.trans h.bel.tape, hd.output.trans h.bel.output, Nat.le_trans h.bel.size hd.size, fun b hb => ?_⟩
    rw [hd.keeps b (Nat.lt_of_lt_of_le hb h.bel.size) (by omega) (by omega) (fun e => by have := hvRge b e.symm; omega)]
    exact h.bel.block b hb
  have cR : ∀ j, W'.cell? ⟨PR, j, none⟩ = W.cell? ⟨PR, j, none⟩ := fun j => World.cell?_of_block (hd.keeps PR hPR hne (by omega) (Ne.symm hRPR))
  have hkr : some w.heap.size ≠ vK.ownBlock := Ne.symm (map_ne_row h.keys h.map)
  refine ⟨hbel, (cR 0).trans h.r0, (cR 1).trans h.r1, (cR 2).trans h.r2, (cR 3).trans h.r3, (cR 4).trans h.r4, (hd.pcells 0 (by decide)).trans h.p0, (hd.pcells 1 (by decide)).trans h.p1, (hd.pcells 2 (by decide)).trans h.p2, hv3, (hd.pcells 4 (by decide)).trans h.p4,
    ?_, hrow, hd.map, h.idx.snoc hmiss, fun j hj => ⟨by simp; omega, getD_left ks nm j hj⟩, h.small, ?_, ?_⟩
  · refine ownsRow_block h.keys (fun g' e => hd.keeps g' (h.keys.lt g' e).2 ?_ ?_ ?_)
    · intro e2; subst e2; exact hPk e
    · intro e2; subst e2; exact hkr e.symm
    · intro e2
      rcases rows_ne h.keys h.rules (by decide) with h1 | h1
      · rw [e] at h1; cases h1
      · exact h1 (e.trans e2)
  · exact h.mem.blocks hd.size (fun b o h0 e hb => hd.keeps b hb (by have := hmP b o h0 e; omega) (by have := hmP b o h0 e; omega) (fun e2 => by have := hvRge b e2.symm; have := hmP b o h0 e; omega))
  · exact h.cpy.blocks hd.size (fun b o _ e hb => hd.keeps b hb (haM b o e).1 (haM b o e).2.1 (haM b o e).2.2)

theorem After.key_cell {w W : World} {P PR n N cK : Nat} {aK : Option Addr} {ks kz : List ByteArray} {D : DataW Unit} {vR : Value} {tail : List Value} {mo aM : Option Addr} {xs : List Int} (h : After w W P PR n N ks kz D (.slice aK ks.length cK) vR tail mo aM xs) {j : Nat} (hj : j < ks.length) :
    ∃ g, aK = some ⟨g, 0, none⟩ ∧ W.cell? ⟨g, j, none⟩ = some (.string (ks.getD j ⟨#[]⟩)) := by
  have hk := h.keys
  rcases hk.2 with ⟨h1, h2⟩ | ⟨g, cap, cur, h1, _⟩
  · omega
  · injection h1 with h1 _ h3
    subst h1; subst h3
    exact ⟨g, rfl, by rw [hk.cellAt j (by omega)]; simp [List.getD, hj]⟩
theorem After.look {w W : World} {P PR n N : Nat} {ks kz : List ByteArray} {D : DataW Unit} {vK vR : Value} {tail : List Value} {mo aM : Option Addr} {xs : List Int} (h : After w W P PR n N ks kz D vK vR tail mo aM xs) {j : Nat} (hj : j < ks.length) (q : Nat) :
    (Instr.lookup 24 (.map (some w.heap.size)) (.string (ks.getD j ⟨#[]⟩)) true).run Ybaf.prog (W.drewN q) = .ok (.tuple #[.int .i64 (j : Int), .bool true]) (W.drewN q) := by
  obtain ⟨h1, h2⟩ := h.pre j hj
  have hs : (kz.getD j ⟨#[]⟩).size ≤ maxLen := by
    rw [h2]
    refine h.small _ ?_
    simp [List.getD, hj]
  have hm : (W.drewN q).ownsMap Ybaf.prog 9 (plainElem Ybaf.prog 3) w.heap.size N D := h.map
  have := look_hit hm h.idx h1 hs
  rw [h2] at this
  exact this
theorem After.rule_cell {w W : World} {P PR n N cR : Nat} {aR : Option Addr} {ks kz : List ByteArray} {D : DataW Unit} {vK : Value} {tail : List Value} {mo aM : Option Addr} {xs : List Int} (h : After w W P PR n N ks kz D vK (.slice aR n cR) tail mo aM xs) (hn : ks.length ≤ n) {j : Nat} (hj : j < ks.length) :
    ∃ g, aR = some ⟨g, 0, none⟩ ∧ W.cell? ⟨g, j * 3, none⟩ = some (.int .i64 j) ∧ W.cell? ⟨g, j * 3 + 1, none⟩ = some (.int .i64 (-(j : Int))) ∧ W.cell? ⟨g, j * 3 + 2, none⟩ = some (.slice none 0 0) := by
  have hk := h.rules
  rcases hk.2 with ⟨h1, h2⟩ | ⟨g, cap, cur, h1, _⟩
  · omega
  · injection h1 with h1 _ h3
    subst h1; subst h3
    obtain ⟨c0, c1, c2⟩ := ruleCells_at ks.length j hj tail
    exact ⟨g, rfl, by rw [hk.cellAt (j * 3) (by omega)]; exact c0, by rw [hk.cellAt (j * 3 + 1) (by omega)]; exact c1, by rw [hk.cellAt (j * 3 + 2) (by omega)]; exact c2⟩
theorem After.last_cell {w W : World} {P PR N cR g : Nat} {ks kz : List ByteArray} {D : DataW Unit} {vK : Value} {a b c : Value} {mo aM : Option Addr} {xs : List Int} (h : After w W P PR (ks.length + 1) N ks kz D vK (.slice (some ⟨g, 0, none⟩) (ks.length + 1) cR) [a, b, c] mo aM xs) :
    W.cell? ⟨g, ks.length * 3, none⟩ = some a ∧ W.cell? ⟨g, ks.length * 3 + 1, none⟩ = some b ∧ W.cell? ⟨g, ks.length * 3 + 2, none⟩ = some c := by
  have hk := h.rules
  have hl := ruleCells_length ks.length
  refine ⟨?_, ?_, ?_⟩
  · rw [hk.cellAt _ (by omega), List.getElem?_append_right (by omega)]; simp [hl]
  · rw [hk.cellAt _ (by omega), List.getElem?_append_right (by omega), hl, show ks.length * 3 + 1 - ks.length * 3 = 1 from by omega]; rfl
  · rw [hk.cellAt _ (by omega), List.getElem?_append_right (by omega), hl, show ks.length * 3 + 2 - ks.length * 3 = 2 from by omega]; rfl
end Go.Proofs.YbulkdjugFmt.lawS5544AWhole
