/-
  5535A: what the loop over the partitions carries: outside the walk.
-/
import Derived.Test.YbulkdjpkARel
import Derived.Deep.OwnRows
namespace Go.Proofs.Ybulkdjpk.lawS5535AWhole
open Go.RowKit

theorem rowIs_kept {W W' : World} {row : Option Nat} {G t n : Nat} {f : Nat → Value} (h : W.rowIs G t n f) (hg : W.grownBy W' row) (hr : ∀ b, row = some b → ∃ u, Typ W b u ∧ u ≠ t) : W'.rowIs G t n f := by
  obtain ⟨c, hc, hrest⟩ := h
  refine ⟨c, (hg.block G (Array.getElem?_eq_some_iff.1 hc).1 (fun e => ?_)).trans hc, hrest⟩
  obtain ⟨u, hu, hne⟩ := hr G e.symm
  exact hu.ne hne hc
theorem rowIs_below {W W' : World} {N G t n : Nat} {f : Nat → Value} (h : W.rowIs G t n f) (hB : Below N W W') (hN : W.heap.size ≤ N) : W'.rowIs G t n f := by
  obtain ⟨c, hc, hrest⟩ := h
  exact ⟨c, (hB.block G (by have := (Array.getElem?_eq_some_iff.1 hc).1; omega)).trans hc, hrest⟩

/-- A partition's groups. -/
def GroupAt (W : World) (B0 : Nat) (gv : Value) (n : Nat) (gs : List Int) : Prop := ∃ G, gv = .slice (some ⟨G, 0, none⟩) n n ∧ B0 ≤ G ∧ W.rowIs G 3 n (fun i => .int .i64 (grp gs i))
theorem GroupAt.kept {W W' : World} {row : Option Nat} {B0 n : Nat} {gv : Value} {gs : List Int} (h : GroupAt W B0 gv n gs) (hg : W.grownBy W' row) (hr : ∀ b, row = some b → ∃ u, Typ W b u ∧ u ≠ 3) : GroupAt W' B0 gv n gs := by
  obtain ⟨G, e, hB, h⟩ := h
  exact ⟨G, e, hB, rowIs_kept h hg hr⟩
theorem GroupAt.below {W W' : World} {N B0 n : Nat} {gv : Value} {gs : List Int} (h : GroupAt W B0 gv n gs) (hB : Below N W W') (hN : W.heap.size ≤ N) : GroupAt W' B0 gv n gs := by
  obtain ⟨G, e, hB0, h⟩ := h
  exact ⟨G, e, hB0, rowIs_below h hB hN⟩

structure PartRows (W : World) (B0 n : Nat) (qs : List Part) (j : Nat) (cells : List Value) : Prop where
  len : cells.length = j * 3
  each : ∀ (i : Nat) (q : Part), i < j → qs[i]? = some q → ∃ gv, cells[i * 3]? = some (.int .i64 q.1.1) ∧ cells[i * 3 + 1]? = some (.int .i64 q.1.2) ∧ cells[i * 3 + 2]? = some gv ∧ GroupAt W B0 gv n q.2
theorem PartRows.kept {W W' : World} {row : Option Nat} {B0 n j : Nat} {qs : List Part} {cells : List Value} (h : PartRows W B0 n qs j cells) (hg : W.grownBy W' row) (hr : ∀ b, row = some b → ∃ u, Typ W b u ∧ u ≠ 3) : PartRows W' B0 n qs j cells :=
  ⟨h.len, fun i q hi hq => by obtain ⟨gv, h0, h1, h2, hgv⟩ := h.each i q hi hq; exact ⟨gv, h0, h1, h2, hgv.kept hg hr⟩⟩
theorem PartRows.below {W W' : World} {N B0 n j : Nat} {qs : List Part} {cells : List Value} (h : PartRows W B0 n qs j cells) (hB : Below N W W') (hN : W.heap.size ≤ N) : PartRows W' B0 n qs j cells :=
  ⟨h.len, fun i q hi hq => by obtain ⟨gv, h0, h1, h2, hgv⟩ := h.each i q hi hq; exact ⟨gv, h0, h1, h2, hgv.below hB hN⟩⟩
theorem PartRows.push {W : World} {B0 n j : Nat} {qs : List Part} {cells : List Value} {q : Part} {gv : Value} (h : PartRows W B0 n qs j cells) (hq : qs[j]? = some q) (hg : GroupAt W B0 gv n q.2) : PartRows W B0 n qs (j + 1) (cells ++ [.int .i64 q.1.1, .int .i64 q.1.2, gv]) := by
  refine ⟨by simp [h.len]; omega, fun i q' hi hq' => ?_⟩
  have hl := h.len
  by_cases hij : i < j
  · obtain ⟨gv', h0, h1, h2, hgv⟩ := h.each i q' hij hq'
    exact ⟨gv', by rw [List.getElem?_append_left (by omega)]; exact h0, by rw [List.getElem?_append_left (by omega)]; exact h1, by rw [List.getElem?_append_left (by omega)]; exact h2, hgv⟩
  · obtain rfl : i = j := by omega
    obtain rfl : q = q' := Option.some.inj (hq.symm.trans hq')
    exact ⟨gv, by rw [List.getElem?_append_right (by omega), hl]; simp, by rw [List.getElem?_append_right (by omega), hl, show i * 3 + 1 - i * 3 = 1 by omega]; rfl, by rw [List.getElem?_append_right (by omega), hl, show i * 3 + 2 - i * 3 = 2 by omega]; rfl, hg⟩

/-- What the loop over the partitions carries. -/
structure CarryP (w wr : World) (f : Nat → List (Int × Int)) (n : Nat) (vN : Value) (ptrs : List Value) (qs : List Part) (j : Nat) (vP : Value) (cells : List Value) : Prop where
  box : RBox wr w.heap.size vN vP
  row : wr.ownsRow w.heap.size 61 1 vN n ptrs
  nodes : Nodes wr w.heap.size f n ptrs
  prow : wr.ownsRow w.heap.size 70 3 vP j cells
  parts : PartRows wr w.heap.size n qs j cells
  bel : Below w.heap.size w wr

theorem CarryN.toP {w wr : World} {f : Nat → List (Int × Int)} {n : Nat} {vN : Value} {ptrs : List Value} (h : CarryN w wr f n vN ptrs) (qs : List Part) : CarryP w wr f n vN ptrs qs 0 (.slice none 0 0) [] :=
  ⟨h.box, h.row, h.nodes, World.ownsRow_nil _ _ _ _, ⟨rfl, fun i q hi => absurd hi (by omega)⟩, h.bel⟩
section
variable {w wr w' w6 : World} {f : Nat → List (Int × Int)} {n j : Nat} {vN vP vP' gv : Value} {ptrs cells : List Value} {qs : List Part} {q : Part} {o1 : Obj}
theorem CarryP.below (h : CarryP w wr f n vN ptrs qs j vP cells) (hB : Below wr.heap.size wr w') : CarryP w w' f n vN ptrs qs j vP cells :=
  ⟨h.box.below hB (Nat.le_refl _), row_below h.row hB (Nat.le_refl _), h.nodes.below hB (Nat.le_refl _), row_below h.prow hB (Nat.le_refl _), h.parts.below hB (Nat.le_refl _), h.bel.trans (hB.mono h.bel.size)⟩
theorem CarryP.mid (h : CarryP w wr f n vN ptrs qs j vP cells) (hg : (wr.alloc o1).grownBy w6 vP.ownBlock) : RBox w6 w.heap.size vN vP :=
  (h.box.kept (World.grownBy_alloc _ o1 none) (fun b e => by cases e)).kept hg (fun b e => ⟨70, row_typ (h.prow.alloc o1) b e, by decide⟩)
theorem CarryP.step (h : CarryP w wr f n vN ptrs qs j vP cells) (hq : qs[j]? = some q) (hgv : GroupAt wr w.heap.size gv n q.2)
    (hown : w6.ownsRow w.heap.size 70 3 vP' (j + 1) (cells ++ [.int .i64 q.1.1, .int .i64 q.1.2, gv])) (hg : (wr.alloc o1).grownBy w6 vP.ownBlock) :
    CarryP w (w6.setCell ⟨w.heap.size, 9, none⟩ vP') f n vN ptrs qs (j + 1) vP' (cells ++ [.int .i64 q.1.1, .int .i64 q.1.2, gv]) := by
  have g1 := World.grownBy_alloc wr o1 none
  have no : ∀ {X : World} {p : TypeId → Prop}, ∀ b, (none : Option Nat) = some b → ∃ t, Typ X b t ∧ p t := fun b e => by cases e
  have t5 := row_typ (h.prow.alloc o1)
  have box6 := h.mid hg
  have tR := box6.typ
  have g7 := grown_setCell w6 w.heap.size 9 vP'
  have hB5 : Below w.heap.size w (wr.alloc o1) := h.bel.alloc h.bel.size _
  refine ⟨box6.setP vP', ?_, ?_, ?_, ?_, ?_⟩
  · exact row_kept (row_kept (row_kept h.row g1 no) hg (fun b e => ⟨70, t5 b e, by decide⟩)) g7 (fun b e => by cases e; exact ⟨53, tR, by decide⟩)
  · exact ((h.nodes.kept g1 no).kept hg (fun b e => ⟨70, t5 b e, by decide, by decide⟩)).kept g7 (fun b e => by cases e; exact ⟨53, tR, by decide, by decide⟩)
  · exact row_kept hown g7 (fun b e => by cases e; exact ⟨53, tR, by decide⟩)
  · exact (((h.parts.kept g1 no).push hq (hgv.kept g1 no)).kept hg (fun b e => ⟨70, t5 b e, by decide⟩)).kept g7 (fun b e => by cases e; exact ⟨53, tR, by decide⟩)
  · exact (below_row hB5 hB5.size (h.prow.alloc o1) hg).setCell (p := ⟨w.heap.size, 9, none⟩) (Nat.le_refl _) _
end
end Go.Proofs.Ybulkdjpk.lawS5535AWhole
