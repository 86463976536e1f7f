/-
  5535A: what the law's loops carry: outside the walk.
-/
import Derived.Test.YbulkdjpkAPart
import Derived.Laws.OwnMore
import Derived.Deep.Onto
namespace Go.Proofs.Ybulkdjpk.lawS5535AWhole
open Go.RowKit

/-- Block b holds cells of type t. -/
def Typ (W : World) (b : Nat) (t : TypeId) : Prop := ∃ (cs : Array Value) (f : Nat × Nat), W.heap[b]? = some (Obj.cells cs t f)
theorem Typ.ne {W : World} {b : Nat} {t t' : TypeId} {cs : Array Value} {f : Nat × Nat} (h : Typ W b t) (ht : t ≠ t') : W.heap[b]? ≠ some (Obj.cells cs t' f) := fun e => by
  obtain ⟨cs', f', h'⟩ := h
  rw [h'] at e
  cases e
  exact ht rfl

theorem row_typ {W : World} {B e s n : Nat} {v : Value} {xs : List Value} (h : W.ownsRow B e s v n xs) : ∀ b, v.ownBlock = some b → Typ W b e := by
  intro b hb
  rcases h.2 with ⟨rfl, _⟩ | ⟨g, cap, cur, rfl, _, hh, _⟩
  · cases hb
  · cases hb; exact ⟨_, _, hh⟩
/-- A row lies on through a step that turns no block of its type. -/
theorem row_kept {W W' : World} {row : Option Nat} {B e s n : Nat} {v : Value} {xs : List Value} (h : W.ownsRow B e s v n xs) (hg : W.grownBy W' row) (hr : ∀ b, row = some b → ∃ t, Typ W b t ∧ t ≠ e) : W'.ownsRow B e s v n xs := by
  refine h.kept hg ?_
  rcases h.2 with ⟨rfl, _⟩ | ⟨g, cap, cur, rfl, _, hh, _⟩
  · exact .inl rfl
  · refine .inr fun e' => ?_
    obtain ⟨t, ht, hne⟩ := hr g (by simpa [Value.ownBlock] using e'.symm)
    exact ht.ne hne hh
theorem row_below {W W' : World} {N B e s n : Nat} {v : Value} {xs : List Value} (h : W.ownsRow B e s v n xs) (hB : Below N W W') (hN : W.heap.size ≤ N) : W'.ownsRow B e s v n xs := by
  refine ⟨h.1, ?_⟩
  rcases h.2 with h1 | ⟨g, cap, cur, hv, hg, hh, hrest⟩
  · exact .inl h1
  · exact .inr ⟨g, cap, cur, hv, hg, (hB.block g (by have := (Array.getElem?_eq_some_iff.1 hh).1; omega)).trans hh, hrest⟩
theorem row_form {w : World} {base e size n : Nat} {v : Value} {xs : List Value} (h : w.ownsRow base e size v n xs) : ∃ ao cap, v = .slice ao n cap := by
  rcases h.2 with ⟨h1, h2⟩ | ⟨g, cap, cur, h1, hg, hh, _⟩
  · exact ⟨none, 0, by rw [h1, h2]⟩
  · exact ⟨_, cap, h1⟩

/-- The windows' cells. -/
def flat : List (Int × Int) → List Value
  | [] => []
  | x :: xs => .int .i64 x.1 :: .int .i64 x.2 :: flat xs
theorem flat_len (ws : List (Int × Int)) : (flat ws).length = ws.length * 2 := by
  induction ws with
  | nil => rfl
  | cons x xs ih => simp [flat, ih]; omega
theorem flat_append (u v : List (Int × Int)) : flat (u ++ v) = flat u ++ flat v := by
  induction u with
  | nil => rfl
  | cons x xs ih => simp [flat, ih]
theorem flat_at {ws : List (Int × Int)} {j : Nat} {x : Int × Int} (h : ws[j]? = some x) : (flat ws)[j * 2]? = some (.int .i64 x.1) ∧ (flat ws)[j * 2 + 1]? = some (.int .i64 x.2) := by
  induction ws generalizing j with
  | nil => simp at h
  | cons y ys ih =>
    cases j with
    | zero => simp at h; subst h; simp [flat]
    | succ j =>
      rw [List.getElem?_cons_succ] at h
      have := ih h
      rw [show (j + 1) * 2 = j * 2 + 1 + 1 by omega, show j * 2 + 1 + 1 + 1 = (j * 2 + 1) + 1 + 1 by omega]
      simpa [flat] using this

/-- The run's cells. -/
abbrev rCells (vN vP : Value) : Array Value := #[.pointer none, .slice none 0 0, vN, .map none, .map none, .int .u64 0, .slice none 0 0, .int .u64 0, .int .u64 0, vP, .pointer none, .slice none 0 0, .int .u64 0, .slice none 0 0,
  .pointer none, .pointer none, .int .i64 0, .int .i64 0, .bool false, .nilFunc, .nilFunc, .slice none 0 0, .map none]
def RBox (W : World) (R : Nat) (vN vP : Value) : Prop := W.heap[R]? = some (.cells (rCells vN vP) 53 (0, 0))
theorem RBox.typ {W : World} {R : Nat} {vN vP : Value} (h : RBox W R vN vP) : Typ W R 53 := ⟨_, _, h⟩
theorem RBox.lt {W : World} {R : Nat} {vN vP : Value} (h : RBox W R vN vP) : R < W.heap.size := (Array.getElem?_eq_some_iff.1 h).1
theorem RBox.cN {W : World} {R : Nat} {vN vP : Value} (h : RBox W R vN vP) : W.cell? ⟨R, 2, none⟩ = some vN := by simp [World.cell?, show W.heap[R]? = _ from h]
theorem RBox.cP {W : World} {R : Nat} {vN vP : Value} (h : RBox W R vN vP) : W.cell? ⟨R, 9, none⟩ = some vP := by simp [World.cell?, show W.heap[R]? = _ from h]
theorem RBox.frozen {W : World} {R o : Nat} {vN vP : Value} (h : RBox W R vN vP) : W.frozen? ⟨R, o, none⟩ = false := by simp [World.frozen?, show W.heap[R]? = _ from h]
theorem RBox.kept {W W' : World} {row : Option Nat} {R : Nat} {vN vP : Value} (h : RBox W R vN vP) (hg : W.grownBy W' row) (hr : ∀ b, row = some b → ∃ t, Typ W b t ∧ t ≠ 53) : RBox W' R vN vP :=
  (hg.block R h.lt (fun e => by obtain ⟨t, ht, hne⟩ := hr R e.symm; exact ht.ne hne h)).trans h
theorem RBox.below {W W' : World} {N R : Nat} {vN vP : Value} (h : RBox W R vN vP) (hB : Below N W W') (hN : W.heap.size ≤ N) : RBox W' R vN vP := (hB.block R (by have := h.lt; omega)).trans h
theorem RBox.setN {W : World} {R : Nat} {vN vP : Value} (h : RBox W R vN vP) (v : Value) : RBox (W.setCell ⟨R, 2, none⟩ v) R v vP := by
  obtain ⟨hlt, hk⟩ := Array.getElem?_eq_some_iff.1 h
  show (W.heap.modify R _)[R]? = _
  rw [Array.getElem?_eq_getElem (by rw [Array.size_modify]; exact hlt), Array.getElem_modify_self, hk]
  rfl
theorem RBox.setP {W : World} {R : Nat} {vN vP : Value} (h : RBox W R vN vP) (v : Value) : RBox (W.setCell ⟨R, 9, none⟩ v) R vN v := by
  obtain ⟨hlt, hk⟩ := Array.getElem?_eq_some_iff.1 h
  show (W.heap.modify R _)[R]? = _
  rw [Array.getElem?_eq_getElem (by rw [Array.size_modify]; exact hlt), Array.getElem_modify_self, hk]
  rfl
theorem grown_setCell (W : World) (b o : Nat) (v : Value) : W.grownBy (W.setCell ⟨b, o, none⟩ v) (some b) :=
  ⟨rfl, rfl, rfl, (KeepsWalks.setCell W _ v).size, fun k _ hk => Below.heap_setCell _ _ _ k (fun e => hk (by rw [e]))⟩

/-- A node's cells. -/
abbrev nodeCells (i : Nat) (v : Value) : Array Value := #[.string ⟨#[]⟩, .int .i64 i, .int .i64 0, .pointer none, .bool false, .int .i64 0, v]
def NodeAt (W : World) (B0 X i : Nat) (ws : List (Int × Int)) : Prop := ∃ v, W.heap[X]? = some (.cells (nodeCells i v) 64 (0, 0)) ∧ W.ownsRow B0 59 2 v ws.length (flat ws)
theorem NodeAt.kept {W W' : World} {row : Option Nat} {B0 X i : Nat} {ws : List (Int × Int)} (h : NodeAt W B0 X i ws) (hg : W.grownBy W' row) (hr : ∀ b, row = some b → ∃ t, Typ W b t ∧ t ≠ 64 ∧ t ≠ 59) : NodeAt W' B0 X i ws := by
  obtain ⟨v, hX, hv⟩ := h
  refine ⟨v, (hg.block X (Array.getElem?_eq_some_iff.1 hX).1 (fun e => ?_)).trans hX, row_kept hv hg (fun b e => by obtain ⟨t, ht, _, h2⟩ := hr b e; exact ⟨t, ht, h2⟩)⟩
  obtain ⟨t, ht, h1, _⟩ := hr X e.symm
  exact ht.ne h1 hX
theorem NodeAt.below {W W' : World} {N B0 X i : Nat} {ws : List (Int × Int)} (h : NodeAt W B0 X i ws) (hB : Below N W W') (hN : W.heap.size ≤ N) : NodeAt W' B0 X i ws := by
  obtain ⟨v, hX, hv⟩ := h
  exact ⟨v, (hB.block X (by have := (Array.getElem?_eq_some_iff.1 hX).1; omega)).trans hX, row_below hv hB hN⟩
/-- The nodes. -/
structure Nodes (W : World) (B0 : Nat) (f : Nat → List (Int × Int)) (k : Nat) (ptrs : List Value) : Prop where
  len : ptrs.length = k
  each : ∀ i, i < k → ∃ X, ptrs[i]? = some (.pointer (some ⟨X, 0, none⟩)) ∧ NodeAt W B0 X i (f i)
theorem Nodes.kept {W W' : World} {row : Option Nat} {B0 k : Nat} {f : Nat → List (Int × Int)} {ptrs : List Value} (h : Nodes W B0 f k ptrs) (hg : W.grownBy W' row) (hr : ∀ b, row = some b → ∃ t, Typ W b t ∧ t ≠ 64 ∧ t ≠ 59) : Nodes W' B0 f k ptrs :=
  ⟨h.len, fun i hi => by obtain ⟨X, hX, hn⟩ := h.each i hi; exact ⟨X, hX, hn.kept hg hr⟩⟩
theorem Nodes.below {W W' : World} {N B0 k : Nat} {f : Nat → List (Int × Int)} {ptrs : List Value} (h : Nodes W B0 f k ptrs) (hB : Below N W W') (hN : W.heap.size ≤ N) : Nodes W' B0 f k ptrs :=
  ⟨h.len, fun i hi => by obtain ⟨X, hX, hn⟩ := h.each i hi; exact ⟨X, hX, hn.below hB hN⟩⟩
theorem Nodes.push {W : World} {B0 k X : Nat} {f : Nat → List (Int × Int)} {ptrs : List Value} (h : Nodes W B0 f k ptrs) (hn : NodeAt W B0 X k (f k)) : Nodes W B0 f (k + 1) (ptrs ++ [.pointer (some ⟨X, 0, none⟩)]) := by
  refine ⟨by simp [h.len], fun i hi => ?_⟩
  by_cases hik : i < k
  · obtain ⟨Y, hY, hn'⟩ := h.each i hik
    exact ⟨Y, by rw [List.getElem?_append_left (by rw [h.len]; exact hik)]; exact hY, hn'⟩
  · obtain rfl : i = k := by omega
    exact ⟨X, by rw [List.getElem?_append_right (by rw [h.len]; omega), h.len]; simp, hn⟩

/-- What the loop over the nodes carries. -/
structure CarryN (w wr : World) (f : Nat → List (Int × Int)) (k : Nat) (vN : Value) (ptrs : List Value) : Prop where
  box : RBox wr w.heap.size vN (.slice none 0 0)
  row : wr.ownsRow w.heap.size 61 1 vN k ptrs
  nodes : Nodes wr w.heap.size f k ptrs
  bel : Below w.heap.size w wr

theorem CarryN.start (w : World) (f : Nat → List (Int × Int)) : CarryN w (w.alloc (.cells (rCells (.slice none 0 0) (.slice none 0 0)) 53)) f 0 (.slice none 0 0) [] :=
  ⟨World.alloc_heap_new w _, World.ownsRow_nil _ _ _ _, ⟨rfl, fun i hi => absurd hi (by omega)⟩, (Below.refl _ _).alloc (Nat.le_refl _) _⟩
theorem CarryN.below {w wr w' : World} {f : Nat → List (Int × Int)} {k : Nat} {vN : Value} {ptrs : List Value} (h : CarryN w wr f k vN ptrs) (hB : Below wr.heap.size wr w') : CarryN w w' f k vN ptrs :=
  ⟨h.box.below hB (Nat.le_refl _), row_below h.row hB (Nat.le_refl _), h.nodes.below hB (Nat.le_refl _), h.bel.trans (hB.mono h.bel.size)⟩

theorem below_row {B : Nat} {w W W' : World} {e s n : Nat} {v : Value} {xs : List Value} (hB : Below B w W) (hBs : B ≤ W.heap.size) (hr : W.ownsRow B e s v n xs) (hg : W.grownBy W' v.ownBlock) : Below B w W' :=
  hB.grown hg hBs (fun j ej => by
    rcases hr.2 with ⟨rfl, _⟩ | ⟨g, cap, cur, rfl, hb, _, _⟩
    · simp [Value.ownBlock] at ej
    · obtain rfl : g = j := by simpa [Value.ownBlock] using ej
      exact hb)
theorem CarryN.mid {w wr w6 : World} {f : Nat → List (Int × Int)} {k : Nat} {vN : Value} {ptrs : List Value} {o1 o2 : Obj} (h : CarryN w wr f k vN ptrs) (hg : ((wr.alloc o1).alloc o2).grownBy w6 vN.ownBlock) : RBox w6 w.heap.size vN (.slice none 0 0) := by
  have no : ∀ {X : World} {p : TypeId → Prop}, ∀ b, (none : Option Nat) = some b → ∃ t, Typ X b t ∧ p t := fun b e => by cases e
  exact ((h.box.kept (World.grownBy_alloc _ o1 none) no).kept (World.grownBy_alloc _ o2 none) no).kept hg (fun b e => ⟨61, row_typ ((h.row.alloc o1).alloc o2) b e, by decide⟩)
/-- One node more: the node's box, the element's block, the append, the store into the run. -/
theorem CarryN.step {w wr w6 : World} {f : Nat → List (Int × Int)} {k : Nat} {vN vN' v : Value} {ptrs : List Value} (h : CarryN w wr f k vN ptrs) (hv : wr.ownsRow w.heap.size 59 2 v (f k).length (flat (f k)))
    (hown : w6.ownsRow w.heap.size 61 1 vN' (k + 1) (ptrs ++ [.pointer (some ⟨wr.heap.size, 0, none⟩)]))
    (hg : ((wr.alloc (.cells (nodeCells k v) 64)).alloc (.cells #[.pointer (some ⟨wr.heap.size, 0, none⟩)] 61)).grownBy w6 vN.ownBlock) :
    CarryN w (w6.setCell ⟨w.heap.size, 2, none⟩ vN') f (k + 1) vN' (ptrs ++ [.pointer (some ⟨wr.heap.size, 0, none⟩)]) := by
  have g1 : wr.grownBy (wr.alloc (.cells (nodeCells k v) 64)) none := World.grownBy_alloc _ _ none
  have g2 : (wr.alloc (.cells (nodeCells k v) 64)).grownBy ((wr.alloc (.cells (nodeCells k v) 64)).alloc (.cells #[.pointer (some ⟨wr.heap.size, 0, none⟩)] 61)) none := World.grownBy_alloc _ _ none
  have no : ∀ {X : World} {p : TypeId → Prop}, ∀ b, (none : Option Nat) = some b → ∃ t, Typ X b t ∧ p t := fun b e => by cases e
  have hrow5 := (h.row.alloc (.cells (nodeCells k v) 64)).alloc (.cells #[.pointer (some ⟨wr.heap.size, 0, none⟩)] 61)
  have t5 := row_typ hrow5
  have box6 := ((h.box.kept g1 no).kept g2 no).kept hg (fun b e => ⟨61, t5 b e, by decide⟩)
  have tR := box6.typ
  have n1 : NodeAt (wr.alloc (.cells (nodeCells k v) 64)) w.heap.size wr.heap.size k (f k) := ⟨v, World.alloc_heap_new wr _, hv.alloc _⟩
  have nodes6 := (((h.nodes.kept g1 no).push n1).kept g2 no).kept hg (fun b e => ⟨61, t5 b e, by decide, by decide⟩)
  have g7 := grown_setCell w6 w.heap.size 2 vN'
  have hB5 : Below w.heap.size w ((wr.alloc (.cells (nodeCells k v) 64)).alloc (.cells #[.pointer (some ⟨wr.heap.size, 0, none⟩)] 61)) := (h.bel.alloc h.bel.size _).alloc (by simp; have := h.bel.size; omega) _
  refine ⟨box6.setN vN', row_kept hown g7 (fun b e => by cases e; exact ⟨53, tR, by decide⟩), nodes6.kept g7 (fun b e => by cases e; exact ⟨53, tR, by decide, by decide⟩), ?_⟩
  exact (below_row hB5 hB5.size hrow5 hg).setCell (p := ⟨w.heap.size, 2, none⟩) (Nat.le_refl _) _
end Go.Proofs.Ybulkdjpk.lawS5535AWhole
