/-
  5535A: AN ITERATOR THAT ITSELF RANGES OVER AN ITERATOR. The kit's contract 'SeqStopsK' hands the iterator an invariant that abides turns of walks alone; 'parting$1' ranges over 'cutting$1' and so turns a loop's record of its own between two of its yields. Here: 'SeqStopsX': the invariant abides the turn of ANY block that is no cells and is laid since the iterator began ('OwnFrom'), and each yield tells the iterator that such blocks lie as they lay ('KeepsFrom'). 'range_X': the caller's law over it.
-/
import Derived.RangeFuncNested
import Derived.RangeFuncBound
import Derived.RangeFuncCalls
namespace Go.Proofs.Ybulkdjpk.lawS5535AWhole
open Go Go.RowKit

/-! ### WHERE NO DEPTH IS ASKED THE FIGURES ARE ALL ONE -/
theorem room_of_none {F : Fence} (hd : F.depth = none) (k : Nat) : F.room k := fun d h => by rw [hd] at h; cases h
theorem yield_any {F : Fence} (hd : F.depth = none) {m : Nat} (m' : Nat) {P : Program} {l : Nat} {args : Array Value} {W : World} {R : Ending → World → Prop} (h : YieldAt F m P l args W R) : YieldAt F m' P l args W R := by
  obtain ⟨fn, tmps, assign, body, hy, hR⟩ := h
  exact ⟨fn, tmps, assign, body, hy, hR.1, fun c cs _ => hR.2 c cs (room_of_none hd _)⟩

/-! ### WHAT A ROUND KEEPS: the blocks of a set D, and every block of cells whose type is neither 54 (a slice of windows: the box of 'got') nor 59 (a window: the row in it, a loop variable's box) -/
structure KeptOn (D : Nat → Prop) (W W' : World) : Prop where
  size : W.heap.size ≤ W'.heap.size
  same : ∀ (b : Nat), D b → W'.heap[b]? = W.heap[b]?
  typed : ∀ (b : Nat) (cs : Array Value) (t : TypeId) (f : Nat × Nat), W.heap[b]? = some (Obj.cells cs t f) → t ≠ 54 → t ≠ 59 → W'.heap[b]? = some (Obj.cells cs t f)

theorem KeptOn.refl (D : Nat → Prop) (W : World) : KeptOn D W W := ⟨Nat.le_refl _, fun _ _ => rfl, fun _ _ _ _ h _ _ => h⟩
theorem KeptOn.trans {D : Nat → Prop} {A B C : World} (h : KeptOn D A B) (k : KeptOn D B C) : KeptOn D A C := ⟨Nat.le_trans h.size k.size, fun b hb => (k.same b hb).trans (h.same b hb), fun b cs t f hb h1 h2 => k.typed b cs t f (h.typed b cs t f hb h1 h2) h1 h2⟩
theorem KeptOn.cell {D : Nat → Prop} {W W' : World} (h : KeptOn D W W') {p : Addr} (hp : D p.block) : W'.cell? p = W.cell? p := by
  unfold World.cell?; rw [h.same _ hp]
theorem KeptOn.box {D : Nat → Prop} {W W' : World} (h : KeptOn D W W') {B : Nat} {t : TypeId} {v : Value} (hb : Boxed W B t v) (h1 : t ≠ 54) (h2 : t ≠ 59) : Boxed W' B t v := h.typed B _ t _ hb h1 h2
/-- A step that turns one block: not of D, of type 54 or 59. -/
theorem KeptOn.grown {D : Nat → Prop} {W W' : World} {row : Option Nat} (hg : W.grownBy W' row) (hD : ∀ b, D b → b < W.heap.size) (hr : ∀ b : Nat, row = some b → ¬ D b ∧ ∀ cs t f, W.heap[b]? = some (Obj.cells cs t f) → t = 54 ∨ t = 59) : KeptOn D W W' :=
  ⟨hg.size, fun b hb => hg.block b (hD b hb) (fun e => (hr b e.symm).1 hb), fun b cs t f hb h1 h2 => (hg.block b (Array.getElem?_eq_some_iff.1 hb).1 (fun e => ((hr b e.symm).2 cs t f hb).elim h1 h2)).trans hb⟩
theorem KeptOn.grown_none {D : Nat → Prop} {W W' : World} (hg : W.grownBy W' none) (hD : ∀ b, D b → b < W.heap.size) : KeptOn D W W' := KeptOn.grown hg hD (fun b e => by cases e)
theorem KeptOn.putObj {D : Nat → Prop} {w : World} (hD : ∀ b, D b → b < w.heap.size) (W : World) (l : Nat) (o o' : Obj) (hl : w.heap.size ≤ l) (h : W.heap[l]? = some o) (ho : o.isCells = false) (_ : o.isWalk = false) : KeptOn D W (W.putObj l o') :=
  ⟨by simp, fun b hb => World.putObj_heap_other (fun e => by have := hD b hb; omega), fun b cs t f hb _ _ => (World.putObj_heap_other (fun e => by rw [e, h] at hb; cases hb; cases ho)).trans hb⟩

variable {F : Fence} {n : Nat} {P : Program}

/-- THE ITERATOR's CONTRACT. -/
def SeqStopsX {α : Type} (F : Fence) (n : Nat) (P : Program) (g : Nat) (lb : Array Value) (encs : α → Array Value) (Kp : World → World → Prop) (S Sp : List α → Prop) (N : Nat) (w : World) : Prop :=
  ∀ (l : Nat) (J Jx : List α → World → Prop) (W : World), Below w.heap.size w W → OwnFrom W.heap.size J → OwnFrom W.heap.size Jx →
    (∀ m pre x W1, J pre W1 → pre.length < N → YieldAt F m P l (encs x) W1 fun e W' => KeepsFrom W.heap.size W1 W' ∧
      ((e = .returned (.bool true) ∧ J (pre ++ [x]) W' ∧ Kp W1 W') ∨ (e = .returned (.bool false) ∧ Jx (pre ++ [x]) W'))) →
    J [] W →
    CallsIn F n P g (#[.func (.yield l) #[] #[]] ++ lb) W fun e W' => (∃ v, e = .returned v) ∧ ((∃ xs, S xs ∧ J xs W') ∨ (∃ pre, Sp pre ∧ Jx pre W'))

/-- What is no cells lies on through the iterator's steps. -/
theorem grown_keeps {W W' : World} {row : Option Nat} {B k : Nat} {o : Obj} (hg : W.grownBy W' row) (hrow : ∀ r, row = some r → B ≤ r ∧ ∃ o : Obj, W.heap[r]? = some o ∧ o.isCells = false)
    (hkB : k < B) (hk : W.heap[k]? = some o) : W'.heap[k]? = some o := by
  refine (hg.block k (Array.getElem?_eq_some_iff.1 hk).1 ?_).trans hk
  intro e
  have := (hrow k e.symm).1
  omega

/-- THE CALLER's LAW (F.round = none; no depth is asked). -/
theorem range_X {α : Type} {g : Operand} {ps : Array Tmp} {assign body : Code} {Q : Exit → Act → World → Prop} {a : Act} {w : World}
    (hro : F.round = none) (hd : F.depth = none) (h1 : 1 ≤ n) {gf : Nat} {lb : Array Value} (hg : a.eval g = .func (.func gf) #[] lb) (hFg : F.fn gf) (eg : ∀ args w, (callFunc gf args).run P w = .ok (.enter gf args) w)
    {encs : α → Array Value} {Kp : World → World → Prop} {S Sp : List α → Prop} {N : Nat} {w0 : World} (hseq : SeqStopsX F (n - 1) P gf lb encs Kp S Sp N w0)
    (hKt : ∀ {A B C : World}, Kp A B → Kp B C → Kp A C) (hKb : ∀ (W : World) (l : Nat) (o o' : Obj), w.heap.size ≤ l → W.heap[l]? = some o → o.isCells = false → o.isWalk = false → Kp W (W.putObj l o')) (hb0 : Below w0.heap.size w0 w) (hps : ∀ x, (encs x).size = ps.size)
    (I : List α → World → Prop) (Ix : Code → List α → World → Prop) (hI : OwnFrom w.heap.size I) (hIx : ∀ c, OwnFrom w.heap.size (Ix c)) (h0 : I [] w) (Ax : α → Act → World → Prop) (hAx : ∀ x a', OwnFrom w.heap.size (fun (_ : Unit) W => Ax x a' W))
    (hassign : ∀ (l : Nat) (pre : List α) (x : α) (W : World) (K : Act → World → Prop), I pre W → (∀ a' W', KeepsFrom w.heap.size W W' → Kp W W' → I pre W' → Ax x a' W' → K a' W') →
      assign.wpIn (F.inRound l) 0 P (Exit.then K (fun _ _ _ => False)) { tmps := (ps.zip (encs x)).foldl (fun t (p, v) => t.setIfInBounds p v) a.tmps, defers := [] } W)
    (hbody : ∀ (l : Nat) (pre : List α) (x : α) (a' : Act) (W : World), I pre W → Ax x a' W → pre.length < N → body.wpIn (F.inRound l) 0 P (ownPostG w.heap.size Kp I Ix (pre ++ [x]) W) a' W)
    (hdone : ∀ (D : Nat) (xs : List α) (W : World), w.heap.size ≤ D → S xs → I xs W → W.heap[D]? = some (.deferred (some [])) → Q .normal { a with defers := { target := .collected D, args := #[] } :: a.defers } W)
    (hstop : ∀ (D : Nat) (c : Code) (pre : List α) (W : World), w.heap.size ≤ D → Sp pre → Ix c pre W → W.heap[D]? = some (.deferred (some [])) → c.wpIn F n P Q { a with defers := { target := .collected D, args := #[] } :: a.defers } W) :
    (Code.rangeFunc g ps assign body).wpIn F n P Q a w := by
  refine wpIn_rangeFunc ?_
  intro fn hfn
  rw [hro]
  -- the loop's record, and the world in which it is laid
  obtain ⟨rc, hrc⟩ : ∃ rc : LoopState → Option Code → Loop, rc = fun st pe => { state := st, pending := pe, fn, tmps := a.tmps, params := ps, assign, body, defers := w.heap.size } := ⟨_, rfl⟩
  obtain ⟨W1, hW1⟩ : ∃ W1, (w.alloc (.deferred (some []))).alloc (.loop (rc .ready none)) = W1 := ⟨_, rfl⟩
  have hs1 : W1.heap.size = w.heap.size + 2 := by rw [← hW1]; simp
  have hL1 : W1.heap[w.heap.size + 1]? = some (.loop (rc .ready none)) := by
    rw [← hW1]; have := World.alloc_heap_new (w.alloc (.deferred (some []))) (.loop (rc .ready none)); rwa [World.size_alloc] at this
  have hK1 : W1.heap[w.heap.size]? = some (.deferred (some [])) := by
    rw [← hW1]; exact (Below.heap_alloc _ _ _ (by simp)).trans (World.alloc_heap_new w _)
  have hI1 : I [] W1 := by rw [← hW1]; exact hI.alloc _ (hI.alloc _ h0)
  have hb1 : Below w0.heap.size w0 W1 := by
    rw [← hW1]; exact hb0.trans ((((Below.refl _ w).alloc (Nat.le_refl _) _).alloc (by simp) _).mono hb0.size)
  refine ⟨w.heap.size + 1, [{ target := .collected w.heap.size, args := #[] }], W1, { target := .fn (.func gf) lb, args := #[.func (.yield (w.heap.size + 1)) #[] #[]] }, W1, gf,
    #[.func (.yield (w.heap.size + 1)) #[] #[]] ++ lb, W1, ?_, ?_, ?_, ?_, fun _ => h1, ?_⟩
  · rw [← hW1, hrc]; exact run_enterLoop_outer _ _ _ _ _
  · simp only [resolve, hg]
    simp [go_sem]
  · intro f' hf'; simp [Target.leads] at hf'; subst hf'; exact hFg
  · simp [invoke, go_sem, eg]
  have up : ∀ {X : World} {row : Option Nat}, (∀ r, row = some r → W1.heap.size ≤ r ∧ ∃ o : Obj, X.heap[r]? = some o ∧ o.isCells = false) → (∀ r, row = some r → w.heap.size ≤ r ∧ ∃ o : Obj, X.heap[r]? = some o ∧ o.isCells = false) :=
    fun hr r e => ⟨by have := (hr r e).1; omega, (hr r e).2⟩
  refine (hseq (w.heap.size + 1)
    (fun pre W => I pre W ∧ W.heap[w.heap.size + 1]? = some (.loop (rc .ready none)) ∧ W.heap[w.heap.size]? = some (.deferred (some [])))
    (fun pre W => ∃ c, Ix c pre W ∧ W.heap[w.heap.size + 1]? = some (.loop (rc .done (some c))) ∧ W.heap[w.heap.size]? = some (.deferred (some [])))
    W1 hb1
    (fun s X Y row hs hg' hr => ⟨hI s X Y row hs.1 hg' (up hr), grown_keeps hg' hr (by omega) hs.2.1, grown_keeps hg' hr (by omega) hs.2.2⟩)
    (fun s X Y row hs hg' hr => by
      obtain ⟨c, hc, hl, hk⟩ := hs
      exact ⟨c, hIx c s X Y row hc hg' (up hr), grown_keeps hg' hr (by omega) hl, grown_keeps hg' hr (by omega) hk⟩)
    ?_ ⟨hI1, hL1, hK1⟩).mono ?_
  · -- ONE ROUND
    rintro m pre x Wb ⟨hib, hlb, hkb⟩ hlen
    refine yield_any hd (m := 0) m ?_
    have hy := run_yield (P := P) (args := encs x) hlb (by rw [hrc]; exact hps x)
    rw [hrc] at hy
    refine ⟨fn, _, assign, body, hy, roundIn_of_wpIn hfn (hassign _ pre x Wb _ hib ?_)⟩
    clear hy
    intro a' W hkfa hkpa hi hax
    have hl := hkfa.same _ _ (by omega) hlb rfl
    have hk := hkfa.same _ _ (Nat.le_refl _) hkb rfl
    have hlt : w.heap.size + 1 < W.heap.size := (Array.getElem?_eq_some_iff.1 hl).1
    refine ⟨_, run_beginRound hl (by rw [hrc]), ?_⟩
    obtain ⟨busy, hbusy⟩ : ∃ r : Loop, r = { rc .ready none with state := .busy } := ⟨_, rfl⟩
    rw [← hbusy]
    have hl2 : (W.putObj (w.heap.size + 1) (.loop busy)).heap[w.heap.size + 1]? = some (.loop busy) := World.putObj_heap_same hlt
    have hk2 : (W.putObj (w.heap.size + 1) (.loop busy)).heap[w.heap.size]? = some (.deferred (some [])) := (World.putObj_heap_other (by omega)).trans hk
    have far : ∀ (X : World) (o : Obj), KeepsFrom W1.heap.size X (X.putObj (w.heap.size + 1) o) := fun X o =>
      KeepsFrom.of_grownBy (grownBy_putObj' X _ o) (fun j e => by cases e; omega)
    have near : ∀ {X Y : World}, KeepsFrom w.heap.size X Y → KeepsFrom W1.heap.size X Y := fun h => ⟨h.size, fun k o hB => h.same k o (by omega)⟩
    refine wpIn_mono (hbody _ pre x a' _ (hI.putObj _ hi (by omega) hl rfl) ((hAx x a').putObj (s := ()) _ hax (by omega) hl rfl) hlen) ?_
    -- how the round ends
    have fin : ∀ (jump : Option Code) (W3 : World), KeepsFrom w.heap.size (W.putObj (w.heap.size + 1) (.loop busy)) W3 →
        (Instr.endRound (w.heap.size + 1) jump).run P W3 = .ok (.bool jump.isNone) (W3.putObj (w.heap.size + 1) (.loop (rc (if jump.isNone then .ready else .done) jump))) ∧
        W3.heap[w.heap.size + 1]? = some (.loop busy) ∧
        (W3.putObj (w.heap.size + 1) (.loop (rc (if jump.isNone then .ready else .done) jump))).heap[w.heap.size + 1]? = some (.loop (rc (if jump.isNone then .ready else .done) jump)) ∧
        (W3.putObj (w.heap.size + 1) (.loop (rc (if jump.isNone then .ready else .done) jump))).heap[w.heap.size]? = some (.deferred (some [])) ∧
        KeepsFrom W1.heap.size Wb (W3.putObj (w.heap.size + 1) (.loop (rc (if jump.isNone then .ready else .done) jump))) := fun jump W3 hk3 => by
      have hl3 := hk3.same _ _ (by omega) hl2 rfl
      have hrun := run_endRound (P := P) jump hl3
      have hkeep := (near hkfa).trans (((far W _).trans (near hk3)).trans (far W3 (.loop (rc (if jump.isNone then .ready else .done) jump))))
      rw [hbusy, hrc] at hrun
      rw [hrc] at hkeep ⊢
      exact ⟨hrun, hl3, World.putObj_heap_same (Array.getElem?_eq_some_iff.1 hl3).1, (World.putObj_heap_other (by omega)).trans (hk3.same _ _ (Nat.le_refl _) hk2 rfl), hkeep⟩
    rintro e a3 W3 hp
    cases e with
    | normal =>
      obtain ⟨hk3, hkp3, hi3⟩ := hp
      obtain ⟨hr, hl3, hl4, hk4, hkk⟩ := fin none W3 hk3
      exact ⟨_, _, hr, hkk, .inl ⟨rfl, ⟨hI.putObj _ hi3 (by omega) hl3 rfl, hl4, hk4⟩, hKt hkpa (hKt (hKt (hKb _ _ _ _ (by omega) hl rfl rfl) hkp3) (hKb _ _ _ _ (by omega) hl3 rfl rfl))⟩⟩
    | ret =>
      obtain ⟨hk3, hi3⟩ := hp
      obtain ⟨hr, hl3, hl4, hk4, hkk⟩ := fin (some .ret) W3 hk3
      exact ⟨_, _, hr, hkk, .inr ⟨rfl, .ret, (hIx _).putObj _ hi3 (by omega) hl3 rfl, hl4, hk4⟩⟩
    | exit id =>
      obtain ⟨hk3, hi3⟩ := hp
      obtain ⟨hr, hl3, hl4, hk4, hkk⟩ := fin (some (.exit id)) W3 hk3
      exact ⟨_, _, hr, hkk, .inr ⟨rfl, .exit id, (hIx _).putObj _ hi3 (by omega) hl3 rfl, hl4, hk4⟩⟩
    | goto t =>
      obtain ⟨hk3, hi3⟩ := hp
      obtain ⟨hr, hl3, hl4, hk4, hkk⟩ := fin (some (.goto t)) W3 hk3
      exact ⟨_, _, hr, hkk, .inr ⟨rfl, .goto t, (hIx _).putObj _ hi3 (by omega) hl3 rfl, hl4, hk4⟩⟩
    | panic ch => exact hp.elim
    | outgrown => exact hp.elim
  · -- BEHIND THE ITERATOR
    rintro e W2 ⟨⟨v, rfl⟩, (⟨xs, hS, hi, hl, hk⟩ | ⟨pre, hSp, c, hi, hl, hk⟩)⟩
    · exact ⟨none, _, by have := run_endLoop (P := P) hl (by rw [hrc]; simp); rw [hrc] at this; exact this, hdone _ xs _ (Nat.le_refl _) hS (hI.putObj _ hi (by omega) hl rfl) ((World.putObj_heap_other (by omega)).trans hk)⟩
    · exact ⟨some c, _, by have := run_endLoop (P := P) hl (by rw [hrc]; simp); rw [hrc] at this; exact this, hstop _ c pre _ (Nat.le_refl _) hSp ((hIx c).putObj _ hi (by omega) hl rfl) ((World.putObj_heap_other (by omega)).trans hk)⟩
end Go.Proofs.Ybulkdjpk.lawS5535AWhole
