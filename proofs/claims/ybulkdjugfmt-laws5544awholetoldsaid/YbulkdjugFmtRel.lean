/-
  What a round of the law's first loop does to the map, the keys' slice and the rules' slice (5544A): outside the walk.
-/
import Derived.Test.YbulkdjugFmtMap
import Derived.Test.YbulkdjugFmtSlices
import Derived.Laws.OwnMore
namespace Go.Proofs.YbulkdjugFmt.lawS5544AWhole
open Go.RowKit Go.Maps

theorem rows_ne {w : World} {b1 e1 s1 n1 b2 e2 s2 n2 : Nat} {v1 v2 : Value} {xs1 xs2 : List Value} (h1 : w.ownsRow b1 e1 s1 v1 n1 xs1) (h2 : w.ownsRow b2 e2 s2 v2 n2 xs2) (he : e1 ≠ e2) : v1.ownBlock = none ∨ v1.ownBlock ≠ v2.ownBlock := by
  rcases h1.2 with ⟨h, _⟩ | ⟨g, c, cur, h, _, hh, _⟩
  · left; rw [h]; rfl
  · right
    rcases h2.2 with ⟨h', _⟩ | ⟨g', c', cur', h', _, hh', _⟩
    · rw [h, h']; simp [Value.ownBlock]
    · rw [h, h']
      simp only [Value.ownBlock, ne_eq, Option.some.injEq]
      intro e; subst e
      rw [hh] at hh'
      injection hh' with hh'
      injection hh' with _ hh' _
      exact he hh'

theorem row_form {w : World} {base e size n : Nat} {v : Value} {xs : List Value} (h : w.ownsRow base e size v n xs) : ∃ ao cap, v = .slice ao n cap ∧ (ao = none → n = 0) ∧ (∀ a, ao = some a → ∃ g, a = ⟨g, 0, none⟩ ∧ base ≤ g ∧ g < w.heap.size) := by
  rcases h.2 with ⟨h1, h2⟩ | ⟨g, cap, cur, h1, hg, hh, _⟩
  · exact ⟨none, 0, by rw [h1, h2], fun _ => h2, fun a e => by cases e⟩
  · exact ⟨some ⟨g, 0, none⟩, cap, h1, (fun e => by cases e), fun a e => by cases e; exact ⟨g, rfl, hg, (Array.getElem?_eq_some_iff.1 hh).1⟩⟩

/-- The cells of n rules as the law makes them: witness j, k -j, no members. -/
def ruleCells : Nat → List Value
  | 0 => []
  | n + 1 => ruleCells n ++ [.int .i64 n, .int .i64 (-(n : Int)), .slice none 0 0]
theorem ruleCells_length (n : Nat) : (ruleCells n).length = n * 3 := by
  induction n with
  | zero => rfl
  | succ n ih => simp [ruleCells, ih]; omega
theorem ruleCells_at (n j : Nat) (h : j < n) (tail : List Value) : (ruleCells n ++ tail)[j * 3]? = some (.int .i64 j) ∧ (ruleCells n ++ tail)[j * 3 + 1]? = some (.int .i64 (-(j : Int))) ∧ (ruleCells n ++ tail)[j * 3 + 2]? = some (.slice none 0 0) := by
  induction n generalizing tail with
  | zero => omega
  | succ n ih =>
    rw [ruleCells, List.append_assoc]
    by_cases hj : j < n
    · exact ih hj _
    · have : j = n := by omega
      subst this
      have hl := ruleCells_length j
      refine ⟨?_, ?_, ?_⟩
      · rw [List.getElem?_append_right (by omega)]; simp [hl]
      · rw [List.getElem?_append_right (by omega), hl, show j * 3 + 1 - j * 3 = 1 from by omega]; rfl
      · rw [List.getElem?_append_right (by omega), hl, show j * 3 + 2 - j * 3 = 2 from by omega]; rfl

/-- What the loop carries. -/
structure Carry (w wr : World) (ks : List ByteArray) (D : DataW Unit) (vK vR : Value) : Prop where
  small : ∀ s ∈ ks, s.size ≤ maxLen
  map : wr.ownsMap Ybaf.prog 9 (plainElem Ybaf.prog 3) w.heap.size ks.length D
  idx : Idx D ks
  keys : wr.ownsRow w.heap.size 9 1 vK ks.length (ks.map Value.string)
  rules : wr.ownsRow w.heap.size 28 3 vR ks.length (ruleCells ks.length)
  bel : Below w.heap.size w wr

theorem Carry.start (w : World) (es : Array MapEntry) (hes : es = #[]) : Carry w (w.alloc (.map es 0)) [] (.map []) (.slice none 0 0) (.slice none 0 0) := by
  subst hes
  exact ⟨(fun _ h => by cases h), World.ownsMap_made _ _ _ _, Idx.empty, World.ownsRow_nil _ _ _ _, World.ownsRow_nil _ _ _ _, (Below.refl _ _).alloc (Nat.le_refl _) _⟩

theorem Carry.keys1 {w wr w1 : World} {ks : List ByteArray} {D : DataW Unit} {vK vR : Value} (h : Carry w wr ks D vK vR) (hg1 : wr.grownBy w1 (some w.heap.size)) (o1 : Obj) : (w1.alloc o1).ownsRow w.heap.size 9 1 vK ks.length (ks.map Value.string) :=
  (h.keys.kept hg1 (Or.inr (map_ne_row h.keys h.map))).alloc o1
theorem Carry.rules1 {w wr w1 : World} {ks : List ByteArray} {D : DataW Unit} {vK vR : Value} (h : Carry w wr ks D vK vR) (hg1 : wr.grownBy w1 (some w.heap.size)) : w1.ownsRow w.heap.size 28 3 vR ks.length (ruleCells ks.length) :=
  h.rules.kept hg1 (Or.inr (map_ne_row h.rules h.map))
theorem Carry.rules2 {w wr w1 w2 : World} {ks : List ByteArray} {D : DataW Unit} {vK vR : Value} {o1 : Obj} (h : Carry w wr ks D vK vR) (hg1 : wr.grownBy w1 (some w.heap.size)) (hg2 : (w1.alloc o1).grownBy w2 vK.ownBlock) : w2.ownsRow w.heap.size 28 3 vR ks.length (ruleCells ks.length) :=
  ((h.rules1 hg1).alloc o1).kept hg2 (rows_ne ((h.rules1 hg1).alloc o1) (h.keys1 hg1 o1) (by decide))

theorem Carry.step {w wr w1 w2 w3 : World} {ks : List ByteArray} {D : DataW Unit} {vK vR vK' vR' : Value} {o1 o2 : Obj} {s : ByteArray} (h : Carry w wr ks D vK vR) (hs : s.size ≤ maxLen) (hm : Maps.has D (kl s) = false)
    (hown1 : w1.ownsMap Ybaf.prog 9 (plainElem Ybaf.prog 3) w.heap.size (ks.length + 1) (D.put (kl s) (i64 ks.length))) (hg1 : wr.grownBy w1 (some w.heap.size))
    (hown2 : w2.ownsRow w.heap.size 9 1 vK' (ks.length + 1) (ks.map Value.string ++ [.string s])) (hg2 : (w1.alloc o1).grownBy w2 vK.ownBlock)
    (hown3 : w3.ownsRow w.heap.size 28 3 vR' (ks.length + 1) (ruleCells ks.length ++ [.int .i64 ks.length, .int .i64 (-(ks.length : Int)), .slice none 0 0])) (hg3 : (w2.alloc o2).grownBy w3 vR.ownBlock) :
    Carry w w3 (ks ++ [s]) (D.put (kl s) (i64 ks.length)) vK' vR' := by
  have hlen : (ks ++ [s]).length = ks.length + 1 := by simp
  have hk1 := h.keys1 hg1 o1
  have hr2 := h.rules2 hg1 hg2
  have hm2 : w2.ownsMap Ybaf.prog 9 (plainElem Ybaf.prog 3) w.heap.size (ks.length + 1) (D.put (kl s) (i64 ks.length)) := (hown1.alloc o1).kept hg2 (Ne.symm (map_ne_row hk1 (hown1.alloc o1)))
  have hm3 : w3.ownsMap Ybaf.prog 9 (plainElem Ybaf.prog 3) w.heap.size (ks.length + 1) (D.put (kl s) (i64 ks.length)) := (hm2.alloc o2).kept hg3 (Ne.symm (map_ne_row (hr2.alloc o2) (hm2.alloc o2)))
  have b1 : Below w.heap.size w w1 := h.bel.grown hg1 h.bel.size (fun k e => by cases e; exact Nat.le_refl _)
  have own_ge : ∀ {W : World} {e sz : Nat} {v : Value} {n : Nat} {xs : List Value}, W.ownsRow w.heap.size e sz v n xs → ∀ k, v.ownBlock = some k → w.heap.size ≤ k := fun ho k e => (ho.lt k e).1
  have b2 : Below w.heap.size w w2 := (b1.alloc b1.size o1).grown hg2 (by have := b1.size; simp; omega) (own_ge hk1)
  have b3 : Below w.heap.size w w3 := (b2.alloc b2.size o2).grown hg3 (by have := b2.size; simp; omega) (own_ge hr2)
  refine ⟨?_, by rw [hlen]; exact hm3, h.idx.snoc hm, ?_, ?_, b3⟩
  · intro t ht
    rcases List.mem_append.1 ht with h1 | h1
    · exact h.small t h1
    · simp only [List.mem_cons, List.not_mem_nil, or_false] at h1; rw [h1]; exact hs
  · rw [hlen, List.map_append]
    exact (hown2.alloc o2).kept hg3 (rows_ne (hown2.alloc o2) (hr2.alloc o2) (by decide))
  · rw [hlen]; exact hown3
end Go.Proofs.YbulkdjugFmt.lawS5544AWhole
