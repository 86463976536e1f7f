/-
  slices.Clone and slices.Equal at []int, at a slice whatever (nil, empty, or with elements), out of the shelf's contracts.
-/
import Derived.Test.YbulkdjugFmtShelf
import Derived.WalkKit
import Derived.WalkSpells
import Derived.Laws.OwnMore
namespace Go.Proofs.YbulkdjugFmt.lawS5544AWhole
open Go.RowKit

/-- The slice's elements, if it has any, lie behind its address. -/
def IntsAt (w : World) (ao : Option Addr) (xs : List Int) : Prop := ∀ j, j < xs.length → ∃ b o, ao = some ⟨b, o, none⟩ ∧ b < w.heap.size ∧ w.cell? ⟨b, o + j, none⟩ = some (.int .i64 (xs.getD j 0))

theorem IntsAt.below {w w' : World} {ao : Option Addr} {xs : List Int} (h : IntsAt w ao xs) (hB : Below w.heap.size w w') : IntsAt w' ao xs := fun j hj => by
  obtain ⟨b, o, e, hb, hc⟩ := h j hj
  exact ⟨b, o, e, Nat.lt_of_lt_of_le hb hB.size, (hB.cell (p := ⟨b, o + j, none⟩) hb).trans hc⟩

theorem IntsAt.blocks {w w' : World} {ao : Option Addr} {xs : List Int} (h : IntsAt w ao xs) (hs : w.heap.size ≤ w'.heap.size) (hB : ∀ b o, 0 < xs.length → ao = some ⟨b, o, none⟩ → b < w.heap.size → w'.heap[b]? = w.heap[b]?) : IntsAt w' ao xs := fun j hj => by
  obtain ⟨b, o, e, hb, hc⟩ := h j hj
  exact ⟨b, o, e, Nat.lt_of_lt_of_le hb hs, (World.cell?_of_block (a := ⟨b, o + j, none⟩) (hB b o (by omega) e hb)).trans hc⟩

theorem IntsAt.drewN {w : World} {ao : Option Addr} {xs : List Int} (h : IntsAt w ao xs) (n : Nat) : IntsAt (w.drewN n) ao xs := h

theorem intsAt_own {w : World} {base cap g : Nat} {xs : List Int} (h : w.ownsRow base 3 1 (.slice (some ⟨g, 0, none⟩) xs.length cap) xs.length (xs.map (Value.int .i64))) : IntsAt w (some ⟨g, 0, none⟩) xs := fun j hj => by
  have hc := h.cellAt j (by omega)
  have hlt := (h.lt g rfl).2
  refine ⟨g, 0, rfl, hlt, ?_⟩
  rw [Nat.zero_add, hc]
  simp [List.getD, hj]

theorem clone_any (ao : Option Addr) (c : Nat) (xs : List Int) (w : World) (hn : ao = none → xs.length = 0) (hb : xs.length ≤ 65536) (hx : IntsAt w ao xs) :
    Calls Ybaf.prog 4 #[.slice ao xs.length c] w fun e w' => ∃ ao' c', e = .returned (.slice ao' xs.length c') ∧ ao'.isNone = ao.isNone ∧ IntsAt w' ao' xs ∧ Below w.heap.size w w' ∧ (∀ b o, ao' = some ⟨b, o, none⟩ → w.heap.size ≤ b ∧ b < w'.heap.size) := by
  cases ao with
  | none =>
    have h0 := hn rfl
    refine (Ybaf.slices_Clone_int_nil xs.length c w).mono ?_
    rintro e w' ⟨rfl, rfl⟩
    exact ⟨none, 0, by rw [h0], rfl, fun j hj => absurd hj (by omega), Below.refl _ _, fun b o h => by cases h⟩
  | some a =>
    have shape : ∀ (v' : Value) (w' : World), w'.ownsRow w.heap.size 3 1 v' xs.length (xs.map (Value.int .i64)) → v' ≠ .slice none 0 0 → ∃ g cap, v' = .slice (some ⟨g, 0, none⟩) xs.length cap ∧ w.heap.size ≤ g ∧ g < w'.heap.size := by
      intro v' w' ho hne
      rcases ho.2 with ⟨h, _⟩ | ⟨g, cap, cur, h, hg, hh, _⟩
      · exact absurd h hne
      · exact ⟨g, cap, h, hg, (Array.getElem?_eq_some_iff.1 hh).1⟩
    by_cases h0 : xs.length = 0
    · have hnil : xs = [] := List.eq_nil_of_length_eq_zero h0
      subst hnil
      refine (Ybaf.slices_Clone_int_zero a c w).mono ?_
      rintro e w' ⟨v', rfl, ho, hne, hB⟩
      obtain ⟨g, cap, rfl, hg⟩ := shape v' w' ho hne
      exact ⟨some ⟨g, 0, none⟩, cap, rfl, rfl, fun j hj => absurd hj (by simp), hB, fun b o h => by cases h; exact hg⟩
    · obtain ⟨b, o, e, _, _⟩ := hx 0 (by omega)
      cases e
      have hcell : ∀ j, j < xs.length → w.cell? ⟨b, o + j, none⟩ = some (.int .i64 (xs.getD j 0)) := fun j hj => by
        obtain ⟨b', o', e', _, hc⟩ := hx j hj
        cases e'
        exact hc
      refine (Ybaf.slices_Clone_int b o xs.length c xs w (Nat.le_refl _) (by omega) hcell).mono ?_
      rintro e w' ⟨v', rfl, ho, hne, hB⟩
      rw [List.take_length] at ho
      obtain ⟨g, cap, rfl, hg⟩ := shape v' w' ho hne
      exact ⟨some ⟨g, 0, none⟩, cap, rfl, rfl, intsAt_own ho, hB, fun b o h => by cases h; exact hg⟩

theorem equal_any (a1 a2 : Option Addr) (c d : Nat) (xs : List Int) (w : World) (hb : xs.length ≤ 65536) (h1 : IntsAt w a1 xs) (h2 : IntsAt w a2 xs) :
    Calls Ybaf.prog 6 #[.slice a1 xs.length c, .slice a2 xs.length d] w fun e w' => e = .returned (.bool true) ∧ ∃ q, w' = w.drewN q := by
  by_cases h0 : xs.length = 0
  · rw [h0]
    refine (Ybaf.slices_Equal_int_empty a1 a2 c 0 d w (by omega)).mono ?_
    rintro e w' ⟨rfl, rfl⟩
    exact ⟨by simp, 0, rfl⟩
  · obtain ⟨b1, o1, e1, _, _⟩ := h1 0 (by omega)
    obtain ⟨b2, o2, e2, _, _⟩ := h2 0 (by omega)
    cases e1; cases e2
    refine (Ybaf.slices_Equal_int b1 o1 xs.length c b2 o2 xs.length d xs xs w (Nat.le_refl _) (Nat.le_refl _) (by omega) (by omega) (fun j hj => ?_) (fun j hj => ?_)).mono ?_
    · obtain ⟨b', o', e', _, hc⟩ := h1 j hj; cases e'; exact hc
    · obtain ⟨b', o', e', _, hc⟩ := h2 j hj; cases e'; exact hc
    · rintro e w' ⟨rfl, hq⟩
      exact ⟨by simp, hq⟩
end Go.Proofs.YbulkdjugFmt.lawS5544AWhole
