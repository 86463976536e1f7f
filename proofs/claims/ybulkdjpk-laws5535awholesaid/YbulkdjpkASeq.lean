/-
  5535A: 'region_prefix' where the others come one behind the other: they are then a plain list.
-/
import Derived.Test.YbulkdjpkAPrefix
import Derived.TacticsInMore
namespace Go.Proofs.Ybulkdjpk.lawS5535AWhole
open Go

/-- What is listed when the first t are. -/
abbrev firstB (len t : Nat) : Array Bool := Array.replicate t true ++ Array.replicate (len - t) false
/-- For the kernel: when the first t are listed (t from p on), number t alone is ready. -/
def chainB (l : List Oper) (p : Nat) : Bool := (List.range (l.length - p)).all (fun d => Region.ready .any l.toArray (firstB l.length (p + d)) == [p + d]) && Region.ready .any l.toArray (firstB l.length l.length) == []

theorem firstB_next {len t : Nat} (h : t < len) : (firstB len t).setIfInBounds t true = firstB len (t + 1) := by
  apply Array.ext_getElem?
  intro i
  rw [Array.getElem?_setIfInBounds]
  simp only [firstB, Array.size_append, Array.size_replicate]
  by_cases hi : t = i
  · subst hi
    rw [if_pos rfl, if_pos (by omega), Array.getElem?_append_left (by simp), Array.getElem?_replicate, if_pos (by omega)]
  · rw [if_neg hi]
    by_cases h1 : i < t
    · rw [Array.getElem?_append_left (by simpa using h1), Array.getElem?_append_left (by simp; omega), Array.getElem?_replicate, Array.getElem?_replicate, if_pos h1, if_pos (by omega)]
    · rw [Array.getElem?_append_right (by simp; omega), Array.getElem?_append_right (by simp; omega), Array.getElem?_replicate, Array.getElem?_replicate]
      simp only [Array.size_replicate]
      by_cases h2 : i < len
      · rw [if_pos (by omega), if_pos (by omega)]
      · rw [if_neg (by omega), if_neg (by omega)]

variable {F : Fence} {n : Nat} {P : Program} {l : List Oper} {p : Nat} {Q : Exit → Act → World → Prop}

theorem chain_any (hc : ∀ d, d < l.length - p → Region.ready .any l.toArray (firstB l.length (p + d)) = [p + d]) (he : Region.ready .any l.toArray (firstB l.length l.length) = []) (hp : p ≤ l.length) (m : Nat) :
    ∀ (k t : Nat) (a : Act) (w : World), t + k = l.length → p ≤ t → wpListIn F n P l.toArray Q (l.drop t) a w → wpAnyIn F n P .any l.toArray Q (m + k) (firstB l.length t) a w := by
  intro k
  induction k with
  | zero =>
    intro t a w ht _ h
    obtain rfl : t = l.length := by omega
    rw [List.drop_length] at h
    exact wpAnyIn_done he h _
  | succ k ih =>
    intro t a w ht hpt h
    have hlt : t < l.length := by omega
    obtain ⟨o, ho⟩ : ∃ o, l[t]? = some o := ⟨_, List.getElem?_eq_getElem hlt⟩
    have hd : l.drop t = o :: l.drop (t + 1) := by
      rw [List.drop_eq_getElem_cons hlt]
      congr 1
      exact Option.some.inj ((List.getElem?_eq_getElem hlt).symm.trans ho)
    rw [hd] at h
    have hr := hc (t - p) (by omega)
    rw [show p + (t - p) = t by omega] at hr
    rw [show m + (k + 1) = m + k + 1 by omega]
    refine wpAnyIn_all hr (by simp) (fun i hi => ?_)
    obtain rfl : i = t := by simpa using hi
    rw [firstB_next hlt]
    unfold wpOpIn
    have ho' : l.toArray[i]? = some o := by simpa using ho
    rw [ho']
    have next : ∀ a' w', wpListIn F n P l.toArray Q (l.drop (i + 1)) a' w' → wpAnyIn F n P .any l.toArray Q (m + k) (firstB l.length (i + 1)) a' w' := fun a' w' h' => ih (i + 1) a' w' (by omega) (by omega) h'
    simp only [wpListIn] at h
    show if Region.wanted o (yielded l.toArray a.tmps) = true then _ else _
    by_cases hw : Region.wanted o (yielded l.toArray a.tmps) = true
    · rw [if_pos hw] at h ⊢; exact Oper.wpIn_mono next h
    · rw [if_neg hw] at h ⊢; exact ⟨h.1, next _ _ h.2⟩

theorem quiet_mono {ops : Array Oper} {C : World → Prop} {Qa Qb : Act → Prop} (hq : ∀ a, Qa a → Qb a) : ∀ (l : List Oper) (a : Act), wpQuietIn F n P ops C Qa l a → wpQuietIn F n P ops C Qb l a
  | [], a, h => hq a h
  | o :: rest, a, h => by
    refine ⟨h.1, ?_⟩
    have h2 := h.2
    split
    · rename_i hw; rw [if_pos hw] at h2; exact Oper.quietIn_mono (fun a' h' => quiet_mono hq rest a' h') h2
    · rename_i hw; rw [if_neg hw] at h2; exact quiet_mono hq rest _ h2

/-- THE REGION: the reading prefix once, then the others as a list. -/
theorem region_seq {id : Nat} {a : Act} {w : World} (hro : F.round = none) (hm : P.follows .mixedOrders = true) (hp : p ≤ l.length) (hpB : prefixB l p = true) (hB : Region.lexB .any (l.take p).toArray = true) (hcB : chainB l p = true)
    (h : wpQuietIn F n P (l.take p).toArray (fun w' => ∃ n, w' = w.drewN n) (fun a' => ∀ w', (∃ n, w' = w.drewN n) → wpListIn F n P l.toArray Q (l.drop p) a' w') (l.take p) a) :
    (Code.region id l.toArray true).wpIn F n P Q a w := by
  simp only [chainB, Bool.and_eq_true, List.all_eq_true, List.mem_range, beq_iff_eq] at hcB
  refine region_prefix hro hm hp hpB hB (quiet_mono (fun a' ha m w' hw => ?_) _ _ h)
  exact chain_any (fun d hd => hcB.1 d hd) hcB.2 hp m (l.length - p) p a' w' (by omega) (Nat.le_refl _) (ha w' hw)
end Go.Proofs.Ybulkdjpk.lawS5535AWhole
