/-
  5535A: A REGION THAT DRAWS ITS ORDER, OF WHICH THE FIRST p OPERATIONS ONLY READ AND ALL THE OTHERS WAIT FOR THEM: the first p are walked once, in the text's order; then the others, in whatever order.
-/
import Derived.Sort.QuietTacIn
namespace Go.Proofs.Ybulkdjpk.lawS5535AWhole
open Go

/-- Number j is waited for by a later one among the first p. -/
def usedB (l : List Oper) (p j : Nat) : Bool := (List.range p).any fun k => decide (j < k) && match l[k]? with | some o => o.after.any (fun e => Region.binds .any e && e.on == j) | none => false
/-- The conditions, for the kernel: (1) the first p wait for earlier ones alone, and so do their guards; (2) each other waits for one of the others, or for each of the first p that none of the first p waits for. -/
def prefixB (l : List Oper) (p : Nat) : Bool :=
  (List.range p).all (fun i => match l[i]? with | some o => (match o.guard with | none => true | some (j, _) => decide (j < p)) && o.after.all (fun e => decide (e.on < i)) | none => false) &&
  (List.range l.length).all (fun i => decide (i < p) || match l[i]? with
    | some o => o.after.any (fun e => Region.binds .any e && decide (p ≤ e.on)) || (List.range p).all (fun j => usedB l p j || o.after.any (fun e => Region.binds .any e && e.on == j))
    | none => false)

def Used (l : List Oper) (p j : Nat) : Prop := ∃ k o, j < k ∧ k < p ∧ l[k]? = some o ∧ ∃ e ∈ o.after, Region.binds .any e = true ∧ e.on = j
theorem used_of {l : List Oper} {p j : Nat} (h : usedB l p j = true) : Used l p j := by
  simp only [usedB, List.any_eq_true, List.mem_range, Bool.and_eq_true, decide_eq_true_eq] at h
  obtain ⟨k, hk, hjk, hk2⟩ := h
  cases ho : l[k]? with
  | none => rw [ho] at hk2; cases hk2
  | some o =>
    rw [ho] at hk2
    simp only [Array.any_eq_true', Bool.and_eq_true, beq_iff_eq] at hk2
    obtain ⟨e, he, hb⟩ := hk2
    exact ⟨k, o, hjk, hk, ho, e, he, hb⟩

structure Prefix (l : List Oper) (p : Nat) : Prop where
  le : p ≤ l.length
  own : ∀ i, i < p → ∃ o, l[i]? = some o ∧ (∀ j b, o.guard = some (j, b) → j < p) ∧ ∀ e ∈ o.after, e.on < i
  late : ∀ i o, p ≤ i → l[i]? = some o → (∃ e ∈ o.after, Region.binds .any e = true ∧ p ≤ e.on) ∨ (∀ j, j < p → Used l p j ∨ ∃ e ∈ o.after, Region.binds .any e = true ∧ e.on = j)

theorem prefix_of {l : List Oper} {p : Nat} (hp : p ≤ l.length) (h : prefixB l p = true) : Prefix l p := by
  simp only [prefixB, Bool.and_eq_true, List.all_eq_true, List.mem_range] at h
  obtain ⟨h1, h2⟩ := h
  refine ⟨hp, fun i hi => ?_, fun i o hi ho => ?_⟩
  · have := h1 i hi
    cases ho : l[i]? with
    | none => rw [ho] at this; cases this
    | some o =>
      rw [ho] at this
      simp only [Bool.and_eq_true, Array.all_eq_true', decide_eq_true_eq] at this
      refine ⟨o, rfl, fun j b hg => ?_, this.2⟩
      have h3 := this.1
      rw [hg] at h3
      simpa using h3
  · have := h2 i (by have := (List.getElem?_eq_some_iff.1 ho).1; omega)
    rw [ho] at this
    simp only [Bool.or_eq_true, decide_eq_true_eq, Array.any_eq_true', Bool.and_eq_true, List.all_eq_true, List.mem_range, beq_iff_eq] at this
    rcases this with h | ⟨e, he, hb⟩ | h
    · omega
    · exact .inl ⟨e, he, hb⟩
    · exact .inr fun j hj => (h j hj).imp used_of (fun ⟨e, he, hb⟩ => ⟨e, he, hb⟩)

theorem ready_iff {ops : Array Oper} {L : Array Bool} {j : Nat} : j ∈ Region.ready .any ops L ↔ L[j]? = some false ∧ ∃ o, ops[j]? = some o ∧ ∀ e ∈ o.after, Region.binds .any e = true → L[e.on]? = some true := by
  rw [mem_ready]
  have e1 : ∀ i, L.getD i true = false ↔ L[i]? = some false := fun i => by
    rw [Array.getD_eq_getD_getElem?]; cases L[i]? <;> simp
  have e2 : ∀ i, L.getD i false = true ↔ L[i]? = some true := fun i => by
    rw [Array.getD_eq_getD_getElem?]; cases L[i]? <;> simp
  simp only [e1, e2]

section
variable {F : Fence} {n : Nat} {P : Program} {l : List Oper} {p : Nat} {C : World → Prop} {Qa : Act → Prop} {Q : Exit → Act → World → Prop} {rest : Nat} {E : Array Bool}

/-- What is listed is closed: an operation is listed behind what it waits for. -/
def Closed (l : List Oper) (L : Array Bool) : Prop := ∀ (i : Nat) (o : Oper), l[i]? = some o → L[i]? = some true → ∀ e ∈ o.after, Region.binds .any e = true → L[e.on]? = some true

theorem all_of_last {L : Array Bool} (hc : Closed l L) {o : Oper} (hu : ∀ j, j < p → Used l p j ∨ ∃ e ∈ o.after, Region.binds .any e = true ∧ e.on = j) (hdep : ∀ e ∈ o.after, Region.binds .any e = true → L[e.on]? = some true) : ∀ d, d < p → L[p - 1 - d]? = some true := by
  intro d
  induction d using Nat.strongRecOn with
  | _ d ih =>
    intro hd
    rcases hu (p - 1 - d) (by omega) with ⟨k, o, hjk, hkp, hk, e, he, hb, hon⟩ | ⟨e, he, hb, hon⟩
    · have := hc k o hk (by have := ih (p - 1 - k) (by omega) (by omega); rwa [show p - 1 - (p - 1 - k) = k by omega] at this) e he hb
      rwa [hon] at this
    · have := hdep e he hb
      rwa [hon] at this

theorem least {p : Nat} {q : Nat → Prop} (h : ¬ ∀ i, i < p → q i) : ∃ i, i < p ∧ ¬ q i ∧ ∀ j, j < i → q j := by
  have : ∀ k, (∃ i, i < k ∧ i < p ∧ ¬ q i) → ∃ i, i < p ∧ ¬ q i ∧ ∀ j, j < i → q j := by
    intro k
    induction k with
    | zero => rintro ⟨i, hi, _⟩; omega
    | succ k ih =>
      rintro ⟨i, hi, hip, hq⟩
      by_cases hs : ∃ i, i < k ∧ i < p ∧ ¬ q i
      · exact ih hs
      · exact ⟨i, hip, hq, fun j hj => Classical.byContradiction fun hn => hs ⟨j, by omega, by omega, hn⟩⟩
  refine this p (Classical.byContradiction fun hn => h fun i hi => Classical.byContradiction fun hq => hn ⟨i, hi, hi, hq⟩)

/-- The least unlisted one of the first p is ready. -/
theorem least_ready (hp : Prefix l p) {L LP : Array Bool} (hL : L.size = l.length) (hag : ∀ i, i < p → L[i]? = LP[i]?) (hall : ¬ ∀ i, i < p → L[i]? = some true) :
    ∃ i, i < p ∧ i ∈ Region.ready .any (l.take p).toArray LP ∧ i ∈ Region.ready .any l.toArray L := by
  obtain ⟨i, hi, hne, hlt⟩ := least hall
  have hiL : L[i]? = some false := by
    cases hh : L[i]? with
    | none => have := Array.getElem?_eq_none_iff.1 hh; have := hp.le; omega
    | some x => cases x with
      | true => exact absurd hh hne
      | false => rfl
  obtain ⟨o, ho, hg, hon⟩ := hp.own i hi
  exact ⟨i, hi, ready_iff.2 ⟨(hag i hi).symm.trans hiL, o, by simp [List.getElem?_take_of_lt hi, ho], fun e he _ => (hag e.on (by have := hon e he; omega)).symm.trans (hlt e.on (hon e he))⟩,
    ready_iff.2 ⟨hiL, o, by simpa using ho, fun e he _ => hlt e.on (hon e he)⟩⟩

theorem bridge (hro : F.round = none) (hp : Prefix l p) (hE : E.size = l.length) (hE1 : ∀ i, i < p → E[i]? = some true) (hE2 : ∀ i, p ≤ i → i < l.length → E[i]? = some false)
    (hrest : ∀ m a w, C w → Qa a → wpAnyIn F n P .any l.toArray Q (m + rest) E a w) :
    ∀ (fuel : Nat) (L LP : Array Bool) (a : Act) (w : World), C w → L.size = l.length → LP.size = p → (∀ i, i < p → L[i]? = LP[i]?) → (∀ i, p ≤ i → i < l.length → L[i]? = some false) → Closed l L →
      wpAnyQIn F n P .any (l.take p).toArray C Qa fuel LP a → wpAnyIn F n P .any l.toArray Q (fuel + rest) L a w := by
  have same : ∀ L : Array Bool, L.size = l.length → (∀ i, i < p → L[i]? = some true) → (∀ i, p ≤ i → i < l.length → L[i]? = some false) → L = E := fun L hL hall hlate => by
    apply Array.ext_getElem?
    intro i
    by_cases hi : i < p
    · rw [hall i hi, hE1 i hi]
    · by_cases hi2 : i < l.length
      · rw [hlate i (by omega) hi2, hE2 i (by omega) hi2]
      · rw [Array.getElem?_eq_none (by omega), Array.getElem?_eq_none (by omega)]
  intro fuel
  induction fuel with
  | zero =>
    intro L LP a w hC hL hLP hag hlate hcl h
    by_cases hall : ∀ i, i < p → L[i]? = some true
    · rw [same L hL hall hlate]
      exact hrest 0 a w hC h.2
    · obtain ⟨i, _, hr, _⟩ := least_ready hp hL hag hall
      rw [h.1] at hr
      cases hr
  | succ fuel ih =>
    intro L LP a w hC hL hLP hag hlate hcl h
    by_cases hall : ∀ i, i < p → L[i]? = some true
    · rw [same L hL hall hlate]
      refine hrest (fuel + 1) a w hC (h.1 ?_)
      refine List.eq_nil_iff_forall_not_mem.2 fun j hj => ?_
      obtain ⟨hj1, o, ho, _⟩ := ready_iff.1 hj
      have hjp : j < p := by have := (Array.getElem?_eq_some_iff.1 hj1).1; omega
      rw [← hag j hjp, hall j hjp] at hj1
      cases hj1
    · obtain ⟨i0, _, _, hr0⟩ := least_ready hp hL hag hall
      rw [Nat.add_right_comm]
      refine ⟨(fun e => by rw [e] at hr0; cases hr0), fun i hi => ?_⟩
      obtain ⟨hiL, o, ho, hdep⟩ := ready_iff.1 hi
      have ho' : l[i]? = some o := by simpa using ho
      have hip : i < p := by
        refine Classical.byContradiction fun hge => hall fun j hj => ?_
        rcases hp.late i o (by omega) ho' with ⟨e, he, hb, hon⟩ | hu
        · have hl := hdep e he hb
          rw [hlate e.on hon (by have := (Array.getElem?_eq_some_iff.1 hl).1; omega)] at hl
          cases hl
        · have := all_of_last hcl hu hdep (p - 1 - j) (by omega)
          rwa [show p - 1 - (p - 1 - j) = j by omega] at this
      obtain ⟨o2, ho2, hg, hon⟩ := hp.own i hip
      obtain rfl : o2 = o := Option.some.inj (ho2.symm.trans ho')
      have hiP : (l.take p).toArray[i]? = some o2 := by simp [List.getElem?_take_of_lt hip, ho']
      have hq := h.2 i (ready_iff.2 ⟨(hag i hip).symm.trans hiL, o2, hiP, fun e he hb => (hag e.on (by have := hon e he; omega)).symm.trans (hdep e he hb)⟩)
      have hwant : Region.wanted o2 (yielded l.toArray a.tmps) = Region.wanted o2 (yielded (l.take p).toArray a.tmps) := by
        unfold Region.wanted
        cases hgd : o2.guard with
        | none => rfl
        | some jb =>
          obtain ⟨j, b⟩ := jb
          have hj := hg j b hgd
          simp only [yielded, List.getElem?_toArray, List.getElem?_take_of_lt hj]
      have next : ∀ a' w', C w' → wpAnyQIn F n P .any (l.take p).toArray C Qa fuel (LP.setIfInBounds i true) a' → wpAnyIn F n P .any l.toArray Q (fuel + rest) (L.setIfInBounds i true) a' w' := fun a' w' hC' hK => ?_
      · unfold qOpIn at hq
        rw [hiP] at hq
        unfold wpOpIn
        rw [ho]
        simp only [hwant]
        have hq2 := hq.2
        split
        · rename_i hw; rw [if_pos hw] at hq2; exact Oper.wpIn_of_quiet hro hC next hq.1 hq2
        · rename_i hw; rw [if_neg hw] at hq2; exact ⟨hq.1 w hC, next _ _ hC hq2⟩
      refine ih (L.setIfInBounds i true) (LP.setIfInBounds i true) a' w' hC' (by simp [hL]) (by simp [hLP]) (fun j hj => ?_) (fun j hj hj2 => ?_) (fun j oj hoj hjL e he hb => ?_) hK
      · rw [Array.getElem?_setIfInBounds, Array.getElem?_setIfInBounds, hag j hj]
        have := hp.le
        rw [hL, hLP, if_pos (show i < l.length by omega), if_pos hip]
      · rw [Array.getElem?_setIfInBounds, if_neg (by omega)]
        exact hlate j hj hj2
      · have key : L[e.on]? = some true := by
          by_cases hji : i = j
          · subst hji
            obtain rfl : o2 = oj := Option.some.inj (ho'.symm.trans hoj)
            exact hdep e he hb
          · rw [Array.getElem?_setIfInBounds, if_neg hji] at hjL
            exact hcl j oj hoj hjL e he hb
        rw [Array.getElem?_setIfInBounds]
        split
        · split
          · rfl
          · rename_i h1 h2
            rw [← h1] at key
            have := (Array.getElem?_eq_some_iff.1 key).1
            omega
        · exact key

/-- THE REGION. -/
theorem region_prefix {id : Nat} {a : Act} {w : World} (hro : F.round = none) (hm : P.follows .mixedOrders = true) (hp : p ≤ l.length) (hpB : prefixB l p = true) (hB : Region.lexB .any (l.take p).toArray = true)
    (h : wpQuietIn F n P (l.take p).toArray (fun w' => ∃ n, w' = w.drewN n) (fun a' => ∀ m w', (∃ n, w' = w.drewN n) → wpAnyIn F n P .any l.toArray Q (m + (l.length - p)) (Array.replicate p true ++ Array.replicate (l.length - p) false) a' w') (l.take p) a) :
    (Code.region id l.toArray true).wpIn F n P Q a w := by
  simp only [Region.lexB, Bool.and_eq_true] at hB
  have hQ := wpAnyQIn_lex (F := F) (n := n) (P := P) (C := fun w' => ∃ n, w' = w.drewN n) (md := .any) hB.1 (l.take p) 0 (Array.replicate p false) a (by simp) (by simpa [Nat.min_eq_left hp] using hB.2) h
  rw [show (l.take p).length = p by simp [Nat.min_eq_left hp]] at hQ
  refine wpIn_region_any hm ?_
  have := bridge (Q := Q) (rest := l.length - p) (E := Array.replicate p true ++ Array.replicate (l.length - p) false) hro (prefix_of hp hpB) (by simp; omega)
    (fun i hi => by rw [Array.getElem?_append_left (by simpa using hi)]; simp [hi]) (fun i hi hi2 => by rw [Array.getElem?_append_right (by simpa using hi), Array.getElem?_replicate, if_pos (by simp; omega)])
    (fun m a w hC hQa => hQa m w hC) p (Array.replicate l.length false) (Array.replicate p false) a { w with drawn := w.drawn + 1 } ⟨1, rfl⟩ (by simp) (by simp)
    (fun i hi => by rw [Array.getElem?_replicate, Array.getElem?_replicate, if_pos (by omega), if_pos hi]) (fun i _ hi => by simp [hi]) (fun i o _ hi => by rw [Array.getElem?_replicate] at hi; split at hi <;> cases hi) hQ
  rw [show p + (l.length - p) = l.length by omega] at this
  simpa using this
end
end Go.Proofs.Ybulkdjpk.lawS5535AWhole
