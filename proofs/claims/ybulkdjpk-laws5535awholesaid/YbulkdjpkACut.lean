/-
  5535A: the iterator 'cutting$1': its contract.
-/
import Derived.Test.YbulkdjpkARange
import Derived.Test.YbulkdjpkAWalks
import Derived.Test.YbulkdjpkAPrefix
import Derived.RangeFuncLeaves
import Derived.Shelf.Abstract
import Derived.Shelf.RegionOpen
import Derived.OwnWalkIn
import Derived.TacticsInMore
import Derived.LoopNIn
import Derived.LoopIn
namespace Go.Proofs.Ybulkdjpk.lawS5535AWhole
open Go.RowKit Go.Shelf
attribute [local go_sem] Oper.semAt_some

/-- A partition: its window, its pattern of groups. -/
abbrev Part := (Int × Int) × List Int
/-- The windows of the partitions that put a and b in different groups. -/
def cuts (a b : Nat) (qs : List Part) : List (Int × Int) := (qs.filter fun q => grp q.2 a != grp q.2 b).map (·.1)
theorem cuts_take {a b : Nat} {qs : List Part} {k : Nat} {q : Part} (h : qs[k]? = some q) : cuts a b (qs.take (k + 1)) = cuts a b (qs.take k) ++ (if grp q.2 a != grp q.2 b then [q.1] else []) := by
  have : qs.take (k + 1) = qs.take k ++ [q] := by rw [List.take_add_one, h]; rfl
  rw [this]
  unfold cuts
  rw [List.filter_append, List.map_append]
  cases hc : grp q.2 a != grp q.2 b <;> simp [List.filter, hc]
theorem cuts_len (a b : Nat) (qs : List Part) : (cuts a b qs).length ≤ qs.length := by unfold cuts; rw [List.length_map]; exact List.length_filter_le _ _

theorem cuts_prefix (a b : Nat) (qs : List Part) (k : Nat) : cuts a b (qs.take k) <+: cuts a b qs := by
  have h : cuts a b qs = cuts a b (qs.take k) ++ cuts a b (qs.drop k) := by
    unfold cuts; rw [← List.map_append, ← List.filter_append, List.take_append_drop]
  rw [h]; exact List.prefix_append _ _

/-- Partition j lies in row g. -/
def PartAt (D : Nat → Prop) (W : World) (g n j : Nat) (q : Part) : Prop := ∃ h c, W.cell? ⟨g, j * 3, none⟩ = some (.int .i64 q.1.1) ∧ W.cell? ⟨g, j * 3 + 1, none⟩ = some (.int .i64 q.1.2) ∧
  W.cell? ⟨g, j * 3 + 2, none⟩ = some (.slice (some ⟨h, 0, none⟩) n c) ∧ D h ∧ ∀ i, i < n → W.cell? ⟨h, i, none⟩ = some (.int .i64 (grp q.2 i))
def PartsAt (D : Nat → Prop) (W : World) (ao : Option Addr) (n : Nat) (qs : List Part) : Prop := ∀ j q, qs[j]? = some q → ∃ g, ao = some ⟨g, 0, none⟩ ∧ D g ∧ PartAt D W g n j q
theorem PartsAt.kept {D : Nat → Prop} {W W' : World} {ao : Option Addr} {n : Nat} {qs : List Part} (h : PartsAt D W ao n qs) (hk : KeptOn D W W') : PartsAt D W' ao n qs := fun j q hq => by
  obtain ⟨g, e, hg, h, c, c0, c1, c2, hh, hc⟩ := h j q hq
  exact ⟨g, e, hg, h, c, (hk.cell (p := ⟨g, j * 3, none⟩) hg).trans c0, (hk.cell (p := ⟨g, j * 3 + 1, none⟩) hg).trans c1, (hk.cell (p := ⟨g, j * 3 + 2, none⟩) hg).trans c2, hh, fun i hi => (hk.cell (p := ⟨h, i, none⟩) hh).trans (hc i hi)⟩

theorem grown_drewN (W : World) (q : Nat) : W.grownBy (W.drewN q) none := ⟨rfl, rfl, rfl, Nat.le_refl _, fun _ _ _ => rfl⟩

theorem either {e : Ending} {p q : Prop} (h : (e = .returned (.bool true) ∧ p) ∨ (e = .returned (.bool false) ∧ q)) : ∃ b, e = .returned (.bool b) ∧ ((b = true ∧ p) ∨ (b = false ∧ q)) := by
  rcases h with ⟨rfl, h⟩ | ⟨rfl, h⟩
  · exact ⟨true, rfl, .inl ⟨rfl, h⟩⟩
  · exact ⟨false, rfl, .inr ⟨rfl, h⟩⟩

set_option maxRecDepth 100000 in
set_option maxHeartbeats 2000000 in
theorem cut1_in (m l Br Ba Bb R N n a b : Nat) (D : Nat → Prop) (ao : Option Addr) (cap : Nat) (qs : List Part) (J Jx : List (Int × Int) → World → Prop) (W : World)
    (hl : qs.length ≤ 1048576) (ha : a < n) (hb : b < n) (hN : qs.length ≤ N)
    (hJ : AbidesFrom W.heap.size J)
    (hY : ∀ pre x W1, J pre W1 → pre.length < N → YieldAt Fence.wide (m - 1) Yba.prog l #[winV x] W1 fun e W' =>
      (e = .returned (.bool true) ∧ J (pre ++ [x]) W' ∧ KeptOn D W1 W') ∨ (e = .returned (.bool false) ∧ Jx (pre ++ [x]) W'))
    (hD : ∀ b, D b → b < W.heap.size)
    (br : Boxed W Br 26 (.pointer (some ⟨R, 0, none⟩))) (ba : Boxed W Ba 3 (.int .i64 a)) (bb : Boxed W Bb 3 (.int .i64 b))
    (cR : W.cell? ⟨R, 9, none⟩ = some (.slice ao qs.length cap)) (hP : PartsAt D W ao n qs) (h0 : J [] W) :
    CallsIn Fence.wide m Yba.prog 14 #[.func (.yield l) #[] #[], .pointer (some ⟨Br, 0, none⟩), .pointer (some ⟨Ba, 0, none⟩), .pointer (some ⟨Bb, 0, none⟩)] W fun e W' => (∃ v, e = .returned v) ∧
      ((∃ ys, ys = cuts a b qs ∧ J ys W') ∨ (∃ pre, pre <+: cuts a b qs ∧ Jx pre W')) := by
  refine callsIn_of_wp Yba.func14 rfl trivial ?_ rfl
  simp only [Yba.ntmps14, List.size_toArray, List.length_cons, List.length_nil, Nat.reduceAdd, Nat.reduceSub, Array.replicate_succ, Array.replicate_zero, List.push_toArray, List.append_toArray, List.nil_append, List.cons_append]
  have cr := br.cell
  gi_wp2
  gi_loopw [12] (fun i wr => ∃ k : Nat, k ≤ qs.length ∧ i = .int .i64 k ∧ J (cuts a b (qs.take k)) wr ∧ KeptOn D W wr)
    (fun i _ => qs.length - (intOf i).toNat)
  case atStart => exact ⟨0, Nat.zero_le _, rfl, by simpa [cuts] using h0, KeptOn.refl _ _⟩
  case round =>
    obtain ⟨k, hk, rfl, hJs, hkp⟩ := hrel
    have hDr : ∀ b, D b → b < wr.heap.size := fun b hb => Nat.lt_of_lt_of_le (hD b hb) hkp.size
    by_cases hlt : k < qs.length
    · obtain ⟨q, hq⟩ : ∃ q, qs[k]? = some q := ⟨_, List.getElem?_eq_getElem hlt⟩
      obtain ⟨g, rfl, hg, h, c, c0, c1, c2, hh, hcs⟩ := (hP.kept hkp) k q hq
      have ba' := hkp.box ba (by decide) (by decide)
      have bb' := hkp.box bb (by decide) (by decide)
      have ca' := ba'.cell
      have cb' := bb'.cell
      have ga := hcs a ha
      have gb := hcs b hb
      have hgl := hDr _ hg
      have hhl := hDr _ hh
      have hal := ba'.lt
      have hbl := bb'.lt
      have hct := cuts_take (a := a) (b := b) hq
      generalize grp q.2 a = x at ga hct
      generalize grp q.2 b = y at gb hct
      clear hcs
      by_cases hxy : x = y
      · subst hxy
        have hJ2 : J (cuts a b (qs.take (k + 1))) (wr.alloc (.cells #[.int .i64 q.1.1, .int .i64 q.1.2, .slice (some ⟨h, 0, none⟩) n c] 70)) := by
          rw [hct]
          simpa using hJ _ _ _ none hJs (World.grownBy_alloc wr _ none) (fun r e => by cases e)
        gi_wp2
        refine wpIn_wide.2 ?_
        go_quiet (fail)
        gi_wp2
        go_roundw
        case rel => exact ⟨k + 1, by omega, by simp, hJ _ _ _ none hJ2 (grown_drewN _ _) (fun r e => by cases e), hkp.trans (KeptOn.grown_none ((World.grownBy_alloc wr _ none).trans (grown_drewN _ _)) hDr)⟩
        case measure => simp [intOf]; omega
      · have hct' : cuts a b (qs.take (k + 1)) = cuts a b (qs.take k) ++ [q.1] := by rw [hct]; simp [hxy]
        have hpl : (cuts a b (qs.take k)).length < N := by have := cuts_len a b (qs.take k); simp at this; omega
        have hq1 : (x == y) = false := by simpa using hxy
        have hq2 : (x != y) = true := by simpa using hxy
        gi_wp2
        refine region_prefix (p := 15) rfl (by kernel_rfl) (by decide) (by kernel_rfl) (by kernel_rfl) ?_
        simp only [List.take_succ_cons, List.take_zero]
        repeat (quiet_step_in (fail))
        refine wpQuietIn_nil ?_
        rintro mm _ ⟨nq, rfl⟩
        have hJ2 : J (cuts a b (qs.take k)) ((wr.alloc (.cells #[.int .i64 q.1.1, .int .i64 q.1.2, .slice (some ⟨h, 0, none⟩) n c] 70)).drewN nq) := hJ _ _ _ none hJs ((World.grownBy_alloc wr _ none).trans (grown_drewN _ nq)) (fun r e => by cases e)
        obtain ⟨fn, tmps, assign, body, hy, hR⟩ := hY _ q.1 _ hJ2 hpl
        dsimp only [winV] at hy
        refine wpAnyIn_ready (rs := [15]) (by kernel_rfl) (by decide) (AllReadyIn.cons rfl (fun K hK => ?_) AllReadyIn.nil)
        go_simp
        refine ⟨(fun h => by cases h), hR.mono ?_⟩
        rintro e W3 (⟨rfl, hJ3, hk3⟩ | ⟨rfl, hJx3⟩)
        · refine hK _ _ ?_
          clear hK K hR hy
          refine wpAnyIn_ready (rs := [16]) (by kernel_rfl) (by decide) (AllReadyIn.cons rfl (fun K hK => ?_) AllReadyIn.nil)
          go_simp
          refine hK _ _ ?_
          clear hK K
          refine wpAnyIn_ready (rs := [17]) (by kernel_rfl) (by decide) (AllReadyIn.cons rfl (fun K hK => ?_) AllReadyIn.nil)
          go_simp
          refine hK _ _ ?_
          clear hK K
          refine wpAnyIn_done (by kernel_rfl) ?_ _
          gi_wp2
          go_roundw
          case rel => exact ⟨k + 1, by omega, by simp, by rw [hct']; exact hJ3, (hkp.trans (KeptOn.grown_none ((World.grownBy_alloc wr _ none).trans (grown_drewN _ _)) hDr)).trans hk3⟩
          case measure => simp [intOf]; omega
        · refine hK _ _ ?_
          clear hK K hR hy
          refine wpAnyIn_ready (rs := [16]) (by kernel_rfl) (by decide) (AllReadyIn.cons rfl (fun K hK => ?_) AllReadyIn.nil)
          go_simp
          refine hK _ _ ?_
          clear hK K
          refine wpAnyIn_ready (rs := [17]) (by kernel_rfl) (by decide) (AllReadyIn.cons rfl (fun K hK => ?_) AllReadyIn.nil)
          go_simp
          refine hK _ _ ?_
          clear hK K
          refine wpAnyIn_done (by kernel_rfl) ?_ _
          gi_wp2
          refine bodyPost_ret (results_none rfl _ _ _) rfl ?_
          exact ⟨⟨_, rfl⟩, .inr ⟨_, by rw [← hct']; exact cuts_prefix a b qs (k + 1), hJx3⟩⟩
    · obtain rfl : k = qs.length := by omega
      gi_wp2
      go_end0
      exact ⟨⟨_, rfl⟩, .inl ⟨_, rfl, by simpa using hJs⟩⟩
end Go.Proofs.Ybulkdjpk.lawS5535AWhole
