/-
  5535A: what the two loops over the iterator carry, and what the iterator reads: outside the walk.
-/
import Derived.Test.YbulkdjpkAS0
namespace Go.Proofs.Ybulkdjpk.lawS5535AWhole
open Go.RowKit Go.Deep

/-- A row's cell. -/
theorem row_cell {W : World} {B e s n : Nat} {v : Value} {xs : List Value} (h : W.ownsRow B e s v n xs) (hn : 0 < n) : ∃ g cap, v = .slice (some ⟨g, 0, none⟩) n cap ∧ g < W.heap.size ∧ ∀ j u, xs[j]? = some u → W.cell? ⟨g, j, none⟩ = some u := by
  rcases h.2 with ⟨_, h0⟩ | ⟨g, cap, cur, rfl, _, hh, _⟩
  · omega
  · refine ⟨g, cap, rfl, (Array.getElem?_eq_some_iff.1 hh).1, fun j u hu => ?_⟩
    have := h.cells (g := g) rfl j u hu
    rwa [Addr.add_lit, Nat.zero_add] at this
theorem row_wins {D : Nat → Prop} {W : World} {B : Nat} {v : Value} {ws : List (Int × Int)} (h : W.ownsRow B 59 2 v ws.length (flat ws)) (hD : ∀ b, b < W.heap.size → D b) : ∃ ao c, v = .slice ao ws.length c ∧ WinsAt D W ao ws := by
  obtain ⟨ao, c, rfl⟩ := row_form h
  refine ⟨ao, c, rfl, fun j x hx => ?_⟩
  have hj : j < ws.length := (List.getElem?_eq_some_iff.1 hx).1
  obtain ⟨g, cap, e, hg, hc⟩ := row_cell h (by omega)
  cases e
  obtain ⟨h0, h1⟩ := flat_at hx
  exact ⟨g, rfl, hD g hg, hc _ _ h0, hc _ _ h1⟩

theorem reads_of {w0 W : World} {f : Nat → List (Int × Int)} {n : Nat} {vN vP : Value} {ptrs cells : List Value} {qs : List Part} {ia ib : Nat} (HP : CarryP w0 W f n vN ptrs qs qs.length vP cells) (D : Nat → Prop) (hD : ∀ b, b < W.heap.size → D b) (ha : ia < n) (hb : ib < n) :
    Reads D W w0.heap.size n ia ib (f ia) (f ib) qs := by
  refine ⟨hD _ HP.box.lt, ?_, ?_⟩
  · obtain ⟨g, cap, rfl, hg, hc⟩ := row_cell HP.row (by omega)
    obtain ⟨Xa, hXa, va, hva, hra⟩ := HP.nodes.each ia ha
    obtain ⟨Xb, hXb, vb, hvb, hrb⟩ := HP.nodes.each ib hb
    obtain ⟨aoA, cA, rfl, hA⟩ := row_wins hra hD
    obtain ⟨aoB, cB, rfl, hB⟩ := row_wins hrb hD
    exact ⟨g, cap, Xa, Xb, hD _ hg, hD _ (Array.getElem?_eq_some_iff.1 hva).1, hD _ (Array.getElem?_eq_some_iff.1 hvb).1, HP.box.cN, hc _ _ hXa, hc _ _ hXb,
      ⟨aoA, cA, by simp [World.cell?, hva], hA⟩, ⟨aoB, cB, by simp [World.cell?, hvb], hB⟩⟩
  · obtain ⟨ao, c, hv⟩ := row_form HP.prow
    refine ⟨ao, c, by rw [← hv]; exact HP.box.cP, fun j q hq => ?_⟩
    have hj : j < qs.length := (List.getElem?_eq_some_iff.1 hq).1
    obtain ⟨g, cap, e, hg, hc⟩ := row_cell HP.prow (by omega)
    rw [hv] at e
    cases e
    obtain ⟨gv, h0, h1, h2, G, rfl, _, cc, hG, hcs, hgi⟩ := HP.parts.each j q hj hq
    refine ⟨g, rfl, hD _ hg, G, n, hc _ _ h0, hc _ _ h1, hc _ _ h2, hD _ (Array.getElem?_eq_some_iff.1 hG).1, fun i hi => ?_⟩
    simp [World.cell?, hG, hgi i hi]

theorem Reads.kept {D : Nat → Prop} {W W' : World} {R n a b : Nat} {wa wb : List (Int × Int)} {qs : List Part} (h : Reads D W R n a b wa wb qs) (hk : KeptOn D W W') : Reads D W' R n a b wa wb qs := by
  refine ⟨h.dR, ?_, ?_⟩
  · obtain ⟨Nb, cn, Xa, Xb, dN, dA, dB, h1, h2, h3, ⟨ao, c, h4, h5⟩, ao', c', h6, h7⟩ := h.nodes
    exact ⟨Nb, cn, Xa, Xb, dN, dA, dB, (hk.cell (p := ⟨R, 2, none⟩) h.dR).trans h1, (hk.cell (p := ⟨Nb, a, none⟩) dN).trans h2, (hk.cell (p := ⟨Nb, b, none⟩) dN).trans h3, ⟨ao, c, (hk.cell (p := ⟨Xa, 6, none⟩) dA).trans h4, h5.kept hk⟩, ao', c', (hk.cell (p := ⟨Xb, 6, none⟩) dB).trans h6, h7.kept hk⟩
  · obtain ⟨ao, c, h1, h2⟩ := h.parts
    exact ⟨ao, c, (hk.cell (p := ⟨R, 9, none⟩) h.dR).trans h1, h2.kept hk⟩

/-- What a collecting loop carries: the box G holds the row of the windows so far; below n1 all is as in wq. -/
def Col (n1 : Nat) (wq : World) (G : Nat) (pre : List (Int × Int)) (W : World) : Prop := ∃ v, Boxed W G 54 v ∧ W.ownsRow n1 59 2 v pre.length (flat pre) ∧ Below n1 wq W
theorem Col.own {n1 G B : Nat} {wq : World} (hn1 : n1 ≤ wq.heap.size) (hB : n1 ≤ B) : OwnFrom B (Col n1 wq G) := fun s X Y row hs hg hr => by
  obtain ⟨v, hb, hrow, hbel⟩ := hs
  refine ⟨v, boxed_own G 54 (fun _ : Unit => v) () X Y row hb hg (fun r e => (hr r e).2), ?_, hbel.grown hg (Nat.le_trans hn1 hbel.size) (fun k e => Nat.le_trans hB (hr k e).1)⟩
  refine hrow.kept hg ?_
  rcases hrow.2 with ⟨rfl, _⟩ | ⟨g, cap, cur, rfl, _, hh, _⟩
  · exact .inl rfl
  · refine .inr fun e => ?_
    obtain ⟨_, o, ho, hc⟩ := hr g e.symm
    rw [hh] at ho
    cases ho
    cases hc
theorem Col.alloc {n1 G : Nat} {wq W : World} {pre : List (Int × Int)} (hn1 : n1 ≤ wq.heap.size) (h : Col n1 wq G pre W) (o : Obj) : Col n1 wq G pre (W.alloc o) := (Col.own (B := n1) hn1 (Nat.le_refl _)).alloc o h

theorem col_step {n1 G B : Nat} {wq W w1 : World} {pre : List (Int × Int)} {x : Int × Int} {v v' : Value} {tmp : Obj} (hv : Boxed W G 54 v) (hrow : W.ownsRow n1 59 2 v pre.length (flat pre)) (hB : Below n1 wq W) (hn1 : n1 ≤ wq.heap.size) (hG : n1 ≤ G)
    (hown : w1.ownsRow n1 59 2 v' (pre.length + 1) (flat pre ++ [.int .i64 x.1, .int .i64 x.2])) (hg : (W.alloc tmp).grownBy w1 v.ownBlock) :
    Boxed w1 G 54 v ∧ KeepsFrom B W (w1.setCell ⟨G, 0, none⟩ v') ∧ KeptOn (fun b => b < n1) W (w1.setCell ⟨G, 0, none⟩ v') ∧ Col n1 wq G (pre ++ [x]) (w1.setCell ⟨G, 0, none⟩ v') := by
  have hn : n1 ≤ W.heap.size := Nat.le_trans hn1 hB.size
  obtain ⟨h1, h2, h3, h4, h5⟩ := hv.appended (t := 54) (e := 59) (by decide) hrow hn hG hown hg
  refine ⟨h1, h4.from B, ?_, v', h2, ?_, hB.trans h5⟩
  · have k1 : KeptOn (fun b => b < n1) W (W.alloc tmp) := KeptOn.grown_none (World.grownBy_alloc W tmp none) (fun b hb => by omega)
    have k2 : KeptOn (fun b => b < n1) (W.alloc tmp) w1 := KeptOn.grown hg (fun b hb => by simp; omega) (fun b e => by
      have hr' := hrow.alloc tmp
      obtain ⟨hlo, _⟩ := hr'.lt b e
      refine ⟨fun h => by omega, fun cs t f hb => .inr ?_⟩
      obtain ⟨cs', f', ht⟩ := row_typ hr' b e
      rw [ht] at hb
      cases hb
      rfl)
    have k3 : KeptOn (fun b => b < n1) w1 (w1.setCell ⟨G, 0, none⟩ v') := KeptOn.grown (grownBy_setCell' w1 G v') (fun b hb => by have := h1.lt; omega) (fun b e => by
      cases e
      refine ⟨fun h => by omega, fun cs t f hb => .inl ?_⟩
      rw [show w1.heap[G]? = _ from h1] at hb
      cases hb
      rfl)
    exact (k1.trans k2).trans k3
  · rw [flat_append, List.length_append]
    exact h3
end Go.Proofs.Ybulkdjpk.lawS5535AWhole
