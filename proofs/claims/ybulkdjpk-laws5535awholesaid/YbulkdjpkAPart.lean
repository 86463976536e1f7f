/-
  5535A: the iterator 'parting$1': its contract.
-/
import Derived.Test.YbulkdjpkACut
namespace Go.Proofs.Ybulkdjpk.lawS5535AWhole
open Go.RowKit Go.Shelf
attribute [local go_sem] Oper.semAt_some

/-- The windows of a slice. -/
def WinsAt (D : Nat → Prop) (W : World) (ao : Option Addr) (ws : List (Int × Int)) : Prop := ∀ j x, ws[j]? = some x → ∃ g, ao = some ⟨g, 0, none⟩ ∧ D g ∧ W.cell? ⟨g, j * 2, none⟩ = some (.int .i64 x.1) ∧ W.cell? ⟨g, j * 2 + 1, none⟩ = some (.int .i64 x.2)
theorem WinsAt.kept {D : Nat → Prop} {W W' : World} {ao : Option Addr} {ws : List (Int × Int)} (h : WinsAt D W ao ws) (hk : KeptOn D W W') : WinsAt D W' ao ws := fun j x hx => by
  obtain ⟨g, e, hg, c0, c1⟩ := h j x hx
  exact ⟨g, e, hg, (hk.cell (p := ⟨g, j * 2, none⟩) hg).trans c0, (hk.cell (p := ⟨g, j * 2 + 1, none⟩) hg).trans c1⟩

theorem KeptOn.of_below {D : Nat → Prop} {w W : World} (h : Below w.heap.size w W) (hD : ∀ b, D b → b < w.heap.size) : KeptOn D w W :=
  ⟨h.size, fun b hb => h.block b (hD b hb), fun b _ _ _ hb _ _ => (h.block b (Array.getElem?_eq_some_iff.1 hb).1).trans hb⟩
theorem ownFrom_mono {β : Type} {B B' : Nat} {I : β → World → Prop} (h : OwnFrom B I) (hB : B ≤ B') : OwnFrom B' I := fun s W W' row hs hg hr => h s W W' row hs hg (fun r e => ⟨Nat.le_trans hB (hr r e).1, (hr r e).2⟩)

/-- 'cutting$1' by the kit's contract. -/
theorem cut_stops (m Br Ba Bb R n a b : Nat) (D : Nat → Prop) (ao : Option Addr) (cap : Nat) (qs : List Part) (w : World)
    (hl : qs.length ≤ 1048576) (ha : a < n) (hb : b < n) (hD : ∀ b, D b → b < w.heap.size) (dR : D R)
    (br : Boxed w Br 26 (.pointer (some ⟨R, 0, none⟩))) (ba : Boxed w Ba 3 (.int .i64 a)) (bb : Boxed w Bb 3 (.int .i64 b))
    (cR : w.cell? ⟨R, 9, none⟩ = some (.slice ao qs.length cap)) (hP : PartsAt D w ao n qs) :
    SeqStopsK Fence.wide m Yba.prog 14 #[.pointer (some ⟨Br, 0, none⟩), .pointer (some ⟨Ba, 0, none⟩), .pointer (some ⟨Bb, 0, none⟩)] (fun x : Int × Int => #[winV x]) (KeptOn D) (fun ys => ys = cuts a b qs) (fun pre => pre <+: cuts a b qs) qs.length w := fun l J Jx W hW hJ _ hY h0 => by
  have hk : KeptOn D w W := KeptOn.of_below hW hD
  exact cut1_in m l Br Ba Bb R qs.length n a b D ao cap qs J Jx W hl ha hb (Nat.le_refl _) hJ hY (fun b hb => Nat.lt_of_lt_of_le (hD b hb) hW.size)
    (hk.box br (by decide) (by decide)) (hk.box ba (by decide) (by decide)) (hk.box bb (by decide) (by decide)) ((hk.cell (p := ⟨R, 9, none⟩) dR).trans cR) (hP.kept hk) h0

theorem prefix_mid {α : Type} (u : List α) {v v' : List α} (h : v <+: v') : u ++ v <+: u ++ v' := by
  obtain ⟨t, rfl⟩ := h
  exact ⟨t, by simp⟩

set_option maxRecDepth 100000 in
set_option maxHeartbeats 2000000 in
theorem part1_in (m l Br Ba Bb R N n a b Nb Xa Xb cn cA cB cP : Nat) (D : Nat → Prop) (aoA aoB aoP : Option Addr) (wa wb : List (Int × Int)) (qs : List Part) (J Jx : List (Int × Int) → World → Prop) (W : World)
    (hm : 1 ≤ m) (hla : wa.length ≤ 1048576) (hlb : wb.length ≤ 1048576) (hlq : qs.length ≤ 1048576) (ha : a < n) (hb : b < n) (hN : wa.length + wb.length + qs.length ≤ N)
    (hJ : OwnFrom W.heap.size J) (hJx : OwnFrom W.heap.size Jx)
    (hY : ∀ m pre x W1, J pre W1 → pre.length < N → YieldAt Fence.wide m Yba.prog l #[winV x] W1 fun e W' => KeepsFrom W.heap.size W1 W' ∧
      ((e = .returned (.bool true) ∧ J (pre ++ [x]) W' ∧ KeptOn D W1 W') ∨ (e = .returned (.bool false) ∧ Jx (pre ++ [x]) W')))
    (hD : ∀ b, D b → b < W.heap.size) (dR : D R) (dN : D Nb) (dXa : D Xa) (dXb : D Xb)
    (br : Boxed W Br 26 (.pointer (some ⟨R, 0, none⟩))) (ba : Boxed W Ba 3 (.int .i64 a)) (bb : Boxed W Bb 3 (.int .i64 b))
    (cN : W.cell? ⟨R, 2, none⟩ = some (.slice (some ⟨Nb, 0, none⟩) n cn)) (cXa : W.cell? ⟨Nb, a, none⟩ = some (.pointer (some ⟨Xa, 0, none⟩))) (cXb : W.cell? ⟨Nb, b, none⟩ = some (.pointer (some ⟨Xb, 0, none⟩)))
    (cwa : W.cell? ⟨Xa, 6, none⟩ = some (.slice aoA wa.length cA)) (cwb : W.cell? ⟨Xb, 6, none⟩ = some (.slice aoB wb.length cB)) (cqs : W.cell? ⟨R, 9, none⟩ = some (.slice aoP qs.length cP))
    (hA : WinsAt D W aoA wa) (hB : WinsAt D W aoB wb) (hP : PartsAt D W aoP n qs) (h0 : J [] W) :
    CallsIn Fence.wide m Yba.prog 10 #[.func (.yield l) #[] #[], .pointer (some ⟨Br, 0, none⟩), .pointer (some ⟨Ba, 0, none⟩), .pointer (some ⟨Bb, 0, none⟩)] W fun e W' => (∃ v, e = .returned v) ∧
      ((∃ xs, xs = wa ++ wb ++ cuts a b qs ∧ J xs W') ∨ (∃ pre, pre <+: wa ++ wb ++ cuts a b qs ∧ Jx pre W')) := by
  refine callsIn_of_wp_marks Yba.func10 rfl trivial ?_ rfl
  simp only [Yba.ntmps10, List.size_toArray, List.length_cons, List.length_nil, Nat.reduceAdd, Nat.reduceSub, Array.replicate_succ, Array.replicate_zero, List.push_toArray, List.append_toArray, List.nil_append, List.cons_append]
  have hrl := hD _ dR
  have hNl := hD _ dN
  have hXal := hD _ dXa
  have hXbl := hD _ dXb
  have cr := br.cell
  have ca := ba.cell
  have cb := bb.cell
  have hbrl := br.lt
  have hbal := ba.lt
  have hbbl := bb.lt
  gi_wp2
  refine wpIn_wide.2 ?_
  go_quiet (fail)
  gi_wp2
  have hO0 : Boxed ((W.alloc (.cells #[.func (.yield l) #[] #[]] 80)).drewN nq) W.heap.size 80 (.func (.yield l) #[] #[]) := (Boxed.new W 80 _).kept (grown_drewN _ nq) (by simp)
  have hJ0 : J [] ((W.alloc (.cells #[.func (.yield l) #[] #[]] 80)).drewN nq) := hJ _ _ _ none h0 ((World.grownBy_alloc W _ none).trans (grown_drewN _ nq)) (fun r e => by cases e)
  have hk0 : KeptOn D W ((W.alloc (.cells #[.func (.yield l) #[] #[]] 80)).drewN nq) := KeptOn.grown_none ((World.grownBy_alloc W _ none).trans (grown_drewN _ nq)) hD
  gi_loopw [21] (fun i wr => ∃ k : Nat, k ≤ wa.length ∧ i = .int .i64 k ∧ J (wa.take k) wr ∧ KeptOn D W wr ∧ Boxed wr W.heap.size 80 (.func (.yield l) #[] #[]))
    (fun i _ => wa.length - (intOf i).toNat)
  case atStart => exact ⟨0, Nat.zero_le _, rfl, by simpa using hJ0, hk0, hO0⟩
  case round =>
    obtain ⟨k, hk, rfl, hJs, hkp, hO⟩ := hrel
    have hDr : ∀ b, D b → b < wr.heap.size := fun b hb => Nat.lt_of_lt_of_le (hD b hb) hkp.size
    clear hJ0 hk0 hO0
    by_cases hlt : k < wa.length
    · obtain ⟨x, hx⟩ : ∃ x, wa[k]? = some x := ⟨_, List.getElem?_eq_getElem hlt⟩
      obtain ⟨g, rfl, hg, c0, c1⟩ := (hA.kept hkp) k x hx
      have htk : wa.take (k + 1) = wa.take k ++ [x] := by rw [List.take_add_one, hx]; rfl
      have hgl := hDr _ hg
      have cO := hO.cell
      have hOl := hO.lt
      obtain ⟨fn, tmps, assign, body, hy, hR⟩ := hY (m - 1) _ x _ (hJ.alloc (.cells #[.int .i64 x.1, .int .i64 x.2] 59) hJs) (by simp; omega)
      dsimp only [winV] at hy
      gi_wp2
      refine hR.mono ?_
      rintro e W3 ⟨_, ⟨rfl, hJ3, hk3⟩ | ⟨rfl, hJx3⟩⟩
      · gi_wp2
        go_roundw
        case rel => exact ⟨k + 1, by omega, by simp, by rw [htk]; exact hJ3, (hkp.trans (KeptOn.grown_none (World.grownBy_alloc wr _ none) hDr)).trans hk3, hk3.box (hO.alloc _) (by decide) (by decide)⟩
        case measure => simp [intOf]; omega
      · gi_wp2
        exact ⟨_, results_none rfl _ _ _, ⟨_, rfl⟩, .inr ⟨_, by rw [← htk, List.append_assoc]; exact (List.take_prefix _ _).trans (List.prefix_append _ _), hJx3⟩⟩
    · obtain rfl : k = wa.length := by omega
      rw [List.take_length] at hJs
      have cr' := (hkp.box br (by decide) (by decide)).cell
      have cb' := (hkp.box bb (by decide) (by decide)).cell
      have cN' := (hkp.cell (p := ⟨R, 2, none⟩) dR).trans cN
      have cXb' := (hkp.cell (p := ⟨Nb, b, none⟩) dN).trans cXb
      have cwb' := (hkp.cell (p := ⟨Xb, 6, none⟩) dXb).trans cwb
      clear cr ca cb cN cXa cXb cwa cwb
      gi_wp2
      refine wpIn_wide.2 ?_
      go_quiet (fail)
      gi_wp2
      clear cr' cb' cN' cXb' cwb'
      obtain ⟨w2, hw2⟩ : ∃ w2, wr.drewN nq = w2 := ⟨_, rfl⟩
      rw [hw2]
      have hO2 : Boxed w2 W.heap.size 80 (.func (.yield l) #[] #[]) := by rw [← hw2]; exact hO.kept (grown_drewN _ nq) (by simp)
      have hJ2 : J wa w2 := by rw [← hw2]; exact hJ _ _ _ none hJs (grown_drewN _ nq) (fun r e => by cases e)
      have hk2 : KeptOn D W w2 := by rw [← hw2]; exact hkp.trans (KeptOn.grown_none (grown_drewN _ nq) hDr)
      clear hw2 hJs hkp hO hDr
      gi_loopw [41] (fun i wr => ∃ k : Nat, k ≤ wb.length ∧ i = .int .i64 k ∧ J (wa ++ wb.take k) wr ∧ KeptOn D W wr ∧ Boxed wr W.heap.size 80 (.func (.yield l) #[] #[]))
        (fun i _ => wb.length - (intOf i).toNat)
      case atStart => exact ⟨0, Nat.zero_le _, rfl, by simpa using hJ2, hk2, hO2⟩
      case round =>
        obtain ⟨k, hk, rfl, hJs, hkp, hO⟩ := hrel
        have hDr : ∀ b, D b → b < wr.heap.size := fun b hb => Nat.lt_of_lt_of_le (hD b hb) hkp.size
        clear hJ2 hk2 hO2
        by_cases hlt : k < wb.length
        · obtain ⟨x, hx⟩ : ∃ x, wb[k]? = some x := ⟨_, List.getElem?_eq_getElem hlt⟩
          obtain ⟨g, rfl, hg, c0, c1⟩ := (hB.kept hkp) k x hx
          have htk : wa ++ wb.take (k + 1) = (wa ++ wb.take k) ++ [x] := by rw [List.take_add_one, hx, List.append_assoc]; rfl
          have hgl := hDr _ hg
          have cO := hO.cell
          have hOl := hO.lt
          obtain ⟨fn, tmps, assign, body, hy, hR⟩ := hY (m - 1) _ x _ (hJ.alloc (.cells #[.int .i64 x.1, .int .i64 x.2] 59) hJs) (by simp; omega)
          dsimp only [winV] at hy
          gi_wp2
          refine hR.mono ?_
          rintro e W3 ⟨_, ⟨rfl, hJ3, hk3⟩ | ⟨rfl, hJx3⟩⟩
          · gi_wp2
            go_roundw
            case rel => exact ⟨k + 1, by omega, by simp, by rw [htk]; exact hJ3, (hkp.trans (KeptOn.grown_none (World.grownBy_alloc wr _ none) hDr)).trans hk3, hk3.box (hO.alloc _) (by decide) (by decide)⟩
            case measure => simp [intOf]; omega
          · gi_wp2
            exact ⟨_, results_none rfl _ _ _, ⟨_, rfl⟩, .inr ⟨_, by rw [← htk]; exact (prefix_mid wa (List.take_prefix _ _)).trans (List.prefix_append _ _), hJx3⟩⟩
        · obtain rfl : k = wb.length := by omega
          rw [List.take_length] at hJs
          have br' := hkp.box br (by decide) (by decide)
          have ba' := hkp.box ba (by decide) (by decide)
          have bb' := hkp.box bb (by decide) (by decide)
          have cr' := br'.cell
          have ca' := ba'.cell
          have cb' := bb'.cell
          gi_wp2
          first | refine (callsIn_wide.2 (cutting_any _ _ _ _)).mono ?_ | refine ⟨trivial, (callsIn_wide.2 (cutting_any _ _ _ _)).mono ?_⟩
          rintro e w' ⟨rfl, rfl⟩
          gi_wp2
          clear cr' ca' cb'
          obtain ⟨s0, hs0⟩ : ∃ s0, wr.heap.size = s0 := ⟨_, rfl⟩
          obtain ⟨w5, hw5⟩ : ∃ w5, ((wr.alloc (.cells #[.pointer (some ⟨R, 0, none⟩)] 26)).alloc (.cells #[.int .i64 a] 3)).alloc (.cells #[.int .i64 b] 3) = w5 := ⟨_, rfl⟩
          have hgr : wr.grownBy w5 none := by rw [← hw5]; exact ((World.grownBy_alloc wr _ none).trans (World.grownBy_alloc _ _ none)).trans (World.grownBy_alloc _ _ none)
          have e1 : Boxed w5 s0 26 (.pointer (some ⟨R, 0, none⟩)) := by rw [← hw5, ← hs0]; exact ((Boxed.new wr 26 _).alloc _).alloc _
          have e2 : Boxed w5 (s0 + 1) 3 (.int .i64 a) := by
            rw [← hw5, ← hs0]; have := (Boxed.new (wr.alloc (.cells #[.pointer (some ⟨R, 0, none⟩)] 26)) 3 (.int .i64 a)).alloc (.cells #[.int .i64 b] 3); rwa [World.size_alloc] at this
          have e3 : Boxed w5 (s0 + 2) 3 (.int .i64 b) := by
            rw [← hw5, ← hs0]; have := Boxed.new ((wr.alloc (.cells #[.pointer (some ⟨R, 0, none⟩)] 26)).alloc (.cells #[.int .i64 a] 3)) 3 (.int .i64 b); rwa [World.size_alloc, World.size_alloc] at this
          have hk5 : KeptOn D W w5 := hkp.trans (KeptOn.grown_none hgr hDr)
          have hD5 : ∀ b, D b → b < w5.heap.size := fun b hb => Nat.lt_of_lt_of_le (hD b hb) hk5.size
          have hO5 : Boxed w5 W.heap.size 80 (.func (.yield l) #[] #[]) := hO.kept hgr (by simp)
          have hJ5 : J (wa ++ wb) w5 := hJ _ _ _ none hJs hgr (fun r e => by cases e)
          have hsz5 : W.heap.size ≤ w5.heap.size := hk5.size
          rw [hs0, hw5]
          clear hw5 hs0 hgr hJs hO hkp hDr br' ba' bb'
          refine wpIn_rangeFunc_ownH rfl hm (gf := 14) (lb := #[.pointer (some ⟨s0, 0, none⟩), .pointer (some ⟨s0 + 1, 0, none⟩), .pointer (some ⟨s0 + 2, 0, none⟩)]) rfl trivial (enters_of Yba.func14 (by kernel_rfl) rfl)
            (cut_stops (m - 1) s0 (s0 + 1) (s0 + 2) R n a b D aoP cP qs w5 hlq ha hb hD5 dR e1 e2 e3 ((hk5.cell (p := ⟨R, 9, none⟩) dR).trans cqs) (hP.kept hk5)) KeptOn.trans (KeptOn.putObj hD5) (Below.refl _ _) (fun _ => rfl)
            (fun pre w' => J (wa ++ wb ++ pre) w' ∧ Boxed w' W.heap.size 80 (.func (.yield l) #[] #[]) ∧ w5.heap.size ≤ w'.heap.size)
            (fun c pre w' => c = .ret ∧ Jx (wa ++ wb ++ pre) w')
            (fun s A B row hs hg hr => ⟨hJ _ A B row hs.1 hg (fun r e => ⟨Nat.le_trans hsz5 (hr r e).1, (hr r e).2⟩), boxed_own W.heap.size 80 (fun _ : Unit => .func (.yield l) #[] #[]) () A B row hs.2.1 hg (fun r e => (hr r e).2), Nat.le_trans hs.2.2 hg.size⟩)
            (fun c s A B row hs hg hr => ⟨hs.1, hJx _ A B row hs.2 hg (fun r e => ⟨Nat.le_trans hsz5 (hr r e).1, (hr r e).2⟩)⟩)
            ⟨by simpa using hJ5, hO5, Nat.le_refl _⟩
            (fun x a' w' => ∃ Bx, w'.heap[Bx]? = some (.cells #[.int .i64 x.1, .int .i64 x.2] 59 (0, 0)) ∧ a' = { tmps := #[.func (.yield l) #[] #[], .pointer (some ⟨Br, 0, none⟩), .pointer (some ⟨Ba, 0, none⟩), .pointer (some ⟨Bb, 0, none⟩), .pointer (some ⟨W.heap.size, 0, none⟩), undef, u6, undef, u8, .pointer (some ⟨Bx, 0, none⟩), .pointer (some ⟨R, 0, none⟩), .pointer (some ⟨R, 0, none⟩), .pointer (some ⟨R, 2, none⟩), .slice (some ⟨Nb, 0, none⟩) n cn, .int .i64 a, .pointer (some ⟨Nb, a, none⟩), .pointer (some ⟨Xa, 0, none⟩), .pointer (some ⟨Xa, 0, none⟩), .pointer (some ⟨Xa, 6, none⟩), .slice aoA wa.length cA, .int .i64 wa.length, .int .i64 wa.length, .bool false, u23, u24, u25, u26, u27, u28, u29, .pointer (some ⟨R, 0, none⟩), .pointer (some ⟨R, 0, none⟩), .pointer (some ⟨R, 2, none⟩), .slice (some ⟨Nb, 0, none⟩) n cn, .int .i64 b, .pointer (some ⟨Nb, b, none⟩), .pointer (some ⟨Xb, 0, none⟩), .pointer (some ⟨Xb, 0, none⟩), .pointer (some ⟨Xb, 6, none⟩), .slice aoB wb.length cB, .int .i64 wb.length, .int .i64 wb.length, .bool false, u43, u44, u45, u46, u47, u48, u49, .pointer (some ⟨R, 0, none⟩), .int .i64 a, .int .i64 b, .func (.func 14) #[] #[.pointer (some ⟨s0, 0, none⟩), .pointer (some ⟨s0 + 1, 0, none⟩), .pointer (some ⟨s0 + 2, 0, none⟩)], winV x, undef, undef, undef, undef], defers := [] })
            (fun x a' s A B row hs hg hr => by
              obtain ⟨Bx, hbx, ha'⟩ := hs
              refine ⟨Bx, (hg.block Bx (Array.getElem?_eq_some_iff.1 hbx).1 (fun e => ?_)).trans hbx, ha'⟩
              obtain ⟨o, ho, hc⟩ := (hr Bx e.symm).2
              rw [hbx] at ho; cases ho; cases hc)
            ?assign ?body ?done ?stop
          case assign =>
            rintro ll pre x w' K ⟨hi1, hi2, hi3⟩ hK
            gi_wp2
            exact hK _ _ ((KeepsOthers.alloc _ _).from _) (KeptOn.grown_none (World.grownBy_alloc w' _ none) (fun b hb => Nat.lt_of_lt_of_le (hD5 b hb) hi3)) ⟨hJ.alloc _ hi1, hi2.alloc _, by simp; omega⟩ ⟨_, World.alloc_heap_new w' _, rfl⟩
          case body =>
            rintro ll pre x a' w' _ _ ⟨hi1, hi2, hi3⟩ ⟨Bx, hbx, rfl⟩ hlt
            have cO := hi2.cell
            have cx0 : w'.cell? ⟨Bx, 0, none⟩ = some (.int .i64 x.1) := by simp [World.cell?, hbx]
            have cx1 : w'.cell? ⟨Bx, 1, none⟩ = some (.int .i64 x.2) := by simp [World.cell?, hbx]
            obtain ⟨fn, tmps, assign, body, hy, hR⟩ := hY (m - 1 - 1 - 1) _ x w' hi1 (by simp; omega)
            dsimp only [winV] at hy
            gi_wp2
            refine ⟨(fun h => by cases h), RoundIn.mono (F := Fence.wide.inRound ll) hR ?_⟩
            rintro e W3 ⟨hkf, ⟨rfl, hJ3, hk3⟩ | ⟨rfl, hJx3⟩⟩
            · gi_wp2
              exact ⟨⟨hkf.size, fun k o hB => hkf.same k o (by omega)⟩, hk3, by rw [← List.append_assoc]; exact hJ3, hk3.box hi2 (by decide) (by decide), Nat.le_trans hi3 hk3.size⟩
            · gi_wp2
              exact ⟨⟨hkf.size, fun k o hB => hkf.same k o (by omega)⟩, rfl, by rw [← List.append_assoc]; exact hJx3⟩
          case done =>
            rintro Dd ys w' hDd rfl ⟨hi1, _⟩ hK
            gi_wp2
            refine ⟨by simp, .inl ⟨_, _, rfl, run_takeDeferred hK, ?_⟩⟩
            exact ⟨_, results_none rfl _ _ _, ⟨_, rfl⟩, .inl ⟨_, rfl, hJ.putObj _ hi1 (by omega) hK rfl⟩⟩
          case stop =>
            rintro Dd c pre w' hDd hpre ⟨rfl, hjx⟩ hK
            gi_wp2
            refine ⟨by simp, .inl ⟨_, _, rfl, run_takeDeferred hK, ?_⟩⟩
            exact ⟨_, results_none rfl _ _ _, ⟨_, rfl⟩, .inr ⟨_, prefix_mid _ hpre, hJx.putObj _ hjx (by omega) hK rfl⟩⟩

/-- WHAT THE ITERATOR READS: the run's two fields, the two nodes, their crashes, the partitions: in blocks of D. -/
structure Reads (D : Nat → Prop) (W : World) (R n a b : Nat) (wa wb : List (Int × Int)) (qs : List Part) : Prop where
  dR : D R
  nodes : ∃ Nb cn Xa Xb, D Nb ∧ D Xa ∧ D Xb ∧ W.cell? ⟨R, 2, none⟩ = some (.slice (some ⟨Nb, 0, none⟩) n cn) ∧ W.cell? ⟨Nb, a, none⟩ = some (.pointer (some ⟨Xa, 0, none⟩)) ∧ W.cell? ⟨Nb, b, none⟩ = some (.pointer (some ⟨Xb, 0, none⟩)) ∧
    (∃ ao c, W.cell? ⟨Xa, 6, none⟩ = some (.slice ao wa.length c) ∧ WinsAt D W ao wa) ∧ (∃ ao c, W.cell? ⟨Xb, 6, none⟩ = some (.slice ao wb.length c) ∧ WinsAt D W ao wb)
  parts : ∃ ao c, W.cell? ⟨R, 9, none⟩ = some (.slice ao qs.length c) ∧ PartsAt D W ao n qs

/-- 'parting$1' by the contract of this text. -/
theorem part_stops (m Br Ba Bb R n a b : Nat) (D : Nat → Prop) (wa wb : List (Int × Int)) (qs : List Part) (w : World)
    (hm : 1 ≤ m) (hla : wa.length ≤ 1048576) (hlb : wb.length ≤ 1048576) (hlq : qs.length ≤ 1048576) (ha : a < n) (hb : b < n) (hD : ∀ b, D b → b < w.heap.size)
    (br : Boxed w Br 26 (.pointer (some ⟨R, 0, none⟩))) (ba : Boxed w Ba 3 (.int .i64 a)) (bb : Boxed w Bb 3 (.int .i64 b)) (hR : Reads D w R n a b wa wb qs) :
    SeqStopsX Fence.wide m Yba.prog 10 #[.pointer (some ⟨Br, 0, none⟩), .pointer (some ⟨Ba, 0, none⟩), .pointer (some ⟨Bb, 0, none⟩)] (fun x : Int × Int => #[winV x]) (KeptOn D) (fun ys => ys = wa ++ wb ++ cuts a b qs) (fun pre => pre <+: wa ++ wb ++ cuts a b qs) (wa.length + wb.length + qs.length) w := fun l J Jx W hW hJ hJx hY h0 => by
  have hk : KeptOn D w W := KeptOn.of_below hW hD
  obtain ⟨Nb, cn, Xa, Xb, dN, dXa, dXb, cN, cXa, cXb, ⟨aoA, cA, cwa, hA⟩, aoB, cB, cwb, hB⟩ := hR.nodes
  obtain ⟨aoP, cP, cqs, hP⟩ := hR.parts
  exact part1_in m l Br Ba Bb R _ n a b Nb Xa Xb cn cA cB cP D aoA aoB aoP wa wb qs J Jx W hm hla hlb hlq ha hb (Nat.le_refl _) hJ hJx hY (fun b hb => Nat.lt_of_lt_of_le (hD b hb) hW.size) hR.dR dN dXa dXb
    (hk.box br (by decide) (by decide)) (hk.box ba (by decide) (by decide)) (hk.box bb (by decide) (by decide))
    ((hk.cell (p := ⟨R, 2, none⟩) hR.dR).trans cN) ((hk.cell (p := ⟨Nb, a, none⟩) dN).trans cXa) ((hk.cell (p := ⟨Nb, b, none⟩) dN).trans cXb)
    ((hk.cell (p := ⟨Xa, 6, none⟩) dXa).trans cwa) ((hk.cell (p := ⟨Xb, 6, none⟩) dXb).trans cwb) ((hk.cell (p := ⟨R, 9, none⟩) hR.dR).trans cqs) (hA.kept hk) (hB.kept hk) (hP.kept hk) h0
end Go.Proofs.Ybulkdjpk.lawS5535AWhole
