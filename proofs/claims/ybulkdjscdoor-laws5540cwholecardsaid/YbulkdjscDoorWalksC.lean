import Derived.Test.YbulkdjscDoorWalksB
import Derived.Deep.OwnRows
import Derived.Laws.CopyOwn
import Derived.Deep.DeepCutAuto
namespace Go.Proofs.YbulkdjscDoor.lawS5540CWhole
open Go.RowKit Go.Deep

theorem info23 : (Ybad.prog.info? 23).map (fun i => (i.zero, i.size, i.bytes)) = some (some (.int .u64 0), 1, 8) := by kernel_rfl

/-- Limb j of the magnitude: the argument's, brought below the base. -/
def mz (zs : List Int) (j : Nat) : Int := zs.getD j 0 % 10000000000000000000
/-- The magnitude's cells when k of them have been written. -/
def mf (zs : List Int) (k j : Nat) : Value := .int .u64 (if j < k then mz zs j else 0)

theorem mf_step (zs : List Int) (k j : Nat) : (if j = k then Value.int .u64 (mz zs k) else mf zs k j) = mf zs (k + 1) j := by
  unfold mf
  by_cases h : j = k
  · subst h; rw [if_pos rfl, if_pos (by omega)]
  · rw [if_neg h]
    by_cases h2 : j < k
    · rw [if_pos h2, if_pos (by omega)]
    · rw [if_neg h2, if_neg (by omega)]

def sliceLen : Value → Nat
  | .slice _ n _ => n
  | _ => 0

theorem cell_lt {w : World} {b o : Nat} {v : Value} (h : w.cell? ⟨b, o, none⟩ = some v) : b < w.heap.size := by
  rcases Nat.lt_or_ge b w.heap.size with h' | h'
  · exact h'
  · exfalso; simp [World.cell?, Array.getElem?_eq_none h'] at h

theorem PowsAt.below {w w' : World} (h : PowsAt w) (hb : 0 < w.heap.size) (hB : Below w.heap.size w w') : PowsAt w' := fun k hk => (hB.cell (p := ⟨0, k, none⟩) hb).trans (h k hk)
theorem PowsAt.alloc {w : World} (h : PowsAt w) (hb : 0 < w.heap.size) (o : Obj) : PowsAt (w.alloc o) := fun k hk => by rw [World.cell?_alloc_past _ _ _ hb]; exact h k hk

theorem size23 : (Ybad.prog.info? 23).map (·.size) = some 1 := by kernel_rfl
/-- The magnitude's first n limbs, as cells. -/
def mcs (zs : List Int) (n : Nat) : List Value := (List.range n).map fun j => .int .u64 (mz zs j)
theorem mcs_length (zs : List Int) (n : Nat) : (mcs zs n).length = n := by simp [mcs]
theorem mcs_at (zs : List Int) (n j : Nat) (h : j < n) : (mcs zs n)[j]? = some (.int .u64 (mz zs j)) := by simp [mcs, h]
theorem mcs_one (zs : List Int) (n : Nat) : ∀ v ∈ mcs zs n, v.oneCell' = true := by
  intro v hv
  simp only [mcs, List.mem_map] at hv
  obtain ⟨j, _, rfl⟩ := hv
  rfl
theorem mf_at (zs : List Int) (k j : Nat) (h : j < k) : mf zs k j = .int .u64 (mz zs j) := by unfold mf; rw [if_pos h]
theorem mcs_src {wr : World} {N k i : Nat} (zs : List Int) (hrow : wr.rowIs N 23 k (mf zs k)) (hi : i + 1 ≤ k) (o1 o2 : Obj) :
    ∀ j v, (mcs zs (i + 1))[j]? = some v → ((wr.alloc o1).alloc o2).cell? ((⟨N, 0, none⟩ : Addr).add j) = some v := by
  intro j v hj
  have hjl : j < i + 1 := by
    have := (List.getElem?_eq_some_iff.1 hj).1
    rwa [mcs_length] at this
  rw [mcs_at zs _ j hjl] at hj
  have := ((hrow.alloc o1).alloc o2).cell (i := j) (by omega)
  rw [mf_at zs k j (by omega)] at this
  rw [← hj, Addr.add_lit, Nat.zero_add]
  exact this
theorem copied_row {w : World} {g n : Nat} {zs : List Int} (h : w.heap[g]? = some (.cells (splice (madeCells #[.int .u64 0] n).toList 0 (mcs zs n)).toArray 23 (0, 0))) :
    w.rowIs g 23 n (fun j => .int .u64 (mz zs j)) := by
  have hs : splice (madeCells #[.int .u64 0] n).toList 0 (mcs zs n) = mcs zs n := by
    unfold splice
    rw [List.drop_eq_nil_of_le (by simp [mcs_length, size_madeCells])]
    simp
  rw [hs] at h
  exact ⟨_, h, by simp [mcs_length], fun j hj => by simpa using mcs_at zs n j hj⟩

/-- The world in which 'x' holds the limbs' road: what it holds. -/
structure Long (w W : World) (N X L k n : Nat) (sg s : Int) (zs : List Int) : Prop where
  x0 : W.cell? ⟨X, 0, none⟩ = some (.int .i64 sg)
  x1 : W.cell? ⟨X, 1, none⟩ = some (.pointer (some ⟨L, 0, none⟩))
  x2 : W.cell? ⟨X, 2, none⟩ = some (.int .i64 s)
  lp : W.cell? ⟨L, 0, none⟩ = some (.slice (some ⟨N, 0, none⟩) n k)
  row : W.rowIs N 23 k (mf zs k)
  keep : W.rowIs (X + 1) 23 n (fun j => .int .u64 (mz zs j))
  bel : Below w.heap.size w W
  pows : PowsAt W
theorem Long.lts {w W : World} {N X L k n : Nat} {sg s : Int} {zs : List Int} (h : Long w W N X L k n sg s zs) : N < W.heap.size ∧ X < W.heap.size ∧ L < W.heap.size ∧ X + 1 < W.heap.size := ⟨h.row.lt, cell_lt h.x0, cell_lt h.lp, h.keep.lt⟩
theorem Long.of_below {w W W' : World} {N X L k n : Nat} {sg s : Int} {zs : List Int} (h : Long w W N X L k n sg s zs) (_hb : 0 < w.heap.size) (hB : Below W.heap.size W W') : Long w W' N X L k n sg s zs := by
  obtain ⟨hN, hX, hL, hK⟩ := h.lts
  have hBw : Below w.heap.size w W' := h.bel.trans (hB.mono h.bel.size)
  exact ⟨(hB.cell (p := ⟨X, 0, none⟩) hX).trans h.x0, (hB.cell (p := ⟨X, 1, none⟩) hX).trans h.x1, (hB.cell (p := ⟨X, 2, none⟩) hX).trans h.x2, (hB.cell (p := ⟨L, 0, none⟩) hL).trans h.lp,
    h.row.of_block (hB.block _ hN), h.keep.of_block (hB.block _ hK), hBw, h.pows.below (by have := h.bel.size; omega) hB⟩
theorem long_of {w w2 : World} {N X k n : Nat} {sg s : Int} {zs : List Int} (hN : N < X) (hwX : w.heap.size ≤ X) (hb : 0 < w.heap.size)
    (hx0 : w2.cell? ⟨X, 0, none⟩ = some (.int .i64 0)) (hx1 : w2.cell? ⟨X, 1, none⟩ = some (.pointer none)) (hx2 : w2.cell? ⟨X, 2, none⟩ = some (.int .i64 0))
    (hR : w2.rowIs N 23 k (mf zs k)) (hK : w2.rowIs (X + 1) 23 n (fun j => .int .u64 (mz zs j))) (hB : Below w.heap.size w w2) (hp : PowsAt w) :
    Long w ((((w2.setCell ⟨X, 0, none⟩ (.int .i64 sg)).setCell ⟨X, 1, none⟩ (.pointer (some ⟨w2.heap.size, 0, none⟩))).setCell ⟨X, 2, none⟩ (.int .i64 s)).alloc (.cells #[.slice (some ⟨N, 0, none⟩) n k] 22)) N X w2.heap.size k n sg s zs := by
  have hX : X < w2.heap.size := cell_lt hx0
  have hB3 : Below w.heap.size w (((w2.setCell ⟨X, 0, none⟩ (.int .i64 sg)).setCell ⟨X, 1, none⟩ (.pointer (some ⟨w2.heap.size, 0, none⟩))).setCell ⟨X, 2, none⟩ (.int .i64 s)) := ((hB.setCell hwX _).setCell hwX _).setCell hwX _
  have hB4 := hB3.alloc (by simp [World.setCell]; have := hB.size; omega) (.cells #[.slice (some ⟨N, 0, none⟩) n k] 22)
  refine ⟨?_, ?_, ?_, ?_, ?_, ?_, hB4, hp.below hb hB4⟩
  · simp [go_sem, World.cell?_alloc_past, hX, hx0]
  · simp [go_sem, World.cell?_alloc_past, hX, hx1]
  · simp [go_sem, World.cell?_alloc_past, hX, hx2]
  · simp [go_sem]
  · exact (((hR.setOther (by simp; omega) _).setOther (by simp; omega) _).setOther (by simp; omega) _).alloc _
  · exact (((hK.setOther (by simp) _).setOther (by simp) _).setOther (by simp) _).alloc _

set_option maxRecDepth 100000 in
set_option maxHeartbeats 1000000 in
theorem law_any (small sc : Int) (ao : Option Addr) (len cap : Nat) (zs : List Int) (w : World) (hp : PowsAt w) (hb : 0 < w.heap.size)
    (h0 : -9223372036854775808 ≤ small) (h1 : small ≤ 9223372036854775807) (hs0 : -9223372036854775808 ≤ sc) (hs1 : sc ≤ 9223372036854775807) (hlen : len ≤ 9223372036854775807)
    (hz : ∀ i, i < len → ∃ b o, ao = some ⟨b, o, none⟩ ∧ w.cell? ⟨b, o + i, none⟩ = some (.int .u64 (zs.getD i 0)))
    (hzw : ∀ i, 0 ≤ zs.getD i 0 ∧ zs.getD i 0 ≤ 18446744073709551615) :
    Calls Ybad.prog 3 #[.int .i64 small, .slice ao len cap, .int .i64 sc] w fun e w' => e = .returned (.bool true) ∧ Below w.heap.size w w' := by
  by_cases hbig : 1048576 < (len : Int)
  · go_enter Ybad.func3, Ybad.ntmps3
    go_wp2
    go_ret
    exact ⟨rfl, Below.refl _ _⟩
  · have hmk := run_make_row' (P := Ybad.prog) 22 23 (.int .u64 0) 8 Ybad.underlying22 info23 rfl .i64 .i64 len (by omega) (by omega)
    have HZ : Hid (∀ i, i < len → ∃ b o, ao = some ⟨b, o, none⟩ ∧ w.cell? ⟨b, o + i, none⟩ = some (.int .u64 (zs.getD i 0))) := hz
    have HW : Hid (∀ i, 0 ≤ zs.getD i 0 ∧ zs.getD i 0 ≤ 18446744073709551615) := hzw
    clear hz hzw
    go_enter Ybad.func3, Ybad.ntmps3
    go_upto_if 25 with fail
    go_cut [7] from 24 to 28 (fun s7 wc => ∃ s : Int, s7 = .int .i64 s ∧ 0 ≤ s ∧ s ≤ 9223372036854775807 ∧ w = wc)
    case first =>
      by_cases hneg : sc < 0
      · go_wp2_with fail
        go_meet
        exact ⟨_, rfl, by omega, by omega, rfl⟩
      · go_wp2_with fail
        go_meet
        exact ⟨_, rfl, by omega, by omega, rfl⟩
    case rest =>
      obtain ⟨s, rfl, hs2, hs3, rfl⟩ := hcut
      go_wp2_with fail
      go_loopw [34] (fun i wr => ∃ k : Nat, k ≤ len ∧ i = .int .i64 k ∧ wr.rowIs w.heap.size 23 len (mf zs k) ∧ Below w.heap.size w wr) (fun i _ => len - (intOf i).toNat)
      case atStart => exact ⟨0, Nat.zero_le _, rfl, (World.rowIs_made w (.int .u64 0) len 23).congr (fun i _ => by simp [mf]), (Below.refl _ _).alloc (Nat.le_refl _) _⟩
      case round =>
        obtain ⟨k, hk, rfl, hrow, hB⟩ := hrel
        by_cases hlt : k < len
        · obtain ⟨b, o, rfl, hc⟩ := HZ.out k hlt
          have hz := HW.out k
          have hcr := (hB.cell (p := ⟨b, o + k, none⟩) (cell_lt hc)).trans hc
          have hold := hrow.cell hlt
          have hfr := hrow.frozen k
          have HR := hrow.set k (.int .u64 (mz zs k))
          have HM : Hid (mz zs k = zs.getD k 0 % 10000000000000000000) := rfl
          have HS : Hid ((wr.setCell ⟨w.heap.size, k, none⟩ (.int .u64 (mz zs k))).rowIs w.heap.size 23 len (mf zs (k + 1))) := HR.congr (fun j _ => mf_step zs k j)
          have HB2 : Hid (Below w.heap.size w (wr.setCell ⟨w.heap.size, k, none⟩ (.int .u64 (mz zs k)))) := hB.setCell (Nat.le_refl _) _
          obtain ⟨z, hzd⟩ : ∃ z, zs.getD k 0 = z := ⟨_, rfl⟩
          rw [hzd] at hcr hz HM
          generalize mf zs k k = v0 at hold
          generalize mz zs k = mv at HM HS HB2
          clear hc HR hrow hB hzd
          go_wp2
          go_roundw
          case rel => exact ⟨k + 1, by omega, by go_num, by rw [← HM.out]; exact HS.out, by rw [← HM.out]; exact HB2.out⟩
          case measure => simp [intOf]; omega
        · obtain rfl : k = len := by omega
          have HROW : Hid (wr.rowIs w.heap.size 23 k (mf zs k)) := hrow
          have HBEL : Hid (Below w.heap.size w wr) := hB
          have hsz : w.heap.size < wr.heap.size := hrow.lt
          clear hrow hB HZ hmk
          go_wp2_with fail
          go_loop [8] (fun m => ∃ j : Nat, j ≤ k ∧ m = .slice (some ⟨w.heap.size, 0, none⟩) j k) (fun m => sliceLen m)
          case atStart => exact ⟨k, Nat.le_refl _, rfl⟩
          case round =>
            obtain ⟨j, hj, rfl⟩ := hrel
            by_cases hj0 : j = 0
            · subst hj0
              have HP : Hid (PowsAt wr) := hp.below hb HBEL.out
              have hd := dgz_le small.natAbs (by omega)
              have hPA : ∀ o, PowsAt (wr.alloc o) := fun o => HP.out.alloc (by omega) o
              have HPA : Hid (∀ o, PowsAt (wr.alloc o)) := hPA
              clear hPA
              by_cases hneg : small < 0
              · by_cases hw0 : (dgz small.natAbs : Int) - s < 0
                all_goals
                  go_wp2_with (first
                    | (go_at_call 4; refine (digits_any _ _ (by omega) (by omega)).mono ?_; rw [show (-(small + 1) + 1).toNat = small.natAbs from by omega]; rintro e w' ⟨rfl, rfl⟩)
                    | (go_at_call 5; refine (whole_small small s _ (HPA.out _) (by simp) h0 h1 hs2 hs3).mono ?_; rintro e w' ⟨rfl, hB5⟩))
                  go_ret
                  exact ⟨rfl, (HBEL.out.alloc (Nat.le_of_lt hsz) _).trans (hB5.mono (by simp; omega))⟩
              · by_cases hw0 : (dgz small.natAbs : Int) - s < 0
                all_goals
                  go_wp2_with (first
                    | (go_at_call 4; refine (digits_any _ _ (by omega) (by omega)).mono ?_; rw [show small.toNat = small.natAbs from by omega]; rintro e w' ⟨rfl, rfl⟩)
                    | (go_at_call 5; refine (whole_small small s _ (HPA.out _) (by simp) h0 h1 hs2 hs3).mono ?_; rintro e w' ⟨rfl, hB5⟩))
                  go_ret
                  exact ⟨rfl, (HBEL.out.alloc (Nat.le_of_lt hsz) _).trans (hB5.mono (by simp; omega))⟩
            · obtain ⟨i, rfl⟩ : ∃ i, j = i + 1 := ⟨j - 1, by omega⟩
              have hc := HROW.out.cell (i := i) (by omega)
              have hmf : mf zs k i = .int .u64 (mz zs i) := by unfold mf; rw [if_pos (by omega)]
              rw [hmf] at hc
              clear hmf
              by_cases h00 : mz zs i = 0
              · rw [h00] at hc
                clear h00
                go_wp2
                go_round
                case rel => exact ⟨i, by omega, rfl⟩
                case measure => simp [sliceLen]
              · have hz1 : 1 ≤ mz zs i ∧ mz zs i < 10000000000000000000 := by
                  unfold mz at h00 ⊢
                  omega
                obtain ⟨top, htop⟩ : ∃ top : Nat, mz zs i = (top : Int) := ⟨(mz zs i).toNat, by omega⟩
                have HMK : Hid (∀ W : World, (Instr.makeSlice 22 (.int .i64 ((i : Int) + 1)) (.int .i64 ((i : Int) + 1))).run Ybad.prog W = .ok (.slice (some ⟨W.heap.size, 0, none⟩) (i + 1) (i + 1)) (W.alloc (.cells (madeCells #[.int .u64 0] (i + 1)) 23))) := fun W => by
                  have := run_make_row' (P := Ybad.prog) 22 23 (.int .u64 0) 8 Ybad.underlying22 info23 rfl .i64 .i64 (i + 1) (by omega) (by omega) W
                  rw [show ((i + 1 : Nat) : Int) = (i : Int) + 1 from by omega] at this
                  exact this
                have hmk2 := HMK.out
                rw [htop] at hc h00
                have htb : 1 ≤ top ∧ top < 10000000000000000000 := by omega
                have htz : ((top : Int) == 0) = false := by simp; omega
                clear hz1
                have HSRC := mcs_src zs HROW.out hj (.cells #[.int .i64 0, .pointer none, .int .i64 0] 26) (.cells (madeCells #[.int .u64 0] (i + 1)) 23)
                have HSRC' : Hid (∀ j v, (mcs zs (i + 1))[j]? = some v → ((wr.alloc (.cells #[.int .i64 0, .pointer none, .int .i64 0] 26)).alloc (.cells (madeCells #[.int .u64 0] (i + 1)) 23)).cell? ((⟨w.heap.size, 0, none⟩ : Addr).add j) = some v) := HSRC
                clear HSRC
                have HG : Hid (((wr.alloc (.cells #[.int .i64 0, .pointer none, .int .i64 0] 26)).alloc (.cells (madeCells #[.int .u64 0] (i + 1)) 23)).heap[wr.heap.size + 1]? = some (.cells (madeCells #[.int .u64 0] (i + 1)).toList.toArray 23 (0, 0))) := by
                  have := blk_alloc_new (wr.alloc (.cells #[.int .i64 0, .pointer none, .int .i64 0] 26)) (.cells (madeCells #[.int .u64 0] (i + 1)) 23)
                  rw [World.size_alloc] at this
                  rw [Array.toArray_toList]
                  exact this
                have HFIT : Hid (0 + (mcs zs (i + 1)).length ≤ (madeCells #[.int .u64 0] (i + 1)).toList.length) := by
                  show 0 + (mcs zs (i + 1)).length ≤ (madeCells #[.int .u64 0] (i + 1)).toList.length
                  simp [mcs_length, size_madeCells]
                have HN : Hid ((mcs zs (i + 1)).length = Nat.min (i + 1) (i + 1)) := (mcs_length zs (i + 1)).trans (Nat.min_self _).symm
                go_wp2_with (refine wpList_copy_splice rfl (.tmp 84) (.tmp 85) 22 22 rfl 23 Ybad.underlying22 size23 _ _ _ _ _ _ rfl rfl (wr.heap.size + 1) 0 (madeCells #[.int .u64 0] (i + 1)).toList 23 HG.out (mcs zs (i + 1)) HN.out (fun _ => ⟨rfl, _, rfl, HSRC'.out⟩) HFIT.out (mcs_one _ _) (wr.heap.size + 1) (wr.alloc (.cells #[.int .i64 0, .pointer none, .int .i64 0] 26)) ((Below.refl _ _).alloc (by simp) _) (Nat.le_refl _) ?_)
                intro w2 HK2 hB2
                have HKR : Hid (w2.rowIs (wr.heap.size + 1) 23 (i + 1) (fun j => .int .u64 (mz zs j))) := copied_row HK2.out
                have HR2 : Hid (w2.rowIs w.heap.size 23 k (mf zs k)) := (HROW.out.alloc (.cells #[.int .i64 0, .pointer none, .int .i64 0] 26)).of_block (hB2.block _ (by omega))
                have hc2 : w2.cell? ⟨w.heap.size, i, none⟩ = some (.int .u64 (top : Int)) := by
                  have := HR2.out.cell (i := i) (by omega)
                  rw [mf_at zs k i (by omega), htop] at this
                  exact this
                have hx0 : w2.cell? ⟨wr.heap.size, 0, none⟩ = some (.int .i64 0) := (hB2.cell (p := ⟨wr.heap.size, 0, none⟩) (by simp)).trans (by simp [go_sem])
                have hx1 : w2.cell? ⟨wr.heap.size, 1, none⟩ = some (.pointer none) := (hB2.cell (p := ⟨wr.heap.size, 1, none⟩) (by simp)).trans (by simp [go_sem])
                have hx2 : w2.cell? ⟨wr.heap.size, 2, none⟩ = some (.int .i64 0) := (hB2.cell (p := ⟨wr.heap.size, 2, none⟩) (by simp)).trans (by simp [go_sem])
                have hf0 : w2.frozen? ⟨wr.heap.size, 0, none⟩ = false := (hB2.frozen (p := ⟨wr.heap.size, 0, none⟩) (by simp)).trans (by simp [go_sem])
                have hf1 : w2.frozen? ⟨wr.heap.size, 1, none⟩ = false := (hB2.frozen (p := ⟨wr.heap.size, 1, none⟩) (by simp)).trans (by simp [go_sem])
                have hf2 : w2.frozen? ⟨wr.heap.size, 2, none⟩ = false := (hB2.frozen (p := ⟨wr.heap.size, 2, none⟩) (by simp)).trans (by simp [go_sem])
                have hsz2 : wr.heap.size + 1 < w2.heap.size := HKR.out.lt
                have hsz3 : wr.heap.size < w2.heap.size := by omega
                have hsz4 : w.heap.size < w2.heap.size := by omega
                have hne1 : ¬ w.heap.size = wr.heap.size := by omega
                have HB2' : Hid (Below w.heap.size w w2) := (HBEL.out.alloc (Nat.le_of_lt hsz) _).trans (hB2.mono (by omega))
                have HP2 : Hid (PowsAt w2) := hp.below hb HB2'.out
                clear hB2 HG HFIT HN HSRC' hmk2 HMK HROW HK2 hc
                have HLONG : Hid (∀ sg : Int, Long w ((((w2.setCell ⟨wr.heap.size, 0, none⟩ (.int .i64 sg)).setCell ⟨wr.heap.size, 1, none⟩ (.pointer (some ⟨w2.heap.size, 0, none⟩))).setCell ⟨wr.heap.size, 2, none⟩ (.int .i64 s)).alloc (.cells #[.slice (some ⟨w.heap.size, 0, none⟩) (i + 1) k] 22)) w.heap.size wr.heap.size w2.heap.size k (i + 1) sg s zs) :=
                  fun sg => long_of hsz (Nat.le_of_lt hsz) hb hx0 hx1 hx2 HR2.out HKR.out HB2'.out hp
                by_cases hneg : small < 0
                · have HL := HLONG.out (-1)
                  by_cases hw0 : (i : Int) * 19 + dgz top - s < 0
                  all_goals
                    go_wp2_with fail
                    have HL3 := HL
                    generalize ((((w2.setCell ⟨wr.heap.size, 0, none⟩ (.int .i64 (-1))).setCell ⟨wr.heap.size, 1, none⟩ (.pointer (some ⟨w2.heap.size, 0, none⟩))).setCell ⟨wr.heap.size, 2, none⟩ (.int .i64 s)).alloc (.cells #[.slice (some ⟨w.heap.size, 0, none⟩) (i + 1) k] 22)) = W3 at HL3 ⊢
                    clear HL HLONG hx0 hx1 hx2 hf0 hf1 hf2 HR2 HKR HB2' HP2 hc2
                    have hd := dgz_le top (by omega)
                    have e0 := HL3.x0
                    have e1 := HL3.x1
                    have e2 := HL3.x2
                    refine (digits_any _ _ (by omega) (by omega)).mono ?_
                    rw [Int.toNat_natCast]
                    rintro e w' ⟨rfl, hw'⟩
                    obtain rfl := hw'.symm
                    go_wp2_with fail
                    have hct := HL3.row.cell (i := i) (by omega)
                    rw [mf_at zs k i (by omega), htop] at hct
                    refine (whole_long (-1) s w2.heap.size w.heap.size (i + 1) k top W3 HL3.pows (by have := HL3.lts; omega) hs2 hs3 HL3.lp HL3.lts.2.2.1 HL3.lts.1 (by omega) (by omega) hct htb.1 htb.2).mono ?_
                    rintro e w5 ⟨rfl, hB5⟩
                    have HL5 := HL3.of_below hb hB5
                    clear e0 e1 e2 hct HL3 hB5
                    have e1 := HL5.x1
                    have e3 := HL5.lp
                    go_wp2_with fail
                    go_loopw [131] (fun t wl => ∃ j : Nat, j ≤ i + 1 ∧ t = .int .i64 j ∧ ∃ q, w5.drewN q = wl) (fun t _ => i + 1 - (intOf t).toNat)
                    case atStart => exact ⟨0, Nat.zero_le _, rfl, 0, rfl⟩
                    case round =>
                      obtain ⟨j, hj1, rfl, q, rfl⟩ := hrel
                      by_cases hjl : j < i + 1
                      · have cN := HL5.row.cell (i := j) (by omega)
                        rw [mf_at zs k j (by omega)] at cN
                        have cK := HL5.keep.cell (i := j) hjl
                        generalize mz zs j = z at cN cK
                        go_wp2_with fail
                        go_quiet (fail)
                        go_wp2
                        go_roundw
                        case rel => exact ⟨j + 1, by omega, by go_num, _, rfl⟩
                        case measure => simp [intOf]; omega
                      · go_wp2
                        go_ret
                        exact ⟨rfl, below_drewN HL5.bel _⟩
                · have HL := HLONG.out 1
                  by_cases hw0 : (i : Int) * 19 + dgz top - s < 0
                  all_goals
                    go_wp2_with fail
                    have HL3 := HL
                    generalize ((((w2.setCell ⟨wr.heap.size, 0, none⟩ (.int .i64 1)).setCell ⟨wr.heap.size, 1, none⟩ (.pointer (some ⟨w2.heap.size, 0, none⟩))).setCell ⟨wr.heap.size, 2, none⟩ (.int .i64 s)).alloc (.cells #[.slice (some ⟨w.heap.size, 0, none⟩) (i + 1) k] 22)) = W3 at HL3 ⊢
                    clear HL HLONG hx0 hx1 hx2 hf0 hf1 hf2 HR2 HKR HB2' HP2 hc2
                    have hd := dgz_le top (by omega)
                    have e0 := HL3.x0
                    have e1 := HL3.x1
                    have e2 := HL3.x2
                    refine (digits_any _ _ (by omega) (by omega)).mono ?_
                    rw [Int.toNat_natCast]
                    rintro e w' ⟨rfl, hw'⟩
                    obtain rfl := hw'.symm
                    go_wp2_with fail
                    have hct := HL3.row.cell (i := i) (by omega)
                    rw [mf_at zs k i (by omega), htop] at hct
                    refine (whole_long 1 s w2.heap.size w.heap.size (i + 1) k top W3 HL3.pows (by have := HL3.lts; omega) hs2 hs3 HL3.lp HL3.lts.2.2.1 HL3.lts.1 (by omega) (by omega) hct htb.1 htb.2).mono ?_
                    rintro e w5 ⟨rfl, hB5⟩
                    have HL5 := HL3.of_below hb hB5
                    clear e0 e1 e2 hct HL3 hB5
                    have e1 := HL5.x1
                    have e3 := HL5.lp
                    go_wp2_with fail
                    go_loopw [131] (fun t wl => ∃ j : Nat, j ≤ i + 1 ∧ t = .int .i64 j ∧ ∃ q, w5.drewN q = wl) (fun t _ => i + 1 - (intOf t).toNat)
                    case atStart => exact ⟨0, Nat.zero_le _, rfl, 0, rfl⟩
                    case round =>
                      obtain ⟨j, hj1, rfl, q, rfl⟩ := hrel
                      by_cases hjl : j < i + 1
                      · have cN := HL5.row.cell (i := j) (by omega)
                        rw [mf_at zs k j (by omega)] at cN
                        have cK := HL5.keep.cell (i := j) hjl
                        generalize mz zs j = z at cN cK
                        go_wp2_with fail
                        go_quiet (fail)
                        go_wp2
                        go_roundw
                        case rel => exact ⟨j + 1, by omega, by go_num, _, rfl⟩
                        case measure => simp [intOf]; omega
                      · go_wp2
                        go_ret
                        exact ⟨rfl, below_drewN HL5.bel _⟩
end Go.Proofs.YbulkdjscDoor.lawS5540CWhole
