/-
  5535A: the law's arguments, opened.
-/
import Derived.Test.YbulkdjpkAS11
import Derived.Deep.Slices
import Derived.ChangeSame
import Derived.SizedLaws
namespace Go.Proofs.Ybulkdjpk.lawS5535AWhole
open Go.RowKit Go.Deep Go.ChangeShapes Go.WideShapes

theorem cells25 : Yba.prog.cellsOf 25 = 1 := by kernel_rfl
theorem cells56 : Yba.prog.cellsOf 56 = 2 := by kernel_rfl
theorem cells67 : Yba.prog.cellsOf 67 = 3 := by kernel_rfl
theorem cells2 : Yba.prog.cellsOf 2 = 1 := by kernel_rfl
theorem cells65 : Yba.prog.cellsOf 65 = 1 := by kernel_rfl
theorem cells3 : Yba.prog.cellsOf 3 = 1 := by kernel_rfl
theorem bytes56 : Yba.prog.bytesOf 56 = 16 := by kernel_rfl

theorem cell_at {W : World} {a : Addr} {v : Value} (h : W.cell? a = some v) : a.block < W.heap.size ∧ a.spot = none := by
  unfold World.cell? at h
  split at h
  · rename_i c _ _ hc
    refine ⟨(Array.getElem?_eq_some_iff.1 hc).1, ?_⟩
    cases hs : a.spot with
    | none => rfl
    | some _ => simp [hs] at h
  · cases h
theorem add_at {a : Addr} (h : a.spot = none) (k : Nat) : a.add k = ⟨a.block, a.off + k, none⟩ := by
  obtain ⟨b, o, s⟩ := a
  cases h
  exact Addr.add_lit ..
theorem addr_at {a : Addr} (h : a.spot = none) : a = ⟨a.block, a.off, none⟩ := by
  obtain ⟨b, o, s⟩ := a
  cases h
  rfl

section
variable {H : Type} {enc : TypeId × Value → H} {W : World} {fuel : Nat} {cs : List Value} {x : DataW H × List MemPlace}

theorem trod_struct3 {P : Program} {base : Nat} {spare : Nat → Bool} {held : Bool} {t : TypeId} {f0 f1 f2 : Field} (ht : P.underlying t = some (.struct #[f0, f1, f2])) (h : DataW.trod enc P W base spare held fuel t cs = some x) :
    ∃ y0 y1 y2 n, cs.length = P.cellsOf t ∧ DataW.trod enc P W base spare held n f0.type ((cs.drop f0.offset).take (P.cellsOf f0.type)) = some y0 ∧
      DataW.trod enc P W base spare held n f1.type ((cs.drop f1.offset).take (P.cellsOf f1.type)) = some y1 ∧ DataW.trod enc P W base spare held n f2.type ((cs.drop f2.offset).take (P.cellsOf f2.type)) = some y2 := by
  obtain ⟨xs, n, _, rfl, hl, hlen, hf⟩ := DataW.trod_struct ht h
  match xs, hlen with
  | [y0, y1, y2], _ => exact ⟨y0, y1, y2, n, hl, by simpa using hf 0 f0 rfl, by simpa using hf 1 f1 rfl, by simpa using hf 2 f2 rfl⟩

theorem win_open (h : DataW.trod enc Yba.prog W 0 (fun _ => true) true fuel 56 cs = some x) : ∃ y : Int × Int, cs = [.int .i64 y.1, .int .i64 y.2] := by
  obtain ⟨y0, y1, n, _, hl, h0, h1⟩ := trod_struct2 Yba.underlying56 h
  rw [cells56] at hl
  simp only [cells2] at h0 h1
  obtain ⟨f, e0, _⟩ := DataW.trod_int Yba.underlying2 h0
  obtain ⟨t, e1, _⟩ := DataW.trod_int Yba.underlying2 h1
  match cs, hl with
  | [u, v], _ =>
    simp at e0 e1
    exact ⟨(f, t), by rw [e0, e1]⟩

theorem part_open (h : DataW.trod enc Yba.prog W 0 (fun _ => true) true fuel 67 cs = some x) :
    ∃ (q : Part) (ao : Option Addr) (c : Nat), cs = [.int .i64 q.1.1, .int .i64 q.1.2, .slice ao q.2.length c] ∧ q.2.length ≤ 9223372036854775807 ∧ IntsAt W ao q.2 := by
  obtain ⟨y0, y1, y2, n, hl, h0, h1, h2⟩ := trod_struct3 Yba.underlying67 h
  rw [cells67] at hl
  simp only [cells2, cells65] at h0 h1 h2
  obtain ⟨f, e0, _⟩ := DataW.trod_int Yba.underlying2 h0
  obtain ⟨t, e1, _⟩ := DataW.trod_int Yba.underlying2 h1
  match cs, hl with
  | [u, v, s], _ =>
    simp at e0 e1 h2
    subst e0
    subst e1
    rcases open_ints Yba.underlying65 Yba.underlying3 cells3 h2 with ⟨hcs, _⟩ | ⟨a, len, cap, zs, hcs, _, hle, hm, hz, _, hcell, _⟩
    · simp at hcs
      subst hcs
      exact ⟨((f, t), []), none, 0, rfl, by simp, fun j hj => absurd hj (by simp)⟩
    · simp at hcs
      subst hcs
      simp only [if_true] at hz
      have hll : (zs.take len).length = len := by simp; omega
      have hmx : maxLen = 9223372036854775807 := by decide
      refine ⟨((f, t), zs.take len), some a, cap, by simp only [hll], by simp only [hll]; omega, fun j hj => ?_⟩
      simp only [hll] at hj
      have hj0 := hcell j (by omega)
      have h00 := hcell 0 (by omega)
      obtain ⟨hb, hs⟩ := cell_at h00
      have hs' : a.spot = none := by simpa [Addr.add] using hs
      have hb' : a.block < W.heap.size := by simpa [Addr.add] using hb
      rw [add_at hs'] at hj0
      refine ⟨a.block, a.off, by rw [← addr_at hs'], hb', hj0.trans ?_⟩
      simp [List.getD, List.getElem?_take_of_lt hj]

theorem wins_open (h : DataW.trod enc Yba.prog W 0 (fun _ => true) true fuel 25 cs = some x) :
    ∃ (ao : Option Addr) (c : Nat) (ws : List (Int × Int)), cs = [.slice ao ws.length c] ∧ WinIn W ao ws ∧ ∀ B : Nat, (∀ n ∈ x.1.weights Yba.prog 25, n ≤ B) → ws.length ≤ B := by
  rcases open_slice Yba.underlying25 h with ⟨rfl, rfl⟩ | ⟨a, len, cap, m, n, D, Pl, rfl, _, hl, _, hm, rfl, hx⟩
  · exact ⟨none, 0, [], rfl, fun j x hx => by simp at hx, fun B _ => Nat.zero_le _⟩
  simp only [if_true] at hm
  subst hm
  obtain ⟨f, hf⟩ := choose_lt (α := Int × Int) (n := len) (p := fun i y => W.cell? (a.add (i * 2)) = some (.int .i64 y.1) ∧ W.cell? ((a.add (i * 2)).add 1) = some (.int .i64 y.2)) (fun i hi => by
    obtain ⟨cs', h1, h2⟩ := hx i (by omega)
    rw [cells56] at h1
    obtain ⟨_, _, hc⟩ := World.cells?_some h1
    obtain ⟨y, rfl⟩ := win_open h2
    exact ⟨y, by have := hc 0 (by omega); simpa [Addr.add] using this, by simpa using hc 1 (by omega)⟩)
  refine ⟨some a, m, (List.range len).map f, by simp, fun j y hy => ?_, fun B hB => ?_⟩
  · rw [List.getElem?_map] at hy
    have hj : j < len := by
      refine Nat.lt_of_not_le fun h => ?_
      rw [List.getElem?_eq_none (by simpa using h)] at hy
      cases hy
    rw [List.getElem?_range hj] at hy
    cases hy
    obtain ⟨hb, hs⟩ := cell_at (hf 0 (by omega)).1
    have hs' : a.spot = none := by simpa [Addr.add] using hs
    have hb' : a.block < W.heap.size := by simpa [Addr.add] using hb
    obtain ⟨k0, k1⟩ := hf j hj
    rw [add_at hs'] at k0 k1
    rw [Addr.add_lit] at k1
    exact ⟨a.block, a.off, by rw [← addr_at hs'], hb', k0, k1⟩
  · have := hB ((((List.range len).map D).length + ((List.range (m - len)).map fun j => D (len + j)).length) * 16) (by simp [DataW.weights, Yba.underlying25, bytes56])
    simp at this
    simp
    omega

theorem mem_weightsAll {P : Program} {e : TypeId} {n : Nat} {d : DataW H} : ∀ {l : List (DataW H)}, d ∈ l → n ∈ d.weights P e → n ∈ DataW.weightsAll P e l
  | d' :: l, hd, hn => by
    simp only [DataW.weightsAll, List.mem_append]
    rcases List.mem_cons.1 hd with rfl | hd
    · exact .inl hn
    · exact .inr (mem_weightsAll hd hn)

theorem crashes_open (h : DataW.trod enc Yba.prog W 0 (fun _ => true) true fuel 22 cs = some x) :
    ∃ (ao : Option Addr) (c : Nat) (css : List (List (Int × Int))), cs = [.slice ao css.length c] ∧ CrashIn W ao css ∧ ∀ B : Nat, (∀ n ∈ x.1.weights Yba.prog 22, n ≤ B) → ∀ (i : Nat) (ws : List (Int × Int)), css[i]? = some ws → ws.length ≤ B := by
  rcases open_slice1 Yba.underlying22 cells25 h with ⟨rfl, rfl⟩ | ⟨a, len, cap, m, n, V, D, Pl, rfl, _, hl, _, hm, rfl, hx⟩
  · exact ⟨none, 0, [], rfl, fun j x hx => by simp at hx, fun B _ i ws h => by simp at h⟩
  simp only [if_true] at hm
  subst hm
  obtain ⟨f, hf⟩ := choose_lt (α := List (Int × Int)) (n := len) (p := fun i ws => ∃ ao c, V i = .slice ao ws.length c ∧ WinIn W ao ws ∧ ∀ B : Nat, (∀ n ∈ (D i).weights Yba.prog 25, n ≤ B) → ws.length ≤ B) (fun i hi => by
    obtain ⟨_, h2⟩ := hx i (by omega)
    obtain ⟨ao, c, ws, e, hw, hB⟩ := wins_open h2
    simp at e
    exact ⟨ws, ao, c, e, hw, hB⟩)
  have key : ∀ (i : Nat) (ws : List (Int × Int)), ((List.range len).map f)[i]? = some ws → i < len ∧ ws = f i := fun i ws hy => by
    rw [List.getElem?_map] at hy
    have hj : i < len := by
      refine Nat.lt_of_not_le fun h => ?_
      rw [List.getElem?_eq_none (by simpa using h)] at hy
      cases hy
    rw [List.getElem?_range hj] at hy
    cases hy
    exact ⟨hj, rfl⟩
  refine ⟨some a, m, (List.range len).map f, by simp, fun i ws hy => ?_, fun B hB i ws hy => ?_⟩
  · obtain ⟨hi, rfl⟩ := key i ws hy
    obtain ⟨hb, hs⟩ := cell_at (hx 0 (by omega)).1
    have hs' : a.spot = none := by simpa [Addr.add] using hs
    have hb' : a.block < W.heap.size := by simpa [Addr.add] using hb
    obtain ⟨ao2, c2, e, hw, _⟩ := hf i hi
    have hc := (hx i (by omega)).1
    rw [add_at hs', e] at hc
    exact ⟨a.block, a.off, by rw [← addr_at hs'], hb', ao2, c2, hc, hw⟩
  · obtain ⟨hi, rfl⟩ := key i ws hy
    obtain ⟨_, _, _, _, hw⟩ := hf i hi
    refine hw B fun n hn => hB n ?_
    simp only [DataW.weights, Yba.underlying22, List.mem_cons, List.mem_append]
    exact .inr (.inl (mem_weightsAll (List.mem_map.2 ⟨i, List.mem_range.2 hi, rfl⟩) hn))

theorem parts_open (h : DataW.trod enc Yba.prog W 0 (fun _ => true) true fuel 23 cs = some x) :
    ∃ (ao : Option Addr) (c : Nat) (qs : List Part), cs = [.slice ao qs.length c] ∧ PartIn W ao qs := by
  rcases open_slice Yba.underlying23 h with ⟨rfl, rfl⟩ | ⟨a, len, cap, m, n, D, Pl, rfl, _, hl, _, hm, rfl, hx⟩
  · exact ⟨none, 0, [], rfl, fun j x hx => by simp at hx⟩
  simp only [if_true] at hm
  subst hm
  obtain ⟨f, hf⟩ := choose_lt (α := Part) (n := len) (p := fun i q => ∃ ao c, W.cell? (a.add (i * 3)) = some (.int .i64 q.1.1) ∧ W.cell? ((a.add (i * 3)).add 1) = some (.int .i64 q.1.2) ∧ W.cell? ((a.add (i * 3)).add 2) = some (.slice ao q.2.length c) ∧ q.2.length ≤ 9223372036854775807 ∧ IntsAt W ao q.2) (fun i hi => by
    obtain ⟨cs', h1, h2⟩ := hx i (by omega)
    rw [cells67] at h1
    obtain ⟨_, _, hc⟩ := World.cells?_some h1
    obtain ⟨q, ao, c, rfl, hq, hI⟩ := part_open h2
    exact ⟨q, ao, c, by have := hc 0 (by omega); simpa [Addr.add] using this, by simpa using hc 1 (by omega), by simpa using hc 2 (by omega), hq, hI⟩)
  refine ⟨some a, m, (List.range len).map f, by simp, fun j y hy => ?_⟩
  rw [List.getElem?_map] at hy
  have hj : j < len := by
    refine Nat.lt_of_not_le fun h => ?_
    rw [List.getElem?_eq_none (by simpa using h)] at hy
    cases hy
  rw [List.getElem?_range hj] at hy
  cases hy
  obtain ⟨_, _, k00, _⟩ := hf 0 (by omega)
  obtain ⟨hb, hs⟩ := cell_at k00
  have hs' : a.spot = none := by simpa [Addr.add] using hs
  have hb' : a.block < W.heap.size := by simpa [Addr.add] using hb
  obtain ⟨ao2, c2, k0, k1, k2, hq, hI⟩ := hf j hj
  rw [add_at hs'] at k0 k1 k2
  rw [Addr.add_lit] at k1 k2
  exact ⟨hq, a.block, a.off, by rw [← addr_at hs'], hb', ao2, c2, k0, k1, k2, hI⟩
end
end Go.Proofs.Ybulkdjpk.lawS5535AWhole
