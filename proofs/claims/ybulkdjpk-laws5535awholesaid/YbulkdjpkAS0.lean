/-
  5535A: the law cut into declarations: the code taken off the function by position, the input, small helpers.
-/
import Derived.Test.YbulkdjpkARel2
import Derived.Test.YbulkdjpkASeq
import Derived.Deep.OwnRows
import Derived.WalkSpells
import Derived.Deep.AppendLies
import Derived.Maps.AppendAt
import Derived.Deep.DeepCutAuto
import Derived.Deep.RegionLaw
import Derived.Deep.RegionHeld3
namespace Go.Proofs.Ybulkdjpk.lawS5535AWhole
open Go.RowKit Go.Deep

/-- The windows of an input's slice. -/
def WinIn (w : World) (ao : Option Addr) (ws : List (Int × Int)) : Prop := ∀ (j : Nat) (x : Int × Int), ws[j]? = some x → ∃ b o, ao = some ⟨b, o, none⟩ ∧ b < w.heap.size ∧ w.cell? ⟨b, o + j * 2, none⟩ = some (.int .i64 x.1) ∧ w.cell? ⟨b, o + j * 2 + 1, none⟩ = some (.int .i64 x.2)
/-- The slices of windows. -/
def CrashIn (w : World) (ao : Option Addr) (css : List (List (Int × Int))) : Prop := ∀ (i : Nat) (ws : List (Int × Int)), css[i]? = some ws → ∃ b o, ao = some ⟨b, o, none⟩ ∧ b < w.heap.size ∧ ∃ ao2 c2, w.cell? ⟨b, o + i, none⟩ = some (.slice ao2 ws.length c2) ∧ WinIn w ao2 ws
/-- The partitions of the input. -/
def PartIn (w : World) (ao : Option Addr) (qs : List Part) : Prop := ∀ (j : Nat) (q : Part), qs[j]? = some q → q.2.length ≤ 9223372036854775807 ∧ ∃ b o, ao = some ⟨b, o, none⟩ ∧ b < w.heap.size ∧ ∃ ao2 c2, w.cell? ⟨b, o + j * 3, none⟩ = some (.int .i64 q.1.1) ∧ w.cell? ⟨b, o + j * 3 + 1, none⟩ = some (.int .i64 q.1.2) ∧
  w.cell? ⟨b, o + j * 3 + 2, none⟩ = some (.slice ao2 q.2.length c2) ∧ IntsAt w ao2 q.2

theorem WinIn.below {w w' : World} {ao : Option Addr} {ws : List (Int × Int)} (h : WinIn w ao ws) (hB : Below w.heap.size w w') : WinIn w' ao ws := fun j x hx => by
  obtain ⟨b, o, e, hb, h1, h2⟩ := h j x hx
  exact ⟨b, o, e, Nat.lt_of_lt_of_le hb hB.size, (hB.cell (p := ⟨b, o + j * 2, none⟩) hb).trans h1, (hB.cell (p := ⟨b, o + j * 2 + 1, none⟩) hb).trans h2⟩
theorem CrashIn.below {w w' : World} {ao : Option Addr} {css : List (List (Int × Int))} (h : CrashIn w ao css) (hB : Below w.heap.size w w') : CrashIn w' ao css := fun i ws hws => by
  obtain ⟨b, o, e, hb, ao2, c2, h1, h2⟩ := h i ws hws
  exact ⟨b, o, e, Nat.lt_of_lt_of_le hb hB.size, ao2, c2, (hB.cell (p := ⟨b, o + i, none⟩) hb).trans h1, h2.below hB⟩
theorem ints_below {w w' : World} {ao : Option Addr} {xs : List Int} (h : IntsAt w ao xs) (hB : Below w.heap.size w w') : IntsAt w' ao xs := fun j hj => by
  obtain ⟨b, o, e, hb, hc⟩ := h j hj
  exact ⟨b, o, e, Nat.lt_of_lt_of_le hb hB.size, (hB.cell (p := ⟨b, o + j, none⟩) hb).trans hc⟩
theorem PartIn.below {w w' : World} {ao : Option Addr} {qs : List Part} (h : PartIn w ao qs) (hB : Below w.heap.size w w') : PartIn w' ao qs := fun j q hq => by
  obtain ⟨hl, b, o, e, hb, ao2, c2, h0, h1, h2, hx⟩ := h j q hq
  exact ⟨hl, b, o, e, Nat.lt_of_lt_of_le hb hB.size, ao2, c2, (hB.cell (p := ⟨b, o + j * 3, none⟩) hb).trans h0, (hB.cell (p := ⟨b, o + j * 3 + 1, none⟩) hb).trans h1, (hB.cell (p := ⟨b, o + j * 3 + 2, none⟩) hb).trans h2, ints_below hx hB⟩
theorem info3 : (Yba.prog.info? 3).map (fun i => (i.zero, i.size, i.bytes)) = some (some (.int .i64 0), 1, 8) := by kernel_rfl
theorem info70 : (Yba.prog.info? 70).map (fun i => (i.zero, i.size, i.bytes)) = some (some (.agg #[.int .i64 0, .int .i64 0, .slice none 0 0]), 3, 40) := by kernel_rfl
/-- The groups' row when ii of its cells have been written. -/
def gf (gs : List Int) (ii j : Nat) : Value := .int .i64 (if j < ii then grp gs j else 0)
theorem gf_step (gs : List Int) (ii j : Nat) : (if j = ii then Value.int .i64 (grp gs ii) else gf gs ii j) = gf gs (ii + 1) j := by
  unfold gf
  by_cases h : j = ii
  · subst h; simp
  · rw [if_neg h]
    by_cases h2 : j < ii
    · rw [if_pos h2, if_pos (by omega)]
    · rw [if_neg h2, if_neg (by omega)]
theorem group_step {wp wr : World} {k G : Nat} {gs : List Int} {ii : Nat} {cs : Array Value} (hrow : wr.rowIs G 3 k (gf gs ii)) (hbox : wr.heap[wp.heap.size]? = some (.cells cs 67 (0, 0))) (hB : Below wp.heap.size wp wr) (o : Obj) (qd : Nat) (i2 : Nat) (hG : wp.heap.size + 1 = G := by rfl) (hi2 : i2 = ii := by rfl) :
    (((wr.alloc o).drewN qd).setCell ⟨G, i2, none⟩ (.int .i64 (grp gs i2))).rowIs G 3 k (gf gs (i2 + 1)) ∧ (((wr.alloc o).drewN qd).setCell ⟨G, i2, none⟩ (.int .i64 (grp gs i2))).heap[wp.heap.size]? = some (.cells cs 67 (0, 0)) ∧ Below wp.heap.size wp (((wr.alloc o).drewN qd).setCell ⟨G, i2, none⟩ (.int .i64 (grp gs i2))) := by
  subst hi2
  have hlt := (Array.getElem?_eq_some_iff.1 hbox).1
  have h1 : ((wr.alloc o).drewN qd).rowIs G 3 k (gf gs i2) := (hrow.alloc o)
  refine ⟨(h1.set i2 (.int .i64 (grp gs i2))).congr (fun j _ => gf_step gs i2 j), ?_, ?_⟩
  · exact (Below.heap_setCell _ _ _ _ (fun e => by simp at e; omega)).trans ((Below.heap_alloc wr o _ hlt).trans hbox)
  · have hB2 : Below wp.heap.size wp ((wr.alloc o).drewN qd) := ⟨(hB.alloc hB.size o).os, (hB.alloc hB.size o).tape, (hB.alloc hB.size o).output, (hB.alloc hB.size o).size, (hB.alloc hB.size o).block⟩
    exact hB2.setCell (p := ⟨G, i2, none⟩) (by simp; omega) _
theorem info59 : (Yba.prog.info? 59).map (fun i => (i.zero, i.size, i.bytes)) = some (some (.agg #[.int .i64 0, .int .i64 0]), 2, 16) := by kernel_rfl
theorem info61 : (Yba.prog.info? 61).map (fun i => (i.zero, i.size, i.bytes)) = some (some (.pointer none), 1, 8) := by kernel_rfl

theorem news2 (w : World) (a b : Value) (t : TypeId) (h1 : a.oneCell' = true) (h2 : b.oneCell' = true) : (∀ j u, [a, b][j]? = some u → (w.alloc (.cells #[a, b] t)).cell? ((⟨w.heap.size, 0, none⟩ : Addr).add j) = some u) ∧ (∀ u ∈ [a, b], u.oneCell' = true) := by
  constructor
  · intro j u hu
    rw [Addr.add_lit, Nat.zero_add, World.cell?_alloc_at _ _ _ _ rfl]
    simpa using hu
  · intro u hu
    simp only [List.mem_cons, List.not_mem_nil, or_false] at hu
    rcases hu with rfl | rfl <;> assumption
theorem win_step {wo wr w1 : World} {av : Option Addr} {cv jj : Nat} {ws : List (Int × Int)} {x : Int × Int} {v' : Value} {o1 o2 o3 o4 : Obj} (hrow : wr.ownsRow wo.heap.size 59 2 (.slice av jj cv) jj (flat (ws.take jj))) (hB : Below wo.heap.size wo wr) (htk : ws.take (jj + 1) = ws.take jj ++ [x])
    (hown : w1.ownsRow wo.heap.size 59 2 v' (jj + 1) (flat (ws.take jj) ++ [.int .i64 x.1, .int .i64 x.2])) (hg : ((((wr.alloc o1).alloc o2).alloc o3).alloc o4).grownBy w1 (Value.slice av jj cv).ownBlock) :
    w1.ownsRow wo.heap.size 59 2 v' (jj + 1) (flat (ws.take (jj + 1))) ∧ Below wo.heap.size wo w1 := by
  have hs := hB.size
  refine ⟨by rw [htk, flat_append]; exact hown, below_row ((((hB.alloc hs o1).alloc (by simp; omega) o2).alloc (by simp; omega) o3).alloc (by simp; omega) o4) (by simp; omega) ((((hrow.alloc o1).alloc o2).alloc o3).alloc o4) hg⟩

/-- The windows of node i: none behind the input's end. -/
def fcs (css : List (List (Int × Int))) (i : Nat) : List (Int × Int) := css.getD i []
/-- One window more in a row that is being collected; two objects laid ahead of the append's own. -/
theorem want_step {B : Nat} {wo wr w1 : World} {av : Option Addr} {cv m : Nat} {xs : List (Int × Int)} {x : Int × Int} {v' : Value} {o1 o2 o3 o4 : Obj} (hrow : wr.ownsRow B 59 2 (.slice av m cv) m (flat xs)) (hB : Below B wo wr) (hBs : B ≤ wr.heap.size)
    (hown : w1.ownsRow B 59 2 v' (m + 1) (flat xs ++ [.int .i64 x.1, .int .i64 x.2])) (hg : ((((wr.alloc o1).alloc o2).alloc o3).alloc o4).grownBy w1 (Value.slice av m cv).ownBlock) :
    w1.ownsRow B 59 2 v' (m + 1) (flat (xs ++ [x])) ∧ Below B wo w1 := by
  refine ⟨by rw [flat_append]; exact hown, below_row ((((hB.alloc hBs o1).alloc (by simp; omega) o2).alloc (by simp; omega) o3).alloc (by simp; omega) o4) (by simp; omega) ((((hrow.alloc o1).alloc o2).alloc o3).alloc o4) hg⟩

def total (css : List (List (Int × Int))) : Nat := (css.map List.length).sum
theorem total_take {css : List (List (Int × Int))} {k : Nat} {ws : List (Int × Int)} (h : css[k]? = some ws) : total (css.take (k + 1)) = total (css.take k) + ws.length := by
  have : css.take (k + 1) = css.take k ++ [ws] := by rw [List.take_add_one, h]; rfl
  simp [total, this]

theorem total_le {css : List (List (Int × Int))} {k : Nat} {ws : List (Int × Int)} (h : css[k]? = some ws) : ws.length ≤ total css := by
  induction css generalizing k with
  | nil => simp at h
  | cons c cs ih =>
    have ht : total (c :: cs) = c.length + total cs := by simp [total]
    cases k with
    | zero => simp at h; subst h; omega
    | succ k => rw [List.getElem?_cons_succ] at h; have := ih h; omega

theorem fcs_le (css : List (List (Int × Int))) (i : Nat) : (fcs css i).length ≤ total css := by
  unfold fcs
  rw [List.getD_eq_getElem?_getD]
  cases h : css[i]? with
  | none => exact Nat.zero_le _
  | some ws => exact total_le h


/-- The statement at place k of a chain. -/
def nth : Nat → Code → Code
  | 0, .seq a _ => a
  | k + 1, .seq _ b => nth k b
  | _, c => c
/-- What follows. -/
def tl : Nat → Code → Code
  | 0, c => c
  | k + 1, .seq _ b => tl k b
  | _, c => c
noncomputable def body : Code := Yba.f3.body.getD .skip
abbrev ptr (b : Nat) : Value := .pointer (some ⟨b, 0, none⟩)
/-- What a way through the law ends in. -/
abbrev QQ (w0 : World) : Exit → Act → World → Prop := bodyPostM Fence.wide 5 Yba.prog Yba.f3 (fun e w' => e = .returned (.bool true) ∧ Below w0.heap.size w0 w')

/-- What stands behind the law's first part: the run is built. -/
structure Env (w0 wp : World) (ao po : Option Addr) (css : List (List (Int × Int))) (qs : List Part) (n : Nat) (vN vP : Value) (ptrs cells : List Value) : Prop where
  n1 : 1 ≤ n
  n2 : n ≤ 1048576
  n3 : css.length ≤ n
  ql : qs.length ≤ 1048576
  tot : total css ≤ 1048576
  hC : CrashIn w0 ao css
  hP : PartIn w0 po qs
  HP : CarryP w0 wp (fcs css) n vN ptrs qs qs.length vP cells
end Go.Proofs.Ybulkdjpk.lawS5535AWhole
