/-
  5535A: the small callees, walked.
-/
import Derived.Test.YbulkdjpkProg
import Derived.WalkKit
import Derived.WalkSpells
import Derived.WalkLawsBesides
import Derived.Deep.QuietTactic
import Derived.BigQuiet
import Derived.Below
namespace Go.Proofs.Ybulkdjpk.lawS5535AWhole
open Go.RowKit

/-- A window as a value. -/
abbrev winV (x : Int × Int) : Value := .agg #[.int .i64 x.1, .int .i64 x.2]

set_option maxHeartbeats 400000 in
theorem awin_any (x : Int × Int) (w : World) :
    Calls Yba.prog 5 #[winV x] w fun e w' => e = .returned (winV x) ∧ w' = (w.alloc (.cells #[.int .i64 x.1, .int .i64 x.2] 56)).alloc (.cells #[.int .i64 x.1, .int .i64 x.2] 59) := by
  go_enter Yba.func5, Yba.ntmps5
  go_wp2
  refine bodyPost_ret (v := winV x) (by simp [results, Yba.results5, go_sem]) rfl ⟨rfl, ?_⟩
  rfl

set_option maxHeartbeats 400000 in
theorem parting_any (r : Option Addr) (a b : Int) (w : World) :
    Calls Yba.prog 7 #[.pointer r, .int .i64 a, .int .i64 b] w fun e w' => e = .returned (.func (.func 10) #[] #[.pointer (some ⟨w.heap.size, 0, none⟩), .pointer (some ⟨w.heap.size + 1, 0, none⟩), .pointer (some ⟨w.heap.size + 2, 0, none⟩)]) ∧
      w' = ((w.alloc (.cells #[.pointer r] 26)).alloc (.cells #[.int .i64 a] 3)).alloc (.cells #[.int .i64 b] 3) := by
  go_enter Yba.func7, Yba.ntmps7
  go_wp2
  go_ret
  exact ⟨rfl, rfl⟩

set_option maxHeartbeats 400000 in
theorem cutting_any (r : Option Addr) (a b : Int) (w : World) :
    Calls Yba.prog 11 #[.pointer r, .int .i64 a, .int .i64 b] w fun e w' => e = .returned (.func (.func 14) #[] #[.pointer (some ⟨w.heap.size, 0, none⟩), .pointer (some ⟨w.heap.size + 1, 0, none⟩), .pointer (some ⟨w.heap.size + 2, 0, none⟩)]) ∧
      w' = ((w.alloc (.cells #[.pointer r] 26)).alloc (.cells #[.int .i64 a] 3)).alloc (.cells #[.int .i64 b] 3) := by
  go_enter Yba.func11, Yba.ntmps11
  go_wp2
  go_ret
  exact ⟨rfl, rfl⟩

/-- What 'zzs5535agroup' answers: the pattern repeated, 0 where there is none. -/
def grp (gs : List Int) (i : Nat) : Int := if gs.length = 0 then 0 else gs.getD (i % gs.length) 0

/-- The ints of a slice: whatever the address, cells that lie below the world's end. -/
def IntsAt (w : World) (ao : Option Addr) (xs : List Int) : Prop := ∀ j, j < xs.length → ∃ b o, ao = some ⟨b, o, none⟩ ∧ b < w.heap.size ∧ w.cell? ⟨b, o + j, none⟩ = some (.int .i64 (xs.getD j 0))
theorem IntsAt.below {w w' : World} {ao : Option Addr} {xs : List Int} (h : IntsAt w ao xs) {N : Nat} (hN : ∀ b o, ao = some ⟨b, o, none⟩ → b < N) (hB : Below N w w') (hs : w.heap.size ≤ w'.heap.size) : IntsAt w' ao xs := fun j hj => by
  obtain ⟨b, o, e, hb, hc⟩ := h j hj
  exact ⟨b, o, e, Nat.lt_of_lt_of_le hb hs, (hB.cell (p := ⟨b, o + j, none⟩) (hN b o e)).trans hc⟩

set_option maxHeartbeats 400000 in
theorem group_any (f t : Int) (ao : Option Addr) (cap : Nat) (gs : List Int) (i : Nat) (w : World) (hl : gs.length ≤ 9223372036854775807) (hx : IntsAt w ao gs) :
    Calls Yba.prog 6 #[.agg #[.int .i64 f, .int .i64 t, .slice ao gs.length cap], .int .i64 i] w fun e w' => e = .returned (.int .i64 (grp gs i)) ∧ ∃ q, w' = (w.alloc (.cells #[.int .i64 f, .int .i64 t, .slice ao gs.length cap] 67)).drewN q := by
  by_cases h0 : gs.length = 0
  · have hg : grp gs i = 0 := by simp [grp, h0]
    rw [hg, h0]
    go_enter Yba.func6, Yba.ntmps6
    go_wp2
    go_ret
    exact ⟨rfl, 0, rfl⟩
  · have hm : i % gs.length < gs.length := Nat.mod_lt _ (by omega)
    have hg : grp gs i = gs.getD (i % gs.length) 0 := by simp [grp, h0]
    obtain ⟨b, o, rfl, hb, hc⟩ := hx _ hm
    rw [hg]
    have hmi : Int.tmod (i : Int) (gs.length : Int) = ((i % gs.length : Nat) : Int) := by rw [Int.ofNat_tmod]
    generalize gs.getD (i % gs.length) 0 = y at hc
    go_enter Yba.func6, Yba.ntmps6
    go_wp2_with fail
    go_quiet (fail)
    go_wp2
    go_ret
    exact ⟨rfl, _, rfl⟩
end Go.Proofs.Ybulkdjpk.lawS5535AWhole
