import Derived.Test.YbulkdjscDoorWalksA
import Derived.Deep.QuietTactic
import Derived.BigQuiet
namespace Go.Proofs.YbulkdjscDoor.lawS5540CWhole
open Go.RowKit

set_option maxHeartbeats 400000 in
theorem whole_core (a s : Int) (U B P : Nat) (w : World) (hs0 : 0 ≤ s) (hs1 : s ≤ 9223372036854775807) (_hU : U < 18446744073709551616) (hB : B ≤ 64) (hb : 0 < w.heap.size)
    (HA : Hid (∀ W, Calls Ybad.prog 7 #[.int .i64 a] W fun e w' => e = .returned (.int .u64 (U : Int)) ∧ w' = W))
    (HL : Hid (∀ W, Calls Ybad.prog 8 #[.int .u64 (U : Int)] W fun e w' => e = .returned (.int .i64 (B : Int)) ∧ w' = W))
    (hcell : w.cell? ⟨0, B * 1233 / 4096, none⟩ = some (.int .u64 (P : Int))) :
    Calls Ybad.prog 5 #[.agg #[.int .i64 a, .pointer none, .int .i64 s]] w fun e w' => e = .returned (.int .i64 (max ((((B * 1233 / 4096 : Nat) + if P ≤ U then 1 else 0 : Nat) : Int) - s) 0)) ∧ Below w.heap.size w w' := by
  by_cases hp : P ≤ U
  · rw [if_pos hp]
    go_enter Ybad.func5, Ybad.ntmps5
    go_wp2_with (first | (go_at_call 7; refine (HA.out _).mono ?_; rintro e w' ⟨rfl, rfl⟩) | (go_at_call 8; refine (HL.out _).mono ?_; rintro e w' ⟨rfl, rfl⟩))
    all_goals
      go_ret
      exact ⟨ret_int (by omega), (Below.refl _ _).alloc (Nat.le_refl _) _⟩
  · rw [if_neg hp]
    go_enter Ybad.func5, Ybad.ntmps5
    go_wp2_with (first | (go_at_call 7; refine (HA.out _).mono ?_; rintro e w' ⟨rfl, rfl⟩) | (go_at_call 8; refine (HL.out _).mono ?_; rintro e w' ⟨rfl, rfl⟩))
    all_goals
      go_ret
      exact ⟨ret_int (by omega), (Below.refl _ _).alloc (Nat.le_refl _) _⟩

theorem whole_small (a s : Int) (w : World) (hp : PowsAt w) (hb : 0 < w.heap.size) (h0 : -9223372036854775808 ≤ a) (h1 : a ≤ 9223372036854775807) (hs0 : 0 ≤ s) (hs1 : s ≤ 9223372036854775807) :
    Calls Ybad.prog 5 #[.agg #[.int .i64 a, .pointer none, .int .i64 s]] w fun e w' => e = .returned (.int .i64 (max ((dgz a.natAbs : Int) - s) 0)) ∧ Below w.heap.size w w' := by
  have hu : a.natAbs < 18446744073709551616 := by omega
  have hg := gs_le a.natAbs hu
  have hcell := hp (gs (Lib.bitLen a.natAbs)) (by omega)
  rw [pows_at _ (by omega)] at hcell
  have := whole_core a s a.natAbs (Lib.bitLen a.natAbs) (10 ^ gs (Lib.bitLen a.natAbs)) w hs0 hs1 hu (bitLen_le64 _ hu) hb (fun W => abs_any a W h0 h1)
    (fun W => by have h := Ybad.bits_Len64 (a.natAbs : Int) W (by omega) (by omega); rw [Int.toNat_natCast] at h; exact h) hcell
  rw [gs_eq a.natAbs hu]
  exact this

set_option maxHeartbeats 400000 in
/-- The road over the limbs. -/
theorem whole_long (sg s : Int) (lb b len cap top : Nat) (w : World) (hp : PowsAt w) (hb : 0 < w.heap.size) (hs0 : 0 ≤ s) (hs1 : s ≤ 9223372036854775807)
    (hlc : w.cell? ⟨lb, 0, none⟩ = some (.slice (some ⟨b, 0, none⟩) len cap)) (hlb : lb < w.heap.size) (hbb : b < w.heap.size)
    (hl : 1 ≤ len) (hl2 : len ≤ 1048576) (ht : w.cell? ⟨b, len - 1, none⟩ = some (.int .u64 (top : Nat))) (h1 : 1 ≤ top) (h2 : top < 10000000000000000000) :
    Calls Ybad.prog 5 #[.agg #[.int .i64 sg, .pointer (some ⟨lb, 0, none⟩), .int .i64 s]] w fun e w' => e = .returned (.int .i64 (max (((len : Int) - 1) * 19 + dgz top - s) 0)) ∧ Below w.heap.size w w' := by
  have hd := dgz_le top (by omega)
  have hp' : Hid (∀ n, PowsAt ((w.alloc (.cells #[.int .i64 sg, .pointer (some ⟨lb, 0, none⟩), .int .i64 s] 26)).drewN n)) := fun n k hk => by
    rw [World.cell?_drewN, World.cell?_alloc_past _ _ _ hb]; exact hp k hk
  have ht' : Hid (∀ n, ((w.alloc (.cells #[.int .i64 sg, .pointer (some ⟨lb, 0, none⟩), .int .i64 s] 26)).drewN n).cell? ⟨b, len - 1, none⟩ = some (.int .u64 (top : Nat))) := fun n => by
    rw [World.cell?_drewN, World.cell?_alloc_past _ _ _ hbb]; exact ht
  clear hp ht
  go_enter Ybad.func5, Ybad.ntmps5
  go_wp2
  go_quiet ((go_at_call 6; exact Calls.quiet_of_same (magn_any b len cap top _ (hp'.out _) hl hl2 (ht'.out _) h1 h2)))
  go_wp2
  all_goals
    go_ret
    refine ⟨ret_int (by omega), ?_⟩
    exact below_drewN ((Below.refl _ _).alloc (Nat.le_refl _) _) _
end Go.Proofs.YbulkdjscDoor.lawS5540CWhole
