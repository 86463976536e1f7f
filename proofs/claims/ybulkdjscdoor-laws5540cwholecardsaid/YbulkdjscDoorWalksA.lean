import Derived.Test.YbulkdjscDoorProg
import Derived.Test.YbulkdjscDoorShelf
import Derived.Test.YbulkdjscDoorPlain
import Derived.WalkKit
import Derived.WalkSpells
import Derived.WalkLawsBesides
namespace Go.Proofs.YbulkdjscDoor.lawS5540CWhole
open Go.RowKit

set_option maxHeartbeats 400000 in
theorem digits_any (a : Int) (w : World) (h0 : 0 ≤ a) (h1 : a ≤ 18446744073709551615) :
    Calls Ybad.prog 4 #[.int .u64 a] w fun e w' => e = .returned (.int .i64 (dgz a.toNat)) ∧ w' = w := by
  obtain ⟨n, rfl⟩ := Int.eq_ofNat_of_zero_le h0
  rw [Int.toNat_natCast]
  have hD := dgz_le n (by omega)
  go_enter Ybad.func4, Ybad.ntmps4
  go_wp2
  go_loop [0, 3] (fun t m => ∃ c k : Nat, c ≤ n ∧ k ≤ 20 ∧ t = .int .u64 c ∧ m = .int .i64 k ∧ Hid (k + dgz c = dgz n)) (fun t _ => (intOf t).toNat)
  case atStart => exact ⟨n, 0, Nat.le_refl _, by omega, rfl, rfl, by show 0 + dgz n = dgz n; omega⟩
  case round =>
    obtain ⟨c, k, hc, hk, rfl, rfl, HK⟩ := hrel
    by_cases hlt : 1 ≤ c
    · have h2 : k < 20 := by
        have := HK.out; have := dgz_step c hlt; omega
      go_wp2
      go_round
      case rel => exact ⟨c / 10, k + 1, by omega, by omega, by go_num, by go_num, by have := HK.out; have := dgz_step c hlt; show k + 1 + dgz (c / 10) = dgz n; omega⟩
      case measure => simp [intOf]; omega
    · obtain rfl : c = 0 := by omega
      have HK2 : Hid (k = dgz n) := by have := HK.out; rw [dgz_zero] at this; show k = dgz n; omega
      go_wp2
      go_ret
      exact ⟨by rw [← HK2.out]; rfl, rfl⟩

theorem ret_int {k : IntKind} {a b : Int} (h : a = b) : Ending.returned (.int k a) = .returned (.int k b) := by rw [h]
theorem wrap_neg (a : Int) (h0 : -9223372036854775808 ≤ a) (hn : a < 0) : IntKind.u64.wrap (-IntKind.u64.wrap a) = (a.natAbs : Int) := by
  simp only [IntKind.wrap_u64]; omega

set_option maxHeartbeats 400000 in
theorem abs_any (a : Int) (w : World) (h0 : -9223372036854775808 ≤ a) (h1 : a ≤ 9223372036854775807) :
    Calls Ybad.prog 7 #[.int .i64 a] w fun e w' => e = .returned (.int .u64 (a.natAbs : Int)) ∧ w' = w := by
  by_cases hn : a < 0
  · go_enter Ybad.func7, Ybad.ntmps7
    go_wp2
    go_ret
    exact ⟨ret_int (wrap_neg a h0 hn), rfl⟩
  · go_enter Ybad.func7, Ybad.ntmps7
    go_wp2
    go_ret
    exact ⟨ret_int (by omega), rfl⟩

/-- The table of powers, as the walk reads it. -/
def PowsAt (w : World) : Prop := ∀ k, k < 20 → w.cell? ⟨0, k, none⟩ = some (.int .u64 (pows.getD k 0))

set_option maxHeartbeats 400000 in
/-- 'magnitudeDigits' of a magnitude that is not empty, its top limb neither zero nor past 10^19. -/
theorem magn_any (b len cap : Nat) (top : Nat) (w : World) (hp : PowsAt w) (hl : 1 ≤ len) (hl2 : len ≤ 1048576) (ht : w.cell? ⟨b, len - 1, none⟩ = some (.int .u64 top)) (h1 : 1 ≤ top) (h2 : top < 10000000000000000000) :
    Calls Ybad.prog 6 #[.slice (some ⟨b, 0, none⟩) len cap] w fun e w' => e = .returned (.int .i64 ((len - 1 : Int) * 19 + dgz top)) ∧ w' = w := by
  have HP : Hid (PowsAt w) := hp
  clear hp
  go_enter Ybad.func6, Ybad.ntmps6
  go_wp2
  go_loop [4] (fun m => ∃ k : Nat, 1 ≤ k ∧ k ≤ 19 ∧ m = .int .i64 k ∧ Hid (10 ^ (k - 1) ≤ top)) (fun m => 19 - (intOf m).toNat)
  case atStart => exact ⟨1, by omega, by omega, rfl, h1⟩
  case round =>
    obtain ⟨k, hk1, hk2, rfl, HK⟩ := hrel
    by_cases hlt : k < 19
    · have hcell := HP.out k (by omega)
      rw [pows_at k (by omega)] at hcell
      by_cases hge : 10 ^ k ≤ top
      · have HG : Hid (10 ^ (k + 1 - 1) ≤ top) := hge
        generalize 10 ^ k = P at *
        go_wp2
        go_round
        case rel => exact ⟨k + 1, by omega, by omega, by go_num, HG⟩
        case measure => simp [intOf]; omega
      · have HD : Hid (dgz top = k) := by
          obtain ⟨r, rfl⟩ : ∃ r, k = r + 1 := ⟨k - 1, by omega⟩
          have := HK.out
          exact dgz_unique r top (by simpa using this) (by omega)
        generalize 10 ^ k = P at *
        go_wp2
        go_ret
        exact ⟨ret_int (by rw [HD.out]), rfl⟩
    · obtain rfl : k = 19 := by omega
      have HD : Hid (dgz top = 19) := dgz_unique 18 top (by have := HK.out; simpa using this) (by omega)
      go_wp2
      go_ret
      exact ⟨ret_int (by rw [HD.out]; rfl), rfl⟩
end Go.Proofs.YbulkdjscDoor.lawS5540CWhole
