import Derived.Test.YbulkdjpkProg
import Derived.WalkKit
import Derived.WalkSpells
import Derived.WalkLawsBesides
namespace Go.Proofs.Ybulkdjpk.lawS5535CWhole
open Go.RowKit

/-- The parts one behind the other. -/
def catS (xs : List ByteArray) : ByteArray := xs.foldl (· ++ ·) ⟨#[]⟩
/-- Their lengths added up. -/
def lenS (xs : List ByteArray) : Nat := (xs.map ByteArray.size).sum

theorem lenS_cons (x : ByteArray) (xs : List ByteArray) : lenS (x :: xs) = x.size + lenS xs := by simp [lenS]
theorem lenS_nil : lenS [] = 0 := rfl
theorem catS_snoc (xs : List ByteArray) (x : ByteArray) : catS (xs ++ [x]) = catS xs ++ x := by simp [catS, List.foldl_append]
theorem lenS_snoc (xs : List ByteArray) (x : ByteArray) : lenS (xs ++ [x]) = lenS xs + x.size := by simp [lenS]
theorem foldl_size (xs : List ByteArray) : ∀ a : ByteArray, (xs.foldl (· ++ ·) a).size = a.size + lenS xs := by
  induction xs with
  | nil => intro a; simp [lenS]
  | cons x xs ih => intro a; rw [List.foldl_cons, ih, ByteArray.size_append]; simp [lenS]; omega
theorem catS_size (xs : List ByteArray) : (catS xs).size = lenS xs := by
  have := foldl_size xs ⟨#[]⟩
  have h0 : (⟨#[]⟩ : ByteArray).size = 0 := rfl
  unfold catS; omega
theorem take_snocB (xs : List ByteArray) (k : Nat) (h : k < xs.length) : xs.take (k + 1) = xs.take k ++ [xs.getD k ⟨#[]⟩] := by
  rw [List.take_succ_eq_append_getElem h]; simp [h]
theorem lenS_append (xs ys : List ByteArray) : lenS (xs ++ ys) = lenS xs + lenS ys := by simp [lenS]
theorem lenS_take (xs : List ByteArray) (k : Nat) : lenS (xs.take k) ≤ lenS xs := by
  have := lenS_append (xs.take k) (xs.drop k)
  rw [List.take_append_drop] at this
  omega

set_option maxHeartbeats 400000 in
theorem cat_any (xs : List ByteArray) (n cap b : Nat) (w : World) (hn : n = xs.length) (hl : xs.length ≤ 1000) (hs : lenS xs ≤ 1000000000)
    (hc : ∀ i, i < xs.length → w.cell? ⟨b, i, none⟩ = some (.string (xs.getD i ⟨#[]⟩))) :
    Calls Yba.prog 8 #[.slice (some ⟨b, 0, none⟩) n cap] w fun e w' => e = .returned (.string (catS xs)) ∧ w' = w := by
  subst hn
  go_enter Yba.func8, Yba.ntmps8
  go_wp2
  go_loop [3, 4] (fun t i => ∃ k : Nat, k ≤ xs.length ∧ i = .int .i64 k ∧ t = .string (catS (xs.take k))) (fun _ i => xs.length - (intOf i).toNat)
  case atStart => exact ⟨0, Nat.zero_le _, rfl, by simp [catS]⟩
  case round =>
    obtain ⟨k, hk, rfl, rfl⟩ := hrel
    by_cases hlt : k < xs.length
    · have hck := hc k hlt
      have hz : (catS (xs.take k)).size + (xs.getD k ⟨#[]⟩).size ≤ 1000000000 := by
        have h1 := lenS_take xs (k + 1)
        rw [take_snocB xs k hlt, lenS_snoc] at h1
        rw [catS_size]; omega
      have HS : Hid (catS (xs.take (k + 1)) = catS (xs.take k) ++ xs.getD k ⟨#[]⟩) := by rw [take_snocB xs k hlt]; exact catS_snoc _ _
      generalize catS (xs.take k) = A at *
      obtain ⟨B, hB⟩ : ∃ B, B = xs.getD k ⟨#[]⟩ := ⟨_, rfl⟩
      rw [← hB] at hck hz HS
      clear hB hc
      go_wp2
      go_round
      case rel => exact ⟨k + 1, by omega, by go_num, by rw [HS.out]⟩
      case measure => simp [intOf]; omega
    · have hk' : k = xs.length := by omega
      have hs' : catS (xs.take k) = catS xs := by rw [hk', List.take_length]
      have HS : Hid (catS (xs.take k) = catS xs) := hs'
      clear hk' hs'
      go_wp2
      go_ret
      exact ⟨congrArg (fun s => Ending.returned (.string s)) HS.out, rfl⟩

/-- The cells of a slice literal of strings, right behind its laying. -/
theorem cells_new (w : World) (xs : List ByteArray) (t : TypeId) (b : Nat) (hb : b = w.heap.size) : ∀ i, i < xs.length → (w.alloc (.cells (xs.map Value.string).toArray t)).cell? ⟨b, i, none⟩ = some (.string (xs.getD i ⟨#[]⟩)) := by
  intro i hi
  rw [World.cell?_alloc_at _ _ _ _ hb]
  simp [hi]
end Go.Proofs.Ybulkdjpk.lawS5535CWhole
