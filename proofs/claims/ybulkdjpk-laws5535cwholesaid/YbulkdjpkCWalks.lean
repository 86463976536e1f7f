import Derived.Test.YbulkdjpkProg
import Derived.WalkKit
import Derived.WalkSpells
import Derived.WalkLawsBesides
import Derived.Deep.RegionHeld3
import Derived.Laws.EntriesVeiled
namespace Go.Proofs.Ybulkdjpk.lawS5535CWhole
open Go.RowKit

/-- What 'name(before, n)' answers. -/
def nmS (before member colon n : ByteArray) : ByteArray := before ++ member ++ ⟨#[34]⟩ ++ n ++ ⟨#[34]⟩ ++ colon
/-- What 'kind(k)' answers. -/
def kdS (opn member colon k : ByteArray) : ByteArray := nmS opn member colon ⟨#[107, 105, 110, 100]⟩ ++ ⟨#[34]⟩ ++ k ++ ⟨#[34]⟩

theorem size_lit (l : List UInt8) : (⟨l.toArray⟩ : ByteArray).size = l.length := rfl
theorem nmS_size (before member colon n : ByteArray) : (nmS before member colon n).size = before.size + member.size + n.size + colon.size + 2 := by
  have h : (⟨#[34]⟩ : ByteArray).size = 1 := rfl
  simp only [nmS, ByteArray.size_append, h]; omega
theorem kdS_size (opn member colon k : ByteArray) : (kdS opn member colon k).size = opn.size + member.size + colon.size + k.size + 8 := by
  have h : (⟨#[34]⟩ : ByteArray).size = 1 := rfl
  have h4 : (⟨#[107, 105, 110, 100]⟩ : ByteArray).size = 4 := rfl
  simp only [kdS, nmS_size, ByteArray.size_append, h, h4]; omega

set_option maxHeartbeats 400000 in
theorem name_any (before n member colon : ByteArray) (bm bc : Nat) (w : World)
    (hm : w.cell? ⟨bm, 0, none⟩ = some (.string member)) (hc : w.cell? ⟨bc, 0, none⟩ = some (.string colon))
    (h1 : before.size ≤ 100000000) (h2 : n.size ≤ 100000000) (h3 : member.size ≤ 100000000) (h4 : colon.size ≤ 100000000) :
    Calls Yba.prog 12 #[.string before, .string n, .pointer (some ⟨bm, 0, none⟩), .pointer (some ⟨bc, 0, none⟩)] w fun e w' =>
      e = .returned (.string (nmS before member colon n)) ∧ w' = w := by
  go_enter Yba.func12, Yba.ntmps12
  go_wp2
  go_ret
  exact ⟨rfl, rfl⟩

set_option maxHeartbeats 400000 in
theorem kind_any (k opn member colon : ByteArray) (bn bo bm bc : Nat) (w : World)
    (hn : w.cell? ⟨bn, 0, none⟩ = some (.func (.func 12) #[] #[.pointer (some ⟨bm, 0, none⟩), .pointer (some ⟨bc, 0, none⟩)]))
    (ho : w.cell? ⟨bo, 0, none⟩ = some (.string opn))
    (hm : w.cell? ⟨bm, 0, none⟩ = some (.string member)) (hc : w.cell? ⟨bc, 0, none⟩ = some (.string colon))
    (h1 : opn.size ≤ 10000000) (h2 : k.size ≤ 10000000) (h3 : member.size ≤ 10000000) (h4 : colon.size ≤ 10000000) :
    Calls Yba.prog 13 #[.string k, .pointer (some ⟨bn, 0, none⟩), .pointer (some ⟨bo, 0, none⟩)] w fun e w' =>
      e = .returned (.string (kdS opn member colon k)) ∧ w' = w := by
  have hs := nmS_size opn member colon ⟨#[107, 105, 110, 100]⟩
  have h5 : (nmS opn member colon ⟨#[107, 105, 110, 100]⟩).size ≤ 100000000 := by
    rw [hs]; have : (⟨#[107, 105, 110, 100]⟩ : ByteArray).size = 4 := rfl
    omega
  clear hs
  go_enter Yba.func13, Yba.ntmps13
  go_wp2_with (go_at_call 12; refine (name_any opn ⟨#[107, 105, 110, 100]⟩ member colon bm bc _ hm hc (by omega) (by decide) (by omega) (by omega)).mono ?_; rintro e w' ⟨rfl, rfl⟩)
  go_ret
  exact ⟨rfl, rfl⟩

/-- The five members of the layout. -/
def skipS (opn member colon : ByteArray) : ByteArray := kdS opn member colon ⟨#[115, 107, 105, 112]⟩ ++ nmS ⟨#[44]⟩ member colon ⟨#[112, 97, 114, 101, 110, 116, 95, 104, 101, 105, 103, 104, 116]⟩
def endoS (opn member colon : ByteArray) : ByteArray := kdS opn member colon ⟨#[101, 110, 100, 111, 114, 115, 101, 109, 101, 110, 116]⟩ ++ nmS ⟨#[44]⟩ member colon ⟨#[112, 97, 114, 101, 110, 116]⟩ ++ ⟨#[34]⟩
def parS (member colon : ByteArray) : ByteArray := ⟨#[34]⟩ ++ nmS ⟨#[44]⟩ member colon ⟨#[112, 97, 114, 101, 110, 116, 95, 104, 101, 105, 103, 104, 116]⟩
def tarS (member colon : ByteArray) : ByteArray := nmS ⟨#[44]⟩ member colon ⟨#[116, 97, 114, 103, 101, 116, 95, 104, 101, 105, 103, 104, 116]⟩

set_option maxHeartbeats 1000000 in
theorem layout_any (opn member colon nd : ByteArray) (w : World) (h1 : opn.size ≤ 1048576) (h2 : member.size ≤ 1048576) (h3 : colon.size ≤ 1048576) :
    Calls Yba.prog 9 #[.string opn, .string member, .string colon, .string nd] w fun e w' =>
      e = .returned (.agg #[.string (skipS opn member colon), .string (endoS opn member colon), .string (parS member colon), .string (tarS member colon), .string nd]) ∧ Grown w w' := by
  have k1 : (kdS opn member colon ⟨#[115, 107, 105, 112]⟩).size ≤ 10000000 := by rw [kdS_size]; have : (⟨#[115, 107, 105, 112]⟩ : ByteArray).size = 4 := rfl; omega
  have k2 : (kdS opn member colon ⟨#[101, 110, 100, 111, 114, 115, 101, 109, 101, 110, 116]⟩).size ≤ 10000000 := by rw [kdS_size]; have : (⟨#[101, 110, 100, 111, 114, 115, 101, 109, 101, 110, 116]⟩ : ByteArray).size = 11 := rfl; omega
  have c1 : (⟨#[44]⟩ : ByteArray).size = 1 := rfl
  have n1 : (nmS ⟨#[44]⟩ member colon ⟨#[112, 97, 114, 101, 110, 116, 95, 104, 101, 105, 103, 104, 116]⟩).size ≤ 10000000 := by rw [nmS_size]; have : (⟨#[112, 97, 114, 101, 110, 116, 95, 104, 101, 105, 103, 104, 116]⟩ : ByteArray).size = 13 := rfl; omega
  have n2 : (nmS ⟨#[44]⟩ member colon ⟨#[112, 97, 114, 101, 110, 116]⟩).size ≤ 10000000 := by rw [nmS_size]; have : (⟨#[112, 97, 114, 101, 110, 116]⟩ : ByteArray).size = 6 := rfl; omega
  clear c1
  have q1 : (9223372036854775807 < (kdS opn member colon ⟨#[115, 107, 105, 112]⟩).size + (nmS ⟨#[44]⟩ member colon ⟨#[112, 97, 114, 101, 110, 116, 95, 104, 101, 105, 103, 104, 116]⟩).size) = False := by simp only [eq_iff_iff, iff_false]; omega
  have q2 : (9223372036854775807 < (kdS opn member colon ⟨#[101, 110, 100, 111, 114, 115, 101, 109, 101, 110, 116]⟩).size + (nmS ⟨#[44]⟩ member colon ⟨#[112, 97, 114, 101, 110, 116]⟩).size) = False := by simp only [eq_iff_iff, iff_false]; omega
  have q3 : (9223372036854775807 < (kdS opn member colon ⟨#[101, 110, 100, 111, 114, 115, 101, 109, 101, 110, 116]⟩).size + (nmS ⟨#[44]⟩ member colon ⟨#[112, 97, 114, 101, 110, 116]⟩).size + 1) = False := by simp only [eq_iff_iff, iff_false]; omega
  have q4 : (9223372036854775807 < 1 + (nmS ⟨#[44]⟩ member colon ⟨#[112, 97, 114, 101, 110, 116, 95, 104, 101, 105, 103, 104, 116]⟩).size) = False := by simp only [eq_iff_iff, iff_false]; omega
  clear k1 k2 n1 n2
  go_enter Yba.func9, Yba.ntmps9
  go_wp2
  go_region_held3 (fun w' => w'.cell? ⟨w.heap.size, 0, none⟩ = some (.string opn) ∧ w'.cell? ⟨w.heap.size + 1, 0, none⟩ = some (.string member) ∧ w'.cell? ⟨w.heap.size + 1 + 1, 0, none⟩ = some (.string colon) ∧ w'.cell? ⟨w.heap.size + 1 + 1 + 1 + 1, 0, none⟩ = some (.func (.func 12) #[] #[.pointer (some ⟨w.heap.size + 1, 0, none⟩), .pointer (some ⟨w.heap.size + 1 + 1, 0, none⟩)])) (first | (simp [go_sem, World.cell?_alloc_past]; done) | go_keep)
    (first
      | (go_at_call 12; refine (name_any _ _ member colon (w.heap.size + 1) (w.heap.size + 1 + 1) _ ?_ ?_ ?_ ?_ ?_ ?_).mono ?_; (simp [*]); (simp [*]); decide; decide; omega; omega; rintro e w' ⟨rfl, rfl⟩)
      | (go_at_call 13; refine (kind_any _ opn member colon (w.heap.size + 1 + 1 + 1 + 1) w.heap.size (w.heap.size + 1) (w.heap.size + 1 + 1) _ ?_ ?_ ?_ ?_ ?_ ?_ ?_ ?_).mono ?_; (simp [*]); (simp [*]); (simp [*]); (simp [*]); omega; decide; omega; omega; rintro e w' ⟨rfl, rfl⟩))
  all_goals go_wp2
  refine bodyPost_ret (v := .agg #[.string (skipS opn member colon), .string (endoS opn member colon), .string (parS member colon), .string (tarS member colon), .string nd]) (by simp [results, Yba.results9, go_sem, skipS, endoS, parS, tarS, World.cell?_alloc_past]) rfl ⟨rfl, ?_⟩
  repeat (first | exact Grown.refl _ | apply Grown.drew | apply Grown.alloc)
end Go.Proofs.Ybulkdjpk.lawS5535CWhole
