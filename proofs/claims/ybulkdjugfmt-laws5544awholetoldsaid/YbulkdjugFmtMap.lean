/-
  THE NAMES' MAP OF 5544A: what it holds when the distinct strings 'ks' have been entered, each at its index; what a look-up answers.
-/
import Derived.Test.YbulkdjugFmtWalksA
import Derived.Maps.Ext
namespace Go.Proofs.YbulkdjugFmt.lawS5544AWhole
open Go.RowKit Go.Maps

/-- A name as a key. -/
def kl (s : ByteArray) : Lit := .string s.data.toList
theorem kl_key (s : ByteArray) : WideAt.IsKeyLit (kl s) := trivial
theorem kl_inj {s t : ByteArray} (h : kl s = kl t) : s = t := by
  unfold kl at h
  injection h with h
  apply ByteArray.ext
  exact Array.ext' h
/-- An int as a datum. -/
def i64 (n : Int) : DataW Unit := .lit (.int .i64 n)

structure Idx (D : DataW Unit) (ks : List ByteArray) : Prop where
  tidy : Tidy D
  hit : ∀ j, j < ks.length → Maps.has D (kl (ks.getD j ⟨#[]⟩)) = true ∧ D.atKey (kl (ks.getD j ⟨#[]⟩)) (i64 0) = i64 j
  only : ∀ s, Maps.has D (kl s) = true → ∃ j, j < ks.length ∧ ks.getD j ⟨#[]⟩ = s
  count : Maps.size D = ks.length

theorem getD_left (ks : List ByteArray) (s : ByteArray) (j : Nat) (h : j < ks.length) : (ks ++ [s]).getD j ⟨#[]⟩ = ks.getD j ⟨#[]⟩ := by
  rw [List.getD, List.getD, List.getElem?_append_left h]

theorem Idx.empty : Idx (.map []) [] := ⟨tidy_empty, fun j h => absurd h (by simp), fun s h => by simp [Maps.has] at h, rfl⟩

theorem Idx.snoc {D : DataW Unit} {ks : List ByteArray} (h : Idx D ks) {s : ByteArray} (hs : Maps.has D (kl s) = false) : Idx (D.put (kl s) (i64 ks.length)) (ks ++ [s]) := by
  have hne : ∀ j, j < ks.length → kl (ks.getD j ⟨#[]⟩) ≠ kl s := fun j hj e => by
    have := (h.hit j hj).1
    rw [e, hs] at this
    cases this
  refine ⟨h.tidy.put (kl_key s) _, fun j hj => ?_, fun t ht => ?_, ?_⟩
  · by_cases hjl : j < ks.length
    · have e := getD_left ks s j hjl
      rw [e, has_put_other (hne j hjl), atKey_put_other (hne j hjl)]
      exact h.hit j hjl
    · have hj' : j = ks.length := by simp at hj; omega
      subst hj'
      have e : (ks ++ [s]).getD ks.length ⟨#[]⟩ = s := by simp [List.getD]
      rw [e, has_put_same h.tidy.isMap (kl_key s), atKey_put_same h.tidy.isMap (kl_key s)]
      exact ⟨rfl, rfl⟩
  · by_cases e : kl t = kl s
    · exact ⟨ks.length, by simp, by rw [kl_inj e]; simp [List.getD]⟩
    · rw [has_put_other e] at ht
      obtain ⟨j, hj, e2⟩ := h.only t ht
      exact ⟨j, by simp; omega, (getD_left ks s j hj).trans e2⟩
  · rw [size_put h.tidy, hs, h.count]; simp

theorem zero3 (w : World) : (zeroValue 3).run Ybaf.prog w = .ok (.int .i64 0) w := by kernel_rfl

theorem look_any {w : World} {b n : Nat} {D : DataW Unit} (h : w.ownsMap Ybaf.prog 9 (plainElem Ybaf.prog 3) b n D) (s : ByteArray) (hs : s.size ≤ maxLen) :
    ∃ c, (Instr.lookup 24 (.map (some b)) (.string s) true).run Ybaf.prog w = .ok (.tuple #[.int .i64 c, .bool (Maps.has D (kl s))]) w ∧ D.atKey (kl s) (i64 0) = i64 c := by
  obtain ⟨v, ps, hrun, hv⟩ := h.look_ok key9 Ybaf.underlying24 (zero3 w) (plainElem_int (H := Unit) Ybaf.underlying3 (a := 0) (by decide)) (WideMaps.keyOf_string_mk Ybaf.underlying9 hs)
  obtain ⟨c, rfl, hc, _⟩ := plainElem_int_inv Ybaf.underlying3 hv
  exact ⟨c, hrun, congrArg Prod.fst hc⟩

theorem look_c {w : World} {b n : Nat} {D : DataW Unit} (h : w.ownsMap Ybaf.prog 9 (plainElem Ybaf.prog 3) b n D) {s : ByteArray} (hs : s.size ≤ maxLen) {c : Int} {t : Bool} (hc : D.atKey (kl s) (i64 0) = i64 c) (ht : Maps.has D (kl s) = t) :
    (Instr.lookup 24 (.map (some b)) (.string s) true).run Ybaf.prog w = .ok (.tuple #[.int .i64 c, .bool t]) w := by
  obtain ⟨c', hrun, hc'⟩ := look_any h s hs
  rw [hc] at hc'
  unfold i64 at hc'
  injection hc' with hc'
  injection hc' with _ hc'
  rw [hc', ← ht]; exact hrun

theorem look_hit {w : World} {b n : Nat} {D : DataW Unit} {ks : List ByteArray} (h : w.ownsMap Ybaf.prog 9 (plainElem Ybaf.prog 3) b n D) (hI : Idx D ks) {j : Nat} (hj : j < ks.length) (hs : (ks.getD j ⟨#[]⟩).size ≤ maxLen) :
    (Instr.lookup 24 (.map (some b)) (.string (ks.getD j ⟨#[]⟩)) true).run Ybaf.prog w = .ok (.tuple #[.int .i64 (j : Int), .bool true]) w := by
  obtain ⟨c, hrun, hc⟩ := look_any h _ hs
  obtain ⟨h1, h2⟩ := hI.hit j hj
  rw [h1] at hrun
  rw [h2] at hc
  unfold i64 at hc
  injection hc with hc
  injection hc with _ hc
  rw [hc]; exact hrun

theorem look_miss {w : World} {b n : Nat} {D : DataW Unit} (h : w.ownsMap Ybaf.prog 9 (plainElem Ybaf.prog 3) b n D) {s : ByteArray} (hm : Maps.has D (kl s) = false) (hs : s.size ≤ maxLen) :
    (Instr.lookup 24 (.map (some b)) (.string s) true).run Ybaf.prog w = .ok (.tuple #[.int .i64 0, .bool false]) w := by
  obtain ⟨c, hrun, hc⟩ := look_any h s hs
  rw [hm] at hrun
  rw [atKey_of_not_has hm] at hc
  unfold i64 at hc
  injection hc with hc
  injection hc with _ hc
  rw [hc]; exact hrun
end Go.Proofs.YbulkdjugFmt.lawS5544AWhole
