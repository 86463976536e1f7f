/-
  THE PLAIN LAWS OF 5540C: no Go in sight: how many decimal digits a number has, by the three ways of the program's text.
-/
import Derived.Lib.ItoaNum
namespace Go.Proofs.YbulkdjscDoor.lawS5540CWhole
open Go.Lib

/-- How many decimal digits a has: none for zero. -/
def dgz (a : Nat) : Nat := if a = 0 then 0 else nDigits a

theorem dgz_zero : dgz 0 = 0 := rfl
theorem dgz_step (a : Nat) (h : 1 ≤ a) : dgz a = dgz (a / 10) + 1 := by
  unfold dgz
  rw [if_neg (by omega)]
  by_cases h10 : a < 10
  · rw [nDigits_small h10, if_pos (by omega)]
  · rw [nDigits_big h10, if_neg (by omega)]
theorem dgz_unique (k a : Nat) (h1 : 10 ^ k ≤ a) (h2 : a < 10 ^ (k + 1)) : dgz a = k + 1 := by
  unfold dgz
  have : 1 ≤ 10 ^ k := Nat.one_le_pow _ _ (by decide)
  rw [if_neg (by omega)]
  exact nDigits_unique k a h1 h2
/-- A uint64 has at most 20 digits. -/
theorem dgz_lt : ∀ (k a : Nat), a < 10 ^ k → dgz a ≤ k
  | 0, a, h => by
    have : a = 0 := by simpa using h
    subst this; exact Nat.le_refl _
  | k + 1, a, h => by
    by_cases h0 : a = 0
    · subst h0; rw [dgz_zero]; omega
    · rw [dgz_step a (by omega)]
      rw [Nat.pow_succ] at h
      have := dgz_lt k (a / 10) (by omega)
      omega
theorem dgz_le (a : Nat) (h : a < 18446744073709551616) : dgz a ≤ 20 := dgz_lt 20 a (by omega)

/-- The guess out of the length in bits. -/
def gs (b : Nat) : Nat := b * 1233 / 4096

theorem gs_tab : ∀ L : Fin 65, 1 ≤ L.val → 2 ^ L.val ≤ 10 ^ (gs L.val + 1) ∧ (1 ≤ gs L.val → 10 ^ (gs L.val - 1) ≤ 2 ^ (L.val - 1)) ∧ gs L.val ≤ 19 := by decide +kernel

theorem bitLen_le64 (u : Nat) (h : u < 18446744073709551616) : bitLen u ≤ 64 := bitLen_le u 64 (Nat.le_refl _) h
theorem gs_le (u : Nat) (h : u < 18446744073709551616) : gs (bitLen u) ≤ 19 := by
  have := bitLen_le64 u h
  unfold gs; omega
/-- THE GUESS, MENDED BY ONE COMPARISON, IS THE NUMBER OF DIGITS. -/
theorem gs_eq (u : Nat) (h : u < 18446744073709551616) : dgz u = gs (bitLen u) + if 10 ^ gs (bitLen u) ≤ u then 1 else 0 := by
  by_cases h0 : u = 0
  · subst h0
    have e : gs (bitLen 0) = 0 := by decide +kernel
    rw [e]; simp [dgz]
  obtain ⟨a, b, c⟩ := bitLenAux_bounds 64 u h h0
  have hL := bitLen_le64 u h
  unfold bitLen at hL ⊢
  generalize bitLenAux 64 u = L at a b c hL ⊢
  obtain ⟨t1, t2, t3⟩ := gs_tab ⟨L, by omega⟩ a
  simp only at t1 t2 t3
  generalize gs L = q at t1 t2 t3 ⊢
  by_cases hq : 10 ^ q ≤ u
  · rw [if_pos hq, dgz_unique q u hq (by omega)]
  · rw [if_neg hq]
    have hq1 : 1 ≤ q := by
      rcases Nat.eq_zero_or_pos q with e | e
      · subst e; simp at hq; omega
      · exact e
    obtain ⟨r, rfl⟩ : ∃ r, q = r + 1 := ⟨q - 1, by omega⟩
    have := t2 hq1
    simp only [Nat.add_sub_cancel] at this
    rw [dgz_unique r u (by omega) (by omega)]

/-- The powers of ten that a uint64 holds. -/
def pows : List Int := [1, 10, 100, 1000, 10000, 100000, 1000000, 10000000, 100000000, 1000000000, 10000000000, 100000000000, 1000000000000, 10000000000000, 100000000000000, 1000000000000000, 10000000000000000, 100000000000000000, 1000000000000000000, 10000000000000000000]
theorem pows_tab : ∀ k : Fin 20, pows.getD k.val 0 = ((10 ^ k.val : Nat) : Int) := by decide +kernel
theorem pows_at (k : Nat) (h : k < 20) : pows.getD k 0 = ((10 ^ k : Nat) : Int) := pows_tab ⟨k, h⟩
end Go.Proofs.YbulkdjscDoor.lawS5540CWhole
