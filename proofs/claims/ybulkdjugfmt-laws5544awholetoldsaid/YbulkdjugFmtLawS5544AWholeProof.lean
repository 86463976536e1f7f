/-
  THE PROOF OF 'Rows.LawS5544AWholeToldSaid': the told card, from nothing ('Claim7.holds_of_told_any').
-/
import Derived.Test.YbulkdjugFmtRows
import Derived.Test.YbulkdjugFmtCards
import Derived.Test.YbulkdjugFmtWalksC
import Derived.ProofKit
import Derived.OpenShut
import Derived.SliceStrings
import Derived.ChangeSlices
import Derived.ChangeMaps5
import Derived.Stop.JoinedAt
import Derived.Stop.JoinedTold
import Derived.SevenToldRow
namespace Go.Proofs.YbulkdjugFmt.lawS5544AWhole
open Go.ChangeMaps Go.ChangeShapes Go.WideShapes Go.ChangeAt Go.WideMaps Go.WideElems Go.RowKit
open Go.Extern.Stop Go.Stop Go.Extern

theorem own : ownKnob Ybaf.prog.godebug = none := by kernel_rfl
theorem cells3 : Ybaf.prog.cellsOf 3 = 1 := by kernel_rfl
theorem cells9 : Ybaf.prog.cellsOf 9 = 1 := by kernel_rfl
theorem laidOut : laidOutB Ybaf.prog = true := by kernel_rfl
theorem laidOutP : laidOutB Ybaf.pinned.checked.prog = true := by kernel_rfl
theorem stops : Ybaf.pinned.checked.prog.stops = ["fmt.errorf"] := by kernel_rfl
theorem stopKnobs : Ybaf.pinned.checked.prog.stopKnobs = [] := by kernel_rfl
theorem quiet (os : Os) : Stop.quiet Ybaf.pinned.checked.prog os := by
  intro k hk
  rw [stopKnobs] at hk
  cases hk

theorem int_range {n : Int} (h : (Lit.int .i64 n).wf = true) : -9223372036854775808 ≤ n ∧ n ≤ 9223372036854775807 := by
  simpa [Lit.wf, IntKind.min, IntKind.max, IntKind.signed, IntKind.bits] using h

set_option maxRecDepth 100000 in
theorem lifted (os : Os) (started : os.Started) (H : Type) (enc : TypeId × Value → H) :
    ReturnsInTold none {} Ybaf.checked os 3 .any Input.okWide ((OpenSpec.ofChange Rows.lawS5544AWholeSpec).preRow enc Ybaf.prog Ybaf.f3 [] false [])
      (fun F => ((OpenSpec.ofChange Rows.lawS5544AWholeSpec).at F).post enc Ybaf.prog Ybaf.f3 false true false false) (aloneAtReturn Ybaf.prog) nothingAlways := by
  refine returnsInTold_of_row (C := Ybaf.checked) (s := OpenSpec.ofChange Rows.lawS5544AWholeSpec) (by kernel_rfl) own started (by kernel_rfl) Ybaf.func3
    (OpenSpec.witness_stopped (enc := enc) (C := Ybaf.checked) false ⟨#[], #[.slice none 0 0, .string ⟨#[]⟩, .int .i64 0, .int .i64 0, .slice none 0 0], []⟩ 8 (by kernel_rfl) (by kernel_rfl) (by kernel_rfl) (by kernel_rfl)) ?_
  intro F W base args ds gs before _ hF hval0 hW _ _ _ _ _
  have hval : ∀ (j : Nat) t v, Ybaf.f3.params[j]? = some t → args[j]? = some v → Value.okWide Ybaf.prog W .any base t v := hval0
  have hW' := hW
  obtain ⟨p, q, hA0, hV, rfl, hfz, hnd⟩ := hW
  have hA : DataW.TrodAll enc Ybaf.prog W 0 (fun _ => true) true Ybaf.f3.params.toList args.toList ds p := hA0
  rw [Ybaf.params3] at hA hval
  obtain ⟨v0, vs0, d0, ds0, p0, q0, hargs, rfl, rfl, h0, hr0⟩ := trodAll_cons hA
  obtain ⟨v1, vs1, d1, ds1, p1, q1, rfl, rfl, rfl, h1, hr1⟩ := trodAll_cons hr0
  obtain ⟨v2, vs2, d2, ds2, p2, q2, rfl, rfl, rfl, h2, hr2⟩ := trodAll_cons hr1
  obtain ⟨v3, vs3, d3, ds3, p3, q3, rfl, rfl, rfl, h3, hr3⟩ := trodAll_cons hr2
  obtain ⟨v4, vs4, d4, ds4, p4, q4, rfl, rfl, rfl, h4, hr4⟩ := trodAll_cons hr3
  obtain ⟨rfl, rfl, rfl⟩ := trodAll_nil hr4
  obtain rfl : args = #[v0, v1, v2, v3, v4] := by
    cases args
    simp only at hargs
    rw [hargs]
  obtain ⟨rfl, rfl⟩ := trodVars_none hV
  obtain ⟨nm, rfl, rfl, rfl, hnm⟩ := open_string Ybaf.underlying9 (hval 1 9 v1 rfl rfl) h1
  obtain ⟨wt, rfl, rfl, rfl, wwt⟩ := open_int Ybaf.underlying3 (hval 2 3 v2 rfl rfl) h2
  obtain ⟨k, rfl, rfl, rfl, wk⟩ := open_int Ybaf.underlying3 (hval 3 3 v3 rfl rfl) h3
  obtain ⟨a0, len, cap, rfl⟩ := okWide_slice Ybaf.underlying22 (hval 0 22 v0 rfl rfl)
  obtain ⟨m0, ml, mc, rfl⟩ := okWide_slice Ybaf.underlying23 (hval 4 23 v4 rfl rfl)
  have h0k := h0
  have h4k := h4
  obtain ⟨fuel0, hf0⟩ := h0
  obtain ⟨fuel4, hf4⟩ := h4
  have hlt0 : ∀ x ∈ p0, x.block < W.heap.size := fun x hx => hW'.lt x (by simp [hx])
  have hlt4 : ∀ x ∈ p4, x.block < W.heap.size := fun x hx => hW'.lt x (by simp [hx])
  clear hA0 hval0 hA hr0 hr1 hr2 hr3 hr4
  -- WHAT THE TWO SLICES GIVE
  obtain ⟨ss, hlen, hss, hz⟩ : ∃ ss : List ByteArray, len ≤ 9223372036854775807 ∧ (∀ i, (ss.getD i ⟨#[]⟩).size ≤ maxLen) ∧ ∀ i, i < len → ∃ b o, a0 = some ⟨b, o, none⟩ ∧ b < W.heap.size ∧ W.cell? ⟨b, o + i, none⟩ = some (.string (ss.getD i ⟨#[]⟩)) := by
    rcases open_strings Ybaf.underlying22 Ybaf.underlying9 cells9 hf0 with ⟨hcs, _⟩ | ⟨a, len', cap', zs, hcs, _, hl, hm, hzl, _, hcell, hsz⟩
    · simp [Value.cells] at hcs
      obtain ⟨rfl, rfl, rfl⟩ := hcs
      exact ⟨[], by omega, fun _ => Nat.zero_le _, fun i h => absurd h (by omega)⟩
    · simp [Value.cells] at hcs
      obtain ⟨rfl, rfl, rfl⟩ := hcs
      simp only [if_true] at hzl
      have hm' := hm
      unfold maxLen at hm'
      refine ⟨zs, by omega, fun i => ?_, fun i hi => ?_⟩
      · rw [List.getD_eq_getElem?_getD]
        cases hg : zs[i]? with
        | none => exact Nat.zero_le _
        | some y => exact hsz y (List.mem_of_getElem? hg)
      · obtain ⟨b, off, spot⟩ := a
        have hspot : spot = none := by simpa [Addr.add] using World.cell?_spot (hcell 0 (by omega))
        subst hspot
        have hc := hcell i (by omega)
        rw [add_plain] at hc
        exact ⟨b, off, rfl, cell_lt hc, hc⟩
  obtain ⟨xs, rfl, hml, hmo, hxs⟩ : ∃ xs : List Int, ml = xs.length ∧ xs.length ≤ 9223372036854775807 ∧ (m0 = none → xs.length = 0) ∧ IntsAt W m0 xs := by
    rcases open_ints Ybaf.underlying23 Ybaf.underlying3 cells3 hf4 with ⟨hcs, _⟩ | ⟨a, len', cap', zs, hcs, _, hl, hm, hzl, _, hcell, hsz⟩
    · simp [Value.cells] at hcs
      obtain ⟨rfl, rfl, rfl⟩ := hcs
      exact ⟨[], rfl, by simp, fun _ => rfl, fun i h => absurd h (by simp)⟩
    · simp [Value.cells] at hcs
      obtain ⟨rfl, rfl, rfl⟩ := hcs
      simp only [if_true] at hzl
      have hm' := hm
      unfold maxLen at hm'
      have hlt : (zs.take ml).length = ml := by simp; omega
      refine ⟨zs.take ml, hlt.symm, by omega, (fun h => by cases h), fun i hi => ?_⟩
      obtain ⟨b, off, spot⟩ := a
      have hspot : spot = none := by simpa [Addr.add] using World.cell?_spot (hcell 0 (by omega))
      subst hspot
      have hc := hcell i (by omega)
      rw [add_plain] at hc
      have hg : (zs.take ml).getD i 0 = zs.getD i 0 := by
        rw [List.getD_eq_getElem?_getD, List.getD_eq_getElem?_getD, List.getElem?_take_of_lt (by omega)]
      rw [hg]
      exact ⟨b, off, rfl, cell_lt hc, hc⟩
  refine (law_any a0 len cap ss nm wt k m0 mc xs W hlen hml hnm hss hz hmo hxs (int_range wwt) (int_range wk)).mono fun e W' ⟨he, hB⟩ => ?_
  subst he
  refine ⟨_, rfl, _, _, _, [], p0 ++ ([] ++ ([] ++ ([] ++ (p4 ++ [])))), [], hW', ?_, ?_, rfl, hB.frame _, fun h => by cases h⟩
  · exact trodAll_mk1 (shut_bool Ybaf.underlying4 _)
  · exact trodAll_cons_mk (Below.trod laidOut (by kernel_rfl) (of_decide_eq_true (by kernel_rfl)) h0k hB hlt0)
      (trodAll_cons_mk (shut_string Ybaf.underlying9 hnm) (trodAll_cons_mk (shut_int Ybaf.underlying3 wwt) (trodAll_cons_mk (shut_int Ybaf.underlying3 wk)
        (trodAll_cons_mk (Below.trod laidOut (by kernel_rfl) (of_decide_eq_true (by kernel_rfl)) h4k hB hlt4) rfl))))

/-- THE TOLD CARD. -/
theorem proved : Rows.LawS5544AWholeToldSaid :=
  Claim7.holds_of_told_any 3 Ybaf.f3 "fmt.errorf" [] [] _ _ _ (by kernel_rfl) rfl rfl rfl laidOutP (by kernel_rfl) rfl ⟨rfl, rfl, rfl, rfl, rfl, rfl, rfl⟩ rfl rfl (by kernel_rfl) (by kernel_rfl) Ybaf.func3 (by kernel_rfl)
    (of_decide_eq_true (by kernel_rfl)) (by unfold Func.isWrapper; first | (rw [if_pos (by decide +kernel)]; kernel_rfl) | (rw [if_neg (by decide +kernel)]; exact ⟨rfl, rfl⟩)) stops.symm rfl stopKnobs.symm (by kernel_rfl)
    (by kernel_rfl) (by kernel_rfl) (by kernel_rfl) (by kernel_rfl) (by kernel_rfl) (by kernel_rfl) (by kernel_rfl) (by kernel_rfl) (by kernel_rfl) rfl (by kernel_rfl) rfl rfl
    rfl rfl
    rfl (by kernel_rfl) (by kernel_rfl) (by kernel_rfl) (by decide) (by kernel_rfl)
    (OpenClaim.moreEntering_of (by kernel_rfl) (by kernel_rfl) (by kernel_rfl) (by kernel_rfl) (by kernel_rfl) (by kernel_rfl) (by kernel_rfl) (by kernel_rfl) (by kernel_rfl) (by kernel_rfl))
    ⟨_, WideRow.started_initial, quiet _⟩
    (fun os started _ H enc _ => lifted os started H enc)
end Go.Proofs.YbulkdjugFmt.lawS5544AWhole
