/-
  THE PROOF OF 'Rows.LawS5540CWholeCardSaid': the row, then the tied card.
-/
import Derived.Test.YbulkdjscDoorRows
import Derived.Test.YbulkdjscDoorTie
import Derived.Test.YbulkdjscDoorCards
import Derived.Test.YbulkdjscDoorWalksC
import Derived.ProofKit
import Derived.LaidMore
import Derived.OpenShut
import Derived.OpenVars
import Derived.Lib.LaidTab
import Derived.Stop.Joined
import Derived.SevenTiedAt
namespace Go.Proofs.YbulkdjscDoor.lawS5540CWhole
open Go.ChangeShapes Go.WideShapes Go.ChangeAt Go.WideMaps Go.WideElems Go.RowKit

/-- The listed variable: its name, off the given row. -/
def vname : String := Rows.lawS5540CWholeSpec.vars.headD ""
theorem own : ownKnob Ybad.prog.godebug = none := by kernel_rfl
theorem gPow : Ybad.prog.globalNamed vname = some 0 := by kernel_rfl
theorem tPow : (Ybad.prog.globals[0]?).map (·.type) = some 33 := by kernel_rfl
theorem cells23 : Ybad.prog.cellsOf 23 = 1 := by kernel_rfl
theorem cells33 : Ybad.prog.cellsOf 33 = 20 := by kernel_rfl
theorem laidOut : laidOutB Ybad.prog = true := by kernel_rfl

/-- The door's own heap meets the condition: three closed facts. -/
theorem door_met (os : Os) (args : Array Value) : laidMetH Ybad.prog Rows.lawS5540CWholeRow.laid ((World.doorLaid Ybad.prog 558 os).forCall (fun _ _ => 0) ⟨#[], args, []⟩).memory :=
  laidMetH_of_parts3 (fuel := 8) (laidMet_of_run' 8 (by kernel_rfl) (by kernel_rfl)) (by kernel_rfl) (by kernel_rfl)

theorem pows_of_laid {W : World} (h : laidMetH Ybad.prog Rows.lawS5540CWholeRow.laid W) : PowsAt W := by
  rw [MakeChecks.laidMetH_plain _ _ _ (by kernel_rfl)] at h
  have h' : laidMet Ybad.prog ((vname, Lib.tabData .u64 pows) :: []) W := h
  have hT := Lib.tabIs_of_head gPow tPow Ybad.underlying33 Ybad.underlying23 cells23 cells33 h'
  exact fun k hk => hT.cell gPow k hk

set_option maxRecDepth 100000 in
theorem lifted (os : Os) (started : os.Started) (H : Type) (enc : TypeId × Value → H) :
    ReturnsInHanded {} Ybad.checked os 3 .any (fun w args => (Rows.lawS5540CWholeSpec.pre enc Ybad.prog Ybad.f3 [] false w args ∧ laidMetH Ybad.prog Rows.lawS5540CWholeRow.laid w) ∧ sizedMet enc Ybad.prog Ybad.f3 (OpenSpec.ofChange Rows.lawS5540CWholeSpec) false w args)
      (Rows.lawS5540CWholeSpec.post enc Ybad.prog Ybad.f3 false true false false) := by
  refine returnsInHanded_of_change_and (C := Ybad.checked) (X := fun w _ => laidMetH Ybad.prog Rows.lawS5540CWholeRow.laid w) (fun _ _ _ hh h => h.of_heap hh) own started (by kernel_rfl) Ybad.func3
    (ChangeSpec.witness_shaped (enc := enc) (C := Ybad.checked) (os := os) (X := fun w _ => laidMetH Ybad.prog Rows.lawS5540CWholeRow.laid w) false (World.doorLaid Ybad.prog 558 os) #[.int .i64 0, .slice none 0 0, .int .i64 0] 8 rfl (World.shaped_of_RefB (by kernel_rfl) (by kernel_rfl)) (by kernel_rfl) (by kernel_rfl) (by kernel_rfl) (door_met os _)) ?_
  intro W base args ds gs before hval0 hW _ _ hL _
  have hval : ∀ (j : Nat) t v, Ybad.f3.params[j]? = some t → args[j]? = some v → Value.okWide Ybad.prog W .any base t v := hval0
  have hW' := hW
  obtain ⟨p, q, hA0, hV0, rfl, hfz, hnd⟩ := hW
  have hA : DataW.TrodAll enc Ybad.prog W 0 (fun _ => true) true Ybad.f3.params.toList args.toList ds p := hA0
  have hV : DataW.TrodVars enc Ybad.prog W (fun _ => true) [vname] gs q := hV0
  rw [Ybad.params3] at hA hval
  obtain ⟨v0, v1, v2, d0, d1, d2, p0, p1, p2, rfl, rfl, rfl, h0, h1, h2⟩ := trodAll_three hA
  obtain ⟨small, rfl, rfl, rfl, ws⟩ := open_int Ybad.underlying2 (hval 0 2 v0 rfl rfl) h0
  obtain ⟨sc, rfl, rfl, rfl, wc⟩ := open_int Ybad.underlying3 (hval 2 3 v2 rfl rfl) h2
  obtain ⟨a0, len, cap, rfl⟩ := okWide_slice Ybad.underlying22 (hval 1 22 v1 rfl rfl)
  have h1k := h1
  obtain ⟨fuel, hf⟩ := h1
  obtain ⟨g1, hgs⟩ : ∃ g1, gs = [g1] := by
    obtain ⟨g, t, cs, fl, d, p', e, _⟩ := trodVars_one hV
    exact ⟨d, e⟩
  subst hgs
  have hps := pows_of_laid hL
  have hb0 : 0 < W.heap.size := cell_lt (hps 0 (by decide))
  have hlt : ∀ x ∈ p1, x.block < W.heap.size := fun x hx => hW'.lt x (by simp [hx])
  have bs : -9223372036854775808 ≤ small ∧ small ≤ 9223372036854775807 := bounds_i64 ws
  have bc : -9223372036854775808 ≤ sc ∧ sc ≤ 9223372036854775807 := bounds_i64 wc
  clear hA0 hV0 hval0
  -- THE WALK, whatever the slice
  have hwalk : Calls Ybad.prog 3 #[.int .i64 small, .slice a0 len cap, .int .i64 sc] W fun e w' => e = .returned (.bool true) ∧ Below W.heap.size W w' := by
    rcases open_ints Ybad.underlying22 Ybad.underlying23 cells23 hf with ⟨hcs, hx⟩ | ⟨a, len', cap', zs, hcs, _, hl, hm, hz, hx, hcell, hwz⟩
    · simp [Value.cells] at hcs
      obtain ⟨rfl, rfl, rfl⟩ := hcs
      exact law_any small sc none 0 0 [] W hps hb0 bs.1 bs.2 bc.1 bc.2 (by omega) (fun i h => absurd h (by omega)) (fun i => by simp)
    · simp [Value.cells] at hcs
      obtain ⟨rfl, rfl, rfl⟩ := hcs
      simp only [if_true] at hz
      unfold maxLen at hm
      refine law_any small sc (some a) len cap zs W hps hb0 bs.1 bs.2 bc.1 bc.2 (by omega) (fun i hi => ?_) (fun i => ?_)
      · obtain ⟨b, off, spot⟩ := a
        have hspot : spot = none := by simpa [Addr.add] using World.cell?_spot (hcell 0 (by omega))
        subst hspot
        exact ⟨b, off, rfl, by rw [← add_plain]; exact hcell i (by omega)⟩
      · have := range_u64 hwz i
        simpa [List.getD] using this
  refine hwalk.mono fun e W' ⟨he, hB⟩ => ?_
  subst he
  refine ⟨_, rfl, _, _, _, [], [] ++ (p1 ++ ([] ++ [])), q, hW', ?_, ?_, ?_, hB.frame _, fun h => by cases h⟩
  · exact trodAll_mk1 (shut_bool Ybad.underlying4 _)
  · exact trodAll_mk3 (shut_int Ybad.underlying2 ws) (Below.trod laidOut (by kernel_rfl) (of_decide_eq_true (by kernel_rfl)) h1k hB hlt) (shut_int Ybad.underlying3 wc)
  · exact Below.trodVars laidOut hB (by kernel_rfl) hV

theorem over : Rows.LawS5540CWholeSaid :=
  OpenClaim.holds_of_wide 3 Ybad.f3 rfl rfl rfl rfl rfl rfl rfl ⟨rfl, rfl, rfl, rfl, rfl⟩ rfl rfl rfl rfl rfl (by kernel_rfl) Ybad.func3 (by kernel_rfl)
    (of_decide_eq_true (by kernel_rfl)) (by unfold Func.isWrapper; first | (rw [if_pos (by decide +kernel)]; kernel_rfl) | (rw [if_neg (by decide +kernel)]; exact ⟨rfl, rfl⟩))
    (fun os started H enc _ => lifted os started H enc)

/-- THE TIED CARD. -/
theorem proved : Rows.LawS5540CWholeCardSaid :=
  Claim7.holds_tied_plain_at .later [] [.called] true (true, "fc084a481b3bee2e322a3cb370470d26429594e025b333b9e792bb035a305ee7") false
    over (fun _ h => by cases h) (by kernel_rfl) (fun _ h => by cases h) lawS5540CWhole_row_tie rfl ⟨rfl, rfl⟩ (by kernel_rfl) rfl
    (fun f fn hf hfn => by
      obtain rfl : f = 3 := Option.some.inj ((show Ybad.prog.funcNamed Rows.lawS5540CWholeRow.func = some 3 by kernel_rfl).symm.trans hf) |>.symm
      obtain rfl : fn = Ybad.f3 := (Option.some.inj (Ybad.func3.symm.trans hfn)).symm
      exact ⟨by kernel_rfl, fun j t ht => by
        rw [Ybad.params3] at ht
        have hm : t ∈ [2, 22, 3] := by simpa using Array.mem_of_getElem? ht
        have hall : ([2, 22, 3].all fun u => !Ybad.prog.wantsStandIn u) = true := by kernel_rfl
        exact (show Ybad.prog.wantsStandIn t = false by simpa using List.all_eq_true.1 hall t hm)⟩)
    (by kernel_rfl)
end Go.Proofs.YbulkdjscDoor.lawS5540CWhole
