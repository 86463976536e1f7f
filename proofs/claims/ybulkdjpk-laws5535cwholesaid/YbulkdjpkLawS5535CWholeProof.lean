/-
  THE PROOF OF 'Rows.LawS5535CWholeSaid': the frame by the guide's program (proof-skeleton.mjs); the walk by hand.
-/
import Derived.Test.YbulkdjpkRows
import Derived.WalkKit
import Derived.ProofKit
import Derived.OpenShut
import Derived.ShutString
import Derived.Test.YbulkdjpkCWalks
import Derived.Test.YbulkdjpkCCat
namespace Go.Proofs.Ybulkdjpk.lawS5535CWhole
open Go.ChangeShapes Go.WideShapes Go.ChangeAt Go.RowKit
open Go.ChangeMaps (open_string shut_string)
set_option linter.unusedVariables false      -- a walk need not use every 'w<i>' (that an integer argument fits its kind)

theorem own : ownKnob Yba.prog.godebug = none := by kernel_rfl

/-! ### THE PLAIN LAW: what the loop joins is what the layout's function writes -/
theorem skip_eq (opn member colon : ByteArray) : catS [opn, member, ⟨#[34]⟩, ⟨#[107, 105, 110, 100]⟩, ⟨#[34]⟩, colon, ⟨#[34]⟩, ⟨#[115, 107, 105, 112]⟩, ⟨#[34]⟩, ⟨#[44]⟩, member, ⟨#[34]⟩, ⟨#[112, 97, 114, 101, 110, 116, 95, 104, 101, 105, 103, 104, 116]⟩, ⟨#[34]⟩, colon] = skipS opn member colon := by
  have h0 : ∀ x : ByteArray, (⟨#[]⟩ : ByteArray) ++ x = x := fun x => ByteArray.empty_append
  simp only [catS, skipS, kdS, nmS, List.foldl_cons, List.foldl_nil, h0, ByteArray.append_assoc]
theorem endo_eq (opn member colon : ByteArray) : catS [opn, member, ⟨#[34]⟩, ⟨#[107, 105, 110, 100]⟩, ⟨#[34]⟩, colon, ⟨#[34]⟩, ⟨#[101, 110, 100, 111, 114, 115, 101, 109, 101, 110, 116]⟩, ⟨#[34]⟩, ⟨#[44]⟩, member, ⟨#[34]⟩, ⟨#[112, 97, 114, 101, 110, 116]⟩, ⟨#[34]⟩, colon, ⟨#[34]⟩] = endoS opn member colon := by
  have h0 : ∀ x : ByteArray, (⟨#[]⟩ : ByteArray) ++ x = x := fun x => ByteArray.empty_append
  simp only [catS, endoS, kdS, nmS, List.foldl_cons, List.foldl_nil, h0, ByteArray.append_assoc]
theorem par_eq (member colon : ByteArray) : catS [⟨#[34]⟩, ⟨#[44]⟩, member, ⟨#[34]⟩, ⟨#[112, 97, 114, 101, 110, 116, 95, 104, 101, 105, 103, 104, 116]⟩, ⟨#[34]⟩, colon] = parS member colon := by
  have h0 : ∀ x : ByteArray, (⟨#[]⟩ : ByteArray) ++ x = x := fun x => ByteArray.empty_append
  simp only [catS, parS, nmS, List.foldl_cons, List.foldl_nil, h0, ByteArray.append_assoc]
theorem tar_eq (member colon : ByteArray) : catS [⟨#[44]⟩, member, ⟨#[34]⟩, ⟨#[116, 97, 114, 103, 101, 116, 95, 104, 101, 105, 103, 104, 116]⟩, ⟨#[34]⟩, colon] = tarS member colon := by
  have h0 : ∀ x : ByteArray, (⟨#[]⟩ : ByteArray) ++ x = x := fun x => ByteArray.empty_append
  simp only [catS, tarS, nmS, List.foldl_cons, List.foldl_nil, h0, ByteArray.append_assoc]

theorem len1 (a0 a1 a2 : ByteArray) (h : a0.size + a1.size + a2.size ≤ 1048576) : lenS [a0, a1, ⟨#[34]⟩, ⟨#[107, 105, 110, 100]⟩, ⟨#[34]⟩, a2, ⟨#[34]⟩, ⟨#[115, 107, 105, 112]⟩, ⟨#[34]⟩, ⟨#[44]⟩, a1, ⟨#[34]⟩, ⟨#[112, 97, 114, 101, 110, 116, 95, 104, 101, 105, 103, 104, 116]⟩, ⟨#[34]⟩, a2] ≤ 1000000000 := by
  have e0 : (⟨#[34]⟩ : ByteArray).size = 1 := rfl
  have e1 : (⟨#[44]⟩ : ByteArray).size = 1 := rfl
  have e2 : (⟨#[107, 105, 110, 100]⟩ : ByteArray).size = 4 := rfl
  have e3 : (⟨#[115, 107, 105, 112]⟩ : ByteArray).size = 4 := rfl
  have e4 : (⟨#[112, 97, 114, 101, 110, 116, 95, 104, 101, 105, 103, 104, 116]⟩ : ByteArray).size = 13 := rfl
  simp only [lenS_cons, lenS_nil, e0, e1, e2, e3, e4]; omega
theorem len2 (a0 a1 a2 : ByteArray) (h : a0.size + a1.size + a2.size ≤ 1048576) : lenS [a0, a1, ⟨#[34]⟩, ⟨#[107, 105, 110, 100]⟩, ⟨#[34]⟩, a2, ⟨#[34]⟩, ⟨#[101, 110, 100, 111, 114, 115, 101, 109, 101, 110, 116]⟩, ⟨#[34]⟩, ⟨#[44]⟩, a1, ⟨#[34]⟩, ⟨#[112, 97, 114, 101, 110, 116]⟩, ⟨#[34]⟩, a2, ⟨#[34]⟩] ≤ 1000000000 := by
  have e0 : (⟨#[34]⟩ : ByteArray).size = 1 := rfl
  have e1 : (⟨#[44]⟩ : ByteArray).size = 1 := rfl
  have e2 : (⟨#[107, 105, 110, 100]⟩ : ByteArray).size = 4 := rfl
  have e5 : (⟨#[101, 110, 100, 111, 114, 115, 101, 109, 101, 110, 116]⟩ : ByteArray).size = 11 := rfl
  have e6 : (⟨#[112, 97, 114, 101, 110, 116]⟩ : ByteArray).size = 6 := rfl
  simp only [lenS_cons, lenS_nil, e0, e1, e2, e5, e6]; omega
theorem len3 (a1 a2 : ByteArray) (h : a1.size + a2.size ≤ 1048576) : lenS [⟨#[34]⟩, ⟨#[44]⟩, a1, ⟨#[34]⟩, ⟨#[112, 97, 114, 101, 110, 116, 95, 104, 101, 105, 103, 104, 116]⟩, ⟨#[34]⟩, a2] ≤ 1000000000 := by
  have e0 : (⟨#[34]⟩ : ByteArray).size = 1 := rfl
  have e1 : (⟨#[44]⟩ : ByteArray).size = 1 := rfl
  have e4 : (⟨#[112, 97, 114, 101, 110, 116, 95, 104, 101, 105, 103, 104, 116]⟩ : ByteArray).size = 13 := rfl
  simp only [lenS_cons, lenS_nil, e0, e1, e4]; omega
theorem len4 (a1 a2 : ByteArray) (h : a1.size + a2.size ≤ 1048576) : lenS [⟨#[44]⟩, a1, ⟨#[34]⟩, ⟨#[116, 97, 114, 103, 101, 116, 95, 104, 101, 105, 103, 104, 116]⟩, ⟨#[34]⟩, a2] ≤ 1000000000 := by
  have e0 : (⟨#[34]⟩ : ByteArray).size = 1 := rfl
  have e1 : (⟨#[44]⟩ : ByteArray).size = 1 := rfl
  have e7 : (⟨#[116, 97, 114, 103, 101, 116, 95, 104, 101, 105, 103, 104, 116]⟩ : ByteArray).size = 13 := rfl
  simp only [lenS_cons, lenS_nil, e0, e1, e7]; omega

theorem grown_trans {a b c : World} (h1 : Grown a b) (h2 : Grown b c) : Grown a c :=
  ⟨World.keptBut_trans h1.1 (World.keptBut_trans h2.1 (World.keptBut_refl _ _)), fun x => (h2.2.1 x).trans (h1.2.1 x), Nat.le_trans h1.2.2 h2.2.2⟩

/-! ### THE WALK -/
set_option maxHeartbeats 1000000 in
theorem walk (a0 : ByteArray) (a1 : ByteArray) (a2 : ByteArray) (a3 : ByteArray) (w0 : a0.size ≤ 140737488351232) (w1 : a1.size ≤ 140737488351232) (w2 : a2.size ≤ 140737488351232) (w3 : a3.size ≤ 140737488351232) (w : World) :
    Calls Yba.prog 4 #[.string a0, .string a1, .string a2, .string a3] w fun e w' => e = .returned (.bool true) ∧ Grown w w' := by
  by_cases hbig : (1048576 : Int) < (a0.size : Int) + a1.size + a2.size + a3.size
  · go_enter Yba.func4, Yba.ntmps4
    go_wp2
    go_ret
    exact ⟨rfl, Grown.refl _⟩
  · go_enter Yba.func4, Yba.ntmps4
    go_wp2_with fail
    refine (cat_any [a0, a1, ⟨#[34]⟩, ⟨#[107, 105, 110, 100]⟩, ⟨#[34]⟩, a2, ⟨#[34]⟩, ⟨#[115, 107, 105, 112]⟩, ⟨#[34]⟩, ⟨#[44]⟩, a1, ⟨#[34]⟩, ⟨#[112, 97, 114, 101, 110, 116, 95, 104, 101, 105, 103, 104, 116]⟩, ⟨#[34]⟩, a2] 15 15 w.heap.size _ rfl (by simp) (len1 a0 a1 a2 (by omega)) (cells_new w _ 9 _ rfl)).mono ?_
    rw [skip_eq]
    rintro e w' ⟨rfl, rfl⟩
    go_wp2_with fail
    refine (cat_any [a0, a1, ⟨#[34]⟩, ⟨#[107, 105, 110, 100]⟩, ⟨#[34]⟩, a2, ⟨#[34]⟩, ⟨#[101, 110, 100, 111, 114, 115, 101, 109, 101, 110, 116]⟩, ⟨#[34]⟩, ⟨#[44]⟩, a1, ⟨#[34]⟩, ⟨#[112, 97, 114, 101, 110, 116]⟩, ⟨#[34]⟩, a2, ⟨#[34]⟩] 16 16 (w.heap.size + 1) _ rfl (by simp) (len2 a0 a1 a2 (by omega)) (cells_new _ _ 9 _ (by simp))).mono ?_
    rw [endo_eq]
    rintro e w' ⟨rfl, rfl⟩
    go_wp2_with fail
    refine (cat_any [⟨#[34]⟩, ⟨#[44]⟩, a1, ⟨#[34]⟩, ⟨#[112, 97, 114, 101, 110, 116, 95, 104, 101, 105, 103, 104, 116]⟩, ⟨#[34]⟩, a2] 7 7 (w.heap.size + 1 + 1) _ rfl (by simp) (len3 a1 a2 (by omega)) (cells_new _ _ 9 _ (by simp))).mono ?_
    rw [par_eq]
    rintro e w' ⟨rfl, rfl⟩
    go_wp2_with fail
    refine (cat_any [⟨#[44]⟩, a1, ⟨#[34]⟩, ⟨#[116, 97, 114, 103, 101, 116, 95, 104, 101, 105, 103, 104, 116]⟩, ⟨#[34]⟩, a2] 6 6 (w.heap.size + 1 + 1 + 1) _ rfl (by simp) (len4 a1 a2 (by omega)) (cells_new _ _ 9 _ (by simp))).mono ?_
    rw [tar_eq]
    rintro e w' ⟨rfl, rfl⟩
    go_wp2_with fail
    refine (layout_any a0 a1 a2 a3 _ (by omega) (by omega) (by omega)).mono ?_
    generalize skipS a0 a1 a2 = S1
    generalize endoS a0 a1 a2 = S2
    generalize parS a1 a2 = S3
    generalize tarS a1 a2 = S4
    rintro e w' ⟨rfl, hg⟩
    have hg2 : Grown w w' := by
      refine grown_trans ?_ hg
      repeat (first | exact Grown.refl _ | apply Grown.alloc)
    clear hg
    go_wp2
    go_ret
    exact ⟨rfl, hg2.alloc _ _⟩

/-! ### THE ROW's STEP: WRITTEN OUT: LEAVE IT -/
set_option maxRecDepth 100000 in
theorem lifted (os : Os) (started : os.Started) (H : Type) (enc : TypeId × Value → H) :
    ReturnsInHanded {} Yba.checked os 4 .any (Rows.lawS5535CWholeSpec.pre6 enc Yba.prog Yba.f4 Rows.lawS5535CWholeRow.domain false) (Rows.lawS5535CWholeSpec.post enc Yba.prog Yba.f4 false true false false) := by
  refine returnsInHanded_of_change_sized (C := Yba.checked) own started (by kernel_rfl) Yba.func4
    (ChangeSpec.witness6 (enc := enc) (C := Yba.checked) false ⟨#[], #[.string ByteArray.empty, .string ByteArray.empty, .string ByteArray.empty, .string ByteArray.empty], []⟩ 8 (by kernel_rfl) (by kernel_rfl) (by kernel_rfl) (by kernel_rfl)) ?_
  intro W base args ds gs before hval0 hW hcnd hsz0 _
  have hsz : (DataW.weightsEach Yba.prog (Yba.f4.params.toList ++ Rows.lawS5535CWholeSpec.plain.varTypes Yba.prog) (ds ++ gs)).all (· ≤ reachBytes) = true := hsz0
  have hval : ∀ (j : Nat) t v, Yba.f4.params[j]? = some t → args[j]? = some v → Value.okWide Yba.prog W .any base t v := hval0
  have hW' := hW
  obtain ⟨p, q, hA0, hV, rfl, hfz, hnd⟩ := hW
  have hA : DataW.TrodAll enc Yba.prog W 0 (fun _ => true) true Yba.f4.params.toList args.toList ds p := hA0
  rw [Yba.params4] at hA hval hsz
  obtain ⟨v0, vs0, d0, ds0, p0, q0, hargs, rfl, rfl, h0, r0⟩ := trodAll_cons hA
  obtain ⟨v1, vs1, d1, ds1, p1, q1, rfl, rfl, rfl, h1, r1⟩ := trodAll_cons r0
  obtain ⟨v2, vs2, d2, ds2, p2, q2, rfl, rfl, rfl, h2, r2⟩ := trodAll_cons r1
  obtain ⟨v3, vs3, d3, ds3, p3, q3, rfl, rfl, rfl, h3, r3⟩ := trodAll_cons r2
  obtain ⟨rfl, rfl, rfl⟩ := trodAll_nil r3
  obtain rfl : args = #[v0, v1, v2, v3] := by cases args; simp_all
  obtain ⟨rfl, rfl⟩ := trodVars_none hV
  obtain ⟨a0, rfl, rfl, rfl, w0⟩ := open_string Yba.underlying9 (hval 0 9 v0 rfl rfl) h0
  obtain ⟨a1, rfl, rfl, rfl, w1⟩ := open_string Yba.underlying9 (hval 1 9 v1 rfl rfl) h1
  obtain ⟨a2, rfl, rfl, rfl, w2⟩ := open_string Yba.underlying9 (hval 2 9 v2 rfl rfl) h2
  obtain ⟨a3, rfl, rfl, rfl, w3⟩ := open_string Yba.underlying9 (hval 3 9 v3 rfl rfl) h3
  clear hA0 hval0 hsz0
  simp only [List.append_nil] at hW'
  have z0 : a0.size ≤ reachBytes := sized_string hsz (j := 0) (t := 9) rfl rfl
  have z1 : a1.size ≤ reachBytes := sized_string hsz (j := 1) (t := 9) rfl rfl
  have z2 : a2.size ≤ reachBytes := sized_string hsz (j := 2) (t := 9) rfl rfl
  have z3 : a3.size ≤ reachBytes := sized_string hsz (j := 3) (t := 9) rfl rfl
  refine (walk a0 a1 a2 a3 z0 z1 z2 z3 W).mono fun e W' ⟨he, hg⟩ => ?_
  subst he
  exact ⟨_, rfl, post_of_same (pa := []) (pv := []) hW' (fun _ _ _ => (trodAll_cons_mk (shut_bool Yba.underlying4 _) trodAll_mk0)) (fun sp _ => (trodAll_cons_mk (shut_string Yba.underlying9 w0) (trodAll_cons_mk (shut_string Yba.underlying9 w1) (trodAll_cons_mk (shut_string Yba.underlying9 w2) (trodAll_cons_mk (shut_string Yba.underlying9 w3) trodAll_mk0))))) (fun _ _ => rfl) rfl
    (hg.frame _) hg.2.1 (ok_one (by kernel_rfl) rfl (okWide_bool_mk Yba.underlying4 _))⟩

theorem over : Rows.lawS5535CWholeRow.holds Yba.pinned (OpenSpec.ofChange Rows.lawS5535CWholeSpec) :=
  OpenClaim.holds_of_wide 4 Yba.f4 rfl rfl rfl rfl rfl rfl rfl ⟨rfl, rfl, rfl, rfl, rfl⟩ rfl rfl rfl rfl rfl (by kernel_rfl) Yba.func4 (by kernel_rfl)
    (of_decide_eq_true (by kernel_rfl)) (by unfold Func.isWrapper; first | (rw [if_pos (by decide +kernel)]; kernel_rfl) | (rw [if_neg (by decide +kernel)]; exact ⟨rfl, rfl⟩))
    (fun os started H enc _ => lifted os started H enc)

/-- ████ THE STATEMENT ████ -/
theorem proved : Rows.LawS5535CWholeSaid :=
  over
end Go.Proofs.Ybulkdjpk.lawS5535CWhole
