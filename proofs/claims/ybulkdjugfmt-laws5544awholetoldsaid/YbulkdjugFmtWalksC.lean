import Derived.Test.YbulkdjugFmtAfter
import Derived.Test.YbulkdjugFmtWalksB
import Derived.WalkSpells
import Derived.Deep.QuietTactic
import Derived.BigQuiet
import Derived.Deep.DeepCutAuto
import Derived.Maps.AppendAt
import Derived.Lib.Builder
namespace Go.Proofs.YbulkdjugFmt.lawS5544AWhole
open Go.RowKit Go.Maps Go.Deep

theorem ptr30 (w : World) (a : Addr) : (binOp .neq 30 (.pointer (some a)) (.pointer (some a))).run Ybaf.prog w = .ok (.bool false) w := by
  obtain ⟨i28, hi, _⟩ := Option.map_eq_some_iff.1 (show (Ybaf.prog.info? 33).map (·.size) = some 5 by kernel_rfl)
  exact Lib.run_neq_ptr_same w a Ybaf.underlying30 hi
theorem info9 : (Ybaf.prog.info? 9).map (fun i => (i.zero, i.size, i.bytes)) = some (some (.string ⟨#[]⟩), 1, 16) := by kernel_rfl

theorem news3 (w : World) (a b c : Value) (t : TypeId) (h1 : a.oneCell' = true) (h2 : b.oneCell' = true) (h3 : c.oneCell' = true) : (∀ j u, [a, b, c][j]? = some u → (w.alloc (.cells #[a, b, c] t)).cell? ((⟨w.heap.size, 0, none⟩ : Addr).add j) = some u) ∧ (∀ u ∈ [a, b, c], u.oneCell' = true) := by
  constructor
  · intro j u hu
    rw [Addr.add_lit, Nat.zero_add, World.cell?_alloc_at _ _ _ _ rfl]
    simpa using hu
  · intro u hu
    simp only [List.mem_cons, List.not_mem_nil, or_false] at hu
    rcases hu with rfl | rfl | rfl <;> assumption

set_option maxRecDepth 100000 in
set_option maxHeartbeats 2000000 in
theorem law_any (ao : Option Addr) (len cap : Nat) (ss : List ByteArray) (nm : ByteArray) (wt k : Int) (mo : Option Addr) (mc : Nat) (xs : List Int) (w : World)
    (hlen : len ≤ 9223372036854775807) (hml : xs.length ≤ 9223372036854775807) (hnm : nm.size ≤ maxLen) (hss : ∀ i, (ss.getD i ⟨#[]⟩).size ≤ maxLen)
    (hz : ∀ i, i < len → ∃ b o, ao = some ⟨b, o, none⟩ ∧ b < w.heap.size ∧ w.cell? ⟨b, o + i, none⟩ = some (.string (ss.getD i ⟨#[]⟩)))
    (hmo : mo = none → xs.length = 0) (hx : IntsAt w mo xs) (_hwt : -9223372036854775808 ≤ wt ∧ wt ≤ 9223372036854775807) (_hk : -9223372036854775808 ≤ k ∧ k ≤ 9223372036854775807) :
    Calls Ybaf.prog 3 #[.slice ao len cap, .string nm, .int .i64 wt, .int .i64 k, .slice mo xs.length mc] w fun e w' => e = .returned (.bool true) ∧ Below w.heap.size w w' := by
  by_cases hbig : 65536 < (len : Int)
  · go_enter Ybaf.func3, Ybaf.ntmps3
    go_wp2
    go_ret
    exact ⟨rfl, Below.refl _ _⟩
  by_cases hbig2 : 65536 < (xs.length : Int)
  · go_enter Ybaf.func3, Ybaf.ntmps3
    go_wp2
    go_ret
    exact ⟨rfl, Below.refl _ _⟩
  have hmm := @run_makeMap Ybaf.prog
  have HZ : Hid (∀ i, i < len → ∃ b o, ao = some ⟨b, o, none⟩ ∧ b < w.heap.size ∧ w.cell? ⟨b, o + i, none⟩ = some (.string (ss.getD i ⟨#[]⟩))) := hz
  have HSS : Hid (∀ i, (ss.getD i ⟨#[]⟩).size ≤ maxLen) := hss
  have HX : Hid (IntsAt w mo xs) := hx
  have HMO : Hid (mo = none → xs.length = 0) := hmo
  clear hz hss hx hmo
  obtain ⟨i9, hi9, hz90, hz91, hz92⟩ := info_parts info9
  obtain ⟨i28, hi28, hz280, hz281, hz282⟩ := info_parts info28
  go_enter Ybaf.func3, Ybaf.ntmps3
  go_wp2_with fail
  go_loopw [12, 13, 46] (fun vK vR i wr => ∃ (kk : Nat) (ks : List ByteArray) (D : DataW Unit), kk ≤ len ∧ i = .int .i64 kk ∧ ks.length ≤ kk ∧ Carry w wr ks D vK vR) (fun _ _ i _ => len - (intOf i).toNat)
  case atStart => exact ⟨0, [], .map [], Nat.zero_le _, rfl, Nat.le_refl _, Carry.start w _ rfl⟩
  case round =>
    obtain ⟨kk, ks, D, hkk, rfl, hle, HC⟩ := hrel
    obtain ⟨aK, cK, hvK, _, _⟩ := row_form HC.keys
    obtain ⟨aR, cR, hvR, _, _⟩ := row_form HC.rules
    subst hvK
    subst hvR
    by_cases hlt : kk < len
    · obtain ⟨b, o, rfl, hb, hc⟩ := HZ.out kk hlt
      have hcr := (HC.bel.cell (p := ⟨b, o + kk, none⟩) hb).trans hc
      have hsz := HSS.out kk
      generalize ss.getD kk ⟨#[]⟩ = s at hcr hsz
      clear hc
      obtain ⟨c, hlook, _⟩ := look_any HC.map s hsz
      by_cases hhas : Maps.has D (kl s) = true
      · rw [hhas] at hlook
        go_wp2_with fail
        go_roundw
        case rel => exact ⟨kk + 1, ks, D, by omega, by go_num, by omega, HC⟩
        case measure => simp [intOf]; omega
      · have hmiss : Maps.has D (kl s) = false := by simpa using hhas
        rw [hmiss] at hlook
        clear hhas
        obtain ⟨w1, hrun1, hown1, hg1⟩ := HC.map.update key9 Ybaf.underlying24 (by unfold maxLen; omega) (WideMaps.keyOf_string_mk Ybaf.underlying9 hsz) (plainElem_int (H := Unit) Ybaf.underlying3 (a := (ks.length : Int)) (WalkArith.wf_i64 (by omega)))
        have HO1 : Hid (w1.ownsMap Ybaf.prog 9 (plainElem Ybaf.prog 3) w.heap.size (ks.length + 1) (D.put (kl s) (i64 ks.length))) := hown1
        have HG1 : Hid (wr.grownBy w1 (some w.heap.size)) := hg1
        have hszW : w.heap.size ≤ w1.heap.size := Nat.le_trans HC.bel.size hg1.size
        have HK1 : Hid ((w1.alloc (.cells #[.string s] 9)).ownsRow w.heap.size 9 1 (.slice aK ks.length cK) ks.length (ks.map Value.string)) := HC.keys1 hg1 _
        clear hown1 hg1
        go_wp2_with (at_builtin; refine wpList_append_own _ rfl (.tmp 62) (.tmp 64) 22 rfl w.heap.size 9 i9 (.string ⟨#[]⟩) 1 16 Ybaf.underlying22 hi9 hz90 hz91 hz92 rfl (by decide) (.slice aK ks.length cK) ks.length (ks.map Value.string) rfl HK1.out ⟨w1.heap.size, 0, none⟩ 1 1 [.string s] rfl rfl (cell_one_new _ _ _) (by simp [Value.oneCell']) (by unfold maxLen; omega) (by omega) (by simp; omega) ?_)
        intro vK' w2 hown2 hg2 _
        have HO2 : Hid (w2.ownsRow w.heap.size 9 1 vK' (ks.length + 1) (ks.map Value.string ++ [.string s])) := hown2
        have HG2 : Hid ((w1.alloc (.cells #[.string s] 9)).grownBy w2 (Value.slice aK ks.length cK).ownBlock) := hg2
        have HR2 : Hid (w2.ownsRow w.heap.size 28 3 (.slice aR ks.length cR) ks.length (ruleCells ks.length)) := HC.rules2 HG1.out hg2
        have hszW2 : w.heap.size ≤ w2.heap.size := Nat.le_trans hszW (Nat.le_trans (by simp) hg2.size)
        clear hown2 hg2 hrun1 hlook
        have HN := news3 w2 (.int .i64 ks.length) (.int .i64 (-(ks.length : Int))) (.slice none 0 0) 28 rfl rfl rfl
        have HN1 : Hid (∀ j u, [Value.int .i64 ks.length, .int .i64 (-(ks.length : Int)), .slice none 0 0][j]? = some u → (w2.alloc (.cells #[.int .i64 ks.length, .int .i64 (-(ks.length : Int)), .slice none 0 0] 28)).cell? ((⟨w2.heap.size, 0, none⟩ : Addr).add j) = some u) := HN.1
        have HN2 : Hid (∀ u ∈ [Value.int .i64 ks.length, .int .i64 (-(ks.length : Int)), .slice none 0 0], u.oneCell' = true) := HN.2
        clear HN
        go_wp2_with (at_builtin; refine wpList_append_own _ rfl (.tmp 66) (.tmp 71) 25 rfl w.heap.size 28 i28 (.agg #[.int .i64 0, .int .i64 0, .slice none 0 0]) 3 40 Ybaf.underlying25 hi28 hz280 hz281 hz282 rfl (by decide) (.slice aR ks.length cR) ks.length (ruleCells ks.length) rfl (HR2.out.alloc _) ⟨w2.heap.size, 0, none⟩ 1 1 [.int .i64 ks.length, .int .i64 (-(ks.length : Int)), .slice none 0 0] rfl rfl HN1.out HN2.out (by unfold maxLen; omega) (by omega) (by simp; omega) ?_)
        intro vR' w3 hown3 hg3 _
        have HC3 := HC.step hsz hmiss HO1.out HG1.out HO2.out HG2.out hown3 hg3
        clear hown3 hg3 HO1 HG1 HO2 HG2 HR2 HN1 HN2 HK1
        go_wp2
        go_roundw
        case rel => exact ⟨kk + 1, ks ++ [s], _, by omega, by go_num, by simp; omega, HC3⟩
        case measure => simp [intOf]; omega
    · clear HZ
      obtain ⟨c, hlook, hatc⟩ := look_any HC.map nm hnm
      have HAT : Hid (D.atKey (kl nm) (i64 0) = i64 c) := hatc
      have hmw : IntsAt wr mo xs := HX.out.below HC.bel
      have HMW : Hid (IntsAt wr mo xs) := hmw
      clear hmw hatc
      have q23 : ∀ (w : World) (a : Option Addr) (n c n' c' : Nat), (binOp .eql 23 (.slice a n c) (.slice none n' c')).run Ybaf.prog w = .ok (.bool a.isNone) w := fun w a n c n' c' => Lib.run_eql_slice_nil w _ _ a n c n' c' Ybaf.underlying23
      have n23 : ∀ (w : World) (a : Option Addr) (n c n' c' : Nat), (binOp .neq 23 (.slice a n c) (.slice none n' c')).run Ybaf.prog w = .ok (.bool (!a.isNone)) w := fun w a n c n' c' => run_neq_slice_nil_any w _ _ a n c n' c' Ybaf.underlying23
      have n22 : ∀ (w : World) (a : Option Addr) (n c n' c' : Nat), (binOp .neq 22 (.slice a n c) (.slice none n' c')).run Ybaf.prog w = .ok (.bool (!a.isNone)) w := fun w a n c n' c' => run_neq_slice_nil_any w _ _ a n c n' c' Ybaf.underlying22
      have n31 : ∀ (w : World) (a : Option Addr) (n c n' c' : Nat), (binOp .neq 31 (.slice a n c) (.slice none n' c')).run Ybaf.prog w = .ok (.bool (!a.isNone)) w := fun w a n c n' c' => run_neq_slice_nil_any w _ _ a n c n' c' Ybaf.underlying31
      have n35 : ∀ (w : World) (r : Option Nat), (binOp .neq 35 (.map r) (.map none)).run Ybaf.prog w = .ok (.bool (!r.isNone)) w := fun w r => run_neq_map_nil w _ _ _ r Ybaf.underlying35
      have q30 := ptr30
      by_cases hnone : (nm.toList == [110, 111, 110, 101]) = true
      · generalize hbb : Maps.has D (kl nm) = bb at hlook
        clear hbb
        go_wp2_with (go_at_call 4; refine (clone_any mo mc xs _ HMO.out (by omega) HMW.out).mono ?_; rintro e wc ⟨aM, cM, rfl, hisn, hcpy, hBc, haMge⟩)
        have HA0 := after_start (HC.below hBc) (HMW.out.below hBc) hcpy
        generalize ((wc.alloc (.cells #[.slice none 0 0, .slice none 0 0, .slice none 0 0, .slice aR ks.length cR, .int .i64 7] 33)).alloc (.cells #[.pointer (some ⟨wc.heap.size, 0, none⟩), .map (some w.heap.size), .map none, .map none, .bool false] 37)) = W0 at HA0 ⊢
        refine (define_none (wc.heap.size + 1) nm hnone wt k mo xs.length mc W0).mono ?_
        rintro e w6 ⟨⟨ae, rfl⟩, hB6⟩
        have HA := HA0.below hB6
        clear HA0 hB6 hcpy hBc haMge hlook HC HMW HAT
        have r0 := HA.r0
        have r1 := HA.r1
        have r2 := HA.r2
        have r3 := HA.r3
        have r4 := HA.r4
        have p0 := HA.p0
        have p1 := HA.p1
        have p2 := HA.p2
        have p3 := HA.p3
        have p4 := HA.p4
        go_wp2_with (go_at_call 6; refine (equal_any mo aM mc cM xs w6 (by omega) HA.mem HA.cpy).mono ?_; rintro e w7 ⟨rfl, q7, rfl⟩)
        go_loopw [27] (fun i wl => ∃ j q : Nat, j ≤ ks.length ∧ i = .int .i64 j ∧ w6.drewN q = wl) (fun i _ => ks.length - (intOf i).toNat)
        case atStart => exact ⟨0, q7, Nat.zero_le _, rfl, rfl⟩
        case round =>
          obtain ⟨j, q, hj, rfl, rfl⟩ := hrel
          by_cases hjl : j < ks.length
          · obtain ⟨g, rfl, hck⟩ := HA.key_cell hjl
            have hlk := HA.look hjl
            generalize ks.getD j ⟨#[]⟩ = s at hck hlk
            go_wp2_with fail
            go_quiet (fail)
            go_wp2
            go_roundw
            case rel => exact ⟨j + 1, _, by omega, by go_num, rfl⟩
            case measure => simp [intOf]; omega
          · have HA8 := HA.below (W' := w6.drewN q) (below_drewN (Below.refl _ _) q)
            generalize w6.drewN q = w8 at HA8 ⊢
            clear r0 r1 r2 r3 r4 p0 p1 p2 p3 p4 HA
            have r0 := HA8.r0
            have r1 := HA8.r1
            have p3 := HA8.p3
            go_wp2_with fail
            go_loopw [30] (fun i wl => ∃ j : Nat, j ≤ ks.length ∧ i = .int .i64 j ∧ Below w8.heap.size w8 wl) (fun i _ => ks.length - (intOf i).toNat)
            case atStart => exact ⟨0, Nat.zero_le _, rfl, Below.refl _ _⟩
            case round =>
              obtain ⟨j, hj2, rfl, hBl⟩ := hrel
              have HAl := HA8.below hBl
              clear r0 r1 p3
              have p3 := HAl.p3
              by_cases hjl2 : j < ks.length
              · obtain ⟨g, hg, c0, c1, c2⟩ := HAl.rule_cell (by omega) hjl2
                cases hg
                go_wp2
                go_roundw
                case rel => exact ⟨j + 1, by omega, by go_num, hBl.alloc hBl.size _⟩
                case measure => simp [intOf]; omega
              · clear hBl HA8
                have r1 := HAl.r1
                have hln := HAl.map.len Ybaf.underlying24 3
                rw [HAl.idx.count] at hln
                go_wp2
                go_ret
                exact ⟨rfl, HAl.bel⟩
      · have hnf : (nm.toList == [110, 111, 110, 101]) = false := by simpa using hnone
        clear hnone
        by_cases hhas : Maps.has D (kl nm) = true
        · rw [hhas] at hlook
          go_wp2_with (go_at_call 4; refine (clone_any mo mc xs _ HMO.out (by omega) HMW.out).mono ?_; rintro e wc ⟨aM, cM, rfl, hisn, hcpy, hBc, haMge⟩)
          have HA0 := after_start (HC.below hBc) (HMW.out.below hBc) hcpy
          generalize ((wc.alloc (.cells #[.slice none 0 0, .slice none 0 0, .slice none 0 0, .slice aR ks.length cR, .int .i64 7] 33)).alloc (.cells #[.pointer (some ⟨wc.heap.size, 0, none⟩), .map (some w.heap.size), .map none, .map none, .bool false] 37)) = W0 at HA0 ⊢
          refine (define_had (wc.heap.size + 1) w.heap.size nm hnf c wt k mo xs.length mc W0 HA0.r1 (cell_lt HA0.r0) (fun o => look_c (HA0.map.alloc o) hnm HAT.out hhas)).mono ?_
          rintro e w6 ⟨⟨ae, rfl⟩, hB6⟩
          have HA := HA0.below hB6
          clear HA0 hB6 hcpy hBc haMge hlook HC HMW HAT
          have r0 := HA.r0
          have r1 := HA.r1
          have r2 := HA.r2
          have r3 := HA.r3
          have r4 := HA.r4
          have p0 := HA.p0
          have p1 := HA.p1
          have p2 := HA.p2
          have p3 := HA.p3
          have p4 := HA.p4
          go_wp2_with (go_at_call 6; refine (equal_any mo aM mc cM xs w6 (by omega) HA.mem HA.cpy).mono ?_; rintro e w7 ⟨rfl, q7, rfl⟩)
          go_loopw [27] (fun i wl => ∃ j q : Nat, j ≤ ks.length ∧ i = .int .i64 j ∧ w6.drewN q = wl) (fun i _ => ks.length - (intOf i).toNat)
          case atStart => exact ⟨0, q7, Nat.zero_le _, rfl, rfl⟩
          case round =>
            obtain ⟨j, q, hj, rfl, rfl⟩ := hrel
            by_cases hjl : j < ks.length
            · obtain ⟨g, rfl, hck⟩ := HA.key_cell hjl
              have hlk := HA.look hjl
              generalize ks.getD j ⟨#[]⟩ = s at hck hlk
              go_wp2_with fail
              go_quiet (fail)
              go_wp2
              go_roundw
              case rel => exact ⟨j + 1, _, by omega, by go_num, rfl⟩
              case measure => simp [intOf]; omega
            · have HA8 := HA.below (W' := w6.drewN q) (below_drewN (Below.refl _ _) q)
              generalize w6.drewN q = w8 at HA8 ⊢
              clear r0 r1 r2 r3 r4 p0 p1 p2 p3 p4 HA
              have r0 := HA8.r0
              have r1 := HA8.r1
              have p3 := HA8.p3
              go_wp2_with fail
              go_loopw [30] (fun i wl => ∃ j : Nat, j ≤ ks.length ∧ i = .int .i64 j ∧ Below w8.heap.size w8 wl) (fun i _ => ks.length - (intOf i).toNat)
              case atStart => exact ⟨0, Nat.zero_le _, rfl, Below.refl _ _⟩
              case round =>
                obtain ⟨j, hj2, rfl, hBl⟩ := hrel
                have HAl := HA8.below hBl
                clear r0 r1 p3
                have p3 := HAl.p3
                by_cases hjl2 : j < ks.length
                · obtain ⟨g, hg, c0, c1, c2⟩ := HAl.rule_cell (by omega) hjl2
                  cases hg
                  go_wp2
                  go_roundw
                  case rel => exact ⟨j + 1, by omega, by go_num, hBl.alloc hBl.size _⟩
                  case measure => simp [intOf]; omega
                · clear hBl HA8
                  have r1 := HAl.r1
                  have hln := HAl.map.len Ybaf.underlying24 3
                  rw [HAl.idx.count] at hln
                  go_wp2
                  go_ret
                  exact ⟨rfl, HAl.bel⟩
        · have hmiss : Maps.has D (kl nm) = false := by simpa using hhas
          rw [hmiss] at hlook
          clear hhas
          go_wp2_with (go_at_call 4; refine (clone_any mo mc xs _ HMO.out (by omega) HMW.out).mono ?_; rintro e wc ⟨aM, cM, rfl, hisn, hcpy, hBc, haMge⟩)
          have HCc := HC.below hBc
          have HA0 := after_start HCc (HMW.out.below hBc) hcpy
          have hfz : ((wc.alloc (.cells #[.slice none 0 0, .slice none 0 0, .slice none 0 0, .slice aR ks.length cR, .int .i64 7] 33)).alloc (.cells #[.pointer (some ⟨wc.heap.size, 0, none⟩), .map (some w.heap.size), .map none, .map none, .bool false] 37)).frozen? ⟨wc.heap.size, 3, none⟩ = false := by simp [go_sem, World.frozen?_alloc_past]
          generalize ((wc.alloc (.cells #[.slice none 0 0, .slice none 0 0, .slice none 0 0, .slice aR ks.length cR, .int .i64 7] 33)).alloc (.cells #[.pointer (some ⟨wc.heap.size, 0, none⟩), .map (some w.heap.size), .map none, .map none, .bool false] 37)) = W0 at HA0 hfz ⊢
          have hRP : (Value.slice aR ks.length cR).ownBlock ≠ some wc.heap.size := fun e => absurd (HCc.rules.lt _ e).2 (by omega)
          have hRPR : (Value.slice aR ks.length cR).ownBlock ≠ some (wc.heap.size + 1) := fun e => absurd (HCc.rules.lt _ e).2 (by omega)
          have hKP : (Value.slice aK ks.length cK).ownBlock ≠ some wc.heap.size := fun e => absurd (HCc.keys.lt _ e).2 (by omega)
          have hrow0 := HA0.rules
          rw [List.append_nil] at hrow0
          refine (define_new w.heap.size (wc.heap.size + 1) wc.heap.size w.heap.size ks.length ks.length D (.slice aR ks.length cR) (ruleCells ks.length) nm hnf wt k mo xs.length mc W0 hnm (by omega) (by omega) (cell_lt HA0.r0) (cell_lt HA0.p0) HA0.bel.size hRP hRPR ⟨aR, cR, rfl⟩ HA0.r0 HA0.r1 HA0.p3 hfz HA0.map hrow0 (fun o => look_miss (HA0.map.alloc o) hmiss hnm)).mono ?_
          rintro e w6 ⟨rfl, hdef⟩
          obtain ⟨gR, capR, HA⟩ := after_defined HA0 rfl (by omega) HCc.map.lt (by have := HCc.map.lt; omega) hmiss
            (fun b o hp e => by obtain ⟨b', o', e', hb', _⟩ := HX.out 0 hp; rw [e] at e'; cases e'; exact hb')
            (fun b o e => by
              obtain ⟨h1, h2⟩ := haMge b o e
              have h3 := HC.map.lt
              exact ⟨by omega, by omega, fun e2 => by have := (HC.rules.lt b e2.symm).2; omega⟩) hKP hRPR hdef
          clear HA0 hdef hfz hcpy hBc haMge hlook HC HMW HAT HCc hrow0 hRP hRPR hKP
          have r0 := HA.r0
          have r1 := HA.r1
          have r2 := HA.r2
          have r3 := HA.r3
          have r4 := HA.r4
          have p0 := HA.p0
          have p1 := HA.p1
          have p2 := HA.p2
          have p3 := HA.p3
          have p4 := HA.p4
          go_wp2_with (go_at_call 6; refine (equal_any mo aM mc cM xs w6 (by omega) HA.mem HA.cpy).mono ?_; rintro e w7 ⟨rfl, q7, rfl⟩)
          go_loopw [27] (fun i wl => ∃ j q : Nat, j ≤ ks.length ∧ i = .int .i64 j ∧ w6.drewN q = wl) (fun i _ => ks.length - (intOf i).toNat)
          case atStart => exact ⟨0, q7, Nat.zero_le _, rfl, rfl⟩
          case round =>
            obtain ⟨j, q, hj, rfl, rfl⟩ := hrel
            by_cases hjl : j < ks.length
            · obtain ⟨g, rfl, hck⟩ := HA.key_cell hjl
              have hlk := HA.look hjl
              generalize ks.getD j ⟨#[]⟩ = s at hck hlk
              go_wp2_with fail
              go_quiet (fail)
              go_wp2
              go_roundw
              case rel => exact ⟨j + 1, _, by omega, by go_num, rfl⟩
              case measure => simp [intOf]; omega
            · have HA8 := HA.below (W' := w6.drewN q) (below_drewN (Below.refl _ _) q)
              generalize w6.drewN q = w8 at HA8 ⊢
              clear r0 r1 r2 r3 r4 p0 p1 p2 p3 p4 HA
              have r0 := HA8.r0
              have r1 := HA8.r1
              have p3 := HA8.p3
              go_wp2_with fail
              go_loopw [30] (fun i wl => ∃ j : Nat, j ≤ ks.length ∧ i = .int .i64 j ∧ Below w8.heap.size w8 wl) (fun i _ => ks.length - (intOf i).toNat)
              case atStart => exact ⟨0, Nat.zero_le _, rfl, Below.refl _ _⟩
              case round =>
                obtain ⟨j, hj2, rfl, hBl⟩ := hrel
                have HAl := HA8.below hBl
                clear r0 r1 p3
                have p3 := HAl.p3
                by_cases hjl2 : j < ks.length
                · obtain ⟨g, hg, c0, c1, c2⟩ := HAl.rule_cell (by omega) hjl2
                  cases hg
                  go_wp2
                  go_roundw
                  case rel => exact ⟨j + 1, by omega, by go_num, hBl.alloc hBl.size _⟩
                  case measure => simp [intOf]; omega
                · clear hBl HA8
                  have r1 := HAl.r1
                  have hln := HAl.map.len Ybaf.underlying24 3
                  rw [HAl.idx.count] at hln
                  have hlkN := look_hit HAl.map HAl.idx (j := ks.length) (by simp) (by simpa [List.getD] using hnm)
                  rw [show (ks ++ [nm]).getD ks.length ⟨#[]⟩ = nm from by simp [List.getD]] at hlkN
                  obtain ⟨d0, d1, d2⟩ := HAl.last_cell
                  have HEQ : Hid (∀ o, IntsAt (wr.alloc o) mo xs ∧ IntsAt (wr.alloc o) aM xs) := fun o => ⟨HAl.mem.below ((Below.refl _ _).alloc (Nat.le_refl _) o), HAl.cpy.below ((Below.refl _ _).alloc (Nat.le_refl _) o)⟩
                  simp only [List.length_append, List.length_cons, List.length_nil] at hln
                  go_wp2_with (go_at_call 6; refine (equal_any mo aM mc cM xs _ (by omega) (HEQ.out _).1 (HEQ.out _).2).mono ?_; rintro e w9 ⟨rfl, q9, rfl⟩)
                  go_ret
                  exact ⟨rfl, below_drewN (HAl.bel.alloc HAl.bel.size _) _⟩
end Go.Proofs.YbulkdjugFmt.lawS5544AWhole
