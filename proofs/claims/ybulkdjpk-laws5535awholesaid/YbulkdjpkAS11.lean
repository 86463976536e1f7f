/-
  5535A: the law whole: the segments joined.
-/
import Derived.Test.YbulkdjpkAS1b
import Derived.Test.YbulkdjpkAS3
import Derived.Test.YbulkdjpkAS5
import Derived.Test.YbulkdjpkAS6
import Derived.Test.YbulkdjpkAS7
import Derived.Test.YbulkdjpkAS8
import Derived.Test.YbulkdjpkAS10
namespace Go.Proofs.Ybulkdjpk.lawS5535AWhole
open Go.RowKit Go.Deep

set_option maxRecDepth 1000000 in
theorem body_chain : body = .seq (nth 0 body) (.seq (nth 1 body) (.seq (nth 2 body) (.seq (nth 3 body) (.seq (nth 4 body) (.seq (nth 5 body) (.seq (nth 6 body) (.seq (nth 7 body) (.seq (nth 8 body)
    (.seq (nth 9 body) (.seq (nth 10 body) (.seq (nth 11 body) (.seq (nth 12 body) (.seq (nth 13 body) (.seq (nth 14 body) (.seq (nth 15 body) (.seq (nth 16 body) (.seq (nth 17 body) (.seq (nth 18 body)
    (.seq (nth 19 body) (.seq (nth 20 body) (.seq (nth 21 body) (.seq (nth 22 body) (.seq (nth 23 body) (.seq (nth 24 body) (.seq (nth 25 body) (.seq (nth 26 body) (.seq (nth 27 body) (.seq (nth 28 body) (tl 29 body))))))))))))))))))))))))))))) := by kernel_rfl

set_option maxRecDepth 1000000 in
set_option maxHeartbeats 4000000 in
theorem law_any (ao po : Option Addr) (cap pcap : Nat) (css : List (List (Int × Int))) (qs : List Part) (a b stop : Nat) (w : World)
    (hwl : ∀ (i : Nat) (ws : List (Int × Int)), css[i]? = some ws → ws.length ≤ 140737488355328)
    (hC : CrashIn w ao css) (hP : PartIn w po qs) :
    Calls Yba.prog 3 #[.slice ao css.length cap, .slice po qs.length pcap, .int .u64 a, .int .u64 b, .int .u64 stop] w fun e w' => e = .returned (.bool true) ∧ Below w.heap.size w w' := by
  by_cases hbig : 1048576 < (css.length : Int)
  · go_enter Yba.func3, Yba.ntmps3
    go_wp2
    go_ret
    exact ⟨rfl, Below.refl _ _⟩
  by_cases hbig2 : 1048576 < (qs.length : Int)
  · go_enter Yba.func3, Yba.ntmps3
    go_wp2
    go_ret
    exact ⟨rfl, Below.refl _ _⟩
  have hql : qs.length ≤ 1048576 := by omega
  refine (callsIn_wide (n := 5)).1 (callsIn_of_wp_marks (c := body) Yba.func3 (by kernel_rfl) trivial ?_ rfl)
  simp only [Yba.ntmps3, List.size_toArray, List.length_cons, List.length_nil, Nat.reduceAdd, Nat.reduceSub, Array.replicate_succ, Array.replicate_zero, List.push_toArray, List.append_toArray, List.nil_append, List.cons_append]
  refine wpIn_wide.2 ?_
  rw [body_chain]
  refine segA1 hbig hbig2 hwl hC _ ?_
  unfold AtA2
  intros
  rename_i n vN ptrs wN hn1 hn2 hn3 ht HC
  refine segA2 hn1 hn2 hql HC hP _ ?_
  unfold AtB
  intros
  rename_i vP cells wp HP
  have E : Env w wp ao po css qs n vN vP ptrs cells := ⟨hn1, hn2, hn3, hql, ht, hC, hP, HP⟩
  obtain ⟨ia, hia⟩ : ∃ ia, a % n = ia := ⟨_, rfl⟩
  obtain ⟨ib, hib⟩ : ∃ ib, b % n = ib := ⟨_, rfl⟩
  have hial : ia < n := by rw [← hia]; exact Nat.mod_lt _ (by omega)
  have hibl : ib < n := by rw [← hib]; exact Nat.mod_lt _ (by omega)
  have hla : (fcs css ia).length ≤ 1048576 := Nat.le_trans (fcs_le css ia) ht
  have hlb : (fcs css ib).length ≤ 1048576 := Nat.le_trans (fcs_le css ib) ht
  have hlc := cuts_len ia ib qs
  refine segB1 hia hib E _ ?_
  unfold AtB2
  intros
  rename_i v1 w1 hr1 hB1
  refine segB2 E (fcs css ia) hla hr1 hB1 _ ?_
  unfold AtC
  intros
  rename_i v2 w2 hr2 hB2
  refine segC E (fcs css ia ++ fcs css ib) (by simp; omega) hr2 hB2 _ ?_
  unfold AtC
  intros
  rename_i v3 w3 hr3 hB3
  have HP3 := HP.below hB3
  refine segD hial hibl hql hla hlb HP3 _ ?_
  unfold AtE
  intros
  rename_i D1 G gv w4 hD1 hd1 hB4 hbx hr4
  obtain ⟨xs, hxs⟩ : ∃ xs, fcs css ia ++ fcs css ib ++ cuts ia ib qs = xs := ⟨_, rfl⟩
  have hxl : xs.length ≤ 4194304 := by rw [← hxs]; simp; omega
  rw [hxs] at hr3 hr4
  refine segE hxl (row_below hr3 hB4 (Nat.le_refl _)) hr4 hbx _ ?_
  unfold AtF
  intros
  rename_i q1
  have hB4' : Below w3.heap.size w3 (w4.drewN q1) := below_drewN hB4 q1
  have hd1' : (w4.drewN q1).heap[D1]? = some (.deferred (some [])) := hd1
  have HP4 := HP3.below hB4'
  have hr5 := row_below hr3 hB4' (Nat.le_refl _)
  obtain ⟨av, cv, hv⟩ := row_form hr5
  obtain ⟨k, hk⟩ : ∃ k, stop % (xs.length + 1) = k := ⟨_, rfl⟩
  have hkl : k ≤ xs.length := by have := Nat.mod_lt stop (Nat.succ_pos xs.length); rw [Nat.succ_eq_add_one, hk] at this; omega
  have hD1l := (Array.getElem?_eq_some_iff.1 hd1').1
  generalize w4.drewN q1 = wq at *
  refine segF hial hibl hql hla hlb HP4 hxs hk _ ?_ hv
  unfold AtG
  intros
  rename_i D2 pv w5 hD2 hd2 hB5 hbx5 hr6
  have hBk : Below wq.heap.size wq (wq.alloc (.cells #[.int .i64 k] 3)) := below_alloc (Below.refl _ _) _
  have hB5' : Below (wq.alloc (.cells #[.int .i64 k] 3)).heap.size (wq.alloc (.cells #[.int .i64 k] 3)) w5 := by rw [World.size_alloc]; exact hB5
  have HP5 := (HP4.below hBk).below hB5'
  have hr7 := row_below (row_below hr5 hBk (Nat.le_refl _)) hB5' (Nat.le_refl _)
  rw [hv] at hr7
  refine segG hxl hkl hr7 hr6 ((hB5.cell (p := ⟨wq.heap.size, 0, none⟩) (Nat.lt_succ_self _)).trans (Boxed.new wq 3 _).cell) hbx5.cell _ ?_
  unfold AtH
  intros
  rename_i q2
  have HP6 := HP5.below (below_drewN (Below.refl _ _) q2)
  have hd3 : (w5.drewN q2).heap[D1]? = some (.deferred (some [])) := (hB5.block D1 (by omega)).trans ((hBk.block D1 hD1l).trans hd1')
  have hd4 : (w5.drewN q2).heap[D2]? = some (.deferred (some [])) := hd2
  generalize w5.drewN q2 = w6 at *
  refine segH hn2 hn3 ht HP6 (hC.below HP6.bel) _ ?_
  unfold AtI
  intros
  rename_i w7 hB7
  have HP7 := HP6.below hB7
  exact segI hn1 hn2 hql HP7 (hP.below HP7.bel) (by omega) (Nat.le_trans HP3.bel.size hD1) ((hB7.block D1 (Array.getElem?_eq_some_iff.1 hd3).1).trans hd3) ((hB7.block D2 (Array.getElem?_eq_some_iff.1 hd4).1).trans hd4)
end Go.Proofs.Ybulkdjpk.lawS5535AWhole
