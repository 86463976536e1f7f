import Derived.Test.YbulkdjugFmtProg
import Derived.Test.YbulkdjugFmtShelf
import Derived.WalkKit
import Derived.WalkSpells
import Derived.WalkLawsBesides
import Derived.Deep.OwnRows
import Derived.Deep.AppendLies
import Derived.Maps.OwnSet
import Derived.Stop.CallBack
import Derived.Stop.IfaceNil
import GoSem.ClaimData
namespace Go.Proofs.YbulkdjugFmt.lawS5544AWhole
open Go.RowKit Go.Maps Go.Extern.Stop Go.Stop Go.Extern

theorem call9 (args : Array Value) (w : World) : (callFunc 9 args).run Ybaf.prog w = ((FmtStop.errorf #[9, 48] #[39] args).run Ybaf.prog w).andThen fun v w' => .ok (.value v) w' :=
  run_callFunc_extern Ybaf.func9 (by kernel_rfl) (by kernel_rfl) (by kernel_rfl) (by kernel_rfl) args w
theorem guard9 (name : String) (w : World) : (FmtStop.guard name).run Ybaf.prog w = .ok () w := by kernel_rfl
theorem fmt0 : FmtStop.printed? ⟨#[37, 113, 32, 105, 115, 32, 100, 101, 102, 105, 110, 101, 100, 32, 111, 110, 32, 97, 32, 108, 105, 110, 101, 32, 97, 98, 111, 118, 101]⟩ 1 = some [(0, 113, false)] := by kernel_rfl
theorem fmt0r (w : World) : (FmtDoors.printed ⟨#[37, 113, 32, 105, 115, 32, 100, 101, 102, 105, 110, 101, 100, 32, 111, 110, 32, 97, 32, 108, 105, 110, 101, 32, 97, 98, 111, 118, 101]⟩ 1).run Ybaf.prog w = .ok [(0, 113, false)] w := by kernel_rfl
def shape9 : List UInt8 := [12, 6, 0, 0, 0, 0, 0, 0, 0, 115, 116, 114, 105, 110, 103]
theorem op9_113 (name : String) (x : ByteArray) (w : World) : (FmtStop.operand name false 113 false (.iface 9 (.string x))).run Ybaf.prog w = .ok (shape9, FmtStop.pack x.data.toList) w := by kernel_rfl
theorem op9_113w (name : String) (x : ByteArray) (w : World) : (FmtStop.operand name true 113 false (.iface 9 (.string x))).run Ybaf.prog w = .ok (shape9, FmtStop.pack x.data.toList) w := by kernel_rfl
theorem ptrE (w : World) : (FmtStop.ptrTo "errors.errorString").run Ybaf.prog w = .ok 45 w := by kernel_rfl
theorem elemE (w : World) : (elemOf 45).run Ybaf.prog w = .ok 47 w := by kernel_rfl
theorem isErrE (w : World) : (FmtDoors.textMethod 45 "Error").run Ybaf.prog w = .ok true w := by kernel_rfl
attribute [local go_sem] call9 guard9 fmt0 fmt0r op9_113 op9_113w ptrE elemE isErrE

set_option maxHeartbeats 400000 in
theorem errorf_any (b : Nat) (nm : ByteArray) (w : World) (hc : w.cell? ⟨b, 0, none⟩ = some (.iface 9 (.string nm))) :
    Calls Ybaf.prog 8 #[.string ⟨#[37, 113, 32, 105, 115, 32, 100, 101, 102, 105, 110, 101, 100, 32, 111, 110, 32, 97, 32, 108, 105, 110, 101, 32, 97, 98, 111, 118, 101]⟩, .slice (some ⟨b, 0, none⟩) 1 1] w fun e w' =>
      (∃ a, e = .returned (.iface 45 (.pointer (some a)))) ∧ Below w.heap.size w w' := by
  go_enter Ybaf.func8, Ybaf.ntmps8
  go_wp2
  go_ret
  exact ⟨⟨_, rfl⟩, ((Below.refl _ _).alloc (Nat.le_refl _) _).drew⟩

set_option maxHeartbeats 400000 in
theorem errNew_any (s : ByteArray) (w : World) : Calls Ybaf.prog 7 #[.string s] w fun e w' => e = .returned (.iface 45 (.pointer (some ⟨w.heap.size, 0, none⟩))) ∧ w' = w.alloc (.cells #[.string s] 47) := by
  go_enter Ybaf.func7, Ybaf.ntmps7
  go_wp2
  go_ret
  exact ⟨rfl, rfl⟩

set_option maxHeartbeats 400000 in
theorem define_none (PR : Nat) (nm : ByteArray) (hn : (nm.toList == [110, 111, 110, 101]) = true) (wt k : Int) (mo : Option Addr) (ml mc : Nat) (w : World) :
    Calls Ybaf.prog 5 #[.pointer (some ⟨PR, 0, none⟩), .string nm, .agg #[.int .i64 wt, .int .i64 k, .slice mo ml mc]] w fun e w' =>
      (∃ a, e = .returned (.iface 45 (.pointer (some a)))) ∧ Below w.heap.size w w' := by
  go_enter Ybaf.func5, Ybaf.ntmps5
  go_wp2_with (go_at_call 7; refine (errNew_any _ _).mono ?_; rintro e w' ⟨rfl, rfl⟩)
  go_ret
  exact ⟨⟨_, rfl⟩, ((Below.refl _ _).alloc (Nat.le_refl _) _).alloc (by simp) _⟩

set_option maxHeartbeats 400000 in
theorem define_had (PR bm : Nat) (nm : ByteArray) (hn : (nm.toList == [110, 111, 110, 101]) = false) (c : Int) (wt k : Int) (mo : Option Addr) (ml mc : Nat) (w : World)
    (hpr : w.cell? ⟨PR, 1, none⟩ = some (.map (some bm))) (hPR : PR < w.heap.size)
    (HL : ∀ o, (Instr.lookup 24 (.map (some bm)) (.string nm) true).run Ybaf.prog (w.alloc o) = .ok (.tuple #[.int .i64 c, .bool true]) (w.alloc o)) :
    Calls Ybaf.prog 5 #[.pointer (some ⟨PR, 0, none⟩), .string nm, .agg #[.int .i64 wt, .int .i64 k, .slice mo ml mc]] w fun e w' =>
      (∃ a, e = .returned (.iface 45 (.pointer (some a)))) ∧ Below w.heap.size w w' := by
  go_enter Ybaf.func5, Ybaf.ntmps5
  go_wp2_with fail
  refine (errorf_any _ nm _ ?_).mono ?_
  · simp [go_sem]
  rintro e w' ⟨⟨a, rfl⟩, hB⟩
  go_wp2
  go_ret
  exact ⟨⟨_, rfl⟩, (((Below.refl _ _).alloc (Nat.le_refl _) _).alloc (by simp) _).trans (hB.mono (by simp; omega))⟩

theorem key9 : Keyed Ybaf.prog 9 := string_keyed Ybaf.underlying9
theorem info28 : (Ybaf.prog.info? 28).map (fun i => (i.zero, i.size, i.bytes)) = some (some (.agg #[.int .i64 0, .int .i64 0, .slice none 0 0]), 3, 40) := by kernel_rfl

/-- The new rule: the map takes the name, the policy's field the longer slice. -/
structure Defined (w w' : World) (base PR P bm n0 N : Nat) (D : DataW Unit) (vR : Value) (cs : List Value) (nm : ByteArray) (wt k : Int) (mv : Value) : Prop where
  map : w'.ownsMap Ybaf.prog 9 (plainElem Ybaf.prog 3) bm (N + 1) (D.put (.string nm.data.toList) (.lit (.int .i64 n0)))
  rules : ∃ v', w'.cell? ⟨P, 3, none⟩ = some v' ∧ (∃ g cap, v' = .slice (some ⟨g, 0, none⟩) (n0 + 1) cap) ∧ w'.ownsRow base 28 3 v' (n0 + 1) (cs ++ [.int .i64 wt, .int .i64 k, mv])
  keeps : ∀ b, b < w.heap.size → b ≠ P → b ≠ bm → some b ≠ vR.ownBlock → w'.heap[b]? = w.heap[b]?
  pcells : ∀ j, j ≠ 3 → w'.cell? ⟨P, j, none⟩ = w.cell? ⟨P, j, none⟩
  size : w.heap.size ≤ w'.heap.size
  os : w'.os = w.os
  tape : w'.tape = w.tape
  output : w'.output = w.output

/-- An owned row hangs on its one block alone. -/
theorem ownsRow_block {w w' : World} {base e size n : Nat} {v : Value} {xs : List Value} (h : w.ownsRow base e size v n xs) (hb : ∀ g, v.ownBlock = some g → w'.heap[g]? = w.heap[g]?) : w'.ownsRow base e size v n xs := by
  obtain ⟨hl, hc | ⟨g, cap, cur, rfl, h1, h2, h3⟩⟩ := h
  · exact ⟨hl, Or.inl hc⟩
  · exact ⟨hl, Or.inr ⟨g, cap, cur, rfl, h1, (hb g rfl).trans h2, h3⟩⟩
/-- A map's block is no owned row's. -/
theorem map_ne_row {w : World} {base e size n k bm N : Nat} {v : Value} {xs : List Value} {P : Program} {H : Type} {R : Value → Option (DataW H × List MemPlace)} {D : DataW H} (h : w.ownsRow base e size v n xs) (hm : w.ownsMap P k R bm N D) : v.ownBlock ≠ some bm := by
  intro he
  rcases h.2 with ⟨h, _⟩ | ⟨g, c2, cur, h, _, hh, _⟩
  · rw [h] at he; cases he
  · rw [h] at he
    simp only [Value.ownBlock, Option.some.injEq] at he
    subst he
    obtain ⟨es, cl, hb, _⟩ := hm
    rw [hb] at hh; cases hh
theorem defined_of {w w1 w2 : World} {base PR P bm n0 N g cap' : Nat} {D : DataW Unit} {vR : Value} {cs : List Value} {nm : ByteArray} {wt k : Int} {mv : Value} {o1 o2 : Obj}
    (hP : P < w.heap.size) (_hbm : bm < w.heap.size) (hPb : P ≠ bm) (hbR : vR.ownBlock ≠ some P) (hsz1 : w.heap.size + 1 ≤ w1.heap.size)
    (hown1 : w1.ownsMap Ybaf.prog 9 (plainElem Ybaf.prog 3) bm (N + 1) (D.put (.string nm.data.toList) (.lit (.int .i64 n0)))) (hgrow1 : ((w.alloc o1).drew).grownBy w1 (some bm)) (hrow1 : w1.ownsRow base 28 3 vR n0 cs)
    (hown2 : w2.ownsRow base 28 3 (.slice (some ⟨g, 0, none⟩) (n0 + 1) cap') (n0 + 1) (cs ++ [.int .i64 wt, .int .i64 k, mv])) (hgrow2 : ((w1.alloc o2).drew).grownBy w2 vR.ownBlock) (hat : vR.ownBlock = some g ∨ g = w1.heap.size + 1)
    {old : Value} (q3 : w2.cell? ⟨P, 3, none⟩ = some old) :
    Defined w (w2.setCell ⟨P, 3, none⟩ (.slice (some ⟨g, 0, none⟩) (n0 + 1) cap')) base PR P bm n0 N D vR cs nm wt k mv := by
  have hgP : g ≠ P := by
    rcases hat with h | h
    · intro e; subst e; exact hbR h
    · omega
  have hs1 : (w1.alloc o2).drew.heap.size = w1.heap.size + 1 := World.size_alloc _ _
  have hs0 : (w.alloc o1).drew.heap.size = w.heap.size + 1 := World.size_alloc _ _
  have hmr := map_ne_row hrow1 hown1
  have hsz2 := hgrow2.size
  have step1 : ∀ b, b < w.heap.size → b ≠ bm → w1.heap[b]? = w.heap[b]? := fun b hb hne =>
    (hgrow1.block b (by omega) (by simpa using hne)).trans (Go.Deep.blk_alloc_lt w o1 b hb)
  have step2 : ∀ b, b < w1.heap.size → some b ≠ vR.ownBlock → w2.heap[b]? = w1.heap[b]? := fun b hb hne =>
    (hgrow2.block b (by omega) hne).trans (Go.Deep.blk_alloc_lt w1 o2 b hb)
  refine ⟨?_, ⟨.slice (some ⟨g, 0, none⟩) (n0 + 1) cap', ?_, ⟨g, cap', rfl⟩, ?_⟩, ?_, ?_, ?_, hgrow2.os.trans hgrow1.os, hgrow2.tape.trans hgrow1.tape, hgrow2.output.trans hgrow1.output⟩
  · exact (((hown1.alloc o2).drew).kept hgrow2 (Ne.symm hmr)).setCell (Ne.symm hPb) _
  · exact World.cell?_setCell_same' _ _ _ (by rw [q3]; rfl)
  · exact ownsRow_block hown2 (fun g' e => by cases e; exact Below.heap_setCell _ _ _ _ hgP)
  · intro b hb h1 h2 h3
    rw [Below.heap_setCell _ _ _ _ h1, step2 b (by omega) h3, step1 b hb h2]
  · intro j hj
    have e1 : w2.cell? ⟨P, j, none⟩ = w.cell? ⟨P, j, none⟩ := World.cell?_of_block (by rw [step2 P (by omega) (Ne.symm hbR), step1 P hP hPb])
    rw [World.cell?_setCell_other _ _ _ _ (by intro e; cases e; exact hj rfl)]
    exact e1
  · have : (w2.setCell ⟨P, 3, none⟩ (.slice (some ⟨g, 0, none⟩) (n0 + 1) cap')).heap.size = w2.heap.size := by simp [World.setCell]
    omega

end Go.Proofs.YbulkdjugFmt.lawS5544AWhole
