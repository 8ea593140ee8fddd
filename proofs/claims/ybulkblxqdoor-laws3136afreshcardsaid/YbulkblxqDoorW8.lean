import Derived.Test.YbulkblxqDoorW12
import Derived.Maps.OwnSet
import Derived.Maps.OwnOps
import Derived.ProofKit
import Derived.Deep.DeepCutAuto
namespace Go.Proofs.YbulkblxqDoor
open Go.RowKit Go.Maps
set_option linter.unusedVariables false
set_option linter.unusedSimpArgs false

theorem Ybad.laidOut : laidOutB Ybad.prog = true := by kernel_rfl
theorem Ybad.row65 : 65 < Ybad.prog.types.size := of_decide_eq_true (by kernel_rfl)
theorem law65 : Keyed Ybad.prog 65 := Keyed.of_law (deep_law_laid Ybad.laidOut (m := 2) (by omega) Ybad.row65 (by kernel_rfl) (by kernel_rfl))
theorem zero3 (w : World) : (zeroValue 3).run Ybad.prog w = .ok (.int .i64 0) w := by kernel_rfl

theorem Ybad.tsize : Ybad.prog.types.size = 244 := by kernel_rfl
theorem Ybad.keyT65 : Ybad.prog.keyType 65 = true := by kernel_rfl
theorem Ybad.cells65 : Ybad.prog.cellsOf 65 = 3 := by kernel_rfl
theorem Ybad.cells21 : Ybad.prog.cellsOf 21 = 1 := by kernel_rfl
theorem Ybad.cells22 : Ybad.prog.cellsOf 22 = 1 := by kernel_rfl

theorem key65 {a b e : Int} (wa : (Lit.int .i32 a).wf = true) (wb : (Lit.int .i32 b).wf = true) (we : (Lit.int .u64 e).wf = true) :
    ∃ kl, keyOf Ybad.prog 65 (.agg #[.int .i32 a, .int .i32 b, .int .u64 e]) = some kl := by
  refine ⟨.string (keyBytes [.int .i32 a, .int .i32 b, .int .u64 e]), ?_⟩
  have hl : ∀ d, Ybad.prog.keyLits (d + 1 + 1) 65 [.int .i32 a, .int .i32 b, .int .u64 e] = some [.int .i32 a, .int .i32 b, .int .u64 e] := fun d => by
    simp [Program.keyLits, Ybad.underlying65, Ybad.underlying21, Ybad.underlying22, Ybad.cells65, Ybad.cells21, Ybad.cells22, wa, wb, we]
  unfold keyOf
  simp [Ybad.underlying65, Ybad.keyT65, Value.formed, Ybad.cells65, Value.cells]
  exact ⟨_, hl 243, rfl⟩

theorem wpList_insert_own {H : Type} {P : Program} (w : World) {ops : Array Oper} {rest : List Oper} {o : Oper} {a : Act} {Q : Exit → Act → World → Prop}
    (hg : o.guard = none) (m x v : Operand) (t : TypeId) (hop : o.op = Op.insert t m x v)
    (k e : TypeId) (K : Keyed P k) (ht : P.underlying t = some (.map k e)) (R : Value → Option (DataW H × List MemPlace)) (b n : Nat) (D : DataW H)
    (hm : a.eval m = .map (some b)) (hown : w.ownsMap P k R b n D) (hn : n < maxLen) (key val : Value) (kl : Lit) (hx : a.eval x = key) (hv : a.eval v = val) (hkey : keyOf P k key = some kl)
    (d : DataW H) (ps : List MemPlace) (hval : R val = some (d, ps))
    (hK : ∀ w', w'.ownsMap P k R b (n + 1) (D.put kl d) → w.grownBy w' (some b) → wpList P ops Q rest (a.put o.dst undef) w') :
    wpList P ops Q (o :: rest) a w := by
  refine wpList_plain hg fun K' hK' => ?_
  obtain ⟨w', hrun, r1, r2⟩ := hown.update K ht hn hkey hval
  unfold Oper.wp
  simp [execOp, hop, hm, hx, hv, hrun, Result.andThen]
  exact hK' _ _ (hK w' r1 r2)

theorem map_below {w w' : World} {P : Program} {k : TypeId} {H : Type} {R : Value → Option (DataW H × List MemPlace)} {b n : Nat} {D : DataW H} (h : w.ownsMap P k R b n D) (hb : Below w.heap.size w w') : w'.ownsMap P k R b n D := by
  have hl := h.lt
  obtain ⟨es, clock, h1, h2⟩ := h
  exact ⟨es, clock, by rw [hb.block b hl]; exact h1, h2⟩

theorem keep2 {W w' : World} (hb : Below W.heap.size W w') {a1 a2 : Addr} {v1 v2 : Value} (h : W.cell? a1 = some v1 ∧ W.cell? a2 = some v2) : w'.cell? a1 = some v1 ∧ w'.cell? a2 = some v2 := by
  obtain ⟨h1, h2⟩ := h
  exact ⟨by rw [hb.cell (cell_lt h1)]; exact h1, by rw [hb.cell (cell_lt h2)]; exact h2⟩

theorem keep2_alloc {W : World} {a1 a2 : Addr} {v1 v2 : Value} (o : Obj) (h : W.cell? a1 = some v1 ∧ W.cell? a2 = some v2) : (W.alloc o).cell? a1 = some v1 ∧ (W.alloc o).cell? a2 = some v2 :=
  keep2 ((Below.refl _ _).alloc (Nat.le_refl _) o) h

theorem facts17 {w w17 : World} {c0 c1 c2 : Value} {t : TypeId} (hb : Below (w.alloc (.cells #[c0, c1, c2] t)).drew.heap.size (w.alloc (.cells #[c0, c1, c2] t)).drew w17) :
    w17.cell? ⟨w.heap.size, 0, none⟩ = some c0 ∧ w17.cell? ⟨w.heap.size, 1, none⟩ = some c1 ∧ w17.cell? ⟨w.heap.size, 2, none⟩ = some c2 ∧ ∀ j, w17.frozen? ⟨w.heap.size, j, none⟩ = false := by
  have hl : w.heap.size < (w.alloc (.cells #[c0, c1, c2] t)).drew.heap.size := by simp
  have hh : (w.alloc (.cells #[c0, c1, c2] t)).drew.heap[w.heap.size]? = some (.cells #[c0, c1, c2] t (0, 0)) := heap_at_new _ _
  have hg : w17.heap[w.heap.size]? = some (.cells #[c0, c1, c2] t (0, 0)) := by rw [hb.block _ hl]; exact hh
  refine ⟨by rw [cell_of_heap hg]; rfl, by rw [cell_of_heap hg]; rfl, by rw [cell_of_heap hg]; rfl, fun j => ?_⟩
  simp [World.frozen?, hg]

theorem cell_set3 {W : World} {b : Nat} {v0 v1 v2 : Value} {a : Addr} (ha : a.block ≠ b) : (((W.setCell ⟨b, 0, none⟩ v0).setCell ⟨b, 1, none⟩ v1).setCell ⟨b, 2, none⟩ v2).cell? a = W.cell? a :=
  World.cell?_of_block (w := W) (by rw [Below.heap_setCell _ _ _ _ ha, Below.heap_setCell _ _ _ _ ha, Below.heap_setCell _ _ _ _ ha])

theorem keep2_set3 {W : World} {b : Nat} {v0 v1 v2 : Value} {a1 a2 : Addr} {x1 x2 : Value} (h1 : ¬ a1.block = b) (h2 : ¬ a2.block = b) (h : W.cell? a1 = some x1 ∧ W.cell? a2 = some x2) :
    (((W.setCell ⟨b, 0, none⟩ v0).setCell ⟨b, 1, none⟩ v1).setCell ⟨b, 2, none⟩ v2).cell? a1 = some x1 ∧ (((W.setCell ⟨b, 0, none⟩ v0).setCell ⟨b, 1, none⟩ v1).setCell ⟨b, 2, none⟩ v2).cell? a2 = some x2 :=
  ⟨by rw [cell_set3 h1]; exact h.1, by rw [cell_set3 h2]; exact h.2⟩

/-- The key, as it lies in its own block behind the first region. -/
def KeyAt (w wx : World) (bk : Nat) (lx ly e : Int) : Prop :=
  wx.cell? ⟨bk, 0, none⟩ = some (.int .i32 lx) ∧ wx.cell? ⟨bk, 1, none⟩ = some (.int .i32 ly) ∧ wx.cell? ⟨bk, 2, none⟩ = some (.int .u64 e) ∧ Below w.heap.size w wx

theorem keyAt_A {w w17 : World} {lx ly e : Int} {t : TypeId} (hb : Below w.heap.size w w17) : KeyAt w (w17.alloc (.cells #[.int .i32 lx, .int .i32 ly, .int .u64 e] t)) w17.heap.size lx ly e := by
  have hh := heap_at_new w17 (.cells #[.int .i32 lx, .int .i32 ly, .int .u64 e] t)
  exact ⟨by rw [cell_of_heap hh]; rfl, by rw [cell_of_heap hh]; rfl, by rw [cell_of_heap hh]; rfl, hb.alloc hb.size _⟩

theorem keyAt_B {w w17 : World} {lx ly e : Int} {c0 c1 c2 : Value} (hb : Below w.heap.size w w17) (f0 : w17.cell? ⟨w.heap.size, 0, none⟩ = some c0) (f1 : w17.cell? ⟨w.heap.size, 1, none⟩ = some c1) (f2 : w17.cell? ⟨w.heap.size, 2, none⟩ = some c2) :
    KeyAt w (((w17.setCell ⟨w.heap.size, 0, none⟩ (.int .i32 lx)).setCell ⟨w.heap.size, 1, none⟩ (.int .i32 ly)).setCell ⟨w.heap.size, 2, none⟩ (.int .u64 e)) w.heap.size lx ly e := by
  refine ⟨?_, ?_, ?_, ((hb.setCell (Nat.le_refl _) _).setCell (Nat.le_refl _) _).setCell (Nat.le_refl _) _⟩
  · rw [World.cell?_setCell_other _ _ _ _ (by simp), World.cell?_setCell_other _ _ _ _ (by simp)]
    exact World.cell?_setCell_same _ _ _ f0
  · rw [World.cell?_setCell_other _ _ _ _ (by simp)]
    refine World.cell?_setCell_same _ _ _ (?_ : _ = some c1)
    rw [World.cell?_setCell_other _ _ _ _ (by simp)]
    exact f1
  · refine World.cell?_setCell_same _ _ _ (?_ : _ = some c2)
    rw [World.cell?_setCell_other _ _ _ _ (by simp), World.cell?_setCell_other _ _ _ _ (by simp)]
    exact f2

set_option maxHeartbeats 1000000 in
theorem shape_known (bf b1 b2 bm : Nat) (lx ly e v : Int) (nn : Nat) (D : DataW Unit) (kl : Lit) (w : World)
   (hx : w.cell? ⟨b1, 7, none⟩ = some (.int .i32 lx)) (hy : w.cell? ⟨b2, 7, none⟩ = some (.int .i32 ly))
   (hkey : keyOf Ybad.prog 65 (.agg #[.int .i32 lx, .int .i32 ly, .int .u64 e]) = some kl)
   (hm : w.ownsMap Ybad.prog 65 (plainElem Ybad.prog 3) bm nn D) (hat : D.atKey kl (.lit (.int .i64 0)) = .lit (.int .i64 v)) (hhas : Maps.has D kl = true)
   (hcall : ∀ W, Below w.heap.size w W → Calls Ybad.prog 12 #[.pointer (some ⟨bf, 0, none⟩), .pointer (some ⟨b1, 0, none⟩), .pointer (some ⟨b2, 0, none⟩)] W fun e' w' => e' = .returned (.int .u64 e) ∧ Below W.heap.size W w') :
    Calls Ybad.prog 8 #[.pointer (some ⟨bf, 0, none⟩), .pointer (some ⟨b1, 0, none⟩), .pointer (some ⟨b2, 0, none⟩), .map (some bm)] w fun e' w' =>
      e' = .returned (.int .i64 v) ∧ Below w.heap.size w w' := by
  have HC : Hid (∀ W, Below w.heap.size w W → Calls Ybad.prog 12 #[.pointer (some ⟨bf, 0, none⟩), .pointer (some ⟨b1, 0, none⟩), .pointer (some ⟨b2, 0, none⟩)] W fun e' w' => e' = .returned (.int .u64 e) ∧ Below W.heap.size W w') := hcall
  have HM : Hid (keyOf Ybad.prog 65 (.agg #[.int .i32 lx, .int .i32 ly, .int .u64 e]) = some kl ∧ w.ownsMap Ybad.prog 65 (plainElem Ybad.prog 3) bm nn D ∧ D.atKey kl (.lit (.int .i64 0)) = .lit (.int .i64 v) ∧ Maps.has D kl = true) := ⟨hkey, hm, hat, hhas⟩
  clear hcall hkey hm hat hhas
  have HD : Hid (Below w.heap.size w w.drew) := (Below.refl _ _).drew
  have HDA : Hid (∀ o, Below w.heap.size w (w.alloc o).drew) := fun o => ((Below.refl _ _).alloc (Nat.le_refl _) o).drew
  have hb1 : b1 < w.heap.size := cell_lt hx
  have hb2 : b2 < w.heap.size := cell_lt hy
  have hn1 : ¬ b1 = w.heap.size := by omega
  have hn2 : ¬ b2 = w.heap.size := by omega
  go_enter Ybad.func8, Ybad.ntmps8
  go_upto_region 1 with fail
  go_cut [9] (fun s9 wx => ∃ bk, s9 = .pointer (some ⟨bk, 0, none⟩) ∧ Hid (KeyAt w wx bk lx ly e))
  case first =>
    go_region_held3 (fun w' => w'.cell? ⟨b1, 7, none⟩ = some (.int .i32 lx) ∧ w'.cell? ⟨b2, 7, none⟩ = some (.int .i32 ly)) (first | go_keep | exact keep2_alloc _ k17 | exact keep2_set3 hn1 hn2 k17)
      (first | (go_at_call 12; refine (HC.out _ HD.out).mono ?_; rintro e' w17 ⟨rfl, hb17⟩; have k17 : w17.cell? ⟨b1, 7, none⟩ = some (.int .i32 lx) ∧ w17.cell? ⟨b2, 7, none⟩ = some (.int .i32 ly) := keep2 hb17 ⟨hx, hy⟩) | (go_at_call 12; refine (HC.out _ (HDA.out _)).mono ?_; rintro e' w17 ⟨rfl, hb17⟩; have k17 : w17.cell? ⟨b1, 7, none⟩ = some (.int .i32 lx) ∧ w17.cell? ⟨b2, 7, none⟩ = some (.int .i32 ly) := keep2 hb17 ⟨cell_alloc hx _, cell_alloc hy _⟩; obtain ⟨f0, f1, f2, g0⟩ := facts17 hb17))
    · rename_i hHeld
      clear hHeld
      have HB : Hid (Below w.heap.size w w17) := HD.out.trans hb17
      clear hb17
      go_wp2
      go_meet
      case rel => exact ⟨_, rfl, keyAt_A HB.out⟩
    · rename_i hHeld
      clear hHeld
      have HB : Hid (Below w.heap.size w w17) := (HDA.out _).trans (hb17.mono (by simp))
      have HK : Hid (KeyAt w (((w17.setCell ⟨w.heap.size, 0, none⟩ (.int .i32 lx)).setCell ⟨w.heap.size, 1, none⟩ (.int .i32 ly)).setCell ⟨w.heap.size, 2, none⟩ (.int .u64 e)) w.heap.size lx ly e) := keyAt_B HB.out f0 f1 f2
      clear hb17 f0 f1 f2 g0
      go_wp2
      go_meet
      case rel => exact ⟨_, rfl, HK⟩
  case rest =>
    obtain ⟨bk, rfl, KA⟩ := hcut
    obtain ⟨ck0, ck1, ck2, -⟩ := KA.out
    have HMW : Hid (wc.ownsMap Ybad.prog 65 (plainElem Ybad.prog 3) bm nn D) := map_below HM.out.2.1 KA.out.2.2.2
    go_wp2_with (at_lookup; refine wpList_lookup_own_ok_int _ rfl _ _ 58 rfl 65 3 .i64 law65 Ybad.underlying58 Ybad.underlying3 (zero3 _) bm nn D rfl HMW.out _ kl rfl HM.out.1 ?_)
    intro c hc _
    have hcv : c = v := by
      have h1 := HM.out.2.2.1
      rw [hc] at h1
      simpa using h1
    subst hcv
    rw [HM.out.2.2.2]
    clear hc
    go_wp2
    go_ret
    exact ⟨rfl, KA.out.2.2.2⟩
end Go.Proofs.YbulkblxqDoor
