import Derived.Test.YbulkblxqDoorF1
import Derived.BigRegion
import Derived.RegionTactic
import Derived.Deep.QuietTactic
import Derived.BigQuiet
namespace Go.Proofs.YbulkblxqDoor
open Go.RowKit
set_option linter.unusedVariables false
set_option linter.unusedSimpArgs false

def swp (L : List Int) (j : Nat) : List Int := (L.set (j + 1) (L.getD j 0)).set j (L.getD (j + 1) 0)
def inn : Nat → List Int → List Int
  | 0, L => L
  | j + 1, L => if L.getD (j + 1) 0 < L.getD j 0 then inn j (swp L j) else L
def outS : Nat → Nat → List Int → List Int
  | 0, _, L => L
  | c + 1, i, L => outS c (i + 1) (inn i L)
/-- What both sorts leave. -/
def isort (L : List Int) : List Int := outS (L.length - 1) 1 L

theorem swp_length (L : List Int) (j : Nat) : (swp L j).length = L.length := by simp [swp]
theorem inn_length : ∀ (j : Nat) (L : List Int), (inn j L).length = L.length
  | 0, L => rfl
  | j + 1, L => by
    unfold inn
    split
    · rw [inn_length j, swp_length]
    · rfl
theorem outS_length : ∀ (c i : Nat) (L : List Int), (outS c i L).length = L.length
  | 0, _, L => rfl
  | c + 1, i, L => by
    unfold outS
    rw [outS_length c, inn_length]
theorem isort_length (L : List Int) : (isort L).length = L.length := outS_length _ _ _

/-- A row of the call's own that holds these numbers, and may be written. -/
def RowU (w : World) (g : Nat) (zs : List Int) : Prop := ∀ i, i < zs.length → w.cell? ⟨g, i, none⟩ = some (.int .u64 (zs.getD i 0)) ∧ w.frozen? ⟨g, i, none⟩ = false

/-- Block g alone has been written. -/
structure Touch (g : Nat) (w w' : World) : Prop where
  os : w'.os = w.os
  tape : w'.tape = w.tape
  output : w'.output = w.output
  size : w'.heap.size = w.heap.size
  other : ∀ k, k ≠ g → w'.heap[k]? = w.heap[k]?

theorem Touch.refl (g : Nat) (w : World) : Touch g w w := ⟨rfl, rfl, rfl, rfl, fun _ _ => rfl⟩
theorem Touch.trans {g : Nat} {a b c : World} (h : Touch g a b) (k : Touch g b c) : Touch g a c :=
  ⟨k.os.trans h.os, k.tape.trans h.tape, k.output.trans h.output, k.size.trans h.size, fun i hi => (k.other i hi).trans (h.other i hi)⟩
theorem Touch.drewN {g : Nat} {a b : World} (h : Touch g a b) (q : Nat) : Touch g a (b.drewN q) := ⟨h.os, h.tape, h.output, h.size, h.other⟩
theorem Touch.drew {g : Nat} {a b : World} (h : Touch g a b) : Touch g a b.drew := ⟨h.os, h.tape, h.output, h.size, h.other⟩
theorem Touch.setCell {g : Nat} {a b : World} (h : Touch g a b) (i : Nat) (v : Value) : Touch g a (b.setCell ⟨g, i, none⟩ v) :=
  ⟨h.os, h.tape, h.output, by simp [World.setCell, h.size], fun k hk => (Below.heap_setCell b ⟨g, i, none⟩ v k hk).trans (h.other k hk)⟩
theorem Touch.below {g B : Nat} {a b : World} (h : Touch g a b) (hB : B ≤ g) : Below B a b := ⟨h.os, h.tape, h.output, Nat.le_of_eq h.size.symm, fun k hk => h.other k (by omega)⟩

theorem RowU.drewN {w : World} {g : Nat} {zs : List Int} (h : RowU w g zs) (q : Nat) : RowU (w.drewN q) g zs := h

theorem RowU.swapped {w : World} {g : Nat} {zs : List Int} (h : RowU w g zs) {j : Nat} (hj : j + 1 < zs.length) :
    RowU ((w.setCell ⟨g, j + 1, none⟩ (.int .u64 (zs.getD j 0))).setCell ⟨g, j, none⟩ (.int .u64 (zs.getD (j + 1) 0))) g (swp zs j) := by
  intro i hi
  rw [swp_length] at hi
  have hfr : (((w.setCell ⟨g, j + 1, none⟩ (.int .u64 (zs.getD j 0))).setCell ⟨g, j, none⟩ (.int .u64 (zs.getD (j + 1) 0)))).frozen? ⟨g, i, none⟩ = w.frozen? ⟨g, i, none⟩ := by
    rw [World.frozen?_setCell, World.frozen?_setCell]
  refine ⟨?_, by rw [hfr]; exact (h i hi).2⟩
  by_cases e : i = j
  · subst e
    rw [World.cell?_setCell_same _ _ _ (u := .int .u64 (zs.getD i 0)) (by rw [World.cell?_setCell_other _ _ _ _ (by simp)]; exact (h i hi).1)]
    simp [swp, List.getD, hi]
  · rw [World.cell?_setCell_other _ _ _ _ (by intro hq; injection hq with _ h2; omega)]
    by_cases e2 : i = j + 1
    · subst e2
      rw [World.cell?_setCell_same _ _ _ (h _ hi).1]
      simp [swp, List.getD, List.getElem?_set, hi]
    · rw [World.cell?_setCell_other _ _ _ _ (by intro hq; injection hq with _ h2; omega), (h i hi).1]
      simp [swp, List.getD, List.getElem?_set, show ¬ j = i by omega, show ¬ j + 1 = i by omega]

theorem inn_lt {j : Nat} {L : List Int} (h : L.getD (j + 1) 0 < L.getD j 0) : inn (j + 1) L = inn j (swp L j) := by
  show (if L.getD (j + 1) 0 < L.getD j 0 then inn j (swp L j) else L) = _
  rw [if_pos h]
theorem inn_ge {j : Nat} {L : List Int} (h : ¬ L.getD (j + 1) 0 < L.getD j 0) : inn (j + 1) L = L := by
  show (if L.getD (j + 1) 0 < L.getD j 0 then inn j (swp L j) else L) = _
  rw [if_neg h]

set_option maxHeartbeats 2000000 in
theorem sortv_any (g n c : Nat) (zs : List Int) (w : World) (hz : RowU w g zs) (hn : zs.length = n) (hn4 : n ≤ 4) :
    Calls Ybad.prog 25 #[.slice (some ⟨g, 0, none⟩) n c] w fun e w' => e = .returned (.tuple #[]) ∧ RowU w' g (isort zs) ∧ Touch g w w' := by
  obtain ⟨T, hT⟩ : ∃ T, T = isort zs := ⟨_, rfl⟩
  rw [← hT]
  have HT : Hid (outS (n - 1) 1 zs = T) := by unfold Hid; rw [hT, ← hn]; rfl
  have HZ : Hid (RowU w g zs ∧ zs.length = n) := ⟨hz, hn⟩
  clear hT hz hn
  go_enter Ybad.func25, Ybad.ntmps25
  go_wp2
  go_loopw [2] (fun i wr => ∃ (k : Nat) (L : List Int), 1 ≤ k ∧ (k ≤ n ∨ k = 1) ∧ i = .int .i64 k ∧ Hid (RowU wr g L ∧ L.length = n ∧ Touch g w wr ∧ outS (n - k) k L = T)) (fun i _ => 4 - (intOf i).toNat)
  case atStart => exact ⟨1, zs, by omega, by omega, rfl, HZ.out.1, HZ.out.2, Touch.refl _ _, HT.out⟩
  case round =>
    obtain ⟨k, L, hk1, hk2, rfl, HL⟩ := hrel
    by_cases hlt : k < n
    · obtain ⟨S, hS⟩ : ∃ S, S = inn k L := ⟨_, rfl⟩
      have HS : Hid (inn k L = S ∧ outS (n - (k + 1)) (k + 1) S = T) := by
        refine ⟨hS.symm, ?_⟩
        have h5 := HL.out.2.2.2
        rw [show n - k = n - (k + 1) + 1 by omega] at h5
        rw [hS]; exact h5
      clear hS
      go_wp2
      go_loopw [3] (fun j wr => ∃ (m : Nat) (L : List Int), m ≤ k ∧ j = .int .i64 m ∧ Hid (RowU wr g L ∧ L.length = n ∧ Touch g w wr ∧ inn m L = S)) (fun j _ => (intOf j).toNat)
      case atStart => exact ⟨k, L, by omega, rfl, HL.out.1, HL.out.2.1, HL.out.2.2.1, HS.out.1⟩
      case round =>
        clear HL
        obtain ⟨m, L, hm, rfl, HL⟩ := hrel
        cases m with
        | zero =>
          have HE : Hid (L = S) := HL.out.2.2.2
          have hd : decide ((0 : Int) < ((0 : Nat) : Int)) = false := by decide
          go_wp2
          go_quiet (fail)
          go_wp2
          go_roundw
          case rel => exact ⟨k + 1, L, by omega, by omega, by go_num, HL.out.1, HL.out.2.1, HL.out.2.2.1.drewN _, by rw [HE.out]; exact HS.out.2⟩
          case measure => simp [intOf]; omega
        | succ m =>
          have hml : m + 1 < L.length := by rw [HL.out.2.1]; omega
          obtain ⟨c1, f1⟩ := HL.out.1 (m + 1) hml
          obtain ⟨c0, f0⟩ := HL.out.1 m (by omega)
          have hpos : (0 : Int) < (m : Int) + 1 := by omega
          have hb1 : (m : Int) + 1 < (n : Int) := by omega
          have HSW := HL.out.1.swapped hml
          by_cases hc : L.getD (m + 1) 0 < L.getD m 0
          · have HI : Hid (inn m (swp L m) = S) := by rw [← inn_lt hc]; exact HL.out.2.2.2
            have HLW : Hid ((swp L m).length = n) := by unfold Hid; rw [swp_length]; exact HL.out.2.1
            have HTW : Hid (Touch g w wr) := HL.out.2.2.1
            clear HL
            generalize L.getD (m + 1) 0 = x at *
            generalize L.getD m 0 = y at *
            generalize swp L m = L2 at *
            have HR : Hid (RowU ((wr.setCell ⟨g, m + 1, none⟩ (.int .u64 y)).setCell ⟨g, m, none⟩ (.int .u64 x)) g L2) := HSW
            clear HSW hml
            go_wp2
            go_quiet (fail)
            go_wp2
            go_region
            go_wp2
            go_roundw
            case rel => exact ⟨m, L2, by omega, by go_num, HR.out, HLW.out, ((HTW.out.setCell (m + 1) (.int .u64 y)).setCell m (.int .u64 x)).drewN _, HI.out⟩
            case measure => simp [intOf]
          · have HI : Hid (L = S) := by rw [← inn_ge hc]; exact HL.out.2.2.2
            generalize L.getD (m + 1) 0 = x at *
            generalize L.getD m 0 = y at *
            clear HSW hml
            go_wp2
            go_quiet (fail)
            go_wp2
            go_roundw
            case rel => exact ⟨k + 1, L, by omega, by omega, by go_num, HL.out.1, HL.out.2.1, HL.out.2.2.1.drewN _, by rw [HI.out]; exact HS.out.2⟩
            case measure => simp [intOf]; omega
    · have HE : Hid (L = T) := by
        have h5 := HL.out.2.2.2
        rw [show n - k = 0 by omega] at h5
        exact h5
      go_wp2
      go_end0
      refine ⟨rfl, ?_, HL.out.2.2.1⟩
      rw [← HE.out]; exact HL.out.1
end Go.Proofs.YbulkblxqDoor
