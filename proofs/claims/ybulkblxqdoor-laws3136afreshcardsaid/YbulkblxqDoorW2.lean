import Derived.Test.YbulkblxqDoorW1
namespace Go.Proofs.YbulkblxqDoor
open Go.RowKit
set_option linter.unusedVariables false
set_option linter.unusedSimpArgs false

theorem cell_lt {w : World} {p : Addr} {v : Value} (h : w.cell? p = some v) : p.block < w.heap.size := by
  unfold World.cell? at h
  by_cases hb : p.block < w.heap.size
  · exact hb
  · rw [Array.getElem?_eq_none (by omega)] at h
    simp at h

theorem IsInts.below {k : IntKind} {w w' : World} {a : Option Addr} {n : Nat} {zs : List Int} (h : IsInts k w a n zs) (hb : Below w.heap.size w w') : IsInts k w' a n zs := by
  obtain ⟨h1, h2, h3⟩ := h
  refine ⟨h1, h2, fun i hi => ?_⟩
  obtain ⟨b, off, e, hc⟩ := h3 i hi
  exact ⟨b, off, e, by rw [hb.cell (cell_lt hc)]; exact hc⟩

def confB (h1 : Int) (zs1 : List Int) (h2 : Int) (zs2 : List Int) : Bool :=
  (decide (0 ≤ h1) && zs2.contains h1) || (decide (0 ≤ h2) && zs1.contains h2)

theorem ret_bool {a b : Bool} (h : b = a) : Ending.returned (.bool a) = .returned (.bool b) := by rw [h]

set_option maxHeartbeats 1000000 in
theorem conf_core (h1 h2 : Int) (a1 a2 : Option Addr) (n1 c1 n2 c2 : Nat) (r1 r2 r : Bool) (w : World) (hr : Hid (r = ((decide (0 ≤ h1) && r1) || (decide (0 ≤ h2) && r2))))
    (k1 : Hid (∀ W, Below w.heap.size w W → Calls Ybad.prog 27 #[.slice a2 n2 c2, .int .i64 h1] W fun e w' => e = .returned (.bool r1) ∧ w' = W))
    (k2 : Hid (∀ W, Below w.heap.size w W → Calls Ybad.prog 27 #[.slice a1 n1 c1, .int .i64 h2] W fun e w' => e = .returned (.bool r2) ∧ w' = W)) :
    Calls Ybad.prog 17 #[.agg #[.int .i64 h1, .slice a1 n1 c1], .agg #[.int .i64 h2, .slice a2 n2 c2]] w fun e w' =>
      e = .returned (.bool r) ∧ Below w.heap.size w w' := by
  have B2 : Hid (∀ o1 o2, Below w.heap.size w ((w.alloc o1).alloc o2)) := fun o1 o2 => ((Below.refl _ _).alloc (Nat.le_refl _) _).alloc (by simp) _
  by_cases g1 : 0 ≤ h1
  · have D1 : Hid (decide (0 ≤ h1) = true) := decide_eq_true g1
    by_cases g2 : 0 ≤ h2
    · have D2 : Hid (decide (0 ≤ h2) = true) := decide_eq_true g2
      go_enter Ybad.func17, Ybad.ntmps17
      go_wp2_with fail
      refine (k1.out _ (B2.out _ _)).mono ?_
      rintro e w' ⟨rfl, rfl⟩
      cases r1
      · go_wp2_with fail
        refine (k2.out _ (B2.out _ _)).mono ?_
        rintro e w' ⟨rfl, rfl⟩
        go_wp2
        go_ret
        exact ⟨ret_bool (by rw [hr.out, D1.out, D2.out]; simp), B2.out _ _⟩
      · go_wp2_with fail
        go_ret
        exact ⟨ret_bool (by rw [hr.out, D1.out, D2.out]; simp), B2.out _ _⟩
    · have D2 : Hid (decide (0 ≤ h2) = false) := decide_eq_false g2
      go_enter Ybad.func17, Ybad.ntmps17
      go_wp2_with fail
      refine (k1.out _ (B2.out _ _)).mono ?_
      rintro e w' ⟨rfl, rfl⟩
      cases r1
      · go_wp2_with fail
        go_ret
        exact ⟨ret_bool (by rw [hr.out, D1.out, D2.out]; simp), B2.out _ _⟩
      · go_wp2_with fail
        go_ret
        exact ⟨ret_bool (by rw [hr.out, D1.out, D2.out]; simp), B2.out _ _⟩
  · have D1 : Hid (decide (0 ≤ h1) = false) := decide_eq_false g1
    by_cases g2 : 0 ≤ h2
    · have D2 : Hid (decide (0 ≤ h2) = true) := decide_eq_true g2
      go_enter Ybad.func17, Ybad.ntmps17
      go_wp2_with fail
      refine (k2.out _ (B2.out _ _)).mono ?_
      rintro e w' ⟨rfl, rfl⟩
      go_wp2
      go_ret
      exact ⟨ret_bool (by rw [hr.out, D1.out, D2.out]; simp), B2.out _ _⟩
    · have D2 : Hid (decide (0 ≤ h2) = false) := decide_eq_false g2
      go_enter Ybad.func17, Ybad.ntmps17
      go_wp2_with fail
      go_ret
      exact ⟨ret_bool (by rw [hr.out, D1.out, D2.out]; simp), B2.out _ _⟩

theorem conf_any (h1 h2 : Int) (a1 a2 : Option Addr) (n1 c1 n2 c2 : Nat) (zs1 zs2 : List Int) (w : World)
    (i1 : IsInts .i64 w a1 n1 zs1) (i2 : IsInts .i64 w a2 n2 zs2) :
    Calls Ybad.prog 17 #[.agg #[.int .i64 h1, .slice a1 n1 c1], .agg #[.int .i64 h2, .slice a2 n2 c2]] w fun e w' => e = .returned (.bool (confB h1 zs1 h2 zs2)) ∧ Below w.heap.size w w' :=
  conf_core h1 h2 a1 a2 n1 c1 n2 c2 _ _ _ w rfl (fun W hW => contains_any a2 n2 c2 zs2 h1 W (i2.below hW)) (fun W hW => contains_any a1 n1 c1 zs1 h2 W (i1.below hW))
end Go.Proofs.YbulkblxqDoor
