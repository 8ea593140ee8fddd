import Derived.Test.YbulkblxqDoorW3
import Derived.Test.YbulkblxqDoorShelf
import Derived.Deep.Draws
namespace Go.Proofs.YbulkblxqDoor
open Go.RowKit
set_option linter.unusedVariables false
set_option linter.unusedSimpArgs false

theorem search_any (a : Option Addr) (n c : Nat) (zs : List Int) (v : Int) (w : World) (h : IsInts .i64 w a n zs) (hs : zs.Pairwise (· ≤ ·)) :
    Calls Ybad.prog 56 #[.slice a n c, .int .i64 v] w fun e w' => ∃ k : Int, e = .returned (.tuple #[.int .i64 k, .bool (zs.contains v)]) ∧ ∃ q, w' = w.drewN q := by
  obtain ⟨hz, hn, hc⟩ := h
  by_cases h0 : n = 0
  · subst h0
    obtain rfl : zs = [] := List.length_eq_zero_iff.1 hz
    refine (Ybad.slices_BinarySearch_int_empty a c v w).mono ?_
    rintro e w' ⟨rfl, rfl⟩
    exact ⟨0, rfl, 0, rfl⟩
  · obtain ⟨b, off, rfl, _⟩ := hc 0 (by omega)
    refine (Ybad.slices_BinarySearch_int b off n c zs v w (by omega) hn (fun i hi => ?_) ?_).mono ?_
    · obtain ⟨b', off', he, h'⟩ := hc i (by omega)
      simp only [Option.some.injEq, Addr.mk.injEq, and_true] at he
      obtain ⟨rfl, rfl⟩ := he
      exact h'
    · rw [List.take_of_length_le (by omega)]; exact hs
    · rintro e w' ⟨rfl, q, rfl⟩
      rw [List.take_of_length_le (by omega)]
      exact ⟨_, rfl, q, rfl⟩

theorem hasSpot_core (a : Option Addr) (n c : Nat) (v : Int) (r : Bool) (w : World)
    (k1 : Hid (Calls Ybad.prog 56 #[.slice a n c, .int .i64 v] w fun e w' => ∃ k : Int, e = .returned (.tuple #[.int .i64 k, .bool r]) ∧ ∃ q, w' = w.drewN q)) :
    Calls Ybad.prog 40 #[.slice a n c, .int .i64 v] w fun e w' => e = .returned (.bool r) ∧ ∃ q, w' = w.drewN q := by
  go_enter Ybad.func40, Ybad.ntmps40
  go_wp2_with fail
  refine k1.out.mono ?_
  rintro e w' ⟨k, rfl, q, rfl⟩
  go_wp2
  go_ret
  exact ⟨rfl, q, rfl⟩

theorem hasSpot_any (a : Option Addr) (n c : Nat) (zs : List Int) (v : Int) (w : World) (h : IsInts .i64 w a n zs) (hs : zs.Pairwise (· ≤ ·)) :
    Calls Ybad.prog 40 #[.slice a n c, .int .i64 v] w fun e w' => e = .returned (.bool (zs.contains v)) ∧ ∃ q, w' = w.drewN q :=
  hasSpot_core a n c v _ w (search_any a n c zs v w h hs)

theorem below_drewN {B : Nat} {a w : World} (h : Below B a w) (q : Nat) : Below B a (w.drewN q) := ⟨h.os, h.tape, h.output, h.size, h.block⟩

set_option maxHeartbeats 1000000 in
theorem conflicts_core (h1 h2 : Int) (a1 a2 : Option Addr) (n1 c1 n2 c2 : Nat) (r1 r2 r : Bool) (w : World) (hr : Hid (r = ((decide (0 ≤ h1) && r1) || (decide (0 ≤ h2) && r2))))
    (k1 : Hid (∀ W, Below w.heap.size w W → Calls Ybad.prog 40 #[.slice a2 n2 c2, .int .i64 h1] W fun e w' => e = .returned (.bool r1) ∧ ∃ q, w' = W.drewN q))
    (k2 : Hid (∀ W, Below w.heap.size w W → Calls Ybad.prog 40 #[.slice a1 n1 c1, .int .i64 h2] W fun e w' => e = .returned (.bool r2) ∧ ∃ q, w' = W.drewN q)) :
    Calls Ybad.prog 23 #[.agg #[.int .i64 h1, .slice a1 n1 c1], .agg #[.int .i64 h2, .slice a2 n2 c2]] w fun e w' =>
      e = .returned (.bool r) ∧ Below w.heap.size w w' := by
  have B2 : Hid (∀ o1 o2, Below w.heap.size w ((w.alloc o1).alloc o2)) := fun o1 o2 => ((Below.refl _ _).alloc (Nat.le_refl _) _).alloc (by simp) _
  by_cases g1 : 0 ≤ h1
  · have D1 : Hid (decide (0 ≤ h1) = true) := decide_eq_true g1
    by_cases g2 : 0 ≤ h2
    · have D2 : Hid (decide (0 ≤ h2) = true) := decide_eq_true g2
      go_enter Ybad.func23, Ybad.ntmps23
      go_wp2_with fail
      refine (k1.out _ (B2.out _ _)).mono ?_
      rintro e w' ⟨rfl, q, rfl⟩
      cases r1
      · go_wp2_with fail
        refine (k2.out _ (below_drewN (B2.out _ _) _)).mono ?_
        rintro e w' ⟨rfl, q', rfl⟩
        go_wp2
        go_ret
        exact ⟨ret_bool (by rw [hr.out, D1.out, D2.out]; simp), below_drewN (B2.out _ _) _⟩
      · go_wp2_with fail
        go_ret
        exact ⟨ret_bool (by rw [hr.out, D1.out, D2.out]; simp), below_drewN (B2.out _ _) _⟩
    · have D2 : Hid (decide (0 ≤ h2) = false) := decide_eq_false g2
      go_enter Ybad.func23, Ybad.ntmps23
      go_wp2_with fail
      refine (k1.out _ (B2.out _ _)).mono ?_
      rintro e w' ⟨rfl, q, rfl⟩
      cases r1
      · go_wp2_with fail
        go_ret
        exact ⟨ret_bool (by rw [hr.out, D1.out, D2.out]; simp), below_drewN (B2.out _ _) _⟩
      · go_wp2_with fail
        go_ret
        exact ⟨ret_bool (by rw [hr.out, D1.out, D2.out]; simp), below_drewN (B2.out _ _) _⟩
  · have D1 : Hid (decide (0 ≤ h1) = false) := decide_eq_false g1
    by_cases g2 : 0 ≤ h2
    · have D2 : Hid (decide (0 ≤ h2) = true) := decide_eq_true g2
      go_enter Ybad.func23, Ybad.ntmps23
      go_wp2_with fail
      refine (k2.out _ (B2.out _ _)).mono ?_
      rintro e w' ⟨rfl, q, rfl⟩
      go_wp2
      go_ret
      exact ⟨ret_bool (by rw [hr.out, D1.out, D2.out]; simp), below_drewN (B2.out _ _) _⟩
    · have D2 : Hid (decide (0 ≤ h2) = false) := decide_eq_false g2
      go_enter Ybad.func23, Ybad.ntmps23
      go_wp2_with fail
      go_ret
      exact ⟨ret_bool (by rw [hr.out, D1.out, D2.out]; simp), B2.out _ _⟩

theorem conflicts_any (h1 h2 : Int) (a1 a2 : Option Addr) (n1 c1 n2 c2 : Nat) (zs1 zs2 : List Int) (w : World)
    (i1 : IsInts .i64 w a1 n1 zs1) (i2 : IsInts .i64 w a2 n2 zs2) (s1 : zs1.Pairwise (· ≤ ·)) (s2 : zs2.Pairwise (· ≤ ·)) :
    Calls Ybad.prog 23 #[.agg #[.int .i64 h1, .slice a1 n1 c1], .agg #[.int .i64 h2, .slice a2 n2 c2]] w fun e w' => e = .returned (.bool (confB h1 zs1 h2 zs2)) ∧ Below w.heap.size w w' :=
  conflicts_core h1 h2 a1 a2 n1 c1 n2 c2 _ _ _ w rfl (fun W hW => hasSpot_any a2 n2 c2 zs2 h1 W (i2.below hW) s2) (fun W hW => hasSpot_any a1 n1 c1 zs1 h2 W (i1.below hW) s1)
end Go.Proofs.YbulkblxqDoor
