import Derived.Test.YbulkblxqDoorProg
import Derived.WalkKit
namespace Go.Proofs.YbulkblxqDoor
open Go.RowKit

/-- The slice (a, n) reads as the integers zs in the world w. -/
def IsInts (k : IntKind) (w : World) (a : Option Addr) (n : Nat) (zs : List Int) : Prop :=
  zs.length = n ∧ n < 4611686018427387904 ∧ ∀ i, i < n → ∃ b off, a = some ⟨b, off, none⟩ ∧ w.cell? ⟨b, off + i, none⟩ = some (.int k (zs.getD i 0))

theorem contains_at (b off n c : Nat) (zs : List Int) (v : Int) (w : World) (hz : zs.length = n) (hn : n < 4611686018427387904)
    (hc : ∀ i, i < n → w.cell? ⟨b, off + i, none⟩ = some (.int .i64 (zs.getD i 0))) :
    Calls Ybad.prog 27 #[.slice (some ⟨b, off, none⟩) n c, .int .i64 v] w fun e w' => e = .returned (.bool (zs.contains v)) ∧ w' = w := by
  go_enter Ybad.func27, Ybad.ntmps27
  go_wp2
  go_loop [5] (fun i => ∃ k : Nat, k ≤ n ∧ i = .int .i64 k ∧ ∀ j, j < k → zs.getD j 0 ≠ v) (fun i => n - (intOf i).toNat)
  case atStart => exact ⟨0, Nat.zero_le _, rfl, fun j hj => absurd hj (Nat.not_lt_zero _)⟩
  case round =>
    obtain ⟨k, hk, rfl, hno⟩ := hrel
    have HN : Hid (∀ j, j < k → zs.getD j 0 ≠ v) := hno
    clear hno
    have hcell : k < n → w.cell? ⟨b, off + k, none⟩ = some (.int .i64 (zs.getD k 0)) := fun _ => hc k (by omega)
    go_wp2
    · go_ret
      refine ⟨?_, rfl⟩
      have h1 : (zs[k] == v) = true := by assumption
      have : v ∈ zs := by rw [← eq_of_beq h1]; exact List.getElem_mem _
      simp [this]
    · go_round
      case rel =>
        refine ⟨k + 1, by omega, by go_num, fun j hj => ?_⟩
        have h1 : (zs[k] == v) = false := by assumption
        have hlt : k < n := by assumption
        by_cases e : j = k
        · subst e
          have : zs.getD j 0 = zs[j] := by simp [List.getD, hz, hlt]
          rw [this]
          exact fun h => by simp [h] at h1
        · exact HN.out j (by omega)
      case measure => simp [intOf]; omega
    · go_ret
      refine ⟨?_, rfl⟩
      have : v ∉ zs := by
        intro hm
        obtain ⟨j, hj, he⟩ := List.getElem_of_mem hm
        refine HN.out j (by omega) ?_
        simp [List.getD, hj, he]
      simp [this]

theorem contains_any (a : Option Addr) (n c : Nat) (zs : List Int) (v : Int) (w : World) (h : IsInts .i64 w a n zs) :
    Calls Ybad.prog 27 #[.slice a n c, .int .i64 v] w fun e w' => e = .returned (.bool (zs.contains v)) ∧ w' = w := by
  obtain ⟨hz, hn, hc⟩ := h
  by_cases h0 : n = 0
  · subst h0
    obtain rfl : zs = [] := List.length_eq_zero_iff.1 hz
    go_enter Ybad.func27, Ybad.ntmps27
    go_wp2
    refine wp_loop_rounds 1 ?_
    rw [rounds_succ]
    go_wp2
    go_ret
    exact ⟨rfl, rfl⟩
  · obtain ⟨b, off, rfl, _⟩ := hc 0 (by omega)
    exact contains_at b off n c zs v w hz hn fun i hi => by
      obtain ⟨b', off', he, h'⟩ := hc i hi
      simp only [Option.some.injEq, Addr.mk.injEq, and_true] at he
      obtain ⟨rfl, rfl⟩ := he
      exact h'
end Go.Proofs.YbulkblxqDoor
