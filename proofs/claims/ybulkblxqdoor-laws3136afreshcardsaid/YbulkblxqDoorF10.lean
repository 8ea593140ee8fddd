import Derived.Test.YbulkblxqDoorF9
namespace Go.Proofs.YbulkblxqDoor
open Go.RowKit
set_option linter.unusedVariables false
set_option linter.unusedSimpArgs false

def c6 (b01 b02 b03 b12 b13 b23 : Bool) : Nat → Nat → Bool
  | 0, 1 => b01
  | 0, 2 => b02
  | 0, 3 => b03
  | 1, 2 => b12
  | 1, 3 => b13
  | 2, 3 => b23
  | _, _ => false

theorem oT_c6 (c : Nat → Nat → Bool) : oT c = oT (c6 (c 0 1) (c 0 2) (c 0 3) (c 1 2) (c 1 3) (c 2 3)) := rfl
theorem mkE_c6 (c : Nat → Nat → Bool) : mkE c = mkE (c6 (c 0 1) (c 0 2) (c 0 3) (c 1 2) (c 1 3) (c 2 3)) := rfl

set_option maxRecDepth 100000 in
theorem oT_all : ∀ b01 b02 b03 b12 b13 b23 : Bool, ∀ i, i < 4 → ∀ j, j < 4 → bit8 ((oT (c6 b01 b02 b03 b12 b13 b23)).getD i 0) j = (decide (i < j) && c6 b01 b02 b03 b12 b13 b23 i j) := by
  decide +kernel
set_option maxRecDepth 100000 in
theorem mkE_all : ∀ b01 b02 b03 b12 b13 b23 : Bool, ∀ i, i < 4 → ∀ j, j < 4 → i < j → bit64 (mkE (c6 b01 b02 b03 b12 b13 b23)) (4 * i + j) = c6 b01 b02 b03 b12 b13 b23 i j := by
  decide +kernel

theorem c6_eq (c : Nat → Nat → Bool) {i j : Nat} (h : i < j) (hj : j < 4) : c6 (c 0 1) (c 0 2) (c 0 3) (c 1 2) (c 1 3) (c 2 3) i j = c i j := by
  match i, j, h, hj with
  | 0, 1, _, _ => rfl
  | 0, 2, _, _ => rfl
  | 0, 3, _, _ => rfl
  | 1, 2, _, _ => rfl
  | 1, 3, _, _ => rfl
  | 2, 3, _, _ => rfl
  | i + 3, j, h, hj => omega

theorem oT_bit (c : Nat → Nat → Bool) {i j : Nat} (hi : i < 4) (hj : j < 4) : bit8 ((oT c).getD i 0) j = (decide (i < j) && c i j) := by
  rw [oT_c6 c, oT_all _ _ _ _ _ _ i hi j hj]
  by_cases h : i < j
  · rw [c6_eq c h hj]
  · simp [h]
theorem mkE_bit (c : Nat → Nat → Bool) {i j : Nat} (h : i < j) (hj : j < 4) : bit64 (mkE c) (4 * i + j) = c i j := by
  rw [mkE_c6 c, mkE_all _ _ _ _ _ _ i (by omega) j hj h, c6_eq c h hj]

theorem picks_congr {p q : Nat → Bool} (L : List Int) : ∀ k, (∀ j, j < k → p j = q j) → picks p L k = picks q L k
  | 0, _ => rfl
  | k + 1, h => by
    unfold picks
    rw [picks_congr L k (fun j hj => h j (by omega)), h k (by omega)]

theorem tabU_congr {f g : Nat → Int} (k : Nat) (h : ∀ j, j < k → f j = g j) : tabU f k = tabU g k := by
  unfold tabU
  apply List.map_congr_left
  intro a ha
  exact h a (by simpa using ha)

/-- What shapeApart's order costs is what the law's own hashes tell. -/
theorem hash_eq (L : List Int) (e : Int) (o : Nat → Nat) :
    heP (fun i => hvP (pV i ((oT fun i j => bit64 (mkE (cR e o)) (4 * i + j)).getD i 0)) (labO L o) i) = hashO L e o := by
  unfold hashO heP
  rw [tabU_congr 4 (g := fun k => hvP (pW e o k) (labO L o) k)]
  intro k hk
  unfold hvP
  rw [picks_congr (q := pW e o k)]
  intro j hj
  unfold pV pW
  rw [oT_bit _ hk hj]
  by_cases h : k < j
  · rw [mkE_bit _ h hj]
    simp [h]; omega
  · simp [h]
end Go.Proofs.YbulkblxqDoor
