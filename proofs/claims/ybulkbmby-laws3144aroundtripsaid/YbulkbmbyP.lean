namespace Go.Proofs.Ybulkbmby

/-- The digit that a byte writes. -/
def hexd (c : Int) : Option Int :=
  if 48 ≤ c ∧ c ≤ 57 then some (c - 48) else if 97 ≤ c ∧ c ≤ 102 then some (c - 87) else if 65 ≤ c ∧ c ≤ 70 then some (c - 55) else none

def pstep (acc : Option Int) (c : Int) : Option Int := acc.bind fun v => (hexd c).map (v * 16 + ·)
def pv (l : List Int) : Option Int := l.foldl pstep (some 0)

theorem pv_snoc (l : List Int) (c : Int) : pv (l ++ [c]) = pstep (pv l) c := by simp [pv]
theorem fold_none (l : List Int) : l.foldl pstep none = none := by
  induction l with
  | nil => rfl
  | cons c l ih => exact ih
theorem pv_append_none (l r : List Int) (h : pv l = none) : pv (l ++ r) = none := by
  unfold pv at *
  rw [List.foldl_append, h, fold_none]
theorem take_snoc (zs : List Int) (k : Nat) (h : k < zs.length) : zs.take (k + 1) = zs.take k ++ [zs.getD k 0] := by
  rw [List.take_succ_eq_append_getElem h]
  simp [List.getD, h]
theorem hexd_range {c d : Int} (h : hexd c = some d) : 0 ≤ d ∧ d < 16 := by
  unfold hexd at h
  split at h
  · simp at h; omega
  · split at h
    · simp at h; omega
    · split at h
      · simp at h; omega
      · cases h

theorem pstep_some {u c d : Int} (h : hexd c = some d) : pstep (some u) c = some (u * 16 + d) := by simp [pstep, h]
theorem pstep_none {u c : Int} (h : hexd c = none) : pstep (some u) c = none := by simp [pstep, h]
theorem bound_step {u d : Int} {k : Nat} (h0 : 0 ≤ u) (h1 : u < 16 ^ k) (hd : 0 ≤ d ∧ d < 16) : 0 ≤ u * 16 + d ∧ u * 16 + d < 16 ^ (k + 1) := by
  rw [Int.pow_succ]
  generalize (16 : Int) ^ k = K at *
  omega
theorem pow_le {k : Nat} (h : k ≤ 15) : (16 : Int) ^ k ≤ 1152921504606846976 := by
  have : k = 0 ∨ k = 1 ∨ k = 2 ∨ k = 3 ∨ k = 4 ∨ k = 5 ∨ k = 6 ∨ k = 7 ∨ k = 8 ∨ k = 9 ∨ k = 10 ∨ k = 11 ∨ k = 12 ∨ k = 13 ∨ k = 14 ∨ k = 15 := by omega
  rcases this with rfl | rfl | rfl | rfl | rfl | rfl | rfl | rfl | rfl | rfl | rfl | rfl | rfl | rfl | rfl | rfl <;> decide

theorem hexd_cases (z : Int) : (48 ≤ z ∧ z ≤ 57 ∧ hexd z = some (z - 48)) ∨ (97 ≤ z ∧ z ≤ 102 ∧ hexd z = some (z - 87)) ∨ (65 ≤ z ∧ z ≤ 70 ∧ hexd z = some (z - 55)) ∨ ((z < 48 ∨ 57 < z) ∧ (z < 97 ∨ 102 < z) ∧ (z < 65 ∨ 70 < z) ∧ hexd z = none) := by
  unfold hexd
  by_cases h1 : 48 ≤ z ∧ z ≤ 57
  · left; rw [if_pos h1]; exact ⟨h1.1, h1.2, rfl⟩
  · rw [if_neg h1]
    by_cases h2 : 97 ≤ z ∧ z ≤ 102
    · right; left; rw [if_pos h2]; exact ⟨h2.1, h2.2, rfl⟩
    · rw [if_neg h2]
      by_cases h3 : 65 ≤ z ∧ z ≤ 70
      · right; right; left; rw [if_pos h3]; exact ⟨h3.1, h3.2, rfl⟩
      · rw [if_neg h3]
        right; right; right
        exact ⟨by omega, by omega, by omega, rfl⟩

/-- What parseHex answers. -/
def parseV (zs : List Int) : Int := if zs.length = 0 ∨ 16 < zs.length then 0 else (pv zs).getD 0
def parseB (zs : List Int) : Bool := if zs.length = 0 ∨ 16 < zs.length then false else (pv zs).isSome
end Go.Proofs.Ybulkbmby
