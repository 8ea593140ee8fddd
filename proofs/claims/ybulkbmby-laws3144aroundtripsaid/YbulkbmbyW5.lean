import Derived.Test.YbulkbmbyW6
namespace Go.Proofs.Ybulkbmby
open Go.RowKit
set_option linter.unusedVariables false
set_option linter.unusedSimpArgs false

def loF (k : Nat) : Int := if k < 10 then 48 + k else 87 + k
def upF (k : Nat) : Int := if k < 10 then 48 + k else 55 + k

theorem sixteen {k : Nat} (h : k < 16) : k = 0 ∨ k = 1 ∨ k = 2 ∨ k = 3 ∨ k = 4 ∨ k = 5 ∨ k = 6 ∨ k = 7 ∨ k = 8 ∨ k = 9 ∨ k = 10 ∨ k = 11 ∨ k = 12 ∨ k = 13 ∨ k = 14 ∨ k = 15 := by omega

theorem lo_at {k : Nat} (h : k < 16) (w : World) : (Instr.index 9 (.string { data := #[48, 49, 50, 51, 52, 53, 54, 55, 56, 57, 97, 98, 99, 100, 101, 102] }) (.int .i64 (k : Int))).run Yba.prog w = .ok (.int .u8 (loF k)) w := by
  rcases sixteen h with rfl | rfl | rfl | rfl | rfl | rfl | rfl | rfl | rfl | rfl | rfl | rfl | rfl | rfl | rfl | rfl <;> kernel_rfl
theorem up_at {k : Nat} (h : k < 16) (w : World) : (Instr.index 9 (.string { data := #[48, 49, 50, 51, 52, 53, 54, 55, 56, 57, 65, 66, 67, 68, 69, 70] }) (.int .i64 (k : Int))).run Yba.prog w = .ok (.int .u8 (upF k)) w := by
  rcases sixteen h with rfl | rfl | rfl | rfl | rfl | rfl | rfl | rfl | rfl | rfl | rfl | rfl | rfl | rfl | rfl | rfl <;> kernel_rfl

theorem hit {k : Nat} {c : Int} (h : k < 16) (hc : loF k = c ∨ upF k = c) : hexd c = some (k : Int) := by
  unfold loF upF at hc
  unfold hexd
  by_cases h1 : 48 ≤ c ∧ c ≤ 57
  · rw [if_pos h1]; congr 1; split at hc <;> omega
  · rw [if_neg h1]
    by_cases h2 : 97 ≤ c ∧ c ≤ 102
    · rw [if_pos h2]; congr 1; split at hc <;> omega
    · rw [if_neg h2]
      by_cases h3 : 65 ≤ c ∧ c ≤ 70
      · rw [if_pos h3]; congr 1; split at hc <;> omega
      · split at hc <;> omega

theorem miss {c : Int} (h : ∀ k, k < 16 → loF k ≠ c ∧ upF k ≠ c) : hexd c = none := by
  rcases hexd_cases c with ⟨g0, g1, _⟩ | ⟨g0, g1, _⟩ | ⟨g0, g1, _⟩ | ⟨_, _, _, hd⟩
  · have := (h (c - 48).toNat (by omega)).1
    unfold loF at this
    split at this <;> omega
  · have := (h (c - 87).toNat (by omega)).1
    unfold loF at this
    split at this <;> omega
  · have := (h (c - 55).toNat (by omega)).2
    unfold upF at this
    split at this <;> omega
  · exact hd

set_option maxHeartbeats 1000000 in
theorem digit_any (c : Int) (w : World) :
    Calls Yba.prog 5 #[.int .u8 c] w fun e w' => e = .returned (.tuple #[.int .u64 ((hexd c).getD 0), .bool (hexd c).isSome]) ∧ w' = w := by
  obtain ⟨rv, hrv⟩ : ∃ rv, rv = hexd c := ⟨_, rfl⟩
  rw [← hrv]
  have HRV : Hid (rv = hexd c) := hrv
  clear hrv
  obtain ⟨V, hV⟩ : ∃ V, V = rv.getD 0 := ⟨_, rfl⟩
  obtain ⟨B, hB⟩ : ∃ B, B = rv.isSome := ⟨_, rfl⟩
  rw [← hV, ← hB]
  have HV : Hid (V = rv.getD 0 ∧ B = rv.isSome) := ⟨hV, hB⟩
  clear hV hB
  go_enter Yba.func5, Yba.ntmps5
  go_wp2
  go_loop [4] (fun i => ∃ k : Nat, k ≤ 16 ∧ i = .int .i64 k ∧ Hid (∀ j, j < k → loF j ≠ c ∧ upF j ≠ c)) (fun i => 16 - (intOf i).toNat)
  case atStart => exact ⟨0, by omega, rfl, fun j hj => absurd hj (Nat.not_lt_zero _)⟩
  case round =>
    obtain ⟨k, hk, rfl, HN⟩ := hrel
    by_cases hlt : k < 16
    · have e1 := lo_at hlt
      have e2 := up_at hlt
      obtain ⟨x, hx⟩ : ∃ x, x = loF k := ⟨_, rfl⟩
      obtain ⟨y, hy⟩ : ∃ y, y = upF k := ⟨_, rfl⟩
      rw [← hx] at e1
      rw [← hy] at e2
      have HX : Hid (x = loF k ∧ y = upF k) := ⟨hx, hy⟩
      clear hx hy
      by_cases h1 : x = c
      · have g1 : (x == c) = true := by simp [h1]
        have HM : Hid (rv = some (k : Int)) := HRV.out.trans (hit hlt (.inl (HX.out.1.symm.trans h1)))
        clear h1
        go_wp2
        go_ret2
        exact ⟨ret2 (by rw [HV.out.1, HM.out]; rfl) (by rw [HV.out.2, HM.out]; rfl), rfl⟩
      · have g1 : (x == c) = false := by simp [h1]
        by_cases h2 : y = c
        · have g2 : (y == c) = true := by simp [h2]
          have HM : Hid (rv = some (k : Int)) := HRV.out.trans (hit hlt (.inr (HX.out.2.symm.trans h2)))
          clear h1 h2
          go_wp2
          go_ret2
          exact ⟨ret2 (by rw [HV.out.1, HM.out]; rfl) (by rw [HV.out.2, HM.out]; rfl), rfl⟩
        · have g2 : (y == c) = false := by simp [h2]
          have HP : Hid (∀ j, j < k + 1 → loF j ≠ c ∧ upF j ≠ c) := by
            intro j hj
            by_cases e : j = k
            · subst e; exact ⟨fun h => h1 (HX.out.1.trans h), fun h => h2 (HX.out.2.trans h)⟩
            · exact HN.out j (by omega)
          clear h1 h2
          go_wp2
          go_round
          case rel => exact ⟨k + 1, by omega, by go_num, HP⟩
          case measure => simp [intOf]; omega
    · have HM : Hid (rv = none) := HRV.out.trans (miss (fun j hj => HN.out j (by omega)))
      go_wp2
      go_ret2
      exact ⟨ret2 (by rw [HV.out.1, HM.out]; rfl) (by rw [HV.out.2, HM.out]; rfl), rfl⟩
end Go.Proofs.Ybulkbmby
