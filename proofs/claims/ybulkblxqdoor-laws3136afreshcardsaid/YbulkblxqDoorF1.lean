import Derived.Test.YbulkblxqDoorW3
namespace Go.Proofs.YbulkblxqDoor
open Go.RowKit
set_option linter.unusedVariables false
set_option linter.unusedSimpArgs false

/-- One byte's step of the hash. -/
def fstep (h v : Int) : Int := IntKind.u64.wrap (bits BinOp.xor IntKind.u64 h (bits BinOp.and IntKind.u64 v 255) * 1099511628211)
def fnvN : Nat → Int → Int → Int
  | 0, h, _ => h
  | k + 1, h, v => fnvN k (fstep h v) (v / 256)
def fnv8 (h v : Int) : Int := fnvN 8 h v

theorem fnvN_succ (k m : Nat) (h v : Int) (e : k = m + 1) : fnvN k h v = fnvN m (fstep h v) (v / 256) := by subst e; rfl
theorem ret_u64 {a b : Int} (h : a = b) : Ending.returned (.int .u64 a) = .returned (.int .u64 b) := by rw [h]

theorem fnv_any (h v : Int) (w : World) :
    Calls Ybad.prog 20 #[.int .u64 h, .int .u64 v] w fun e w' => e = .returned (.int .u64 (fnv8 h v)) ∧ w' = w := by
  obtain ⟨t, ht⟩ : ∃ t, t = fnv8 h v := ⟨_, rfl⟩
  rw [← ht]
  have HT : Hid (fnvN 8 h v = t) := ht.symm
  clear ht
  go_enter Ybad.func20, Ybad.ntmps20
  go_wp2
  go_loop [0, 1, 5] (fun h v i => ∃ (k : Nat) (h' v' : Int), k ≤ 8 ∧ i = .int .i64 k ∧ h = .int .u64 h' ∧ v = .int .u64 v' ∧ Hid (fnvN (8 - k) h' v' = t)) (fun _ _ i => 8 - (intOf i).toNat)
  case atStart => exact ⟨0, h, v, by omega, rfl, rfl, rfl, HT⟩
  case round =>
    obtain ⟨k, h', v', hk, rfl, rfl, rfl, HK⟩ := hrel
    by_cases hlt : k < 8
    · have HS : Hid (fnvN (8 - (k + 1)) (fstep h' v') (v' / 256) = t) := by
        unfold Hid
        rw [← fnvN_succ (8 - k) (8 - (k + 1)) h' v' (by omega)]; exact HK.out
      go_wp2
      go_round
      case rel => exact ⟨k + 1, fstep h' v', v' / 256, by omega, by go_num, rfl, rfl, HS⟩
      case measure => simp [intOf]; omega
    · obtain rfl : k = 8 := by omega
      go_wp2
      go_ret
      exact ⟨ret_u64 HK.out, rfl⟩

set_option maxHeartbeats 1000000 in
theorem hashv_any (h : Int) (a : Option Addr) (n c : Nat) (zs : List Int) (w : World) (hz : IsInts .u64 w a n zs) :
    Calls Ybad.prog 26 #[.int .u64 h, .slice a n c] w fun e w' => e = .returned (.int .u64 (zs.foldl fnv8 h)) ∧ w' = w := by
  obtain ⟨t, ht⟩ : ∃ t, t = zs.foldl fnv8 h := ⟨_, rfl⟩
  rw [← ht]
  have HT : Hid (zs.foldl fnv8 h = t) := ht.symm
  have HZ : Hid (IsInts .u64 w a n zs) := hz
  have hnb : n < 4611686018427387904 := hz.2.1
  clear ht hz
  go_enter Ybad.func26, Ybad.ntmps26
  go_wp2
  go_loop [0, 9] (fun h i => ∃ (k : Nat) (h' : Int), k ≤ n ∧ i = .int .i64 k ∧ h = .int .u64 h' ∧ Hid ((zs.drop k).foldl fnv8 h' = t)) (fun _ i => n - (intOf i).toNat)
  case atStart => exact ⟨0, h, by omega, rfl, rfl, HT⟩
  case round =>
    obtain ⟨k, h', hk, rfl, rfl, HK⟩ := hrel
    by_cases hlt : k < n
    · obtain ⟨b, off, ha, hc⟩ := HZ.out.2.2 k hlt
      subst ha
      have HD : Hid ((zs.drop (k + 1)).foldl fnv8 (fnv8 h' (zs.getD k 0)) = t) := by
        have h5 := HK.out
        have hkl : k < zs.length := by rw [HZ.out.1]; exact hlt
        rw [List.drop_eq_getElem_cons hkl, List.foldl_cons] at h5
        rw [show zs.getD k 0 = zs[k] by simp [List.getD, hkl]]
        exact h5
      generalize zs.getD k 0 = z at *
      obtain ⟨u, hu⟩ : ∃ u, u = fnv8 h' z := ⟨_, rfl⟩
      rw [← hu] at HD
      have HU : Hid (fnvN 8 h' z = u) := hu.symm
      clear hu
      go_wp2
      go_loop [0, 6, 13] (fun h v i => ∃ (j : Nat) (h' v' : Int), j ≤ 8 ∧ i = .int .i64 j ∧ h = .int .u64 h' ∧ v = .int .u64 v' ∧ Hid (fnvN (8 - j) h' v' = u)) (fun _ _ i => 8 - (intOf i).toNat)
      case atStart => exact ⟨0, h', z, by omega, rfl, rfl, rfl, HU⟩
      case round =>
        obtain ⟨j, g', v', hj, rfl, rfl, rfl, HJ⟩ := hrel
        by_cases hj8 : j < 8
        · have HS : Hid (fnvN (8 - (j + 1)) (fstep g' v') (v' / 256) = u) := by
            unfold Hid
            rw [← fnvN_succ (8 - j) (8 - (j + 1)) g' v' (by omega)]; exact HJ.out
          go_wp2
          go_round
          case rel => exact ⟨j + 1, fstep g' v', v' / 256, by omega, by go_num, rfl, rfl, HS⟩
          case measure => simp [intOf]; omega
        · obtain rfl : j = 8 := by omega
          have HJ2 : Hid (g' = u) := HJ.out
          go_wp2
          go_round
          case rel => exact ⟨k + 1, u, by omega, by go_num, by rw [HJ2.out], HD⟩
          case measure => simp [intOf]; omega
    · obtain rfl : k = n := by omega
      go_wp2
      go_ret
      refine ⟨ret_u64 ?_, rfl⟩
      have h5 := HK.out
      rw [List.drop_of_length_le (by rw [HZ.out.1]; omega)] at h5
      exact h5
end Go.Proofs.YbulkblxqDoor
