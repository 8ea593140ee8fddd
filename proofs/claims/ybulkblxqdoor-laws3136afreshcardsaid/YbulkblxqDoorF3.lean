import Derived.Test.YbulkblxqDoorF2
import Derived.Test.YbulkblxqDoorShelf
namespace Go.Proofs.YbulkblxqDoor
open Go.RowKit
set_option linter.unusedVariables false
set_option linter.unusedSimpArgs false

theorem nan_u (x : Int) (w : World) : Calls Ybad.prog 60 #[.int .u64 x] w fun e w' => e = .returned (.bool false) ∧ w' = w := by
  have hx : (x != x) = false := by simp
  go_enter Ybad.func60, Ybad.ntmps60
  go_wp2
  go_ret
  exact ⟨by simp, rfl⟩

theorem less_u (x y : Int) (w : World) : Calls Ybad.prog 47 #[.int .u64 x, .int .u64 y] w fun e w' => e = .returned (.bool (decide (x < y))) ∧ w' = w := by
  obtain ⟨r, hr⟩ : ∃ r, r = decide (x < y) := ⟨_, rfl⟩
  rw [← hr]
  have HR : Hid (decide (x < y) = r) := hr.symm
  clear hr
  go_enter Ybad.func47, Ybad.ntmps47
  go_wp2_with (go_at_call 60; refine (nan_u _ _).mono ?_; rintro e w' ⟨rfl, rfl⟩)
  go_ret
  exact ⟨congrArg (fun b => Ending.returned (.bool b)) HR.out, rfl⟩

set_option maxHeartbeats 2000000 in
theorem insertion_any (g n c : Nat) (zs : List Int) (w : World) (hz : RowU w g zs) (hn : zs.length = n) (hn4 : n ≤ 4) :
    Calls Ybad.prog 41 #[.slice (some ⟨g, 0, none⟩) n c, .int .i64 0, .int .i64 n] w fun e w' => e = .returned (.tuple #[]) ∧ RowU w' g (isort zs) ∧ Touch g w w' := by
  obtain ⟨T, hT⟩ : ∃ T, T = isort zs := ⟨_, rfl⟩
  rw [← hT]
  have HT : Hid (outS (n - 1) 1 zs = T) := by unfold Hid; rw [hT, ← hn]; rfl
  have HZ : Hid (RowU w g zs ∧ zs.length = n) := ⟨hz, hn⟩
  clear hT hz hn
  go_enter Ybad.func41, Ybad.ntmps41
  go_wp2
  go_loopw [6] (fun i wr => ∃ (k : Nat) (L : List Int), 1 ≤ k ∧ (k ≤ n ∨ k = 1) ∧ i = .int .i64 k ∧ Hid (RowU wr g L ∧ L.length = n ∧ Touch g w wr ∧ outS (n - k) k L = T)) (fun i _ => 4 - (intOf i).toNat)
  case atStart => exact ⟨1, zs, by omega, by omega, rfl, HZ.out.1, HZ.out.2, Touch.refl _ _, HT.out⟩
  case round =>
    obtain ⟨k, L, hk1, hk2, rfl, HL⟩ := hrel
    by_cases hlt : k < n
    · obtain ⟨S, hS⟩ : ∃ S, S = inn k L := ⟨_, rfl⟩
      have HS : Hid (inn k L = S ∧ outS (n - (k + 1)) (k + 1) S = T) := by
        refine ⟨hS.symm, ?_⟩
        have h5 := HL.out.2.2.2
        rw [show n - k = n - (k + 1) + 1 by omega] at h5
        rw [hS]; exact h5
      clear hS
      go_wp2
      go_loopw [7] (fun j wr => ∃ (m : Nat) (L : List Int), m ≤ k ∧ j = .int .i64 m ∧ Hid (RowU wr g L ∧ L.length = n ∧ Touch g w wr ∧ inn m L = S)) (fun j _ => (intOf j).toNat)
      case atStart => exact ⟨k, L, by omega, rfl, HL.out.1, HL.out.2.1, HL.out.2.2.1, HS.out.1⟩
      case round =>
        clear HL
        obtain ⟨m, L, hm, rfl, HL⟩ := hrel
        cases m with
        | zero =>
          have HE : Hid (L = S) := HL.out.2.2.2
          have hd : decide ((0 : Int) < ((0 : Nat) : Int)) = false := by decide
          go_wp2
          go_quiet (fail)
          go_wp2
          go_roundw
          case rel => exact ⟨k + 1, L, by omega, by omega, by go_num, HL.out.1, HL.out.2.1, HL.out.2.2.1.drewN _, by rw [HE.out]; exact HS.out.2⟩
          case measure => simp [intOf]; omega
        | succ m =>
          have hml : m + 1 < L.length := by rw [HL.out.2.1]; omega
          obtain ⟨c1, f1⟩ := HL.out.1 (m + 1) hml
          obtain ⟨c0, f0⟩ := HL.out.1 m (by omega)
          have hpos : (0 : Int) < (m : Int) + 1 := by omega
          have hb1 : (m : Int) + 1 < (n : Int) := by omega
          have HSW := HL.out.1.swapped hml
          by_cases hc : L.getD (m + 1) 0 < L.getD m 0
          · have HI : Hid (inn m (swp L m) = S) := by rw [← inn_lt hc]; exact HL.out.2.2.2
            have HLW : Hid ((swp L m).length = n) := by unfold Hid; rw [swp_length]; exact HL.out.2.1
            have HTW : Hid (Touch g w wr) := HL.out.2.2.1
            clear HL
            generalize L.getD (m + 1) 0 = x at *
            generalize L.getD m 0 = y at *
            generalize swp L m = L2 at *
            have HR : Hid (RowU ((wr.setCell ⟨g, m + 1, none⟩ (.int .u64 y)).setCell ⟨g, m, none⟩ (.int .u64 x)) g L2) := HSW
            clear HSW hml
            go_wp2
            go_quiet ((go_at_call 47; exact Calls.quiet_of_same (less_u _ _ _)))
            go_wp2
            go_region
            go_wp2
            go_roundw
            case rel => exact ⟨m, L2, by omega, by go_num, HR.out, HLW.out, ((HTW.out.setCell (m + 1) (.int .u64 y)).setCell m (.int .u64 x)).drewN _, HI.out⟩
            case measure => simp [intOf]
          · have HI : Hid (L = S) := by rw [← inn_ge hc]; exact HL.out.2.2.2
            generalize L.getD (m + 1) 0 = x at *
            generalize L.getD m 0 = y at *
            clear HSW hml
            go_wp2
            go_quiet ((go_at_call 47; exact Calls.quiet_of_same (less_u _ _ _)))
            go_wp2
            go_roundw
            case rel => exact ⟨k + 1, L, by omega, by omega, by go_num, HL.out.1, HL.out.2.1, HL.out.2.2.1.drewN _, by rw [HI.out]; exact HS.out.2⟩
            case measure => simp [intOf]; omega
    · have HE : Hid (L = T) := by
        have h5 := HL.out.2.2.2
        rw [show n - k = 0 by omega] at h5
        exact h5
      go_wp2
      go_end0
      refine ⟨rfl, ?_, HL.out.2.2.1⟩
      rw [← HE.out]; exact HL.out.1

theorem pdq_any (g n c : Nat) (l : Int) (zs : List Int) (w : World) (hz : RowU w g zs) (hn : zs.length = n) (hn4 : n ≤ 4) :
    Calls Ybad.prog 28 #[.slice (some ⟨g, 0, none⟩) n c, .int .i64 0, .int .i64 n, .int .i64 l] w fun e w' => e = .returned (.tuple #[]) ∧ RowU w' g (isort zs) ∧ Touch g w w' := by
  have HC : Hid (Calls Ybad.prog 41 #[.slice (some ⟨g, 0, none⟩) n c, .int .i64 0, .int .i64 n] w fun e w' => e = .returned (.tuple #[]) ∧ RowU w' g (isort zs) ∧ Touch g w w') := insertion_any g n c zs w hz hn hn4
  clear hz hn
  generalize isort zs = T at *
  go_enter Ybad.func28, Ybad.ntmps28
  go_wp2_with fail
  refine wp_loop_rounds 1 ?_
  rw [rounds_succ]
  go_wp2_with fail
  refine HC.out.mono ?_
  rintro e w' ⟨rfl, hR, hT⟩
  go_wp2
  exact bodyPost_ret (results_none rfl _ _ _) rfl ⟨rfl, hR, hT⟩

theorem sortu_any (g n c : Nat) (zs : List Int) (w : World) (hz : RowU w g zs) (hn : zs.length = n) (hn4 : n ≤ 4) :
    Calls Ybad.prog 19 #[.slice (some ⟨g, 0, none⟩) n c] w fun e w' => e = .returned (.tuple #[]) ∧ RowU w' g (isort zs) ∧ Touch g w w' := by
  have HC : Hid (∀ l, Calls Ybad.prog 28 #[.slice (some ⟨g, 0, none⟩) n c, .int .i64 0, .int .i64 n, .int .i64 l] w fun e w' => e = .returned (.tuple #[]) ∧ RowU w' g (isort zs) ∧ Touch g w w') := fun l => pdq_any g n c l zs w hz hn hn4
  clear hz hn
  generalize isort zs = T at *
  go_enter Ybad.func19, Ybad.ntmps19
  go_wp2_with fail
  refine (Ybad.bits_Len _ _ (by omega) (by omega)).mono ?_
  rintro e w' ⟨rfl, rfl⟩
  go_wp2_with fail
  refine (HC.out _).mono ?_
  rintro e w' ⟨rfl, hR, hT⟩
  go_wp2
  go_end0
  exact ⟨rfl, hR, hT⟩
end Go.Proofs.YbulkblxqDoor
