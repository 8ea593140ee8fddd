import Derived.Test.YbulkbmbyProg
import Derived.Test.YbulkbmbyP
import Derived.WalkKit
namespace Go.Proofs.Ybulkbmby
open Go.RowKit
set_option linter.unusedVariables false
set_option linter.unusedSimpArgs false

theorem ret2 {v v' : Int} {b b' : Bool} (h1 : v = v') (h2 : b = b') : Ending.returned (.tuple #[.int .u64 v, .bool b]) = .returned (.tuple #[.int .u64 v', .bool b']) := by rw [h1, h2]

theorem wraps_u64' (n : Int) (h0 : 0 ≤ n) (h1 : n < 2 ^ 64) : IntKind.u64.wrap n = n := by
  simp [IntKind.wrap, IntKind.bits, IntKind.signed]
  omega

theorem or_join {u d : Int} (hu0 : 0 ≤ u) (hu : u < 1152921504606846976) (hd : 0 ≤ d ∧ d < 16) : bits BinOp.or .u64 (u * 16) d = u * 16 + d := by
  exact bits_join .u64 64 (by decide) wraps_u64' 4 _ _ (by omega) (by omega) (by omega) (by omega) (by omega) (by omega)

theorem parse_no (a : Option Addr) (n c : Nat) (w : World) (h : n = 0 ∨ 16 < n) :
    Calls Yba.prog 6 #[.slice a n c] w fun e w' => e = .returned (.tuple #[.int .u64 0, .bool false]) ∧ w' = w := by
  rcases h with rfl | h
  · go_enter Yba.func6, Yba.ntmps6
    go_wp2
    go_ret2
    exact ⟨rfl, rfl⟩
  · have h0 : ((n : Int) == 0) = false := by simp; omega
    go_enter Yba.func6, Yba.ntmps6
    go_wp2
    go_ret2
    exact ⟨rfl, rfl⟩

set_option maxHeartbeats 1000000 in
theorem parse_at (b off n c : Nat) (zs : List Int) (w : World) (hz : zs.length = n) (h1 : 1 ≤ n) (h16 : n ≤ 16)
    (hc : ∀ i, i < n → w.cell? ⟨b, off + i, none⟩ = some (.int .u8 (zs.getD i 0))) (hb : ∀ i, 0 ≤ zs.getD i 0 ∧ zs.getD i 0 < 256) :
    Calls Yba.prog 6 #[.slice (some ⟨b, off, none⟩) n c] w fun e w' => e = .returned (.tuple #[.int .u64 ((pv zs).getD 0), .bool (pv zs).isSome]) ∧ w' = w := by
  have h0 : ((n : Int) == 0) = false := by simp; omega
  obtain ⟨rv, hrv⟩ : ∃ rv, rv = pv zs := ⟨_, rfl⟩
  rw [← hrv]
  have HRV : Hid (rv = pv zs) := hrv
  clear hrv
  have HC : Hid (∀ i, i < n → w.cell? ⟨b, off + i, none⟩ = some (.int .u8 (zs.getD i 0))) := hc
  have HB : Hid (∀ i, 0 ≤ zs.getD i 0 ∧ zs.getD i 0 < 256) := hb
  clear hc hb
  obtain ⟨V, hV⟩ : ∃ V, V = rv.getD 0 := ⟨_, rfl⟩
  obtain ⟨B, hB⟩ : ∃ B, B = rv.isSome := ⟨_, rfl⟩
  rw [← hV, ← hB]
  have HV : Hid (V = rv.getD 0 ∧ B = rv.isSome) := ⟨hV, hB⟩
  clear hV hB
  go_enter Yba.func6, Yba.ntmps6
  go_wp2
  go_loop [4, 17] (fun v i => ∃ (k : Nat) (u : Int), k ≤ n ∧ i = .int .i64 k ∧ v = .int .u64 u ∧ Hid (pv (zs.take k) = some u ∧ 0 ≤ u ∧ u < 16 ^ k)) (fun _ i => n - (intOf i).toNat)
  case atStart => exact ⟨0, 0, by omega, rfl, rfl, by simp [pv], by omega, by simp⟩
  case round =>
    obtain ⟨k, u, hk, rfl, rfl, HU⟩ := hrel
    by_cases hlt : k < n
    · have cz := HC.out k hlt
      have bz := HB.out k
      have ts := take_snoc zs k (by omega)
      generalize zs.getD k 0 = z at *
      obtain ⟨bz0, bz1⟩ := bz
      have HP : Hid (pv (zs.take (k + 1)) = pstep (some u) z) := by
        unfold Hid; rw [ts, pv_snoc, HU.out.1]
      clear ts
      have hpw : u < 1152921504606846976 := Int.lt_of_lt_of_le HU.out.2.2 (pow_le (by omega))
      have hu0 : 0 ≤ u := HU.out.2.1
      rcases (show (48 ≤ z ∧ z ≤ 57 ∧ hexd z = some (z - 48)) ∨ (97 ≤ z ∧ z ≤ 102 ∧ hexd z = some (z - 87)) ∨ (65 ≤ z ∧ z ≤ 70 ∧ hexd z = some (z - 55)) ∨ ((z < 48 ∨ 57 < z) ∧ (z < 97 ∨ 102 < z) ∧ (z < 65 ∨ 70 < z) ∧ hexd z = none) from hexd_cases z) with ⟨g0, g1, hd⟩ | ⟨g0, g1, hd⟩ | ⟨g0, g1, hd⟩ | ⟨o1, o2, o3, hd⟩
      · have HD : Hid (hexd z = some (z - 48)) := hd
        clear hd
        go_wp2
        go_round
        case rel => exact ⟨k + 1, u * 16 + (z - 48), by omega, by go_num, by rw [or_join hu0 hpw (hexd_range HD.out)], by rw [HP.out, pstep_some HD.out], bound_step hu0 HU.out.2.2 (hexd_range HD.out)⟩
        case measure => simp [intOf]; omega
      · have HD : Hid (hexd z = some (z - 87)) := hd
        clear hd
        go_wp2
        go_round
        case rel => exact ⟨k + 1, u * 16 + (z - 87), by omega, by go_num, by rw [or_join hu0 hpw (hexd_range HD.out)], by rw [HP.out, pstep_some HD.out], bound_step hu0 HU.out.2.2 (hexd_range HD.out)⟩
        case measure => simp [intOf]; omega
      · have HD : Hid (hexd z = some (z - 55)) := hd
        clear hd
        go_wp2
        go_round
        case rel => exact ⟨k + 1, u * 16 + (z - 55), by omega, by go_num, by rw [or_join hu0 hpw (hexd_range HD.out)], by rw [HP.out, pstep_some HD.out], bound_step hu0 HU.out.2.2 (hexd_range HD.out)⟩
        case measure => simp [intOf]; omega
      · have HN : Hid (rv = none) := by
          have h5 := pv_append_none (zs.take (k + 1)) (zs.drop (k + 1)) (by rw [HP.out, pstep_none hd])
          rw [List.take_append_drop] at h5
          exact HRV.out.trans h5
        clear hd
        rcases o1 with o1 | o1 <;> rcases o2 with o2 | o2 <;> rcases o3 with o3 | o3
        all_goals first
          | (exfalso; omega)
          | (go_wp2
             go_ret2
             exact ⟨ret2 (by rw [HV.out.1, HN.out]; rfl) (by rw [HV.out.2, HN.out]; rfl), rfl⟩)
    · have HN : Hid (rv = some u) := by
        have h5 := HU.out.1
        rw [List.take_of_length_le (by omega)] at h5
        exact HRV.out.trans h5
      go_wp2
      go_ret2
      exact ⟨ret2 (by rw [HV.out.1, HN.out]; rfl) (by rw [HV.out.2, HN.out]; rfl), rfl⟩

/-- The bytes that a slice reads as. -/
def IsB (w : World) (a : Option Addr) (n : Nat) (zs : List Int) : Prop :=
  zs.length = n ∧ (∀ i, 0 ≤ zs.getD i 0 ∧ zs.getD i 0 < 256) ∧ ∀ i, i < n → ∃ b off, a = some ⟨b, off, none⟩ ∧ w.cell? ⟨b, off + i, none⟩ = some (.int .u8 (zs.getD i 0))

theorem IsB.at {w : World} {a : Option Addr} {n : Nat} {zs : List Int} (h : IsB w a n zs) (h0 : 0 < n) : ∃ b off, a = some ⟨b, off, none⟩ ∧ ∀ i, i < n → w.cell? ⟨b, off + i, none⟩ = some (.int .u8 (zs.getD i 0)) := by
  obtain ⟨_, _, hc⟩ := h
  obtain ⟨b, off, rfl, _⟩ := hc 0 h0
  refine ⟨b, off, rfl, fun i hi => ?_⟩
  obtain ⟨b', off', he, h'⟩ := hc i hi
  simp only [Option.some.injEq, Addr.mk.injEq, and_true] at he
  obtain ⟨rfl, rfl⟩ := he
  exact h'

theorem parse_any (a : Option Addr) (n c : Nat) (zs : List Int) (w : World) (h : IsB w a n zs) :
    Calls Yba.prog 6 #[.slice a n c] w fun e w' => e = .returned (.tuple #[.int .u64 (parseV zs), .bool (parseB zs)]) ∧ w' = w := by
  unfold parseV parseB
  by_cases hn : n = 0 ∨ 16 < n
  · rw [h.1, if_pos hn, if_pos hn]
    exact parse_no a n c w hn
  · rw [h.1, if_neg hn, if_neg hn]
    obtain ⟨b, off, rfl, hc⟩ := h.at (by omega)
    exact parse_at b off n c zs w h.1 (by omega) (by omega) hc h.2.1
end Go.Proofs.Ybulkbmby
