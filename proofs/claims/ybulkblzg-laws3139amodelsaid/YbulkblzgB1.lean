import Derived.Test.YbulkblzgM
import Derived.Test.YbulkblzgA2
namespace Go.Proofs.Ybulkblzg
open Go.RowKit
set_option linter.unusedVariables false
set_option linter.unusedSimpArgs false

/-- The trie as it lies: first and label. -/
structure TM (w : World) (bt g0 c0 g1 c1 N : Nat) (F lb : Nat → Nat) : Prop where
  f : w.cell? ⟨bt, 0, none⟩ = some (.slice (some ⟨g0, 0, none⟩) (N + 1) c0)
  fc : ∀ i, i ≤ N → w.cell? ⟨g0, i, none⟩ = some (.int .i32 (F i : Int))
  l : w.cell? ⟨bt, 1, none⟩ = some (.slice (some ⟨g1, 0, none⟩) N c1)
  lc : ∀ i, i < N → w.cell? ⟨g1, i, none⟩ = some (.int .u8 (lb i : Int))
theorem TM.drewN {w : World} {bt g0 c0 g1 c1 N : Nat} {F lb : Nat → Nat} (h : TM w bt g0 c0 g1 c1 N F lb) (q : Nat) : TM (w.drewN q) bt g0 c0 g1 c1 N F lb := ⟨h.f, h.fc, h.l, h.lc⟩

set_option maxRecDepth 100000 in
set_option maxHeartbeats 1000000 in
theorem child_any (bt g0 c0 g1 c1 N : Nat) (F lb : Nat → Nat) (str : Nat → List Nat) (w : World) (hT : TrieOK N F lb str) (hM : TM w bt g0 c0 g1 c1 N F lb) (hN : N ≤ 16777216) (i : Nat) (hi : i < N) (b : Nat) (hb : b < 256) (hlb : ∀ j, j < N → lb j < 256) :
    Calls Yba.prog 29 #[.pointer (some ⟨bt, 0, none⟩), .int .i32 (i : Int), .int .u8 (b : Int)] w fun e w' =>
      (∃ q, w' = w.drewN q) ∧ ((∃ j, j < N ∧ str j = str i ++ [b] ∧ e = .returned (.tuple #[.int .i32 (j : Int), .bool true])) ∨ ((∀ j, j < N → str j ≠ str i ++ [b]) ∧ e = .returned (.tuple #[.int .i32 0, .bool false]))) := by
  have HT : Hid (TrieOK N F lb str ∧ ∀ j, j < N → lb j < 256) := ⟨hT, hlb⟩
  have HM : Hid (TM w bt g0 c0 g1 c1 N F lb) := hM
  have m0 := hM.f
  have m1 := hM.fc i (by omega)
  have m2 := hM.fc (i + 1) (by omega)
  have hF1 := hT.fle (i := i) (by omega)
  have hF2 := hT.fle (i := i + 1) (by omega)
  have hF3 := hT.mono i hi
  obtain ⟨lo0, hlo0⟩ : ∃ lo0, lo0 = F i := ⟨_, rfl⟩
  obtain ⟨hi0, hhi0⟩ : ∃ hi0, hi0 = F (i + 1) := ⟨_, rfl⟩
  rw [← hlo0] at m1 hF1 hF3
  rw [← hhi0] at m2 hF2 hF3
  have HFE : Hid (lo0 = F i ∧ hi0 = F (i + 1)) := ⟨hlo0, hhi0⟩
  clear hT hM hlb hlo0 hhi0
  go_enter Yba.func29, Yba.ntmps29
  go_upto_region 1 with fail
  go_quiet (fail)
  go_wp2
  obtain ⟨W1, hW1⟩ : ∃ W1, W1 = w.drewN nq := ⟨_, rfl⟩
  have HW1 : Hid (W1 = w.drewN nq) := hW1
  have HM1 : Hid (TM W1 bt g0 c0 g1 c1 N F lb) := by rw [hW1]; exact HM.out.drewN _
  rw [← hW1]
  clear hW1 m0 m1 m2
  go_loopw [8, 9] (fun s8 s9 wr => ∃ lo hh : Nat, s8 = .int .i32 (lo : Int) ∧ s9 = .int .i32 (hh : Int) ∧ lo0 ≤ lo ∧ lo ≤ hh ∧ hh ≤ hi0 ∧ Hid (wr = W1 ∧ (∀ j, lo0 ≤ j → j < lo → lb j < b) ∧ (∀ j, hh ≤ j → j < hi0 → b < lb j))) (fun s8 s9 _ => (intOf s9).toNat - (intOf s8).toNat)
  case atStart => exact ⟨lo0, hi0, rfl, rfl, Nat.le_refl _, hF3, Nat.le_refl _, rfl, fun j h1 h2 => by omega, fun j h1 h2 => by omega⟩
  case round =>
    obtain ⟨lo, hh, rfl, rfl, q1, q2, q3, HQ⟩ := hrel
    obtain rfl : wr = W1 := HQ.out.1
    have HQ2 : Hid ((∀ j, lo0 ≤ j → j < lo → lb j < b) ∧ (∀ j, hh ≤ j → j < hi0 → b < lb j)) := HQ.out.2
    clear HQ
    by_cases hlt : lo < hh
    · obtain ⟨mid, hmid⟩ : ∃ mid, mid = (lo + hh) / 2 := ⟨_, rfl⟩
      have hm1 : lo ≤ mid := by omega
      have hm2 : mid < hh := by omega
      have l0 := HM1.out.l
      have l1 := HM1.out.lc mid (by omega)
      have hmd : ((lo : Int) + (hh : Int)) / 2 = (mid : Int) := by omega
      obtain ⟨lm, hlm⟩ : ∃ lm, lm = lb mid := ⟨_, rfl⟩
      rw [← hlm] at l1
      have hlmb : lm < 256 := by rw [hlm]; exact HT.out.2 mid (by omega)
      have HLM : Hid (lm = lb mid) := hlm
      have HMI : Hid (mid = (lo + hh) / 2) := hmid
      clear hmid hlm
      have hinc : Hid (∀ j j', lo0 ≤ j → j < j' → j' < hi0 → lb j < lb j') := by
        intro j j' h1 h2 h3
        exact HT.out.1.inc i j j' hi (by rw [← HFE.out.1]; exact h1) h2 (by rw [← HFE.out.2]; exact h3)
      rcases Nat.lt_trichotomy lm b with hc | hc | hc
      · have d1 : decide ((lm : Int) < (b : Int)) = true := by simp; omega
        have d2 : decide (lm < b) = true := by simp; omega
        go_wp2
        go_roundw
        case rel =>
          refine ⟨mid + 1, hh, by go_num, rfl, by omega, by omega, q3, trivial, fun j h1 h2 => ?_, HQ2.out.2⟩
          have h3 := HLM.out
          by_cases e : j = mid
          · subst e; omega
          · have := hinc.out j mid h1 (by omega) (by omega); omega
        case measure => simp [intOf]; omega
      · have d1 : decide ((lm : Int) < (b : Int)) = false := by simp; omega
        have d2 : decide (lm < b) = false := by simp; omega
        have d3 : decide ((b : Int) < (lm : Int)) = false := by simp; omega
        have d4 : decide (b < lm) = false := by simp; omega
        go_wp2
        go_ret2
        refine ⟨⟨nq, HW1.out⟩, .inl ⟨mid, by omega, ?_, rfl⟩⟩
        have h3 := HT.out.1.kid i mid hi (by rw [← HFE.out.1]; omega) (by rw [← HFE.out.2]; omega)
        rw [h3, ← HLM.out, hc]
      · have d1 : decide ((lm : Int) < (b : Int)) = false := by simp; omega
        have d2 : decide (lm < b) = false := by simp; omega
        have d3 : decide ((b : Int) < (lm : Int)) = true := by simp; omega
        have d4 : decide (b < lm) = true := by simp; omega
        go_wp2
        go_roundw
        case rel =>
          refine ⟨lo, mid, rfl, rfl, q1, by omega, by omega, trivial, HQ2.out.1, fun j h1 h2 => ?_⟩
          have h3 := HLM.out
          by_cases e : j = mid
          · subst e; omega
          · have := hinc.out mid j (by omega) (by omega) h2; omega
        case measure => simp [intOf]; omega
    · obtain rfl : lo = hh := by omega
      go_wp2
      go_ret2
      refine ⟨⟨nq, HW1.out⟩, .inr ⟨fun j hj e => ?_, rfl⟩⟩
      obtain ⟨k1, k2, k3⟩ := HT.out.1.kid_iff hi hj e
      rw [← HFE.out.1] at k1
      rw [← HFE.out.2] at k2
      rcases Nat.lt_or_ge j lo with hl | hl
      · have := HQ2.out.1 j k1 hl; omega
      · have := HQ2.out.2 j hl k2; omega
end Go.Proofs.Ybulkblzg
