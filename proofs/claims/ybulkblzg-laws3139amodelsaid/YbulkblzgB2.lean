import Derived.Test.YbulkblzgB1
namespace Go.Proofs.Ybulkblzg
open Go.RowKit
set_option linter.unusedVariables false
set_option linter.unusedSimpArgs false

/-- The fail links as they lie. -/
structure FM (w : World) (bt g2 N : Nat) (f : Nat → Nat) : Prop where
  s : w.cell? ⟨bt, 2, none⟩ = some (.slice (some ⟨g2, 0, none⟩) N N)
  c : ∀ i, i < N → w.cell? ⟨g2, i, none⟩ = some (.int .i32 (f i : Int))
theorem FM.drewN {w : World} {bt g2 N : Nat} {f : Nat → Nat} (h : FM w bt g2 N f) (q : Nat) : FM (w.drewN q) bt g2 N f := ⟨h.s, h.c⟩

theorem drewN_drewN (w : World) (a b : Nat) : (w.drewN a).drewN b = w.drewN (a + b) := by
  simp [World.drewN, Nat.add_assoc]
theorem drewN_zero (w : World) : w.drewN 0 = w := by simp [World.drewN]

set_option maxRecDepth 100000 in
set_option maxHeartbeats 1000000 in
theorem step_any (bt g0 c0 g1 c1 g2 N : Nat) (F lb : Nat → Nat) (str : Nat → List Nat) (f : Nat → Nat) (w : World) (hT : TrieOK N F lb str) (hM : TM w bt g0 c0 g1 c1 N F lb) (hF : FM w bt g2 N f) (hN : N ≤ 16777216)
    (hlb : ∀ j, j < N → lb j < 256) (i0 : Nat) (hi0 : i0 < N) (b : Nat) (hb : b < 256) (hfail : ∀ x, 1 ≤ x → x < N → (str x).length ≤ (str i0).length → IsF N str x (f x)) :
    Calls Yba.prog 22 #[.pointer (some ⟨bt, 0, none⟩), .int .i32 (i0 : Int), .int .u8 (b : Int)] w fun e w' =>
      (∃ q, w' = w.drewN q) ∧ ∃ y, IsL N str (str i0 ++ [b]) y ∧ e = .returned (.int .i32 (y : Int)) := by
  have HT : Hid (TrieOK N F lb str ∧ (∀ j, j < N → lb j < 256) ∧ TM w bt g0 c0 g1 c1 N F lb ∧ FM w bt g2 N f ∧ ∀ x, 1 ≤ x → x < N → (str x).length ≤ (str i0).length → IsF N str x (f x)) := ⟨hT, hlb, hM, hF, hfail⟩
  clear hT hlb hM hF hfail
  go_enter Yba.func22, Yba.ntmps22
  go_wp2
  go_loopw [1] (fun s1 wr => ∃ i : Nat, s1 = .int .i32 (i : Int) ∧ i < N ∧ Hid (str i <:+ str i0 ∧ (∀ x, x < N → str x <:+ str i0 ++ [b] → str x ≠ [] → (str x).length ≤ (str i).length + 1) ∧ ∃ q, wr = w.drewN q)) (fun s1 _ => (str (intOf s1).toNat).length)
  case atStart => exact ⟨i0, rfl, hi0, List.suffix_refl _, step_begin, 0, (drewN_zero w).symm⟩
  case round =>
    obtain ⟨i, rfl, hi, HI⟩ := hrel
    obtain ⟨q, hq⟩ := HI.out.2.2
    have HW : Hid (wr = w.drewN q) := hq
    clear hq
    go_wp2_with fail
    refine (child_any bt g0 c0 g1 c1 N F lb str wr HT.out.1 (by rw [HW.out]; exact HT.out.2.2.1.drewN q) hN i hi b hb HT.out.2.1).mono ?_
    rintro e W' ⟨⟨q', hq'⟩, ⟨j, hj, ej, rfl⟩ | ⟨hno, rfl⟩⟩
    · have HR : Hid (IsL N str (str i0 ++ [b]) j ∧ W' = w.drewN (q + q')) := ⟨step_found HT.out.1 hi HI.out.1 HI.out.2.1 hj ej, by rw [hq', HW.out, drewN_drewN]⟩
      clear hq' ej
      go_wp2
      go_ret
      exact ⟨⟨_, HR.out.2⟩, j, HR.out.1, rfl⟩
    · have HW' : Hid (W' = w.drewN (q + q') ∧ ∀ j, j < N → str j ≠ str i ++ [b]) := ⟨by rw [hq', HW.out, drewN_drewN], hno⟩
      clear hq' hno
      by_cases h0 : i = 0
      · subst h0
        have HR : Hid (IsL N str (str i0 ++ [b]) 0) := step_root HT.out.1 HI.out.2.1 HW'.out.2
        go_wp2
        go_ret
        exact ⟨⟨_, HW'.out.1⟩, 0, HR.out, rfl⟩
      · have hz : ¬ (i : Int) = 0 := by omega
        have hf2 := (HT.out.2.2.2.1.drewN (q + q')).s
        have hf3 := (HT.out.2.2.2.1.drewN (q + q')).c i hi
        rw [← HW'.out.1] at hf2 hf3
        have hisf : IsF N str i (f i) := HT.out.2.2.2.2 i (by omega) hi HI.out.1.length_le
        have HD : Hid (f i < N ∧ str (f i) <:+ str i0 ∧ (∀ x, x < N → str x <:+ str i0 ++ [b] → str x ≠ [] → (str x).length ≤ (str (f i)).length + 1) ∧ (str (f i)).length < (str i).length) := step_down HT.out.1 hi HI.out.1 HI.out.2.1 HW'.out.2 hisf
        obtain ⟨fi, hfi⟩ : ∃ fi, fi = f i := ⟨_, rfl⟩
        rw [← hfi] at hf3 HD
        clear hisf hfi
        go_wp2
        go_roundw
        case rel => exact ⟨fi, rfl, HD.out.1, HD.out.2.1, HD.out.2.2.1, _, HW'.out.1⟩
        case measure =>
          have h3 := HD.out.2.2.2
          simpa [intOf] using h3
end Go.Proofs.Ybulkblzg
