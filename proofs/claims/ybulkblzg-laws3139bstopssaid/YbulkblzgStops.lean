import Derived.Test.YbulkblzgO
import Derived.Test.YbulkblzgS3
import Derived.Below
namespace Go.Proofs.Ybulkblzg.lawS3139BStops
open Go.ChangeShapes Go.WideShapes Go.ChangeAt Go.RowKit
set_option linter.unusedVariables false
set_option linter.unusedSimpArgs false

theorem own : ownKnob Yba.prog.godebug = none := by kernel_rfl

theorem b8 {x : Int} (h : (Lit.int .u8 x).wf = true) : 0 ≤ x ∧ x < 256 := by
  simp [Lit.wf, IntKind.min, IntKind.max, IntKind.bits, IntKind.signed] at h
  omega

set_option maxRecDepth 100000 in
set_option maxHeartbeats 1000000 in
theorem walk (z : Int) (a : Option Addr) (m cp : Nat) (E : List (Nat × Nat)) (st : Int) (w : World) (hz : (Lit.int .i64 z).wf = true) (hE : IsEs w a m E) (hst : (Lit.int .u8 st).wf = true) :
    Calls Yba.prog 6 #[.int .i64 z, .slice a m cp, .int .u8 st] w fun e w' => e = .returned (.bool true) ∧ Below w.heap.size w w' := by
  by_cases h0 : 0 ≤ z ∧ z ≤ 256 ∧ m ≤ 1024
  · obtain ⟨n, rfl⟩ : ∃ n : Nat, z = (n : Int) := ⟨z.toNat, by omega⟩
    have hs := b8 hst
    obtain ⟨s, rfl⟩ : ∃ s : Nat, st = (s : Int) := ⟨st.toNat, by omega⟩
    exact law6_small n a m cp s E w (by omega) (by omega) (by omega) hE
  · have HB : Hid (∀ o, Below w.heap.size w (w.alloc o)) := fun o => (Below.refl _ _).alloc (Nat.le_refl _) o
    clear hE hz hst
    by_cases h1 : z < 0
    · have d1 : decide (z < 0) = true := by simp; omega
      go_enter Yba.func6, Yba.ntmps6
      go_wp2
      go_ret
      exact ⟨rfl, HB.out _⟩
    · have d1 : decide (z < 0) = false := by simp; omega
      by_cases h2 : 256 < z
      · have d2 : decide (256 < z) = true := by simp; omega
        go_enter Yba.func6, Yba.ntmps6
        go_wp2
        go_ret
        exact ⟨rfl, HB.out _⟩
      · have d2 : decide (256 < z) = false := by simp; omega
        have d3 : decide ((1024 : Int) < (m : Int)) = true := by simp; omega
        have d4 : decide (1024 < m) = true := by simp; omega
        go_enter Yba.func6, Yba.ntmps6
        go_wp2
        go_ret
        exact ⟨rfl, HB.out _⟩

set_option maxRecDepth 100000 in
theorem lifted (os : Os) (started : os.Started) (H : Type) (enc : TypeId × Value → H) :
    ReturnsInHanded {} Yba.checked os 6 .any (Rows.lawS3139BStopsSpec.pre6 enc Yba.prog Yba.f6 Rows.lawS3139BStopsRow.domain false) (Rows.lawS3139BStopsSpec.post enc Yba.prog Yba.f6 false true false false) := by
  refine returnsInHanded_of_change (C := Yba.checked) own started (by kernel_rfl) Yba.func6
    (ChangeSpec.witness6 (enc := enc) (C := Yba.checked) false ⟨#[], #[.int .i64 0, .slice none 0 0, .int .u8 0], []⟩ 8 (by kernel_rfl) (by kernel_rfl) (by kernel_rfl) (by kernel_rfl)) ?_
  intro W base args ds gs before hval0 hW hcnd _
  have hval : ∀ (j : Nat) t v, Yba.f6.params[j]? = some t → args[j]? = some v → Value.okWide Yba.prog W .any base t v := hval0
  have hW' := hW
  obtain ⟨p, q, hA0, hV, rfl, hfz, hnd⟩ := hW
  have hA : DataW.TrodAll enc Yba.prog W 0 (fun _ => true) true Yba.f6.params.toList args.toList ds p := hA0
  rw [Yba.params6] at hA hval
  obtain ⟨v0, vs0, d0, ds0, p0, q0, hargs, rfl, rfl, h0, r0⟩ := trodAll_cons hA
  obtain ⟨v1, vs1, d1, ds1, p1, q1, rfl, rfl, rfl, h1, r1⟩ := trodAll_cons r0
  obtain ⟨v2, vs2, d2, ds2, p2, q2, rfl, rfl, rfl, h2, r2⟩ := trodAll_cons r1
  obtain ⟨rfl, rfl, rfl⟩ := trodAll_nil r2
  obtain rfl : args = #[v0, v1, v2] := by cases args; simp_all
  obtain ⟨rfl, rfl⟩ := trodVars_none hV
  obtain ⟨a0, rfl, rfl, rfl, w0⟩ := open_int Yba.underlying3 (hval 0 3 v0 rfl rfl) h0
  have k1 := h1
  have lt1 : ∀ x ∈ p1, x.block < W.heap.size := by obtain ⟨m, hm⟩ := k1; exact DataW.trod_lt m _ _ _ hm
  obtain ⟨a, m, c, E, rfl, hE⟩ := open_es (fun _ => rfl) (hval 1 38 v1 rfl rfl) h1
  obtain ⟨a2, rfl, rfl, rfl, w2⟩ := open_int Yba.underlying5 (hval 2 5 v2 rfl rfl) h2
  clear hA0 hval0
  refine (walk a0 a m c E a2 W w0 hE w2).mono fun e W' ⟨he, bel⟩ => ?_
  subst he
  exact ⟨_, rfl, _, _, _, [], _, [], hW', trodAll_mk1 (shut_bool Yba.underlying4 _), (trodAll_cons_mk (shut_int Yba.underlying3 w0) (trodAll_cons_mk (Below.trod Yba.laidOut (by kernel_rfl) (of_decide_eq_true (by kernel_rfl)) k1 bel lt1) (trodAll_cons_mk (shut_int Yba.underlying5 w2) trodAll_mk0))), rfl, bel.frame _, fun h => by cases h⟩

theorem over : Rows.lawS3139BStopsRow.holds Yba.pinned (OpenSpec.ofChange Rows.lawS3139BStopsSpec) :=
  OpenClaim.holds_of_wide 6 Yba.f6 rfl rfl rfl rfl rfl rfl rfl ⟨rfl, rfl, rfl, rfl, rfl⟩ rfl rfl rfl rfl rfl (by kernel_rfl) Yba.func6 (by kernel_rfl)
    (of_decide_eq_true (by kernel_rfl)) (by unfold Func.isWrapper; first | (rw [if_pos (by decide +kernel)]; kernel_rfl) | (rw [if_neg (by decide +kernel)]; exact ⟨rfl, rfl⟩))
    (fun os started H enc _ => lifted os started H enc)

theorem proved : Rows.LawS3139BStopsSaid :=
  over
end Go.Proofs.Ybulkblzg.lawS3139BStops
