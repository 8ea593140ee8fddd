import Derived.Test.YbulkblzgD5
import Derived.Test.YbulkblzgD6
import Derived.Below
namespace Go.Proofs.Ybulkblzg.lawS3139AHits
open Go.ChangeShapes Go.WideShapes Go.ChangeAt Go.RowKit
set_option linter.unusedVariables false
set_option linter.unusedSimpArgs false

theorem own : ownKnob Yba.prog.godebug = none := by kernel_rfl

set_option maxRecDepth 100000 in
set_option maxHeartbeats 1000000 in
theorem walk (hMk : MarkOK) (a : Option Addr) (nt tc gt ot : Nat) (Ts : Nat → ByteArray) (sa : Option Addr) (n sc : Nat) (S : List (Nat × Nat × Nat)) (w : World) (hT : IsSt w a nt gt ot Ts) (hS : IsSp w sa n S) (hsz : ∀ i, i < nt → (Ts i).size ≤ 140737488355328) :
    Calls Yba.prog 4 #[.slice a nt tc, .slice sa n sc] w fun e w' => e = .returned (.bool true) ∧ Below w.heap.size w w' := by
  by_cases h0 : nt ≤ 256 ∧ n ≤ 256
  · exact hits_small clone_ok hMk a nt tc gt ot Ts sa n sc S w h0.1 h0.2 hT hS hsz
  · clear hT hS hsz
    by_cases h1 : 256 < nt
    · have d1 : decide ((256 : Int) < (nt : Int)) = true := by simp; omega
      have d2 : decide (256 < nt) = true := by simp; omega
      go_enter Yba.func4, Yba.ntmps4
      go_wp2
      go_ret
      exact ⟨rfl, Below.refl _ _⟩
    · have d1 : decide ((256 : Int) < (nt : Int)) = false := by simp; omega
      have d2 : decide (256 < nt) = false := by simp; omega
      have d3 : decide ((256 : Int) < (n : Int)) = true := by simp; omega
      have d4 : decide (256 < n) = true := by simp; omega
      go_enter Yba.func4, Yba.ntmps4
      go_wp2
      go_ret
      exact ⟨rfl, Below.refl _ _⟩

set_option maxRecDepth 100000 in
theorem lifted (hMk : MarkOK) (os : Os) (started : os.Started) (H : Type) (enc : TypeId × Value → H) :
    ReturnsInHanded {} Yba.checked os 4 .any (Rows.lawS3139AHitsSpec.pre6 enc Yba.prog Yba.f4 Rows.lawS3139AHitsRow.domain false) (Rows.lawS3139AHitsSpec.post enc Yba.prog Yba.f4 false true false false) := by
  refine returnsInHanded_of_change_sized (C := Yba.checked) own started (by kernel_rfl) Yba.func4
    (ChangeSpec.witness6 (enc := enc) (C := Yba.checked) false ⟨#[], #[.slice none 0 0, .slice none 0 0], []⟩ 8 (by kernel_rfl) (by kernel_rfl) (by kernel_rfl) (by kernel_rfl)) ?_
  intro W base args ds gs before hval0 hW hcnd hsz0 _
  have hval : ∀ (j : Nat) t v, Yba.f4.params[j]? = some t → args[j]? = some v → Value.okWide Yba.prog W .any base t v := hval0
  have hsz : (DataW.weightsEach Yba.prog (Yba.f4.params.toList ++ Rows.lawS3139AHitsSpec.plain.varTypes Yba.prog) (ds ++ gs)).all (· ≤ reachBytes) = true := hsz0
  have hW' := hW
  obtain ⟨p, q, hA0, hV, rfl, hfz, hnd⟩ := hW
  have hA : DataW.TrodAll enc Yba.prog W 0 (fun _ => true) true Yba.f4.params.toList args.toList ds p := hA0
  rw [Yba.params4] at hA hval hsz
  obtain ⟨v0, vs0, d0, ds0, p0, q0, hargs, rfl, rfl, h0, r0⟩ := trodAll_cons hA
  obtain ⟨v1, vs1, d1, ds1, p1, q1, rfl, rfl, rfl, h1, r1⟩ := trodAll_cons r0
  obtain ⟨rfl, rfl, rfl⟩ := trodAll_nil r1
  obtain rfl : args = #[v0, v1] := by cases args; simp_all
  obtain ⟨rfl, rfl⟩ := trodVars_none hV
  have k0 := h0
  have k1 := h1
  have lt0 : ∀ x ∈ p0, x.block < W.heap.size := by obtain ⟨m, hm⟩ := k0; exact DataW.trod_lt m _ _ _ hm
  have lt1 : ∀ x ∈ p1, x.block < W.heap.size := by obtain ⟨m, hm⟩ := k1; exact DataW.trod_lt m _ _ _ hm
  have hs0 : ∀ n ∈ d0.weights Yba.prog 22, n ≤ reachBytes := fun n hn => by
    have := List.all_eq_true.1 hsz _ (DataW.weights_mem_each (j := 0) (t := 22) rfl rfl n hn)
    simpa using this
  obtain ⟨a, m, c, g, o, Ts, rfl, hT, hTs⟩ := open_texts (fun _ => rfl) (hval 0 22 v0 rfl rfl) h0 hs0
  obtain ⟨sa, n, sc, S, rfl, hS⟩ := open_spans (fun _ => rfl) (hval 1 34 v1 rfl rfl) h1
  clear hA0 hval0
  refine (walk hMk a m c g o Ts sa n sc S W hT hS hTs).mono fun e W' ⟨he, bel⟩ => ?_
  subst he
  exact ⟨_, rfl, _, _, _, [], _, [], hW', trodAll_mk1 (shut_bool Yba.underlying4 _), (trodAll_cons_mk (Below.trod Yba.laidOut' (by kernel_rfl) (of_decide_eq_true (by kernel_rfl)) k0 bel lt0) (trodAll_cons_mk (Below.trod Yba.laidOut' (by kernel_rfl) (of_decide_eq_true (by kernel_rfl)) k1 bel lt1) trodAll_mk0)), rfl, bel.frame _, fun h => by cases h⟩

theorem over (hMk : MarkOK) : Rows.lawS3139AHitsRow.holds Yba.pinned (OpenSpec.ofChange Rows.lawS3139AHitsSpec) :=
  OpenClaim.holds_of_wide 4 Yba.f4 rfl rfl rfl rfl rfl rfl rfl ⟨rfl, rfl, rfl, rfl, rfl⟩ rfl rfl rfl rfl rfl (by kernel_rfl) Yba.func4 (by kernel_rfl)
    (of_decide_eq_true (by kernel_rfl)) (by unfold Func.isWrapper; first | (rw [if_pos (by decide +kernel)]; kernel_rfl) | (rw [if_neg (by decide +kernel)]; exact ⟨rfl, rfl⟩))
    (fun os started H enc _ => lifted hMk os started H enc)
end Go.Proofs.Ybulkblzg.lawS3139AHits
