import Derived.Test.YbulkblzgD8
import Derived.Below
namespace Go.Proofs.Ybulkblzg.lawS3139AModel
open Go.ChangeShapes Go.WideShapes Go.ChangeAt Go.RowKit Go.Deep
set_option linter.unusedVariables false
set_option linter.unusedSimpArgs false

theorem own : ownKnob Yba.prog.godebug = none := by kernel_rfl

section
variable {H : Type} {enc : TypeId × Value → H} {w : World} {base : Nat} {spare : Nat → Bool} {held : Bool}
set_option maxRecDepth 100000 in
theorem open_picks {r : Reach} {b0' : Nat} {v : Value} {d : DataW H} {p : List MemPlace} (hsp : ∀ b, spare b = true) (hv : Value.okWide Yba.prog w r b0' 23 v) (h : DataW.Trod enc Yba.prog w base spare held 23 v d p) :
    ∃ (a : Option Addr) (m c g o : Nat) (P : Nat → Nat), v = .slice a m c ∧ IsPk w a m g o P := by
  obtain ⟨a0, m0, c0, rfl⟩ := okWide_slice Yba.underlying23 hv
  obtain ⟨fuel, hf⟩ := h
  rcases open_slice1 Yba.underlying23 co28 hf with ⟨e, _⟩ | ⟨a, len, cap, m, n, V, D, Pl, e, hb, hl, hm, hmm, hx, hel⟩
  · simp [Value.cells] at e
    obtain ⟨rfl, rfl, rfl⟩ := e
    exact ⟨none, 0, 0, 0, 0, fun _ => 0, rfl, ⟨fun h => by omega, fun i hi => by omega⟩⟩
  · simp [Value.cells] at e
    obtain ⟨rfl, rfl, rfl⟩ := e
    rw [hsp] at hmm
    simp at hmm
    subst hmm
    have hV : ∀ i, i < m0 → ∃ z : Nat, V i = .int .u16 (z : Int) ∧ z < 65536 := by
      intro i hi
      obtain ⟨z, e0, _, w0⟩ := DataW.trod_int Yba.underlying28 (hel i (by omega)).2
      simp at e0
      have b0 := u16_bounds w0
      exact ⟨z.toNat, by rw [e0, show ((z.toNat : Nat) : Int) = z by omega], by omega⟩
    have hP : ∃ P : Nat → Nat, ∀ i, i < m0 → V i = .int .u16 (P i : Int) ∧ P i < 65536 := choose_lt hV
    obtain ⟨P, hP⟩ := hP
    rcases Nat.eq_zero_or_pos m0 with e | e
    · subst e
      exact ⟨some a, 0, _, 0, 0, P, rfl, ⟨fun h => by omega, fun i hi => by omega⟩⟩
    · have k00 := (hel 0 (by omega)).1
      have hs := no_spot k00
      obtain ⟨b, off, sp⟩ := a
      have hs' : sp = none := by simpa [Addr.add] using hs
      subst hs'
      refine ⟨_, m0, _, b, off, P, rfl, ⟨fun _ => rfl, fun i hi => ⟨?_, (hP i hi).2⟩⟩⟩
      have := (hel i (by omega)).1
      rw [add_at, (hP i hi).1] at this
      exact this
set_option maxRecDepth 100000 in
theorem open_bos {r : Reach} {b0' : Nat} {v : Value} {d : DataW H} {p : List MemPlace} (hsp : ∀ b, spare b = true) (hv : Value.okWide Yba.prog w r b0' 24 v) (h : DataW.Trod enc Yba.prog w base spare held 24 v d p) :
    ∃ (a : Option Addr) (m c g o : Nat) (B : Nat → Bool), v = .slice a m c ∧ IsBo w a m g o B := by
  obtain ⟨a0, m0, c0, rfl⟩ := okWide_slice Yba.underlying24 hv
  obtain ⟨fuel, hf⟩ := h
  rcases open_slice1 Yba.underlying24 co4 hf with ⟨e, _⟩ | ⟨a, len, cap, m, n, V, D, Pl, e, hb, hl, hm, hmm, hx, hel⟩
  · simp [Value.cells] at e
    obtain ⟨rfl, rfl, rfl⟩ := e
    exact ⟨none, 0, 0, 0, 0, fun _ => false, rfl, ⟨fun h => by omega, fun i hi => by omega⟩⟩
  · simp [Value.cells] at e
    obtain ⟨rfl, rfl, rfl⟩ := e
    rw [hsp] at hmm
    simp at hmm
    subst hmm
    have hV : ∀ i, i < m0 → ∃ z : Bool, V i = .bool z := by
      intro i hi
      obtain ⟨z, e0, _⟩ := DataW.trod_bool Yba.underlying4 (hel i (by omega)).2
      simp at e0
      exact ⟨z, e0⟩
    have hP : ∃ P : Nat → Bool, ∀ i, i < m0 → V i = .bool (P i) := choose_lt hV
    obtain ⟨P, hP⟩ := hP
    rcases Nat.eq_zero_or_pos m0 with e | e
    · subst e
      exact ⟨some a, 0, _, 0, 0, P, rfl, ⟨fun h => by omega, fun i hi => by omega⟩⟩
    · have k00 := (hel 0 (by omega)).1
      have hs := no_spot k00
      obtain ⟨b, off, sp⟩ := a
      have hs' : sp = none := by simpa [Addr.add] using hs
      subst hs'
      refine ⟨_, m0, _, b, off, P, rfl, ⟨fun _ => rfl, fun i hi => ?_⟩⟩
      have := (hel i (by omega)).1
      rw [add_at, hP i hi] at this
      exact this
end

set_option maxRecDepth 100000 in
set_option maxHeartbeats 1000000 in
theorem walk (hMk : MarkOK) (a0 : Option Addr) (np pc gp op : Nat) (Ps : Nat → ByteArray) (a1 : Option Addr) (nk kc gk ok : Nat) (Pk : Nat → Nat) (a2 : Option Addr) (nt tc gt ot : Nat) (Ts : Nat → ByteArray) (a3 : Option Addr) (ni ic gi oi : Nat) (In : Nat → Bool) (w : World)
    (hP : IsSt w a0 np gp op Ps) (hK : IsPk w a1 nk gk ok Pk) (hT : IsSt w a2 nt gt ot Ts) (hI : IsBo w a3 ni gi oi In) (hszP : ∀ i, i < np → (Ps i).size ≤ 140737488355328) (hszT : ∀ i, i < nt → (Ts i).size ≤ 140737488355328) :
    Calls Yba.prog 3 #[.slice a0 np pc, .slice a1 nk kc, .slice a2 nt tc, .slice a3 ni ic] w fun e w' => e = .returned (.bool true) ∧ Below w.heap.size w w' := by
  by_cases h0 : np ≤ 256 ∧ nk ≤ 256 ∧ nt ≤ 256 ∧ ni ≤ 4096
  · exact model_small clone_ok hMk a0 np pc gp op Ps a1 nk kc gk ok Pk a2 nt tc gt ot Ts a3 ni ic gi oi In w h0.1 h0.2.1 h0.2.2.1 h0.2.2.2 hP hK hT hI hszP hszT
  · clear hP hK hT hI hszP hszT
    by_cases h1 : 256 < np
    · have d1 : decide ((256 : Int) < (np : Int)) = true := by simp; omega
      have d1' : decide (256 < np) = true := by simp; omega
      go_enter Yba.func3, Yba.ntmps3
      go_wp2
      go_ret
      exact ⟨rfl, Below.refl _ _⟩
    · have d1 : decide ((256 : Int) < (np : Int)) = false := by simp; omega
      have d1' : decide (256 < np) = false := by simp; omega
      by_cases h2 : 256 < nk
      · have d2 : decide ((256 : Int) < (nk : Int)) = true := by simp; omega
        have d2' : decide (256 < nk) = true := by simp; omega
        go_enter Yba.func3, Yba.ntmps3
        go_wp2
        go_ret
        exact ⟨rfl, Below.refl _ _⟩
      · have d2 : decide ((256 : Int) < (nk : Int)) = false := by simp; omega
        have d2' : decide (256 < nk) = false := by simp; omega
        by_cases h3 : 256 < nt
        · have d3 : decide ((256 : Int) < (nt : Int)) = true := by simp; omega
          have d3' : decide (256 < nt) = true := by simp; omega
          go_enter Yba.func3, Yba.ntmps3
          go_wp2
          go_ret
          exact ⟨rfl, Below.refl _ _⟩
        · have d3 : decide ((256 : Int) < (nt : Int)) = false := by simp; omega
          have d3' : decide (256 < nt) = false := by simp; omega
          have d4 : decide ((4096 : Int) < (ni : Int)) = true := by simp; omega
          have d4' : decide (4096 < ni) = true := by simp; omega
          go_enter Yba.func3, Yba.ntmps3
          go_wp2
          go_ret
          exact ⟨rfl, Below.refl _ _⟩

set_option maxRecDepth 100000 in
theorem lifted (hMk : MarkOK) (os : Os) (started : os.Started) (H : Type) (enc : TypeId × Value → H) :
    ReturnsInHanded {} Yba.checked os 3 .any (Rows.lawS3139AModelSpec.pre6 enc Yba.prog Yba.f3 Rows.lawS3139AModelRow.domain false) (Rows.lawS3139AModelSpec.post enc Yba.prog Yba.f3 false true false false) := by
  refine returnsInHanded_of_change_sized (C := Yba.checked) own started (by kernel_rfl) Yba.func3
    (ChangeSpec.witness6 (enc := enc) (C := Yba.checked) false ⟨#[], #[.slice none 0 0, .slice none 0 0, .slice none 0 0, .slice none 0 0], []⟩ 8 (by kernel_rfl) (by kernel_rfl) (by kernel_rfl) (by kernel_rfl)) ?_
  intro W base args ds gs before hval0 hW hcnd hsz0 _
  have hval : ∀ (j : Nat) t v, Yba.f3.params[j]? = some t → args[j]? = some v → Value.okWide Yba.prog W .any base t v := hval0
  have hsz : (DataW.weightsEach Yba.prog (Yba.f3.params.toList ++ Rows.lawS3139AModelSpec.plain.varTypes Yba.prog) (ds ++ gs)).all (· ≤ reachBytes) = true := hsz0
  have hW' := hW
  obtain ⟨p, q, hA0, hV, rfl, hfz, hnd⟩ := hW
  have hA : DataW.TrodAll enc Yba.prog W 0 (fun _ => true) true Yba.f3.params.toList args.toList ds p := hA0
  rw [Yba.params3] at hA hval hsz
  obtain ⟨v0, vs0, d0, ds0, p0, q0, hargs, rfl, rfl, h0, r0⟩ := trodAll_cons hA
  obtain ⟨v1, vs1, d1, ds1, p1, q1, rfl, rfl, rfl, h1, r1⟩ := trodAll_cons r0
  obtain ⟨v2, vs2, d2, ds2, p2, q2, rfl, rfl, rfl, h2, r2⟩ := trodAll_cons r1
  obtain ⟨v3, vs3, d3, ds3, p3, q3, rfl, rfl, rfl, h3, r3⟩ := trodAll_cons r2
  obtain ⟨rfl, rfl, rfl⟩ := trodAll_nil r3
  obtain rfl : args = #[v0, v1, v2, v3] := by cases args; simp_all
  obtain ⟨rfl, rfl⟩ := trodVars_none hV
  have k0 := h0
  have k1 := h1
  have k2 := h2
  have k3 := h3
  have lt0 : ∀ x ∈ p0, x.block < W.heap.size := by obtain ⟨m, hm⟩ := k0; exact DataW.trod_lt m _ _ _ hm
  have lt1 : ∀ x ∈ p1, x.block < W.heap.size := by obtain ⟨m, hm⟩ := k1; exact DataW.trod_lt m _ _ _ hm
  have lt2 : ∀ x ∈ p2, x.block < W.heap.size := by obtain ⟨m, hm⟩ := k2; exact DataW.trod_lt m _ _ _ hm
  have lt3 : ∀ x ∈ p3, x.block < W.heap.size := by obtain ⟨m, hm⟩ := k3; exact DataW.trod_lt m _ _ _ hm
  have hs0 : ∀ n ∈ d0.weights Yba.prog 22, n ≤ reachBytes := fun n hn => by
    have := List.all_eq_true.1 hsz _ (DataW.weights_mem_each (j := 0) (t := 22) rfl rfl n hn)
    simpa using this
  have hs2 : ∀ n ∈ d2.weights Yba.prog 22, n ≤ reachBytes := fun n hn => by
    have := List.all_eq_true.1 hsz _ (DataW.weights_mem_each (j := 2) (t := 22) rfl rfl n hn)
    simpa using this
  obtain ⟨a0, m0, c0, g0, o0, Ps, rfl, hP, hPs⟩ := open_texts (fun _ => rfl) (hval 0 22 v0 rfl rfl) h0 hs0
  obtain ⟨a1, m1, c1, g1, o1, Pk, rfl, hK⟩ := open_picks (fun _ => rfl) (hval 1 23 v1 rfl rfl) h1
  obtain ⟨a2, m2, c2, g2, o2, Ts, rfl, hT, hTs⟩ := open_texts (fun _ => rfl) (hval 2 22 v2 rfl rfl) h2 hs2
  obtain ⟨a3, m3, c3, g3, o3, In, rfl, hI⟩ := open_bos (fun _ => rfl) (hval 3 24 v3 rfl rfl) h3
  clear hA0 hval0
  refine (walk hMk a0 m0 c0 g0 o0 Ps a1 m1 c1 g1 o1 Pk a2 m2 c2 g2 o2 Ts a3 m3 c3 g3 o3 In W hP hK hT hI hPs hTs).mono fun e W' ⟨he, bel⟩ => ?_
  subst he
  exact ⟨_, rfl, _, _, _, [], _, [], hW', trodAll_mk1 (shut_bool Yba.underlying4 _), (trodAll_cons_mk (Below.trod Yba.laidOut' (by kernel_rfl) (of_decide_eq_true (by kernel_rfl)) k0 bel lt0) (trodAll_cons_mk (Below.trod Yba.laidOut' (by kernel_rfl) (of_decide_eq_true (by kernel_rfl)) k1 bel lt1) (trodAll_cons_mk (Below.trod Yba.laidOut' (by kernel_rfl) (of_decide_eq_true (by kernel_rfl)) k2 bel lt2) (trodAll_cons_mk (Below.trod Yba.laidOut' (by kernel_rfl) (of_decide_eq_true (by kernel_rfl)) k3 bel lt3) trodAll_mk0)))), rfl, bel.frame _, fun h => by cases h⟩

theorem over (hMk : MarkOK) : Rows.lawS3139AModelRow.holds Yba.pinned (OpenSpec.ofChange Rows.lawS3139AModelSpec) :=
  OpenClaim.holds_of_wide 3 Yba.f3 rfl rfl rfl rfl rfl rfl rfl ⟨rfl, rfl, rfl, rfl, rfl⟩ rfl rfl rfl rfl rfl (by kernel_rfl) Yba.func3 (by kernel_rfl)
    (of_decide_eq_true (by kernel_rfl)) (by unfold Func.isWrapper; first | (rw [if_pos (by decide +kernel)]; kernel_rfl) | (rw [if_neg (by decide +kernel)]; exact ⟨rfl, rfl⟩))
    (fun os started H enc _ => lifted hMk os started H enc)
end Go.Proofs.Ybulkblzg.lawS3139AModel
