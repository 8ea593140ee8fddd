import Derived.Test.YbulkblzgC5s
namespace Go.Proofs.Ybulkblzg
open Go.RowKit
set_option linter.unusedVariables false
set_option linter.unusedSimpArgs false

set_option maxRecDepth 100000 in
set_option maxHeartbeats 4000000 in
theorem from_any (F : Nat) (caps : Array Value) (G : Nat) (capsG : Array Value) (n : Nat) (adj : Nat → List Nat) (U : UT) (cont : List (List Nat) → Bool) (hU : UKeep U) (hUL : ULt U) (hE : EdgesOK F caps n adj U)
    (hF : ∀ (args : Array Value) (w : World), (callFunc F args).run Yba.prog w = .ok (.enter F args) w) (hFo : FoundOK G capsG n U cont)
    (hG : ∀ (args : Array Value) (w : World), (callFunc G args).run Yba.prog w = .ok (.enter G args) w)
    (hadj : ∀ v, v < n → ∀ x ∈ adj v, x < n) (hdeg : ∀ v, v < n → (adj v).length ≤ 1024) (hn : n ≤ 256) (rb nb : Nat) (R0 : Nat → Prop) (w : World)
    (hu : U w (fun _ => 0) [] R0) (hr0 : ¬ R0 rb ∧ ¬ R0 nb) (hrn : rb ≠ nb) (hrb : Box w rb (.int .i64 0)) (hnb : Box w nb (.int .i64 (n : Int))) :
    Calls Yba.prog 24 #[.int .i64 (n : Int), .func (.func F) #[] caps, .func (.func 25) #[] #[.pointer (some ⟨rb, 0, none⟩), .pointer (some ⟨nb, 0, none⟩)], .func (.func G) #[] capsG] w fun e w' =>
      e = .returned (.tuple #[]) ∧ ∃ T R, (∃ k, T = iterT adj n k) ∧ U w' (asked T) T.comps R ∧ Keeps (fun j => R0 j ∨ j = rb ∨ w.heap.size ≤ j) w w' ∧ (∀ j, R j → R0 j ∨ w.heap.size ≤ j) ∧ Ended n cont T := by
  obtain ⟨N, hN⟩ : ∃ N, N = w.heap.size := ⟨_, rfl⟩
  have HN : Hid (N = w.heap.size) := hN
  have hUU : Hid (UKeep U ∧ ULt U ∧ EdgesOK F caps n adj U ∧ FoundOK G capsG n U cont ∧ (∀ v, v < n → ∀ x ∈ adj v, x < n) ∧ (∀ v, v < n → (adj v).length ≤ 1024)) := ⟨hU, hUL, hE, hFo, hadj, hdeg⟩
  have HS0 : Hid (St w N n rb nb (.func (.func F) #[] caps) adj U R0 (start w N n (.func (.func F) #[] caps)) T0 R0 none none none (.slice none 0 0) (.slice none 0 0) (.slice none 0 0)) := by
    have hk := keeps_start w N n (.func (.func F) #[] caps)
    have hb1 := hrb.lt
    have hb2 := hnb.lt
    have hc := cf_start w N n (.func (.func F) #[] caps) adj hN.symm
    refine ⟨hc, ?_, ?_, hrb.keep hk (fun h => h), hnb.keep hk (fun h => h), hr0, ⟨by omega, by omega, hrn⟩, hk.mono (fun _ _ h => h.elim), fun j hj => .inl hj, hN.symm⟩
    · exact hU _ _ _ _ _ _ hu hk (fun _ _ h => h)
    · intro j hj ho
      have := hUL _ _ _ _ _ hu hj
      have := (hc.ownLt ho).1
      omega
  clear hr0 hrn hrb hnb hu hU hUL hE hFo hadj hdeg
  have h50 := make_n Yba.underlying50 Yba.info21 rfl (by omega) n (by omega)
  have h24 := make_n Yba.underlying24 Yba.info4 rfl (by omega) n (by omega)
  go_enter Yba.func24, Yba.ntmps24
  go_upto_region 9 with fail
  rw [← hN]
  simp only [Nat.add_assoc, Nat.reduceAdd]
  rw [show ((((((((((((w.alloc (.cells #[.func (.func F) #[] caps] 44)).alloc (.cells (madeCells #[.int .i32 0] n) 21)).alloc (.cells #[.slice (some ⟨N + 1, 0, none⟩) n n] 50)).alloc (.cells (madeCells #[.int .i32 0] n) 21)).alloc
    (.cells #[.slice (some ⟨N + 3, 0, none⟩) n n] 50)).alloc (.cells (madeCells #[.bool false] n) 4)).alloc (.cells #[.slice (some ⟨N + 5, 0, none⟩) n n] 24)).alloc (.cells #[.slice none 0 0] 27)).alloc
    (.cells #[.slice none 0 0] 27)).alloc (.cells #[.slice none 0 0] 70)).alloc (.cells #[.int .i32 0] 21)).alloc (.cells #[.func (.func 30) #[] #[.pointer (some ⟨N + 8, 0, none⟩)]] 43)) = start w N n (.func (.func F) #[] caps) from rfl]
  clear h50 h24 hN
  obtain ⟨fE, hfE⟩ : ∃ fE, fE = Value.func (.func F) #[] caps := ⟨_, rfl⟩
  have HfE : Hid (fE = Value.func (.func F) #[] caps) := hfE
  rw [← hfE] at HS0
  obtain ⟨W0, hW0⟩ : ∃ W0, W0 = start w N n (.func (.func F) #[] caps) := ⟨_, rfl⟩
  rw [← hW0]
  have HS : Hid (St w N n rb nb fE adj U R0 W0 T0 R0 none none none (.slice none 0 0) (.slice none 0 0) (.slice none 0 0)) := by rw [hW0, ← hfE]; exact HS0.out
  clear HS0 hW0 hfE
  go_loopw [17] (fun s wr => ∃ (T : Ts) (R : Nat → Prop) (gS gN gP : Option Nat) (vS vN vP : Value), T.fr = [] ∧ Hid (Ok w N n rb nb fE adj U R0 cont wr T R gS gN gP vS vN vP)) (fun _ wr => outM w N n rb nb fE adj U R0 cont wr)
  case atStart => exact ⟨T0, R0, none, none, none, _, _, _, rfl, HS.out, ⟨0, rfl⟩, fun m h1 h2 => by simp [T0] at h2; omega⟩
  case round =>
    obtain ⟨T, R, gS, gN, gP, vS, vN, vP, hfr, HT, hmq⟩ := out_min hrel
    have HFR : Hid (T.fr = []) := hfr
    have HI : Hid (TInv adj n T) := by obtain ⟨k, hk⟩ := HT.out.2.1; rw [hk]; exact inv_iter hUU.out.2.2.2.2.1 k
    clear hrel hfr HS
    obtain ⟨v, hv⟩ : ∃ v, v = T.nx := ⟨_, rfl⟩
    have HV : Hid (v = T.nx) := hv
    clear hv
    by_cases hx : v < n
    · go_wp2_with fail
      refine (root_more rb nb v n wr (by rw [HV.out]; exact HT.out.1.rbx) HT.out.1.nbx hx hn).mono ?_
      rintro e1 W1 ⟨rfl, hW1⟩
      have S1 : Hid (St w N n rb nb fE adj U R0 W1 { T with nx := T.nx + 1 } R gS gN gP vS vN vP) := by
        rw [hW1, HV.out]; exact HT.out.1.root hUU.out.1
      clear hW1
      obtain ⟨i0, i1⟩ := S1.out.cf.ix
      obtain ⟨x0, x1⟩ := S1.out.cf.ixA v hx
      by_cases h0 : T.idx v = 0
      · have hz : ((T.idx v : Nat) : Int) = 0 := by omega
        simp only [hz] at x0
        have hfn : T.fr.length = 0 := by rw [HFR.out]; rfl
        go_wp2_with fail
        refine (reach_any F caps n adj U hUU.out.1 hUU.out.2.1 hUU.out.2.2.1 hF N T.idx T.low (fun i => decide (i ∈ stk T.fr)) (stk T.fr) (nxt adj T.fr) (frs adj 0 T.fr) T.fr.length T.cnt gS gN gP vS vN vP
          (asked T) T.comps R W1 (by rw [← HfE.out]; exact S1.out.cf) S1.out.u S1.out.ap v hx hn (by have := HI.out.stkLen; omega) (by rw [HFR.out]; simp [nxt]) (by omega) (by have := HI.out.count; omega) (by have := hUU.out.2.2.2.2.2 v hx; omega) (by unfold asked; split <;> omega)).mono ?_
        rintro e2 W2 ⟨rfl, hu2, gS2, gN2, gP2, vS2, vN2, vP2, hcf2, hap2, hk2⟩
        have O2 : Hid (Ok w N n rb nb fE adj U R0 cont W2 (stepT adj n T) R gS2 gN2 gP2 vS2 vN2 vP2) := by
          have hst : stepT adj n T = reachT { T with nx := T.nx + 1 } v := by
            rw [stepT_nil HFR.out, rootT, if_pos (by rw [← HV.out]; exact hx), if_pos (by rw [← HV.out]; exact h0), ← HV.out]
          rw [hst]
          obtain ⟨k, hk⟩ := HT.out.2.1
          refine ⟨?_, ⟨k + 1, by rw [← hst, hk]; rfl⟩, HT.out.2.2⟩
          have h3 := S1.out.reach (v := v) hu2 (by rw [← HfE.out] at hcf2; exact CT_reach (T := { T with nx := T.nx + 1 }) hcf2) hap2 hk2
          exact h3.congr rfl rfl rfl rfl rfl rfl rfl rfl rfl (asked_reach { T with nx := T.nx + 1 } v h0) rfl
        have HX : Hid ((stepT adj n T).nx = v + 1) := by
          rw [stepT_nil HFR.out, rootT, if_pos (by rw [← HV.out]; exact hx), if_pos (by rw [← HV.out]; exact h0), HV.out]; rfl
        clear hu2 hcf2 hap2 hk2 S1 i0 i1 x0 x1 hz h0 hfn HI
        obtain ⟨wo, rfl⟩ : ∃ wo : World, wo = wr := ⟨_, rfl⟩
        go_wp2
        go_loopw [18] (fun s wi => ∃ (T : Ts) (R : Nat → Prop) (gS gN gP : Option Nat) (vS vN vP : Value), Hid (T.nx = v + 1) ∧ Hid (Ok w N n rb nb fE adj U R0 cont wi T R gS gN gP vS vN vP)) (fun _ wi => inM w N n rb nb fE adj U R0 cont (v + 1) wi)
        case atStart => exact ⟨_, _, _, _, _, _, _, _, HX.out, O2.out⟩
        case round =>
          obtain ⟨V, Q, hS, hN, hP, uS, uN, uP, HVX, HO, HMQ⟩ := in_min hrel
          have HI : Hid (TInv adj n V) := by obtain ⟨k, hk⟩ := HO.out.2.1; rw [hk]; exact inv_iter hUU.out.2.2.2.2.1 k
          clear hrel O2 HX
          rcases List.eq_nil_or_concat V.fr with hfr | ⟨L, f, hfr⟩
          · have HVF : Hid (V.fr = []) := hfr
            obtain ⟨p0, p1⟩ := HO.out.1.cf.pa.box
            obtain ⟨ap, cp, hvp, -⟩ := row_form HO.out.1.cf.pa.row
            rw [hvp, hfr] at p0
            clear hfr hvp
            go_wp2
            go_roundw
            case rel => exact ⟨V, Q, hS, hN, hP, uS, uN, uP, HVF.out, HO.out⟩
            case measure =>
              have h1 := out_le HVF.out HO.out
              have h2 := hmq.out
              have h3 := HVX.out
              have h4 := HV.out
              omega
          · have HVF : Hid (V.fr = L ++ [f]) := by unfold Hid; simpa using hfr
            clear hfr
            obtain ⟨m, hm⟩ : ∃ m, m = L.length := ⟨_, rfl⟩
            have HM : Hid (m = L.length) := hm
            clear hm
            have SF : Hid (Sr w N n rb nb fE U R0 wr V.idx V.low (fun i => decide (i ∈ stk (L ++ [f]))) (stk (L ++ [f])) (nxt adj (L ++ [f])) (frs adj 0 (L ++ [f])) (m + 1) V.cnt V.nx (asked V) V.comps Q hS hN hP uS uN uP) :=
              HO.out.1.congr rfl rfl (by rw [HVF.out]) (by rw [HVF.out]) (by rw [HVF.out]) (by rw [HVF.out]) (by rw [HVF.out, HM.out]; simp) rfl rfl rfl rfl
            obtain ⟨g, cp, hup, hcp, -, hgP⟩ := row_some SF.out.cf.pa (by omega)
            subst hup
            obtain ⟨p0, p1⟩ := SF.out.cf.pa.box
            obtain ⟨q0, q1, q2, q3, q4⟩ := last_frame HM.out SF.out.cf.pa
            obtain ⟨s, hs⟩ : ∃ s, s = (nxt adj L).length := ⟨_, rfl⟩
            obtain ⟨A, hA⟩ : ∃ A, A = s + f.at_ := ⟨_, rfl⟩
            obtain ⟨En, hEn⟩ : ∃ En, En = s + (adj f.v).length := ⟨_, rfl⟩
            rw [← hs] at q1 q2 q3
            rw [← hA] at q2
            rw [← hEn] at q3
            have HSA : Hid (s = (nxt adj L).length ∧ A = s + f.at_ ∧ En = s + (adj f.v).length) := ⟨hs, hA, hEn⟩
            have hfv : f.v < n := HI.out.vlt (by rw [HVF.out]; simp)
            have hLn : m + 1 ≤ 256 := by have := HI.out.frLen; have := HM.out; rw [HVF.out] at *; simp at *; omega
            clear hs hA hEn hgP
            have HNX : Hid ((nxt adj (L ++ [f])).length ≤ 262144) := by
              have h1 := nxt_len (adj := adj) (D := 1024) (fr := L ++ [f]) (fun k hk => hUU.out.2.2.2.2.2 _ (HI.out.vlt (by rw [HVF.out]; exact hk)))
              have h2 : (L ++ [f]).length * 1024 ≤ 256 * 1024 := Nat.mul_le_mul_right _ (by have := HM.out; simp; omega)
              unfold Hid; omega
            by_cases hlt : A < En
            · have hXl : (nxt adj (L ++ [f])).length = En := by rw [nxt_snoc, List.length_append, HSA.out.2.2, HSA.out.1]
              obtain ⟨gn, cn, hun, hcn, -, hgn⟩ := row_some SF.out.cf.nx (by rw [hXl]; omega)
              subst hun
              obtain ⟨x, hx'⟩ : ∃ x, (adj f.v)[f.at_]? = some x := by
                have := HSA.out
                exact ⟨_, List.getElem?_eq_getElem (show f.at_ < (adj f.v).length by omega)⟩
              have HX : Hid ((adj f.v)[f.at_]? = some x) := hx'
              have hxn : x < n := hUU.out.2.2.2.2.1 f.v hfv x (List.mem_of_getElem? hx')
              obtain ⟨n0, n1⟩ := SF.out.cf.nx.box
              rw [hXl] at n0
              have nA : wr.cell? ⟨gn, A, none⟩ = some (.int .i64 (x : Int)) := int_cell SF.out.cf.nx (by rw [hXl]; exact hlt) (by
                rw [nxt_snoc, List.getElem?_append_right (by have := HSA.out; omega), show A - (nxt adj L).length = f.at_ by have := HSA.out; omega]; exact hx')
              have hdA : decide ((A : Int) < (En : Int)) = true := by simp; omega
              have HXl : Hid ((nxt adj (L ++ [f])).length = En) := hXl
              have hAb : A ≤ 300000 := by have := HNX.out; omega
              clear hx' hXl hcn hgn
              go_upto_region 15 with fail
              go_quiet (fail)
              obtain ⟨r1, rfl⟩ : ∃ r1 : Nat, r1 = nq := ⟨_, rfl⟩
              go_upto_region 16 with fail
              go_quiet (fail)
              obtain ⟨r2, rfl⟩ : ∃ r2 : Nat, r2 = nq := ⟨_, rfl⟩
              go_upto_region 18 with fail
              obtain ⟨W3, hW3⟩ : ∃ W3, W3 = (wr.drewN (r1 + r2)).setCell ⟨g, m * 4 + 2, none⟩ (.int .i64 ((A : Int) + 1)) := ⟨_, rfl⟩
              rw [← hW3]
              obtain ⟨f1, hf1⟩ : ∃ f1 : Fr, f1 = { f with at_ := f.at_ + 1 } := ⟨_, rfl⟩
              have S3 : Hid (Sr w N n rb nb fE U R0 W3 V.idx V.low (fun i => decide (i ∈ stk (L ++ [f]))) (stk (L ++ [f])) (nxt adj (L ++ [f])) (frs adj 0 (L ++ [f1])) (m + 1) V.cnt V.nx (asked V) V.comps Q hS hN hP uS (.slice (some ⟨gn, 0, none⟩) (nxt adj (L ++ [f])).length cn) (.slice (some ⟨g, 0, none⟩) (m + 1) cp)) := by
                have := (SF.out.drewN hUU.out.1 (r1 + r2)).setAt HM.out hUU.out.1
                rw [show (((nxt adj L).length + f.at_ + 1 : Nat) : Int) = (A : Int) + 1 from by have := HSA.out; omega] at this
                rw [hW3, hf1]; exact this
              have HF1 : Hid (f1 = { f with at_ := f.at_ + 1 }) := hf1
              clear hW3 hf1 p0 p1 q0 q1 q2 q3 q4 n0 n1 nA hdA SF
              obtain ⟨i0, i1⟩ := S3.out.cf.ix
              obtain ⟨x0, x1⟩ := S3.out.cf.ixA x hxn
              have HST : Hid (stepT adj n V = edgeT V L f x) := stepT_edge HVF.out HX.out
              by_cases h0 : V.idx x = 0
              · as_aux_lemma =>
                  have hz : ((V.idx x : Nat) : Int) = 0 := by omega
                  simp only [hz] at x0
                  clear hz
                  go_wp2_with fail
                  refine (reach_any F caps n adj U hUU.out.1 hUU.out.2.1 hUU.out.2.2.1 hF N V.idx V.low (fun i => decide (i ∈ stk (L ++ [f]))) (stk (L ++ [f])) (nxt adj (L ++ [f])) (frs adj 0 (L ++ [f1])) (m + 1) V.cnt hS hN hP uS _ _
                    (asked V) V.comps Q W3 (by rw [← HfE.out]; exact S3.out.cf) S3.out.u S3.out.ap x hxn hn (by have := HI.out.stkLen; rw [HVF.out] at this; omega) (by have := HNX.out; omega) (by omega) (by have := HI.out.count; omega) (by have := hUU.out.2.2.2.2.2 x hxn; omega) (by unfold asked; split <;> omega)).mono ?_
                  rintro e2 W4 ⟨rfl, hu2, gS2, gN2, gP2, vS2, vN2, vP2, hcf2, hap2, hk2⟩
                  have O4 : Hid (Ok w N n rb nb fE adj U R0 cont W4 (stepT adj n V) Q gS2 gN2 gP2 vS2 vN2 vP2) := by
                    have hst : stepT adj n V = reachT { V with fr := L ++ [f1] } x := by rw [HST.out, edgeT, if_pos h0, HF1.out]
                    rw [hst]
                    obtain ⟨k, hk⟩ := HO.out.2.1
                    refine ⟨?_, ⟨k + 1, by rw [← hst, hk]; rfl⟩, HO.out.2.2⟩
                    have hs : stk (L ++ [f1]) = stk (L ++ [f]) := by rw [HF1.out]; simp [stk_append, stk]
                    have hx2 : nxt adj (L ++ [f1]) = nxt adj (L ++ [f]) := by rw [HF1.out]; simp [nxt_append, nxt]
                    have hl2 : (L ++ [f1]).length = m + 1 := by have := HM.out; simp; omega
                    have h3 := S3.out.reach (v := x) hu2 (by
                      rw [← HfE.out, ← hs, ← hx2, ← hl2] at hcf2
                      exact CT_reach (T := { V with fr := L ++ [f1] }) hcf2) hap2 hk2
                    exact h3.congr rfl rfl rfl rfl rfl rfl rfl rfl rfl (asked_reach { V with fr := L ++ [f1] } x h0) rfl
                  clear hu2 hcf2 hap2 hk2
                  go_wp2
                  go_roundw
                  case rel => exact ⟨stepT adj n V, Q, gS2, gN2, gP2, vS2, vN2, vP2, by unfold Hid; rw [step_nx HVF.out]; exact HVX.out, O4.out⟩
                  case measure =>
                    have h1 := in_le (x := v + 1) (by rw [step_nx HVF.out]; exact HVX.out) O4.out
                    have h2 := meas_step hUU.out.2.2.2.2.1 hUU.out.2.2.2.2.2 HI.out HVF.out
                    have h3 := HMQ.out
                    omega
              · have hz : ¬ ((V.idx x : Nat) : Int) = 0 := by omega
                obtain ⟨o0, o1⟩ := S3.out.cf.onB
                obtain ⟨y0, y1⟩ := S3.out.cf.onA x hxn
                have hst0 : Hid (stk (L ++ [f]) = stk V.fr) := by rw [HVF.out]; rfl
                have hsx : Hid (stk (L ++ [f1]) = stk (L ++ [f]) ∧ nxt adj (L ++ [f1]) = nxt adj (L ++ [f]) ∧ (L ++ [f1]).length = m + 1) := by
                  rw [HF1.out]
                  exact ⟨by simp [stk_append, stk], by simp [nxt_append, nxt], by have := HM.out; simp; omega⟩
                by_cases hon : x ∈ stk (L ++ [f])
                · as_aux_lemma =>
                    simp only [hon, decide_true] at y0
                    obtain ⟨l0, l1⟩ := S3.out.cf.lo
                    obtain ⟨m0, m1⟩ := S3.out.cf.loA f.v hfv
                    obtain ⟨q0, q1, q2, q3, q4⟩ := last_frame HM.out S3.out.cf.pa
                    rw [show f1.v = f.v by rw [HF1.out]] at q0
                    clear q1 q2 q3 q4
                    go_upto_region 21 with fail
                    go_region
                    obtain ⟨W5, hW5⟩ : ∃ W5, W5 = (W3.setCell ⟨N + 3, f.v, none⟩ (.int .i32 (if V.idx x < V.low f.v then (V.idx x : Int) else (V.low f.v : Int)))).drew := ⟨_, rfl⟩
                    rw [← hW5]
                    have O5 : Hid (Ok w N n rb nb fE adj U R0 cont W5 (stepT adj n V) Q hS hN hP uS (.slice (some ⟨gn, 0, none⟩) (nxt adj (L ++ [f])).length cn) (.slice (some ⟨g, 0, none⟩) (m + 1) cp)) := by
                      have hst : stepT adj n V = { V with fr := L ++ [f1], low := upd V.low f.v (min (V.low f.v) (V.idx x)) } := by rw [HST.out, edgeT, if_neg h0, if_pos (by rw [← hst0.out]; exact hon), HF1.out]
                      rw [hst]
                      obtain ⟨k, hk⟩ := HO.out.2.1
                      refine ⟨?_, ⟨k + 1, by rw [← hst, hk]; rfl⟩, HO.out.2.2⟩
                      have h3 := (S3.out.setLow hUU.out.1 hfv (min (V.low f.v) (V.idx x))).drew hUU.out.1
                      rw [show ((min (V.low f.v) (V.idx x) : Nat) : Int) = (if V.idx x < V.low f.v then (V.idx x : Int) else (V.low f.v : Int)) from by split <;> omega] at h3
                      rw [hW5]
                      exact h3.congr rfl rfl (by simp only [hsx.out.1]) hsx.out.1.symm hsx.out.2.1.symm rfl hsx.out.2.2.symm rfl rfl rfl rfl
                    clear hW5
                    go_wp2
                    go_roundw
                    case rel => exact ⟨stepT adj n V, Q, _, _, _, _, _, _, by unfold Hid; rw [step_nx HVF.out]; exact HVX.out, O5.out⟩
                    case measure =>
                      have h1 := in_le (x := v + 1) (by rw [step_nx HVF.out]; exact HVX.out) O5.out
                      have h2 := meas_step hUU.out.2.2.2.2.1 hUU.out.2.2.2.2.2 HI.out HVF.out
                      have h3 := HMQ.out
                      omega
                · as_aux_lemma =>
                    simp only [hon, decide_false] at y0
                    have O5 : Hid (Ok w N n rb nb fE adj U R0 cont W3 (stepT adj n V) Q hS hN hP uS (.slice (some ⟨gn, 0, none⟩) (nxt adj (L ++ [f])).length cn) (.slice (some ⟨g, 0, none⟩) (m + 1) cp)) := by
                      have hst : stepT adj n V = { V with fr := L ++ [f1] } := by rw [HST.out, edgeT, if_neg h0, if_neg (by rw [← hst0.out]; exact hon), HF1.out]
                      rw [hst]
                      obtain ⟨k, hk⟩ := HO.out.2.1
                      refine ⟨?_, ⟨k + 1, by rw [← hst, hk]; rfl⟩, HO.out.2.2⟩
                      exact S3.out.congr rfl rfl (by simp only [hsx.out.1]) hsx.out.1.symm hsx.out.2.1.symm rfl hsx.out.2.2.symm rfl rfl rfl rfl
                    go_wp2
                    go_roundw
                    case rel => exact ⟨stepT adj n V, Q, _, _, _, _, _, _, by unfold Hid; rw [step_nx HVF.out]; exact HVX.out, O5.out⟩
                    case measure =>
                      have h1 := in_le (x := v + 1) (by rw [step_nx HVF.out]; exact HVX.out) O5.out
                      have h2 := meas_step hUU.out.2.2.2.2.1 hUU.out.2.2.2.2.2 HI.out HVF.out
                      have h3 := HMQ.out
                      omega
            · have hXl : (nxt adj (L ++ [f])).length = En := by rw [nxt_snoc, List.length_append, HSA.out.2.2, HSA.out.1]
              have hdA : decide ((A : Int) < (En : Int)) = false := by simp; omega
              have HXl : Hid ((nxt adj (L ++ [f])).length = En) := hXl
              obtain ⟨an, cn, hun, hcn, hcn2, han, -⟩ := row_form SF.out.cf.nx.row
              subst hun
              have HAN : Hid (Flat an) := fun ad hd => by obtain ⟨gg, h1, _⟩ := han ad hd; exact ⟨gg, h1⟩
              obtain ⟨n0, n1⟩ := SF.out.cf.nx.box
              rw [hXl] at n0
              have hsle : s ≤ cn := by have := HSA.out; omega
              have hcs : cn ≤ maxLen := hcn2
              have h27 := fun W => sliceH27 HAN.out En cn s hsle W
              have h70 := fun W => sliceH70 (a := some ⟨g, 0, none⟩) (fun ad hd => ⟨g, by injection hd with hd; exact hd.symm⟩) (m + 1) cp m (by omega) W
              have HSL : Hid (s ≤ cn ∧ cn ≤ maxLen) := ⟨hsle, hcs⟩
              clear hXl hcn han hcn2 hsle hcs
              go_upto_region 15 with fail
              go_quiet (fail)
              obtain ⟨r1, rfl⟩ : ∃ r1 : Nat, r1 = nq := ⟨_, rfl⟩
              go_upto_region 23 with fail
              go_region
              go_upto_region 24 with fail
              obtain ⟨W1, hW1⟩ : ∃ W1, W1 = (wr.drewN (r1 + 1)).setCell ⟨N + 8, 0, none⟩ (.slice an s cn) := ⟨_, rfl⟩
              rw [← hW1]
              have S1 : Hid (Sr w N n rb nb fE U R0 W1 V.idx V.low (fun i => decide (i ∈ stk (L ++ [f]))) (stk (L ++ [f])) (nxt adj L) (frs adj 0 (L ++ [f])) (m + 1) V.cnt V.nx (asked V) V.comps Q hS hN hP uS (.slice an s cn) (.slice (some ⟨g, 0, none⟩) (m + 1) cp)) := by
                have h3 := (SF.out.drewN hUU.out.1 (r1 + 1)).takeN hUU.out.1 (j := s) (by rw [HXl.out]; have := HSA.out; omega)
                rw [hW1]
                exact h3.congr rfl rfl rfl rfl (by rw [nxt_snoc, HSA.out.1]; simp) rfl rfl rfl rfl rfl rfl
              clear hW1 p0 p1 q0 q1 q2 q3 q4 n0 n1 hdA h27 SF
              obtain ⟨p0, p1⟩ := S1.out.cf.pa.box
              go_upto_region 25 with fail
              obtain ⟨W2, hW2⟩ : ∃ W2, W2 = W1.setCell ⟨N + 9, 0, none⟩ (.slice (some ⟨g, 0, none⟩) m cp) := ⟨_, rfl⟩
              rw [← hW2]
              have S2 : Hid (Sr w N n rb nb fE U R0 W2 V.idx V.low (fun i => decide (i ∈ stk (L ++ [f]))) (stk (L ++ [f])) (nxt adj L) (frs adj 0 L) m V.cnt V.nx (asked V) V.comps Q hS hN hP uS (.slice an s cn) (.slice (some ⟨g, 0, none⟩) m cp)) := by
                have h3 := S1.out.takeP hUU.out.1 (j := m) (by omega)
                rw [hW2]
                exact h3.congr rfl rfl rfl rfl rfl (by rw [frs_snoc, HM.out, ← frs_length adj L 0]; simp) rfl rfl rfl rfl rfl
              clear hW2 p0 p1 h70 S1
              obtain ⟨p0, p1⟩ := S2.out.cf.pa.box
              obtain ⟨l0, l1⟩ := S2.out.cf.lo
              obtain ⟨m0, m1⟩ := S2.out.cf.loA f.v hfv
              go_upto_if 125 with fail
              go_cut [20, 21] (fun s20 s21 wx => s20 = .int .i64 (f.v : Int) ∧ Hid (Sr w N n rb nb fE U R0 wx V.idx (lowP V L f.v) (fun i => decide (i ∈ stk (L ++ [f]))) (stk (L ++ [f])) (nxt adj L) (frs adj 0 L) m V.cnt V.nx (asked V) V.comps Q hS hN hP uS (.slice an s cn) (.slice (some ⟨g, 0, none⟩) m cp)))
              case first => as_aux_lemma =>
                rcases List.eq_nil_or_concat L with hL | ⟨G', q, hL⟩
                · subst hL
                  obtain rfl : m = 0 := HM.out
                  go_wp2
                  go_meet
                  case rel => exact ⟨rfl, S2.out⟩
                · obtain rfl : L = G' ++ [q] := by simpa using hL
                  clear hL
                  obtain rfl : m = G'.length + 1 := by have := HM.out; simp at this; omega
                  obtain ⟨q0, q1, q2, q3, q4⟩ := last_frame rfl S2.out.cf.pa
                  clear q1 q2 q3 q4
                  have hqv : q.v < n := HI.out.vlt (by rw [HVF.out]; simp)
                  obtain ⟨z0, z1⟩ := S2.out.cf.loA q.v hqv
                  go_upto_region 27 with fail
                  go_region
                  obtain ⟨W5, hW5⟩ : ∃ W5, W5 = (W2.setCell ⟨N + 3, q.v, none⟩ (.int .i32 (if V.low f.v < V.low q.v then (V.low f.v : Int) else (V.low q.v : Int)))).drew := ⟨_, rfl⟩
                  rw [← hW5]
                  have S5 : Hid (Sr w N n rb nb fE U R0 W5 V.idx (lowP V (G' ++ [q]) f.v) (fun i => decide (i ∈ stk (G' ++ [q] ++ [f]))) (stk (G' ++ [q] ++ [f])) (nxt adj (G' ++ [q])) (frs adj 0 (G' ++ [q])) (G'.length + 1) V.cnt V.nx (asked V) V.comps Q hS hN hP uS (.slice an s cn) (.slice (some ⟨g, 0, none⟩) (G'.length + 1) cp)) := by
                    have h3 := (S2.out.setLow hUU.out.1 hqv (min (V.low q.v) (V.low f.v))).drew hUU.out.1
                    rw [show ((min (V.low q.v) (V.low f.v) : Nat) : Int) = (if V.low f.v < V.low q.v then (V.low f.v : Int) else (V.low q.v : Int)) from by split <;> omega] at h3
                    have hlw : lowP V (G' ++ [q]) f.v = upd V.low q.v (min (V.low q.v) (V.low f.v)) := by simp [lowP]
                    rw [hW5]
                    exact h3.congr rfl hlw.symm rfl rfl rfl rfl rfl rfl rfl rfl rfl
                  clear hW5
                  go_wp2
                  all_goals go_meet
                  all_goals exact ⟨rfl, S5.out⟩
              case rest =>
                obtain ⟨rfl, SC⟩ := hcut
                clear S2 p0 p1 l0 l1 m0 m1
                obtain ⟨l0, l1⟩ := SC.out.cf.lo
                obtain ⟨m0, m1⟩ := SC.out.cf.loA f.v hfv
                simp only [lowP_self] at m0
                obtain ⟨i0, i1⟩ := SC.out.cf.ix
                obtain ⟨x0, x1⟩ := SC.out.cf.ixA f.v hfv
                have HST : Hid (stepT adj n V = popT V L f) := stepT_pop HVF.out (by have := HSA.out; omega)
                by_cases hroot : V.low f.v = V.idx f.v
                · as_aux_lemma =>
                    have hdr2 : (((V.idx f.v : Nat) : Int) == ((V.idx f.v : Nat) : Int)) = true := by simp
                    rw [hroot] at m0
                    obtain ⟨mm, hmm⟩ := HI.out.hd f (by rw [HVF.out]; simp)
                    have hsk : stk (L ++ [f]) = stk L ++ f.mem := by rw [stk_append, stk_one]
                    have hnd : (stk L ++ f.mem).Nodup := by
                      have h3 := HI.out.nd
                      rw [HVF.out, hsk, List.nodup_append] at h3
                      exact h3.1
                    obtain ⟨d, hd⟩ : ∃ d, d = (stk L).length := ⟨_, rfl⟩
                    obtain ⟨k, hk⟩ : ∃ k, k = f.mem.length := ⟨_, rfl⟩
                    obtain ⟨t, ht⟩ : ∃ t, t = d + k := ⟨_, rfl⟩
                    have hlen : (stk (L ++ [f])).length = t := by rw [hsk, List.length_append, ht, hd, hk]
                    have hk1 : 1 ≤ k := by rw [hk, hmm]; simp
                    have ht256 : t ≤ 256 := by
                      have h3 := HI.out.stkLen
                      rw [HVF.out, hlen] at h3; omega
                    obtain ⟨gs, cs, hus, hcs, hcs2, hgs⟩ := row_some SC.out.cf.st (by rw [hlen]; omega)
                    subst hus
                    rw [hlen] at hcs
                    have HK : Hid (d = (stk L).length ∧ k = f.mem.length ∧ t = d + k ∧ (stk (L ++ [f])).length = t ∧ stk (L ++ [f]) = stk L ++ f.mem ∧ (stk L ++ f.mem).Nodup ∧ f.mem = f.v :: mm ∧ t ≤ cs ∧ cs ≤ maxLen) := ⟨hd, hk, ht, hlen, hsk, hnd, hmm, hcs, hcs2⟩
                    have HAT : Hid (∀ (i x : Nat), (stk (L ++ [f]))[i]? = some x → i < t → wc.cell? ⟨gs, i, none⟩ = some (.int .i64 (x : Int))) := fun i x hx hi => int_cell SC.out.cf.st (by rw [HK.out.2.2.2.1]; exact hi) hx
                    have hdt : d < t := by omega
                    clear hd hk ht hlen hsk hnd hmm hcs hcs2 hgs
                    go_upto_region 28 with fail
                    go_quiet (fail)
                    obtain ⟨r2, rfl⟩ : ∃ r2 : Nat, r2 = nq := ⟨_, rfl⟩
                    obtain ⟨W5, hW5⟩ : ∃ W5, W5 = wc.drewN r2 := ⟨_, rfl⟩
                    rw [← hW5]
                    have S5 : Hid (Sr w N n rb nb fE U R0 W5 V.idx (lowP V L f.v) (fun i => decide (i ∈ stk (L ++ [f])) && !decide (i ∈ f.mem.take 0)) (stk (L ++ [f])) (nxt adj L) (frs adj 0 L) m V.cnt V.nx (asked V) V.comps Q hS hN hP (.slice (some ⟨gs, 0, none⟩) (stk (L ++ [f])).length cs) (.slice an s cn) (.slice (some ⟨g, 0, none⟩) m cp)) := by
                      rw [hW5]
                      exact (SC.out.drewN hUU.out.1 r2).congr rfl rfl (by simp) rfl rfl rfl rfl rfl rfl rfl rfl
                    have HAT5 : Hid (∀ (i x : Nat), (stk (L ++ [f]))[i]? = some x → i < t → W5.cell? ⟨gs, i, none⟩ = some (.int .i64 (x : Int))) := fun i x hx hi => int_cell S5.out.cf.st (by rw [HK.out.2.2.2.1]; exact hi) hx
                    clear hW5 SC l0 l1 m0 m1 i0 i1 x0 x1 HAT hdr2
                    obtain ⟨s0, s1⟩ := S5.out.cf.st.box
                    rw [HK.out.2.2.2.1] at s0
                    have hsL := fun W => sliceL27 gs t cs d (by omega) HK.out.2.2.2.2.2.2.2.1 (by have := HK.out.2.2.2.2.2.2.2.1; omega) W
                    have htd : t - d = k := by have := HK.out.2.2.1; omega
                    simp only [htd] at hsL
                    go_wp2
                    go_loopw [22] (fun i wi => ∃ ii : Nat, i = .int .i64 (ii : Int) ∧ d ≤ ii ∧ ii < t ∧ Hid (wi = W5)) (fun i _ => (intOf i).toNat)
                    case atStart => exact ⟨t - 1, congrArg (Value.int .i64) (by omega), by omega, by omega, rfl⟩
                    case round =>
                      obtain ⟨ii, rfl, h1, h2, HW⟩ := hrel
                      obtain rfl : wr = W5 := HW.out
                      clear HW
                      by_cases hid : ii = d
                      · subst hid
                        have cD : wr.cell? ⟨gs, ii, none⟩ = some (.int .i64 (f.v : Int)) := HAT5.out ii f.v (by
                          rw [HK.out.2.2.2.2.1, HK.out.1, List.getElem?_append_right (Nat.le_refl _), HK.out.2.2.2.2.2.2.1]; simp) h2
                        have hne0 : (((f.v : Nat) : Int) != ((f.v : Nat) : Int)) = false := by simp
                        go_wp2
                        clear cD hne0 s0 s1
                        obtain ⟨wp, rfl⟩ : ∃ wp : World, wp = wr := ⟨_, rfl⟩
                        go_loopw [169] (fun j wj => ∃ jj : Nat, j = .int .i64 (jj : Int) ∧ jj ≤ k ∧ Hid (Sr w N n rb nb fE U R0 wj V.idx (lowP V L f.v) (fun i => decide (i ∈ stk (L ++ [f])) && !decide (i ∈ f.mem.take jj)) (stk (L ++ [f])) (nxt adj L) (frs adj 0 L) m V.cnt V.nx (asked V) V.comps Q hS hN hP (.slice (some ⟨gs, 0, none⟩) (stk (L ++ [f])).length cs) (.slice an s cn) (.slice (some ⟨g, 0, none⟩) m cp))) (fun j _ => k - (intOf j).toNat)
                        case atStart => exact ⟨0, rfl, by omega, S5.out⟩
                        case round =>
                          obtain ⟨jj, rfl, hjk, SJ⟩ := hrel
                          by_cases hj : jj < k
                          · obtain ⟨y, hy⟩ : ∃ y, f.mem[jj]? = some y := ⟨_, List.getElem?_eq_getElem (by rw [← HK.out.2.1]; exact hj)⟩
                            have hys : (stk (L ++ [f]))[ii + jj]? = some y := by
                              rw [HK.out.2.2.2.2.1, HK.out.1, List.getElem?_append_right (by omega), Nat.add_sub_cancel_left]; exact hy
                            have hyn : y < n := HI.out.rng y ((HI.out.dom y).2 (.inl (by rw [HVF.out]; exact List.mem_of_getElem? hys)))
                            have cJ : wr.cell? ⟨gs, ii + jj, none⟩ = some (.int .i64 (y : Int)) := int_cell SJ.out.cf.st (by rw [HK.out.2.2.2.1]; have := HK.out.2.2.1; omega) hys
                            obtain ⟨o0, o1⟩ := SJ.out.cf.onB
                            obtain ⟨y0, y1⟩ := SJ.out.cf.onA y hyn
                            have HY : Hid (f.mem[jj]? = some y) := hy
                            have hjk' : (jj : Int) < (k : Int) := by omega
                            clear hy hys
                            go_wp2
                            go_roundw
                            case rel =>
                              refine ⟨jj + 1, by go_num, by omega, ?_⟩
                              have h3 := SJ.out.setOn hUU.out.1 hyn false
                              refine h3.congr rfl rfl ?_ rfl rfl rfl rfl rfl rfl rfl rfl
                              funext i
                              rw [List.take_add_one, HY.out]
                              by_cases e : i = y <;> simp [e]
                            case measure => simp [intOf]; omega
                          · obtain rfl : jj = k := by omega
                            obtain ⟨s0, s1⟩ := SJ.out.cf.st.box
                            rw [HK.out.2.2.2.1] at s0
                            have HST : Hid (stepT adj n V = popT V L f) := HST
                            have S6 : Hid (Sr w N n rb nb fE U R0 wr V.idx (lowP V L f.v) (fun i => decide (i ∈ stk L)) (stk (L ++ [f])) (nxt adj L) (frs adj 0 L) m V.cnt V.nx (asked V) V.comps Q hS hN hP (.slice (some ⟨gs, 0, none⟩) (stk (L ++ [f])).length cs) (.slice an s cn) (.slice (some ⟨g, 0, none⟩) m cp)) := by
                              refine SJ.out.congr rfl rfl ?_ rfl rfl rfl rfl rfl rfl rfl rfl
                              rw [HK.out.2.1, List.take_length, HK.out.2.2.2.2.1]
                              exact on_clear HK.out.2.2.2.2.2.1
                            have hgsb : Hid (hS = some gs) := S6.out.cf.st.blk.symm
                            clear SJ
                            go_wp2_with fail
                            refine (hUU.out.2.2.2.1 wr (asked V) V.comps Q gs ii jj (cs - ii) f.mem S6.out.u (fun hq => S6.out.ap gs hq (.inr (.inl hgsb.out))) (S6.out.cf.ownLt (.inr (.inl hgsb.out))).2 (by omega) HK.out.2.1 (by have := HK.out.2.2.1; omega) (by have := HI.out.compLen; omega) (fun j x hx => by
                              have hjl : j < f.mem.length := (List.getElem?_eq_some_iff.1 hx).1
                              exact int_cell S6.out.cf.st (by rw [HK.out.2.2.2.1]; have := HK.out; omega) (by rw [HK.out.2.2.2.2.1, HK.out.1, List.getElem?_append_right (by omega), Nat.add_sub_cancel_left]; exact hx))).mono ?_
                            rintro e7 W7 ⟨rfl, R', hu7, hR7, hk7⟩
                            have S7 : Hid (Sr w N n rb nb fE U R0 W7 V.idx (lowP V L f.v) (fun i => decide (i ∈ stk L)) (stk (L ++ [f])) (nxt adj L) (frs adj 0 L) m V.cnt V.nx (asked V) (V.comps ++ [f.mem]) R' hS hN hP (.slice (some ⟨gs, 0, none⟩) (stk (L ++ [f])).length cs) (.slice an s cn) (.slice (some ⟨g, 0, none⟩) m cp)) := S6.out.found hu7 hR7 hk7
                            have hst : stepT adj n V = { V with low := lowP V L f.v, fr := L, comps := V.comps ++ [f.mem] } := by rw [HST.out, popT, lowP_self, if_pos hroot]
                            have HST2 : Hid (stepT adj n V = { V with low := lowP V L f.v, fr := L, comps := V.comps ++ [f.mem] }) := hst
                            clear hu7 hR7 hk7 S6 s0 s1 hst
                            obtain ⟨s0, s1⟩ := S7.out.cf.st.box
                            rw [HK.out.2.2.2.1] at s0
                            cases hb : cont (V.comps ++ [f.mem]) with
                            | true =>
                              have hsH := fun W => sliceH27 (a := some ⟨gs, 0, none⟩) (fun ad hd => ⟨gs, by injection hd with hd; exact hd.symm⟩) t cs ii (by have := HK.out.2.2.2.2.2.2.2.1; omega) W
                              have HCB : Hid (cont (V.comps ++ [f.mem]) = true) := hb
                              clear hb
                              go_wp2
                              obtain ⟨W8, hW8⟩ : ∃ W8, W8 = W7.setCell ⟨N + 7, 0, none⟩ (.slice (some ⟨gs, 0, none⟩) ii cs) := ⟨_, rfl⟩
                              rw [← hW8]
                              have O8 : Hid (Ok w N n rb nb fE adj U R0 cont W8 (stepT adj n V) R' hS hN hP (.slice (some ⟨gs, 0, none⟩) ii cs) (.slice an s cn) (.slice (some ⟨g, 0, none⟩) m cp)) := by
                                rw [HST2.out]
                                obtain ⟨q, hq⟩ := HO.out.2.1
                                refine ⟨?_, ⟨q + 1, by rw [← HST2.out, hq]; rfl⟩, ?_⟩
                                · have h3 := S7.out.takeS hUU.out.1 (j := ii) (by rw [HK.out.2.2.2.1]; omega)
                                  rw [hW8]
                                  exact h3.congr rfl rfl rfl (by rw [HK.out.2.2.2.2.1, HK.out.1]; simp) rfl rfl HM.out rfl rfl rfl rfl
                                · intro q h1 h2
                                  simp only [List.length_append, List.length_cons, List.length_nil] at h2
                                  by_cases hq : q ≤ V.comps.length
                                  · simp only [List.take_append_of_le_length hq]
                                    exact HO.out.2.2 q h1 hq
                                  · rw [List.take_of_length_le (by simp; omega)]; exact HCB.out
                              clear hW8
                              go_roundw
                              case rel => exact ⟨stepT adj n V, R', _, _, _, _, _, _, by unfold Hid; rw [step_nx HVF.out]; exact HVX.out, O8.out⟩
                              case measure =>
                                have h1 := in_le (x := v + 1) (by rw [step_nx HVF.out]; exact HVX.out) O8.out
                                have h2 := meas_step hUU.out.2.2.2.2.1 hUU.out.2.2.2.2.2 HI.out HVF.out
                                have h3 := HMQ.out
                                omega
                            | false =>
                              have HCB : Hid (cont (V.comps ++ [f.mem]) = false) := hb
                              clear hb
                              go_wp2
                              (try simp only [Exit.inBlock, Exit.then])
                              refine bodyPost_ret (results_none rfl _ _ _) rfl ?_
                              refine ⟨rfl, stepT adj n V, R', ?_, ?_, ?_, ?_, .inr ⟨?_, ?_, ?_⟩⟩
                              · obtain ⟨q, hq⟩ := HO.out.2.1
                                exact ⟨q + 1, by rw [hq]; rfl⟩
                              · rw [HST2.out]; exact S7.out.u
                              · rw [← HN.out]; exact S7.out.kp
                              · rw [← HN.out]; exact S7.out.sub
                              · rw [HST2.out]; simp
                              · rw [HST2.out]; exact HCB.out
                              · rw [HST2.out]
                                intro q h1 h2
                                simp only [List.length_append, List.length_cons, List.length_nil] at h2
                                simp only [List.take_append_of_le_length (show q ≤ V.comps.length by omega)]
                                exact HO.out.2.2 q h1 (by omega)
                      · obtain ⟨y, hy⟩ : ∃ y, (stk (L ++ [f]))[ii]? = some y := ⟨_, List.getElem?_eq_getElem (by rw [HK.out.2.2.2.1]; exact h2)⟩
                        have cD : wr.cell? ⟨gs, ii, none⟩ = some (.int .i64 (y : Int)) := HAT5.out ii y hy h2
                        have hyv : y ≠ f.v := by
                          intro e
                          have h3 := HK.out.2.2.2.2.2.1
                          have h4 : (stk (L ++ [f]))[d]? = some f.v := by
                            rw [HK.out.2.2.2.2.1, HK.out.1, List.getElem?_append_right (Nat.le_refl _), HK.out.2.2.2.2.2.2.1]; simp
                          rw [← HK.out.2.2.2.2.1] at h3
                          rw [← e] at h4
                          exact hid ((List.getElem?_inj (by rw [HK.out.2.2.2.1]; exact h2) h3).1 (hy.trans h4.symm))
                        have hne0 : ¬ ((y : Nat) : Int) = ((f.v : Nat) : Int) := by omega
                        clear hy hyv
                        go_wp2
                        go_roundw
                        case rel => exact ⟨ii - 1, congrArg (Value.int .i64) (by omega), by omega, by omega, trivial⟩
                        case measure => simp [intOf]; omega
                · as_aux_lemma =>
                    have hdr : decide (((V.low f.v : Nat) : Int) = ((V.idx f.v : Nat) : Int)) = false := by simp; omega
                    have hdr2 : (((V.low f.v : Nat) : Int) == ((V.idx f.v : Nat) : Int)) = false := by simp; omega
                    go_upto_region 28 with fail
                    go_quiet (fail)
                    obtain ⟨r2, rfl⟩ : ∃ r2 : Nat, r2 = nq := ⟨_, rfl⟩
                    obtain ⟨W5, hW5⟩ : ∃ W5, W5 = wc.drewN r2 := ⟨_, rfl⟩
                    rw [← hW5]
                    have O5 : Hid (Ok w N n rb nb fE adj U R0 cont W5 (stepT adj n V) Q hS hN hP uS (.slice an s cn) (.slice (some ⟨g, 0, none⟩) m cp)) := by
                      have hst : stepT adj n V = { V with low := lowP V L f.v, fr := merge L f.mem } := by rw [HST.out, popT, lowP_self, if_neg hroot]
                      have hLne : L ≠ [] := fun e => hroot (pop_root HI.out (by rw [HVF.out, e]; rfl))
                      obtain ⟨g1, g2, g3, g4⟩ := merge_facts adj L f.mem hLne
                      rw [hst]
                      obtain ⟨k, hk⟩ := HO.out.2.1
                      refine ⟨?_, ⟨k + 1, by rw [← hst, hk]; rfl⟩, HO.out.2.2⟩
                      have h3 := SC.out.drewN hUU.out.1 r2
                      rw [hW5]
                      exact h3.congr rfl rfl (by simp only [g1, stk_append, stk_one]) (by simp only [g1, stk_append, stk_one]) g2.symm (g3 0).symm (HM.out.trans g4.symm) rfl rfl rfl rfl
                    clear hW5
                    go_wp2
                    go_roundw
                    case rel => exact ⟨stepT adj n V, Q, _, _, _, _, _, _, by unfold Hid; rw [step_nx HVF.out]; exact HVX.out, O5.out⟩
                    case measure =>
                      have h1 := in_le (x := v + 1) (by rw [step_nx HVF.out]; exact HVX.out) O5.out
                      have h2 := meas_step hUU.out.2.2.2.2.1 hUU.out.2.2.2.2.2 HI.out HVF.out
                      have h3 := HMQ.out
                      omega
      · have hz : ¬ ((T.idx v : Nat) : Int) = 0 := by omega
        go_wp2
        go_roundw
        case rel =>
          refine ⟨{ T with nx := T.nx + 1 }, R, gS, gN, gP, vS, vN, vP, HFR.out, S1.out, ?_, HT.out.2.2⟩
          obtain ⟨k, hk⟩ := HT.out.2.1
          refine ⟨k + 1, ?_⟩
          show _ = stepT adj n (iterT adj n k)
          rw [← hk, stepT_nil HFR.out, rootT, if_pos (by rw [← HV.out]; exact hx), if_neg (by rw [← HV.out]; exact h0)]
        case measure =>
          have h1 := out_le (w := W1) (T := { T with nx := T.nx + 1 }) HFR.out ⟨S1.out, by
            obtain ⟨k, hk⟩ := HT.out.2.1
            refine ⟨k + 1, ?_⟩
            show _ = stepT adj n (iterT adj n k)
            rw [← hk, stepT_nil HFR.out, rootT, if_pos (by rw [← HV.out]; exact hx), if_neg (by rw [← HV.out]; exact h0)], HT.out.2.2⟩
          have h2 := hmq.out
          have h4 := HV.out
          simp only at h1
          omega
    · obtain rfl : v = n := by have := HI.out.nxl; have := HV.out; omega
      go_wp2_with fail
      refine (root_end rb nb v wr (by have := HT.out.1.rbx; rw [← HV.out] at this; exact this) HT.out.1.nbx).mono ?_
      rintro e1 W1 ⟨rfl, hW1⟩
      subst hW1
      go_wp2
      (try simp only [Exit.inBlock, Exit.then])
      refine bodyPost_ret (results_none rfl _ _ _) rfl ?_
      refine ⟨rfl, T, R, HT.out.2.1, HT.out.1.u, ?_, ?_, .inl ⟨HFR.out, HV.out.symm, HT.out.2.2⟩⟩
      · rw [← HN.out]; exact HT.out.1.kp
      · rw [← HN.out]; exact HT.out.1.sub
end Go.Proofs.Ybulkblzg
