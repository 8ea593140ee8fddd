import Derived.Test.YbulkblzgN
import Derived.Test.YbulkblzgS1
import Derived.Test.YbulkblzgS2
namespace Go.Proofs.Ybulkblzg
open Go.RowKit
set_option linter.unusedVariables false
set_option linter.unusedSimpArgs false

theorem enter18 : ∀ (args : Array Value) (w : World), (callFunc 18 args).run Yba.prog w = .ok (.enter 18 args) w := fun args w => by kernel_rfl
theorem enter19 : ∀ (args : Array Value) (w : World), (callFunc 19 args).run Yba.prog w = .ok (.enter 19 args) w := fun args w => by kernel_rfl
theorem enter20 : ∀ (args : Array Value) (w : World), (callFunc 20 args).run Yba.prog w = .ok (.enter 20 args) w := fun args w => by kernel_rfl

/-- The answers as they are read. -/
structure CRead (w : World) (lim bk : Nat) (X : List (List Nat)) (ka : Option Addr) (kc : Nat) : Prop where
  kb : w.cell? ⟨bk, 0, none⟩ = some (.slice ka X.length kc)
  rows : ∀ (i : Nat) (c : List Nat), X[i]? = some c → ∃ gk g q, ka = some ⟨gk, 0, none⟩ ∧ gk < lim ∧ g < lim ∧ w.cell? ⟨gk, i, none⟩ = some (.slice (some ⟨g, 0, none⟩) c.length q) ∧ ∀ (j x : Nat), c[j]? = some x → w.cell? ⟨g, j, none⟩ = some (.int .i64 (x : Int))
  lt : bk < lim
theorem CRead.below {w w' : World} {lim bk : Nat} {X : List (List Nat)} {ka : Option Addr} {kc : Nat} (h : CRead w lim bk X ka kc) (hb : Below lim w w') : CRead w' lim bk X ka kc := by
  refine ⟨by rw [hb.cell (by exact h.lt)]; exact h.kb, fun i c hc => ?_, h.lt⟩
  obtain ⟨gk, g, q, e1, e2, e3, e4, e5⟩ := h.rows i c hc
  exact ⟨gk, g, q, e1, e2, e3, by rw [hb.cell (by exact e2)]; exact e4, fun j x hx => by rw [hb.cell (by exact e3)]; exact e5 j x hx⟩
theorem comps_read {w : World} {B bk : Nat} {X : List (List Nat)} {R : Nat → Prop} {v : Value} (h : IsComps w B bk X R v) : ∃ ka kc, CRead w w.heap.size bk X ka kc := by
  obtain ⟨vs, hvs, hvr⟩ := h.rows
  obtain ⟨ka, kc, hv, _, _, hka, hkz⟩ := row_form hvs
  refine ⟨ka, kc, by rw [h.box.1, hv], fun i c hc => ?_, h.box.lt⟩
  obtain ⟨g, q, e1, e2, e3, e4⟩ := hvr i c hc
  have hil : i < X.length := (List.getElem?_eq_some_iff.1 hc).1
  cases ka with
  | none => have := (hkz rfl).1; omega
  | some ad =>
    obtain ⟨gk, rfl, _, hgk⟩ := hka ad rfl
    rw [hv] at hvs
    refine ⟨gk, g, q, rfl, hgk, (h.lt g e2).2, ?_, e4⟩
    rw [hvs.cellAt i (by omega)]; exact e1

theorem us_start {w3 w4 : World} {hi aa n : Nat} {adj : Nat → List Nat} {bn ba bl : Nat} {lv : Value} {bk : Nat} (hA : IsAdj w3 hi aa n adj) (hbn : Box w3 bn (.int .i64 (n : Int))) (hba : Box w3 ba (.slice (some ⟨aa, 0, none⟩) n n)) (hbl : Box w3 bl lv)
    (hbk : bk = w3.heap.size) (hw : w4 = w3.alloc (.cells #[.slice none 0 0] 39)) : US w4 hi aa n adj bn ba bl lv (bk + 1) bk w4 (fun _ => 0) [] (fun j => j < bk + 1 ∨ False) := by
  have hl1 := hbn.lt
  have hl2 := hba.lt
  have hl3 := hbl.lt
  have hhi := hA.le
  have hk : Keeps (fun _ => False) w3 w4 := by rw [hw]; exact (Keeps.refl _ _).alloc _
  have nf : ¬ False := fun h => h
  have b4 : Box w4 bk (.slice none 0 0) := by rw [hw, hbk]; exact box_new _ _ _
  have s7 : w4.heap.size = bk + 1 := by rw [hw, hbk]; simp
  exact ⟨hA.keep hk (fun j hj => hj.elim), hbn.keep hk nf, hba.keep hk nf, hbl.keep hk nf,
    ⟨.slice none 0 0, fun _ => False, ⟨b4, by omega, by omega, ⟨[], World.ownsRow_nil _ _ _ _, by simp⟩, by simp [Value.ownBlock], fun j hj => hj.elim⟩, fun j => Iff.rfl⟩, Keeps.refl _ _, by
      refine ⟨?_, ?_, ?_, ?_, ?_, ?_, ?_, ?_, ?_⟩ <;> omega⟩

set_option maxRecDepth 100000 in
set_option maxHeartbeats 2000000 in
theorem law6_small (n : Nat) (a : Option Addr) (m cp st : Nat) (E : List (Nat × Nat)) (w : World) (hn : n ≤ 256) (hm : m ≤ 1024) (hst : st < 256) (hE : IsEs w a m E) :
    Calls Yba.prog 6 #[.int .i64 (n : Int), .slice a m cp, .int .u8 (st : Int)] w fun e w' => e = .returned (.bool true) ∧ Below w.heap.size w w' := by
  have HE : Hid (IsEs w a m E) := hE
  obtain ⟨adj, hadj⟩ : ∃ adj, adj = adjE n E := ⟨_, rfl⟩
  have HAD : Hid (adj = adjE n E ∧ (∀ v, v < n → ∀ x ∈ adj v, x < n) ∧ (∀ v, v < n → (adj v).length ≤ 1024)) := by rw [hadj]; exact ⟨rfl, adj_rng n E, adj_deg n m E hE.1 hm⟩
  clear hE hadj
  obtain ⟨N, hN⟩ : ∃ N, N = w.heap.size := ⟨_, rfl⟩
  have HN : Hid (N = w.heap.size) := hN
  have HBA : Hid (Below N w (w.alloc (.cells #[.int .i64 (n : Int)] 3)) ∧ Box (w.alloc (.cells #[.int .i64 (n : Int)] 3)) N (.int .i64 (n : Int))) := by
    rw [hN]; exact ⟨(Below.refl _ _).alloc (Nat.le_refl _) _, box_new _ _ _⟩
  clear hN
  have h1 : decide ((n : Int) < 0) = false := by simp
  have h2 : decide ((256 : Int) < (n : Int)) = false := by simp; omega
  have h2' : decide (256 < n) = false := by simp; omega
  have h3 : decide ((1024 : Int) < (m : Int)) = false := by simp; omega
  have h3' : decide (1024 < m) = false := by simp; omega
  go_enter Yba.func6, Yba.ntmps6
  go_wp2_with fail
  refine (graph_any n a m cp E _ hn hm (HE.out.below (by rw [← HN.out]; exact HBA.out.1))).mono ?_
  rintro e w1 ⟨rfl, hA1, hb1, hs1⟩
  simp only [World.size_alloc] at hA1 hb1 hs1 ⊢
  rw [← HAD.out.1] at hA1
  rw [← HN.out] at hA1 hb1 hs1 ⊢
  obtain ⟨hi, hhi⟩ : ∃ hi, hi = w1.heap.size := ⟨_, rfl⟩
  rw [← hhi] at hA1 hs1
  have B1 : Hid (Below N w w1 ∧ N + 1 < hi ∧ Box w1 N (.int .i64 (n : Int))) := ⟨HBA.out.1.trans (hb1.mono (by omega)), hs1, HBA.out.2.same (hb1.block N (by omega))⟩
  have A1 : Hid (IsAdj w1 hi (N + 1) n adj) := hA1
  have W2 : Hid (IsAdj (w1.alloc (.cells #[.slice (some ⟨N + 1, 0, none⟩) n n] 39)) hi (N + 1) n adj ∧ Box (w1.alloc (.cells #[.slice (some ⟨N + 1, 0, none⟩) n n] 39)) hi (.slice (some ⟨N + 1, 0, none⟩) n n) ∧ Box (w1.alloc (.cells #[.slice (some ⟨N + 1, 0, none⟩) n n] 39)) N (.int .i64 (n : Int)) ∧ Below N w (w1.alloc (.cells #[.slice (some ⟨N + 1, 0, none⟩) n n] 39))) := by
    refine ⟨hA1.keep ((Keeps.refl (fun _ => False) w1).alloc _) (fun j h => h.elim), by rw [hhi]; exact box_new _ _ _, B1.out.2.2.alloc _, B1.out.1.alloc (by omega) _⟩
  have HHI : Hid (hi = w1.heap.size) := hhi
  obtain ⟨bn0, bn1⟩ := B1.out.2.2
  clear hA1 hb1 hs1 h1 h2 h2' h3 h3' hhi
  go_upto_region 4 with fail
  obtain ⟨w2, hw2⟩ : ∃ w2, w2 = w1.alloc (.cells #[.slice (some ⟨N + 1, 0, none⟩) n n] 39) := ⟨_, rfl⟩
  rw [← hw2]
  have W2 := W2
  rw [← hw2] at W2
  rw [← HHI.out]
  have S2 : Hid (w2.heap.size = hi + 1) := by rw [hw2, HHI.out]; unfold Hid; simp
  clear hw2 bn0 bn1
  obtain ⟨ab0, ab1⟩ := W2.out.2.1
  go_wp2_with fail
  refine (reachm_any (N + 1) n hi adj w2 W2.out.1 hn HAD.out.2.1 HAD.out.2.2).mono ?_
  rintro e w3 ⟨rfl, hR3, hb3, hs3⟩
  rw [S2.out] at hR3 hb3 hs3 ⊢
  obtain ⟨b1, hb1'⟩ : ∃ b1, b1 = w3.heap.size := ⟨_, rfl⟩
  rw [← hb1'] at hR3 hs3
  have W3 : Hid (IsAdj w3 hi (N + 1) n adj ∧ IsReach w3 b1 (hi + 1) n adj ∧ Box w3 N (.int .i64 (n : Int)) ∧ Box w3 hi (.slice (some ⟨N + 1, 0, none⟩) n n) ∧ Below N w w3 ∧ N + 1 < hi ∧ hi + 1 < b1 ∧ b1 = w3.heap.size) :=
    ⟨W2.out.1.below (hb3.mono (by omega)), hR3, W2.out.2.2.1.same (hb3.block N (by have := B1.out.2.1; omega)), W2.out.2.1.same (hb3.block hi (by omega)), W2.out.2.2.2.trans (hb3.mono (by have := B1.out.2.1; omega)), B1.out.2.1, hs3, hb1'⟩
  clear hR3 hb3 hs3 ab0 ab1 hb1' W2 S2 A1 B1 HBA
  obtain ⟨bn0, bn1⟩ := W3.out.2.2.1
  go_wp2
  go_loopw [9, 10] (fun s9 s10 wr => ∃ v : Nat, s10 = .int .i64 (v : Int) ∧ v ≤ n ∧ s9 = .int .i64 (firsts adj v : Int) ∧ Hid (wr = w3)) (fun _ s10 _ => n - (intOf s10).toNat)
  case atStart => exact ⟨0, rfl, by omega, rfl, rfl⟩
  case round =>
    obtain ⟨v, rfl, hvn, rfl, HWE⟩ := hrel
    obtain rfl : wr = w3 := HWE.out
    clear HWE
    obtain ⟨tt, htt⟩ : ∃ tt, tt = firsts adj v := ⟨_, rfl⟩
    have HTT : Hid (tt = firsts adj v) := htt
    have htb : tt ≤ 256 := by rw [htt]; exact Nat.le_trans (firsts_le adj v) (by omega)
    rw [← htt]
    clear htt
    by_cases hlt : v < n
    · have hlt' : (v : Int) < (n : Int) := by omega
      have hdl : decide ((v : Int) < (n : Int)) = true := by simp; omega
      have hdl2 : decide (v < n) = true := by simp; omega
      go_wp2
      obtain ⟨wo, rfl⟩ : ∃ wo : World, wo = wr := ⟨_, rfl⟩
      go_loopw [11, 12] (fun s11 s12 wj => ∃ u : Nat, s12 = .int .i64 (u : Int) ∧ u ≤ v ∧ s11 = .bool true ∧ Hid ((∀ x, x < u → ¬ (Rch adj x v ∧ Rch adj v x)) ∧ wj = wo)) (fun _ s12 _ => v - (intOf s12).toNat)
      case atStart => exact ⟨0, rfl, by omega, rfl, fun x hx => by omega, rfl⟩
      case round =>
        obtain ⟨u, rfl, huv, rfl, HU⟩ := hrel
        obtain rfl : wr = wo := HU.out.2
        have HNO : Hid (∀ x, x < u → ¬ (Rch adj x v ∧ Rch adj v x)) := HU.out.1
        clear HU
        by_cases hu : u < v
        · obtain ⟨gu, t0, -, fu, t1, t2⟩ := W3.out.2.1.rows u (by omega)
          obtain ⟨gv, t3, -, fv, t4, t5⟩ := W3.out.2.1.rows v hlt
          have t6 := t1 v hlt
          have t7 := t4 u (by omega)
          have HQ : Hid ((fu v = true ↔ Rch adj u v) ∧ (fv u = true ↔ Rch adj v u)) := ⟨t2 v hlt, t5 u (by omega)⟩
          have hun : u < n := by omega
          have hu' : (u : Int) < (v : Int) := by omega
          clear t1 t2 t4 t5
          cases hb1 : fu v with
          | false =>
            rw [hb1] at HQ t6
            clear hb1
            go_wp2
            go_roundw
            case rel =>
              refine ⟨u + 1, by go_num, by omega, rfl, fun x hx => ?_, trivial⟩
              by_cases e : x = u
              · subst e
                rintro ⟨e1, e2⟩
                have := HQ.out.1.2 e1
                cases this
              · exact HNO.out x (by omega)
            case measure => simp [intOf]; omega
          | true =>
            cases hb2 : fv u with
            | false =>
              rw [hb1, hb2] at HQ
              rw [hb1] at t6
              rw [hb2] at t7
              clear hb1 hb2
              go_wp2
              go_roundw
              case rel =>
                refine ⟨u + 1, by go_num, by omega, rfl, fun x hx => ?_, trivial⟩
                by_cases e : x = u
                · subst e
                  rintro ⟨e1, e2⟩
                  have := HQ.out.2.2 e2
                  cases this
                · exact HNO.out x (by omega)
              case measure => simp [intOf]; omega
            | true =>
              rw [hb1, hb2] at HQ
              rw [hb1] at t6
              rw [hb2] at t7
              clear hb1 hb2
              have hfs : firsts adj (v + 1) = tt := by
                simp only [firsts]
                rw [if_pos ⟨u, hu, HQ.out.1.1 rfl, HQ.out.2.1 rfl⟩, HTT.out]; rfl
              have HFS : Hid (firsts adj (v + 1) = tt) := hfs
              clear hfs
              go_wp2
              go_roundw
              case rel => exact ⟨v + 1, by go_num, by omega, by rw [HFS.out], trivial⟩
              case measure => simp [intOf]; omega
        · obtain rfl : u = v := by omega
          have hfs : firsts adj (u + 1) = tt + 1 := by
            simp only [firsts]
            rw [if_neg (by rintro ⟨x, hx, hr⟩; exact HNO.out x hx hr), HTT.out]
          have HFS : Hid (firsts adj (u + 1) = tt + 1) := hfs
          clear hfs
          go_wp2
          go_roundw
          case rel => exact ⟨u + 1, by go_num, by omega, by rw [HFS.out]; go_num, trivial⟩
          case measure => simp [intOf]; omega
    · obtain rfl : v = n := by omega
      clear hlt hvn
      have U4 : Hid (∀ w4, w4 = wr.alloc (.cells #[.slice none 0 0] 39) → US w4 hi (N + 1) v adj N hi N (.int .i64 (v : Int)) (b1 + 1) b1 w4 (fun _ => 0) [] (fun j => j < b1 + 1 ∨ False)) :=
        fun w4 hw => us_start W3.out.1 W3.out.2.2.1 W3.out.2.2.2.1 W3.out.2.2.1 W3.out.2.2.2.2.2.2.2 hw
      go_upto_region 19 with fail
      rw [← W3.out.2.2.2.2.2.2.2]
      obtain ⟨w4, hw4⟩ : ∃ w4, w4 = wr.alloc (.cells #[.slice none 0 0] 39) := ⟨_, rfl⟩
      rw [← hw4]
      have U5 := U4.out w4 hw4
      have U6 : Hid (US w4 hi (N + 1) v adj N hi N (.int .i64 (v : Int)) (b1 + 1) b1 w4 (fun _ => 0) [] (fun j => j < b1 + 1 ∨ False)) := U5
      have R4 : Hid (Below N w w4 ∧ b1 + 1 = w4.heap.size) := by
        refine ⟨W3.out.2.2.2.2.1.trans ?_, by rw [hw4]; have := W3.out.2.2.2.2.2.2.2; simp; omega⟩
        rw [hw4]
        exact ((Below.refl _ wr).alloc (Nat.le_refl _) _).mono (by have := W3.out; omega)
      clear U4 U5 hw4 bn0 bn1
      obtain ⟨bn0, bn1⟩ := U6.out.nn
      go_wp2_with fail
      refine (comps_any 18 _ 19 _ v adj (US w4 hi (N + 1) v adj N hi N (.int .i64 (v : Int)) (b1 + 1) b1) (fun _ => true) (US.ukeep _ _ _ _ _ _ _ _ _ _ _) (US.ult _ _ _ _ _ _ _ _ _ _ _) (edges_ok2 _ _ _ _ _ _ _ _ _ _ _ hn HAD.out.2.2) enter18 (found_ok2 _ _ _ _ _ _ _ _ _ _ _) enter19 HAD.out.2.1 HAD.out.2.2 hn _ w4 U6.out).mono ?_
      rintro e w5 ⟨rfl, T, R, ⟨k, hk⟩, hU5, hk5, hR5, hend⟩
      have hTI : TInv adj v T := by rw [hk]; exact inv_iter HAD.out.2.1 k
      have hfin : T.fr = [] ∧ T.nx = v := by
        rcases hend with h | h
        · exact ⟨h.1, h.2.1⟩
        · exact absurd h.2.1 (by simp)
      have hPT : Parts adj v T.comps := parts_of hTI hfin.1 hfin.2
      have hlen : T.comps.length = tt := by rw [HTT.out]; exact (firsts_eq hPT HAD.out.2.1).symm
      have HT : Hid (T = iterT adj v k ∧ T.fr = [] ∧ T.nx = v ∧ T.comps.length = tt) := ⟨hk, hfin.1, hfin.2, hlen⟩
      obtain ⟨v9, R9, hC9, hR9⟩ := hU5.comps
      obtain ⟨ka, kc, hcr⟩ := comps_read hC9
      have HCR : Hid (CRead w5 w5.heap.size b1 T.comps ka kc) := hcr
      have B5 : Hid (Below N w w5 ∧ N < w5.heap.size ∧ IsAdj w5 hi (N + 1) v adj ∧ Box w5 N (.int .i64 (v : Int)) ∧ Box w5 hi (.slice (some ⟨N + 1, 0, none⟩) v v)) := by
        refine ⟨R4.out.1.trans (hU5.kp.below (by have := R4.out.2; have := W3.out; omega) (fun j hj => by have := W3.out; omega)), hU5.nn.lt, hU5.ad, hU5.nn, hU5.ab⟩
      have k0 := hcr.kb
      rw [hlen] at k0
      clear hTI hfin hPT hlen hend hU5 hk5 hR5 hC9 hR9 hcr hk bn0 bn1 U6 R4
      obtain ⟨L, hL⟩ : ∃ L, L = st % (tt + 2) := ⟨_, rfl⟩
      have hLt : L < tt + 2 := by rw [hL]; exact Nat.mod_lt _ (by omega)
      have hLm : (st : Int) % ((tt : Int) + 2) = (L : Int) := by
        have h3 : ((tt + 2 : Nat) : Int) = (tt : Int) + 2 := by omega
        rw [hL, ← h3, Int.natCast_emod]
      have htn : ¬ (tt : Int) + 2 = 0 := by omega
      clear hL
      obtain ⟨bn0, bn1⟩ := B5.out.2.2.2.1
      go_upto_region 24 with fail
      obtain ⟨bl, hbl⟩ : ∃ bl, bl = w5.heap.size := ⟨_, rfl⟩
      rw [← hbl]
      obtain ⟨w6, hw6⟩ : ∃ w6, w6 = (w5.alloc (.cells #[.int .i64 (L : Int)] 3)).alloc (.cells #[.slice none 0 0] 39) := ⟨_, rfl⟩
      rw [← hw6]
      have kk : Keeps (fun _ => False) w5 (w5.alloc (.cells #[.int .i64 (L : Int)] 3)) := (Keeps.refl _ _).alloc _
      have nf : ¬ False := fun h => h
      have U6 : Hid (US w6 hi (N + 1) v adj N hi bl (.int .i64 (L : Int)) (bl + 1 + 1) (bl + 1) w6 (fun _ => 0) [] (fun j => j < bl + 1 + 1 ∨ False)) :=
        us_start (B5.out.2.2.1.keep kk (fun j h => h.elim)) (B5.out.2.2.2.1.keep kk nf) (B5.out.2.2.2.2.keep kk nf) (by rw [hbl]; exact box_new _ _ _) (by rw [hbl]; simp) hw6
      have K6 : Hid (Below bl w5 w6 ∧ w6.heap.size = bl + 2) := by
        rw [hw6, hbl]
        exact ⟨((Below.refl _ _).alloc (Nat.le_refl _) _).alloc (by simp) _, by simp⟩
      have HBL : Hid (bl = w5.heap.size) := hbl
      clear hw6 hbl kk nf k0 bn0 bn1 hLm htn
      obtain ⟨bn0, bn1⟩ := U6.out.nn
      go_wp2_with fail
      refine (comps_any 18 _ 20 _ v adj (US w6 hi (N + 1) v adj N hi bl (.int .i64 (L : Int)) (bl + 1 + 1) (bl + 1)) (fun Y => decide (Y.length < L)) (US.ukeep _ _ _ _ _ _ _ _ _ _ _) (US.ult _ _ _ _ _ _ _ _ _ _ _) (edges_ok2 _ _ _ _ _ _ _ _ _ _ _ hn HAD.out.2.2) enter18 (found_ok3 _ _ _ _ _ _ _ _ _ _ _ (by omega)) enter20 HAD.out.2.1 HAD.out.2.2 hn _ w6 U6.out).mono ?_
      rintro e w7 ⟨rfl, T2, R2, ⟨k2, hk2⟩, hU7, hk7, hR7, hend2⟩
      have hw := want_eq HT.out.1 hk2 HT.out.2.1 HT.out.2.2.1 (by rw [HT.out.2.2.2]; omega) hend2
      rw [HT.out.2.2.2] at hw
      have hTI2 : TInv adj v T2 := by rw [hk2]; exact inv_iter HAD.out.2.1 k2
      obtain ⟨X, hX⟩ : ∃ X, X = T.comps := ⟨_, rfl⟩
      obtain ⟨Y, hY⟩ : ∃ Y, Y = T2.comps := ⟨_, rfl⟩
      obtain ⟨v8, R8, hC8, hR8⟩ := hU7.comps
      rw [← hY] at hC8
      obtain ⟨ka2, kc2, hcr2⟩ := comps_read hC8
      have hB7 : Below bl w6 w7 := hU7.kp.below (by have := K6.out.2; omega) (fun j hj => by omega)
      have HW : Hid (Y.length = wantOf L tt ∧ (∃ Z, X = Y ++ Z) ∧ X.length = tt ∧ (∀ c ∈ Y, c.length ≤ 256) ∧ Y.length ≤ 256) := by
        rw [hX, hY]
        refine ⟨hw.1, hw.2, HT.out.2.2.2, fun c hc => ?_, Nat.le_trans hTI2.compLen hn⟩
        have hnd := hTI2.nd
        rw [List.nodup_append] at hnd
        have h4 := nodup_le v c (nodup_mem hnd.2.1 hc) (fun x hx => hTI2.rng x ((hTI2.dom x).2 (.inr (List.mem_flatten.2 ⟨c, hc, hx⟩))))
        omega
      have HB : Hid (Below N w w7) := B5.out.1.trans ((K6.out.1.trans hB7).mono (by have := B5.out.2.1; have := HBL.out; omega))
      have HC1 : Hid (∀ W, Below w7.heap.size w7 W → CRead W bl b1 X ka kc) := by
        intro W hW
        have h3 := HCR.out
        rw [← HBL.out, ← hX] at h3
        exact h3.below ((K6.out.1.trans hB7).trans (hW.mono (by have := K6.out; have := hB7.size; omega)))
      have HC2 : Hid (∀ W, Below w7.heap.size w7 W → CRead W w7.heap.size (bl + 1) Y ka2 kc2) := fun W hW => hcr2.below hW
      have l0 := hU7.lb.1
      clear hw hTI2 hX hY hC8 hR8 hcr2 hB7 hU7 hk7 hR7 hend2 hk2 U6 K6 bn0 bn1 HCR HT
      go_upto_if 85 with fail
      go_cut [17] (fun s17 wx => s17 = .int .i64 (((if L < 1 then 1 else L) : Nat) : Int) ∧ Hid (wx = w7))
      case first =>
        by_cases hc : L < 1
        · have d1 : decide ((L : Int) < 1) = true := by simp; omega
          have d2 : decide (L < 1) = true := by simp; omega
          obtain rfl : L = 0 := by omega
          go_wp2
          go_meet
          case rel => exact ⟨rfl, rfl⟩
        · have d1 : decide ((L : Int) < 1) = false := by simp; omega
          have d2 : decide (L < 1) = false := by simp; omega
          have d3 : ¬ L = 0 := by omega
          go_wp2
          go_meet
          case rel => exact ⟨by rw [if_neg hc], rfl⟩
      case rest =>
        obtain ⟨rfl, HWC⟩ := hcut
        obtain rfl : wc = w7 := HWC.out
        clear HWC l0
        obtain ⟨a1, ha1⟩ : ∃ a1, a1 = (if L < 1 then 1 else L) := ⟨_, rfl⟩
        have HA1 : Hid (a1 = (if L < 1 then 1 else L)) := ha1
        rw [← ha1]
        clear ha1
        go_upto_if 88 with fail
        obtain ⟨wa, rfl⟩ : ∃ wa : World, wa = wc := ⟨_, rfl⟩
        go_cut [17] (fun s17 wx => s17 = .int .i64 (((if a1 > tt then tt else a1) : Nat) : Int) ∧ Hid (wx = wa))
        case first =>
          by_cases hc : a1 > tt
          · have d1 : decide ((tt : Int) < (a1 : Int)) = true := by simp; omega
            have d2 : decide (tt < a1) = true := by simp; omega
            go_wp2
            go_meet
            case rel => exact ⟨by rw [if_pos hc], rfl⟩
          · have d1 : decide ((tt : Int) < (a1 : Int)) = false := by simp; omega
            have d2 : decide (tt < a1) = false := by simp; omega
            go_wp2
            go_meet
            case rel => exact ⟨by rw [if_neg hc], rfl⟩
        case rest =>
          obtain ⟨rfl, HWC⟩ := hcut
          obtain rfl : wc = wa := HWC.out
          clear HWC
          obtain ⟨wn, hwn⟩ : ∃ wn, wn = (if a1 > tt then tt else a1) := ⟨_, rfl⟩
          rw [← hwn]
          have HY : Hid (Y.length = wn ∧ wn ≤ tt) := by
            have h3 := HW.out.1
            have h4 : wantOf L tt = wn := by rw [hwn, HA1.out]; rfl
            refine ⟨h3.trans h4, ?_⟩
            obtain ⟨Z, hZ⟩ := HW.out.2.1
            have h5 := congrArg List.length hZ
            rw [HW.out.2.2.1] at h5
            simp at h5
            omega
          clear hwn HA1
          have k0 := (HC2.out wc (Below.refl _ _)).kb
          rw [HY.out.1] at k0
          have hwnb : wn ≤ 256 := by have := HY.out.2; omega
          have hne0 : ((wn : Int) != (wn : Int)) = false := by simp
          go_wp2
          clear k0 hne0
          go_loopw [96] (fun i wj => ∃ q : Nat, i = .int .i64 (q : Int) ∧ q ≤ wn ∧ Hid (Below wc.heap.size wc wj)) (fun i _ => wn - (intOf i).toNat)
          case atStart => exact ⟨0, rfl, by omega, Below.refl _ _⟩
          case round =>
            obtain ⟨q, rfl, hqw, HQ⟩ := hrel
            by_cases hlt : q < wn
            · as_aux_lemma =>
                obtain ⟨c, hc⟩ : ∃ c, Y[q]? = some c := ⟨_, List.getElem?_eq_getElem (by rw [HY.out.1]; exact hlt)⟩
                have hcx : X[q]? = some c := by
                  obtain ⟨Z, hZ⟩ := HW.out.2.1
                  rw [hZ, List.getElem?_append_left (by rw [HY.out.1]; exact hlt)]; exact hc
                obtain ⟨lc, hlc⟩ : ∃ lc, lc = c.length := ⟨_, rfl⟩
                have hlcb : lc ≤ 256 := by rw [hlc]; exact HW.out.2.2.2.1 c (List.mem_of_getElem? hc)
                obtain ⟨gk2, g2, q2, e21, e22, e23, e24, e25⟩ := (HC2.out wc (Below.refl _ _)).rows q c hc
                obtain ⟨gk1, g1, q1, e11, e12, e13, e14, e15⟩ := (HC1.out wc (Below.refl _ _)).rows q c hcx
                subst e21 e11
                have hblw : bl ≤ wc.heap.size := by
                  have h3 := (HC2.out wc (Below.refl _ _)).lt
                  omega
                have HRD : Hid (∀ W, Below wc.heap.size wc W → W.cell? ⟨bl + 1, 0, none⟩ = some (.slice (some ⟨gk2, 0, none⟩) wn kc2) ∧ W.cell? ⟨b1, 0, none⟩ = some (.slice (some ⟨gk1, 0, none⟩) tt kc) ∧ W.cell? ⟨gk2, q, none⟩ = some (.slice (some ⟨g2, 0, none⟩) lc q2) ∧ W.cell? ⟨gk1, q, none⟩ = some (.slice (some ⟨g1, 0, none⟩) lc q1) ∧
                    (∀ (j x : Nat), c[j]? = some x → W.cell? ⟨g2, j, none⟩ = some (.int .i64 (x : Int)) ∧ W.cell? ⟨g1, j, none⟩ = some (.int .i64 (x : Int)))) := by
                  intro W hW
                  have f1 := (HC2.out W hW).kb
                  have f2 := (HC1.out W hW).kb
                  rw [HY.out.1] at f1
                  rw [HW.out.2.2.1] at f2
                  rw [hlc]
                  refine ⟨f1, f2, by rw [hW.cell (by exact e22)]; exact e24, by rw [hW.cell (show gk1 < wc.heap.size by omega)]; exact e14, fun j x hx => ⟨by rw [hW.cell (by exact e23)]; exact e25 j x hx, by rw [hW.cell (show g1 < wc.heap.size by omega)]; exact e15 j x hx⟩⟩
                have HLC : Hid (lc = c.length) := hlc
                have hqt : q < tt := by have := HY.out.2; omega
                clear hc hcx hlc e22 e23 e24 e25 e12 e13 e14 e15
                obtain ⟨f1, f2, f3, f4, -⟩ := HRD.out wr HQ.out
                have hlt' : (q : Int) < (wn : Int) := by omega
                have hne1 : ((lc : Int) != (lc : Int)) = false := by simp
                go_upto_region 35 with fail
                go_quiet (fail)
                obtain ⟨W9, hW9⟩ : ∃ W9, W9 = wr.drewN nq := ⟨_, rfl⟩
                rw [← hW9]
                have B9 : Hid (Below wc.heap.size wc W9) := by rw [hW9]; exact ⟨HQ.out.os, HQ.out.tape, HQ.out.output, HQ.out.size, HQ.out.block⟩
                clear hW9 f1 f2 f3 f4
                obtain ⟨f1, f2, f3, f4, -⟩ := HRD.out W9 B9.out
                go_wp2
                clear f1 f2 f3 f4 hne1
                obtain ⟨wo, rfl⟩ : ∃ wo : World, wo = wr := ⟨_, rfl⟩
                go_loopw [115] (fun i wj => ∃ jj : Nat, i = .int .i64 (jj : Int) ∧ jj ≤ lc ∧ Hid (Below wc.heap.size wc wj)) (fun i _ => lc - (intOf i).toNat)
                case atStart => exact ⟨0, rfl, by omega, B9.out⟩
                case round =>
                  obtain ⟨jj, rfl, hjl, HJ⟩ := hrel
                  by_cases hj : jj < lc
                  · obtain ⟨y, hy⟩ : ∃ y, c[jj]? = some y := ⟨_, List.getElem?_eq_getElem (by rw [← HLC.out]; exact hj)⟩
                    obtain ⟨f1, f2, f3, f4, f5⟩ := HRD.out wr HJ.out
                    obtain ⟨f6, f7⟩ := f5 jj y hy
                    have hj' : (jj : Int) < (lc : Int) := by omega
                    have hne1 : ((y : Int) != (y : Int)) = false := by simp
                    clear f5 hy
                    go_upto_region 40 with fail
                    go_quiet (fail)
                    obtain ⟨W10, hW10⟩ : ∃ W10, W10 = wr.drewN nq := ⟨_, rfl⟩
                    rw [← hW10]
                    have B10 : Hid (Below wc.heap.size wc W10) := by rw [hW10]; exact ⟨HJ.out.os, HJ.out.tape, HJ.out.output, HJ.out.size, HJ.out.block⟩
                    clear hW10 f1 f2 f3 f4 f6 f7
                    go_wp2
                    go_roundw
                    case rel => exact ⟨jj + 1, by go_num, by omega, B10.out⟩
                    case measure => simp [intOf]; omega
                  · obtain rfl : jj = lc := by omega
                    go_wp2
                    go_roundw
                    case rel => exact ⟨q + 1, by go_num, by omega, HJ.out⟩
                    case measure => simp [intOf]; omega
            · obtain rfl : q = wn := by omega
              go_wp2
              go_ret
              exact ⟨rfl, by rw [← HN.out]; exact HB.out.trans (HQ.out.mono (by have := HB.out.size; have := HN.out; omega))⟩
end Go.Proofs.Ybulkblzg
