import Derived.Test.YbulkblzgH
import Derived.Test.YbulkblzgG
import Derived.Test.YbulkblzgI
import Derived.Test.YbulkblzgK
import Derived.Test.YbulkblzgL
namespace Go.Proofs.Ybulkblzg
open Go.RowKit
set_option linter.unusedVariables false
set_option linter.unusedSimpArgs false

theorem nodup_mem : ∀ {X : List (List Nat)}, X.flatten.Nodup → ∀ {c : List Nat}, c ∈ X → c.Nodup
  | [], _, c, h => by cases h
  | a :: X, hn, c, h => by
    rw [List.flatten_cons, List.nodup_append] at hn
    rcases List.mem_cons.1 h with rfl | h
    · exact hn.1
    · exact nodup_mem hn.2.1 h

/-- The places are all set. -/
structure Pos5 (w5 w : World) (pa n : Nat) (X : List (List Nat)) : Prop where
  arr : Arr w pa n (fun v => .int .i64 (posv X v : Int))
  blw : Below pa w5 w
theorem Pos5.drewN {w5 w : World} {pa n : Nat} {X : List (List Nat)} (h : Pos5 w5 w pa n X) (q : Nat) : Pos5 w5 (w.drewN q) pa n X :=
  ⟨h.arr.keep ((Keeps.refl (fun _ => False) w).drewN q) (fun h => h), ⟨h.blw.os, h.blw.tape, h.blw.output, h.blw.size, h.blw.block⟩⟩

theorem adj_rng (n : Nat) (E : List (Nat × Nat)) : ∀ v, v < n → ∀ x ∈ adjE n E v, x < n := fun v hv => adjE_rng n (by omega) E _ (by simp) v
theorem adj_deg (n m : Nat) (E : List (Nat × Nat)) (hm : E.length = m) (h : m ≤ 1024) : ∀ v, v < n → (adjE n E v).length ≤ 1024 := fun v _ => Nat.le_trans (adjE_deg n E v) (by omega)

theorem enter15 : ∀ (args : Array Value) (w : World), (callFunc 15 args).run Yba.prog w = .ok (.enter 15 args) w := fun args w => by kernel_rfl
theorem enter17 : ∀ (args : Array Value) (w : World), (callFunc 17 args).run Yba.prog w = .ok (.enter 17 args) w := fun args w => by kernel_rfl

def start5 (w3 : World) (ac n : Nat) : World :=
  (((w3.alloc (.cells (madeCells #[.int .i64 0] n) 3)).alloc (.cells #[.slice (some ⟨ac, 0, none⟩) n n] 27)).alloc (.cells #[.bool false] 4)).alloc (.cells #[.slice none 0 0] 39)

theorem uc_start (w3 : World) (hi aa n : Nat) (adj : Nat → List Nat) (bn ba ac : Nat) (hA : IsAdj w3 hi aa n adj) (hbn : Box w3 bn (.int .i64 (n : Int))) (hba : Box w3 ba (.slice (some ⟨aa, 0, none⟩) n n)) (hac : ac = w3.heap.size) :
    UC (start5 w3 ac n) hi aa n adj bn (ac + 2) (ac + 1) ac ba (ac + 4) (ac + 3) (start5 w3 ac n) (fun _ => 0) [] (fun j => j < ac + 4 ∨ False) := by
  have hl1 := hbn.lt
  have hl2 := hba.lt
  have hhi := hA.le
  have nf : ¬ False := fun h => h
  unfold start5
  obtain ⟨w4, h4⟩ : ∃ w4, w4 = w3.alloc (.cells (madeCells #[.int .i64 0] n) 3) := ⟨_, rfl⟩
  rw [← h4]
  have b1 : Arr w4 ac n (fun _ => .int .i64 0) := by rw [h4, hac]; exact arr_made _ _ _ _
  have s4 : w4.heap.size = ac + 1 := by rw [h4]; simp [hac]
  have k4 : Keeps (fun _ => False) w3 w4 := by rw [h4]; exact (Keeps.refl _ _).alloc _
  clear h4
  obtain ⟨w5, h5⟩ : ∃ w5, w5 = w4.alloc (.cells #[.slice (some ⟨ac, 0, none⟩) n n] 27) := ⟨_, rfl⟩
  rw [← h5]
  have b2 : Box w5 (ac + 1) (.slice (some ⟨ac, 0, none⟩) n n) := by rw [h5, ← s4]; exact box_new _ _ _
  have s5 : w5.heap.size = ac + 2 := by rw [h5]; simp [s4]
  have k5 : Keeps (fun _ => False) w4 w5 := by rw [h5]; exact (Keeps.refl _ _).alloc _
  clear h5
  obtain ⟨w6, h6⟩ : ∃ w6, w6 = w5.alloc (.cells #[.bool false] 4) := ⟨_, rfl⟩
  rw [← h6]
  have b3 : Box w6 (ac + 2) (.bool false) := by rw [h6, ← s5]; exact box_new _ _ _
  have s6 : w6.heap.size = ac + 3 := by rw [h6]; simp [s5]
  have k6 : Keeps (fun _ => False) w5 w6 := by rw [h6]; exact (Keeps.refl _ _).alloc _
  clear h6
  obtain ⟨w7, h7⟩ : ∃ w7, w7 = w6.alloc (.cells #[.slice none 0 0] 39) := ⟨_, rfl⟩
  rw [← h7]
  have b4 : Box w7 (ac + 3) (.slice none 0 0) := by rw [h7, ← s6]; exact box_new _ _ _
  have s7 : w7.heap.size = ac + 4 := by rw [h7]; simp [s6]
  have k7 : Keeps (fun _ => False) w6 w7 := by rw [h7]; exact (Keeps.refl _ _).alloc _
  clear h7
  have hk := k4.trans (k5.trans (k6.trans k7))
  exact ⟨hA.keep hk (fun j hj => hj.elim), hbn.keep hk nf, b3.keep k7 nf, b2.keep (k6.trans k7) nf, (b1.keep (k5.trans (k6.trans k7)) nf).congr (fun i _ => by simp), hba.keep hk nf,
    ⟨.slice none 0 0, fun _ => False, ⟨b4, by omega, by omega, ⟨[], World.ownsRow_nil _ _ _ _, by simp⟩, by simp [Value.ownBlock], fun j hj => hj.elim⟩, fun j => Iff.rfl⟩, Keeps.refl _ _,
    by refine ⟨?_, ?_, ?_, ?_, ?_, ?_, ?_, ?_, ?_, ?_, ?_, ?_, ?_, ?_, ?_, ?_, ?_, ?_⟩ <;> omega⟩

/-- All that the law reads behind the walk. -/
structure Fin5 (w : World) (lim aa ra n : Nat) (adj : Nat → List Nat) (bn bb bc ac ba bk : Nat) (X : List (List Nat)) (ka : Option Addr) (kc : Nat) : Prop where
  nn : w.cell? ⟨bn, 0, none⟩ = some (.int .i64 (n : Int))
  bad : w.cell? ⟨bb, 0, none⟩ = some (.bool false)
  cb : w.cell? ⟨bc, 0, none⟩ = some (.slice (some ⟨ac, 0, none⟩) n n)
  ca : ∀ i, i < n → w.cell? ⟨ac, i, none⟩ = some (.int .i64 1)
  ab : w.cell? ⟨ba, 0, none⟩ = some (.slice (some ⟨aa, 0, none⟩) n n)
  ad : IsAdj w lim aa n adj
  re : IsReach w lim ra n adj
  kb : w.cell? ⟨bk, 0, none⟩ = some (.slice ka X.length kc)
  rows : ∀ (i : Nat) (c : List Nat), X[i]? = some c → ∃ gk g q, ka = some ⟨gk, 0, none⟩ ∧ gk < lim ∧ g < lim ∧ w.cell? ⟨gk, i, none⟩ = some (.slice (some ⟨g, 0, none⟩) c.length q) ∧ ∀ (j x : Nat), c[j]? = some x → w.cell? ⟨g, j, none⟩ = some (.int .i64 (x : Int))
  lts : bn < lim ∧ bb < lim ∧ bc < lim ∧ ac < lim ∧ ba < lim ∧ bk < lim

theorem Fin5.below {w w' : World} {lim aa ra n : Nat} {adj : Nat → List Nat} {bn bb bc ac ba bk : Nat} {X : List (List Nat)} {ka : Option Addr} {kc : Nat} (h : Fin5 w lim aa ra n adj bn bb bc ac ba bk X ka kc) (hb : Below lim w w') :
    Fin5 w' lim aa ra n adj bn bb bc ac ba bk X ka kc := by
  obtain ⟨l1, l2, l3, l4, l5, l6⟩ := h.lts
  refine ⟨by rw [hb.cell (by exact l1)]; exact h.nn, by rw [hb.cell (by exact l2)]; exact h.bad, by rw [hb.cell (by exact l3)]; exact h.cb, fun i hi => by rw [hb.cell (by exact l4)]; exact h.ca i hi, by rw [hb.cell (by exact l5)]; exact h.ab,
    h.ad.below hb, h.re.below hb, by rw [hb.cell (by exact l6)]; exact h.kb, fun i c hc => ?_, h.lts⟩
  obtain ⟨gk, g, q, e1, e2, e3, e4, e5⟩ := h.rows i c hc
  exact ⟨gk, g, q, e1, e2, e3, by rw [hb.cell (by exact e2)]; exact e4, fun j x hx => by rw [hb.cell (by exact e3)]; exact e5 j x hx⟩

theorem fin5_of {w4 w : World} {hi aa n : Nat} {adj : Nat → List Nat} {bn bb bc ac ba B bk ra : Nat} {T : Ts} {R : Nat → Prop} (h : UC w4 hi aa n adj bn bb bc ac ba B bk w (asked T) T.comps R) (hr : IsReach w4 ac ra n adj) (hak : ac < bk) (hB : B ≤ w.heap.size) (h1 : ∀ v, v < n → asked T v = 1) :
    ∃ ka kc, Fin5 w w.heap.size aa ra n adj bn bb bc ac ba bk T.comps ka kc := by
  obtain ⟨v, R0, hC, hR⟩ := h.comps
  obtain ⟨vs, hvs, hvr⟩ := hC.rows
  obtain ⟨ka, kc, hv, _, _, hka, hkz⟩ := row_form hvs
  have ho := h.ord
  have hre := hr.below (h.kp.below (B := ac) hr.le (fun j hj => by omega))
  refine ⟨ka, kc, h.nn.1, h.bad.1, h.cb.1, fun i hi => by rw [(h.ca i hi).1]; simp [h1 i hi], h.ab.1, ⟨by have := h.ad.aalt; have := h.ad.le; omega, Nat.le_refl _, fun i hi => ?_⟩, ⟨Nat.le_refl _, fun s hs => ?_, by have := hre.lt; have := hre.le; omega⟩, by rw [hC.box.1, hv], fun i c hc => ?_, by omega⟩
  · obtain ⟨a, c, e1, e2⟩ := h.ad.row i hi
    refine ⟨a, c, e1, fun j x hx => ?_⟩
    obtain ⟨g, f1, f2, f3⟩ := e2 j x hx
    exact ⟨g, f1, by have := h.ad.le; omega, f3⟩
  · obtain ⟨g, e1, e2, f, e3, e4⟩ := hre.rows s hs
    exact ⟨g, e1, by have := hre.le; omega, f, e3, e4⟩
  · obtain ⟨g, q, e1, e2, e3, e4⟩ := hvr i c hc
    have hil : i < T.comps.length := (List.getElem?_eq_some_iff.1 hc).1
    cases ka with
    | none => have := (hkz rfl).1; omega
    | some ad =>
      obtain ⟨gk, rfl, _, hgk⟩ := hka ad rfl
      rw [hv] at hvs
      refine ⟨gk, g, q, rfl, hgk, (hC.lt g e2).2, ?_, e4⟩
      rw [hvs.cellAt i (by omega)]; exact e1

set_option maxRecDepth 100000 in
set_option maxHeartbeats 2000000 in
theorem law5_small (n : Nat) (a : Option Addr) (m cp : Nat) (E : List (Nat × Nat)) (w : World) (hn : n ≤ 256) (hm : m ≤ 1024) (hE : IsEs w a m E) :
    Calls Yba.prog 5 #[.int .i64 (n : Int), .slice a m cp] w fun e w' => e = .returned (.bool true) ∧ Below w.heap.size w w' := by
  have HE : Hid (IsEs w a m E) := hE
  obtain ⟨adj, hadj⟩ : ∃ adj, adj = adjE n E := ⟨_, rfl⟩
  have HAD : Hid (adj = adjE n E ∧ (∀ v, v < n → ∀ x ∈ adj v, x < n) ∧ (∀ v, v < n → (adj v).length ≤ 1024)) := by rw [hadj]; exact ⟨rfl, adj_rng n E, adj_deg n m E hE.1 hm⟩
  clear hE hadj
  obtain ⟨N, hN⟩ : ∃ N, N = w.heap.size := ⟨_, rfl⟩
  have HN : Hid (N = w.heap.size) := hN
  have HBA : Hid (Below N w (w.alloc (.cells #[.int .i64 (n : Int)] 3)) ∧ Box (w.alloc (.cells #[.int .i64 (n : Int)] 3)) N (.int .i64 (n : Int))) := by
    rw [hN]; exact ⟨(Below.refl _ _).alloc (Nat.le_refl _) _, box_new _ _ _⟩
  clear hN
  have h1 : decide ((n : Int) < 0) = false := by simp
  have h2 : decide ((256 : Int) < (n : Int)) = false := by simp; omega
  have h2' : decide (256 < n) = false := by simp; omega
  have h3 : decide ((1024 : Int) < (m : Int)) = false := by simp; omega
  have h3' : decide (1024 < m) = false := by simp; omega
  go_enter Yba.func5, Yba.ntmps5
  go_wp2_with fail
  refine (graph_any n a m cp E _ hn hm (HE.out.below (by rw [← HN.out]; exact HBA.out.1))).mono ?_
  rintro e w1 ⟨rfl, hA1, hb1, hs1⟩
  simp only [World.size_alloc] at hA1 hb1 hs1 ⊢
  rw [← HAD.out.1] at hA1
  rw [← HN.out] at hA1 hb1 hs1 ⊢
  obtain ⟨hi, hhi⟩ : ∃ hi, hi = w1.heap.size := ⟨_, rfl⟩
  rw [← hhi] at hA1 hs1
  have B1 : Hid (Below N w w1 ∧ N + 1 < hi ∧ Box w1 N (.int .i64 (n : Int))) := ⟨HBA.out.1.trans (hb1.mono (by omega)), hs1, HBA.out.2.same (hb1.block N (by omega))⟩
  have A1 : Hid (IsAdj w1 hi (N + 1) n adj) := hA1
  have W2 : Hid (IsAdj (w1.alloc (.cells #[.slice (some ⟨N + 1, 0, none⟩) n n] 39)) hi (N + 1) n adj ∧ Box (w1.alloc (.cells #[.slice (some ⟨N + 1, 0, none⟩) n n] 39)) hi (.slice (some ⟨N + 1, 0, none⟩) n n) ∧ Box (w1.alloc (.cells #[.slice (some ⟨N + 1, 0, none⟩) n n] 39)) N (.int .i64 (n : Int)) ∧ Below N w (w1.alloc (.cells #[.slice (some ⟨N + 1, 0, none⟩) n n] 39))) := by
    refine ⟨hA1.keep ((Keeps.refl (fun _ => False) w1).alloc _) (fun j h => h.elim), by rw [hhi]; exact box_new _ _ _, B1.out.2.2.alloc _, B1.out.1.alloc (by omega) _⟩
  have HHI : Hid (hi = w1.heap.size) := hhi
  obtain ⟨bn0, bn1⟩ := B1.out.2.2
  clear hA1 hb1 hs1 h1 h2 h2' h3 h3' hhi
  go_upto_region 4 with fail
  obtain ⟨w2, hw2⟩ : ∃ w2, w2 = w1.alloc (.cells #[.slice (some ⟨N + 1, 0, none⟩) n n] 39) := ⟨_, rfl⟩
  rw [← hw2]
  have W2 := W2
  rw [← hw2] at W2
  rw [← HHI.out]
  have S2 : Hid (w2.heap.size = hi + 1) := by rw [hw2, HHI.out]; unfold Hid; simp
  clear hw2 bn0 bn1
  obtain ⟨ab0, ab1⟩ := W2.out.2.1
  go_wp2_with fail
  refine (reachm_any (N + 1) n hi adj w2 W2.out.1 hn HAD.out.2.1 HAD.out.2.2).mono ?_
  rintro e w3 ⟨rfl, hR3, hb3, hs3⟩
  rw [S2.out] at hR3 hb3 hs3 ⊢
  obtain ⟨ac, hac⟩ : ∃ ac, ac = w3.heap.size := ⟨_, rfl⟩
  rw [← hac] at hR3 hs3
  have W3 : Hid (IsAdj w3 hi (N + 1) n adj ∧ IsReach w3 ac (hi + 1) n adj ∧ Box w3 N (.int .i64 (n : Int)) ∧ Box w3 hi (.slice (some ⟨N + 1, 0, none⟩) n n) ∧ Below N w w3 ∧ N + 1 < hi ∧ hi + 1 < ac ∧ ac = w3.heap.size) :=
    ⟨W2.out.1.below (hb3.mono (by omega)), hR3, W2.out.2.2.1.same (hb3.block N (by have := B1.out.2.1; omega)), W2.out.2.1.same (hb3.block hi (by omega)), W2.out.2.2.2.trans (hb3.mono (by have := B1.out.2.1; omega)), B1.out.2.1, hs3, hac⟩
  clear hR3 hb3 hs3 ab0 ab1 hac
  obtain ⟨bn0, bn1⟩ := W3.out.2.2.1
  have h27 := make_n Yba.underlying27 Yba.info3 rfl (by omega) n (by omega)
  go_upto_region 9 with fail
  rw [← W3.out.2.2.2.2.2.2.2]
  simp only [Nat.add_assoc, Nat.reduceAdd]
  rw [show (((w3.alloc (.cells (madeCells #[.int .i64 0] n) 3)).alloc (.cells #[.slice (some ⟨ac, 0, none⟩) n n] 27)).alloc (.cells #[.bool false] 4)).alloc (.cells #[.slice none 0 0] 39) = start5 w3 ac n from rfl]
  have U4 : Hid (UC (start5 w3 ac n) hi (N + 1) n adj N (ac + 2) (ac + 1) ac hi (ac + 4) (ac + 3) (start5 w3 ac n) (fun _ => 0) [] (fun j => j < ac + 4 ∨ False)) := uc_start w3 hi (N + 1) n adj N hi ac W3.out.1 W3.out.2.2.1 W3.out.2.2.2.1 W3.out.2.2.2.2.2.2.2
  have K4 : Hid (Keeps (fun _ => False) w3 (start5 w3 ac n)) := ((((Keeps.refl _ w3).alloc _).alloc _).alloc _).alloc _
  obtain ⟨w4, hw4⟩ : ∃ w4, w4 = start5 w3 ac n := ⟨_, rfl⟩
  rw [← hw4] at U4 K4 ⊢
  have R4 : Hid (IsReach w4 ac (hi + 1) n adj ∧ Below N w w4) := ⟨W3.out.2.1.below (K4.out.below (by rw [← W3.out.2.2.2.2.2.2.2]; exact Nat.le_refl _) (fun j h => h.elim)), W3.out.2.2.2.2.1.trans (K4.out.below (by have := W3.out; omega) (fun j h => h.elim))⟩
  clear hw4 h27 bn0 bn1
  obtain ⟨bn0, bn1⟩ := U4.out.nn
  go_wp2_with fail
  refine (comps_any 15 _ 17 _ n adj (UC w4 hi (N + 1) n adj N (ac + 2) (ac + 1) ac hi (ac + 4) (ac + 3)) (fun _ => true) (UC.ukeep _ _ _ _ _ _ _ _ _ _ _ _) (UC.ult _ _ _ _ _ _ _ _ _ _ _ _) (edges_ok _ _ _ _ _ _ _ _ _ _ _ _ hn HAD.out.2.2) enter15 (found_ok _ _ _ _ _ _ _ _ _ _ _ _) enter17 HAD.out.2.1 HAD.out.2.2 hn _ w4 U4.out).mono ?_
  rintro e w5 ⟨rfl, T, R, ⟨k, hk⟩, hU5, hk5, hR5, hend⟩
  have hTI : TInv adj n T := by rw [hk]; exact inv_iter HAD.out.2.1 k
  have hfin : T.fr = [] ∧ T.nx = n := by
    rcases hend with h | h
    · exact ⟨h.1, h.2.1⟩
    · exact absurd h.2.1 (by simp)
  have hPT : Parts adj n T.comps := parts_of hTI hfin.1 hfin.2
  have hask : ∀ v, v < n → asked T v = 1 := fun v hv => by
    unfold asked
    rw [if_neg (hTI.nxd v (by rw [hfin.2]; exact hv))]
  obtain ⟨ka, kc, hF5⟩ := fin5_of hU5 R4.out.1 (by omega) (by
    obtain ⟨v9, R9, hC9, _⟩ := hU5.comps
    exact hC9.ble) hask
  have B5 : Hid (Below N w w5) := R4.out.2.trans (hU5.kp.below (by
    have h3 := W3.out
    have h4 := K4.out.size
    omega) (fun j hj => by have := W3.out; omega))
  obtain ⟨X, hX⟩ : ∃ X, X = T.comps := ⟨_, rfl⟩
  rw [← hX] at hPT hF5
  have HPT : Hid (Parts adj n X) := hPT
  have F5 : Hid (Fin5 w5 w5.heap.size (N + 1) (hi + 1) n adj N (ac + 2) (ac + 1) ac hi (ac + 3) X ka kc) := hF5
  clear hTI hfin hPT hask hend hU5 hk5 hR5 hF5 hX hk bn0 bn1 U4 K4 R4 W3 W2 S2 A1 B1 HBA
  have f1 := F5.out.nn
  have f2 := F5.out.bad
  have h27 := make_n Yba.underlying27 Yba.info3 rfl (by omega) n (by omega)
  obtain ⟨xl, hxl⟩ : ∃ xl, xl = X.length := ⟨_, rfl⟩
  have HXL : Hid (xl = X.length) := hxl
  have hxlb : xl ≤ 256 := by rw [hxl]; exact Nat.le_trans HPT.out.le hn
  clear hxl
  go_wp2
  obtain ⟨pa, hpa⟩ : ∃ pa, pa = w5.heap.size := ⟨_, rfl⟩
  have P0 : Hid (Arr (w5.alloc (.cells (madeCells #[.int .i64 0] n) 3)) pa n (fun v => .int .i64 (if v < 0 then -1 else 0)) ∧ Below pa w5 (w5.alloc (.cells (madeCells #[.int .i64 0] n) 3))) := by
    rw [hpa]
    exact ⟨(arr_made w5 (.int .i64 0) n 3).congr (fun i _ => by simp), (Below.refl _ _).alloc (Nat.le_refl _) _⟩
  obtain ⟨W6, hW6⟩ : ∃ W6, W6 = w5.alloc (.cells (madeCells #[.int .i64 0] n) 3) := ⟨_, rfl⟩
  rw [← hW6] at P0 ⊢
  rw [← hpa]
  have HPA : Hid (pa = w5.heap.size) := hpa
  have F5' : Hid (∀ W, Below pa w5 W → Fin5 W pa (N + 1) (hi + 1) n adj N (ac + 2) (ac + 1) ac hi (ac + 3) X ka kc) := by
    intro W hW
    have h3 := F5.out
    rw [← hpa] at h3
    exact h3.below hW
  have HB5 : Hid (∀ W, Below pa w5 W → Below N w W) := fun W hW => B5.out.trans (hW.mono (by have := B5.out.size; have := HN.out; omega))
  clear hpa hW6 f1 f2 h27 F5 B5
  go_loopw [50] (fun i wr => ∃ ii : Nat, i = .int .i64 (ii : Int) ∧ ii ≤ n ∧ Hid (Arr wr pa n (fun v => .int .i64 (if v < ii then -1 else 0)) ∧ Below pa w5 wr)) (fun i _ => n - (intOf i).toNat)
  case atStart => exact ⟨0, rfl, by omega, P0.out⟩
  case round =>
    obtain ⟨ii, rfl, hin, HA1⟩ := hrel
    by_cases hlt : ii < n
    · obtain ⟨r0, r1⟩ := HA1.out.1 ii hlt
      have hlt' : (ii : Int) < (n : Int) := by omega
      go_wp2
      go_roundw
      case rel =>
        refine ⟨ii + 1, by go_num, by omega, ?_, HA1.out.2.setCell (Nat.le_refl _) _⟩
        refine (HA1.out.1.set _ hlt).congr (fun j _ => ?_)
        by_cases e : j = ii
        · subst e; simp
        · simp only [if_neg e]
          by_cases e2 : j < ii
          · rw [if_pos e2, if_pos (by omega)]
          · rw [if_neg e2, if_neg (by omega)]
      case measure => simp [intOf]; omega
    · obtain rfl : ii = n := by omega
      have A2 : Hid (Arr wr pa ii (fun v => .int .i64 (pst X [] v)) ∧ Below pa w5 wr) := ⟨HA1.out.1.congr (fun j hj => by rw [pst_nil, if_pos hj]), HA1.out.2⟩
      have f1 := (F5'.out _ A2.out.2).kb
      rw [← HXL.out] at f1
      clear HA1 hlt hin P0
      go_wp2
      clear f1
      obtain ⟨wp, rfl⟩ : ∃ wp : World, wp = wr := ⟨_, rfl⟩
      go_loopw [59] (fun i wr => ∃ q : Nat, i = .int .i64 (q : Int) ∧ q ≤ xl ∧ Hid (Arr wr pa ii (fun v => .int .i64 (pst X (X.take q).flatten v)) ∧ Below pa w5 wr)) (fun i _ => xl - (intOf i).toNat)
      case atStart => exact ⟨0, rfl, by omega, by simpa using A2.out.1, A2.out.2⟩
      case round =>
        obtain ⟨q, rfl, hqx, HA3⟩ := hrel
        by_cases hlt : q < xl
        · as_aux_lemma =>
            obtain ⟨c, hc⟩ : ∃ c, X[q]? = some c := ⟨_, List.getElem?_eq_getElem (by rw [← HXL.out]; exact hlt)⟩
            obtain ⟨gk, g, qq, e1, e2, e3, e4, e5⟩ := (F5'.out _ HA3.out.2).rows q c hc
            subst e1
            have HC : Hid (X[q]? = some c) := hc
            have HCR : Hid (g < pa ∧ ∀ W, Below pa w5 W → ∀ (j x : Nat), c[j]? = some x → W.cell? ⟨g, j, none⟩ = some (.int .i64 (x : Int))) := by
              refine ⟨e3, fun W hW j x hx => ?_⟩
              rw [hW.cell (by exact e3), ← HA3.out.2.cell (by exact e3)]
              exact e5 j x hx
            obtain ⟨lc, hlc⟩ : ∃ lc, lc = c.length := ⟨_, rfl⟩
            have HLC : Hid (lc = c.length) := hlc
            have hlc0 : ¬ (lc : Int) = 0 := by
              have h3 := HPT.out.ne c (List.mem_of_getElem? hc)
              have h4 : 0 < c.length := List.length_pos_iff.2 h3
              omega
            have hlcb : ((lc : Int) == 0) = false := by simp; omega
            have hlcb2 : lc ≤ 256 := by
              have h3 : c.Nodup := by
                exact nodup_mem HPT.out.nd (List.mem_of_getElem? hc)
              have h4 := nodup_le ii c h3 (HPT.out.rng c (List.mem_of_getElem? hc))
              omega
            rw [← hlc] at e4
            have hlt' : (q : Int) < (xl : Int) := by omega
            clear hc e2 e3 e5 hlc
            go_wp2
            clear e4
            obtain ⟨wq, rfl⟩ : ∃ wq : World, wq = wr := ⟨_, rfl⟩
            go_loopw [69] (fun i wr => ∃ jj : Nat, i = .int .i64 (jj : Int) ∧ jj ≤ lc ∧ Hid (Arr wr pa ii (fun v => .int .i64 (pst X ((X.take q).flatten ++ c.take jj) v)) ∧ Below pa w5 wr)) (fun i _ => lc - (intOf i).toNat)
            case atStart => exact ⟨0, rfl, by omega, by simpa using HA3.out.1, HA3.out.2⟩
            case round =>
              obtain ⟨jj, rfl, hjl, HA4⟩ := hrel
              by_cases hj : jj < lc
              · obtain ⟨v0, hv0⟩ : ∃ v0, c[jj]? = some v0 := ⟨_, List.getElem?_eq_getElem (by rw [← HLC.out]; exact hj)⟩
                have HV0 : Hid (c[jj]? = some v0) := hv0
                have cv := HCR.out.2 wr HA4.out.2 jj v0 hv0
                have hvn : v0 < ii := HPT.out.rng c (List.mem_of_getElem? HC.out) v0 (List.mem_of_getElem? hv0)
                obtain ⟨r0, r1⟩ := HA4.out.1 v0 hvn
                simp only [pst_out (parts_fresh HPT.out HC.out hv0)] at r0
                have n0 := (F5'.out _ HA4.out.2).nn
                have d1 : decide ((v0 : Int) < 0) = false := by simp
                have d2 : decide ((ii : Int) ≤ (v0 : Int)) = false := by simp; omega
                have d3 : decide (ii ≤ v0) = false := by simp; omega
                have hj' : (jj : Int) < (lc : Int) := by omega
                clear hv0
                go_wp2
                go_roundw
                case rel =>
                  refine ⟨jj + 1, by go_num, by omega, ?_, HA4.out.2.setCell (Nat.le_refl _) _⟩
                  refine (HA4.out.1.set _ hvn).congr (fun j _ => ?_)
                  have h3 := pst_next (X := X) (done := (X.take q).flatten ++ c.take jj) (v := v0) (i := q) (HPT.out.at_ HC.out (List.mem_of_getElem? HV0.out))
                  rw [List.take_add_one, HV0.out]
                  simp only [Option.toList_some, ← List.append_assoc]
                  rw [← h3]
                  by_cases e : j = v0 <;> simp [e]
                case measure => simp [intOf]; omega
              · obtain rfl : jj = lc := by omega
                go_wp2
                go_roundw
                case rel =>
                  refine ⟨q + 1, by go_num, by omega, ?_, HA4.out.2⟩
                  have h3 := HA4.out.1
                  rw [HLC.out, List.take_length] at h3
                  rw [List.take_add_one, HC.out]
                  simpa using h3
                case measure => simp [intOf]; omega
        · obtain rfl : q = xl := by omega
          have A4 : Hid (Arr wr pa ii (fun v => .int .i64 (posv X v : Int)) ∧ Below pa w5 wr) := by
            refine ⟨HA3.out.1.congr (fun j hj => ?_), HA3.out.2⟩
            rw [HXL.out, List.take_length, pst_in]
            obtain ⟨c, hc, hjc⟩ := HPT.out.cov j hj
            exact List.mem_flatten.2 ⟨c, hc, hjc⟩
          have S9 : Hid (Pos5 w5 wr pa ii X) := ⟨A4.out.1, A4.out.2⟩
          have n0 := (F5'.out _ A4.out.2).nn
          clear HA3 hlt hqx A2 A4
          go_wp2
          clear n0
          obtain ⟨W9, rfl⟩ : ∃ W9 : World, W9 = wr := ⟨_, rfl⟩
          go_loopw [17] (fun i wj => ∃ v : Nat, i = .int .i64 (v : Int) ∧ v ≤ ii ∧ Hid (Pos5 w5 wj pa ii X)) (fun i _ => ii - (intOf i).toNat)
          case atStart => exact ⟨0, rfl, by omega, S9.out⟩
          case round =>
            obtain ⟨v, rfl, hvi, S10⟩ := hrel
            have n0 := (F5'.out _ S10.out.blw).nn
            clear S9
            by_cases hlt : v < ii
            · as_aux_lemma =>
                obtain ⟨r0, r1⟩ := S10.out.arr v hlt
                obtain ⟨pv, hpv⟩ : ∃ pv, pv = posv X v := ⟨_, rfl⟩
                simp only [← hpv] at r0
                clear hpv
                have c0 := (F5'.out _ S10.out.blw).cb
                have c1 := (F5'.out _ S10.out.blw).ca v hlt
                have d1 : ((pv : Int) == -1) = false := by simp
                have d2 : ¬ (pv : Int) = -1 := by omega
                have hlt' : (v : Int) < (ii : Int) := by omega
                go_wp2
                go_roundw
                case rel => exact ⟨v + 1, by go_num, by omega, S10.out⟩
                case measure => simp [intOf]; omega
            · obtain rfl : v = ii := by omega
              clear hlt hvi
              go_wp2
              clear n0
              obtain ⟨W10, rfl⟩ : ∃ W10 : World, W10 = wr := ⟨_, rfl⟩
              go_loopw [18] (fun i wj => ∃ u : Nat, i = .int .i64 (u : Int) ∧ u ≤ v ∧ Hid (Pos5 w5 wj pa v X)) (fun i _ => v - (intOf i).toNat)
              case atStart => exact ⟨0, rfl, by omega, S10.out⟩
              case round =>
                obtain ⟨u, rfl, hui, S11⟩ := hrel
                have n0 := (F5'.out _ S11.out.blw).nn
                clear S10
                by_cases hlt : u < v
                · have hlt' : (u : Int) < (v : Int) := by omega
                  have hdl : decide ((u : Int) < (v : Int)) = true := by simp; omega
                  have hdl2 : decide (u < v) = true := by simp; omega
                  go_wp2
                  clear n0
                  obtain ⟨W11, rfl⟩ : ∃ W11 : World, W11 = wr := ⟨_, rfl⟩
                  go_loopw [19] (fun i wj => ∃ x : Nat, i = .int .i64 (x : Int) ∧ x ≤ v ∧ Hid (Pos5 w5 wj pa v X)) (fun i _ => v - (intOf i).toNat)
                  case atStart => exact ⟨0, rfl, by omega, S11.out⟩
                  case round =>
                    obtain ⟨x, rfl, hxi, S12⟩ := hrel
                    have n0 := (F5'.out _ S12.out.blw).nn
                    clear S11
                    by_cases hlt2 : x < v
                    · as_aux_lemma =>
                        have hlt2' : (x : Int) < (v : Int) := by omega
                        obtain ⟨r0, -⟩ := S12.out.arr u hlt
                        obtain ⟨r1, -⟩ := S12.out.arr x hlt2
                        obtain ⟨gu, t0, -, fu, t1, t2⟩ := (F5'.out _ S12.out.blw).re.rows u hlt
                        obtain ⟨gx, t3, -, fx, t4, t5⟩ := (F5'.out _ S12.out.blw).re.rows x hlt2
                        have t6 := t1 x hlt2
                        have t7 := t4 u hlt
                        have hsame := HPT.out.same HAD.out.2.1 hlt hlt2
                        have HQ : Hid (posv X u = posv X x ↔ (fu x = true ∧ fx u = true)) := by
                          unfold Hid
                          rw [hsame, t2 x hlt2, t5 u hlt]
                        obtain ⟨pu, hpu⟩ : ∃ pu, pu = posv X u := ⟨_, rfl⟩
                        obtain ⟨px, hpx⟩ : ∃ px, px = posv X x := ⟨_, rfl⟩
                        rw [← hpu, ← hpx] at HQ
                        simp only [← hpu] at r0
                        simp only [← hpx] at r1
                        clear hpu hpx hsame t1 t2 t4 t5
                        cases hb1 : fu x with
                        | false =>
                          rw [hb1] at HQ t6
                          have hq : ((pu : Int) == (px : Int)) = false := by
                            have h3 := HQ.out
                            simp at h3
                            simp; omega
                          clear hb1
                          go_upto_region 42 with fail
                          go_quiet (fail)
                          obtain ⟨W12, hW12⟩ : ∃ W12, W12 = wr.drewN nq := ⟨_, rfl⟩
                          rw [← hW12]
                          have S13 : Hid (Pos5 w5 W12 pa v X) := by rw [hW12]; exact S12.out.drewN _
                          clear hW12
                          go_wp2
                          go_roundw
                          case rel => exact ⟨x + 1, by go_num, by omega, S13.out⟩
                          case measure => simp [intOf]; omega
                        | true =>
                          cases hb2 : fx u with
                          | false =>
                            rw [hb1, hb2] at HQ
                            rw [hb1] at t6
                            rw [hb2] at t7
                            have hq : ((pu : Int) == (px : Int)) = false := by
                              have h3 := HQ.out
                              simp at h3
                              simp; omega
                            clear hb1 hb2
                            go_upto_region 42 with fail
                            go_quiet (fail)
                            obtain ⟨W12, hW12⟩ : ∃ W12, W12 = wr.drewN nq := ⟨_, rfl⟩
                            rw [← hW12]
                            have S13 : Hid (Pos5 w5 W12 pa v X) := by rw [hW12]; exact S12.out.drewN _
                            clear hW12
                            go_wp2
                            go_roundw
                            case rel => exact ⟨x + 1, by go_num, by omega, S13.out⟩
                            case measure => simp [intOf]; omega
                          | true =>
                            rw [hb1, hb2] at HQ
                            rw [hb1] at t6
                            rw [hb2] at t7
                            have hq : ((pu : Int) == (px : Int)) = true := by
                              have h3 := HQ.out
                              simp at h3
                              simp; omega
                            clear hb1 hb2
                            go_upto_region 42 with fail
                            go_quiet (fail)
                            obtain ⟨W12, hW12⟩ : ∃ W12, W12 = wr.drewN nq := ⟨_, rfl⟩
                            rw [← hW12]
                            have S13 : Hid (Pos5 w5 W12 pa v X) := by rw [hW12]; exact S12.out.drewN _
                            clear hW12
                            go_wp2
                            go_roundw
                            case rel => exact ⟨x + 1, by go_num, by omega, S13.out⟩
                            case measure => simp [intOf]; omega
                    · obtain rfl : x = v := by omega
                      as_aux_lemma =>
                        clear hlt2 hxi
                        have a0 := (F5'.out _ S12.out.blw).ab
                        obtain ⟨xa, xc, a1, hxr⟩ := (F5'.out _ S12.out.blw).ad.row u hlt
                        obtain ⟨l, hl⟩ : ∃ l, l = (adj u).length := ⟨_, rfl⟩
                        have HL : Hid (l = (adj u).length) := hl
                        rw [← hl] at a1
                        have hlb : l ≤ 1024 := by rw [hl]; exact HAD.out.2.2 u hlt
                        have HXR : Hid (∀ (j y : Nat), (adj u)[j]? = some y → ∃ g, xa = some ⟨g, 0, none⟩ ∧ g < pa ∧ wr.cell? ⟨g, j, none⟩ = some (.int .i64 (y : Int))) := hxr
                        clear hl hxr
                        go_wp2
                        clear n0 a0 a1
                        obtain ⟨W12, rfl⟩ : ∃ W12 : World, W12 = wr := ⟨_, rfl⟩
                        go_loopw [151] (fun i wj => ∃ jj : Nat, i = .int .i64 (jj : Int) ∧ jj ≤ l ∧ Hid (Pos5 w5 wj pa x X)) (fun i _ => l - (intOf i).toNat)
                        case atStart => exact ⟨0, rfl, by omega, S12.out⟩
                        case round =>
                          obtain ⟨jj, rfl, hjl, S14⟩ := hrel
                          by_cases hj : jj < l
                          · obtain ⟨y, hy⟩ : ∃ y, (adj u)[jj]? = some y := ⟨_, List.getElem?_eq_getElem (by rw [← HL.out]; exact hj)⟩
                            obtain ⟨gg, hxa, hgg, hyc⟩ := HXR.out jj y hy
                            subst hxa
                            have cy : wr.cell? ⟨gg, jj, none⟩ = some (.int .i64 (y : Int)) := by
                              rw [S14.out.blw.cell (by exact hgg), ← S12.out.blw.cell (by exact hgg)]; exact hyc
                            have hyn : y < x := HAD.out.2.1 u hlt y (List.mem_of_getElem? hy)
                            have hple := HPT.out.edge hlt (List.mem_of_getElem? hy)
                            obtain ⟨r0, -⟩ := S14.out.arr y hyn
                            obtain ⟨r1, -⟩ := S14.out.arr u hlt
                            obtain ⟨py, hpy⟩ : ∃ py, py = posv X y := ⟨_, rfl⟩
                            obtain ⟨pu, hpu⟩ : ∃ pu, pu = posv X u := ⟨_, rfl⟩
                            rw [← hpy, ← hpu] at hple
                            simp only [← hpy] at r0
                            simp only [← hpu] at r1
                            clear hpy hpu hy hyc
                            have d1 : decide ((pu : Int) < (py : Int)) = false := by simp; omega
                            have d2 : decide (pu < py) = false := by simp; omega
                            have hj' : (jj : Int) < (l : Int) := by omega
                            go_upto_region 47 with fail
                            go_quiet (fail)
                            obtain ⟨W15, hW15⟩ : ∃ W15, W15 = wr.drewN nq := ⟨_, rfl⟩
                            rw [← hW15]
                            have S15 : Hid (Pos5 w5 W15 pa x X) := by rw [hW15]; exact S14.out.drewN _
                            clear hW15
                            go_wp2
                            go_roundw
                            case rel => exact ⟨jj + 1, by go_num, by omega, S15.out⟩
                            case measure => simp [intOf]; omega
                          · obtain rfl : jj = l := by omega
                            have n0 := (F5'.out _ S14.out.blw).nn
                            go_wp2
                            go_roundw
                            case rel => exact ⟨u + 1, by go_num, by omega, S14.out⟩
                            case measure => simp [intOf]; omega
                · obtain rfl : u = v := by omega
                  go_wp2
                  go_ret
                  exact ⟨rfl, by rw [← HN.out]; exact HB5.out _ S11.out.blw⟩
end Go.Proofs.Ybulkblzg
