import Derived.Test.YbulkblxqDoorH4
import Derived.Deep.DeepCutAuto
namespace Go.Proofs.YbulkblxqDoor
open Go.RowKit Go.Maps
set_option linter.unusedVariables false
set_option linter.unusedSimpArgs false

set_option maxRecDepth 100000 in
set_option maxHeartbeats 2000000 in
theorem known_small (t0 t1 t2 t3 l0 l1 l2 l3 p0 p1 p2 p3 b0 b1 pre : Int) (a : Option Addr) (n c : Nat) (L : List PIn) (w : World) (hL : IsPIns w a n L) (hbig : bigB L = false)
   (q0 : 0 ≤ p0 ∧ p0 < 256) (q1 : 0 ≤ p1 ∧ p1 < 256) (q2 : 0 ≤ p2 ∧ p2 < 256) (q3 : 0 ≤ p3 ∧ p3 < 256) (hpre : 0 ≤ pre ∧ pre < 256)
   (wb0 : (Lit.int .i32 b0).wf = true) (wb1 : (Lit.int .i32 b1).wf = true) :
    Calls Ybad.prog 4 #[.agg #[.int .i64 t0, .int .i64 t1, .int .i64 t2, .int .i64 t3, .int .u64 l0, .int .u64 l1, .int .u64 l2, .int .u64 l3, .int .u8 p0, .int .u8 p1, .int .u8 p2, .int .u8 p3, .int .i32 b0, .int .i32 b1, .slice a n c, .int .u8 pre]] w fun e w' =>
      e = .returned (.bool true) ∧ Below w.heap.size w w' := by
  have H0 : Hid (IsPIns w a n L ∧ bigB L = false) := ⟨hL, hbig⟩
  have HQ : Hid ((0 ≤ p0 ∧ p0 < 256) ∧ (0 ≤ p1 ∧ p1 < 256) ∧ (0 ≤ p2 ∧ p2 < 256) ∧ (0 ≤ p3 ∧ p3 < 256) ∧ (Lit.int .i32 b0).wf = true ∧ (Lit.int .i32 b1).wf = true) := ⟨q0, q1, q2, q3, wb0, wb1⟩
  clear hL hbig q0 q1 q2 q3 wb0 wb1
  obtain ⟨hp0, hp1⟩ := hpre
  have HBA : Hid (∀ o, Below w.heap.size w (w.alloc o)) := fun o => (Below.refl _ _).alloc (Nat.le_refl _) o
  go_enter Ybad.func4, Ybad.ntmps4
  go_wp2_with fail
  refine (toolarge_any _ _ _ _ _ _ _ _ _ _ _ _ _ _ _ a n c L _ (H0.out.1.below (HBA.out _))).mono ?_
  rintro e w1 ⟨rfl, hb1⟩
  rw [H0.out.2]
  have I1 : Hid (InAt w1 w.heap.size t0 t1 t2 t3 l0 l1 l2 l3 p0 p1 p2 p3 b0 b1 pre a n c) := InAt.below (w := w.alloc _) (heap_at_new _ _) hb1
  have HB1 : Hid (Below w.heap.size w w1) := (HBA.out _).trans (hb1.mono (by simp))
  clear hb1
  obtain ⟨c0, c1, c2, c3, c4, c5, c6, c7, c8, c9, c10, c11, c12, c13, c14, c15⟩ := I1.out.cells
  go_wp2_with fail
  refine (profiles_any a n c L _ (H0.out.1.below HB1.out) H0.out.2).mono ?_
  rintro e w2 ⟨Ps, hP1, hP2, rfl, hP3, hb2⟩
  have I2 : Hid (InAt w2 w.heap.size t0 t1 t2 t3 l0 l1 l2 l3 p0 p1 p2 p3 b0 b1 pre a n c) := I1.out.below hb2
  have HB2 : Hid (Below w.heap.size w w2) := HB1.out.trans (hb2.mono HB1.out.size)
  have HP : Hid (IsProfs w2 w1.heap.size Ps) := hP3
  clear hb2 hP3 c0 c1 c2 c3 c4 c5 c6 c7 c8 c9 c10 c11 c12 c13 c14 c15
  obtain ⟨c0, c1, c2, c3, c4, c5, c6, c7, c8, c9, c10, c11, c12, c13, c14, c15⟩ := I2.out.cells
  obtain ⟨np, hnp⟩ : ∃ np, np = Ps.length := ⟨_, rfl⟩
  rw [← hnp] at hP1 hP2 ⊢
  have HN : Hid (np = Ps.length) := hnp
  clear hnp
  go_wp2_with fail
  refine (classes_any t0 t1 t2 t3 l0 l1 l2 l3 p0 p1 p2 p3 b0 b1 (np : Int) _ _ _ (by omega) (by omega) HQ.out.1 HQ.out.2.1 HQ.out.2.2.1 HQ.out.2.2.2.1).mono ?_
  rintro e w3 ⟨rfl, hb3, hx3, hy3⟩
  have I3 : Hid (InAt w3 w.heap.size t0 t1 t2 t3 l0 l1 l2 l3 p0 p1 p2 p3 b0 b1 pre a n c) := I2.out.below hb3
  have HB3 : Hid (Below w.heap.size w w3) := HB2.out.trans (hb3.mono HB2.out.size)
  have HP3 : Hid (IsProfs w3 w1.heap.size Ps) := HP.out.below hb3
  have HX3 : Hid (IsClass w3 (w2.heap.size + 1) t0 t1 l0 l1 (p0 % (np : Int)) (p1 % (np : Int)) b0 ∧ IsClass w3 (w2.heap.size + 2) t2 t3 l2 l3 (p2 % (np : Int)) (p3 % (np : Int)) b1) := ⟨hx3, hy3⟩
  clear hb3 HP hx3 hy3 c0 c1 c2 c3 c4 c5 c6 c7 c8 c9 c10 c11 c12 c13 c14 c15
  obtain ⟨c0, c1, c2, c3, c4, c5, c6, c7, c8, c9, c10, c11, c12, c13, c14, c15⟩ := I3.out.cells
  go_wp2_with fail
  refine (edges_call t0 t1 t2 t3 l0 l1 l2 l3 p0 p1 p2 p3 b0 b1 _ _ _ _ np Ps _ HN.out hP1 hP2 HQ.out.1 HQ.out.2.1 HQ.out.2.2.1 HQ.out.2.2.2.1 HP3.out).mono ?_
  rintro e w4 ⟨rfl, hb4⟩
  have I4 : Hid (InAt w4 w.heap.size t0 t1 t2 t3 l0 l1 l2 l3 p0 p1 p2 p3 b0 b1 pre a n c) := I3.out.below hb4
  have HB4 : Hid (Below w.heap.size w w4) := HB3.out.trans (hb4.mono HB3.out.size)
  have HP4 : Hid (IsProfs w4 w1.heap.size Ps) := HP3.out.below hb4
  have HX4 : Hid (IsClass w4 (w2.heap.size + 1) t0 t1 l0 l1 (p0 % (np : Int)) (p1 % (np : Int)) b0 ∧ IsClass w4 (w2.heap.size + 2) t2 t3 l2 l3 (p2 % (np : Int)) (p3 % (np : Int)) b1) := ⟨HX3.out.1.below hb4, HX3.out.2.below hb4⟩
  obtain ⟨E, hE⟩ : ∃ E, E = edgeV t0 t1 t2 t3 p0 p1 p2 p3 Ps := ⟨_, rfl⟩
  rw [← hE]
  have HE : Hid (E = edgeV t0 t1 t2 t3 p0 p1 p2 p3 Ps) := hE
  clear hb4 HP3 HX3 hE c0 c1 c2 c3 c4 c5 c6 c7 c8 c9 c10 c11 c12 c13 c14 c15
  obtain ⟨c0, c1, c2, c3, c4, c5, c6, c7, c8, c9, c10, c11, c12, c13, c14, c15⟩ := I4.out.cells
  clear c0 c1 c2 c3 c4 c5 c6 c7 c8 c9 c10 c11 c14
  have hmm := @run_makeMap Ybad.prog
  have d12 : ∀ o, (w4.alloc o).cell? ⟨w.heap.size, 12, none⟩ = some (.int .i32 b0) := fun o => cell_alloc c12 o
  have d13 : ∀ o, (w4.alloc o).cell? ⟨w.heap.size, 13, none⟩ = some (.int .i32 b1) := fun o => cell_alloc c13 o
  go_upto_region 7 with fail
  obtain ⟨kl, hkl, hkk⟩ := key65' HQ.out.2.2.2.2.1 HQ.out.2.2.2.2.2 (show (Lit.int .u64 E).wf = true by rw [HE.out]; exact edgeV_wf _ _ _ _ _ _ _ _ _)
  have HK : Hid (keyOf Ybad.prog 65 (.agg #[.int .i32 b0, .int .i32 b1, .int .u64 E]) = some kl ∧ WideAt.IsKeyLit kl) := ⟨hkl, hkk⟩
  clear hkl hkk
  have hwf : Hid ((Lit.int .i64 (pre + 7)).wf = true) := WalkArith.wf_i64 (by omega)
  go_wp2_with (refine wpList_insert_own (H := Unit) _ rfl (.tmp 30) (.tmp 36) (.tmp 37) 58 rfl 65 3 law65 Ybad.underlying58 (plainElem Ybad.prog 3) w4.heap.size 0 (.map []) rfl (World.ownsMap_made _ _ _ _) maxLen_pos (.agg #[.int .i32 b0, .int .i32 b1, .int .u64 E]) (.int .i64 (pre + 7)) kl rfl rfl HK.out.1 (.lit (.int .i64 (pre + 7))) [] (plainElem_int Ybad.underlying3 hwf.out) ?_)
  intro w5 hown5 hgrow5
  have HG : Hid (Below w4.heap.size w4 w5) := ((Below.refl _ _).alloc (Nat.le_refl _) _).grown hgrow5 (by simp) (fun k hk => by cases hk; exact Nat.le_refl _)
  have HM5 : Hid (w5.ownsMap Ybad.prog 65 (plainElem Ybad.prog 3) w4.heap.size 1 (kmap kl (pre + 7))) := hown5
  clear hown5 hgrow5 hmm
  have I5 : Hid (InAt w5 w.heap.size t0 t1 t2 t3 l0 l1 l2 l3 p0 p1 p2 p3 b0 b1 pre a n c) := I4.out.below HG.out
  have HB5 : Hid (Below w.heap.size w w5) := HB4.out.trans (HG.out.mono HB4.out.size)
  have HP5 : Hid (IsProfs w5 w1.heap.size Ps) := HP4.out.below HG.out
  have HX5 : Hid (IsClass w5 (w2.heap.size + 1) t0 t1 l0 l1 (p0 % (np : Int)) (p1 % (np : Int)) b0 ∧ IsClass w5 (w2.heap.size + 2) t2 t3 l2 l3 (p2 % (np : Int)) (p3 % (np : Int)) b1) := ⟨HX4.out.1.below HG.out, HX4.out.2.below HG.out⟩
  clear HG HX4 HP4 c12 c13 c15 d12 d13
  go_upto_region 8 with fail
  go_cut [9] (fun s9 wx => ∃ bf, s9 = .pointer (some ⟨bf, 0, none⟩) ∧ Hid (FindAt w5 wx bf w1.heap.size np (n + 1)))
  case first =>
    go_wp2
    go_meet
    case rel => exact ⟨_, rfl, findAt_of HB5.out (by kernel_rfl) (by kernel_rfl)⟩
  case rest =>
    obtain ⟨bf, rfl, FA⟩ := hcut
    have I6 : Hid (InAt wc w.heap.size t0 t1 t2 t3 l0 l1 l2 l3 p0 p1 p2 p3 b0 b1 pre a n c) := I5.out.below FA.out.2.2
    have HB6 : Hid (Below w.heap.size w wc) := HB5.out.trans (FA.out.2.2.mono HB5.out.size)
    have HM6 : Hid (wc.ownsMap Ybad.prog 65 (plainElem Ybad.prog 3) w4.heap.size 1 (kmap kl (pre + 7))) := map_below HM5.out FA.out.2.2
    have HP6 : Hid (IsProfs wc w1.heap.size Ps) := HP5.out.below FA.out.2.2
    have HX6 : Hid (IsClass wc (w2.heap.size + 1) t0 t1 l0 l1 (p0 % (np : Int)) (p1 % (np : Int)) b0 ∧ IsClass wc (w2.heap.size + 2) t2 t3 l2 l3 (p2 % (np : Int)) (p3 % (np : Int)) b1) := ⟨HX5.out.1.below FA.out.2.2, HX5.out.2.below FA.out.2.2⟩
    have HC : Hid (∀ W, Below wc.heap.size wc W → Calls Ybad.prog 12 #[.pointer (some ⟨bf, 0, none⟩), .pointer (some ⟨w2.heap.size + 1, 0, none⟩), .pointer (some ⟨w2.heap.size + 2, 0, none⟩)] W fun e' w' => e' = .returned (.int .u64 E) ∧ Below W.heap.size W w') := by
      intro W hW
      rw [HE.out]
      exact apart_call bf _ _ w1.heap.size (n + 1) np t0 t1 t2 t3 l0 l1 l2 l3 p0 p1 p2 p3 b0 b1 Ps W HN.out hP1 hP2 (HX6.out.1.below hW) (HX6.out.2.below hW) (FA.out.below hW).1 (HP6.out.below hW)
    clear HM5 HX5 HP5 HB5 I5
    have kh := kmap_has kl (pre + 7) HK.out.2
    have KH : Hid (Maps.has (kmap kl (pre + 7)) kl = true ∧ (kmap kl (pre + 7)).atKey kl (.lit (.int .i64 0)) = .lit (.int .i64 (pre + 7))) := ⟨kh.1, kh.2.1⟩
    clear kh
    go_wp2_with fail
    refine (shape_known bf _ _ w4.heap.size b0 b1 E (pre + 7) 1 (kmap kl (pre + 7)) kl wc HX6.out.1.2.2.2.2.2.2 HX6.out.2.2.2.2.2.2.2 HK.out.1 HM6.out KH.out.2 KH.out.1 HC.out).mono ?_
    rintro e w7 ⟨rfl, hb7⟩
    have HM7 := map_below HM6.out hb7
    have hlk := map_look HK.out.2 HK.out.1 HM7
    have hln := map_len HM7
    have h29 := (FA.out.below hb7).2.1
    have i12 := (I6.out.below hb7).cells.2.2.2.2.2.2.2.2.2.2.2.2.1
    have i13 := (I6.out.below hb7).cells.2.2.2.2.2.2.2.2.2.2.2.2.2.1
    have HB7 : Hid (Below w.heap.size w w7) := HB6.out.trans (hb7.mono HB6.out.size)
    clear hb7 HM7
    go_wp2
    go_ret
    exact ⟨rfl, HB7.out⟩

theorem known_any (t0 t1 t2 t3 l0 l1 l2 l3 p0 p1 p2 p3 b0 b1 pre : Int) (a : Option Addr) (n c : Nat) (L : List PIn) (w : World) (hL : IsPIns w a n L)
   (q0 : 0 ≤ p0 ∧ p0 < 256) (q1 : 0 ≤ p1 ∧ p1 < 256) (q2 : 0 ≤ p2 ∧ p2 < 256) (q3 : 0 ≤ p3 ∧ p3 < 256) (hpre : 0 ≤ pre ∧ pre < 256)
   (wb0 : (Lit.int .i32 b0).wf = true) (wb1 : (Lit.int .i32 b1).wf = true) :
    Calls Ybad.prog 4 #[.agg #[.int .i64 t0, .int .i64 t1, .int .i64 t2, .int .i64 t3, .int .u64 l0, .int .u64 l1, .int .u64 l2, .int .u64 l3, .int .u8 p0, .int .u8 p1, .int .u8 p2, .int .u8 p3, .int .i32 b0, .int .i32 b1, .slice a n c, .int .u8 pre]] w fun e w' =>
      e = .returned (.bool true) ∧ Below w.heap.size w w' := by
  cases hbig : bigB L with
  | false => exact known_small t0 t1 t2 t3 l0 l1 l2 l3 p0 p1 p2 p3 b0 b1 pre a n c L w hL hbig q0 q1 q2 q3 hpre wb0 wb1
  | true =>
    have H0 : Hid (IsPIns w a n L ∧ bigB L = true) := ⟨hL, hbig⟩
    clear hL hbig q0 q1 q2 q3 hpre wb0 wb1
    have HBA : Hid (∀ o, Below w.heap.size w (w.alloc o)) := fun o => (Below.refl _ _).alloc (Nat.le_refl _) o
    go_enter Ybad.func4, Ybad.ntmps4
    go_wp2_with fail
    refine (toolarge_any _ _ _ _ _ _ _ _ _ _ _ _ _ _ _ a n c L _ (H0.out.1.below (HBA.out _))).mono ?_
    rintro e w1 ⟨rfl, hb1⟩
    rw [H0.out.2]
    have HB1 : Hid (Below w.heap.size w w1) := (HBA.out _).trans (hb1.mono (by simp))
    clear hb1
    go_wp2
    go_ret
    exact ⟨rfl, HB1.out⟩
end Go.Proofs.YbulkblxqDoor
