import Derived.Test.YbulkblxqDoorE
import Derived.Deep.QuietTactic
import Derived.BigQuiet
namespace Go.Proofs.YbulkblxqDoor
open Go.RowKit
set_option linter.unusedVariables false
set_option linter.unusedSimpArgs false

set_option maxHeartbeats 2000000 in
theorem edges_any (t0 t1 t2 t3 l0 l1 l2 l3 p0 p1 p2 p3 b0 b1 : Int) (x14 x15 : Value) (g cap : Nat) (Ps : List POut) (w : World) (hn : 0 < Ps.length) (hn' : Ps.length ≤ 1024)
   (q0 : 0 ≤ p0 ∧ p0 < 256) (q1 : 0 ≤ p1 ∧ p1 < 256) (q2 : 0 ≤ p2 ∧ p2 < 256) (q3 : 0 ≤ p3 ∧ p3 < 256) (hP : IsProfs w g Ps) :
    Calls Ybad.prog 9 #[.agg #[.int .i64 t0, .int .i64 t1, .int .i64 t2, .int .i64 t3, .int .u64 l0, .int .u64 l1, .int .u64 l2, .int .u64 l3, .int .u8 p0, .int .u8 p1, .int .u8 p2, .int .u8 p3, .int .i32 b0, .int .i32 b1, x14, x15],
       .slice (some ⟨g, 0, none⟩) Ps.length cap] w fun e w' =>
      e = .returned (.int .u64 (outE (cB [fx 0 t0, fx 1 t1, fx 2 t2, fx 3 t3] [(p0 % (Ps.length : Int)).toNat, (p1 % (Ps.length : Int)).toNat, (p2 % (Ps.length : Int)).toNat, (p3 % (Ps.length : Int)).toNat] Ps) 4)) ∧ Below w.heap.size w w' := by
  obtain ⟨q00, q01⟩ := q0
  obtain ⟨q10, q11⟩ := q1
  obtain ⟨q20, q21⟩ := q2
  obtain ⟨q30, q31⟩ := q3
  have HP : Hid (IsProfs w g Ps) := hP
  clear hP
  obtain ⟨n, hnl⟩ : ∃ n, n = Ps.length := ⟨_, rfl⟩
  rw [← hnl] at hn hn' ⊢
  have HN : Hid (Ps.length = n) := hnl.symm
  clear hnl
  obtain ⟨c, hcd⟩ : ∃ c, c = cB [fx 0 t0, fx 1 t1, fx 2 t2, fx 3 t3] [(p0 % (n : Int)).toNat, (p1 % (n : Int)).toNat, (p2 % (n : Int)).toNat, (p3 % (n : Int)).toNat] Ps := ⟨_, rfl⟩
  rw [← hcd]
  have HCD : Hid (c = cB [fx 0 t0, fx 1 t1, fx 2 t2, fx 3 t3] [(p0 % (n : Int)).toNat, (p1 % (n : Int)).toNat, (p2 % (n : Int)).toNat, (p3 % (n : Int)).toNat] Ps) := hcd
  clear hcd
  have hne : ¬ n = 0 := by omega
  go_enter Ybad.func9, Ybad.ntmps9
  go_wp2
  go_loopw [7] (fun i wr => ∃ (k : Nat) (u0 u1 u2 u3 : Int), k ≤ 4 ∧ i = .int .i64 k ∧
      wr = (w.alloc (.cells #[.int .i64 t0, .int .i64 t1, .int .i64 t2, .int .i64 t3, .int .u64 l0, .int .u64 l1, .int .u64 l2, .int .u64 l3, .int .u8 p0, .int .u8 p1, .int .u8 p2, .int .u8 p3, .int .i32 b0, .int .i32 b1, x14, x15] 25)).alloc (.cells #[.int .i64 u0, .int .i64 u1, .int .i64 u2, .int .i64 u3] 40) ∧
      Hid (u0 = (if 0 < k then fx 0 t0 else t0) ∧ u1 = (if 1 < k then fx 1 t1 else t1) ∧ u2 = (if 2 < k then fx 2 t2 else t2) ∧ u3 = (if 3 < k then fx 3 t3 else t3))) (fun i _ => 4 - (intOf i).toNat)
  case atStart => exact ⟨0, t0, t1, t2, t3, by omega, rfl, rfl, rfl, rfl, rfl, rfl⟩
  case round =>
    obtain ⟨k, u0, u1, u2, u3, hk, rfl, rfl, HU⟩ := hrel
    rcases (show k = 0 ∨ k = 1 ∨ k = 2 ∨ k = 3 ∨ k = 4 by omega) with rfl | rfl | rfl | rfl | rfl
    · by_cases hs : u0 < 0
      · have HR : Hid (∀ x, x = -1 - (0 : Int) → x = (if 0 < 1 then fx 0 t0 else t0) ∧ u1 = (if 1 < 1 then fx 1 t1 else t1) ∧ u2 = (if 2 < 1 then fx 2 t2 else t2) ∧ u3 = (if 3 < 1 then fx 3 t3 else t3)) := by
          obtain ⟨e0, e1, e2, e3⟩ := HU.out
          simp at e0 e1 e2 e3
          intro x hx
          subst hx
          refine ⟨?_, ?_, ?_, ?_⟩ <;> first | assumption | (simp; assumption) | (simp [fx]; omega) | (subst e0; simp [fx]; omega)
        go_wp2
        go_roundw
        case rel => exact ⟨1, _, u1, u2, u3, by omega, rfl, rfl, HR.out _ (by first | rfl | omega)⟩
        case measure => simp [intOf]
      · have HR : Hid (∀ x, x = u0 → x = (if 0 < 1 then fx 0 t0 else t0) ∧ u1 = (if 1 < 1 then fx 1 t1 else t1) ∧ u2 = (if 2 < 1 then fx 2 t2 else t2) ∧ u3 = (if 3 < 1 then fx 3 t3 else t3)) := by
          obtain ⟨e0, e1, e2, e3⟩ := HU.out
          simp at e0 e1 e2 e3
          intro x hx
          subst hx
          refine ⟨?_, ?_, ?_, ?_⟩ <;> first | assumption | (simp; assumption) | (simp [fx]; omega) | (subst e0; simp [fx]; omega)
        go_wp2
        go_roundw
        case rel => exact ⟨1, u0, u1, u2, u3, by omega, rfl, rfl, HR.out _ (by first | rfl | omega)⟩
        case measure => simp [intOf]
    · by_cases hs : u1 < 0
      · have HR : Hid (∀ x, x = -1 - (1 : Int) → u0 = (if 0 < 2 then fx 0 t0 else t0) ∧ x = (if 1 < 2 then fx 1 t1 else t1) ∧ u2 = (if 2 < 2 then fx 2 t2 else t2) ∧ u3 = (if 3 < 2 then fx 3 t3 else t3)) := by
          obtain ⟨e0, e1, e2, e3⟩ := HU.out
          simp at e0 e1 e2 e3
          intro x hx
          subst hx
          refine ⟨?_, ?_, ?_, ?_⟩ <;> first | assumption | (simp; assumption) | (simp [fx]; omega) | (subst e1; simp [fx]; omega)
        go_wp2
        go_roundw
        case rel => exact ⟨2, u0, _, u2, u3, by omega, rfl, rfl, HR.out _ (by first | rfl | omega)⟩
        case measure => simp [intOf]
      · have HR : Hid (∀ x, x = u1 → u0 = (if 0 < 2 then fx 0 t0 else t0) ∧ x = (if 1 < 2 then fx 1 t1 else t1) ∧ u2 = (if 2 < 2 then fx 2 t2 else t2) ∧ u3 = (if 3 < 2 then fx 3 t3 else t3)) := by
          obtain ⟨e0, e1, e2, e3⟩ := HU.out
          simp at e0 e1 e2 e3
          intro x hx
          subst hx
          refine ⟨?_, ?_, ?_, ?_⟩ <;> first | assumption | (simp; assumption) | (simp [fx]; omega) | (subst e1; simp [fx]; omega)
        go_wp2
        go_roundw
        case rel => exact ⟨2, u0, u1, u2, u3, by omega, rfl, rfl, HR.out _ (by first | rfl | omega)⟩
        case measure => simp [intOf]
    · by_cases hs : u2 < 0
      · have HR : Hid (∀ x, x = -1 - (2 : Int) → u0 = (if 0 < 3 then fx 0 t0 else t0) ∧ u1 = (if 1 < 3 then fx 1 t1 else t1) ∧ x = (if 2 < 3 then fx 2 t2 else t2) ∧ u3 = (if 3 < 3 then fx 3 t3 else t3)) := by
          obtain ⟨e0, e1, e2, e3⟩ := HU.out
          simp at e0 e1 e2 e3
          intro x hx
          subst hx
          refine ⟨?_, ?_, ?_, ?_⟩ <;> first | assumption | (simp; assumption) | (simp [fx]; omega) | (subst e2; simp [fx]; omega)
        go_wp2
        go_roundw
        case rel => exact ⟨3, u0, u1, _, u3, by omega, rfl, rfl, HR.out _ (by first | rfl | omega)⟩
        case measure => simp [intOf]
      · have HR : Hid (∀ x, x = u2 → u0 = (if 0 < 3 then fx 0 t0 else t0) ∧ u1 = (if 1 < 3 then fx 1 t1 else t1) ∧ x = (if 2 < 3 then fx 2 t2 else t2) ∧ u3 = (if 3 < 3 then fx 3 t3 else t3)) := by
          obtain ⟨e0, e1, e2, e3⟩ := HU.out
          simp at e0 e1 e2 e3
          intro x hx
          subst hx
          refine ⟨?_, ?_, ?_, ?_⟩ <;> first | assumption | (simp; assumption) | (simp [fx]; omega) | (subst e2; simp [fx]; omega)
        go_wp2
        go_roundw
        case rel => exact ⟨3, u0, u1, u2, u3, by omega, rfl, rfl, HR.out _ (by first | rfl | omega)⟩
        case measure => simp [intOf]
    · by_cases hs : u3 < 0
      · have HR : Hid (∀ x, x = -1 - (3 : Int) → u0 = (if 0 < 4 then fx 0 t0 else t0) ∧ u1 = (if 1 < 4 then fx 1 t1 else t1) ∧ u2 = (if 2 < 4 then fx 2 t2 else t2) ∧ x = (if 3 < 4 then fx 3 t3 else t3)) := by
          obtain ⟨e0, e1, e2, e3⟩ := HU.out
          simp at e0 e1 e2 e3
          intro x hx
          subst hx
          refine ⟨?_, ?_, ?_, ?_⟩ <;> first | assumption | (simp; assumption) | (simp [fx]; omega) | (subst e3; simp [fx]; omega)
        go_wp2
        go_roundw
        case rel => exact ⟨4, u0, u1, u2, _, by omega, rfl, rfl, HR.out _ (by first | rfl | omega)⟩
        case measure => simp [intOf]
      · have HR : Hid (∀ x, x = u3 → u0 = (if 0 < 4 then fx 0 t0 else t0) ∧ u1 = (if 1 < 4 then fx 1 t1 else t1) ∧ u2 = (if 2 < 4 then fx 2 t2 else t2) ∧ x = (if 3 < 4 then fx 3 t3 else t3)) := by
          obtain ⟨e0, e1, e2, e3⟩ := HU.out
          simp at e0 e1 e2 e3
          intro x hx
          subst hx
          refine ⟨?_, ?_, ?_, ?_⟩ <;> first | assumption | (simp; assumption) | (simp [fx]; omega) | (subst e3; simp [fx]; omega)
        go_wp2
        go_roundw
        case rel => exact ⟨4, u0, u1, u2, u3, by omega, rfl, rfl, HR.out _ (by first | rfl | omega)⟩
        case measure => simp [intOf]
    · obtain ⟨e0, e1, e2, e3⟩ := HU.out
      simp at e0 e1 e2 e3
      subst e0 e1 e2 e3
      clear HU
      obtain ⟨u0, hu0⟩ : ∃ u, u = fx 0 t0 := ⟨_, rfl⟩
      obtain ⟨u1, hu1⟩ : ∃ u, u = fx 1 t1 := ⟨_, rfl⟩
      obtain ⟨u2, hu2⟩ : ∃ u, u = fx 2 t2 := ⟨_, rfl⟩
      obtain ⟨u3, hu3⟩ : ∃ u, u = fx 3 t3 := ⟨_, rfl⟩
      rw [← hu0, ← hu1, ← hu2, ← hu3] at HCD ⊢
      clear hu0 hu1 hu2 hu3
      go_wp2
      go_region_held3 (fun w' => w'.cell? ⟨w.heap.size, 8, none⟩ = some (.int .u8 p0) ∧ w'.cell? ⟨w.heap.size, 9, none⟩ = some (.int .u8 p1) ∧ w'.cell? ⟨w.heap.size, 10, none⟩ = some (.int .u8 p2) ∧ w'.cell? ⟨w.heap.size, 11, none⟩ = some (.int .u8 p3)) (go_keep) (fail)
      rename_i hHeld
      clear hHeld
      obtain ⟨W0, hW0⟩ : ∃ W0 : World, W0 = (((w.alloc (.cells #[.int .i64 t0, .int .i64 t1, .int .i64 t2, .int .i64 t3, .int .u64 l0, .int .u64 l1, .int .u64 l2, .int .u64 l3, .int .u8 p0, .int .u8 p1, .int .u8 p2, .int .u8 p3, .int .i32 b0, .int .i32 b1, x14, x15] 25)).alloc (.cells #[.int .i64 u0, .int .i64 u1, .int .i64 u2, .int .i64 u3] 40)).alloc (.cells #[.int .i64 ((IntKind.i64.wrap p0).tmod n), .int .i64 ((IntKind.i64.wrap p1).tmod n), .int .i64 ((IntKind.i64.wrap p2).tmod n), .int .i64 ((IntKind.i64.wrap p3).tmod n)] 40)).drew := ⟨_, rfl⟩
      rw [← hW0]
      have HB0 : Hid (Below w.heap.size w W0) := by
        rw [hW0]
        exact ((((Below.refl _ _).alloc (Nat.le_refl _) _).alloc (by simp) _).alloc (by simp; omega) _).drew
      have HE : Hid (EdgeW W0 (w.heap.size + 1) (w.heap.size + 2) g [u0, u1, u2, u3] [(p0 % (n : Int)).toNat, (p1 % (n : Int)).toNat, (p2 % (n : Int)).toNat, (p3 % (n : Int)).toNat] Ps) := by
        refine edgeW_of (t := 40) (t' := 40) (m := (0, 0)) (m' := (0, 0)) hn HN.out ⟨q00, q01⟩ ⟨q10, q11⟩ ⟨q20, q21⟩ ⟨q30, q31⟩ ?_ ?_ (HP.out.below HB0.out)
        · rw [hW0]; exact heap3_mid _ _ _ _
        · rw [hW0]; exact heap3_last _ _ _ _
      have HS : Hid (W0.heap.size = w.heap.size + 3) := by
        rw [hW0]; unfold Hid; simp
      clear hW0
      go_wp2
      go_loopw [9, 10] (fun e a wr => ∃ (k : Nat), k ≤ 4 ∧ a = .int .i64 k ∧ e = .int .u64 (outE c k) ∧ Hid (Below W0.heap.size W0 wr)) (fun _ a _ => 4 - (intOf a).toNat)
      case atStart => exact ⟨0, by omega, rfl, rfl, Below.refl _ _⟩
      case round =>
        obtain ⟨k, hk, rfl, rfl, HW⟩ := hrel
        by_cases hk4 : k < 4
        · obtain ⟨e0, he0⟩ : ∃ e0, e0 = outE c k := ⟨_, rfl⟩
          rw [← he0]
          have HE0 : Hid (e0 = outE c k) := he0
          clear he0
          go_wp2
          rw [show decide ((k : Int) < 4) = true from decide_eq_true (by omega)]
          go_loopw [9, 11] (fun e b wr => ∃ (m : Nat), k + 1 + m ≤ 4 ∧ b = .int .i64 ((k + 1 + m : Nat) : Int) ∧ e = .int .u64 (innE c k e0 m) ∧ Hid (Below W0.heap.size W0 wr)) (fun _ b _ => 4 - (intOf b).toNat)
          case atStart => exact ⟨0, by omega, by go_num, rfl, HW⟩
          case round =>
            clear HW
            obtain ⟨m, hm, rfl, rfl, HW⟩ := hrel
            by_cases hm4 : k + 1 + m < 4
            · obtain ⟨x, y, ka, kb, pa, pb, c1, c2, c3, c4, c5, c6, c7, c8, c9, c10, c11, c12, c13, c14, hcB⟩ := (HE.out.below HW.out).pair hk4 hm4
              rw [← HCD.out] at hcB
              have HX := innE_succ c k e0 m _ rfl
              rw [hcB] at HX
              have HX1 : Hid (innE c k e0 (m + 1) = stepE (innE c k e0 m) ((x == y) || confB pa.hub pa.zs pb.hub pb.zs) k (k + 1 + m)) := HX
              have HI1 : Hid (IsInts .i64 wr pa.a pa.n pa.zs ∧ IsInts .i64 wr pb.a pb.n pb.zs) := ⟨c11, c13⟩
              rw [HN.out] at c5 c6
              clear HX hcB c11 c12 c13 c14
              have hm0 : ((k + 1 + m : Nat) : Int) = (k : Int) + 1 + (m : Int) := by omega
              obtain ⟨e1, he1⟩ : ∃ e1, e1 = innE c k e0 m := ⟨_, rfl⟩
              rw [← he1] at HX1 ⊢
              clear he1
              obtain ⟨b, hb⟩ : ∃ b, b = k + 1 + m := ⟨_, rfl⟩
              rw [← hb] at HX1 hm4 c2 c4 ⊢
              have HBM : Hid (b = k + 1 + m) := hb
              clear hb hm0
              have hb4 : (b : Int) < 4 := by omega
              have hka : (ka : Int) < (n : Int) := by omega
              have hkb : (kb : Int) < (n : Int) := by omega
              by_cases hxy : x = y
              · have hg : (x == y) = true := by simp [hxy]
                subst hxy
                go_wp2
                go_quiet (fail)
                go_wp2
                go_roundw
                case rel => exact ⟨m + 1, by have := HBM.out; omega, by have := HBM.out; go_num, by rw [HX1.out]; simp [stepE_true], below_drewN HW.out _⟩
                case measure => simp [intOf]; omega
              · have hg : (x == y) = false := by simp [hxy]
                have HR : Hid (((x == y) || confB pa.hub pa.zs pb.hub pb.zs) = confB pa.hub pa.zs pb.hub pb.zs) := by rw [hg]; rfl
                have HC17 : Hid (∀ W, Below wr.heap.size wr W → Calls Ybad.prog 17 #[.agg #[.int .i64 pa.hub, .slice pa.a pa.n pa.c], .agg #[.int .i64 pb.hub, .slice pb.a pb.n pb.c]] W fun e w' => e = .returned (.bool (confB pa.hub pa.zs pb.hub pb.zs)) ∧ Below W.heap.size W w') :=
                  fun W hW => conf_any _ _ _ _ _ _ _ _ _ _ W (HI1.out.1.below hW) (HI1.out.2.below hW)
                obtain ⟨r, hr⟩ : ∃ r, r = confB pa.hub pa.zs pb.hub pb.zs := ⟨_, rfl⟩
                rw [HR.out, ← hr] at HX1
                rw [← hr] at HC17
                clear HR hr HI1
                have HD : Hid (Below wr.heap.size wr wr.drew) := (Below.refl _ _).drew
                go_wp2
                go_region_held3 (fun w' => w'.cell? ⟨w.heap.size + 1, k, none⟩ = some (.int .i64 x) ∧ w'.cell? ⟨w.heap.size + 1, b, none⟩ = some (.int .i64 y) ∧ w'.cell? ⟨w.heap.size + 2, k, none⟩ = some (.int .i64 (ka : Int)) ∧ w'.cell? ⟨w.heap.size + 2, b, none⟩ = some (.int .i64 (kb : Int)) ∧ w'.cell? ⟨g, ka * 2, none⟩ = some (.int .i64 pa.hub) ∧ w'.cell? ⟨g, ka * 2 + 1, none⟩ = some (.slice pa.a pa.n pa.c) ∧ w'.cell? ⟨g, kb * 2, none⟩ = some (.int .i64 pb.hub) ∧ w'.cell? ⟨g, kb * 2 + 1, none⟩ = some (.slice pb.a pb.n pb.c)) (first | go_keep | exact keep8 (by assumption) (by assumption)) ((go_at_call 17; refine (HC17.out _ HD.out).mono ?_; rintro e w17 ⟨rfl, hb17⟩))
                rename_i hHeld
                clear hHeld
                have HB17 : Hid (Below W0.heap.size W0 w17) := HW.out.trans ((HD.out.trans hb17).mono HW.out.size)
                clear hb17 c1 c2 c3 c4 c7 c8 c9 c10
                go_wp2
                · have hrt : r = true := by assumption
                  have HX2 : Hid (innE c k e0 (m + 1) = stepE e1 true k b) := by rw [← hrt]; exact HX1
                  go_roundw
                  case rel => exact ⟨m + 1, by have := HBM.out; omega, by have := HBM.out; go_num, by rw [HX2.out]; simp [stepE_true], HB17⟩
                  case measure => simp [intOf]; omega
                · have hrt : r = false := by assumption
                  have HX2 : Hid (innE c k e0 (m + 1) = stepE e1 false k b) := by rw [← hrt]; exact HX1
                  go_roundw
                  case rel => exact ⟨m + 1, by have := HBM.out; omega, by have := HBM.out; go_num, by rw [HX2.out]; simp [stepE_false], HB17⟩
                  case measure => simp [intOf]; omega
            · have HO := outE_succ c k m (by omega)
              rw [← HE0.out] at HO
              have HO1 : Hid (outE c (k + 1) = innE c k e0 m) := HO
              clear HO
              have hm5 : k + 1 + m = 4 := by omega
              obtain ⟨b, hb⟩ : ∃ b, b = k + 1 + m := ⟨_, rfl⟩
              rw [← hb] at hm4 hm5 ⊢
              clear hb
              subst hm5
              obtain ⟨e1, he1⟩ : ∃ e1, e1 = innE c k e0 m := ⟨_, rfl⟩
              rw [← he1] at HO1 ⊢
              clear he1
              go_wp2
              go_roundw
              case rel => exact ⟨k + 1, by omega, by go_num, by rw [HO1.out], HW⟩
              case measure => simp [intOf]; omega
        · obtain rfl : k = 4 := by omega
          obtain ⟨e1, he1⟩ : ∃ e1, e1 = outE c 4 := ⟨_, rfl⟩
          rw [← he1]
          have HE1 : Hid (e1 = outE c 4) := he1
          clear he1
          go_wp2
          go_ret
          exact ⟨ret_int HE1.out, HB0.out.trans (HW.out.mono HB0.out.size)⟩
end Go.Proofs.YbulkblxqDoor
