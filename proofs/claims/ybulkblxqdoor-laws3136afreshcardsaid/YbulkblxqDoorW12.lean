import Derived.Test.YbulkblxqDoorE
import Derived.Deep.QuietTactic
import Derived.BigQuiet
namespace Go.Proofs.YbulkblxqDoor
open Go.RowKit
set_option linter.unusedVariables false
set_option linter.unusedSimpArgs false

theorem keep9 {W w' : World} (hb : Below W.heap.size W w') {a1 a2 a3 a4 a5 a6 a7 a8 a9 : Addr} {v1 v2 v3 v4 v5 v6 v7 v8 v9 : Value}
    (h : W.cell? a1 = some v1 ∧ W.cell? a2 = some v2 ∧ W.cell? a3 = some v3 ∧ W.cell? a4 = some v4 ∧ W.cell? a5 = some v5 ∧ W.cell? a6 = some v6 ∧ W.cell? a7 = some v7 ∧ W.cell? a8 = some v8 ∧ W.cell? a9 = some v9) :
    w'.cell? a1 = some v1 ∧ w'.cell? a2 = some v2 ∧ w'.cell? a3 = some v3 ∧ w'.cell? a4 = some v4 ∧ w'.cell? a5 = some v5 ∧ w'.cell? a6 = some v6 ∧ w'.cell? a7 = some v7 ∧ w'.cell? a8 = some v8 ∧ w'.cell? a9 = some v9 := by
  obtain ⟨h1, h2, h3, h4, h5, h6, h7, h8, h9⟩ := h
  exact ⟨by rw [hb.cell (cell_lt h1)]; exact h1, by rw [hb.cell (cell_lt h2)]; exact h2, by rw [hb.cell (cell_lt h3)]; exact h3, by rw [hb.cell (cell_lt h4)]; exact h4,
    by rw [hb.cell (cell_lt h5)]; exact h5, by rw [hb.cell (cell_lt h6)]; exact h6, by rw [hb.cell (cell_lt h7)]; exact h7, by rw [hb.cell (cell_lt h8)]; exact h8, by rw [hb.cell (cell_lt h9)]; exact h9⟩

theorem heap2_first (w : World) (A X : Obj) (q : Nat) : (((w.alloc A).drewN q).alloc X).heap[w.heap.size]? = some A := by
  show ((w.heap.push A).push X)[w.heap.size]? = _
  rw [Array.getElem?_push, if_neg (by simp), Array.getElem?_push, if_pos (by simp)]

theorem heap2_last (w : World) (A X : Obj) (q : Nat) : (((w.alloc A).drewN q).alloc X).heap[w.heap.size + 1]? = some X := by
  show ((w.heap.push A).push X)[w.heap.size + 1]? = _
  rw [Array.getElem?_push, if_pos (by simp)]

theorem edgeW_of2 {W : World} {bt bp g : Nat} {u0 u1 u2 u3 : Int} {k0 k1 k2 k3 : Nat} {t t' : TypeId} {m m' : Nat × Nat} {Ps : List POut}
    (h1 : W.heap[bt]? = some (.cells #[.int .i64 u0, .int .i64 u1, .int .i64 u2, .int .i64 u3] t m))
    (h2 : W.heap[bp]? = some (.cells #[.int .i64 (k0 : Int), .int .i64 (k1 : Int), .int .i64 (k2 : Int), .int .i64 (k3 : Int)] t' m'))
    (h3 : IsProfs W g Ps) (hk : k0 < Ps.length ∧ k1 < Ps.length ∧ k2 < Ps.length ∧ k3 < Ps.length) : EdgeW W bt bp g [u0, u1, u2, u3] [k0, k1, k2, k3] Ps := by
  refine ⟨fun j hj => ?_, fun j hj => ?_, h3⟩
  · rw [cell_of_heap h1]
    match j, hj with
    | 0, _ => rfl
    | 1, _ => rfl
    | 2, _ => rfl
    | 3, _ => rfl
  · rw [cell_of_heap h2]
    match j, hj with
    | 0, _ => exact ⟨rfl, hk.1⟩
    | 1, _ => exact ⟨rfl, hk.2.1⟩
    | 2, _ => exact ⟨rfl, hk.2.2.1⟩
    | 3, _ => exact ⟨rfl, hk.2.2.2⟩

theorem setD (w : World) (cs : Array Value) (t : TypeId) (q j : Nat) (v : Value) : ((w.alloc (.cells cs t)).drewN q).setCell ⟨w.heap.size, j, none⟩ v = (w.alloc (.cells (cs.setIfInBounds j v) t)).drewN q := by
  show ((w.alloc (.cells cs t)).setCell ⟨w.heap.size, j, none⟩ v).drewN q = _
  rw [World.setCell_alloc_at _ _ _ _ _ rfl]

set_option maxHeartbeats 2000000 in
theorem apart_any (bf b1 b2 g cap : Nat) (t0 t1 t2 t3 l0 l1 l2 l3 lx ly : Int) (k0 k1 k2 k3 : Nat) (Ps : List POut) (w : World) (hn : 0 < Ps.length) (hn' : Ps.length ≤ 1024)
   (hx : IsClass w b1 t0 t1 l0 l1 k0 k1 lx) (hy : IsClass w b2 t2 t3 l2 l3 k2 k3 ly) (hk : k0 < Ps.length ∧ k1 < Ps.length ∧ k2 < Ps.length ∧ k3 < Ps.length)
   (hf : w.cell? ⟨bf, 2, none⟩ = some (.slice (some ⟨g, 0, none⟩) Ps.length cap)) (hP : IsProfs w g Ps) :
    Calls Ybad.prog 12 #[.pointer (some ⟨bf, 0, none⟩), .pointer (some ⟨b1, 0, none⟩), .pointer (some ⟨b2, 0, none⟩)] w fun e w' =>
      e = .returned (.int .u64 (outA (cB [fx 0 t0, fx 1 t1, fx 2 t2, fx 3 t3] [k0, k1, k2, k3] Ps) 4)) ∧ Below w.heap.size w w' := by
  have hb1 : b1 < w.heap.size := cell_lt hx.1
  have hb2 : b2 < w.heap.size := cell_lt hy.1
  have HXY : Hid (IsClass w b1 t0 t1 l0 l1 k0 k1 lx ∧ IsClass w b2 t2 t3 l2 l3 k2 k3 ly) := ⟨hx, hy⟩
  have HF : Hid (w.cell? ⟨bf, 2, none⟩ = some (.slice (some ⟨g, 0, none⟩) Ps.length cap)) := hf
  have HK : Hid (k0 < Ps.length ∧ k1 < Ps.length ∧ k2 < Ps.length ∧ k3 < Ps.length) := hk
  have HP : Hid (IsProfs w g Ps) := hP
  clear hP hf hk
  obtain ⟨n, hnl⟩ : ∃ n, n = Ps.length := ⟨_, rfl⟩
  rw [← hnl] at hn hn' HF HK
  have HN : Hid (Ps.length = n) := hnl.symm
  clear hnl
  obtain ⟨c, hcd⟩ : ∃ c, c = cB [fx 0 t0, fx 1 t1, fx 2 t2, fx 3 t3] [k0, k1, k2, k3] Ps := ⟨_, rfl⟩
  rw [← hcd]
  have HCD : Hid (c = cB [fx 0 t0, fx 1 t1, fx 2 t2, fx 3 t3] [k0, k1, k2, k3] Ps) := hcd
  clear hcd
  obtain ⟨x0, x1, -, -, x4, x5, -⟩ := hx
  obtain ⟨y0, y1, -, -, y4, y5, -⟩ := hy
  have X0 : ∀ o, (w.alloc o).cell? ⟨b1, 0, none⟩ = some (.int .i64 t0) := fun o => cell_alloc x0 o
  have X1 : ∀ o, (w.alloc o).cell? ⟨b1, 1, none⟩ = some (.int .i64 t1) := fun o => cell_alloc x1 o
  have Y0 : ∀ o, (w.alloc o).cell? ⟨b2, 0, none⟩ = some (.int .i64 t2) := fun o => cell_alloc y0 o
  have Y1 : ∀ o, (w.alloc o).cell? ⟨b2, 1, none⟩ = some (.int .i64 t3) := fun o => cell_alloc y1 o
  have X4 : ∀ o, (w.alloc o).cell? ⟨b1, 4, none⟩ = some (.int .i64 (k0 : Int)) := fun o => cell_alloc x4 o
  have X5 : ∀ o, (w.alloc o).cell? ⟨b1, 5, none⟩ = some (.int .i64 (k1 : Int)) := fun o => cell_alloc x5 o
  have Y4 : ∀ o, (w.alloc o).cell? ⟨b2, 4, none⟩ = some (.int .i64 (k2 : Int)) := fun o => cell_alloc y4 o
  have Y5 : ∀ o, (w.alloc o).cell? ⟨b2, 5, none⟩ = some (.int .i64 (k3 : Int)) := fun o => cell_alloc y5 o
  clear x0 x1 x4 x5 y0 y1 y4 y5
  have i0 : ∀ w, (Instr.index 40 (.agg #[.int .i64 t0, .int .i64 t1, .int .i64 t2, .int .i64 t3]) (.int .i64 0)).run Ybad.prog w = .ok (.int .i64 t0) w := fun _ => by kernel_rfl
  have i1 : ∀ w, (Instr.index 40 (.agg #[.int .i64 t0, .int .i64 t1, .int .i64 t2, .int .i64 t3]) (.int .i64 1)).run Ybad.prog w = .ok (.int .i64 t1) w := fun _ => by kernel_rfl
  have i2 : ∀ w, (Instr.index 40 (.agg #[.int .i64 t0, .int .i64 t1, .int .i64 t2, .int .i64 t3]) (.int .i64 2)).run Ybad.prog w = .ok (.int .i64 t2) w := fun _ => by kernel_rfl
  have i3 : ∀ w, (Instr.index 40 (.agg #[.int .i64 t0, .int .i64 t1, .int .i64 t2, .int .i64 t3]) (.int .i64 3)).run Ybad.prog w = .ok (.int .i64 t3) w := fun _ => by kernel_rfl
  go_enter Ybad.func12, Ybad.ntmps12
  go_wp2
  go_quiet (fail)
  go_wp2
  go_loopw [39] (fun i wr => ∃ (k : Nat) (u0 u1 u2 u3 : Int), k ≤ 4 ∧ i = .int .i64 k ∧
      wr = (w.alloc (.cells #[.int .i64 u0, .int .i64 u1, .int .i64 u2, .int .i64 u3] 40)).drewN nq ∧
      Hid (u0 = (if 0 < k then fx 0 t0 else 0) ∧ u1 = (if 1 < k then fx 1 t1 else 0) ∧ u2 = (if 2 < k then fx 2 t2 else 0) ∧ u3 = (if 3 < k then fx 3 t3 else 0))) (fun i _ => 4 - (intOf i).toNat)
  case atStart => exact ⟨0, 0, 0, 0, 0, by omega, rfl, rfl, rfl, rfl, rfl, rfl⟩
  case round =>
    obtain ⟨k, u0, u1, u2, u3, hk, rfl, rfl, HU⟩ := hrel
    rcases (show k = 0 ∨ k = 1 ∨ k = 2 ∨ k = 3 ∨ k = 4 by omega) with rfl | rfl | rfl | rfl | rfl
    · by_cases hs : t0 < 0
      · have HR : Hid (∀ x, x = -1 - (0 : Int) → x = (if 0 < 1 then fx 0 t0 else 0) ∧ u1 = (if 1 < 1 then fx 1 t1 else 0) ∧ u2 = (if 2 < 1 then fx 2 t2 else 0) ∧ u3 = (if 3 < 1 then fx 3 t3 else 0)) := by
          obtain ⟨e0, e1, e2, e3⟩ := HU.out
          simp at e0 e1 e2 e3
          intro x hx
          subst hx
          refine ⟨?_, ?_, ?_, ?_⟩ <;> first | assumption | (simp; assumption) | (simp [fx]; omega)
        go_wp2
        go_roundw
        case rel => exact ⟨1, _, u1, u2, u3, by omega, rfl, by simp only [setD]; rfl, HR.out _ (by first | rfl | omega)⟩
        case measure => simp [intOf]
      · have HR : Hid (∀ x, x = t0 → x = (if 0 < 1 then fx 0 t0 else 0) ∧ u1 = (if 1 < 1 then fx 1 t1 else 0) ∧ u2 = (if 2 < 1 then fx 2 t2 else 0) ∧ u3 = (if 3 < 1 then fx 3 t3 else 0)) := by
          obtain ⟨e0, e1, e2, e3⟩ := HU.out
          simp at e0 e1 e2 e3
          intro x hx
          subst hx
          refine ⟨?_, ?_, ?_, ?_⟩ <;> first | assumption | (simp; assumption) | (simp [fx]; omega)
        go_wp2
        go_roundw
        case rel => exact ⟨1, _, u1, u2, u3, by omega, rfl, by simp only [setD]; rfl, HR.out _ (by first | rfl | omega)⟩
        case measure => simp [intOf]
    · by_cases hs : t1 < 0
      · have HR : Hid (∀ x, x = -1 - (1 : Int) → u0 = (if 0 < 2 then fx 0 t0 else 0) ∧ x = (if 1 < 2 then fx 1 t1 else 0) ∧ u2 = (if 2 < 2 then fx 2 t2 else 0) ∧ u3 = (if 3 < 2 then fx 3 t3 else 0)) := by
          obtain ⟨e0, e1, e2, e3⟩ := HU.out
          simp at e0 e1 e2 e3
          intro x hx
          subst hx
          refine ⟨?_, ?_, ?_, ?_⟩ <;> first | assumption | (simp; assumption) | (simp [fx]; omega)
        go_wp2
        go_roundw
        case rel => exact ⟨2, u0, _, u2, u3, by omega, rfl, by simp only [setD]; rfl, HR.out _ (by first | rfl | omega)⟩
        case measure => simp [intOf]
      · have HR : Hid (∀ x, x = t1 → u0 = (if 0 < 2 then fx 0 t0 else 0) ∧ x = (if 1 < 2 then fx 1 t1 else 0) ∧ u2 = (if 2 < 2 then fx 2 t2 else 0) ∧ u3 = (if 3 < 2 then fx 3 t3 else 0)) := by
          obtain ⟨e0, e1, e2, e3⟩ := HU.out
          simp at e0 e1 e2 e3
          intro x hx
          subst hx
          refine ⟨?_, ?_, ?_, ?_⟩ <;> first | assumption | (simp; assumption) | (simp [fx]; omega)
        go_wp2
        go_roundw
        case rel => exact ⟨2, u0, _, u2, u3, by omega, rfl, by simp only [setD]; rfl, HR.out _ (by first | rfl | omega)⟩
        case measure => simp [intOf]
    · by_cases hs : t2 < 0
      · have HR : Hid (∀ x, x = -1 - (2 : Int) → u0 = (if 0 < 3 then fx 0 t0 else 0) ∧ u1 = (if 1 < 3 then fx 1 t1 else 0) ∧ x = (if 2 < 3 then fx 2 t2 else 0) ∧ u3 = (if 3 < 3 then fx 3 t3 else 0)) := by
          obtain ⟨e0, e1, e2, e3⟩ := HU.out
          simp at e0 e1 e2 e3
          intro x hx
          subst hx
          refine ⟨?_, ?_, ?_, ?_⟩ <;> first | assumption | (simp; assumption) | (simp [fx]; omega)
        go_wp2
        go_roundw
        case rel => exact ⟨3, u0, u1, _, u3, by omega, rfl, by simp only [setD]; rfl, HR.out _ (by first | rfl | omega)⟩
        case measure => simp [intOf]
      · have HR : Hid (∀ x, x = t2 → u0 = (if 0 < 3 then fx 0 t0 else 0) ∧ u1 = (if 1 < 3 then fx 1 t1 else 0) ∧ x = (if 2 < 3 then fx 2 t2 else 0) ∧ u3 = (if 3 < 3 then fx 3 t3 else 0)) := by
          obtain ⟨e0, e1, e2, e3⟩ := HU.out
          simp at e0 e1 e2 e3
          intro x hx
          subst hx
          refine ⟨?_, ?_, ?_, ?_⟩ <;> first | assumption | (simp; assumption) | (simp [fx]; omega)
        go_wp2
        go_roundw
        case rel => exact ⟨3, u0, u1, _, u3, by omega, rfl, by simp only [setD]; rfl, HR.out _ (by first | rfl | omega)⟩
        case measure => simp [intOf]
    · by_cases hs : t3 < 0
      · have HR : Hid (∀ x, x = -1 - (3 : Int) → u0 = (if 0 < 4 then fx 0 t0 else 0) ∧ u1 = (if 1 < 4 then fx 1 t1 else 0) ∧ u2 = (if 2 < 4 then fx 2 t2 else 0) ∧ x = (if 3 < 4 then fx 3 t3 else 0)) := by
          obtain ⟨e0, e1, e2, e3⟩ := HU.out
          simp at e0 e1 e2 e3
          intro x hx
          subst hx
          refine ⟨?_, ?_, ?_, ?_⟩ <;> first | assumption | (simp; assumption) | (simp [fx]; omega)
        go_wp2
        go_roundw
        case rel => exact ⟨4, u0, u1, u2, _, by omega, rfl, by simp only [setD]; rfl, HR.out _ (by first | rfl | omega)⟩
        case measure => simp [intOf]
      · have HR : Hid (∀ x, x = t3 → u0 = (if 0 < 4 then fx 0 t0 else 0) ∧ u1 = (if 1 < 4 then fx 1 t1 else 0) ∧ u2 = (if 2 < 4 then fx 2 t2 else 0) ∧ x = (if 3 < 4 then fx 3 t3 else 0)) := by
          obtain ⟨e0, e1, e2, e3⟩ := HU.out
          simp at e0 e1 e2 e3
          intro x hx
          subst hx
          refine ⟨?_, ?_, ?_, ?_⟩ <;> first | assumption | (simp; assumption) | (simp [fx]; omega)
        go_wp2
        go_roundw
        case rel => exact ⟨4, u0, u1, u2, _, by omega, rfl, by simp only [setD]; rfl, HR.out _ (by first | rfl | omega)⟩
        case measure => simp [intOf]
    · obtain ⟨e0, e1, e2, e3⟩ := HU.out
      simp at e0 e1 e2 e3
      subst e0 e1 e2 e3
      clear HU i0 i1 i2 i3 X0 X1 Y0 Y1
      obtain ⟨u0, hu0⟩ : ∃ u, u = fx 0 t0 := ⟨_, rfl⟩
      obtain ⟨u1, hu1⟩ : ∃ u, u = fx 1 t1 := ⟨_, rfl⟩
      obtain ⟨u2, hu2⟩ : ∃ u, u = fx 2 t2 := ⟨_, rfl⟩
      obtain ⟨u3, hu3⟩ : ∃ u, u = fx 3 t3 := ⟨_, rfl⟩
      rw [← hu0, ← hu1, ← hu2, ← hu3] at HCD ⊢
      clear hu0 hu1 hu2 hu3
      go_wp2
      go_region_held3 (fun w' => w'.cell? ⟨b1, 4, none⟩ = some (.int .i64 (k0 : Int)) ∧ w'.cell? ⟨b1, 5, none⟩ = some (.int .i64 (k1 : Int)) ∧ w'.cell? ⟨b2, 4, none⟩ = some (.int .i64 (k2 : Int)) ∧ w'.cell? ⟨b2, 5, none⟩ = some (.int .i64 (k3 : Int))) (go_keep) (fail)
      rename_i hHeld
      clear hHeld
      obtain ⟨W0, hW0⟩ : ∃ W0 : World, W0 = ((w.alloc (.cells #[.int .i64 u0, .int .i64 u1, .int .i64 u2, .int .i64 u3] 40)).drewN (nq + 1)).alloc (.cells #[.int .i64 (k0 : Int), .int .i64 (k1 : Int), .int .i64 (k2 : Int), .int .i64 (k3 : Int)] 40) := ⟨_, rfl⟩
      rw [← hW0]
      have HB0 : Hid (Below w.heap.size w W0) := by
        rw [hW0]
        exact (below_drewN ((Below.refl _ _).alloc (Nat.le_refl _) _) _).alloc (by simp) _
      have HE : Hid (EdgeW W0 w.heap.size (w.heap.size + 1) g [u0, u1, u2, u3] [k0, k1, k2, k3] Ps) := by
        refine edgeW_of2 (t := 40) (t' := 40) (m := (0, 0)) (m' := (0, 0)) ?_ ?_ (HP.out.below HB0.out) ?_
        · rw [hW0]; exact heap2_first _ _ _ _
        · rw [hW0]; exact heap2_last _ _ _ _
        · rw [HN.out]; exact HK.out
      have HF0 : Hid (W0.cell? ⟨bf, 2, none⟩ = some (.slice (some ⟨g, 0, none⟩) n cap)) := by
        unfold Hid
        rw [HB0.out.cell (cell_lt HF.out)]; exact HF.out
      clear hW0 X4 X5 Y4 Y5
      go_wp2
      go_loopw [11, 74] (fun e a wr => ∃ (k : Nat), k ≤ 4 ∧ a = .int .i64 k ∧ e = .int .u64 (outA c k) ∧ Hid (Below W0.heap.size W0 wr)) (fun _ a _ => 4 - (intOf a).toNat)
      case atStart => exact ⟨0, by omega, rfl, rfl, Below.refl _ _⟩
      case round =>
        obtain ⟨k, hk, rfl, rfl, HW⟩ := hrel
        by_cases hk4 : k < 4
        · obtain ⟨e0, he0⟩ : ∃ e0, e0 = outA c k := ⟨_, rfl⟩
          rw [← he0]
          have HE0 : Hid (e0 = outA c k) := he0
          clear he0
          go_wp2
          rw [show decide ((k : Int) < 4) = true from decide_eq_true (by omega)]
          go_loopw [11, 78] (fun e b wr => ∃ (m : Nat), m ≤ k ∧ b = .int .i64 (m : Int) ∧ e = .int .u64 (innA c k e0 m) ∧ Hid (Below W0.heap.size W0 wr)) (fun _ b _ => k - (intOf b).toNat)
          case atStart => exact ⟨0, by omega, by go_num, rfl, HW⟩
          case round =>
            clear HW
            obtain ⟨m, hm, rfl, rfl, HW⟩ := hrel
            by_cases hm4 : m < k
            · obtain ⟨x, y, ka, kb, pa, pb, c1, c2, c3, c4, c5, c6, c7, c8, c9, c10, c11, c12, c13, c14, hcB⟩ := (HE.out.below HW.out).pair (show m < 4 by omega) hk4
              rw [← HCD.out] at hcB
              have c0 : wr.cell? ⟨bf, 2, none⟩ = some (.slice (some ⟨g, 0, none⟩) n cap) := by rw [HW.out.cell (cell_lt HF0.out)]; exact HF0.out
              have HX : innA c k e0 (m + 1) = stepE (innA c k e0 m) (c m k) m k := rfl
              rw [hcB] at HX
              have HX1 : Hid (innA c k e0 (m + 1) = stepE (innA c k e0 m) ((x == y) || confB pa.hub pa.zs pb.hub pb.zs) m k) := HX
              have HI1 : Hid (IsInts .i64 wr pa.a pa.n pa.zs ∧ IsInts .i64 wr pb.a pb.n pb.zs ∧ pa.zs.Pairwise (· ≤ ·) ∧ pb.zs.Pairwise (· ≤ ·)) := ⟨c11, c13, c12, c14⟩
              rw [HN.out] at c5 c6
              clear HX hcB c11 c12 c13 c14
              obtain ⟨e1, he1⟩ : ∃ e1, e1 = innA c k e0 m := ⟨_, rfl⟩
              rw [← he1] at HX1 ⊢
              clear he1
              have hm3 : (m : Int) < 4 := by omega
              have hk3 : (k : Int) < 4 := by omega
              have hka : (ka : Int) < (n : Int) := by omega
              have hkb : (kb : Int) < (n : Int) := by omega
              by_cases hxy : x = y
              · have hg : (x == y) = true := by simp [hxy]
                subst hxy
                go_wp2
                go_quiet (fail)
                go_wp2
                go_roundw
                case rel => exact ⟨m + 1, by omega, by go_num, by rw [HX1.out]; simp [stepE_true], below_drewN HW.out _⟩
                case measure => simp [intOf]; omega
              · have hg : (x == y) = false := by simp [hxy]
                have HR : Hid (((x == y) || confB pa.hub pa.zs pb.hub pb.zs) = confB pa.hub pa.zs pb.hub pb.zs) := by rw [hg]; rfl
                have HC23 : Hid (∀ W, Below wr.heap.size wr W → Calls Ybad.prog 23 #[.agg #[.int .i64 pa.hub, .slice pa.a pa.n pa.c], .agg #[.int .i64 pb.hub, .slice pb.a pb.n pb.c]] W fun e w' => e = .returned (.bool (confB pa.hub pa.zs pb.hub pb.zs)) ∧ Below W.heap.size W w') :=
                  fun W hW => conflicts_any _ _ _ _ _ _ _ _ _ _ W (HI1.out.1.below hW) (HI1.out.2.1.below hW) HI1.out.2.2.1 HI1.out.2.2.2
                obtain ⟨r, hr⟩ : ∃ r, r = confB pa.hub pa.zs pb.hub pb.zs := ⟨_, rfl⟩
                rw [HR.out, ← hr] at HX1
                rw [← hr] at HC23
                clear HR hr HI1
                have HD : Hid (Below wr.heap.size wr wr.drew) := (Below.refl _ _).drew
                go_wp2
                go_region_held3 (fun w' => w'.cell? ⟨w.heap.size, m, none⟩ = some (.int .i64 x) ∧ w'.cell? ⟨w.heap.size, k, none⟩ = some (.int .i64 y) ∧ w'.cell? ⟨w.heap.size + 1, m, none⟩ = some (.int .i64 (ka : Int)) ∧ w'.cell? ⟨w.heap.size + 1, k, none⟩ = some (.int .i64 (kb : Int)) ∧ w'.cell? ⟨g, ka * 2, none⟩ = some (.int .i64 pa.hub) ∧ w'.cell? ⟨g, ka * 2 + 1, none⟩ = some (.slice pa.a pa.n pa.c) ∧ w'.cell? ⟨g, kb * 2, none⟩ = some (.int .i64 pb.hub) ∧ w'.cell? ⟨g, kb * 2 + 1, none⟩ = some (.slice pb.a pb.n pb.c) ∧ w'.cell? ⟨bf, 2, none⟩ = some (.slice (some ⟨g, 0, none⟩) n cap)) (first | go_keep | exact keep9 (by assumption) (by assumption)) ((go_at_call 23; refine (HC23.out _ HD.out).mono ?_; rintro e w17 ⟨rfl, hb17⟩))
                rename_i hHeld
                clear hHeld
                have HB17 : Hid (Below W0.heap.size W0 w17) := HW.out.trans ((HD.out.trans hb17).mono HW.out.size)
                clear hb17 c0 c1 c2 c3 c4 c7 c8 c9 c10
                go_wp2
                · have hrt : r = true := by assumption
                  have HX2 : Hid (innA c k e0 (m + 1) = stepE e1 true m k) := by rw [← hrt]; exact HX1
                  go_roundw
                  case rel => exact ⟨m + 1, by omega, by go_num, by rw [HX2.out]; simp [stepE_true], HB17⟩
                  case measure => simp [intOf]; omega
                · have hrt : r = false := by assumption
                  have HX2 : Hid (innA c k e0 (m + 1) = stepE e1 false m k) := by rw [← hrt]; exact HX1
                  go_roundw
                  case rel => exact ⟨m + 1, by omega, by go_num, by rw [HX2.out]; simp [stepE_false], HB17⟩
                  case measure => simp [intOf]; omega
            · obtain rfl : m = k := by omega
              have HO : outA c (m + 1) = innA c m (outA c m) m := rfl
              rw [← HE0.out] at HO
              have HO1 : Hid (outA c (m + 1) = innA c m e0 m) := HO
              clear HO
              obtain ⟨e1, he1⟩ : ∃ e1, e1 = innA c m e0 m := ⟨_, rfl⟩
              rw [← he1] at HO1 ⊢
              clear he1
              go_wp2
              go_roundw
              case rel => exact ⟨m + 1, by omega, by go_num, by rw [HO1.out], HW⟩
              case measure => simp [intOf]; omega
        · obtain rfl : k = 4 := by omega
          obtain ⟨e1, he1⟩ : ∃ e1, e1 = outA c 4 := ⟨_, rfl⟩
          rw [← he1]
          have HE1 : Hid (e1 = outA c 4) := he1
          clear he1
          go_wp2
          go_ret
          exact ⟨ret_int HE1.out, HB0.out.trans (HW.out.mono HB0.out.size)⟩
end Go.Proofs.YbulkblxqDoor
