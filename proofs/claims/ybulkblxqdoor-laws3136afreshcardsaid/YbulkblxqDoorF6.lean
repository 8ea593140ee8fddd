import Derived.Test.YbulkblxqDoorF5
namespace Go.Proofs.YbulkblxqDoor
open Go.RowKit
set_option linter.unusedVariables false
set_option linter.unusedSimpArgs false

def bit64 (e : Int) (k : Nat) : Bool := bits BinOp.and IntKind.u64 e (IntKind.u64.wrap (2 ^ k)) != 0
def oin (c : Nat → Nat → Bool) (i : Nat) : Nat → Nat → List Int → List Int
  | 0, _, O => O
  | m + 1, j, O => oin c i m (j + 1) (if c i j then O.set i (bits BinOp.or IntKind.u8 (O.getD i 0) (2 ^ j % 256)) else O)
def oout (c : Nat → Nat → Bool) : Nat → Nat → List Int → List Int
  | 0, _, O => O
  | m + 1, i, O => oout c m (i + 1) (oin c i (4 - (i + 1)) (i + 1) O)
def oT (c : Nat → Nat → Bool) : List Int := oout c 4 0 [0, 0, 0, 0]

theorem oin_length (c : Nat → Nat → Bool) (i : Nat) : ∀ (m j : Nat) (O : List Int), (oin c i m j O).length = O.length
  | 0, _, O => rfl
  | m + 1, j, O => by unfold oin; rw [oin_length c i m]; split <;> simp
theorem oout_length (c : Nat → Nat → Bool) : ∀ (m i : Nat) (O : List Int), (oout c m i O).length = O.length
  | 0, _, O => rfl
  | m + 1, i, O => by unfold oout; rw [oout_length c m, oin_length]

def RowB (w : World) (g : Nat) (zs : List Int) : Prop := ∀ i, i < zs.length → w.cell? ⟨g, i, none⟩ = some (.int .u8 (zs.getD i 0)) ∧ w.frozen? ⟨g, i, none⟩ = false

theorem RowB.set {w : World} {g : Nat} {zs : List Int} (h : RowB w g zs) (m : Nat) (x : Int) : RowB (w.setCell ⟨g, m, none⟩ (.int .u8 x)) g (zs.set m x) := by
  intro i hi
  rw [List.length_set] at hi
  obtain ⟨hu, hf⟩ := h i hi
  refine ⟨?_, by rw [World.frozen?_setCell]; exact hf⟩
  by_cases e : i = m
  · subst e
    rw [World.cell?_setCell_same _ _ _ hu]
    simp [List.getD, hi]
  · rw [World.cell?_setCell_other _ _ _ _ (by intro hq; injection hq with _ h2; omega), hu]
    simp [List.getD, List.getElem?_set, show ¬ m = i by omega]

theorem RowB.block {w w' : World} {g : Nat} {zs : List Int} (h : RowB w g zs) (hb : w'.heap[g]? = w.heap[g]?) : RowB w' g zs := by
  intro i hi
  obtain ⟨h1, h2⟩ := h i hi
  exact ⟨by rw [World.cell?_of_block (w := w) (by exact hb)]; exact h1, by unfold World.frozen? at h2 ⊢; simp only [hb]; exact h2⟩

theorem rowB0 (w : World) (t : TypeId) : RowB (w.alloc (.cells #[.int .u8 0, .int .u8 0, .int .u8 0, .int .u8 0] t)) w.heap.size [0, 0, 0, 0] := by
  have hh := heap_at_new w (.cells #[.int .u8 0, .int .u8 0, .int .u8 0, .int .u8 0] t)
  generalize w.alloc (.cells #[.int .u8 0, .int .u8 0, .int .u8 0, .int .u8 0] t) = W at *
  intro i hi
  refine ⟨?_, by simp [World.frozen?, hh]⟩
  rw [cell_of_heap hh]
  match i, hi with
  | 0, _ => rfl
  | 1, _ => rfl
  | 2, _ => rfl
  | 3, _ => rfl

set_option maxRecDepth 100000 in
set_option maxHeartbeats 2000000 in
theorem out_any (l0 l1 l2 l3 e : Int) (w : World) :
    Calls Ybad.prog 16 #[.agg #[.int .u64 l0, .int .u64 l1, .int .u64 l2, .int .u64 l3, .int .i64 4, .int .u64 e]] w fun e' w' =>
      e' = .returned (.agg ((oT fun i j => bit64 e (4 * i + j)).map (.int .u8)).toArray) ∧ Below w.heap.size w w' := by
  obtain ⟨c, hc⟩ : ∃ c : Nat → Nat → Bool, c = fun i j => bit64 e (4 * i + j) := ⟨_, rfl⟩
  rw [← hc]
  have HCC : Hid (∀ i j, c i j = bit64 e (4 * i + j)) := by intro i j; rw [hc]
  obtain ⟨T, hT⟩ : ∃ T, T = oT c := ⟨_, rfl⟩
  rw [← hT]
  have HT : Hid (oout c 4 0 [0, 0, 0, 0] = T) := hT.symm
  clear hc hT
  obtain ⟨wb, hwb⟩ : ∃ wb, wb = (w.alloc (.cells #[.int .u64 l0, .int .u64 l1, .int .u64 l2, .int .u64 l3, .int .i64 4, .int .u64 e] 97)).alloc (.cells #[.int .u8 0, .int .u8 0, .int .u8 0, .int .u8 0] 103) := ⟨_, rfl⟩
  have HWB : Hid (wb.cell? ⟨w.heap.size, 4, none⟩ = some (.int .i64 4) ∧ wb.cell? ⟨w.heap.size, 5, none⟩ = some (.int .u64 e) ∧ wb.heap.size = w.heap.size + 2 ∧ Below w.heap.size w wb ∧ RowB wb (w.heap.size + 1) [0, 0, 0, 0]) := by
    rw [hwb]
    refine ⟨cell_alloc (cell_of_heap (heap_at_new _ _) 4) _, cell_alloc (cell_of_heap (heap_at_new _ _) 5) _, by simp, ((Below.refl _ _).alloc (Nat.le_refl _) _).alloc (by simp) _, ?_⟩
    have := rowB0 (w.alloc (.cells #[.int .u64 l0, .int .u64 l1, .int .u64 l2, .int .u64 l3, .int .i64 4, .int .u64 e] 97)) 103
    rw [show (w.alloc (.cells #[.int .u64 l0, .int .u64 l1, .int .u64 l2, .int .u64 l3, .int .i64 4, .int .u64 e] 97)).heap.size = w.heap.size + 1 by simp] at this
    exact this
  have HSt : Hid (Below (w.heap.size + 2) wb (((w.alloc (.cells #[.int .u64 l0, .int .u64 l1, .int .u64 l2, .int .u64 l3, .int .i64 4, .int .u64 e] 97)).alloc (.cells #[.int .u8 0, .int .u8 0, .int .u8 0, .int .u8 0] 103)).alloc (.cells #[.int .u8 0, .int .u8 0, .int .u8 0, .int .u8 0] 103))
      ∧ RowB (((w.alloc (.cells #[.int .u64 l0, .int .u64 l1, .int .u64 l2, .int .u64 l3, .int .i64 4, .int .u64 e] 97)).alloc (.cells #[.int .u8 0, .int .u8 0, .int .u8 0, .int .u8 0] 103)).alloc (.cells #[.int .u8 0, .int .u8 0, .int .u8 0, .int .u8 0] 103)) (w.heap.size + 2) [0, 0, 0, 0]) := by
    rw [← hwb, ← HWB.out.2.2.1]
    exact ⟨(Below.refl _ _).alloc (Nat.le_refl _) _, rowB0 _ _⟩
  clear hwb
  go_enter Ybad.func16, Ybad.ntmps16
  go_wp2
  go_loopw [8] (fun k wr => ∃ (kk : Nat) (O : List Int), kk ≤ 4 ∧ k = .int .i64 kk ∧ Hid (RowB wr (w.heap.size + 2) O ∧ O.length = 4 ∧ Below (w.heap.size + 2) wb wr ∧ oout c (4 - kk) kk O = T)) (fun k _ => 4 - (intOf k).toNat)
  case atStart => exact ⟨0, _, by omega, rfl, HSt.out.2, rfl, HSt.out.1, HT.out⟩
  case round =>
    obtain ⟨k, O, hk, rfl, HC⟩ := hrel
    by_cases hlt : k < 4
    · obtain ⟨S, hS⟩ : ∃ S, S = oin c k (4 - (k + 1)) (k + 1) O := ⟨_, rfl⟩
      have HS : Hid (oin c k (4 - (k + 1)) (k + 1) O = S ∧ oout c (4 - (k + 1)) (k + 1) S = T) := by
        refine ⟨hS.symm, ?_⟩
        have h5 := HC.out.2.2.2
        rw [show 4 - k = 4 - (k + 1) + 1 by omega] at h5
        rw [hS]; exact h5
      clear hS
      have hltI : decide ((k : Int) < 4) = true := by simp; omega
      obtain ⟨wo, rfl⟩ : ∃ wo : World, wo = wr := ⟨_, rfl⟩
      go_wp2
      go_loopw [5] (fun j wr => ∃ (jj : Nat) (O : List Int), k + 1 ≤ jj ∧ jj ≤ 4 ∧ j = .int .i64 jj ∧ Hid (RowB wr (w.heap.size + 2) O ∧ O.length = 4 ∧ Below (w.heap.size + 2) wb wr ∧ oin c k (4 - jj) jj O = S)) (fun j _ => 4 - (intOf j).toNat)
      case atStart => exact ⟨k + 1, O, by omega, by omega, by go_num, HC.out.1, HC.out.2.1, HC.out.2.2.1, HS.out.1⟩
      case round =>
        clear HC
        obtain ⟨j, O, hj1, hj2, rfl, HC⟩ := hrel
        have hc4 : wr.cell? ⟨w.heap.size, 4, none⟩ = some (.int .i64 4) := by rw [HC.out.2.2.1.cell (show w.heap.size < w.heap.size + 2 by omega)]; exact HWB.out.1
        have hc5 : wr.cell? ⟨w.heap.size, 5, none⟩ = some (.int .u64 e) := by rw [HC.out.2.2.1.cell (show w.heap.size < w.heap.size + 2 by omega)]; exact HWB.out.2.1
        by_cases hj4 : j < 4
        · have hb : ∀ b, c k j = b → (bits BinOp.and IntKind.u64 e (IntKind.u64.wrap (2 ^ (4 * k + j))) != 0) = b := by
            intro b h; rw [← h, HCC.out]; rfl
          obtain ⟨hok, hof⟩ := HC.out.1 k (by rw [HC.out.2.1]; exact hlt)
          generalize hxx : O.getD k 0 = x at hok
          have HX : Hid (O.getD k 0 = x) := hxx
          clear hxx
          rcases hcc : c k j with _ | _
          · have hbk := hb _ hcc
            have HN : Hid (oin c k (4 - (j + 1)) (j + 1) O = S) := by
              have h5 := HC.out.2.2.2
              rw [show 4 - j = 4 - (j + 1) + 1 by omega] at h5
              unfold oin at h5
              rw [hcc] at h5
              exact h5
            clear hb hcc
            go_wp2
            go_quiet (fail)
            go_wp2
            go_roundw
            case rel => exact ⟨j + 1, O, by omega, by omega, by go_num, HC.out.1, HC.out.2.1, below_drewN HC.out.2.2.1 _, HN.out⟩
            case measure => simp [intOf]; omega
          · have hbk := hb _ hcc
            have HN : Hid (oin c k (4 - (j + 1)) (j + 1) (O.set k (bits BinOp.or IntKind.u8 x (2 ^ j % 256))) = S) := by
              have h5 := HC.out.2.2.2
              rw [show 4 - j = 4 - (j + 1) + 1 by omega] at h5
              unfold oin at h5
              rw [hcc, HX.out] at h5
              exact h5
            clear hb hcc
            go_wp2
            go_quiet (fail)
            go_wp2
            go_region
            go_wp2
            go_roundw
            case rel => exact ⟨j + 1, _, by omega, by omega, by go_num, HC.out.1.set k _, by rw [List.length_set]; exact HC.out.2.1, (below_drewN HC.out.2.2.1 _).setCell (by simp) _, HN.out⟩
            case measure => simp [intOf]; omega
        · obtain rfl : j = 4 := by omega
          have HE : Hid (O = S) := HC.out.2.2.2
          go_wp2
          go_roundw
          case rel => exact ⟨k + 1, O, by omega, by go_num, HC.out.1, HC.out.2.1, HC.out.2.2.1, by rw [HE.out]; exact HS.out.2⟩
          case measure => simp [intOf]; omega
    · obtain rfl : k = 4 := by omega
      have HE : Hid (O = T) := HC.out.2.2.2
      obtain ⟨t0, t1, t2, t3, HO⟩ : ∃ t0 t1 t2 t3, Hid (O = [t0, t1, t2, t3]) := by
        have h5 := HC.out.2.1
        match O, h5 with
        | [a, b, c, d], _ => exact ⟨a, b, c, d, rfl⟩
      have hrow := HC.out.1
      rw [HO.out] at hrow
      have g0 : wr.cell? ⟨w.heap.size + 1 + 1, 0, none⟩ = some (.int .u8 t0) := (hrow 0 (by simp)).1
      have g1 : wr.cell? ⟨w.heap.size + 1 + 1, 1, none⟩ = some (.int .u8 t1) := (hrow 1 (by simp)).1
      have g2 : wr.cell? ⟨w.heap.size + 1 + 1, 2, none⟩ = some (.int .u8 t2) := (hrow 2 (by simp)).1
      have g3 : wr.cell? ⟨w.heap.size + 1 + 1, 3, none⟩ = some (.int .u8 t3) := (hrow 3 (by simp)).1
      have hz : RowB wr (w.heap.size + 1) [0, 0, 0, 0] := HWB.out.2.2.2.2.block (HC.out.2.2.1.block _ (by omega))
      have z0 : wr.cell? ⟨w.heap.size + 1, 0, none⟩ = some (.int .u8 0) := (hz 0 (by simp)).1
      have z1 : wr.cell? ⟨w.heap.size + 1, 1, none⟩ = some (.int .u8 0) := (hz 1 (by simp)).1
      have z2 : wr.cell? ⟨w.heap.size + 1, 2, none⟩ = some (.int .u8 0) := (hz 2 (by simp)).1
      have z3 : wr.cell? ⟨w.heap.size + 1, 3, none⟩ = some (.int .u8 0) := (hz 3 (by simp)).1
      have y0 := (hz 0 (by simp)).2
      have y1 := (hz 1 (by simp)).2
      have y2 := (hz 2 (by simp)).2
      have y3 := (hz 3 (by simp)).2
      clear hz hrow
      go_wp2
      refine bodyPost_ret (v := .agg #[.int .u8 t0, .int .u8 t1, .int .u8 t2, .int .u8 t3]) (by simp [results, Ybad.results16, go_sem, z0, z1, z2, z3]) rfl ⟨?_, ?_⟩
      · rw [← HE.out, HO.out]; rfl
      · have HB : Below w.heap.size w wr := HWB.out.2.2.2.1.trans (HC.out.2.2.1.mono (by omega))
        exact (((HB.setCell (by simp) _).setCell (by simp) _).setCell (by simp) _).setCell (by simp) _
end Go.Proofs.YbulkblxqDoor
