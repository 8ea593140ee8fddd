import Derived.Test.YbulkblxqDoorF6
namespace Go.Proofs.YbulkblxqDoor
open Go.RowKit
set_option linter.unusedVariables false
set_option linter.unusedSimpArgs false

def rin (c : Nat → Nat → Bool) (i : Nat) : Nat → Nat → Int → Int
  | 0, _, E => E
  | m + 1, j, E => rin c i m (j + 1) (if c i j then bits BinOp.or IntKind.u64 E (IntKind.u64.wrap (2 ^ (4 * i + j))) else E)
def rout (c : Nat → Nat → Bool) : Nat → Nat → Int → Int
  | 0, _, E => E
  | m + 1, i, E => rout c m (i + 1) (rin c i (4 - (i + 1)) (i + 1) E)
def mkE (c : Nat → Nat → Bool) : Int := rout c 4 0 0
def cR (e : Int) (o : Nat → Nat) (k l : Nat) : Bool := bit64 e (4 * min (o k) (o l) + max (o k) (o l))

structure ShapeAt (w : World) (g : Nat) (R : List Int) (E : Int) : Prop where
  row : RowU w g R
  len : R.length = 4
  n : w.cell? ⟨g, 4, none⟩ = some (.int .i64 4)
  e : w.cell? ⟨g, 5, none⟩ = some (.int .u64 E)
  fr : w.frozen? ⟨g, 5, none⟩ = false

theorem RowU.set {w : World} {g : Nat} {zs : List Int} (h : RowU w g zs) (m : Nat) (x : Int) : RowU (w.setCell ⟨g, m, none⟩ (.int .u64 x)) g (zs.set m x) := by
  intro i hi
  rw [List.length_set] at hi
  obtain ⟨hu, hf⟩ := h i hi
  refine ⟨?_, by rw [World.frozen?_setCell]; exact hf⟩
  by_cases e : i = m
  · subst e
    rw [World.cell?_setCell_same _ _ _ hu]
    simp [List.getD, hi]
  · rw [World.cell?_setCell_other _ _ _ _ (by intro hq; injection hq with _ h2; omega), hu]
    simp [List.getD, List.getElem?_set, show ¬ m = i by omega]

theorem ShapeAt.label {w : World} {g : Nat} {R : List Int} {E : Int} (h : ShapeAt w g R E) {k : Nat} (hk : k < 4) (x : Int) : ShapeAt (w.setCell ⟨g, k, none⟩ (.int .u64 x)) g (R.set k x) E :=
  ⟨h.row.set k x, by rw [List.length_set]; exact h.len,
   by rw [World.cell?_setCell_other _ _ _ _ (by intro hq; injection hq with _ h2; omega)]; exact h.n,
   by rw [World.cell?_setCell_other _ _ _ _ (by intro hq; injection hq with _ h2; omega)]; exact h.e,
   by rw [World.frozen?_setCell]; exact h.fr⟩
theorem ShapeAt.edge {w : World} {g : Nat} {R : List Int} {E : Int} (h : ShapeAt w g R E) (x : Int) : ShapeAt (w.setCell ⟨g, 5, none⟩ (.int .u64 x)) g R x :=
  ⟨fun i hi => ⟨by rw [World.cell?_setCell_other _ _ _ _ (by intro hq; injection hq with _ h2; have := h.len; omega)]; exact (h.row i hi).1, by rw [World.frozen?_setCell]; exact (h.row i hi).2⟩, h.len,
   by rw [World.cell?_setCell_other _ _ _ _ (by intro hq; injection hq with _ h2; omega)]; exact h.n,
   World.cell?_setCell_same _ _ _ h.e,
   by rw [World.frozen?_setCell]; exact h.fr⟩
theorem ShapeAt.block {w w' : World} {g : Nat} {R : List Int} {E : Int} (h : ShapeAt w g R E) (hb : w'.heap[g]? = w.heap[g]?) : ShapeAt w' g R E :=
  ⟨h.row.block hb, h.len, by rw [World.cell?_of_block (w := w) (by exact hb)]; exact h.n, by rw [World.cell?_of_block (w := w) (by exact hb)]; exact h.e, by have h2 := h.fr; unfold World.frozen? at h2 ⊢; simp only [hb]; exact h2⟩
theorem ShapeAt.drewN {w : World} {g : Nat} {R : List Int} {E : Int} (h : ShapeAt w g R E) (q : Nat) : ShapeAt (w.drewN q) g R E := h.block rfl

theorem shapeAt_of {w : World} {g : Nat} {l0 l1 l2 l3 e : Int} {t : TypeId} (hh : w.heap[g]? = some (.cells #[.int .u64 l0, .int .u64 l1, .int .u64 l2, .int .u64 l3, .int .i64 4, .int .u64 e] t (0, 0))) : ShapeAt w g [l0, l1, l2, l3] e := by
  refine ⟨fun i hi => ⟨?_, by simp [World.frozen?, hh]⟩, rfl, by rw [cell_of_heap hh]; rfl, by rw [cell_of_heap hh]; rfl, by simp [World.frozen?, hh]⟩
  rw [cell_of_heap hh]
  match i, hi with
  | 0, _ => rfl
  | 1, _ => rfl
  | 2, _ => rfl
  | 3, _ => rfl

def lin (L : List Int) (o : Nat → Nat) : Nat → Nat → List Int → List Int
  | 0, _, R => R
  | m + 1, k, R => lin L o m (k + 1) (R.set k (L.getD (o k) 0))

set_option maxRecDepth 100000 in
set_option maxHeartbeats 2000000 in
theorem reordered_any (l0 l1 l2 l3 e : Int) (o0 o1 o2 o3 : Nat) (w : World) (h0 : o0 < 4) (h1 : o1 < 4) (h2 : o2 < 4) (h3 : o3 < 4) :
    Calls Ybad.prog 14 #[.agg #[.int .u64 l0, .int .u64 l1, .int .u64 l2, .int .u64 l3, .int .i64 4, .int .u64 e], .agg #[.int .i64 (o0 : Int), .int .i64 (o1 : Int), .int .i64 (o2 : Int), .int .i64 (o3 : Int)]] w fun e' w' =>
      e' = .returned (.agg #[.int .u64 ([l0, l1, l2, l3].getD o0 0), .int .u64 ([l0, l1, l2, l3].getD o1 0), .int .u64 ([l0, l1, l2, l3].getD o2 0), .int .u64 ([l0, l1, l2, l3].getD o3 0), .int .i64 4, .int .u64 (mkE (cR e fun k => [o0, o1, o2, o3].getD k 0))]) ∧ Below w.heap.size w w' := by
  obtain ⟨o, ho⟩ : ∃ o : Nat → Nat, o = fun k => [o0, o1, o2, o3].getD k 0 := ⟨_, rfl⟩
  rw [← ho]
  obtain ⟨c, hc⟩ : ∃ c : Nat → Nat → Bool, c = cR e o := ⟨_, rfl⟩
  rw [← hc]
  have HCC : Hid (∀ i j, c i j = bit64 e (4 * min (o i) (o j) + max (o i) (o j))) := by intro i j; rw [hc]; rfl
  have HO4 : Hid (∀ k, k < 4 → o k < 4) := by
    intro k hk
    rw [ho]
    match k, hk with
    | 0, _ => exact h0
    | 1, _ => exact h1
    | 2, _ => exact h2
    | 3, _ => exact h3
  obtain ⟨L, hL⟩ : ∃ L : List Int, L = [l0, l1, l2, l3] := ⟨_, rfl⟩
  rw [← hL]
  obtain ⟨TR, hTR⟩ : ∃ TR, TR = lin L o 4 0 [0, 0, 0, 0] := ⟨_, rfl⟩
  obtain ⟨TE, hTE⟩ : ∃ TE, TE = mkE c := ⟨_, rfl⟩
  rw [← hTE]
  obtain ⟨y0, hy0⟩ : ∃ y, y = L.getD o0 0 := ⟨_, rfl⟩
  obtain ⟨y1, hy1⟩ : ∃ y, y = L.getD o1 0 := ⟨_, rfl⟩
  obtain ⟨y2, hy2⟩ : ∃ y, y = L.getD o2 0 := ⟨_, rfl⟩
  obtain ⟨y3, hy3⟩ : ∃ y, y = L.getD o3 0 := ⟨_, rfl⟩
  rw [← hy0, ← hy1, ← hy2, ← hy3]
  have HTR : Hid (lin L o 4 0 [0, 0, 0, 0] = TR ∧ TR = [y0, y1, y2, y3]) := ⟨hTR.symm, by rw [hTR, ho, hy0, hy1, hy2, hy3]; rfl⟩
  clear hy0 hy1 hy2 hy3
  have HTE : Hid (rout c 4 0 0 = TE) := hTE.symm
  have HBX : Hid (∀ (W : World) (k : Nat), k < 4 → ∀ t m b, W.heap[b]? = some (.cells #[.int .i64 (o0 : Int), .int .i64 (o1 : Int), .int .i64 (o2 : Int), .int .i64 (o3 : Int)] t m) → W.cell? ⟨b, k, none⟩ = some (.int .i64 (o k : Int))) := by
    intro W k hk t m b hh
    rw [cell_of_heap hh, ho]
    match k, hk with
    | 0, _ => rfl
    | 1, _ => rfl
    | 2, _ => rfl
    | 3, _ => rfl
  clear hc hTR hTE ho
  obtain ⟨w1, hw1⟩ : ∃ w1, w1 = w.alloc (.cells #[.int .u64 l0, .int .u64 l1, .int .u64 l2, .int .u64 l3, .int .i64 4, .int .u64 e] 97) := ⟨_, rfl⟩
  obtain ⟨w2, hw2⟩ : ∃ w2, w2 = w1.alloc (.cells #[.int .i64 (o0 : Int), .int .i64 (o1 : Int), .int .i64 (o2 : Int), .int .i64 (o3 : Int)] 40) := ⟨_, rfl⟩
  obtain ⟨w3, hw3⟩ : ∃ w3, w3 = w2.alloc (.cells #[.int .u64 0, .int .u64 0, .int .u64 0, .int .u64 0, .int .i64 0, .int .u64 0] 97) := ⟨_, rfl⟩
  have q1 : w1.heap.size = w.heap.size + 1 := by rw [hw1]; simp
  have q2 : w2.heap.size = w.heap.size + 2 := by rw [hw2]; simp [q1]
  have q3 : w3.heap.size = w.heap.size + 3 := by rw [hw3]; simp [q2]
  have HW3 : Hid (ShapeAt w3 w.heap.size L e ∧ w3.heap[w.heap.size + 1]? = some (.cells #[.int .i64 (o0 : Int), .int .i64 (o1 : Int), .int .i64 (o2 : Int), .int .i64 (o3 : Int)] 40 (0, 0)) ∧ Below w.heap.size w w3 ∧
      w3.heap[w.heap.size + 2]? = some (.cells #[.int .u64 0, .int .u64 0, .int .u64 0, .int .u64 0, .int .i64 0, .int .u64 0] 97 (0, 0))) := by
    have hb1 : Below w.heap.size w w1 := by rw [hw1]; exact (Below.refl _ _).alloc (Nat.le_refl _) _
    have hb2 : Below (w.heap.size + 1) w1 w2 := by rw [hw2]; exact (Below.refl _ _).alloc (by omega) _
    have hb3 : Below (w.heap.size + 2) w2 w3 := by rw [hw3]; exact (Below.refl _ _).alloc (by omega) _
    have e1 : ShapeAt w1 w.heap.size L e := by rw [hw1, hL]; exact shapeAt_of (heap_at_new _ _)
    have e2 : w2.heap[w.heap.size + 1]? = some (.cells #[.int .i64 (o0 : Int), .int .i64 (o1 : Int), .int .i64 (o2 : Int), .int .i64 (o3 : Int)] 40 (0, 0)) := by rw [hw2, ← q1]; exact heap_at_new _ _
    have e3 : w3.heap[w.heap.size + 2]? = some (.cells #[.int .u64 0, .int .u64 0, .int .u64 0, .int .u64 0, .int .i64 0, .int .u64 0] 97 (0, 0)) := by rw [hw3, ← q2]; exact heap_at_new _ _
    exact ⟨(e1.block (hb2.block _ (by omega))).block (hb3.block _ (by omega)), (hb3.block _ (by omega)).trans e2, hb1.trans ((hb2.trans (hb3.mono (by omega))).mono (by omega)), e3⟩
  have HSt : Hid (∀ W, W = w3.alloc (.cells #[.int .u64 0, .int .u64 0, .int .u64 0, .int .u64 0, .int .i64 4, .int .u64 0] 97) → Below (w.heap.size + 3) w3 W ∧ ShapeAt W (w.heap.size + 3) [0, 0, 0, 0] 0) := by
    rintro W rfl
    refine ⟨(Below.refl _ _).alloc (by omega) _, ?_⟩
    rw [← q3]
    exact shapeAt_of (heap_at_new _ _)
  have HEQ : Hid (w3 = ((w.alloc (.cells #[.int .u64 l0, .int .u64 l1, .int .u64 l2, .int .u64 l3, .int .i64 4, .int .u64 e] 97)).alloc (.cells #[.int .i64 (o0 : Int), .int .i64 (o1 : Int), .int .i64 (o2 : Int), .int .i64 (o3 : Int)] 40)).alloc (.cells #[.int .u64 0, .int .u64 0, .int .u64 0, .int .u64 0, .int .i64 0, .int .u64 0] 97)) := by
    unfold Hid; rw [hw3, hw2, hw1]
  have HQ3 : Hid (w3.heap.size = w.heap.size + 3) := q3
  clear hw1 hw2 hw3 q1 q2 q3
  go_enter Ybad.func14, Ybad.ntmps14
  go_wp2
  go_loopw [15] (fun k wr => ∃ (kk : Nat) (R : List Int) (E : Int), kk ≤ 4 ∧ k = .int .i64 kk ∧ Hid (ShapeAt wr (w.heap.size + 3) R E ∧ Below (w.heap.size + 3) w3 wr ∧ lin L o (4 - kk) kk R = TR ∧ rout c (4 - kk) kk E = TE)) (fun k _ => 4 - (intOf k).toNat)
  case atStart => exact ⟨0, _, _, by omega, rfl, (HSt.out _ (by rw [HEQ.out])).2, (HSt.out _ (by rw [HEQ.out])).1, HTR.out.1, HTE.out⟩
  case round =>
    obtain ⟨k, R, E, hk, rfl, HC⟩ := hrel
    have hS0 : ShapeAt wr w.heap.size L e := HW3.out.1.block (HC.out.2.1.block _ (by omega))
    have hn0 := hS0.n
    by_cases hlt : k < 4
    · have hok := HBX.out wr k hlt 40 (0, 0) (w.heap.size + 1) (by rw [HC.out.2.1.block _ (by omega)]; exact HW3.out.2.1)
      have hok4 := HO4.out k hlt
      obtain ⟨x, hx⟩ : ∃ x, x = o k := ⟨_, rfl⟩
      rw [← hx] at hok hok4
      have HX : Hid (o k = x) := hx.symm
      have hlx := (hS0.row x (by rw [hS0.len]; exact hok4)).1
      obtain ⟨y, hy⟩ : ∃ y, y = L.getD x 0 := ⟨_, rfl⟩
      rw [← hy] at hlx
      have HY : Hid (L.getD x 0 = y) := hy.symm
      clear hx hy hS0
      obtain ⟨hrk, hfk⟩ := HC.out.1.row k (by rw [HC.out.1.len]; exact hlt)
      obtain ⟨rk, hrk'⟩ : ∃ rk, rk = R.getD k 0 := ⟨_, rfl⟩
      rw [← hrk'] at hrk
      clear hrk'
      obtain ⟨S, hS⟩ : ∃ S, S = rin c k (4 - (k + 1)) (k + 1) E := ⟨_, rfl⟩
      have HS : Hid (rin c k (4 - (k + 1)) (k + 1) E = S ∧ rout c (4 - (k + 1)) (k + 1) S = TE) := by
        refine ⟨hS.symm, ?_⟩
        have h5 := HC.out.2.2.2
        rw [show 4 - k = 4 - (k + 1) + 1 by omega] at h5
        rw [hS]; exact h5
      have HLN : Hid (lin L o (4 - (k + 1)) (k + 1) (R.set k y) = TR) := by
        have h5 := HC.out.2.2.1
        rw [show 4 - k = 4 - (k + 1) + 1 by omega] at h5
        unfold lin at h5
        rw [HX.out, HY.out] at h5
        exact h5
      clear hS
      have hxI : (x : Int) < 4 := by omega
      obtain ⟨wo, rfl⟩ : ∃ wo : World, wo = wr := ⟨_, rfl⟩
      have HC2 : Hid (ShapeAt (wo.setCell ⟨w.heap.size + 3, k, none⟩ (.int .u64 y)) (w.heap.size + 3) (R.set k y) E ∧ Below (w.heap.size + 3) w3 (wo.setCell ⟨w.heap.size + 3, k, none⟩ (.int .u64 y))) := ⟨HC.out.1.label hlt y, HC.out.2.1.setCell (Nat.le_refl _) _⟩
      clear HC
      have hltI : decide ((k : Int) < 4) = true := by simp; omega
      go_wp2
      go_loopw [7] (fun j wr => ∃ (jj : Nat) (E : Int), k + 1 ≤ jj ∧ jj ≤ 4 ∧ j = .int .i64 jj ∧ Hid (ShapeAt wr (w.heap.size + 3) (R.set k y) E ∧ Below (w.heap.size + 3) w3 wr ∧ rin c k (4 - jj) jj E = S)) (fun j _ => 4 - (intOf j).toNat)
      case atStart => exact ⟨k + 1, E, by omega, by omega, by go_num, HC2.out.1, HC2.out.2, HS.out.1⟩
      case round =>
        clear HC2 hrk hfk hok hlx hn0
        obtain ⟨j, E, hj1, hj2, rfl, HC⟩ := hrel
        have hS0 : ShapeAt wr w.heap.size L e := HW3.out.1.block (HC.out.2.1.block _ (by omega))
        have hn0 := hS0.n
        have he0 := hS0.e
        clear hS0
        by_cases hj4 : j < 4
        · have hok := HBX.out wr k hlt 40 (0, 0) (w.heap.size + 1) (by rw [HC.out.2.1.block _ (by omega)]; exact HW3.out.2.1)
          have hoj := HBX.out wr j hj4 40 (0, 0) (w.heap.size + 1) (by rw [HC.out.2.1.block _ (by omega)]; exact HW3.out.2.1)
          have hoj4 := HO4.out j hj4
          rw [HX.out] at hok
          obtain ⟨z, hz⟩ : ∃ z, z = o j := ⟨_, rfl⟩
          rw [← hz] at hoj hoj4
          have HB : Hid (c k j = bit64 e (4 * min x z + max x z)) := by unfold Hid; rw [HCC.out, HX.out, hz]
          clear hz
          have hge := HC.out.1.e
          have hgf := HC.out.1.fr
          go_wp2
          go_quiet (fail)
          go_wp2
          rw [show min (x : Int) (z : Int) = ((min x z : Nat) : Int) by omega, show max (x : Int) (z : Int) = ((max x z : Nat) : Int) by omega]
          have hmn : min x z < 4 := by omega
          have hmx : max x z < 4 := by omega
          generalize min x z = mn at *
          generalize max x z = mx at *
          have hb : ∀ b, c k j = b → (bits BinOp.and IntKind.u64 e (IntKind.u64.wrap (2 ^ (4 * mn + mx))) != 0) = b := by
            intro b h; rw [← h, HB.out]; rfl
          clear hok hoj
          rcases hcc : c k j with _ | _
          · have hbk := hb _ hcc
            have HN : Hid (rin c k (4 - (j + 1)) (j + 1) E = S) := by
              have h5 := HC.out.2.2
              rw [show 4 - j = 4 - (j + 1) + 1 by omega] at h5
              unfold rin at h5
              rw [hcc] at h5
              exact h5
            clear hb hcc
            go_quiet (fail)
            go_wp2
            go_roundw
            case rel => exact ⟨j + 1, E, by omega, by omega, by go_num, HC.out.1.drewN _, below_drewN HC.out.2.1 _, HN.out⟩
            case measure => simp [intOf]; omega
          · have hbk := hb _ hcc
            have HN : Hid (rin c k (4 - (j + 1)) (j + 1) (bits BinOp.or IntKind.u64 E (IntKind.u64.wrap (2 ^ (4 * k + j)))) = S) := by
              have h5 := HC.out.2.2
              rw [show 4 - j = 4 - (j + 1) + 1 by omega] at h5
              unfold rin at h5
              rw [hcc] at h5
              exact h5
            clear hb hcc
            go_quiet (fail)
            go_wp2
            go_region
            go_wp2
            go_roundw
            case rel => exact ⟨j + 1, _, by omega, by omega, by go_num, (HC.out.1.drewN _).edge _, (below_drewN HC.out.2.1 _).setCell (by simp) _, HN.out⟩
            case measure => simp [intOf]; omega
        · obtain rfl : j = 4 := by omega
          have HE : Hid (E = S) := HC.out.2.2
          go_wp2
          go_roundw
          case rel => exact ⟨k + 1, R.set k y, E, by omega, by go_num, HC.out.1, HC.out.2.1, HLN.out, by rw [HE.out]; exact HS.out.2⟩
          case measure => simp [intOf]; omega
    · obtain rfl : k = 4 := by omega
      have HE : Hid (R = TR ∧ E = TE) := ⟨HC.out.2.2.1, HC.out.2.2.2⟩
      have hSg := HC.out.1
      rw [HE.out.1, HTR.out.2] at hSg
      have g0 : wr.cell? ⟨w.heap.size + 1 + 1 + 1, 0, none⟩ = some (.int .u64 y0) := (hSg.row 0 (by simp)).1
      have g1 : wr.cell? ⟨w.heap.size + 1 + 1 + 1, 1, none⟩ = some (.int .u64 y1) := (hSg.row 1 (by simp)).1
      have g2 : wr.cell? ⟨w.heap.size + 1 + 1 + 1, 2, none⟩ = some (.int .u64 y2) := (hSg.row 2 (by simp)).1
      have g3 : wr.cell? ⟨w.heap.size + 1 + 1 + 1, 3, none⟩ = some (.int .u64 y3) := (hSg.row 3 (by simp)).1
      have g4 : wr.cell? ⟨w.heap.size + 1 + 1 + 1, 4, none⟩ = some (.int .i64 4) := hSg.n
      have g5 : wr.cell? ⟨w.heap.size + 1 + 1 + 1, 5, none⟩ = some (.int .u64 E) := hSg.e
      have hz : wr.heap[w.heap.size + 1 + 1]? = some (.cells #[.int .u64 0, .int .u64 0, .int .u64 0, .int .u64 0, .int .i64 0, .int .u64 0] 97 (0, 0)) := (HC.out.2.1.block _ (by omega)).trans HW3.out.2.2.2
      have z0 : wr.cell? ⟨w.heap.size + 1 + 1, 0, none⟩ = some (.int .u64 0) := by rw [cell_of_heap hz]; rfl
      have z1 : wr.cell? ⟨w.heap.size + 1 + 1, 1, none⟩ = some (.int .u64 0) := by rw [cell_of_heap hz]; rfl
      have z2 : wr.cell? ⟨w.heap.size + 1 + 1, 2, none⟩ = some (.int .u64 0) := by rw [cell_of_heap hz]; rfl
      have z3 : wr.cell? ⟨w.heap.size + 1 + 1, 3, none⟩ = some (.int .u64 0) := by rw [cell_of_heap hz]; rfl
      have z4 : wr.cell? ⟨w.heap.size + 1 + 1, 4, none⟩ = some (.int .i64 0) := by rw [cell_of_heap hz]; rfl
      have z5 : wr.cell? ⟨w.heap.size + 1 + 1, 5, none⟩ = some (.int .u64 0) := by rw [cell_of_heap hz]; rfl
      have zf : ∀ i, wr.frozen? ⟨w.heap.size + 1 + 1, i, none⟩ = false := by intro i; simp [World.frozen?, hz]
      have x0 := zf 0
      have x1 := zf 1
      have x2 := zf 2
      have x3 := zf 3
      have x4 := zf 4
      have x5 := zf 5
      clear hz hSg zf
      go_wp2
      refine bodyPost_ret (v := .agg #[.int .u64 y0, .int .u64 y1, .int .u64 y2, .int .u64 y3, .int .i64 4, .int .u64 E]) (by simp [results, Ybad.results14, go_sem, z0, z1, z2, z3, z4, z5]) rfl ⟨?_, ?_⟩
      · rw [HE.out.2]
      · have HB : Below w.heap.size w wr := HW3.out.2.2.1.trans (HC.out.2.1.mono (by omega))
        have hle : w.heap.size ≤ w.heap.size + 1 + 1 := by omega
        exact (((((HB.setCell hle _).setCell hle _).setCell hle _).setCell hle _).setCell hle _).setCell hle _
end Go.Proofs.YbulkblxqDoor
