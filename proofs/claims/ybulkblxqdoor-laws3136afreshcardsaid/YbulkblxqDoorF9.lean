import Derived.Test.YbulkblxqDoorF8
namespace Go.Proofs.YbulkblxqDoor
open Go.RowKit
set_option linter.unusedVariables false
set_option linter.unusedSimpArgs false

structure HF (w wr : World) (g6 : Nat) (L : List Int) (Hs : List Int) : Prop where
  lab : ∀ i, i < 4 → wr.cell? ⟨w.heap.size, i, none⟩ = some (.int .u64 (L.getD i 0))
  ord : ∀ i, i < 12 → wr.cell? ⟨g6, i, none⟩ = some (.int .i64 (ordL.getD i 0 : Nat))
  res : RowU wr (w.heap.size + 2) Hs
  own : OwnU wr (w.heap.size + 2) 3
  zero : wr.heap[w.heap.size + 1]? = some (.cells #[.int .u64 0, .int .u64 0, .int .u64 0] 57 (0, 0))
  blw : Below w.heap.size w wr
  ge : w.heap.size + 3 ≤ g6
  lt : g6 < wr.heap.size

theorem HF.below {w wr w' : World} {g6 : Nat} {L Hs : List Int} (h : HF w wr g6 L Hs) (hb : Below wr.heap.size wr w') : HF w w' g6 L Hs := by
  have := h.ge
  have := h.lt
  exact ⟨fun i hi => by rw [hb.cell (cell_lt (h.lab i hi))]; exact h.lab i hi, fun i hi => by rw [hb.cell (cell_lt (h.ord i hi))]; exact h.ord i hi,
    h.res.block (hb.block _ (by omega)), h.own.block (hb.block _ (by omega)), (hb.block _ (by omega)).trans h.zero, h.blw.trans (hb.mono h.blw.size), h.ge, Nat.lt_of_lt_of_le h.lt hb.size⟩

theorem HF.push {w wr : World} {g6 : Nat} {L Hs : List Int} (h : HF w wr g6 L Hs) (hl : Hs.length < 3) (x : Int) : HF w (wr.setCell ⟨w.heap.size + 2, Hs.length, none⟩ (.int .u64 x)) g6 L (Hs ++ [x]) := by
  have := h.ge
  refine ⟨fun i hi => ?_, fun i hi => ?_, h.res.push h.own hl x, h.own.set _ _, ?_, h.blw.setCell (by simp) _, h.ge, ?_⟩
  · rw [World.cell?_setCell_other _ _ _ _ (by intro hq; injection hq with h1 _; omega)]; exact h.lab i hi
  · rw [World.cell?_setCell_other _ _ _ _ (by intro hq; injection hq with h1 _; omega)]; exact h.ord i hi
  · rw [Below.heap_setCell _ _ _ _ (by simp)]; exact h.zero
  · simp [World.setCell]; exact h.lt

def OrdAt (W : World) (g : Nat) (o : Nat → Nat) : Prop := ∀ i, i < 4 → W.cell? ⟨g, i, none⟩ = some (.int .i64 (o i : Int))
theorem OrdAt.below {W W' : World} {g : Nat} {o : Nat → Nat} (h : OrdAt W g o) (hb : Below W.heap.size W W') : OrdAt W' g o := fun i hi => by rw [hb.cell (cell_lt (h i hi))]; exact h i hi

theorem ordAt_of {W : World} {g : Nat} {o : Nat → Nat} {t : TypeId} {m : Nat × Nat} (hh : W.heap[g]? = some (.cells #[.int .i64 (o 0 : Int), .int .i64 (o 1 : Int), .int .i64 (o 2 : Int), .int .i64 (o 3 : Int)] t m)) : OrdAt W g o := by
  intro i hi
  rw [cell_of_heap hh]
  match i, hi with
  | 0, _ => rfl
  | 1, _ => rfl
  | 2, _ => rfl
  | 3, _ => rfl

theorem labO_getD (L : List Int) (o : Nat → Nat) {k : Nat} (hk : k < 4) : (labO L o).getD k 0 = L.getD (o k) 0 := by
  simp [labO, tabU, List.getD, List.getElem?_range hk]

theorem picks_start (e : Int) (o : Nat → Nat) (k : Nat) (Lo : List Int) : ∀ l, l ≤ k + 1 → picks (pW e o k) Lo l = []
  | 0, _ => rfl
  | l + 1, h => by
    unfold picks
    rw [picks_start e o k Lo l (by omega)]
    simp [pW, show ¬ k < l by omega]

set_option maxRecDepth 100000 in
set_option maxHeartbeats 4000000 in
theorem hashes_any (l0 l1 l2 l3 e : Int) (w : World) :
    Calls Ybad.prog 10 #[.agg #[.int .u64 l0, .int .u64 l1, .int .u64 l2, .int .u64 l3], .int .u64 e] w fun e' w' =>
      e' = .returned (.agg #[.int .u64 (hashO [l0, l1, l2, l3] e (ordA 0)), .int .u64 (hashO [l0, l1, l2, l3] e (ordA 1)), .int .u64 (hashO [l0, l1, l2, l3] e (ordA 2))]) ∧ Below w.heap.size w w' := by
  obtain ⟨L, hL⟩ : ∃ L : List Int, L = [l0, l1, l2, l3] := ⟨_, rfl⟩
  rw [← hL]
  obtain ⟨F, hF⟩ : ∃ F : Nat → Int, F = fun q => hashO L e (ordA q) := ⟨_, rfl⟩
  have HF0 : Hid (∀ q, F q = hashO L e (ordA q)) := by intro q; rw [hF]
  have e0 := HF0.out 0
  have e1 := HF0.out 1
  have e2 := HF0.out 2
  rw [← e0, ← e1, ← e2]
  clear hF e0 e1 e2
  obtain ⟨w1, hw1⟩ : ∃ w1, w1 = w.alloc (.cells #[.int .u64 l0, .int .u64 l1, .int .u64 l2, .int .u64 l3] 62) := ⟨_, rfl⟩
  obtain ⟨w2, hw2⟩ : ∃ w2, w2 = w1.alloc (.cells #[.int .u64 0, .int .u64 0, .int .u64 0] 57) := ⟨_, rfl⟩
  obtain ⟨w3, hw3⟩ : ∃ w3, w3 = w2.alloc (.cells #[.int .u64 0, .int .u64 0, .int .u64 0] 57) := ⟨_, rfl⟩
  have q1 : w1.heap.size = w.heap.size + 1 := by rw [hw1]; simp
  have q2 : w2.heap.size = w.heap.size + 2 := by rw [hw2]; simp [q1]
  have q3 : w3.heap.size = w.heap.size + 3 := by rw [hw3]; simp [q2]
  have HSt : Hid (∀ wc oV, Below w3.heap.size w3 wc → oV = Obj.cells #[.int .i64 0, .int .i64 1, .int .i64 2, .int .i64 3, .int .i64 0, .int .i64 2, .int .i64 1, .int .i64 3, .int .i64 0, .int .i64 2, .int .i64 3, .int .i64 1] 99 → HF w (wc.alloc oV) wc.heap.size L []) := by
    rintro wc oV hb rfl
    have hb1 : Below w.heap.size w w1 := by rw [hw1]; exact (Below.refl _ _).alloc (Nat.le_refl _) _
    have hb2 : Below (w.heap.size + 1) w1 w2 := by rw [hw2]; exact (Below.refl _ _).alloc (by omega) _
    have hb3 : Below (w.heap.size + 2) w2 w3 := by rw [hw3]; exact (Below.refl _ _).alloc (by omega) _
    have hb4 : Below (w.heap.size + 3) w3 (wc.alloc (Obj.cells #[.int .i64 0, .int .i64 1, .int .i64 2, .int .i64 3, .int .i64 0, .int .i64 2, .int .i64 1, .int .i64 3, .int .i64 0, .int .i64 2, .int .i64 3, .int .i64 1] 99)) := by rw [← q3]; exact hb.alloc hb.size _
    have hh := heap_at_new wc (Obj.cells #[.int .i64 0, .int .i64 1, .int .i64 2, .int .i64 3, .int .i64 0, .int .i64 2, .int .i64 1, .int .i64 3, .int .i64 0, .int .i64 2, .int .i64 3, .int .i64 1] 99)
    have hsz : wc.heap.size < (wc.alloc (Obj.cells #[.int .i64 0, .int .i64 1, .int .i64 2, .int .i64 3, .int .i64 0, .int .i64 2, .int .i64 1, .int .i64 3, .int .i64 0, .int .i64 2, .int .i64 3, .int .i64 1] 99)).heap.size := by simp
    generalize wc.alloc (Obj.cells #[.int .i64 0, .int .i64 1, .int .i64 2, .int .i64 3, .int .i64 0, .int .i64 2, .int .i64 1, .int .i64 3, .int .i64 0, .int .i64 2, .int .i64 3, .int .i64 1] 99) = W at *
    have k1 : W.heap[w.heap.size]? = some (.cells #[.int .u64 l0, .int .u64 l1, .int .u64 l2, .int .u64 l3] 62 (0, 0)) := by
      rw [hb4.block _ (by omega), hb3.block _ (by omega), hb2.block _ (by omega), hw1]; exact heap_at_new _ _
    have k2 : W.heap[w.heap.size + 1]? = some (.cells #[.int .u64 0, .int .u64 0, .int .u64 0] 57 (0, 0)) := by
      rw [hb4.block _ (by omega), hb3.block _ (by omega), hw2, ← q1]; exact heap_at_new _ _
    have k3 : W.heap[w.heap.size + 2]? = some (.cells #[.int .u64 0, .int .u64 0, .int .u64 0] 57 (0, 0)) := by
      rw [hb4.block _ (by omega), hw3, ← q2]; exact heap_at_new _ _
    refine ⟨fun i hi => ?_, fun i hi => ?_, RowU.nil _ _, ?_, k2, hb1.trans ((hb2.trans ((hb3.trans (hb4.mono (by omega))).mono (by omega))).mono (by omega)), by rw [← q3]; exact hb.size, hsz⟩
    · rw [cell_of_heap k1, hL]
      match i, hi with
      | 0, _ => rfl
      | 1, _ => rfl
      | 2, _ => rfl
      | 3, _ => rfl
    · rw [cell_of_heap hh]
      match i, hi with
      | 0, _ => rfl
      | 1, _ => rfl
      | 2, _ => rfl
      | 3, _ => rfl
      | 4, _ => rfl
      | 5, _ => rfl
      | 6, _ => rfl
      | 7, _ => rfl
      | 8, _ => rfl
      | 9, _ => rfl
      | 10, _ => rfl
      | 11, _ => rfl
    · refine ownU_of k3 fun i hi => ?_
      match i, hi with
      | 0, _ => rfl
      | 1, _ => rfl
      | 2, _ => rfl
  have HEQ : Hid (w3 = ((w.alloc (.cells #[.int .u64 l0, .int .u64 l1, .int .u64 l2, .int .u64 l3] 62)).alloc (.cells #[.int .u64 0, .int .u64 0, .int .u64 0] 57)).alloc (.cells #[.int .u64 0, .int .u64 0, .int .u64 0] 57)) := by
    unfold Hid; rw [hw3, hw2, hw1]
  clear hw1 hw2 hw3 q1 q2 q3 hL
  go_enter Ybad.func10, Ybad.ntmps10
  go_wp2_with fail
  refine (orders_any _).mono ?_
  rintro e' wc ⟨rfl, hb⟩
  have HST2 := HSt.out wc _ (by rw [HEQ.out]; exact hb) rfl
  have HST : Hid (HF w (wc.alloc (Obj.cells #[.int .i64 0, .int .i64 1, .int .i64 2, .int .i64 3, .int .i64 0, .int .i64 2, .int .i64 1, .int .i64 3, .int .i64 0, .int .i64 2, .int .i64 3, .int .i64 1] 99)) wc.heap.size L []) := HST2
  clear HST2 hb HSt HEQ
  obtain ⟨g6, hg6⟩ : ∃ g6, g6 = wc.heap.size := ⟨_, rfl⟩
  go_wp2
  rw [← hg6] at HST ⊢
  clear hg6
  go_loopw [7] (fun k wr => ∃ (kk : Nat), kk ≤ 3 ∧ k = .int .i64 kk ∧ Hid (HF w wr g6 L (tabU F kk))) (fun k _ => 3 - (intOf k).toNat)
  case atStart => exact ⟨0, by omega, rfl, HST.out⟩
  case round =>
    clear HST
    obtain ⟨q, hq, rfl, HQ⟩ := hrel
    by_cases hlt : q < 3
    · have hoc := HQ.out.ord
      have c0 : wr.cell? ⟨g6, q * 4, none⟩ = some (.int .i64 (ordL.getD (q * 4 + 0) 0 : Nat)) := hoc (q * 4 + 0) (by omega)
      have c1 := hoc (q * 4 + 1) (by omega)
      have c2 := hoc (q * 4 + 2) (by omega)
      have c3 := hoc (q * 4 + 3) (by omega)
      clear hoc
      rw [show ordL.getD (q * 4 + 0) 0 = ordA q 0 from rfl] at c0
      rw [show ordL.getD (q * 4 + 1) 0 = ordA q 1 from rfl] at c1
      rw [show ordL.getD (q * 4 + 2) 0 = ordA q 2 from rfl] at c2
      rw [show ordL.getD (q * 4 + 3) 0 = ordA q 3 from rfl] at c3
      have HO4 : Hid (∀ i, i < 4 → ordA q i < 4) := fun i hi => ordA_lt hlt hi
      have HFq : Hid (F q = hashO L e (ordA q)) := HF0.out q
      generalize ordA q = o at *
      obtain ⟨wo, rfl⟩ : ∃ wo : World, wo = wr := ⟨_, rfl⟩
      obtain ⟨wx, hwx⟩ : ∃ wx, wx = wo.alloc (.cells #[.int .i64 (o 0 : Int), .int .i64 (o 1 : Int), .int .i64 (o 2 : Int), .int .i64 (o 3 : Int)] 40) := ⟨_, rfl⟩
      have HX : Hid (HF w wx g6 L (tabU F q) ∧ OrdAt wx wo.heap.size o ∧ wx.heap.size = wo.heap.size + 1) := by
        rw [hwx]
        exact ⟨HQ.out.below ((Below.refl _ _).alloc (Nat.le_refl _) _), ordAt_of (heap_at_new _ _), by simp⟩
      have HSt : Hid (∀ W, W = (wo.alloc (.cells #[.int .i64 (o 0 : Int), .int .i64 (o 1 : Int), .int .i64 (o 2 : Int), .int .i64 (o 3 : Int)] 40)).alloc (.cells #[.int .u64 0, .int .u64 0, .int .u64 0, .int .u64 0] 62) → Below (wo.heap.size + 1) wx W ∧ OwnU W (wo.heap.size + 1) 4 ∧ wo.heap.size + 1 < W.heap.size) := by
        rintro W rfl
        rw [← hwx, ← HX.out.2.2]
        exact ⟨(Below.refl _ _).alloc (Nat.le_refl _) _, ownU4 _ _, by simp⟩
      clear hwx HQ
      obtain ⟨V, hV⟩ : ∃ V : Nat → Int, V = fun k => hvP (pW e o k) (labO L o) k := ⟨_, rfl⟩
      have HV : Hid ((∀ k, V k = (isort (picks (pW e o k) (labO L o) 4)).foldl fnv8 (fnv8 14695981039346656037 ((labO L o).getD k 0))) ∧ F q = (isort (tabU V 4)).foldl fnv8 14695981039346656037) := by
        refine ⟨fun k => by rw [hV]; rfl, ?_⟩
        rw [HFq.out, hV]; rfl
      clear hV HFq
      have hqI : decide ((q : Int) < 3) = true := by simp; omega
      go_wp2
      clear c0 c1 c2 c3
      go_loopw [10] (fun k wr => ∃ (kk : Nat), kk ≤ 4 ∧ k = .int .i64 kk ∧ Hid (RowU wr (wo.heap.size + 1) (tabU V kk) ∧ OwnU wr (wo.heap.size + 1) 4 ∧ Below (wo.heap.size + 1) wx wr ∧ wo.heap.size + 1 < wr.heap.size)) (fun k _ => 4 - (intOf k).toNat)
      case atStart => exact ⟨0, by omega, rfl, RowU.nil _ _, (HSt.out _ rfl).2.1, (HSt.out _ rfl).1, (HSt.out _ rfl).2.2⟩
      case round =>
        obtain ⟨k, hk, rfl, HK⟩ := hrel
        by_cases hk4 : k < 4
        · obtain ⟨wv, rfl⟩ : ∃ wv : World, wv = wr := ⟨_, rfl⟩
          have HBv : Hid (Below wx.heap.size wx wv) := by unfold Hid; rw [HX.out.2.2]; exact HK.out.2.2.1
          have HVF : Hid (HF w wv g6 L (tabU F q) ∧ OrdAt wv wo.heap.size o) := ⟨HX.out.1.below HBv.out, HX.out.2.1.below HBv.out⟩
          have HSt2 : Hid (Below wv.heap.size wv (wv.alloc (.cells #[.int .u64 0, .int .u64 0, .int .u64 0, .int .u64 0] 62)) ∧ OwnU (wv.alloc (.cells #[.int .u64 0, .int .u64 0, .int .u64 0, .int .u64 0] 62)) wv.heap.size 4) := ⟨(Below.refl _ _).alloc (Nat.le_refl _) _, ownU4 _ _⟩
          have hoi := HO4.out k hk4
          have hkD : decide ((k : Int) < 4) = true := by simp; omega
          go_wp2
          go_loopw [12, 13] (fun m l wr => ∃ (ll : Nat) (C : List Int), k + 1 ≤ ll ∧ ll ≤ 4 ∧ l = .int .i64 ll ∧ m = .int .i64 C.length ∧ C.length ≤ ll - (k + 1) ∧ Hid (C = picks (pW e o k) (labO L o) ll ∧ RowU wr wv.heap.size C ∧ OwnU wr wv.heap.size 4 ∧ Below wv.heap.size wv wr ∧ wv.heap.size < wr.heap.size)) (fun _ l _ => 4 - (intOf l).toNat)
          case atStart => exact ⟨k + 1, [], by omega, by omega, by go_num, rfl, by simp, (picks_start e o k _ (k + 1) (by omega)).symm, RowU.nil _ _, HSt2.out.2, HSt2.out.1, by simp⟩
          case round =>
            obtain ⟨l, C, hl1, hl2, rfl, rfl, hCl, HC⟩ := hrel
            have hcell : ∀ i, i < 4 → wr.cell? ⟨wo.heap.size, i, none⟩ = some (.int .i64 (o i : Int)) := HVF.out.2.below HC.out.2.2.2.1
            have ck := hcell k hk4
            by_cases hl4 : l < 4
            · have cl := hcell l hl4
              have hol := HO4.out l hl4
              have clab := (HVF.out.1.below HC.out.2.2.2.1).lab (o l) hol
              have HB : Hid (pW e o k l = bit64 e (4 * min (o k) (o l) + max (o k) (o l))) := by
                unfold Hid pW cR
                simp [show k < l by omega]
              have HLB : Hid ((labO L o).getD l 0 = L.getD (o l) 0) := labO_getD L o hl4
              clear hcell
              obtain ⟨x, hx⟩ : ∃ x, x = o k := ⟨_, rfl⟩
              obtain ⟨z, hz⟩ : ∃ z, z = o l := ⟨_, rfl⟩
              obtain ⟨y, hy⟩ : ∃ y, y = L.getD (o l) 0 := ⟨_, rfl⟩
              rw [← hy] at clab HLB
              rw [← hx] at ck HB
              rw [← hz] at cl clab HB
              rw [← hx] at hoi
              rw [← hz] at hol
              clear hx hz hy
              have hxI : (x : Int) < 4 := by omega
              have hzI : (z : Int) < 4 := by omega
              have hPS : picks (pW e o k) (labO L o) (l + 1) = if pW e o k l then picks (pW e o k) (labO L o) l ++ [(labO L o).getD l 0] else picks (pW e o k) (labO L o) l := rfl
              have HPS : Hid (picks (pW e o k) (labO L o) (l + 1) = if pW e o k l then C ++ [y] else C) := by
                unfold Hid; rw [hPS, HLB.out, ← HC.out.1]
              clear hPS
              obtain ⟨⟨u, hu⟩, hfz⟩ := HC.out.2.2.1 C.length (by omega)
              have hbits : ∀ (a b : Nat) (v : Bool), min x z = a → max x z = b → pW e o k l = v → (bits BinOp.and IntKind.u64 e (IntKind.u64.wrap (2 ^ (4 * a + b))) != 0) = v := by
                intro a b v ha hb hv
                rw [← hv, HB.out, ha, hb]; rfl
              rcases hv : pW e o k l with _ | _
              · have HN : Hid (C = picks (pW e o k) (labO L o) (l + 1)) := by unfold Hid; rw [HPS.out, hv]; rfl
                by_cases hsw : z < x
                · have hbk := hbits z x false (by omega) (by omega) hv
                  clear hbits hv
                  go_wp2
                  go_quiet (fail)
                  go_wp2
                  go_roundw
                  case rel => exact ⟨l + 1, C, by omega, by omega, by go_num, rfl, by omega, HN.out, HC.out.2.1, HC.out.2.2.1, below_drewN HC.out.2.2.2.1 _, HC.out.2.2.2.2⟩
                  case measure => simp [intOf]; omega
                · have hbk := hbits x z false (by omega) (by omega) hv
                  clear hbits hv
                  go_wp2
                  go_quiet (fail)
                  go_wp2
                  go_roundw
                  case rel => exact ⟨l + 1, C, by omega, by omega, by go_num, rfl, by omega, HN.out, HC.out.2.1, HC.out.2.2.1, below_drewN HC.out.2.2.2.1 _, HC.out.2.2.2.2⟩
                  case measure => simp [intOf]; omega
              · have HN : Hid (C ++ [y] = picks (pW e o k) (labO L o) (l + 1)) := by unfold Hid; rw [HPS.out, hv]; rfl
                have HP : Hid (∀ nq : Nat, RowU ((wr.drewN nq).setCell ⟨wv.heap.size, C.length, none⟩ (.int .u64 y)) wv.heap.size (C ++ [y]) ∧ OwnU ((wr.drewN nq).setCell ⟨wv.heap.size, C.length, none⟩ (.int .u64 y)) wv.heap.size 4 ∧ Below wv.heap.size wv ((wr.drewN nq).setCell ⟨wv.heap.size, C.length, none⟩ (.int .u64 y)) ∧ wv.heap.size < ((wr.drewN nq).setCell ⟨wv.heap.size, C.length, none⟩ (.int .u64 y)).heap.size) := by
                  intro nq
                  have hr : RowU (wr.drewN nq) wv.heap.size C := HC.out.2.1
                  have ho : OwnU (wr.drewN nq) wv.heap.size 4 := HC.out.2.2.1
                  exact ⟨hr.push ho (by omega) y, ho.set _ _, (below_drewN HC.out.2.2.2.1 _).setCell (Nat.le_refl _) _, by simp [World.setCell]; exact HC.out.2.2.2.2⟩
                by_cases hsw : z < x
                · have hbk := hbits z x true (by omega) (by omega) hv
                  clear hbits hv
                  go_wp2
                  go_quiet (fail)
                  go_wp2
                  go_roundw
                  case rel => exact ⟨l + 1, C ++ [y], by omega, by omega, by go_num, by simp, by simp; omega, HN.out, HP.out _⟩
                  case measure => simp [intOf]; omega
                · have hbk := hbits x z true (by omega) (by omega) hv
                  clear hbits hv
                  go_wp2
                  go_quiet (fail)
                  go_wp2
                  go_roundw
                  case rel => exact ⟨l + 1, C ++ [y], by omega, by omega, by go_num, by simp, by simp; omega, HN.out, HP.out _⟩
                  case measure => simp [intOf]; omega
            · obtain rfl : l = 4 := by omega
              clear hcell
              have hsl : ∀ W, (Instr.sliceAt 62 (.pointer (some ⟨wv.heap.size, 0, none⟩)) none (some (.int .i64 (C.length : Int))) none).run Ybad.prog W = .ok (.slice (some ⟨wv.heap.size, 0, none⟩) C.length 4) W := fun W => slice62 W wv.heap.size C.length (by omega)
              go_wp2_with fail
              refine (sortu_any wv.heap.size C.length 4 C _ HC.out.2.1 rfl (by omega)).mono ?_
              rintro e' w1 ⟨rfl, hrow, htouch⟩
              clear hsl ck
              have HB1 : Hid (Below wv.heap.size wv w1) := HC.out.2.2.2.1.trans (htouch.below (Nat.le_refl _))
              have HL1 : Hid (wv.heap.size < w1.heap.size) := by unfold Hid; rw [htouch.size]; exact HC.out.2.2.2.2
              obtain ⟨S, hS⟩ : ∃ S, S = isort C := ⟨_, rfl⟩
              have HS : Hid (RowU w1 wv.heap.size S ∧ S.length = C.length) := by
                rw [hS]; exact ⟨hrow, isort_length C⟩
              have ck : w1.cell? ⟨wo.heap.size, k, none⟩ = some (.int .i64 (o k : Int)) := (HVF.out.2.below HB1.out) k hk4
              have clab := (HVF.out.1.below HB1.out).lab (o k) hoi
              have HLB : Hid ((labO L o).getD k 0 = L.getD (o k) 0) := labO_getD L o hk4
              have HVk : Hid (V k = S.foldl fnv8 (fnv8 14695981039346656037 (L.getD (o k) 0))) := by
                unfold Hid; rw [HV.out.1 k, hS, HC.out.1, HLB.out]
              clear hS hrow htouch HLB
              obtain ⟨x, hx⟩ : ∃ x, x = o k := ⟨_, rfl⟩
              rw [← hx] at ck clab hoi HVk
              obtain ⟨y, hy⟩ : ∃ y, y = L.getD x 0 := ⟨_, rfl⟩
              rw [← hy] at clab HVk
              clear hx hy
              have hxI : (x : Int) < 4 := by omega
              obtain ⟨h0, hh0⟩ : ∃ h0, h0 = fnv8 14695981039346656037 y := ⟨_, rfl⟩
              have HF1 : Hid (Calls Ybad.prog 20 #[.int .u64 14695981039346656037, .int .u64 y] w1 fun e w' => e = .returned (.int .u64 h0) ∧ w' = w1) := by rw [hh0]; exact fnv_any _ _ _
              rw [← hh0] at HVk
              clear hh0
              go_wp2_with fail
              refine HF1.out.mono ?_
              rintro e' w2 ⟨rfl, rfl⟩
              go_wp2
              obtain ⟨Vk, hVk⟩ : ∃ Vk, Vk = V k := ⟨_, rfl⟩
              go_loopw [16, 17] (fun h t wr => ∃ (tt : Nat) (h' : Int), tt ≤ C.length ∧ t = .int .i64 tt ∧ h = .int .u64 h' ∧ Hid (wr = w2 ∧ (S.drop tt).foldl fnv8 h' = Vk)) (fun _ t _ => C.length - (intOf t).toNat)
              case atStart => exact ⟨0, h0, by omega, rfl, rfl, rfl, by rw [hVk, HVk.out]; rfl⟩
              case round =>
                clear HC
                obtain ⟨t, h', ht, rfl, rfl, HT⟩ := hrel
                obtain rfl : wr = w2 := HT.out.1
                by_cases htl : t < C.length
                · have ct := (HS.out.1 t (by rw [HS.out.2]; exact htl)).1
                  have hn4 : C.length < 4 := by omega
                  have HD : Hid ((S.drop (t + 1)).foldl fnv8 (fnv8 h' (S.getD t 0)) = Vk) := by
                    have h5 := HT.out.2
                    have hkl : t < S.length := by rw [HS.out.2]; exact htl
                    rw [List.drop_eq_getElem_cons hkl, List.foldl_cons] at h5
                    rw [show S.getD t 0 = S[t] by simp [List.getD, hkl]]
                    exact h5
                  generalize S.getD t 0 = st at *
                  obtain ⟨h2, hh2⟩ : ∃ h2, h2 = fnv8 h' st := ⟨_, rfl⟩
                  have HF2 : Hid (Calls Ybad.prog 20 #[.int .u64 h', .int .u64 st] wr fun e w' => e = .returned (.int .u64 h2) ∧ w' = wr) := by rw [hh2]; exact fnv_any _ _ _
                  rw [← hh2] at HD
                  clear hh2 HT
                  have hti : (t : Int) < 4 := by omega
                  go_wp2_with fail
                  refine HF2.out.mono ?_
                  rintro e' w3 ⟨rfl, rfl⟩
                  go_wp2
                  go_roundw
                  case rel => exact ⟨t + 1, h2, by omega, by go_num, rfl, trivial, HD.out⟩
                  case measure => simp [intOf]; omega
                · obtain rfl : t = C.length := by omega
                  have HE : Hid (h' = Vk) := by
                    have h5 := HT.out.2
                    rw [List.drop_of_length_le (by rw [HS.out.2]; omega)] at h5
                    exact h5
                  have hblk : wr.heap[wo.heap.size + 1]? = wv.heap[wo.heap.size + 1]? := HB1.out.block _ HK.out.2.2.2
                  have HO1 : Hid (OwnU wr (wo.heap.size + 1) 4 ∧ RowU wr (wo.heap.size + 1) (tabU V k) ∧ Below (wo.heap.size + 1) wx wr ∧ wo.heap.size + 1 < wr.heap.size) :=
                    ⟨HK.out.2.1.block hblk, HK.out.1.block hblk, HK.out.2.2.1.trans (HB1.out.mono (Nat.le_of_lt HK.out.2.2.2)), Nat.lt_of_lt_of_le HK.out.2.2.2 HB1.out.size⟩
                  obtain ⟨⟨u, hu⟩, hfz⟩ := HO1.out.1 k hk4
                  have HVV : Hid (V k = h') := by unfold Hid; rw [← hVk, HE.out]
                  clear HT hblk hVk
                  have hkI : (k : Int) < 4 := by omega
                  go_wp2
                  go_roundw
                  case rel =>
                    refine ⟨k + 1, by omega, by go_num, ?_, HO1.out.1.set _ _, HO1.out.2.2.1.setCell (Nat.le_refl _) _, by simp [World.setCell]; exact HO1.out.2.2.2⟩
                    rw [tabU_succ, HVV.out]
                    have h5 := HO1.out.2.1.push HO1.out.1 (by rw [tabU_length]; exact hk4) h'
                    rw [tabU_length] at h5
                    exact h5
                  case measure => simp [intOf]; omega
        · obtain rfl : k = 4 := by omega
          have hsl : ∀ W, (Instr.sliceAt 62 (.pointer (some ⟨wo.heap.size + 1, 0, none⟩)) none none none).run Ybad.prog W = .ok (.slice (some ⟨wo.heap.size + 1, 0, none⟩) 4 4) W := fun W => slice62all W (wo.heap.size + 1)
          go_wp2_with fail
          refine (sortu_any (wo.heap.size + 1) 4 4 (tabU V 4) _ HK.out.1 (tabU_length _ _) (by omega)).mono ?_
          rintro e' w1 ⟨rfl, hrow, htouch⟩
          clear hsl
          have HB1 : Hid (Below wx.heap.size wx w1) := by unfold Hid; rw [HX.out.2.2]; exact HK.out.2.2.1.trans (htouch.below (Nat.le_refl _))
          have H1F : Hid (HF w w1 g6 L (tabU F q)) := HX.out.1.below HB1.out
          obtain ⟨S, hS⟩ : ∃ S, S = isort (tabU V 4) := ⟨_, rfl⟩
          have HS : Hid (RowU w1 (wo.heap.size + 1) S ∧ S.length = 4 ∧ F q = S.foldl fnv8 14695981039346656037) := by
            rw [hS]; exact ⟨hrow, by rw [isort_length, tabU_length], HV.out.2⟩
          clear hS hrow htouch HK
          go_wp2
          obtain ⟨Fq, hFq⟩ : ∃ Fq, Fq = F q := ⟨_, rfl⟩
          go_loopw [18, 19] (fun h t wr => ∃ (tt : Nat) (h' : Int), tt ≤ 4 ∧ t = .int .i64 tt ∧ h = .int .u64 h' ∧ Hid (wr = w1 ∧ (S.drop tt).foldl fnv8 h' = Fq)) (fun _ t _ => 4 - (intOf t).toNat)
          case atStart => exact ⟨0, 14695981039346656037, by omega, rfl, rfl, rfl, by rw [hFq, HS.out.2.2]; rfl⟩
          case round =>
            obtain ⟨t, h', ht, rfl, rfl, HT⟩ := hrel
            obtain rfl : wr = w1 := HT.out.1
            by_cases htl : t < 4
            · have ct := (HS.out.1 t (by rw [HS.out.2.1]; exact htl)).1
              have HD : Hid ((S.drop (t + 1)).foldl fnv8 (fnv8 h' (S.getD t 0)) = Fq) := by
                have h5 := HT.out.2
                have hkl : t < S.length := by rw [HS.out.2.1]; exact htl
                rw [List.drop_eq_getElem_cons hkl, List.foldl_cons] at h5
                rw [show S.getD t 0 = S[t] by simp [List.getD, hkl]]
                exact h5
              generalize S.getD t 0 = st at *
              obtain ⟨h2, hh2⟩ : ∃ h2, h2 = fnv8 h' st := ⟨_, rfl⟩
              have HF2 : Hid (Calls Ybad.prog 20 #[.int .u64 h', .int .u64 st] wr fun e w' => e = .returned (.int .u64 h2) ∧ w' = wr) := by rw [hh2]; exact fnv_any _ _ _
              rw [← hh2] at HD
              clear hh2 HT
              have hti : (t : Int) < 4 := by omega
              go_wp2_with fail
              refine HF2.out.mono ?_
              rintro e' w3 ⟨rfl, rfl⟩
              go_wp2
              go_roundw
              case rel => exact ⟨t + 1, h2, by omega, by go_num, rfl, trivial, HD.out⟩
              case measure => simp [intOf]; omega
            · obtain rfl : t = 4 := by omega
              have HE : Hid (h' = Fq) := by
                have h5 := HT.out.2
                rw [List.drop_of_length_le (by rw [HS.out.2.1]; omega)] at h5
                exact h5
              have HFF : Hid (F q = h') := by unfold Hid; rw [← hFq, HE.out]
              obtain ⟨⟨u, hu⟩, hfz⟩ := H1F.out.own q hlt
              have HP : Hid (HF w (wr.setCell ⟨w.heap.size + 2, q, none⟩ (.int .u64 h')) g6 L (tabU F q ++ [h'])) := by
                have h5 := H1F.out.push (by rw [tabU_length]; exact hlt) h'
                rw [tabU_length] at h5
                exact h5
              clear HT hFq
              have hqI2 : (q : Int) < 3 := by omega
              go_wp2
              go_roundw
              case rel =>
                refine ⟨q + 1, by omega, by go_num, ?_⟩
                rw [tabU_succ, HFF.out]
                exact HP
              case measure => simp [intOf]; omega
    · obtain rfl : q = 3 := by omega
      have hres := HQ.out.res
      have g0 : wr.cell? ⟨w.heap.size + 1 + 1, 0, none⟩ = some (.int .u64 (F 0)) := (hres 0 (by simp [tabU])).1
      have g1 : wr.cell? ⟨w.heap.size + 1 + 1, 1, none⟩ = some (.int .u64 (F 1)) := (hres 1 (by simp [tabU])).1
      have g2 : wr.cell? ⟨w.heap.size + 1 + 1, 2, none⟩ = some (.int .u64 (F 2)) := (hres 2 (by simp [tabU])).1
      have hz := HQ.out.zero
      have z0 : wr.cell? ⟨w.heap.size + 1, 0, none⟩ = some (.int .u64 0) := by rw [cell_of_heap hz]; rfl
      have z1 : wr.cell? ⟨w.heap.size + 1, 1, none⟩ = some (.int .u64 0) := by rw [cell_of_heap hz]; rfl
      have z2 : wr.cell? ⟨w.heap.size + 1, 2, none⟩ = some (.int .u64 0) := by rw [cell_of_heap hz]; rfl
      have zf : ∀ i, wr.frozen? ⟨w.heap.size + 1, i, none⟩ = false := by intro i; simp [World.frozen?, hz]
      have x0 := zf 0
      have x1 := zf 1
      have x2 := zf 2
      clear hz hres zf
      go_wp2
      refine bodyPost_ret (v := .agg #[.int .u64 (F 0), .int .u64 (F 1), .int .u64 (F 2)]) (by simp [results, Ybad.results10, go_sem, z0, z1, z2]) rfl ⟨rfl, ?_⟩
      have hle : w.heap.size ≤ w.heap.size + 1 := by omega
      exact ((HQ.out.blw.setCell hle _).setCell hle _).setCell hle _
end Go.Proofs.YbulkblxqDoor
