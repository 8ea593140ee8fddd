import Derived.Test.YbulkblxqDoorF13
namespace Go.Proofs.YbulkblxqDoor
open Go.RowKit Go.Maps
set_option linter.unusedVariables false
set_option linter.unusedSimpArgs false

theorem guard57 (op : BinOp) (x y : Operand) (xs ys : Array Value) (W : World) : (eqGuard op 57 x y (.agg xs) (.agg ys)).run Ybad.prog W = .ok () W :=
  run_eqGuard_agg W op 57 x y xs ys (by kernel_rfl)
theorem part22 (xs : Array Value) (k : Nat) (v : Value) (h : xs[k]? = some v) (W : World) : (part 22 xs k).run Ybad.prog W = .ok v W := by
  have hs : ∀ W, (sizeOf 22).run Ybad.prog W = .ok 1 W := fun W => by kernel_rfl
  simp [part, hs, h]
theorem eqIn57 (d : Nat) (h0 h1 h2 k0 k1 k2 : Int) (W : World) : (Op.equalIn (d + 1 + 1) 57 (.agg #[.int .u64 h0, .int .u64 h1, .int .u64 h2]) (.agg #[.int .u64 k0, .int .u64 k1, .int .u64 k2])).run Ybad.prog W = .ok (h0 == k0 && h1 == k1 && h2 == k2) W := by
  have hs : ∀ W, (sizeOf 22).run Ybad.prog W = .ok 1 W := fun W => by kernel_rfl
  have he : ∀ (a b : Int) W, (Op.equalIn (d + 1) 22 (.int .u64 a) (.int .u64 b)).run Ybad.prog W = .ok (a == b) W := fun a b W => run_equalIn_int W d 22 .u64 .u64 a b Ybad.underlying22
  generalize hq : d + 1 = q at *
  unfold Op.equalIn
  simp only [Sem.run_bind, run_underlying Ybad.underlying57, Result.andThen_ok, hs, Std.Legacy.Range.forIn_eq_forIn_range', Std.Legacy.Range.size]
  have p0 := fun (a b c : Int) W => part22 #[.int .u64 a, .int .u64 b, .int .u64 c] 0 (.int .u64 a) rfl W
  have p1 := fun (a b c : Int) W => part22 #[.int .u64 a, .int .u64 b, .int .u64 c] 1 (.int .u64 b) rfl W
  have p2 := fun (a b c : Int) W => part22 #[.int .u64 a, .int .u64 b, .int .u64 c] 2 (.int .u64 c) rfl W
  simp [List.range', p0, p1, p2, he]
  by_cases e0 : h0 = k0 <;> by_cases e1 : h1 = k1 <;> by_cases e2 : h2 = k2 <;> simp [e0, e1, e2]
theorem eq57 (h0 h1 h2 k0 k1 k2 : Int) (W : World) : (Op.equal 57 (.agg #[.int .u64 h0, .int .u64 h1, .int .u64 h2]) (.agg #[.int .u64 k0, .int .u64 k1, .int .u64 k2])).run Ybad.prog W = .ok (h0 == k0 && h1 == k1 && h2 == k2) W :=
  eqIn57 9998 h0 h1 h2 k0 k1 k2 W
theorem neq57 (h0 h1 h2 k0 k1 k2 : Int) (W : World) : (binOp .neq 57 (.agg #[.int .u64 h0, .int .u64 h1, .int .u64 h2]) (.agg #[.int .u64 k0, .int .u64 k1, .int .u64 k2])).run Ybad.prog W = .ok (.bool (!(h0 == k0 && h1 == k1 && h2 == k2))) W := by
  simp [binOp, eq57]
theorem eql57 (h0 h1 h2 k0 k1 k2 : Int) (W : World) : (binOp .eql 57 (.agg #[.int .u64 h0, .int .u64 h1, .int .u64 h2]) (.agg #[.int .u64 k0, .int .u64 k1, .int .u64 k2])).run Ybad.prog W = .ok (.bool (h0 == k0 && h1 == k1 && h2 == k2)) W := by
  simp [binOp, eq57]

def rowsP : Nat → List Value
  | 0 => []
  | k + 1 => rowsP k ++ [.int .u64 (k : Int), .int .u64 0, .int .u64 0]

/-- The finder, as it was made. -/
def Find2 (w3 wx : World) (bf g np cap : Nat) : Prop :=
  bf = w3.heap.size ∧ FindAt w3 wx bf g np cap ∧ wx.frozen? ⟨bf, 148, none⟩ = false ∧ bf < wx.heap.size

theorem find2_of {w w5 : World} {cs : Array Value} {g np cap : Nat} {t : TypeId} (hb : Below w.heap.size w w5) (h2 : cs[2]? = some (.slice (some ⟨g, 0, none⟩) np cap)) (h29 : cs[148]? = some (.slice none 0 0)) :
    Find2 w5 (w5.alloc (.cells cs t)) w5.heap.size g np cap := by
  refine ⟨rfl, findAt_of hb h2 h29, ?_, by simp⟩
  have hh := heap_at_new w5 (.cells cs t)
  generalize w5.alloc (.cells cs t) = W at *
  simp [World.frozen?, hh]

structure PreF (wc wr : World) (bf g np cap k : Nat) (sa : Option Addr) (sc : Nat) : Prop where
  c148 : wr.cell? ⟨bf, 148, none⟩ = some (.slice sa k sc)
  fr : wr.frozen? ⟨bf, 148, none⟩ = false
  row : wr.ownsRow (bf + 1) 57 3 (.slice sa k sc) k (rowsP k)
  c2 : wr.cell? ⟨bf, 2, none⟩ = some (.slice (some ⟨g, 0, none⟩) np cap)
  blw : Below bf wc wr
  lt : bf < wr.heap.size

theorem rowsP_length : ∀ k, (rowsP k).length = k * 3
  | 0 => rfl
  | k + 1 => by unfold rowsP; simp [rowsP_length k]; omega

theorem rowsP_get : ∀ (k i : Nat), i < k → (rowsP k)[i * 3]? = some (.int .u64 (i : Int)) ∧ (rowsP k)[i * 3 + 1]? = some (.int .u64 0) ∧ (rowsP k)[i * 3 + 2]? = some (.int .u64 0)
  | 0, i, h => by omega
  | k + 1, i, h => by
    have hl := rowsP_length k
    unfold rowsP
    by_cases e : i = k
    · subst e
      rw [List.getElem?_append_right (by omega), List.getElem?_append_right (by omega), List.getElem?_append_right (by omega), hl]
      simp
    · obtain ⟨h1, h2, h3⟩ := rowsP_get k i (by omega)
      rw [List.getElem?_append_left (by omega), List.getElem?_append_left (by omega), List.getElem?_append_left (by omega)]
      exact ⟨h1, h2, h3⟩

/-- What the law reads behind the first call. -/
structure Aft (W : World) (bf g cap k : Nat) (h0 h1 h2 : Int) : Prop where
  c148 : W.cell? ⟨bf, 148, none⟩ = some (.slice (some ⟨g, 0, none⟩) (k + 1) cap)
  n0 : W.cell? ⟨g, k * 3, none⟩ = some (.int .u64 h0)
  n1 : W.cell? ⟨g, k * 3 + 1, none⟩ = some (.int .u64 h1)
  n2 : W.cell? ⟨g, k * 3 + 2, none⟩ = some (.int .u64 h2)
  rows : ∀ i, i < k → W.cell? ⟨g, i * 3, none⟩ = some (.int .u64 (i : Int)) ∧ W.cell? ⟨g, i * 3 + 1, none⟩ = some (.int .u64 0) ∧ W.cell? ⟨g, i * 3 + 2, none⟩ = some (.int .u64 0)

theorem Aft.below {W W' : World} {bf g cap k : Nat} {h0 h1 h2 : Int} (h : Aft W bf g cap k h0 h1 h2) (hb : Below W.heap.size W W') : Aft W' bf g cap k h0 h1 h2 := by
  have e : ∀ {a v}, W.cell? a = some v → W'.cell? a = some v := fun hc => by rw [hb.cell (cell_lt hc)]; exact hc
  exact ⟨e h.c148, e h.n0, e h.n1, e h.n2, fun i hi => ⟨e (h.rows i hi).1, e (h.rows i hi).2.1, e (h.rows i hi).2.2⟩⟩

theorem aft_of {W : World} {bf base g cap k : Nat} {h0 h1 h2 : Int} (hc : W.cell? ⟨bf, 148, none⟩ = some (.slice (some ⟨g, 0, none⟩) (k + 1) cap))
    (hr : W.ownsRow base 57 3 (.slice (some ⟨g, 0, none⟩) (k + 1) cap) (k + 1) (rowsP k ++ [.int .u64 h0, .int .u64 h1, .int .u64 h2])) : Aft W bf g cap k h0 h1 h2 := by
  have hl := rowsP_length k
  have hadd : ∀ j, (⟨g, 0, none⟩ : Addr).add j = ⟨g, j, none⟩ := by intro j; unfold Addr.add; split <;> simp_all
  have hcl := hr.cells rfl
  simp only [hadd] at hcl
  refine ⟨hc, hcl _ _ ?_, hcl _ _ ?_, hcl _ _ ?_, fun i hi => ?_⟩
  · rw [List.getElem?_append_right (by omega), hl]; simp
  · rw [List.getElem?_append_right (by omega), hl]; simp
  · rw [List.getElem?_append_right (by omega), hl]; simp
  · obtain ⟨h1, h2, h3⟩ := rowsP_get k i hi
    exact ⟨hcl _ _ (by rw [List.getElem?_append_left (by omega)]; exact h1), hcl _ _ (by rw [List.getElem?_append_left (by omega)]; exact h2), hcl _ _ (by rw [List.getElem?_append_left (by omega)]; exact h3)⟩

set_option maxRecDepth 100000 in
set_option maxHeartbeats 4000000 in
theorem fresh_small (t0 t1 t2 t3 l0 l1 l2 l3 p0 p1 p2 p3 b0 b1 pre : Int) (a : Option Addr) (n c : Nat) (L : List PIn) (w : World) (hL : IsPIns w a n L) (hbig : bigB L = false)
   (q0 : 0 ≤ p0 ∧ p0 < 256) (q1 : 0 ≤ p1 ∧ p1 < 256) (q2 : 0 ≤ p2 ∧ p2 < 256) (q3 : 0 ≤ p3 ∧ p3 < 256) (hpre : 0 ≤ pre ∧ pre < 256)
   (wb0 : (Lit.int .i32 b0).wf = true) (wb1 : (Lit.int .i32 b1).wf = true) (hG : OrdG w) (hw0 : 0 < w.heap.size) :
    Calls Ybad.prog 3 #[.agg #[.int .i64 t0, .int .i64 t1, .int .i64 t2, .int .i64 t3, .int .u64 l0, .int .u64 l1, .int .u64 l2, .int .u64 l3, .int .u8 p0, .int .u8 p1, .int .u8 p2, .int .u8 p3, .int .i32 b0, .int .i32 b1, .slice a n c, .int .u8 pre]] w fun e w' =>
      e = .returned (.bool true) ∧ Below w.heap.size w w' := by
  have H0 : Hid (IsPIns w a n L ∧ bigB L = false) := ⟨hL, hbig⟩
  have HQ : Hid ((0 ≤ p0 ∧ p0 < 256) ∧ (0 ≤ p1 ∧ p1 < 256) ∧ (0 ≤ p2 ∧ p2 < 256) ∧ (0 ≤ p3 ∧ p3 < 256) ∧ (Lit.int .i32 b0).wf = true ∧ (Lit.int .i32 b1).wf = true) := ⟨q0, q1, q2, q3, wb0, wb1⟩
  have HG0 : Hid (OrdG w) := hG
  clear hG
  clear hL hbig q0 q1 q2 q3 wb0 wb1
  obtain ⟨hp0, hp1⟩ := hpre
  have HBA : Hid (∀ o, Below w.heap.size w (w.alloc o)) := fun o => (Below.refl _ _).alloc (Nat.le_refl _) o
  go_enter Ybad.func3, Ybad.ntmps3
  go_wp2_with fail
  refine (toolarge_any _ _ _ _ _ _ _ _ _ _ _ _ _ _ _ a n c L _ (H0.out.1.below (HBA.out _))).mono ?_
  rintro e w1 ⟨rfl, hb1⟩
  rw [H0.out.2]
  have I1 : Hid (InAt w1 w.heap.size t0 t1 t2 t3 l0 l1 l2 l3 p0 p1 p2 p3 b0 b1 pre a n c) := InAt.below (w := w.alloc _) (heap_at_new _ _) hb1
  have HB1 : Hid (Below w.heap.size w w1) := (HBA.out _).trans (hb1.mono (by simp))
  clear hb1
  obtain ⟨c0, c1, c2, c3, c4, c5, c6, c7, c8, c9, c10, c11, c12, c13, c14, c15⟩ := I1.out.cells
  go_wp2_with fail
  refine (profiles_any a n c L _ (H0.out.1.below HB1.out) H0.out.2).mono ?_
  rintro e w2 ⟨Ps, hP1, hP2, rfl, hP3, hb2⟩
  have I2 : Hid (InAt w2 w.heap.size t0 t1 t2 t3 l0 l1 l2 l3 p0 p1 p2 p3 b0 b1 pre a n c) := I1.out.below hb2
  have HB2 : Hid (Below w.heap.size w w2) := HB1.out.trans (hb2.mono HB1.out.size)
  have HP : Hid (IsProfs w2 w1.heap.size Ps) := hP3
  clear hb2 hP3 c0 c1 c2 c3 c4 c5 c6 c7 c8 c9 c10 c11 c12 c13 c14 c15
  obtain ⟨c0, c1, c2, c3, c4, c5, c6, c7, c8, c9, c10, c11, c12, c13, c14, c15⟩ := I2.out.cells
  obtain ⟨np, hnp⟩ : ∃ np, np = Ps.length := ⟨_, rfl⟩
  rw [← hnp] at hP1 hP2 ⊢
  have HN : Hid (np = Ps.length) := hnp
  clear hnp
  go_wp2_with fail
  refine (classes_any t0 t1 t2 t3 l0 l1 l2 l3 p0 p1 p2 p3 b0 b1 (np : Int) _ _ _ (by omega) (by omega) HQ.out.1 HQ.out.2.1 HQ.out.2.2.1 HQ.out.2.2.2.1).mono ?_
  rintro e w3 ⟨rfl, hb3, hx3, hy3⟩
  have I3 : Hid (InAt w3 w.heap.size t0 t1 t2 t3 l0 l1 l2 l3 p0 p1 p2 p3 b0 b1 pre a n c) := I2.out.below hb3
  have HB3 : Hid (Below w.heap.size w w3) := HB2.out.trans (hb3.mono HB2.out.size)
  have HP3 : Hid (IsProfs w3 w1.heap.size Ps) := HP.out.below hb3
  have HX3 : Hid (IsClass w3 (w2.heap.size + 1) t0 t1 l0 l1 (p0 % (np : Int)) (p1 % (np : Int)) b0 ∧ IsClass w3 (w2.heap.size + 2) t2 t3 l2 l3 (p2 % (np : Int)) (p3 % (np : Int)) b1) := ⟨hx3, hy3⟩
  clear hb3 HP hx3 hy3 c0 c1 c2 c3 c4 c5 c6 c7 c8 c9 c10 c11 c12 c13 c14 c15
  obtain ⟨c0, c1, c2, c3, c4, c5, c6, c7, c8, c9, c10, c11, c12, c13, c14, c15⟩ := I3.out.cells
  obtain ⟨P, hP⟩ : ∃ P : Nat, (P : Int) = pre % 5 := ⟨(pre % 5).toNat, by omega⟩
  have hP4 : P < 5 := by omega
  go_upto_region 6 with fail
  go_cut [6, 7] (fun s6 s7 wx => s6 = .int .i64 (P : Int) ∧ ∃ bf, s7 = .pointer (some ⟨bf, 0, none⟩) ∧ Hid (Find2 w3 wx bf w1.heap.size np (n + 1)))
  case first =>
    go_wp2
    go_meet
    case rel => exact ⟨by rw [hP], _, rfl, find2_of HB3.out (by kernel_rfl) (by kernel_rfl)⟩
  case rest =>
    obtain ⟨rfl, bf, rfl, FA⟩ := hcut
    have HPP : Hid ((P : Int) = pre % 5) := hP
    clear hP c0 c1 c2 c3 c4 c5 c6 c7 c8 c9 c10 c11 c12 c13 c14 c15
    obtain ⟨i57, hi57, hz570, hz571, hz572⟩ := info_parts Ybad.info57
    have HI : Hid (Ybad.prog.info? 57 = some i57 ∧ i57.zero = some (.agg #[.int .u64 0, .int .u64 0, .int .u64 0]) ∧ i57.size = 3 ∧ i57.bytes = 24) := ⟨hi57, hz570, hz571, hz572⟩
    clear hi57 hz570 hz571 hz572
    go_wp2
    go_loopw [8] (fun k wr => ∃ (kk : Nat) (sa : Option Addr) (sc : Nat), kk ≤ P ∧ k = .int .i64 kk ∧ Hid (PreF wc wr bf w1.heap.size np (n + 1) kk sa sc)) (fun k _ => P - (intOf k).toNat)
    case atStart => exact ⟨0, none, 0, by omega, rfl, FA.out.2.1.2.1, FA.out.2.2.1, World.ownsRow_nil _ _ _ _, FA.out.2.1.1, Below.refl _ _, FA.out.2.2.2⟩
    case round =>
      obtain ⟨k, sa, sc, hk, rfl, HK⟩ := hrel
      by_cases hlt : k < P
      · have c148 := HK.out.c148
        have OA : Hid ((wr.alloc (.cells #[.int .u64 (k : Int), .int .u64 0, .int .u64 0] 57)).ownsRow (bf + 1) 57 3 (.slice sa k sc) k (rowsP k)) := HK.out.row.alloc _
        have HNEW : Hid (∀ j u, [Value.int .u64 (k : Int), .int .u64 0, .int .u64 0][j]? = some u → (wr.alloc (.cells #[.int .u64 (k : Int), .int .u64 0, .int .u64 0] 57)).cell? ((⟨wr.heap.size, 0, none⟩ : Addr).add j) = some u) :=
          World.news_of_block (cs := #[.int .u64 (k : Int), .int .u64 0, .int .u64 0]) (heap_at_new wr (.cells #[.int .u64 (k : Int), .int .u64 0, .int .u64 0] 57))
        have HONE : Hid (∀ u ∈ [Value.int .u64 (k : Int), .int .u64 0, .int .u64 0], u.oneCell' = true) := by
          intro u hu
          simp at hu
          rcases hu with rfl | rfl <;> rfl
        have HBB : Hid (bf + 1 ≤ (wr.alloc (.cells #[.int .u64 (k : Int), .int .u64 0, .int .u64 0] 57)).heap.size) := by
          have := HK.out.lt
          unfold Hid; simp; omega
        have HML : Hid (k + 1 ≤ maxLen) := by unfold Hid maxLen; omega
        go_wp2_with (at_builtin; refine wpList_append_lies _ rfl _ _ 53 rfl (bf + 1) 57 i57 (.agg #[.int .u64 0, .int .u64 0, .int .u64 0]) 3 24 Ybad.underlying53 HI.out.1 HI.out.2.1 HI.out.2.2.1 HI.out.2.2.2 rfl (by decide) (.slice sa k sc) k (rowsP k) rfl OA.out ⟨wr.heap.size, 0, none⟩ 1 1 [.int .u64 (k : Int), .int .u64 0, .int .u64 0] rfl rfl HNEW.out HONE.out (by decide) HML.out (by omega) HBB.out _ rfl ?_)
        intro g cap w5 hown5 hgrow5 hat5 hlt5
        have HO : Hid (w5.ownsRow (bf + 1) 57 3 (.slice (some ⟨g, 0, none⟩) (k + 1) cap) (k + 1) (rowsP (k + 1)) ∧ w5.heap[bf]? = wr.heap[bf]? ∧ Below bf wr w5 ∧ bf < w5.heap.size) := by
          have h1 := HK.out.lt
          have hb : ∀ j, j ≤ bf → w5.heap[j]? = wr.heap[j]? := by
            intro j hj
            rw [hgrow5.block j (by simp; omega) (by intro h; have := (HK.out.row.lt j h.symm).1; omega)]
            exact ((Below.refl wr.heap.size wr).alloc (Nat.le_refl _) _).block j (by omega)
          refine ⟨hown5, hb bf (Nat.le_refl _), ⟨hgrow5.os, hgrow5.tape, hgrow5.output, ?_, fun j hj => hb j (Nat.le_of_lt hj)⟩, ?_⟩
          · have := hgrow5.size; simp at this; omega
          · have := hgrow5.size; simp at this; omega
        have f5 : w5.cell? ⟨bf, 148, none⟩ = some (.slice sa k sc) := by rw [World.cell?_of_block (w := wr) (by exact HO.out.2.1)]; exact HK.out.c148
        have g5 : w5.frozen? ⟨bf, 148, none⟩ = false := by rw [World.frozen?_of_block (w := wr) (by exact HO.out.2.1)]; exact HK.out.fr
        have F5 : Hid (w5.cell? ⟨bf, 148, none⟩ = some (.slice sa k sc)) := f5
        clear hown5 hgrow5 hat5 hlt5 c148
        go_wp2
        go_roundw
        case rel =>
          refine ⟨k + 1, some ⟨g, 0, none⟩, cap, by omega, by go_num, ⟨World.cell?_setCell_same _ _ _ F5.out, ?_, HO.out.1.kept (grown_set _ _ _ _) (Or.inr ?_), ?_, ?_, ?_⟩⟩
          · rw [World.frozen?_setCell, World.frozen?_of_block (w := wr) (by exact HO.out.2.1)]; exact HK.out.fr
          · intro h; have := (HO.out.1.lt bf h).1; omega
          · rw [World.cell?_setCell_other _ _ _ _ (by simp), World.cell?_of_block (w := wr) (by exact HO.out.2.1)]; exact HK.out.c2
          · exact (HK.out.blw.trans HO.out.2.2.1).setCell (Nat.le_refl _) _
          · simp [World.setCell]; exact HO.out.2.2.2
        case measure => simp [intOf]; omega
      · obtain rfl : k = P := by omega
        obtain ⟨wm, rfl⟩ : ∃ wm : World, wm = wr := ⟨_, rfl⟩
        have HW3 : Hid (Below w3.heap.size w3 wm) := FA.out.2.1.2.2.trans (by rw [← FA.out.1]; exact HK.out.blw)
        have HWw : Hid (Below w.heap.size w wm) := HB3.out.trans (HW3.out.mono HB3.out.size)
        obtain ⟨E, hE⟩ : ∃ E, E = edgeV t0 t1 t2 t3 p0 p1 p2 p3 Ps := ⟨_, rfl⟩
        have HE : Hid (E = edgeV t0 t1 t2 t3 p0 p1 p2 p3 Ps) := hE
        clear hE
        obtain ⟨kl, hkl, hkk⟩ := key65' HQ.out.2.2.2.2.1 HQ.out.2.2.2.2.2 (show (Lit.int .u64 E).wf = true by rw [HE.out]; exact edgeV_wf _ _ _ _ _ _ _ _ _)
        have HKL : Hid (keyOf Ybad.prog 65 (.agg #[.int .i32 b0, .int .i32 b1, .int .u64 E]) = some kl ∧ WideAt.IsKeyLit kl) := ⟨hkl, hkk⟩
        clear hkl hkk
        have HAC : Hid (∀ W, Below w3.heap.size w3 W → W.cell? ⟨bf, 2, none⟩ = some (.slice (some ⟨w1.heap.size, 0, none⟩) np (n + 1)) → Calls Ybad.prog 12 #[.pointer (some ⟨bf, 0, none⟩), .pointer (some ⟨w2.heap.size + 1, 0, none⟩), .pointer (some ⟨w2.heap.size + 2, 0, none⟩)] W fun e' w' => e' = .returned (.int .u64 E) ∧ Below W.heap.size W w') := by
          intro W hW hc
          rw [HE.out]
          exact apart_call bf _ _ w1.heap.size (n + 1) np t0 t1 t2 t3 l0 l1 l2 l3 p0 p1 p2 p3 b0 b1 Ps W HN.out hP1 hP2 (HX3.out.1.below hW) (HX3.out.2.below hW) hc (HP3.out.below hW)
        have HS : Hid (∀ X, (wm.alloc X).ownsMap Ybad.prog 65 (plainElem Ybad.prog 3) wm.heap.size 0 eM → Calls Ybad.prog 8 #[.pointer (some ⟨bf, 0, none⟩), .pointer (some ⟨w2.heap.size + 1, 0, none⟩), .pointer (some ⟨w2.heap.size + 2, 0, none⟩), .map (some wm.heap.size)] (wm.alloc X) fun e' w' =>
            e' = .returned (.int .i64 k) ∧ ∃ g cap, w'.cell? ⟨bf, 148, none⟩ = some (.slice (some ⟨g, 0, none⟩) (k + 1) cap) ∧
              w'.ownsRow (bf + 1) 57 3 (.slice (some ⟨g, 0, none⟩) (k + 1) cap) (k + 1) (rowsP k ++ [.int .u64 (hashO [l0, l1, l2, l3] E (ordA 0)), .int .u64 (hashO [l0, l1, l2, l3] E (ordA 1)), .int .u64 (hashO [l0, l1, l2, l3] E (ordA 2))]) ∧
              w'.ownsMap Ybad.prog 65 (plainElem Ybad.prog 3) wm.heap.size 1 (kmap kl k) ∧ Below w3.heap.size w3 w' ∧ w'.cell? ⟨bf, 2, none⟩ = some (.slice (some ⟨w1.heap.size, 0, none⟩) np (n + 1))) := by
          intro X hm
          have hbX : Below wm.heap.size wm (wm.alloc X) := (Below.refl _ _).alloc (Nat.le_refl _) X
          have hsX : (wm.alloc X).heap.size = wm.heap.size + 1 := by simp
          have hb3 : Below w3.heap.size w3 (wm.alloc X) := HW3.out.trans (hbX.mono HW3.out.size)
          have hc1 := HX3.out.1.below hb3
          have hc2 := HX3.out.2.below hb3
          have hl1 := cell_lt HX3.out.1.1
          have hl2 := cell_lt HX3.out.2.1
          have hbf := FA.out.1
          have hlt2 := HK.out.lt
          have hG : OrdG (wm.alloc X) := fun i hi => by
            rw [(HWw.out.trans (hbX.mono HWw.out.size)).cell (cell_lt (HG0.out i hi))]; exact HG0.out i hi
          have hblk : (wm.alloc X).heap[bf]? = wm.heap[bf]? := hbX.block _ hlt2
          refine (shape_fresh bf _ _ wm.heap.size (bf + 1) k b0 b1 l0 l1 l2 l3 E sa sc (rowsP k) kl (wm.alloc X) hc1.2.2.2.2.2.2 hc2.2.2.2.2.2.2 hc1.2.2.1 hc1.2.2.2.1 hc2.2.2.1 hc2.2.2.2.1 HKL.out.1 hm
            (by rw [World.cell?_of_block (w := wm) (by exact hblk)]; exact HK.out.c148) (by rw [World.frozen?_of_block (w := wm) (by exact hblk)]; exact HK.out.fr) (HK.out.row.alloc X) (by omega) hG
            (by intro h; have := (HK.out.row.lt _ h).2; omega) ⟨by have := HB3.out.size; omega, by omega, by omega, by simp at hl1; omega, by simp at hl2; omega⟩ ?_).mono ?_
          · intro W hW
            have hbW : Below wm.heap.size wm W := by
              refine ⟨hW.os.trans hbX.os, hW.tape.trans hbX.tape, hW.output.trans hbX.output, Nat.le_trans hbX.size hW.size, fun j hj => ?_⟩
              rw [hW.block j (by omega) (by intro h; injection h with h; omega)]
              exact hbX.block j hj
            exact HAC.out W (HW3.out.trans (hbW.mono HW3.out.size)) (by rw [World.cell?_of_block (w := wm) (by exact hbW.block _ hlt2)]; exact HK.out.c2)
          · rintro e' w' ⟨rfl, g, cap, r1, r2, r3, r4, r5⟩
            refine ⟨rfl, g, cap, r1, r2, r3, hb3.trans (by rw [← hbf]; exact r4), ?_⟩
            rw [r5 2 (by omega), World.cell?_of_block (w := wm) (by exact hblk)]
            exact HK.out.c2
        have hmm := @run_makeMap Ybad.prog
        go_wp2_with fail
        refine (HS.out _ (World.ownsMap_made _ _ _ _)).mono ?_
        rintro e7 w7 ⟨rfl, g, cap, r1, r2, r3, r4, r5⟩
        obtain ⟨h0, hh0⟩ : ∃ h, h = hashO [l0, l1, l2, l3] E (ordA 0) := ⟨_, rfl⟩
        obtain ⟨h1, hh1⟩ : ∃ h, h = hashO [l0, l1, l2, l3] E (ordA 1) := ⟨_, rfl⟩
        obtain ⟨h2, hh2⟩ : ∃ h, h = hashO [l0, l1, l2, l3] E (ordA 2) := ⟨_, rfl⟩
        rw [← hh0, ← hh1, ← hh2] at r2
        have H10 : Hid (∀ W, Calls Ybad.prog 10 #[.agg #[.int .u64 l0, .int .u64 l1, .int .u64 l2, .int .u64 l3], .int .u64 E] W fun e' w' => e' = .returned (.agg #[.int .u64 h0, .int .u64 h1, .int .u64 h2]) ∧ Below W.heap.size W w') := by
          intro W
          rw [hh0, hh1, hh2]
          exact hashes_any l0 l1 l2 l3 E W
        have A7 : Hid (Aft w7 bf g cap k h0 h1 h2) := aft_of r1 r2
        have M7 : Hid (w7.ownsMap Ybad.prog 65 (plainElem Ybad.prog 3) wm.heap.size 1 (kmap kl k)) := r3
        have B7 : Hid (Below w3.heap.size w3 w7 ∧ w7.cell? ⟨bf, 2, none⟩ = some (.slice (some ⟨w1.heap.size, 0, none⟩) np (n + 1))) := ⟨r4, r5⟩
        clear r1 r2 r3 r4 r5 hh0 hh1 hh2 hmm HS
        have I7 : Hid (InAt w7 w.heap.size t0 t1 t2 t3 l0 l1 l2 l3 p0 p1 p2 p3 b0 b1 pre a n c) := I3.out.below B7.out.1
        obtain ⟨c0, c1, c2, c3, c4, c5, c6, c7, c8, c9, c10, c11, c12, c13, c14, c15⟩ := I7.out.cells
        go_wp2_with fail
        refine (edges_call t0 t1 t2 t3 l0 l1 l2 l3 p0 p1 p2 p3 b0 b1 _ _ _ _ np Ps _ HN.out hP1 hP2 HQ.out.1 HQ.out.2.1 HQ.out.2.2.1 HQ.out.2.2.2.1 (HP3.out.below B7.out.1)).mono ?_
        rintro e8 w8 ⟨rfl, hb8⟩
        rw [← HE.out]
        have B8 : Hid (Below w7.heap.size w7 w8) := hb8
        have I8 : Hid (InAt w8 w.heap.size t0 t1 t2 t3 l0 l1 l2 l3 p0 p1 p2 p3 b0 b1 pre a n c) := I7.out.below hb8
        clear hb8 I7 c0 c1 c2 c3 c4 c5 c6 c7 c8 c9 c10 c11 c12 c13 c14 c15
        obtain ⟨c0, c1, c2, c3, c4, c5, c6, c7, c8, c9, c10, c11, c12, c13, c14, c15⟩ := I8.out.cells
        clear c0 c1 c2 c3 c8 c9 c10 c11 c12 c13 c14 c15
        go_wp2_with fail
        refine (H10.out _).mono ?_
        rintro e9 w9 ⟨rfl, hb9⟩
        have B9 : Hid (Below w7.heap.size w7 w9) := B8.out.trans (hb9.mono B8.out.size)
        have I9 : Hid (InAt w9 w.heap.size t0 t1 t2 t3 l0 l1 l2 l3 p0 p1 p2 p3 b0 b1 pre a n c) := I8.out.below hb9
        clear hb9 I8 c4 c5 c6 c7
        go_wp2
        obtain ⟨W10, hW10⟩ : ∃ W10, W10 = w9.alloc (.cells #[.int .u64 h0, .int .u64 h1, .int .u64 h2] 57) := ⟨_, rfl⟩
        rw [← hW10]
        have B10 : Hid (Below w7.heap.size w7 W10) := by rw [hW10]; exact B9.out.alloc B9.out.size _
        have I10 : Hid (InAt W10 w.heap.size t0 t1 t2 t3 l0 l1 l2 l3 p0 p1 p2 p3 b0 b1 pre a n c) := by rw [hW10]; exact I9.out.below ((Below.refl _ _).alloc (Nat.le_refl _) _)
        have A10 : Hid (Aft W10 bf g cap k h0 h1 h2) := A7.out.below B10.out
        have M10 : Hid (W10.ownsMap Ybad.prog 65 (plainElem Ybad.prog 3) wm.heap.size 1 (kmap kl k)) := map_below M7.out B10.out
        have hh10 : W10.heap[w9.heap.size]? = some (.cells #[.int .u64 h0, .int .u64 h1, .int .u64 h2] 57 (0, 0)) := by rw [hW10]; exact heap_at_new _ _
        have d0 : W10.cell? ⟨w9.heap.size, 0, none⟩ = some (.int .u64 h0) := by rw [cell_of_heap hh10]; rfl
        have d1 : W10.cell? ⟨w9.heap.size, 1, none⟩ = some (.int .u64 h1) := by rw [cell_of_heap hh10]; rfl
        have d2 : W10.cell? ⟨w9.heap.size, 2, none⟩ = some (.int .u64 h2) := by rw [cell_of_heap hh10]; rfl
        have D10 : Hid (W10.cell? ⟨w9.heap.size, 0, none⟩ = some (.int .u64 h0) ∧ W10.cell? ⟨w9.heap.size, 1, none⟩ = some (.int .u64 h1) ∧ W10.cell? ⟨w9.heap.size, 2, none⟩ = some (.int .u64 h2)) := ⟨d0, d1, d2⟩
        have s148 := A10.out.c148
        have s0 := A10.out.n0
        have s1 := A10.out.n1
        have s2 := A10.out.n2
        have hki : (k : Int) < (k : Int) + 1 := by omega
        have hgd := guard57 .neq
        have hnq : ∀ W, (binOp .neq 57 (.agg #[.int .u64 h0, .int .u64 h1, .int .u64 h2]) (.agg #[.int .u64 h0, .int .u64 h1, .int .u64 h2])).run Ybad.prog W = .ok (.bool false) W := fun W => by rw [neq57]; simp
        clear hW10 hh10 B9 I9 A7 M7
        go_quiet (fail)
        go_wp2
        obtain ⟨WQ, hWQ⟩ : ∃ WQ, WQ = W10.drewN nq := ⟨_, rfl⟩
        rw [← hWQ]
        have BQ : Hid (Below w7.heap.size w7 WQ) := by rw [hWQ]; exact below_drewN B10.out _
        have IQ : Hid (InAt WQ w.heap.size t0 t1 t2 t3 l0 l1 l2 l3 p0 p1 p2 p3 b0 b1 pre a n c) := by rw [hWQ]; exact I10.out
        have AQ : Hid (Aft WQ bf g cap k h0 h1 h2) := by rw [hWQ]; exact ⟨A10.out.c148, A10.out.n0, A10.out.n1, A10.out.n2, A10.out.rows⟩
        have MQ : Hid (WQ.ownsMap Ybad.prog 65 (plainElem Ybad.prog 3) wm.heap.size 1 (kmap kl k)) := by rw [hWQ]; exact M10.out
        have DQ : Hid (WQ.cell? ⟨w9.heap.size, 0, none⟩ = some (.int .u64 h0) ∧ WQ.cell? ⟨w9.heap.size, 1, none⟩ = some (.int .u64 h1) ∧ WQ.cell? ⟨w9.heap.size, 2, none⟩ = some (.int .u64 h2)) := by rw [hWQ]; exact D10.out
        clear hWQ d0 d1 d2 s148 s0 s1 s2 D10 A10 M10 I10 B10 hnq
        go_loopw [13] (fun i wy => ∃ (ii : Nat), ii ≤ k ∧ i = .int .i64 ii ∧ Hid (wy = WQ)) (fun i _ => k - (intOf i).toNat)
        case atStart => exact ⟨0, by omega, rfl, rfl⟩
        case round =>
          obtain ⟨i, hi, rfl, HWY⟩ := hrel
          obtain rfl : wr = WQ := HWY.out
          by_cases hik : i < k
          · obtain ⟨v0, v1, v2⟩ := AQ.out.rows i hik
            have s148 := AQ.out.c148
            have hii : (i : Int) < (k : Int) + 1 := by omega
            have hnq : ∀ W, (binOp .neq 57 (.agg #[.int .u64 (i : Int), .int .u64 0, .int .u64 0]) (.agg #[.int .u64 (i : Int), .int .u64 0, .int .u64 0])).run Ybad.prog W = .ok (.bool false) W := fun W => by rw [neq57]; simp
            clear HWY
            go_wp2
            go_roundw
            case rel => exact ⟨i + 1, by omega, by go_num, trivial⟩
            case measure => simp [intOf]; omega
          · obtain rfl : i = k := by omega
            clear HWY hgd
            obtain ⟨c0, c1, c2, c3, c4, c5, c6, c7, c8, c9, c10, c11, c12, c13, c14, c15⟩ := IQ.out.cells
            clear c0 c1 c2 c3 c4 c5 c6 c7 c8 c9 c10 c11 c14 c15
            have hln := map_len MQ.out
            have kh := kmap_has kl i HKL.out.2
            have KH : Hid (Maps.has (kmap kl i) kl = true ∧ (kmap kl i).atKey kl (.lit (.int .i64 0)) = .lit (.int .i64 i)) := ⟨kh.1, kh.2.1⟩
            clear kh
            have B3 : Hid (Below w3.heap.size w3 wr) := B7.out.1.trans (BQ.out.mono B7.out.1.size)
            have F2 : Hid (wr.cell? ⟨bf, 2, none⟩ = some (.slice (some ⟨w1.heap.size, 0, none⟩) np (n + 1))) := by
              unfold Hid; rw [BQ.out.cell (cell_lt B7.out.2)]; exact B7.out.2
            have HC8 : Hid (∀ W, Below wr.heap.size wr W → Calls Ybad.prog 12 #[.pointer (some ⟨bf, 0, none⟩), .pointer (some ⟨w2.heap.size + 1, 0, none⟩), .pointer (some ⟨w2.heap.size + 2, 0, none⟩)] W fun e' w' => e' = .returned (.int .u64 E) ∧ Below W.heap.size W w') := by
              intro W hW
              exact HAC.out W (B3.out.trans (hW.mono B3.out.size)) (by rw [hW.cell (cell_lt F2.out)]; exact F2.out)
            go_wp2_with (at_lookup; refine wpList_lookup_own_ok_int _ rfl _ _ 58 rfl 65 3 .i64 law65 Ybad.underlying58 Ybad.underlying3 (zero3 _) wm.heap.size 1 (kmap kl i) rfl MQ.out _ kl rfl HKL.out.1 ?_)
            intro cc hcc _
            have hcv : cc = (i : Int) := by
              have h1 := KH.out.2
              rw [hcc] at h1
              simpa using h1
            rw [KH.out.1, hcv]
            clear hcc hcv c12 c13
            go_wp2_with fail
            refine (shape_known bf _ _ wm.heap.size b0 b1 E i 1 (kmap kl i) kl wr (HX3.out.1.below B3.out).2.2.2.2.2.2 (HX3.out.2.below B3.out).2.2.2.2.2.2 HKL.out.1 MQ.out KH.out.2 KH.out.1 HC8.out).mono ?_
            rintro e11 w11 ⟨rfl, hb11⟩
            have A11 : Hid (Aft w11 bf g cap i h0 h1 h2) := AQ.out.below hb11
            have M11 : Hid (w11.ownsMap Ybad.prog 65 (plainElem Ybad.prog 3) wm.heap.size 1 (kmap kl i)) := map_below MQ.out hb11
            have hln11 : ∀ (q : Nat) (ty : TypeId), (Builtin.len_ #[58] ty #[.map (some wm.heap.size)]).run Ybad.prog (w11.drewN q) = .ok (.int .i64 1) (w11.drewN q) := fun q ty => map_len (w := w11.drewN q) (by exact M11.out) ty
            have HBf : Hid (Below w.heap.size w w11) := HB3.out.trans ((B3.out.trans (hb11.mono B3.out.size)).mono HB3.out.size)
            have d0 : w11.cell? ⟨w9.heap.size, 0, none⟩ = some (.int .u64 h0) := by rw [hb11.cell (cell_lt DQ.out.1)]; exact DQ.out.1
            have d1 : w11.cell? ⟨w9.heap.size, 1, none⟩ = some (.int .u64 h1) := by rw [hb11.cell (cell_lt DQ.out.2.1)]; exact DQ.out.2.1
            have d2 : w11.cell? ⟨w9.heap.size, 2, none⟩ = some (.int .u64 h2) := by rw [hb11.cell (cell_lt DQ.out.2.2)]; exact DQ.out.2.2
            have s148 := A11.out.c148
            have s0 := A11.out.n0
            have s1 := A11.out.n1
            have s2 := A11.out.n2
            have hki' : (i : Int) < (i : Int) + 1 := by omega
            have hw1 : IntKind.i64.wrap ((i : Int) + 1) = (i : Int) + 1 := by rw [IntKind.wrap_i64]; omega
            have hgd := guard57 .eql
            have heq : ∀ W, (binOp .eql 57 (.agg #[.int .u64 h0, .int .u64 h1, .int .u64 h2]) (.agg #[.int .u64 h0, .int .u64 h1, .int .u64 h2])).run Ybad.prog W = .ok (.bool true) W := fun W => by rw [eql57]; simp
            clear hb11 hln
            go_upto_region 28 with fail
            go_quiet (fail)
            go_wp2
            go_ret
            exact ⟨rfl, below_drewN HBf.out _⟩
end Go.Proofs.YbulkblxqDoor
