import Derived.Test.YbulkblxqDoorF12
namespace Go.Proofs.YbulkblxqDoor
open Go.RowKit Go.Maps
set_option linter.unusedVariables false
set_option linter.unusedSimpArgs false

theorem six97 {w : World} {b : Nat} {m0 m1 m2 m3 E : Int} {t : TypeId} {m : Nat × Nat} (hh : w.heap[b]? = some (.cells #[.int .u64 m0, .int .u64 m1, .int .u64 m2, .int .u64 m3, .int .i64 4, .int .u64 E] t m)) :
    w.cell? ⟨b, 0, none⟩ = some (.int .u64 m0) ∧ w.cell? ⟨b, 1, none⟩ = some (.int .u64 m1) ∧ w.cell? ⟨b, 2, none⟩ = some (.int .u64 m2) ∧ w.cell? ⟨b, 3, none⟩ = some (.int .u64 m3) ∧ w.cell? ⟨b, 4, none⟩ = some (.int .i64 4) ∧ w.cell? ⟨b, 5, none⟩ = some (.int .u64 E) := by
  refine ⟨?_, ?_, ?_, ?_, ?_, ?_⟩
  all_goals (rw [cell_of_heap hh]; rfl)
theorem ints97 {w : World} {b : Nat} {m0 m1 m2 m3 E : Int} {t : TypeId} {m : Nat × Nat} (hh : w.heap[b]? = some (.cells #[.int .u64 m0, .int .u64 m1, .int .u64 m2, .int .u64 m3, .int .i64 4, .int .u64 E] t m)) : IsInts .u64 w (some ⟨b, 0, none⟩) 4 [m0, m1, m2, m3] := by
  refine ⟨rfl, by omega, fun i hi => ⟨b, 0, rfl, ?_⟩⟩
  rw [Nat.zero_add, cell_of_heap hh]
  match i, hi with
  | 0, _ => rfl
  | 1, _ => rfl
  | 2, _ => rfl
  | 3, _ => rfl

theorem Ybad.info57 : (Ybad.prog.info? 57).map (fun i => (i.zero, i.size, i.bytes)) = some (some (.agg #[.int .u64 0, .int .u64 0, .int .u64 0]), 3, 24) := by kernel_rfl

theorem map_block {w w' : World} {P : Program} {k : TypeId} {H : Type} {R : Value → Option (DataW H × List MemPlace)} {b n : Nat} {D : DataW H} (h : w.ownsMap P k R b n D) (hb : w'.heap[b]? = w.heap[b]?) : w'.ownsMap P k R b n D := by
  obtain ⟨es, clock, h1, h2⟩ := h
  exact ⟨es, clock, by rw [hb]; exact h1, h2⟩
theorem grown_set (w : World) (b i : Nat) (v : Value) : w.grownBy (w.setCell ⟨b, i, none⟩ v) (some b) :=
  ⟨rfl, rfl, rfl, by simp [World.setCell], fun k _ hne => Below.heap_setCell w ⟨b, i, none⟩ v k (by intro h; exact hne (by rw [h]))⟩

/-- The map that holds nothing. -/
def eM : DataW Unit := .map []

/-- The table of the three orders lies in the program's own global. -/
def OrdG (w : World) : Prop := ∀ i, i < 12 → w.cell? ⟨0, i, none⟩ = some (.int .i64 (ordL.getD i 0 : Nat))

theorem OrdG.all {w : World} (h : OrdG w) : w.cell? ⟨0, 0, none⟩ = some (.int .i64 0) ∧ w.cell? ⟨0, 1, none⟩ = some (.int .i64 1) ∧ w.cell? ⟨0, 2, none⟩ = some (.int .i64 2) ∧ w.cell? ⟨0, 3, none⟩ = some (.int .i64 3) ∧
    w.cell? ⟨0, 4, none⟩ = some (.int .i64 0) ∧ w.cell? ⟨0, 5, none⟩ = some (.int .i64 2) ∧ w.cell? ⟨0, 6, none⟩ = some (.int .i64 1) ∧ w.cell? ⟨0, 7, none⟩ = some (.int .i64 3) ∧
    w.cell? ⟨0, 8, none⟩ = some (.int .i64 0) ∧ w.cell? ⟨0, 9, none⟩ = some (.int .i64 2) ∧ w.cell? ⟨0, 10, none⟩ = some (.int .i64 3) ∧ w.cell? ⟨0, 11, none⟩ = some (.int .i64 1) :=
  ⟨h 0 (by omega), h 1 (by omega), h 2 (by omega), h 3 (by omega), h 4 (by omega), h 5 (by omega), h 6 (by omega), h 7 (by omega), h 8 (by omega), h 9 (by omega), h 10 (by omega), h 11 (by omega)⟩

theorem OrdG.grown {w W : World} {bm : Nat} (h : OrdG w) (hg : w.grownBy W (some bm)) (hne : ¬ 0 = bm) : OrdG W := fun i hi => grown_cell hg (h i hi) hne

set_option maxRecDepth 100000 in
set_option maxHeartbeats 4000000 in
theorem shape_fresh (bf b1 b2 bm base pre : Nat) (lx ly l0 l1 l2 l3 e : Int) (sa : Option Addr) (sc : Nat) (xs : List Value) (kl : Lit) (w : World)
   (hx : w.cell? ⟨b1, 7, none⟩ = some (.int .i32 lx)) (hy : w.cell? ⟨b2, 7, none⟩ = some (.int .i32 ly))
   (h0 : w.cell? ⟨b1, 2, none⟩ = some (.int .u64 l0)) (h1 : w.cell? ⟨b1, 3, none⟩ = some (.int .u64 l1)) (h2 : w.cell? ⟨b2, 2, none⟩ = some (.int .u64 l2)) (h3 : w.cell? ⟨b2, 3, none⟩ = some (.int .u64 l3))
   (hkey : keyOf Ybad.prog 65 (.agg #[.int .i32 lx, .int .i32 ly, .int .u64 e]) = some kl)
   (hm : w.ownsMap Ybad.prog 65 (plainElem Ybad.prog 3) bm 0 eM)
   (hf : w.cell? ⟨bf, 148, none⟩ = some (.slice sa pre sc)) (hfz : w.frozen? ⟨bf, 148, none⟩ = false) (hrow : w.ownsRow base 57 3 (.slice sa pre sc) pre xs) (hpre : pre < 100)
   (hG : OrdG w) (hrb : (Value.slice sa pre sc).ownBlock ≠ some bm) (hord : 0 < bf ∧ bf < base ∧ base ≤ bm ∧ b1 < bf ∧ b2 < bf)
   (hcall : ∀ W, w.grownBy W (some bm) → Calls Ybad.prog 12 #[.pointer (some ⟨bf, 0, none⟩), .pointer (some ⟨b1, 0, none⟩), .pointer (some ⟨b2, 0, none⟩)] W fun e' w' => e' = .returned (.int .u64 e) ∧ Below W.heap.size W w') :
    Calls Ybad.prog 8 #[.pointer (some ⟨bf, 0, none⟩), .pointer (some ⟨b1, 0, none⟩), .pointer (some ⟨b2, 0, none⟩), .map (some bm)] w fun e' w' =>
      e' = .returned (.int .i64 pre) ∧ ∃ g cap, w'.cell? ⟨bf, 148, none⟩ = some (.slice (some ⟨g, 0, none⟩) (pre + 1) cap) ∧
        w'.ownsRow base 57 3 (.slice (some ⟨g, 0, none⟩) (pre + 1) cap) (pre + 1) (xs ++ [.int .u64 (hashO [l0, l1, l2, l3] e (ordA 0)), .int .u64 (hashO [l0, l1, l2, l3] e (ordA 1)), .int .u64 (hashO [l0, l1, l2, l3] e (ordA 2))]) ∧
        w'.ownsMap Ybad.prog 65 (plainElem Ybad.prog 3) bm 1 (kmap kl pre) ∧ Below bf w w' ∧ ∀ j, ¬ j = 148 → w'.cell? ⟨bf, j, none⟩ = w.cell? ⟨bf, j, none⟩ := by
  have HC : Hid (∀ W, w.grownBy W (some bm) → Calls Ybad.prog 12 #[.pointer (some ⟨bf, 0, none⟩), .pointer (some ⟨b1, 0, none⟩), .pointer (some ⟨b2, 0, none⟩)] W fun e' w' => e' = .returned (.int .u64 e) ∧ Below W.heap.size W w') := hcall
  have HM : Hid (keyOf Ybad.prog 65 (.agg #[.int .i32 lx, .int .i32 ly, .int .u64 e]) = some kl ∧ w.ownsMap Ybad.prog 65 (plainElem Ybad.prog 3) bm 0 eM) := ⟨hkey, hm⟩
  have HLAB : Hid (w.cell? ⟨b1, 2, none⟩ = some (.int .u64 l0) ∧ w.cell? ⟨b1, 3, none⟩ = some (.int .u64 l1) ∧ w.cell? ⟨b2, 2, none⟩ = some (.int .u64 l2) ∧ w.cell? ⟨b2, 3, none⟩ = some (.int .u64 l3)) := ⟨h0, h1, h2, h3⟩
  have HFN : Hid (w.cell? ⟨bf, 148, none⟩ = some (.slice sa pre sc) ∧ w.frozen? ⟨bf, 148, none⟩ = false ∧ w.ownsRow base 57 3 (.slice sa pre sc) pre xs) := ⟨hf, hfz, hrow⟩
  have HG : Hid (OrdG w) := hG
  have HRB : Hid ((Value.slice sa pre sc).ownBlock ≠ some bm) := hrb
  obtain ⟨i57, hi57, hz570, hz571, hz572⟩ := info_parts Ybad.info57
  have HI : Hid (Ybad.prog.info? 57 = some i57 ∧ i57.zero = some (.agg #[.int .u64 0, .int .u64 0, .int .u64 0]) ∧ i57.size = 3 ∧ i57.bytes = 24) := ⟨hi57, hz570, hz571, hz572⟩
  clear hi57 hz570 hz571 hz572
  have HORD : Hid (0 < bf ∧ bf < base ∧ base ≤ bm ∧ b1 < bf ∧ b2 < bf) := hord
  obtain ⟨F, hF⟩ : ∃ F : Nat → Int, F = fun q => hashO [l0, l1, l2, l3] e (ordA q) := ⟨_, rfl⟩
  have HRD : Hid (∀ k, k < 3 → ∃ m0 m1 m2 m3 E t0 t1 t2 t3, RoundF (ordA k 0) (ordA k 1) (ordA k 2) (ordA k 3) l0 l1 l2 l3 e m0 m1 m2 m3 E t0 t1 t2 t3 (F k)) := by
    intro k hk; rw [hF]; exact roundF l0 l1 l2 l3 e hk
  have e0 : hashO [l0, l1, l2, l3] e (ordA 0) = F 0 := by rw [hF]
  have e1 : hashO [l0, l1, l2, l3] e (ordA 1) = F 1 := by rw [hF]
  have e2 : hashO [l0, l1, l2, l3] e (ordA 2) = F 2 := by rw [hF]
  rw [e0, e1, e2]
  clear hcall hkey hm h0 h1 h2 h3 hf hfz hrow hG hrb hord hF e0 e1 e2
  have HD : Hid (Below w.heap.size w w.drew) := (Below.refl _ _).drew
  have HDA : Hid (∀ o, Below w.heap.size w (w.alloc o).drew) := fun o => ((Below.refl _ _).alloc (Nat.le_refl _) o).drew
  have hb1 : b1 < w.heap.size := cell_lt hx
  have hb2 : b2 < w.heap.size := cell_lt hy
  have hn1 : ¬ b1 = w.heap.size := by omega
  have hn2 : ¬ b2 = w.heap.size := by omega
  go_enter Ybad.func8, Ybad.ntmps8
  go_upto_region 1 with fail
  go_cut [9] (fun s9 wx => ∃ bk, s9 = .pointer (some ⟨bk, 0, none⟩) ∧ Hid (KeyAt w wx bk lx ly e))
  case first =>
    go_region_held3 (fun w' => w'.cell? ⟨b1, 7, none⟩ = some (.int .i32 lx) ∧ w'.cell? ⟨b2, 7, none⟩ = some (.int .i32 ly)) (first | go_keep | exact keep2_alloc _ k17 | exact keep2_set3 hn1 hn2 k17)
      (first | (go_at_call 12; refine (HC.out _ (grown_of_below HD.out _)).mono ?_; rintro e' w17 ⟨rfl, hb17⟩; have k17 : w17.cell? ⟨b1, 7, none⟩ = some (.int .i32 lx) ∧ w17.cell? ⟨b2, 7, none⟩ = some (.int .i32 ly) := keep2 hb17 ⟨hx, hy⟩) | (go_at_call 12; refine (HC.out _ (grown_of_below (HDA.out _) _)).mono ?_; rintro e' w17 ⟨rfl, hb17⟩; have k17 : w17.cell? ⟨b1, 7, none⟩ = some (.int .i32 lx) ∧ w17.cell? ⟨b2, 7, none⟩ = some (.int .i32 ly) := keep2 hb17 ⟨cell_alloc hx _, cell_alloc hy _⟩; obtain ⟨f0, f1, f2, g0⟩ := facts17 hb17))
    · rename_i hHeld
      clear hHeld
      have HB : Hid (Below w.heap.size w w17) := HD.out.trans hb17
      clear hb17
      go_wp2
      go_meet
      case rel => exact ⟨_, rfl, keyAt_A HB.out⟩
    · rename_i hHeld
      clear hHeld
      have HB : Hid (Below w.heap.size w w17) := (HDA.out _).trans (hb17.mono (by simp))
      have HK : Hid (KeyAt w (((w17.setCell ⟨w.heap.size, 0, none⟩ (.int .i32 lx)).setCell ⟨w.heap.size, 1, none⟩ (.int .i32 ly)).setCell ⟨w.heap.size, 2, none⟩ (.int .u64 e)) w.heap.size lx ly e) := keyAt_B HB.out f0 f1 f2
      clear hb17 f0 f1 f2 g0
      go_wp2
      go_meet
      case rel => exact ⟨_, rfl, HK⟩
  case rest =>
    clear HD HDA hn1 hn2
    obtain ⟨bk, rfl, KA⟩ := hcut
    obtain ⟨ck0, ck1, ck2, -⟩ := KA.out
    have HMW : Hid (wc.ownsMap Ybad.prog 65 (plainElem Ybad.prog 3) bm 0 eM) := map_below HM.out.2 KA.out.2.2.2
    go_wp2_with (at_lookup; refine wpList_lookup_own_ok_int _ rfl _ _ 58 rfl 65 3 .i64 law65 Ybad.underlying58 Ybad.underlying3 (zero3 _) bm 0 eM rfl HMW.out _ kl rfl HM.out.1 ?_)
    intro c hc _
    rw [show Maps.has eM kl = false from rfl]
    clear hc
    have HB0 := HORD.out
    have hwf : Hid ((Lit.int .i64 (pre : Int)).wf = true) := WalkArith.wf_i64 (by omega)
    have hfc : wc.cell? ⟨bf, 148, none⟩ = some (.slice sa pre sc) := by rw [KA.out.2.2.2.cell (cell_lt HFN.out.1)]; exact HFN.out.1
    go_wp2_with (at_mapUpdate; refine wpList_mapUpdate_own _ rfl _ _ _ 58 rfl 65 3 law65 Ybad.underlying58 (plainElem Ybad.prog 3) bm 0 eM rfl HMW.out maxLen_pos _ (.int .i64 (pre : Int)) kl rfl rfl HM.out.1 (.lit (.int .i64 (pre : Int))) [] (plainElem_int Ybad.underlying3 hwf.out) ?_)
    intro w5 hown5 hg5
    have H5 : Hid (w5.ownsMap Ybad.prog 65 (plainElem Ybad.prog 3) bm 1 (kmap kl pre)) := hown5
    have G5 : Hid (w.grownBy w5 (some bm)) := (grown_of_below KA.out.2.2.2 _).trans hg5
    clear hown5 hg5 hfc ck0 ck1 ck2
    have H13 : Hid (Calls Ybad.prog 13 #[.pointer (some ⟨bf, 0, none⟩), .pointer (some ⟨b1, 0, none⟩), .pointer (some ⟨b2, 0, none⟩)] w5 fun e' w' =>
      e' = .returned (.agg #[.int .u64 l0, .int .u64 l1, .int .u64 l2, .int .u64 l3, .int .i64 4, .int .u64 e]) ∧ Below w5.heap.size w5 w') :=
      apartShape_any bf b1 b2 l0 l1 l2 l3 e w5 (grown_cell G5.out HLAB.out.1 (by simp; omega)) (grown_cell G5.out HLAB.out.2.1 (by simp; omega)) (grown_cell G5.out HLAB.out.2.2.1 (by simp; omega)) (grown_cell G5.out HLAB.out.2.2.2 (by simp; omega))
        fun W hW => HC.out W (G5.out.trans (grown_of_below hW _))
    go_wp2_with fail
    refine H13.out.mono ?_
    rintro e' w6 ⟨rfl, hb6⟩
    have G6 : Hid (w.grownBy w6 (some bm)) := G5.out.trans (grown_of_below hb6 _)
    have H6 : Hid (w6.ownsMap Ybad.prog 65 (plainElem Ybad.prog 3) bm 1 (kmap kl pre)) := map_below H5.out hb6
    have hG6 : OrdG w6 := HG.out.grown G6.out (by omega)
    have a0 : ∀ o o', ((w6.alloc o).alloc o').cell? ⟨0, 0, none⟩ = some (.int .i64 0) := fun o o' => cell_alloc (cell_alloc hG6.all.1 o) o'
    have a1 : ∀ o o', ((w6.alloc o).alloc o').cell? ⟨0, 1, none⟩ = some (.int .i64 1) := fun o o' => cell_alloc (cell_alloc hG6.all.2.1 o) o'
    have a2 : ∀ o o', ((w6.alloc o).alloc o').cell? ⟨0, 2, none⟩ = some (.int .i64 2) := fun o o' => cell_alloc (cell_alloc hG6.all.2.2.1 o) o'
    have a3 : ∀ o o', ((w6.alloc o).alloc o').cell? ⟨0, 3, none⟩ = some (.int .i64 3) := fun o o' => cell_alloc (cell_alloc hG6.all.2.2.2.1 o) o'
    have a4 : ∀ o o', ((w6.alloc o).alloc o').cell? ⟨0, 4, none⟩ = some (.int .i64 0) := fun o o' => cell_alloc (cell_alloc hG6.all.2.2.2.2.1 o) o'
    have a5 : ∀ o o', ((w6.alloc o).alloc o').cell? ⟨0, 5, none⟩ = some (.int .i64 2) := fun o o' => cell_alloc (cell_alloc hG6.all.2.2.2.2.2.1 o) o'
    have a6 : ∀ o o', ((w6.alloc o).alloc o').cell? ⟨0, 6, none⟩ = some (.int .i64 1) := fun o o' => cell_alloc (cell_alloc hG6.all.2.2.2.2.2.2.1 o) o'
    have a7 : ∀ o o', ((w6.alloc o).alloc o').cell? ⟨0, 7, none⟩ = some (.int .i64 3) := fun o o' => cell_alloc (cell_alloc hG6.all.2.2.2.2.2.2.2.1 o) o'
    have a8 : ∀ o o', ((w6.alloc o).alloc o').cell? ⟨0, 8, none⟩ = some (.int .i64 0) := fun o o' => cell_alloc (cell_alloc hG6.all.2.2.2.2.2.2.2.2.1 o) o'
    have a9 : ∀ o o', ((w6.alloc o).alloc o').cell? ⟨0, 9, none⟩ = some (.int .i64 2) := fun o o' => cell_alloc (cell_alloc hG6.all.2.2.2.2.2.2.2.2.2.1 o) o'
    have a10 : ∀ o o', ((w6.alloc o).alloc o').cell? ⟨0, 10, none⟩ = some (.int .i64 3) := fun o o' => cell_alloc (cell_alloc hG6.all.2.2.2.2.2.2.2.2.2.2.1 o) o'
    have a11 : ∀ o o', ((w6.alloc o).alloc o').cell? ⟨0, 11, none⟩ = some (.int .i64 1) := fun o o' => cell_alloc (cell_alloc hG6.all.2.2.2.2.2.2.2.2.2.2.2 o) o'
    clear hG6 H5 G5 H13 hb6
    obtain ⟨wz, hwz⟩ : ∃ wz, wz = w6.alloc (.cells #[.int .u64 l0, .int .u64 l1, .int .u64 l2, .int .u64 l3, .int .i64 4, .int .u64 e] 97) := ⟨_, rfl⟩
    have HZ : Hid (wz.heap[w6.heap.size]? = some (.cells #[.int .u64 l0, .int .u64 l1, .int .u64 l2, .int .u64 l3, .int .i64 4, .int .u64 e] 97 (0, 0)) ∧ wz.heap.size = w6.heap.size + 1 ∧ Below w6.heap.size w6 wz) := by
      rw [hwz]; exact ⟨heap_at_new _ _, by simp, (Below.refl _ _).alloc (Nat.le_refl _) _⟩
    have HSt : Hid (∀ W, W = (w6.alloc (.cells #[.int .u64 l0, .int .u64 l1, .int .u64 l2, .int .u64 l3, .int .i64 4, .int .u64 e] 97)).alloc (.cells #[.int .u64 0, .int .u64 0, .int .u64 0] 57) → Below (w6.heap.size + 1) wz W ∧ OwnU W (w6.heap.size + 1) 3 ∧ w6.heap.size + 1 < W.heap.size) := by
      rintro W rfl
      rw [← hwz, ← HZ.out.2.1]
      exact ⟨(Below.refl _ _).alloc (Nat.le_refl _) _, ownU3 _ _, by simp⟩
    clear hwz
    go_wp2
    clear a0 a1 a2 a3 a4 a5 a6 a7 a8 a9 a10 a11
    go_loopw [51] (fun k wr => ∃ (kk : Nat), kk ≤ 3 ∧ k = .int .i64 kk ∧ Hid (RowU wr (w6.heap.size + 1) (tabU F kk) ∧ OwnU wr (w6.heap.size + 1) 3 ∧ Below (w6.heap.size + 1) wz wr ∧ w6.heap.size + 1 < wr.heap.size)) (fun k _ => 3 - (intOf k).toNat)
    case atStart => exact ⟨0, by omega, rfl, RowU.nil _ _, (HSt.out _ rfl).2.1, (HSt.out _ rfl).1, (HSt.out _ rfl).2.2⟩
    case round =>
      clear HSt
      obtain ⟨k, hk, rfl, HK⟩ := hrel
      by_cases hlt : k < 3
      · obtain ⟨m0, m1, m2, m3, E, t0, t1, t2, t3, hrd⟩ := HRD.out k hlt
        have hidx := idx99 hlt
        obtain ⟨o0, ho0⟩ : ∃ o, o = ordA k 0 := ⟨_, rfl⟩
        obtain ⟨o1, ho1⟩ : ∃ o, o = ordA k 1 := ⟨_, rfl⟩
        obtain ⟨o2, ho2⟩ : ∃ o, o = ordA k 2 := ⟨_, rfl⟩
        obtain ⟨o3, ho3⟩ : ∃ o, o = ordA k 3 := ⟨_, rfl⟩
        rw [← ho0, ← ho1, ← ho2, ← ho3] at hidx hrd
        clear ho0 ho1 ho2 ho3
        obtain ⟨Fk, hFk⟩ : ∃ Fk, Fk = F k := ⟨_, rfl⟩
        rw [← hFk] at hrd
        have HFk : Hid (F k = Fk) := hFk.symm
        have HRDk : Hid (RoundF o0 o1 o2 o3 l0 l1 l2 l3 e m0 m1 m2 m3 E t0 t1 t2 t3 Fk) := hrd
        clear hFk hrd
        have hsh : wr.heap[w6.heap.size]? = some (.cells #[.int .u64 l0, .int .u64 l1, .int .u64 l2, .int .u64 l3, .int .i64 4, .int .u64 e] 97 (0, 0)) := (HK.out.2.2.1.block _ (by omega)).trans HZ.out.1
        have s0 : ∀ o, (wr.alloc o).cell? ⟨w6.heap.size, 0, none⟩ = some (.int .u64 l0) := fun o => cell_alloc (by rw [cell_of_heap hsh]; rfl) o
        have s1 : ∀ o, (wr.alloc o).cell? ⟨w6.heap.size, 1, none⟩ = some (.int .u64 l1) := fun o => cell_alloc (by rw [cell_of_heap hsh]; rfl) o
        have s2 : ∀ o, (wr.alloc o).cell? ⟨w6.heap.size, 2, none⟩ = some (.int .u64 l2) := fun o => cell_alloc (by rw [cell_of_heap hsh]; rfl) o
        have s3 : ∀ o, (wr.alloc o).cell? ⟨w6.heap.size, 3, none⟩ = some (.int .u64 l3) := fun o => cell_alloc (by rw [cell_of_heap hsh]; rfl) o
        have s4 : ∀ o, (wr.alloc o).cell? ⟨w6.heap.size, 4, none⟩ = some (.int .i64 4) := fun o => cell_alloc (by rw [cell_of_heap hsh]; rfl) o
        have s5 : ∀ o, (wr.alloc o).cell? ⟨w6.heap.size, 5, none⟩ = some (.int .u64 e) := fun o => cell_alloc (by rw [cell_of_heap hsh]; rfl) o
        clear hsh
        go_wp2_with fail
        refine (HRDk.out.c14 _).mono ?_
        rintro e' w7 ⟨rfl, hb7⟩
        have HB7 : Hid (Below wr.heap.size wr w7) := ((Below.refl _ _).alloc (Nat.le_refl _) _).trans (hb7.mono (by simp))
        clear hb7 s0 s1 s2 s3 s4 s5 hidx
        go_wp2
        obtain ⟨W8, hW8⟩ : ∃ W8, W8 = w7.alloc (.cells #[.int .u64 m0, .int .u64 m1, .int .u64 m2, .int .u64 m3, .int .i64 4, .int .u64 E] 97) := ⟨_, rfl⟩
        rw [← hW8]
        have hh8 : W8.heap[w7.heap.size]? = some (.cells #[.int .u64 m0, .int .u64 m1, .int .u64 m2, .int .u64 m3, .int .i64 4, .int .u64 E] 97 (0, 0)) := by rw [hW8]; exact heap_at_new _ _
        have hs8 : W8.heap.size = w7.heap.size + 1 := by rw [hW8]; simp
        have HB8 : Hid (Below wr.heap.size wr W8) := by rw [hW8]; exact HB7.out.alloc HB7.out.size _
        obtain ⟨d0, d1, d2, d3, d4, d5⟩ := six97 hh8
        have HK9 : Hid (∀ w9, Below W8.drew.heap.size W8.drew w9 → w9.heap[w7.heap.size]? = some (.cells #[.int .u64 m0, .int .u64 m1, .int .u64 m2, .int .u64 m3, .int .i64 4, .int .u64 E] 97 (0, 0)) ∧ Below wr.heap.size wr w9) := by
          intro w9 hb
          exact ⟨(hb.block _ (by show w7.heap.size < W8.heap.size; omega)).trans hh8, HB8.out.drew.trans (hb.mono HB8.out.size)⟩
        have HW10 : Hid (∀ w9 w10, Below wr.heap.size wr w9 → Below w9.heap.size w9 w10 → OwnU w10 (w6.heap.size + 1) 3 ∧ RowU w10 (w6.heap.size + 1) (tabU F k) ∧ Below (w6.heap.size + 1) wz w10 ∧ w6.heap.size + 1 < w10.heap.size) := by
          intro w9 w10 h9 h10
          have hb : Below wr.heap.size wr w10 := h9.trans (h10.mono h9.size)
          have hblk : w10.heap[w6.heap.size + 1]? = wr.heap[w6.heap.size + 1]? := hb.block _ HK.out.2.2.2
          exact ⟨HK.out.2.1.block hblk, HK.out.1.block hblk, HK.out.2.2.1.trans (hb.mono (Nat.le_of_lt HK.out.2.2.2)), Nat.lt_of_lt_of_le HK.out.2.2.2 hb.size⟩
        clear hW8 hh8 hs8
        have hsl : ∀ W, (Instr.sliceAt 62 (.pointer (some ⟨w7.heap.size, 0, none⟩)) none (some (.int .i64 4)) none).run Ybad.prog W = .ok (.slice (some ⟨w7.heap.size, 0, none⟩) 4 4) W := fun W => slice62 W w7.heap.size 4 (by omega)
        have hkI : (k : Int) < 3 := by omega
        have hne7 : w7.heap.size ≠ w6.heap.size + 1 := by have := HB7.out.size; have := HK.out.2.2.2; omega
        go_region_held3 (fun w' => w'.cell? ⟨w7.heap.size, 0, none⟩ = some (.int .u64 m0) ∧ w'.cell? ⟨w7.heap.size, 1, none⟩ = some (.int .u64 m1) ∧ w'.cell? ⟨w7.heap.size, 2, none⟩ = some (.int .u64 m2) ∧ w'.cell? ⟨w7.heap.size, 3, none⟩ = some (.int .u64 m3) ∧ w'.cell? ⟨w7.heap.size, 4, none⟩ = some (.int .i64 4) ∧ w'.cell? ⟨w7.heap.size, 5, none⟩ = some (.int .u64 E)) (first | go_keep | exact six97 k9 | exact six97 k10 | exact six97 ((Below.heap_setCell _ _ _ _ hne7).trans k10))
          (first
            | (go_at_call 16; refine (HRDk.out.c16 _).mono ?_; rintro e' w9 ⟨rfl, hb9⟩; have k9' := HK9.out w9 hb9; clear hb9; obtain ⟨k9, b9⟩ := k9')
            | (go_at_call 15; refine (HRDk.out.c15 _ _ _ (ints97 k9)).mono ?_; rintro e' w10 ⟨rfl, hb10⟩; have k10 := (hb10.block _ (cell_lt (six97 k9).1)).trans k9; have hO10 := HW10.out w9 w10 b9 hb10; obtain ⟨⟨u, hu⟩, hfz⟩ := hO10.1 k hlt; have HO10 : Hid (OwnU w10 (w6.heap.size + 1) 3 ∧ RowU w10 (w6.heap.size + 1) (tabU F k) ∧ Below (w6.heap.size + 1) wz w10 ∧ w6.heap.size + 1 < w10.heap.size) := hO10; clear hO10 hb10))
        rename_i hHeld
        clear hHeld
        go_wp2
        go_roundw
        case rel =>
          refine ⟨k + 1, by omega, by go_num, ?_, HO10.out.1.set _ _, HO10.out.2.2.1.setCell (Nat.le_refl _) _, by simp [World.setCell]; exact HO10.out.2.2.2⟩
          rw [tabU_succ, HFk.out]
          have h5 := HO10.out.2.1.push HO10.out.1 (by rw [tabU_length]; exact hlt) Fk
          rw [tabU_length] at h5
          exact h5
        case measure => simp [intOf]; omega
      · obtain rfl : k = 3 := by omega
        have HB6 : Hid (Below w6.heap.size w6 wr) := HZ.out.2.2.trans (HK.out.2.2.1.mono (by omega))
        have GR : Hid (w.grownBy wr (some bm)) := G6.out.trans (grown_of_below HB6.out _)
        have hfr : wr.cell? ⟨bf, 148, none⟩ = some (.slice sa pre sc) := grown_cell GR.out HFN.out.1 (by simp; omega)
        have hff : wr.frozen? ⟨bf, 148, none⟩ = false := by rw [GR.out.frozen_far _ (cell_lt HFN.out.1) (by simp; omega)]; exact HFN.out.2.1
        have OR : Hid (wr.ownsRow base 57 3 (.slice sa pre sc) pre xs) := HFN.out.2.2.kept GR.out (Or.inr HRB.out)
        have MR : Hid (wr.ownsMap Ybad.prog 65 (plainElem Ybad.prog 3) bm 1 (kmap kl pre)) := map_below H6.out HB6.out
        have r0 : wr.cell? ⟨w6.heap.size + 1, 0, none⟩ = some (.int .u64 (F 0)) := (HK.out.1 0 (by simp [tabU])).1
        have r1 : wr.cell? ⟨w6.heap.size + 1, 1, none⟩ = some (.int .u64 (F 1)) := (HK.out.1 1 (by simp [tabU])).1
        have r2 : wr.cell? ⟨w6.heap.size + 1, 2, none⟩ = some (.int .u64 (F 2)) := (HK.out.1 2 (by simp [tabU])).1
        have a0 : ∀ o, (wr.alloc o).cell? ⟨bf, 148, none⟩ = some (.slice sa pre sc) := fun o => cell_alloc hfr o
        have OA : Hid ((wr.alloc (.cells #[.int .u64 (F 0), .int .u64 (F 1), .int .u64 (F 2)] 57)).drew.ownsRow base 57 3 (.slice sa pre sc) pre xs) := OR.out.alloc _
        have HNEW : Hid (∀ j u, [Value.int .u64 (F 0), .int .u64 (F 1), .int .u64 (F 2)][j]? = some u → (wr.alloc (.cells #[.int .u64 (F 0), .int .u64 (F 1), .int .u64 (F 2)] 57)).drew.cell? ((⟨wr.heap.size, 0, none⟩ : Addr).add j) = some u) :=
          World.news_of_block (cs := #[.int .u64 (F 0), .int .u64 (F 1), .int .u64 (F 2)]) (heap_at_new wr (.cells #[.int .u64 (F 0), .int .u64 (F 1), .int .u64 (F 2)] 57))
        have HONE : Hid (∀ u ∈ [Value.int .u64 (F 0), .int .u64 (F 1), .int .u64 (F 2)], u.oneCell' = true) := by
          intro u hu
          simp at hu
          rcases hu with rfl | rfl | rfl <;> rfl
        have HBB : Hid (base ≤ (wr.alloc (.cells #[.int .u64 (F 0), .int .u64 (F 1), .int .u64 (F 2)] 57)).drew.heap.size) := by
          have h1 := HM.out.2.lt
          have h2 := GR.out.size
          have h3 : (wr.alloc (.cells #[.int .u64 (F 0), .int .u64 (F 1), .int .u64 (F 2)] 57)).drew.heap.size = wr.heap.size + 1 := by simp
          unfold Hid; omega
        have HML : Hid (pre + 1 ≤ maxLen) := by unfold Hid maxLen; omega
        obtain ⟨WA, hWA⟩ : ∃ WA, WA = (wr.alloc (.cells #[.int .u64 (F 0), .int .u64 (F 1), .int .u64 (F 2)] 57)).drew := ⟨_, rfl⟩
        have HBA : Hid (Below wr.heap.size wr WA) := by rw [hWA]; exact ((Below.refl _ _).alloc (Nat.le_refl _) _).drew
        have HNO : Hid (∀ k, (Value.slice sa pre sc).ownBlock = some k → base ≤ k ∧ k < wr.heap.size) := OR.out.lt
        have HBLK : Hid (∀ w11, WA.grownBy w11 (Value.slice sa pre sc).ownBlock → (∀ k, k < base → k < w.heap.size → w11.heap[k]? = w.heap[k]?) ∧ w11.heap[bm]? = wr.heap[bm]? ∧ w.os = w11.os ∧ w.tape = w11.tape ∧ w.output = w11.output ∧ w.heap.size ≤ w11.heap.size) := by
          intro w11 hg
          have h1 := GR.out.size
          have h2 := HBA.out.size
          refine ⟨fun k hk hkw => ?_, ?_, ?_, ?_, ?_, ?_⟩
          · rw [hg.block k (by omega) (by intro h; have := HNO.out k h.symm; omega), HBA.out.block k (by omega), GR.out.block k hkw (by intro h; injection h with h; omega)]
          · have h3 := MR.out.lt
            rw [hg.block bm (by omega) (by intro h; exact HRB.out h.symm), HBA.out.block bm h3]
          · rw [hg.os, HBA.out.os, GR.out.os]
          · rw [hg.tape, HBA.out.tape, GR.out.tape]
          · rw [hg.output, HBA.out.output, GR.out.output]
          · have := hg.size; omega
        have HF11 : Hid (∀ w11, WA.grownBy w11 (Value.slice sa pre sc).ownBlock → w11.cell? ⟨bf, 148, none⟩ = some (.slice sa pre sc) ∧ w11.frozen? ⟨bf, 148, none⟩ = false) := by
          intro w11 hg
          have hb := (HBLK.out w11 hg).1 bf (by omega) (cell_lt HFN.out.1)
          exact ⟨by rw [World.cell?_of_block (w := w) (by exact hb)]; exact HFN.out.1, by rw [World.frozen?_of_block (w := w) (by exact hb)]; exact HFN.out.2.1⟩
        rw [hWA] at HBA HBLK HF11
        clear hWA
        go_wp2
        go_region_law (refine step_append_lies _ rfl (.tmp 72) (.tmp 74) 53 rfl base 57 i57 (.agg #[.int .u64 0, .int .u64 0, .int .u64 0]) 3 24 Ybad.underlying53 HI.out.1 HI.out.2.1 HI.out.2.2.1 HI.out.2.2.2 rfl (by decide) (.slice sa pre sc) pre xs (by simp [Act.eval, Act.put]) OA.out ⟨wr.heap.size, 0, none⟩ 1 1 [.int .u64 (F 0), .int .u64 (F 1), .int .u64 (F 2)] (by simp [Act.eval, Act.put]) rfl HNEW.out HONE.out (by decide) HML.out (by omega) HBB.out _ rfl ?_; intro g cap w11 hown11 hgrow11 hat11 hlt11; have f11 := HF11.out w11 hgrow11; obtain ⟨f11a, f11b⟩ := f11)
        all_goals
          have HB11 := HBLK.out w11 hgrow11
          have H11 : Hid ((∀ k, k < base → k < w.heap.size → w11.heap[k]? = w.heap[k]?) ∧ w11.heap[bm]? = wr.heap[bm]? ∧ w.os = w11.os ∧ w.tape = w11.tape ∧ w.output = w11.output ∧ w.heap.size ≤ w11.heap.size) := HB11
          have O11 : Hid (w11.ownsRow base 57 3 (.slice (some ⟨g, 0, none⟩) (pre + 1) cap) (pre + 1) (xs ++ [.int .u64 (F 0), .int .u64 (F 1), .int .u64 (F 2)])) := hown11
          have C11 : Hid (w11.cell? ⟨bf, 148, none⟩ = some (.slice sa pre sc)) := f11a
          clear HB11 hown11 hgrow11 hat11 hlt11 f11a f11b
          go_wp2
          go_ret
          refine ⟨rfl, g, cap, World.cell?_setCell_same _ _ _ C11.out, O11.out.kept (grown_set _ _ _ _) (Or.inr ?_), map_block MR.out ?_, ⟨?_, ?_, ?_, ?_, ?_⟩, ?_⟩
          · intro h
            have := (O11.out.lt bf h).1
            omega
          · rw [Below.heap_setCell _ _ _ _ (by show bm ≠ bf; omega)]; exact H11.out.2.1
          · exact H11.out.2.2.1.symm
          · exact H11.out.2.2.2.1.symm
          · exact H11.out.2.2.2.2.1.symm
          · simp [World.setCell]; exact H11.out.2.2.2.2.2
          · intro k hk
            rw [Below.heap_setCell _ _ _ _ (by show k ≠ bf; omega)]
            exact H11.out.1 k (by omega) (Nat.lt_trans hk (cell_lt HFN.out.1))
          · intro j hj
            rw [World.cell?_setCell_other _ _ _ _ (by intro hq; injection hq with _ h2; omega)]
            exact World.cell?_of_block (H11.out.1 bf (by omega) (cell_lt HFN.out.1))
end Go.Proofs.YbulkblxqDoor
