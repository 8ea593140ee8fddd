import Derived.Test.YbulkblzgG
namespace Go.Proofs.Ybulkblzg
open Go.RowKit
set_option linter.unusedVariables false
set_option linter.unusedSimpArgs false

/-- What LawS3139BStops holds while it walks. -/
structure US (w4 : World) (hi aa n : Nat) (adj : Nat → List Nat) (bn ba bl : Nat) (lv : Value) (B bk : Nat) (w : World) (c : Nat → Nat) (X : List (List Nat)) (R : Nat → Prop) : Prop where
  ad : IsAdj w hi aa n adj
  nn : Box w bn (.int .i64 (n : Int))
  ab : Box w ba (.slice (some ⟨aa, 0, none⟩) n n)
  lb : Box w bl lv
  comps : ∃ v R0, IsComps w B bk X R0 v ∧ (∀ j, R j ↔ j < B ∨ R0 j)
  kp : Keeps (fun j => j = bk ∨ B ≤ j) w4 w
  ord : bn < B ∧ ba < B ∧ bl < B ∧ bk < B ∧ hi ≤ B ∧ hi ≤ bk ∧ bk ≠ bn ∧ bk ≠ ba ∧ bk ≠ bl

theorem US.ukeep (w4 : World) (hi aa n : Nat) (adj : Nat → List Nat) (bn ba bl : Nat) (lv : Value) (B bk : Nat) : UKeep (US w4 hi aa n adj bn ba bl lv B bk) := by
  intro W W' Q c X R h hk hq
  obtain ⟨v, R0, hc, hR⟩ := h.comps
  have hB : ∀ j, j < B → ¬ Q j := fun j hj => hq j ((hR j).2 (.inl hj))
  have ho := h.ord
  refine ⟨h.ad.keep hk (fun j hj => Nat.le_of_not_lt (fun hl => hB j (by omega) hj)), h.nn.keep hk (hB _ (by omega)), h.ab.keep hk (hB _ (by omega)), h.lb.keep hk (hB _ (by omega)),
    ⟨v, R0, hc.keep hk (hB _ (by omega)) (fun j hj => hq j ((hR j).2 (.inr hj))), hR⟩, h.kp.trans' hk (fun j _ hj => .inr (Nat.le_of_not_lt (fun hl => hB j hl hj))), h.ord⟩
theorem US.ult (w4 : World) (hi aa n : Nat) (adj : Nat → List Nat) (bn ba bl : Nat) (lv : Value) (B bk : Nat) : ULt (US w4 hi aa n adj bn ba bl lv B bk) := by
  intro W c X R j h hj
  obtain ⟨v, R0, hc, hR⟩ := h.comps
  rcases (hR j).1 hj with e | e
  · have := hc.ble; omega
  · exact (hc.lt j e).2

set_option maxRecDepth 100000 in
set_option maxHeartbeats 1000000 in
theorem edges_ok2 (w4 : World) (hi aa n : Nat) (adj : Nat → List Nat) (bn ba bl : Nat) (lv : Value) (B bk : Nat) (hn : n ≤ 256) (hdeg : ∀ v, v < n → (adj v).length ≤ 1024) :
    EdgesOK 18 #[.pointer (some ⟨bn, 0, none⟩), .pointer (some ⟨ba, 0, none⟩)] n adj (US w4 hi aa n adj bn ba bl lv B bk) := by
  intro W c X R bx base g k xs v u hU hu hB hbx hbase hRx hRg hk hcu
  have U1 : Hid (US w4 hi aa n adj bn ba bl lv B bk W c X R) := hU
  have B1 : Hid (BRow W base bx 3 1 g k xs v) := hB
  have HR : Hid (¬ R bx ∧ ∀ j, g = some j → ¬ R j) := ⟨hRx, hRg⟩
  have HRac : Hid (∀ j, j < B → R j) := by
    obtain ⟨v0, R0, hc0, hR0⟩ := hU.comps
    exact fun j hj => (hR0 j).2 (.inl hj)
  have hb1 : Hid (base ≤ W.heap.size) := hbase
  obtain ⟨n0, n1⟩ := hU.nn
  obtain ⟨a0, a1⟩ := hU.ab
  obtain ⟨ra, rc, r0, hrow⟩ := hU.ad.row u hu
  have HROW : Hid (∀ (j x : Nat), (adj u)[j]? = some x → ∃ g, ra = some ⟨g, 0, none⟩ ∧ g < hi ∧ W.cell? ⟨g, j, none⟩ = some (.int .i64 (x : Int))) := hrow
  obtain ⟨l, hl⟩ : ∃ l, l = (adj u).length := ⟨_, rfl⟩
  have HL : Hid (l = (adj u).length) := hl
  rw [← hl] at r0
  have hlb : l ≤ 1024 := by rw [hl]; exact hdeg u hu
  clear hU hB hRx hRg hrow hl
  have hlu : decide ((u : Int) < 0) = false := by simp
  have hlu2 : decide ((n : Int) ≤ (u : Int)) = false := by simp; omega
  have hlu3 : decide (n ≤ u) = false := by simp; omega
  obtain ⟨W1, rfl⟩ : ∃ W1 : World, W1 = W := ⟨_, rfl⟩
  show Calls Yba.prog 18 #[.int .i64 (u : Int), .func (.func 30) #[] #[.pointer (some ⟨bx, 0, none⟩)], .pointer (some ⟨bn, 0, none⟩), .pointer (some ⟨ba, 0, none⟩)] W1 _
  go_enter Yba.func18, Yba.ntmps18
  go_wp2
  go_loopw [20] (fun i wr => ∃ (ii : Nat) (g' : Option Nat) (v' : Value), i = .int .i64 (ii : Int) ∧ ii ≤ l ∧ Hid (BRow wr base bx 3 1 g' (k + ii) (xs ++ ints ((adj u).take ii)) v' ∧ Later W1.heap.size g g' ∧ Keeps (fun j => j = bx ∨ g = some j) W1 wr)) (fun i _ => l - (intOf i).toNat)
  case atStart => exact ⟨0, g, v, rfl, by omega, by simpa using B1.out, Later.refl _ _, Keeps.refl _ _⟩
  case round =>
    obtain ⟨ii, g', v', rfl, hil, HJ⟩ := hrel
    by_cases hlt : ii < l
    · obtain ⟨y, hy⟩ : ∃ y, (adj u)[ii]? = some y := ⟨_, List.getElem?_eq_getElem (by rw [← HL.out]; exact hlt)⟩
      obtain ⟨gg, hra, hgg, hcc⟩ := HROW.out ii y hy
      subst hra
      have cJ : wr.cell? ⟨gg, ii, none⟩ = some (.int .i64 (y : Int)) := by
        rw [World.cell?_of_block (w := W1) (by
          refine HJ.out.2.2.block gg (by have := U1.out.ad.le; omega) ?_
          rintro (e | e)
          · have := HRac.out gg (by have := U1.out.ord; omega)
            rw [e] at this; exact HR.out.1 this
          · exact HR.out.2 gg e (HRac.out gg (by have := U1.out.ord; omega)))]
        exact hcc
      have HY : Hid ((adj u)[ii]? = some y) := hy
      have hlt' : (ii : Int) < (l : Int) := by omega
      clear hy hcc
      go_wp2_with fail
      refine (follow_any bx base g' (k + ii) (xs ++ ints ((adj u).take ii)) v' (y : Int) wr HJ.out.1 hbx (Nat.le_trans hb1.out HJ.out.2.2.size) (by omega)).mono ?_
      rintro e2 W2 ⟨rfl, g2, v2, hB2, hl2, hk2⟩
      have HJ2 : Hid (BRow W2 base bx 3 1 g2 (k + (ii + 1)) (xs ++ ints ((adj u).take (ii + 1))) v2 ∧ Later W1.heap.size g g2 ∧ Keeps (fun j => j = bx ∨ g = some j) W1 W2) := by
        refine ⟨?_, HJ.out.2.1.trans hl2 HJ.out.2.2.size, HJ.out.2.2.trans' hk2 ?_⟩
        · rw [List.take_add_one, HY.out]
          simpa [Nat.add_assoc] using hB2
        · rintro j hj (e | e)
          · exact .inl e
          · rcases HJ.out.2.1 j e with e | e
            · exact .inr e
            · omega
      clear hB2 hl2 hk2
      go_wp2
      go_roundw
      case rel => exact ⟨ii + 1, g2, v2, by go_num, by omega, HJ2.out⟩
      case measure => simp [intOf]; omega
    · obtain rfl : ii = l := by omega
      go_wp2
      go_end0
      refine ⟨rfl, ?_, g', v', ?_, HJ.out.2.1, ?_⟩
      · have h3 := US.ukeep _ _ _ _ _ _ _ _ _ _ _ _ _ _ _ _ _ U1.out HJ.out.2.2 (fun j hR hq => by
          rcases hq with e | e
          · rw [e] at hR; exact HR.out.1 hR
          · exact HR.out.2 j e hR)
        exact ⟨h3.ad, h3.nn, h3.ab, h3.lb, h3.comps, h3.kp, h3.ord⟩
      · have h3 := HJ.out.1
        rw [HL.out, List.take_length] at h3
        exact h3
      · refine HJ.out.2.2.mono (fun j _ hj => ?_)
        rcases hj with e | e
        · exact .inr (.inl e)
        · exact .inr (.inr e)
set_option maxRecDepth 100000 in
set_option maxHeartbeats 1000000 in
theorem found_ok2 (w4 : World) (hi aa n : Nat) (adj : Nat → List Nat) (bn ba bl : Nat) (lv : Value) (B bk : Nat) : FoundOK 19 #[.pointer (some ⟨bk, 0, none⟩)] n (US w4 hi aa n adj bn ba bl lv B bk) (fun _ => true) := by
  intro W c X R g off k cap zs hU hg hgl hk hkz hk2 hX hz
  obtain ⟨v, R0, hC, hR⟩ := hU.comps
  obtain ⟨vs, hvs, hvr⟩ := hC.rows
  have HU : Hid (US w4 hi aa n adj bn ba bl lv B bk W c X R ∧ IsComps W B bk X R0 v ∧ (∀ j, R j ↔ j < B ∨ R0 j) ∧ ¬ R g) := ⟨hU, hC, hR, hg⟩
  have HZ : Hid (k = zs.length ∧ ∀ j u, (ints zs)[j]? = some u → W.cell? ((⟨g, off, none⟩ : Addr).add j) = some u) := ⟨hkz, ints_at hz⟩
  obtain ⟨b0, b1⟩ := hC.box
  obtain ⟨i3, hi1, hi2, hi3, hi4⟩ := info3
  have HI : Hid (Yba.prog.info? 3 = some i3 ∧ i3.zero = some (.int .i64 0) ∧ i3.size = 1 ∧ i3.bytes = 8) := ⟨hi1, hi2, hi3, hi4⟩
  obtain ⟨i27, hj1, hj2, hj3, hj4⟩ := info_parts Yba.info27
  have HJ : Hid (Yba.prog.info? 27 = some i27 ∧ i27.zero = some (.slice none 0 0) ∧ i27.size = 1 ∧ i27.bytes = 24) := ⟨hj1, hj2, hj3, hj4⟩
  have HVS : Hid (W.ownsRow B 27 1 v X.length vs ∧ ∀ (i : Nat) (c : List Nat), X[i]? = some c → ∃ g q, vs[i]? = some (.slice (some ⟨g, 0, none⟩) c.length q) ∧ R0 g ∧ v.ownBlock ≠ some g ∧ ∀ (j x : Nat), c[j]? = some x → W.cell? ⟨g, j, none⟩ = some (.int .i64 (x : Int))) := ⟨hvs, hvr⟩
  have HZD : Hid (∀ j u, (ints zs)[j]? = some u → W.drew.cell? ((⟨g, off, none⟩ : Addr).add j) = some u) := HZ.out.2
  have HLZ : Hid ((ints zs).length = k * 1) := by unfold Hid; rw [List.length_map]; omega
  have HML : Hid (0 + k ≤ maxLen ∧ X.length + 1 ≤ maxLen) := by unfold Hid maxLen; omega
  have HF1 : Hid (∀ w1, W.drew.grownBy w1 (Value.slice none 0 0).ownBlock → w1.cell? ⟨bk, 0, none⟩ = some v ∧ w1.frozen? ⟨bk, 0, none⟩ = false ∧ ∀ o, (w1.alloc o).cell? ⟨bk, 0, none⟩ = some v) := by
    intro w1 hg1
    have h0 : Box w1 bk v := hC.box.same (hg1.block bk hC.box.lt (by simp [Value.ownBlock]))
    exact ⟨h0.1, h0.2, fun o => (h0.alloc o).1⟩
  have HOA : Hid (∀ w1, W.drew.grownBy w1 (Value.slice none 0 0).ownBlock → ∀ o, (w1.alloc o).ownsRow B 27 1 v X.length vs ∧ B ≤ (w1.alloc o).heap.size) := by
    intro w1 hg1 o
    refine ⟨(World.ownsRow.kept (w := W.drew) hvs hg1 (by cases hv : v.ownBlock <;> simp [Value.ownBlock])).alloc o, ?_⟩
    have h1 : W.heap.size ≤ w1.heap.size := hg1.size
    have h2 := hC.ble
    simp; omega
  have HF2 : Hid (∀ w1 o w2, W.drew.grownBy w1 (Value.slice none 0 0).ownBlock → (w1.alloc o).grownBy w2 v.ownBlock → w2.cell? ⟨bk, 0, none⟩ = some v ∧ w2.frozen? ⟨bk, 0, none⟩ = false) := by
    intro w1 o w2 hg1 hg2
    have h1 : Box (w1.alloc o) bk v := (hC.box.same (w' := w1) (hg1.block bk hC.box.lt (by simp [Value.ownBlock]))).alloc o
    exact h1.same (hg2.block bk h1.lt (fun e => by have := hC.lt bk (hC.own bk e.symm); have := hC.bklt; omega))
  have hBW : B ≤ W.heap.size := hC.ble
  clear hU hR hg hkz hz hi1 hi2 hi3 hi4 hj1 hj2 hj3 hj4 hvs hvr hC
  show Calls Yba.prog 19 #[.slice (some ⟨g, off, none⟩) k cap, .pointer (some ⟨bk, 0, none⟩)] W _
  go_enter Yba.func19, Yba.ntmps19
  go_upto_region 1 with fail
  go_region_law (first
    | (refine step_append_lies _ rfl (.const (.slice none 0 0)) (.tmp 5) 27 rfl W.heap.size 3 i3 (.int .i64 0) 1 8 Yba.underlying27 HI.out.1 HI.out.2.1 HI.out.2.2.1 HI.out.2.2.2 rfl (by decide) (.slice none 0 0) 0 [] (by simp [Act.eval, Act.put]) (World.ownsRow_nil _ _ _ _) ⟨g, off, none⟩ k cap (ints zs) (by simp [Act.eval, Act.put]) HLZ.out HZD.out (ints_one zs) hk HML.out.1 (by omega) (Nat.le_refl _) _ rfl ?_; intro g1 cap1 w1 hown1 hgrow1 hat1 hlt1; have f1 := HF1.out w1 hgrow1; obtain ⟨f1a, f1b, f1c⟩ := f1)
    | (refine step_append_lies _ rfl (.tmp 4) (.tmp 7) 39 rfl B 27 i27 (.slice none 0 0) 1 24 Yba.underlying39 HJ.out.1 HJ.out.2.1 HJ.out.2.2.1 HJ.out.2.2.2 rfl (by decide) v X.length vs (by simp [Act.eval, Act.put]) (HOA.out w1 hgrow1 _).1 ⟨w1.heap.size, 0, none⟩ 1 1 [.slice (some ⟨g1, 0, none⟩) k cap1] (by simp [Act.eval, Act.put]) rfl (news_one w1 _ 27) (by intro u hu; simp at hu; subst hu; rfl) (by decide) HML.out.2 (by omega) (HOA.out w1 hgrow1 _).2 _ rfl ?_; intro g2 cap2 w2 hown2 hgrow2 hat2 hlt2; have f2 := HF2.out w1 _ w2 hgrow1 hgrow2; obtain ⟨f2a, f2b⟩ := f2))
  all_goals
    obtain ⟨p1, p2, p3, p4⟩ := comps_push HU.out.2.1 HZ.out.1 HVS.out.1 HVS.out.2 hgrow1 hown1 hat1 hlt1 hgrow2 hown2 hat2 hlt2
    have HP := And.intro p1 (And.intro p2 (And.intro p3 p4))
    obtain ⟨W9, hW9⟩ : ∃ W9, W9 = w2.setCell ⟨bk, 0, none⟩ (.slice (some ⟨g2, 0, none⟩) (X.length + 1) cap2) := ⟨_, rfl⟩
    rw [← hW9] at HP ⊢
    have HP' : Hid (IsComps W9 B bk (X ++ [zs]) (fun j => R0 j ∨ j = g1 ∨ j = g2) (.slice (some ⟨g2, 0, none⟩) (X.length + 1) cap2) ∧ Keeps (fun j => j = bk ∨ v.ownBlock = some j) W W9 ∧ W.heap.size ≤ g1 ∧ (R0 g2 ∨ W.heap.size ≤ g2)) := HP
    clear p1 p2 p3 p4 HP hW9 hown1 hgrow1 hat1 hlt1 hown2 hgrow2 hat2 hlt2 f1a f1b f1c f2a f2b
    go_wp2
    go_ret
    refine ⟨rfl, fun j => j < B ∨ (R0 j ∨ j = g1 ∨ j = g2), ?_, ?_, ?_⟩
    · have h := HU.out.1
      have hk := HP'.out.2.1
      have ho := h.ord
      have hC := HU.out.2.1
      have hS : ∀ j, j < B → j ≠ bk → ¬ (j = bk ∨ v.ownBlock = some j) := by
        rintro j h1 h2 (e | e)
        · exact h2 e
        · have := (hC.lt j (hC.own j e)).1; omega
      exact ⟨h.ad.keep hk (by
          rintro j (e | e)
          · omega
          · have := (hC.lt j (hC.own j e)).1; omega), h.nn.keep hk (hS _ (by omega) (by omega)), h.ab.keep hk (hS _ (by omega) (by omega)), h.lb.keep hk (hS _ (by omega) (by omega)), ⟨_, _, HP'.out.1, fun j => Iff.rfl⟩, h.kp.trans' hk (by
          rintro j _ (e | e)
          · exact .inl e
          · exact .inr (hC.lt j (hC.own j e)).1), h.ord⟩
    · rintro j (e | e | e | e)
      · exact .inl ((HU.out.2.2.1 j).2 (.inl e))
      · exact .inl ((HU.out.2.2.1 j).2 (.inr e))
      · subst e; exact .inr HP'.out.2.2.1
      · subst e
        rcases HP'.out.2.2.2 with e | e
        · exact .inl ((HU.out.2.2.1 _).2 (.inr e))
        · exact .inr e
    · refine HP'.out.2.1.mono ?_
      rintro j _ (e | e)
      · subst e; exact (HU.out.2.2.1 _).2 (.inl HU.out.2.1.bklt)
      · exact (HU.out.2.2.1 _).2 (.inr (HU.out.2.1.own _ e))

set_option maxRecDepth 100000 in
set_option maxHeartbeats 1000000 in
theorem found_ok3 (w4 : World) (hi aa n : Nat) (adj : Nat → List Nat) (bn ba bl : Nat) (L : Nat) (B bk : Nat) (hL : L ≤ 300) : FoundOK 20 #[.pointer (some ⟨bk, 0, none⟩), .pointer (some ⟨bl, 0, none⟩)] n (US w4 hi aa n adj bn ba bl (.int .i64 (L : Int)) B bk) (fun Y => decide (Y.length < L)) := by
  intro W c X R g off k cap zs hU hg hgl hk hkz hk2 hX hz
  obtain ⟨v, R0, hC, hR⟩ := hU.comps
  obtain ⟨vs, hvs, hvr⟩ := hC.rows
  have HU : Hid (US w4 hi aa n adj bn ba bl (.int .i64 (L : Int)) B bk W c X R ∧ IsComps W B bk X R0 v ∧ (∀ j, R j ↔ j < B ∨ R0 j) ∧ ¬ R g) := ⟨hU, hC, hR, hg⟩
  have HZ : Hid (k = zs.length ∧ ∀ j u, (ints zs)[j]? = some u → W.cell? ((⟨g, off, none⟩ : Addr).add j) = some u) := ⟨hkz, ints_at hz⟩
  obtain ⟨b0, b1⟩ := hC.box
  obtain ⟨i3, hi1, hi2, hi3, hi4⟩ := info3
  have HI : Hid (Yba.prog.info? 3 = some i3 ∧ i3.zero = some (.int .i64 0) ∧ i3.size = 1 ∧ i3.bytes = 8) := ⟨hi1, hi2, hi3, hi4⟩
  obtain ⟨i27, hj1, hj2, hj3, hj4⟩ := info_parts Yba.info27
  have HJ : Hid (Yba.prog.info? 27 = some i27 ∧ i27.zero = some (.slice none 0 0) ∧ i27.size = 1 ∧ i27.bytes = 24) := ⟨hj1, hj2, hj3, hj4⟩
  have HVS : Hid (W.ownsRow B 27 1 v X.length vs ∧ ∀ (i : Nat) (c : List Nat), X[i]? = some c → ∃ g q, vs[i]? = some (.slice (some ⟨g, 0, none⟩) c.length q) ∧ R0 g ∧ v.ownBlock ≠ some g ∧ ∀ (j x : Nat), c[j]? = some x → W.cell? ⟨g, j, none⟩ = some (.int .i64 (x : Int))) := ⟨hvs, hvr⟩
  have HZD : Hid (∀ j u, (ints zs)[j]? = some u → W.drew.cell? ((⟨g, off, none⟩ : Addr).add j) = some u) := HZ.out.2
  have HLZ : Hid ((ints zs).length = k * 1) := by unfold Hid; rw [List.length_map]; omega
  have HML : Hid (0 + k ≤ maxLen ∧ X.length + 1 ≤ maxLen) := by unfold Hid maxLen; omega
  have HF1 : Hid (∀ w1, W.drew.grownBy w1 (Value.slice none 0 0).ownBlock → w1.cell? ⟨bk, 0, none⟩ = some v ∧ w1.frozen? ⟨bk, 0, none⟩ = false ∧ ∀ o, (w1.alloc o).cell? ⟨bk, 0, none⟩ = some v) := by
    intro w1 hg1
    have h0 : Box w1 bk v := hC.box.same (hg1.block bk hC.box.lt (by simp [Value.ownBlock]))
    exact ⟨h0.1, h0.2, fun o => (h0.alloc o).1⟩
  have HOA : Hid (∀ w1, W.drew.grownBy w1 (Value.slice none 0 0).ownBlock → ∀ o, (w1.alloc o).ownsRow B 27 1 v X.length vs ∧ B ≤ (w1.alloc o).heap.size) := by
    intro w1 hg1 o
    refine ⟨(World.ownsRow.kept (w := W.drew) hvs hg1 (by cases hv : v.ownBlock <;> simp [Value.ownBlock])).alloc o, ?_⟩
    have h1 : W.heap.size ≤ w1.heap.size := hg1.size
    have h2 := hC.ble
    simp; omega
  have HF2 : Hid (∀ w1 o w2, W.drew.grownBy w1 (Value.slice none 0 0).ownBlock → (w1.alloc o).grownBy w2 v.ownBlock → w2.cell? ⟨bk, 0, none⟩ = some v ∧ w2.frozen? ⟨bk, 0, none⟩ = false) := by
    intro w1 o w2 hg1 hg2
    have h1 : Box (w1.alloc o) bk v := (hC.box.same (w' := w1) (hg1.block bk hC.box.lt (by simp [Value.ownBlock]))).alloc o
    exact h1.same (hg2.block bk h1.lt (fun e => by have := hC.lt bk (hC.own bk e.symm); have := hC.bklt; omega))
  have hBW : B ≤ W.heap.size := hC.ble
  clear hU hR hg hkz hz hi1 hi2 hi3 hi4 hj1 hj2 hj3 hj4 hvs hvr hC
  show Calls Yba.prog 20 #[.slice (some ⟨g, off, none⟩) k cap, .pointer (some ⟨bk, 0, none⟩), .pointer (some ⟨bl, 0, none⟩)] W _
  go_enter Yba.func20, Yba.ntmps20
  go_upto_region 1 with fail
  go_region_law (first
    | (refine step_append_lies _ rfl (.const (.slice none 0 0)) (.tmp 6) 27 rfl W.heap.size 3 i3 (.int .i64 0) 1 8 Yba.underlying27 HI.out.1 HI.out.2.1 HI.out.2.2.1 HI.out.2.2.2 rfl (by decide) (.slice none 0 0) 0 [] (by simp [Act.eval, Act.put]) (World.ownsRow_nil _ _ _ _) ⟨g, off, none⟩ k cap (ints zs) (by simp [Act.eval, Act.put]) HLZ.out HZD.out (ints_one zs) hk HML.out.1 (by omega) (Nat.le_refl _) _ rfl ?_; intro g1 cap1 w1 hown1 hgrow1 hat1 hlt1; have f1 := HF1.out w1 hgrow1; obtain ⟨f1a, f1b, f1c⟩ := f1)
    | (refine step_append_lies _ rfl (.tmp 5) (.tmp 8) 39 rfl B 27 i27 (.slice none 0 0) 1 24 Yba.underlying39 HJ.out.1 HJ.out.2.1 HJ.out.2.2.1 HJ.out.2.2.2 rfl (by decide) v X.length vs (by simp [Act.eval, Act.put]) (HOA.out w1 hgrow1 _).1 ⟨w1.heap.size, 0, none⟩ 1 1 [.slice (some ⟨g1, 0, none⟩) k cap1] (by simp [Act.eval, Act.put]) rfl (news_one w1 _ 27) (by intro u hu; simp at hu; subst hu; rfl) (by decide) HML.out.2 (by omega) (HOA.out w1 hgrow1 _).2 _ rfl ?_; intro g2 cap2 w2 hown2 hgrow2 hat2 hlt2; have f2 := HF2.out w1 _ w2 hgrow1 hgrow2; obtain ⟨f2a, f2b⟩ := f2))
  all_goals
    obtain ⟨p1, p2, p3, p4⟩ := comps_push HU.out.2.1 HZ.out.1 HVS.out.1 HVS.out.2 hgrow1 hown1 hat1 hlt1 hgrow2 hown2 hat2 hlt2
    have HP := And.intro p1 (And.intro p2 (And.intro p3 p4))
    obtain ⟨W9, hW9⟩ : ∃ W9, W9 = w2.setCell ⟨bk, 0, none⟩ (.slice (some ⟨g2, 0, none⟩) (X.length + 1) cap2) := ⟨_, rfl⟩
    rw [← hW9] at HP ⊢
    have HP' : Hid (IsComps W9 B bk (X ++ [zs]) (fun j => R0 j ∨ j = g1 ∨ j = g2) (.slice (some ⟨g2, 0, none⟩) (X.length + 1) cap2) ∧ Keeps (fun j => j = bk ∨ v.ownBlock = some j) W W9 ∧ W.heap.size ≤ g1 ∧ (R0 g2 ∨ W.heap.size ≤ g2)) := HP
    clear p1 p2 p3 p4 HP hW9 hown1 hgrow1 hat1 hlt1 hown2 hgrow2 hat2 hlt2 f1a f1b f1c f2a f2b
    obtain ⟨k0, -⟩ := HP'.out.1.box
    have hbl : Box W9 bl (.int .i64 (L : Int)) := HU.out.1.lb.keep HP'.out.2.1 (by
      have ho := HU.out.1.ord
      rintro (e | e)
      · omega
      · have := (HU.out.2.1.lt bl (HU.out.2.1.own bl e)).1; omega)
    obtain ⟨k1, -⟩ := hbl
    go_wp2
    go_ret
    refine ⟨by simp; omega, fun j => j < B ∨ (R0 j ∨ j = g1 ∨ j = g2), ?_, ?_, ?_⟩
    · have h := HU.out.1
      have hk := HP'.out.2.1
      have ho := h.ord
      have hC := HU.out.2.1
      have hS : ∀ j, j < B → j ≠ bk → ¬ (j = bk ∨ v.ownBlock = some j) := by
        rintro j h1 h2 (e | e)
        · exact h2 e
        · have := (hC.lt j (hC.own j e)).1; omega
      exact ⟨h.ad.keep hk (by
          rintro j (e | e)
          · omega
          · have := (hC.lt j (hC.own j e)).1; omega), h.nn.keep hk (hS _ (by omega) (by omega)), h.ab.keep hk (hS _ (by omega) (by omega)), h.lb.keep hk (hS _ (by omega) (by omega)), ⟨_, _, HP'.out.1, fun j => Iff.rfl⟩, h.kp.trans' hk (by
          rintro j _ (e | e)
          · exact .inl e
          · exact .inr (hC.lt j (hC.own j e)).1), h.ord⟩
    · rintro j (e | e | e | e)
      · exact .inl ((HU.out.2.2.1 j).2 (.inl e))
      · exact .inl ((HU.out.2.2.1 j).2 (.inr e))
      · subst e; exact .inr HP'.out.2.2.1
      · subst e
        rcases HP'.out.2.2.2 with e | e
        · exact .inl ((HU.out.2.2.1 _).2 (.inr e))
        · exact .inr e
    · refine HP'.out.2.1.mono ?_
      rintro j _ (e | e)
      · subst e; exact (HU.out.2.2.1 _).2 (.inl HU.out.2.1.bklt)
      · exact (HU.out.2.2.1 _).2 (.inr (HU.out.2.1.own _ e))
end Go.Proofs.Ybulkblzg
