import Derived.Test.YbulkblzgE
import Derived.Deep.RegionLaw
namespace Go.Proofs.Ybulkblzg
open Go.RowKit
set_option linter.unusedVariables false
set_option linter.unusedSimpArgs false

theorem add_off (g off j : Nat) : (⟨g, off, none⟩ : Addr).add j = ⟨g, off + j, none⟩ := by unfold Addr.add; split <;> simp_all
theorem ints_one (zs : List Nat) : ∀ u ∈ ints zs, u.oneCell' = true := by
  intro u hu
  obtain ⟨x, _, rfl⟩ := List.mem_map.1 hu
  rfl
theorem ints_at {w : World} {g off : Nat} {zs : List Nat} (h : ∀ (j x : Nat), zs[j]? = some x → w.cell? ⟨g, off + j, none⟩ = some (.int .i64 (x : Int))) : ∀ j u, (ints zs)[j]? = some u → w.cell? ((⟨g, off, none⟩ : Addr).add j) = some u := by
  intro j u hu
  rw [List.getElem?_map] at hu
  obtain ⟨x, hx, rfl⟩ := Option.map_eq_some_iff.1 hu
  rw [add_off]
  exact h j x hx

/-- One more answer, copied into a row of its own. -/
theorem comps_push {W w1 w2 : World} {o : Obj} {B bk : Nat} {X : List (List Nat)} {R0 : Nat → Prop} {v : Value} {zs : List Nat} {vs : List Value} {g1 g2 cap1 cap2 k : Nat}
    (hC : IsComps W B bk X R0 v) (hk : k = zs.length)
    (hvs : W.ownsRow B 27 1 v X.length vs) (hvr : ∀ (i : Nat) (c : List Nat), X[i]? = some c → ∃ g q, vs[i]? = some (.slice (some ⟨g, 0, none⟩) c.length q) ∧ R0 g ∧ v.ownBlock ≠ some g ∧ ∀ (j x : Nat), c[j]? = some x → W.cell? ⟨g, j, none⟩ = some (.int .i64 (x : Int)))
    (h1 : W.drew.grownBy w1 (Value.slice none 0 0).ownBlock) (ho1 : w1.ownsRow W.heap.size 3 1 (.slice (some ⟨g1, 0, none⟩) (0 + k) cap1) (0 + k) ([] ++ ints zs)) (ha1 : (Value.slice none 0 0).ownBlock = some g1 ∨ g1 = W.drew.heap.size) (hl1 : g1 < w1.heap.size)
    (h2 : (w1.alloc o).grownBy w2 v.ownBlock) (ho2 : w2.ownsRow B 27 1 (.slice (some ⟨g2, 0, none⟩) (X.length + 1) cap2) (X.length + 1) (vs ++ [.slice (some ⟨g1, 0, none⟩) k cap1])) (ha2 : v.ownBlock = some g2 ∨ g2 = (w1.alloc o).heap.size) (hl2 : g2 < w2.heap.size) :
    IsComps (w2.setCell ⟨bk, 0, none⟩ (.slice (some ⟨g2, 0, none⟩) (X.length + 1) cap2)) B bk (X ++ [zs]) (fun j => R0 j ∨ j = g1 ∨ j = g2) (.slice (some ⟨g2, 0, none⟩) (X.length + 1) cap2) ∧
      Keeps (fun j => j = bk ∨ v.ownBlock = some j) W (w2.setCell ⟨bk, 0, none⟩ (.slice (some ⟨g2, 0, none⟩) (X.length + 1) cap2)) ∧ W.heap.size ≤ g1 ∧ (R0 g2 ∨ W.heap.size ≤ g2) := by
  have hg1 : g1 = W.heap.size := by
    rcases ha1 with e | e
    · simp [Value.ownBlock] at e
    · exact e
  have hs1 : W.heap.size ≤ w1.heap.size := h1.size
  have hs2 : w1.heap.size + 1 ≤ w2.heap.size := by have := h2.size; simp at this; omega
  have ha2' : v.ownBlock = some g2 ∨ g2 = w1.heap.size + 1 := by simpa using ha2
  have hbk := hC.bklt
  have hble := hC.ble
  have K : Keeps (fun j => j = bk ∨ v.ownBlock = some j) W (w2.setCell ⟨bk, 0, none⟩ (.slice (some ⟨g2, 0, none⟩) (X.length + 1) cap2)) := by
    refine ((((Keeps.refl _ W).drew.grown h1 ?_).alloc o).grown h2 (fun j hj _ => .inr hj)).setCell (fun _ => .inl rfl) _
    intro j hj; simp [Value.ownBlock] at hj
  have hown : ∀ j, v.ownBlock = some j → B ≤ j ∧ j < W.heap.size := fun j hj => hC.lt j (hC.own j hj)
  have hg2 : R0 g2 ∨ W.heap.size ≤ g2 := by
    rcases ha2' with e | e
    · exact .inl (hC.own _ e)
    · exact .inr (by omega)
  have hvl : vs.length = X.length := by have := hvs.1; omega
  have hsz : (w2.setCell ⟨bk, 0, none⟩ (.slice (some ⟨g2, 0, none⟩) (X.length + 1) cap2)).heap.size = w2.heap.size := by simp [World.setCell]
  have hbox : Box w2 bk v := by
    have h3 : Box (w1.alloc o) bk v := (hC.box.same (w' := w1) (h1.block bk hC.box.lt (by simp [Value.ownBlock]))).alloc o
    exact h3.same (h2.block bk h3.lt (fun e => by have := hown bk e.symm; omega))
  refine ⟨⟨hbox.set _, hbk, by rw [hsz]; omega, ⟨_, by simpa using ownsRow_setCell_below ho2 (by exact hbk) _, ?_⟩, ?_, ?_⟩, K, by omega, hg2⟩
  · intro i c hc
    rcases Nat.lt_or_ge i X.length with hi | hi
    · rw [List.getElem?_append_left hi] at hc
      obtain ⟨g, q, e1, e2, e3, e4⟩ := hvr i c hc
      have hgl := hC.lt g e2
      refine ⟨g, q, by rw [List.getElem?_append_left (by omega)]; exact e1, .inl e2, ?_, fun j x hx => ?_⟩
      · simp only [Value.ownBlock]
        intro e
        injection e with e
        rcases ha2' with e' | e'
        · exact e3 (by rw [e', e])
        · omega
      · rw [World.cell?_of_block (w := W) (by exact K.block g hgl.2 (by
          rintro (e | e)
          · omega
          · exact e3 e))]
        exact e4 j x hx
    · rw [List.getElem?_append_right hi] at hc
      have hi0 : i - X.length = 0 := by
        rcases Nat.eq_zero_or_pos (i - X.length) with e | e
        · exact e
        · rw [List.getElem?_eq_none (by simp; omega)] at hc; cases hc
      rw [hi0] at hc
      obtain rfl : zs = c := by simpa using hc
      refine ⟨g1, cap1, by rw [List.getElem?_append_right (by omega), hvl, hi0, ← hk]; rfl, .inr (.inl rfl), ?_, fun j x hx => ?_⟩
      · simp only [Value.ownBlock]
        intro e
        injection e with e
        rcases ha2' with e' | e'
        · have := (hown g2 e').2; omega
        · omega
      · have h4 : w1.cell? ⟨g1, j, none⟩ = some (.int .i64 (x : Int)) := by
          have h5 := ho1.cells (g := g1) rfl j (.int .i64 (x : Int)) (by simp [hx])
          rwa [add_off, Nat.zero_add] at h5
        rw [World.cell?_setCell_other _ _ _ _ (by intro e; injection e; omega), World.cell?_of_block (w := w1.alloc o) (by
          exact h2.block g1 (by simp; omega) (fun e => by have := (hown g1 e.symm).2; omega)), World.cell?_of_block (w := w1) (by exact Below.heap_alloc _ _ _ hl1)]
        exact h4
  · intro j hj
    simp only [Value.ownBlock, Option.some.injEq] at hj
    exact .inr (.inr hj.symm)
  · rw [hsz]
    rintro j (e | e | e)
    · have := hC.lt j e; omega
    · subst e; omega
    · subst e
      rcases ha2' with e | e
      · have := hown _ e; omega
      · omega

set_option maxRecDepth 100000 in
set_option maxHeartbeats 1000000 in
theorem found_ok (w4 : World) (hi aa n : Nat) (adj : Nat → List Nat) (bn bb bc ac ba B bk : Nat) : FoundOK 17 #[.pointer (some ⟨bk, 0, none⟩)] n (UC w4 hi aa n adj bn bb bc ac ba B bk) (fun _ => true) := by
  intro W c X R g off k cap zs hU hg hgl hk hkz hk2 hX hz
  obtain ⟨v, R0, hC, hR⟩ := hU.comps
  obtain ⟨vs, hvs, hvr⟩ := hC.rows
  have HU : Hid (UC w4 hi aa n adj bn bb bc ac ba B bk W c X R ∧ IsComps W B bk X R0 v ∧ (∀ j, R j ↔ j < B ∨ R0 j) ∧ ¬ R g) := ⟨hU, hC, hR, hg⟩
  have HZ : Hid (k = zs.length ∧ ∀ j u, (ints zs)[j]? = some u → W.cell? ((⟨g, off, none⟩ : Addr).add j) = some u) := ⟨hkz, ints_at hz⟩
  obtain ⟨b0, b1⟩ := hC.box
  obtain ⟨i3, hi1, hi2, hi3, hi4⟩ := info3
  have HI : Hid (Yba.prog.info? 3 = some i3 ∧ i3.zero = some (.int .i64 0) ∧ i3.size = 1 ∧ i3.bytes = 8) := ⟨hi1, hi2, hi3, hi4⟩
  obtain ⟨i27, hj1, hj2, hj3, hj4⟩ := info_parts Yba.info27
  have HJ : Hid (Yba.prog.info? 27 = some i27 ∧ i27.zero = some (.slice none 0 0) ∧ i27.size = 1 ∧ i27.bytes = 24) := ⟨hj1, hj2, hj3, hj4⟩
  have HVS : Hid (W.ownsRow B 27 1 v X.length vs ∧ ∀ (i : Nat) (c : List Nat), X[i]? = some c → ∃ g q, vs[i]? = some (.slice (some ⟨g, 0, none⟩) c.length q) ∧ R0 g ∧ v.ownBlock ≠ some g ∧ ∀ (j x : Nat), c[j]? = some x → W.cell? ⟨g, j, none⟩ = some (.int .i64 (x : Int))) := ⟨hvs, hvr⟩
  have HZD : Hid (∀ j u, (ints zs)[j]? = some u → W.drew.cell? ((⟨g, off, none⟩ : Addr).add j) = some u) := HZ.out.2
  have HLZ : Hid ((ints zs).length = k * 1) := by unfold Hid; rw [List.length_map]; omega
  have HML : Hid (0 + k ≤ maxLen ∧ X.length + 1 ≤ maxLen) := by unfold Hid maxLen; omega
  have HF1 : Hid (∀ w1, W.drew.grownBy w1 (Value.slice none 0 0).ownBlock → w1.cell? ⟨bk, 0, none⟩ = some v ∧ w1.frozen? ⟨bk, 0, none⟩ = false ∧ ∀ o, (w1.alloc o).cell? ⟨bk, 0, none⟩ = some v) := by
    intro w1 hg1
    have h0 : Box w1 bk v := hC.box.same (hg1.block bk hC.box.lt (by simp [Value.ownBlock]))
    exact ⟨h0.1, h0.2, fun o => (h0.alloc o).1⟩
  have HOA : Hid (∀ w1, W.drew.grownBy w1 (Value.slice none 0 0).ownBlock → ∀ o, (w1.alloc o).ownsRow B 27 1 v X.length vs ∧ B ≤ (w1.alloc o).heap.size) := by
    intro w1 hg1 o
    refine ⟨(World.ownsRow.kept (w := W.drew) hvs hg1 (by cases hv : v.ownBlock <;> simp [Value.ownBlock])).alloc o, ?_⟩
    have h1 : W.heap.size ≤ w1.heap.size := hg1.size
    have h2 := hC.ble
    simp; omega
  have HF2 : Hid (∀ w1 o w2, W.drew.grownBy w1 (Value.slice none 0 0).ownBlock → (w1.alloc o).grownBy w2 v.ownBlock → w2.cell? ⟨bk, 0, none⟩ = some v ∧ w2.frozen? ⟨bk, 0, none⟩ = false) := by
    intro w1 o w2 hg1 hg2
    have h1 : Box (w1.alloc o) bk v := (hC.box.same (w' := w1) (hg1.block bk hC.box.lt (by simp [Value.ownBlock]))).alloc o
    exact h1.same (hg2.block bk h1.lt (fun e => by have := hC.lt bk (hC.own bk e.symm); have := hC.bklt; omega))
  have hBW : B ≤ W.heap.size := hC.ble
  clear hU hR hg hkz hz hi1 hi2 hi3 hi4 hj1 hj2 hj3 hj4 hvs hvr hC
  show Calls Yba.prog 17 #[.slice (some ⟨g, off, none⟩) k cap, .pointer (some ⟨bk, 0, none⟩)] W _
  go_enter Yba.func17, Yba.ntmps17
  go_upto_region 1 with fail
  go_region_law (first
    | (refine step_append_lies _ rfl (.const (.slice none 0 0)) (.tmp 5) 27 rfl W.heap.size 3 i3 (.int .i64 0) 1 8 Yba.underlying27 HI.out.1 HI.out.2.1 HI.out.2.2.1 HI.out.2.2.2 rfl (by decide) (.slice none 0 0) 0 [] (by simp [Act.eval, Act.put]) (World.ownsRow_nil _ _ _ _) ⟨g, off, none⟩ k cap (ints zs) (by simp [Act.eval, Act.put]) HLZ.out HZD.out (ints_one zs) hk HML.out.1 (by omega) (Nat.le_refl _) _ rfl ?_; intro g1 cap1 w1 hown1 hgrow1 hat1 hlt1; have f1 := HF1.out w1 hgrow1; obtain ⟨f1a, f1b, f1c⟩ := f1)
    | (refine step_append_lies _ rfl (.tmp 4) (.tmp 7) 39 rfl B 27 i27 (.slice none 0 0) 1 24 Yba.underlying39 HJ.out.1 HJ.out.2.1 HJ.out.2.2.1 HJ.out.2.2.2 rfl (by decide) v X.length vs (by simp [Act.eval, Act.put]) (HOA.out w1 hgrow1 _).1 ⟨w1.heap.size, 0, none⟩ 1 1 [.slice (some ⟨g1, 0, none⟩) k cap1] (by simp [Act.eval, Act.put]) rfl (news_one w1 _ 27) (by intro u hu; simp at hu; subst hu; rfl) (by decide) HML.out.2 (by omega) (HOA.out w1 hgrow1 _).2 _ rfl ?_; intro g2 cap2 w2 hown2 hgrow2 hat2 hlt2; have f2 := HF2.out w1 _ w2 hgrow1 hgrow2; obtain ⟨f2a, f2b⟩ := f2))
  all_goals
    obtain ⟨p1, p2, p3, p4⟩ := comps_push HU.out.2.1 HZ.out.1 HVS.out.1 HVS.out.2 hgrow1 hown1 hat1 hlt1 hgrow2 hown2 hat2 hlt2
    have HP := And.intro p1 (And.intro p2 (And.intro p3 p4))
    obtain ⟨W9, hW9⟩ : ∃ W9, W9 = w2.setCell ⟨bk, 0, none⟩ (.slice (some ⟨g2, 0, none⟩) (X.length + 1) cap2) := ⟨_, rfl⟩
    rw [← hW9] at HP ⊢
    have HP' : Hid (IsComps W9 B bk (X ++ [zs]) (fun j => R0 j ∨ j = g1 ∨ j = g2) (.slice (some ⟨g2, 0, none⟩) (X.length + 1) cap2) ∧ Keeps (fun j => j = bk ∨ v.ownBlock = some j) W W9 ∧ W.heap.size ≤ g1 ∧ (R0 g2 ∨ W.heap.size ≤ g2)) := HP
    clear p1 p2 p3 p4 HP hW9 hown1 hgrow1 hat1 hlt1 hown2 hgrow2 hat2 hlt2 f1a f1b f1c f2a f2b
    go_wp2
    go_ret
    refine ⟨rfl, fun j => j < B ∨ (R0 j ∨ j = g1 ∨ j = g2), ?_, ?_, ?_⟩
    · have h := HU.out.1
      have hk := HP'.out.2.1
      have ho := h.ord
      have hC := HU.out.2.1
      have hS : ∀ j, j < B → j ≠ bk → ¬ (j = bk ∨ v.ownBlock = some j) := by
        rintro j h1 h2 (e | e)
        · exact h2 e
        · have := (hC.lt j (hC.own j e)).1; omega
      exact ⟨h.ad.keep hk (by
          rintro j (e | e)
          · omega
          · have := (hC.lt j (hC.own j e)).1; omega), h.nn.keep hk (hS _ (by omega) (by omega)), h.bad.keep hk (hS _ (by omega) (by omega)), h.cb.keep hk (hS _ (by omega) (by omega)), h.ca.keep hk (hS _ (by omega) (by omega)), h.ab.keep hk (hS _ (by omega) (by omega)), ⟨_, _, HP'.out.1, fun j => Iff.rfl⟩, h.kp.trans' hk (by
          rintro j _ (e | e)
          · exact .inr (.inl e)
          · exact .inr (.inr (hC.lt j (hC.own j e)).1)), h.ord⟩
    · rintro j (e | e | e | e)
      · exact .inl ((HU.out.2.2.1 j).2 (.inl e))
      · exact .inl ((HU.out.2.2.1 j).2 (.inr e))
      · subst e; exact .inr HP'.out.2.2.1
      · subst e
        rcases HP'.out.2.2.2 with e | e
        · exact .inl ((HU.out.2.2.1 _).2 (.inr e))
        · exact .inr e
    · refine HP'.out.2.1.mono ?_
      rintro j _ (e | e)
      · subst e; exact (HU.out.2.2.1 _).2 (.inl HU.out.2.1.bklt)
      · exact (HU.out.2.2.1 _).2 (.inr (HU.out.2.1.own _ e))
end Go.Proofs.Ybulkblzg
