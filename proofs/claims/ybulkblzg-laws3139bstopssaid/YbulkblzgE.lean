import Derived.Test.YbulkblzgC5s
namespace Go.Proofs.Ybulkblzg
open Go.RowKit
set_option linter.unusedVariables false
set_option linter.unusedSimpArgs false

/-- The graph's rows, all below block hi. -/
structure IsAdj (w : World) (hi aa n : Nat) (adj : Nat → List Nat) : Prop where
  aalt : aa < hi
  le : hi ≤ w.heap.size
  row : ∀ i, i < n → ∃ a c, w.cell? ⟨aa, i, none⟩ = some (.slice a (adj i).length c) ∧ ∀ (j x : Nat), (adj i)[j]? = some x → ∃ g, a = some ⟨g, 0, none⟩ ∧ g < hi ∧ w.cell? ⟨g, j, none⟩ = some (.int .i64 (x : Int))

theorem IsAdj.below {w w' : World} {hi aa n : Nat} {adj : Nat → List Nat} (h : IsAdj w hi aa n adj) (hb : Below hi w w') : IsAdj w' hi aa n adj := by
  refine ⟨h.aalt, Nat.le_trans h.le hb.size, fun i hn => ?_⟩
  obtain ⟨a, c, h1, h2⟩ := h.row i hn
  refine ⟨a, c, by rw [hb.cell (by exact h.aalt)]; exact h1, fun j x hx => ?_⟩
  obtain ⟨g, e, hg, h3⟩ := h2 j x hx
  exact ⟨g, e, hg, by rw [hb.cell (by exact hg)]; exact h3⟩

theorem IsAdj.keep {S : Nat → Prop} {w w' : World} {hi aa n : Nat} {adj : Nat → List Nat} (h : IsAdj w hi aa n adj) (hk : Keeps S w w') (hs : ∀ j, S j → hi ≤ j) : IsAdj w' hi aa n adj :=
  h.below (hk.below h.le hs)

/-- The answers so far, each a row of its own. -/
structure IsComps (w : World) (B bk : Nat) (X : List (List Nat)) (R : Nat → Prop) (v : Value) : Prop where
  box : Box w bk v
  bklt : bk < B
  ble : B ≤ w.heap.size
  rows : ∃ vs, w.ownsRow B 27 1 v X.length vs ∧ ∀ (i : Nat) (c : List Nat), X[i]? = some c → ∃ g q, vs[i]? = some (.slice (some ⟨g, 0, none⟩) c.length q) ∧ R g ∧ v.ownBlock ≠ some g ∧ ∀ (j x : Nat), c[j]? = some x → w.cell? ⟨g, j, none⟩ = some (.int .i64 (x : Int))
  own : ∀ j, v.ownBlock = some j → R j
  lt : ∀ j, R j → B ≤ j ∧ j < w.heap.size

theorem IsComps.keep {S : Nat → Prop} {w w' : World} {B bk : Nat} {X : List (List Nat)} {R : Nat → Prop} {v : Value} (h : IsComps w B bk X R v) (hk : Keeps S w w') (hb : ¬ S bk) (hs : ∀ j, R j → ¬ S j) : IsComps w' B bk X R v := by
  refine ⟨h.box.keep hk hb, h.bklt, Nat.le_trans h.ble hk.size, ?_, h.own, fun j hj => ⟨(h.lt j hj).1, Nat.lt_of_lt_of_le (h.lt j hj).2 hk.size⟩⟩
  obtain ⟨vs, h1, h2⟩ := h.rows
  refine ⟨vs, row_keep h1 hk (fun j hj => hs j (h.own j hj)), fun i c hc => ?_⟩
  obtain ⟨g, q, e, hg, hn, h3⟩ := h2 i c hc
  refine ⟨g, q, e, hg, hn, fun j x hx => ?_⟩
  rw [World.cell?_of_block (w := w) (by exact hk.block g (h.lt g hg).2 (hs g hg))]
  exact h3 j x hx

/-- What LawS3139BComponents holds while it walks. -/
structure UC (w4 : World) (hi aa n : Nat) (adj : Nat → List Nat) (bn bb bc ac ba B bk : Nat) (w : World) (c : Nat → Nat) (X : List (List Nat)) (R : Nat → Prop) : Prop where
  ad : IsAdj w hi aa n adj
  nn : Box w bn (.int .i64 (n : Int))
  bad : Box w bb (.bool false)
  cb : Box w bc (.slice (some ⟨ac, 0, none⟩) n n)
  ca : Arr w ac n (fun i => .int .i64 (c i : Int))
  ab : Box w ba (.slice (some ⟨aa, 0, none⟩) n n)
  comps : ∃ v R0, IsComps w B bk X R0 v ∧ (∀ j, R j ↔ j < B ∨ R0 j)
  kp : Keeps (fun j => j = ac ∨ j = bk ∨ B ≤ j) w4 w
  ord : bn < B ∧ bb < B ∧ bc < B ∧ ac < B ∧ ba < B ∧ bk < B ∧ hi ≤ B ∧ hi ≤ ac ∧ hi ≤ bk ∧ ac ≠ bn ∧ ac ≠ bb ∧ ac ≠ bc ∧ ac ≠ ba ∧ ac ≠ bk ∧ bk ≠ bn ∧ bk ≠ bb ∧ bk ≠ bc ∧ bk ≠ ba

theorem UC.ukeep (w4 : World) (hi aa n : Nat) (adj : Nat → List Nat) (bn bb bc ac ba B bk : Nat) : UKeep (UC w4 hi aa n adj bn bb bc ac ba B bk) := by
  intro W W' Q c X R h hk hq
  obtain ⟨v, R0, hc, hR⟩ := h.comps
  have hB : ∀ j, j < B → ¬ Q j := fun j hj => hq j ((hR j).2 (.inl hj))
  have ho := h.ord
  refine ⟨h.ad.keep hk (fun j hj => Nat.le_of_not_lt (fun hl => hB j (by omega) hj)), h.nn.keep hk (hB _ (by omega)), h.bad.keep hk (hB _ (by omega)), h.cb.keep hk (hB _ (by omega)), h.ca.keep hk (hB _ (by omega)), h.ab.keep hk (hB _ (by omega)),
    ⟨v, R0, hc.keep hk (hB _ (by omega)) (fun j hj => hq j ((hR j).2 (.inr hj))), hR⟩, h.kp.trans' hk (fun j _ hj => .inr (.inr (Nat.le_of_not_lt (fun hl => hB j hl hj)))), h.ord⟩
theorem UC.ult (w4 : World) (hi aa n : Nat) (adj : Nat → List Nat) (bn bb bc ac ba B bk : Nat) : ULt (UC w4 hi aa n adj bn bb bc ac ba B bk) := by
  intro W c X R j h hj
  obtain ⟨v, R0, hc, hR⟩ := h.comps
  rcases (hR j).1 hj with e | e
  · have := hc.ble; omega
  · exact (hc.lt j e).2

theorem UC.asked {w4 : World} {hi aa n : Nat} {adj : Nat → List Nat} {bn bb bc ac ba B bk : Nat} {w : World} {c : Nat → Nat} {X : List (List Nat)} {R : Nat → Prop} (h : UC w4 hi aa n adj bn bb bc ac ba B bk w c X R) {u : Nat} (hu : u < n) :
    UC w4 hi aa n adj bn bb bc ac ba B bk (w.setCell ⟨ac, u, none⟩ (.int .i64 ((c u : Int) + 1))) (upd c u (c u + 1)) X R := by
  have hk := keeps_set w ⟨ac, u, none⟩ (.int .i64 ((c u : Int) + 1))
  have ho := h.ord
  obtain ⟨v, R0, hc, hR⟩ := h.comps
  refine ⟨h.ad.keep hk (fun j hj => by simp at hj; omega), h.nn.keep hk (by simp; omega), h.bad.keep hk (by simp; omega), h.cb.keep hk (by simp; omega), (h.ca.set _ hu).congr (fun i _ => ?_), h.ab.keep hk (by simp; omega),
    ⟨v, R0, hc.keep hk (by simp; omega) (fun j hj => by have := (hc.lt j hj).1; simp; omega), hR⟩, h.kp.trans' hk (fun j _ hj => .inl hj), h.ord⟩
  unfold upd
  split <;> simp

set_option maxRecDepth 100000 in
set_option maxHeartbeats 1000000 in
theorem edges_ok (w4 : World) (hi aa n : Nat) (adj : Nat → List Nat) (bn bb bc ac ba B bk : Nat) (hn : n ≤ 256) (hdeg : ∀ v, v < n → (adj v).length ≤ 1024) :
    EdgesOK 15 #[.pointer (some ⟨bn, 0, none⟩), .pointer (some ⟨bb, 0, none⟩), .pointer (some ⟨bc, 0, none⟩), .pointer (some ⟨ba, 0, none⟩)] n adj (UC w4 hi aa n adj bn bb bc ac ba B bk) := by
  intro W c X R bx base g k xs v u hU hu hB hbx hbase hRx hRg hk hcu
  have HU : Hid (UC w4 hi aa n adj bn bb bc ac ba B bk W c X R) := hU
  have HB : Hid (BRow W base bx 3 1 g k xs v) := hB
  have HR : Hid (¬ R bx ∧ ∀ j, g = some j → ¬ R j) := ⟨hRx, hRg⟩
  obtain ⟨n0, n1⟩ := hU.nn
  obtain ⟨c0, c1⟩ := hU.cb
  obtain ⟨x0, x1⟩ := hU.ca u hu
  obtain ⟨a0, a1⟩ := hU.ab
  clear hU hB hRx hRg
  have hlu : decide ((u : Int) < 0) = false := by simp
  have hlu2 : decide ((n : Int) ≤ (u : Int)) = false := by simp; omega
  have hlu3 : decide (n ≤ u) = false := by simp; omega
  show Calls Yba.prog 15 #[.int .i64 (u : Int), .func (.func 30) #[] #[.pointer (some ⟨bx, 0, none⟩)], .pointer (some ⟨bn, 0, none⟩), .pointer (some ⟨bb, 0, none⟩), .pointer (some ⟨bc, 0, none⟩), .pointer (some ⟨ba, 0, none⟩)] W _
  go_enter Yba.func15, Yba.ntmps15
  go_upto_region 3 with fail
  obtain ⟨W1, hW1⟩ : ∃ W1, W1 = W.setCell ⟨ac, u, none⟩ (.int .i64 ((c u : Int) + 1)) := ⟨_, rfl⟩
  rw [← hW1]
  have U1 : Hid (UC w4 hi aa n adj bn bb bc ac ba B bk W1 (upd c u (c u + 1)) X R) := by rw [hW1]; exact HU.out.asked hu
  have HRac : Hid (R ac ∧ ∀ j, j < B → R j) := by
    obtain ⟨v0, R0, hc0, hR0⟩ := HU.out.comps
    exact ⟨(hR0 ac).2 (.inl HU.out.ord.2.2.2.1), fun j hj => (hR0 j).2 (.inl hj)⟩
  have K1 : Hid (Keeps (fun j => j = ac) W W1) := by rw [hW1]; unfold Hid; exact keeps_set W ⟨ac, u, none⟩ _
  have B1 : Hid (BRow W1 base bx 3 1 g k xs v) := HB.out.keep K1.out (fun e => HR.out.1 (by have e' : bx = ac := e; rw [e']; exact HRac.out.1)) (fun j hj e => HR.out.2 j hj (by have e' : j = ac := e; rw [e']; exact HRac.out.1))
  have hb1 : Hid (base ≤ W1.heap.size) := Nat.le_trans hbase K1.out.size
  clear hW1 n0 n1 c0 c1 x0 x1 a0 a1
  obtain ⟨a0, a1⟩ := U1.out.ab
  obtain ⟨ra, rc, r0, hrow⟩ := U1.out.ad.row u hu
  have HROW : Hid (∀ (j x : Nat), (adj u)[j]? = some x → ∃ g, ra = some ⟨g, 0, none⟩ ∧ g < hi ∧ W1.cell? ⟨g, j, none⟩ = some (.int .i64 (x : Int))) := hrow
  clear hrow
  obtain ⟨l, hl⟩ : ∃ l, l = (adj u).length := ⟨_, rfl⟩
  have HL : Hid (l = (adj u).length) := hl
  rw [← hl] at r0
  have hlb : l ≤ 1024 := by rw [hl]; exact hdeg u hu
  clear hl
  go_wp2
  go_loopw [28] (fun i wr => ∃ (ii : Nat) (g' : Option Nat) (v' : Value), i = .int .i64 (ii : Int) ∧ ii ≤ l ∧ Hid (BRow wr base bx 3 1 g' (k + ii) (xs ++ ints ((adj u).take ii)) v' ∧ Later W1.heap.size g g' ∧ Keeps (fun j => j = bx ∨ g = some j) W1 wr)) (fun i _ => l - (intOf i).toNat)
  case atStart => exact ⟨0, g, v, rfl, by omega, by simpa using B1.out, Later.refl _ _, Keeps.refl _ _⟩
  case round =>
    obtain ⟨ii, g', v', rfl, hil, HJ⟩ := hrel
    by_cases hlt : ii < l
    · obtain ⟨y, hy⟩ : ∃ y, (adj u)[ii]? = some y := ⟨_, List.getElem?_eq_getElem (by rw [← HL.out]; exact hlt)⟩
      obtain ⟨gg, hra, hgg, hcc⟩ := HROW.out ii y hy
      subst hra
      have cJ : wr.cell? ⟨gg, ii, none⟩ = some (.int .i64 (y : Int)) := by
        rw [World.cell?_of_block (w := W1) (by
          refine HJ.out.2.2.block gg (by have := U1.out.ad.le; omega) ?_
          rintro (e | e)
          · have := HRac.out.2 gg (by have := U1.out.ord; omega)
            rw [e] at this; exact HR.out.1 this
          · exact HR.out.2 gg e (HRac.out.2 gg (by have := U1.out.ord; omega)))]
        exact hcc
      have HY : Hid ((adj u)[ii]? = some y) := hy
      have hlt' : (ii : Int) < (l : Int) := by omega
      clear hy hcc
      go_wp2_with fail
      refine (follow_any bx base g' (k + ii) (xs ++ ints ((adj u).take ii)) v' (y : Int) wr HJ.out.1 hbx (Nat.le_trans hb1.out HJ.out.2.2.size) (by omega)).mono ?_
      rintro e2 W2 ⟨rfl, g2, v2, hB2, hl2, hk2⟩
      have HJ2 : Hid (BRow W2 base bx 3 1 g2 (k + (ii + 1)) (xs ++ ints ((adj u).take (ii + 1))) v2 ∧ Later W1.heap.size g g2 ∧ Keeps (fun j => j = bx ∨ g = some j) W1 W2) := by
        refine ⟨?_, HJ.out.2.1.trans hl2 HJ.out.2.2.size, HJ.out.2.2.trans' hk2 ?_⟩
        · rw [List.take_add_one, HY.out]
          simpa [Nat.add_assoc] using hB2
        · rintro j hj (e | e)
          · exact .inl e
          · rcases HJ.out.2.1 j e with e | e
            · exact .inr e
            · omega
      clear hB2 hl2 hk2
      go_wp2
      go_roundw
      case rel => exact ⟨ii + 1, g2, v2, by go_num, by omega, HJ2.out⟩
      case measure => simp [intOf]; omega
    · obtain rfl : ii = l := by omega
      go_wp2
      go_end0
      refine ⟨rfl, ?_, g', v', ?_, ?_, ?_⟩
      · exact UC.ukeep _ _ _ _ _ _ _ _ _ _ _ _ _ _ _ _ _ _ U1.out HJ.out.2.2 (fun j hR hq => by
          rcases hq with e | e
          · rw [e] at hR; exact HR.out.1 hR
          · exact HR.out.2 j e hR)
      · have h3 := HJ.out.1
        rw [HL.out, List.take_length] at h3
        exact h3
      · exact fun j hj => by
          rcases HJ.out.2.1 j hj with e | e
          · exact .inl e
          · exact .inr (Nat.le_trans K1.out.size e)
      · refine (K1.out.mono (fun j _ hj => ?_)).trans' HJ.out.2.2 (fun j _ hj => ?_)
        · have e' : j = ac := hj
          rw [e']; exact .inl HRac.out.1
        · rcases hj with e | e
          · exact .inr (.inl e)
          · exact .inr (.inr e)
end Go.Proofs.Ybulkblzg
