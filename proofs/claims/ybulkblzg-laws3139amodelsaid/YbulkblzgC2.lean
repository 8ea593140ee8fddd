import Derived.Test.YbulkblzgC1
namespace Go.Proofs.Ybulkblzg
open Go.RowKit
set_option linter.unusedVariables false
set_option linter.unusedSimpArgs false

abbrev UT := World → (Nat → Nat) → List (List Nat) → (Nat → Prop) → Prop
def UKeep (U : UT) : Prop := ∀ W W' Q c X R, U W c X R → Keeps Q W W' → (∀ j, R j → ¬ Q j) → U W' c X R
def ULt (U : UT) : Prop := ∀ W c X R j, U W c X R → R j → j < W.heap.size
def EdgesOK (F : Nat) (caps : Array Value) (n : Nat) (adj : Nat → List Nat) (U : UT) : Prop :=
  ∀ (W : World) (c : Nat → Nat) (X : List (List Nat)) (R : Nat → Prop) (bx base : Nat) (g : Option Nat) (k : Nat) (xs : List Value) (v : Value) (u : Nat),
    U W c X R → u < n → BRow W base bx 3 1 g k xs v → bx < base → base ≤ W.heap.size → ¬ R bx → (∀ j, g = some j → ¬ R j) → k ≤ 300000 → c u ≤ 1 →
    Calls Yba.prog F (#[.int .i64 (u : Int), .func (.func 30) #[] #[.pointer (some ⟨bx, 0, none⟩)]] ++ caps) W fun e W' =>
      e = .returned (.tuple #[]) ∧ U W' (upd c u (c u + 1)) X R ∧ ∃ g' v', BRow W' base bx 3 1 g' (k + (adj u).length) (xs ++ ints (adj u)) v' ∧ Later W.heap.size g g' ∧ Keeps (fun j => R j ∨ j = bx ∨ g = some j) W W'

def Apart (N : Nat) (R : Nat → Prop) (gS gN gP : Option Nat) : Prop := ∀ j, R j → ¬ Own N gS gN gP j

theorem Yba.info72 : (Yba.prog.info? 72).map (fun i => (i.zero, i.size, i.bytes)) = some (some (.agg #[.int .i64 0, .int .i64 0, .int .i64 0, .int .i64 0]), 4, 32) := by kernel_rfl

theorem BRow.push {w w5 : World} {o : Obj} {base bx : Nat} {e : TypeId} {sz : Nat} {g : Option Nat} {k k' : Nat} {xs xs' : List Value} {v : Value} {g' cap : Nat} (h : BRow w base bx e sz g k xs v) (hbx : bx < base)
    (hown : w5.ownsRow base e sz (.slice (some ⟨g', 0, none⟩) k' cap) k' xs') (hg : (w.alloc o).grownBy w5 v.ownBlock) (hat : v.ownBlock = some g' ∨ g' = w.heap.size + 1) :
    BRow (w5.setCell ⟨bx, 0, none⟩ (.slice (some ⟨g', 0, none⟩) k' cap)) base bx e sz (some g') k' xs' (.slice (some ⟨g', 0, none⟩) k' cap) ∧ Later w.heap.size g (some g') ∧
      Keeps (fun j => j = bx ∨ g = some j) w (w5.setCell ⟨bx, 0, none⟩ (.slice (some ⟨g', 0, none⟩) k' cap)) := by
  have ha : BRow (w.alloc o) base bx e sz g k xs v := ⟨h.box.alloc _, h.row.alloc _, h.blk⟩
  rw [h.blk] at hg hat
  exact ⟨ha.grow hbx hown hg, later_of hat (by omega), (((Keeps.refl _ w).alloc _).grown hg (fun j hj _ => .inr hj)).setCell (fun _ => .inl rfl) _⟩

theorem BRow.held {w w5 : World} {o : Obj} {base bx : Nat} {e : TypeId} {sz : Nat} {g : Option Nat} {k : Nat} {xs : List Value} {v : Value} (h : BRow w base bx e sz g k xs v) (hbx : bx < base)
    (hg : (w.alloc o).grownBy w5 v.ownBlock) : Box w5 bx v :=
  (h.box.alloc _).same (hg.block bx (by have := h.box.lt; simp; omega) (fun e => by have := (h.row.lt bx e.symm).1; omega))

theorem one_int (z : Int) : ∀ u ∈ [Value.int .i64 z], u.oneCell' = true := by
  intro u hu
  simp at hu
  subst hu; rfl

theorem apart_later {w : World} {N : Nat} {gS gN gP : Option Nat} (R : Nat → Prop)
    (hR : ∀ j, R j → j < w.heap.size) (ha : Apart N R gS gN gP) {gS' gN' gP' : Option Nat} (h1 : Later w.heap.size gS gS') (h2 : Later w.heap.size gN gN') (h3 : Later w.heap.size gP gP') : Apart N R gS' gN' gP' := by
  intro j hj ho
  have hlt := hR j hj
  have hn := ha j hj
  unfold Own at ho hn
  rcases ho with ho | ho | ho | ho
  · exact hn (.inl ho)
  · rcases h1 j ho with e | e
    · exact hn (.inr (.inl e))
    · omega
  · rcases h2 j ho with e | e
    · exact hn (.inr (.inr (.inl e)))
    · omega
  · rcases h3 j ho with e | e
    · exact hn (.inr (.inr (.inr e)))
    · omega

theorem CF.newNR {w w' : World} {N n : Nat} {fE : Value} {idx low : Nat → Nat} {on : Nat → Bool} {S X : List Nat} {P : List Value} {np cnt : Nat} {gS gN gP : Option Nat} {vS vN vP : Value} {R : Nat → Prop}
    {X' : List Nat} {gN' : Option Nat} {vN' : Value} (h : CF w N n fE idx low on S X P np cnt gS gN gP vS vN vP) (ha : Apart N R gS gN gP) (hk : Keeps (fun j => R j ∨ j = N + 8 ∨ gN = some j) w w')
    (hl : Later w.heap.size gN gN') (hr : BRow w' (N + 12) (N + 8) 3 1 gN' X'.length (ints X') vN') : CF w' N n fE idx low on S X' P np cnt gS gN' gP vS vN' vP := by
  have hb : ∀ b, N ≤ b → b < N + 12 → b ≠ N + 8 → ¬ (R b ∨ b = N + 8 ∨ gN = some b) := by
    rintro b h0 h1 h2 (h3 | h3 | h3)
    · exact ha b h3 (.inl ⟨h0, h1⟩)
    · exact h2 h3
    · have := (h.nx.lt b h3).1; omega
  have hn : ∀ j, gS = some j → ¬ (R j ∨ j = N + 8 ∨ gN = some j) := by
    rintro j h1 (h3 | h3 | h3)
    · exact ha j h3 (.inr (.inl h1))
    · have := (h.st.lt j h1).1; omega
    · exact h.dSN j h1 h3
  have hp : ∀ j, gP = some j → ¬ (R j ∨ j = N + 8 ∨ gN = some j) := by
    rintro j h1 (h3 | h3 | h3)
    · exact ha j h3 (.inr (.inr (.inr h1)))
    · have := (h.pa.lt j h1).1; omega
    · exact h.dNP j h3 h1
  exact
    { ed := h.ed.keep hk (hb _ (by omega) (by omega) (by omega)), ix := h.ix.keep hk (hb _ (by omega) (by omega) (by omega)), ixA := h.ixA.keep hk (hb _ (by omega) (by omega) (by omega))
      lo := h.lo.keep hk (hb _ (by omega) (by omega) (by omega)), loA := h.loA.keep hk (hb _ (by omega) (by omega) (by omega)), onB := h.onB.keep hk (hb _ (by omega) (by omega) (by omega)), onA := h.onA.keep hk (hb _ (by omega) (by omega) (by omega))
      st := h.st.keep hk (hb _ (by omega) (by omega) (by omega)) hn, nx := hr, pa := h.pa.keep hk (hb _ (by omega) (by omega) (by omega)) hp
      re := h.re.keep hk (hb _ (by omega) (by omega) (by omega)), fo := h.fo.keep hk (hb _ (by omega) (by omega) (by omega))
      dSN := later_ne hl h.dSN (fun j hj => (h.st.lt j hj).2)
      dSP := h.dSP
      dNP := fun j hj e => later_ne hl (fun j hj e => h.dNP j e hj) (fun j hj => (h.pa.lt j hj).2) j e hj
      base := Nat.le_trans h.base hk.size }

theorem CF.ownS {w : World} {N n : Nat} {fE : Value} {idx low : Nat → Nat} {on : Nat → Bool} {S X : List Nat} {P : List Value} {np cnt : Nat} {gS gN gP : Option Nat} {vS vN vP : Value}
    (h : CF w N n fE idx low on S X P np cnt gS gN gP vS vN vP) {j : Nat} (hj : gS = some j) : N ≤ j := by have := (h.st.lt j hj).1; omega
theorem CF.ownN {w : World} {N n : Nat} {fE : Value} {idx low : Nat → Nat} {on : Nat → Bool} {S X : List Nat} {P : List Value} {np cnt : Nat} {gS gN gP : Option Nat} {vS vN vP : Value}
    (h : CF w N n fE idx low on S X P np cnt gS gN gP vS vN vP) {j : Nat} (hj : gN = some j) : N ≤ j := by have := (h.nx.lt j hj).1; omega
theorem CF.ownP {w : World} {N n : Nat} {fE : Value} {idx low : Nat → Nat} {on : Nat → Bool} {S X : List Nat} {P : List Value} {np cnt : Nat} {gS gN gP : Option Nat} {vS vN vP : Value}
    (h : CF w N n fE idx low on S X P np cnt gS gN gP vS vN vP) {j : Nat} (hj : gP = some j) : N ≤ j := by have := (h.pa.lt j hj).1; omega

theorem news_four (w : World) (x y z u : Value) (t : TypeId) : ∀ j q, [x, y, z, u][j]? = some q → (w.alloc (.cells #[x, y, z, u] t)).cell? ((⟨w.heap.size, 0, none⟩ : Addr).add j) = some q :=
  World.news_of_block (cs := #[x, y, z, u]) (heap_alloc_new w (.cells #[x, y, z, u] t))
theorem four_int (a b c d : Int) : ∀ u ∈ [Value.int .i64 a, .int .i64 b, .int .i64 c, .int .i64 d], u.oneCell' = true := by
  intro u hu
  simp at hu
  rcases hu with rfl | rfl | rfl | rfl <;> rfl

set_option maxRecDepth 100000 in
set_option maxHeartbeats 1000000 in
theorem reach_any (F : Nat) (caps : Array Value) (n : Nat) (adj : Nat → List Nat) (U : UT) (hU : UKeep U) (hUL : ULt U) (hE : EdgesOK F caps n adj U) (hF : ∀ (args : Array Value) (w : World), (callFunc F args).run Yba.prog w = .ok (.enter F args) w)
    (N : Nat) (idx low : Nat → Nat) (on : Nat → Bool) (S X : List Nat) (P : List Value) (np cnt : Nat) (gS gN gP : Option Nat) (vS vN vP : Value)
    (c : Nat → Nat) (Y : List (List Nat)) (R : Nat → Prop) (w : World)
    (h : CF w N n (.func (.func F) #[] caps) idx low on S X P np cnt gS gN gP vS vN vP) (hu : U w c Y R) (ha : Apart N R gS gN gP) (v : Nat) (hv : v < n) (hn : n ≤ 256)
    (hS : S.length ≤ 1000) (hX : X.length ≤ 300000) (hp : np ≤ 1000) (hc : cnt ≤ 1000) (hadj : (adj v).length ≤ 2000) (hcv : c v ≤ 1) :
    Calls Yba.prog 31 #[.int .i64 (v : Int), .pointer (some ⟨N + 10, 0, none⟩), .pointer (some ⟨N + 2, 0, none⟩), .pointer (some ⟨N + 4, 0, none⟩), .pointer (some ⟨N + 7, 0, none⟩), .pointer (some ⟨N + 6, 0, none⟩), .pointer (some ⟨N + 8, 0, none⟩), .pointer (some ⟨N, 0, none⟩), .pointer (some ⟨N + 11, 0, none⟩), .pointer (some ⟨N + 9, 0, none⟩)] w fun e w' =>
      e = .returned (.tuple #[]) ∧ U w' (upd c v (c v + 1)) Y R ∧ ∃ gS' gN' gP' vS' vN' vP',
        CF w' N n (.func (.func F) #[] caps) (upd idx v (cnt + 1)) (upd low v (cnt + 1)) (fun i => if i = v then true else on i) (S ++ [v]) (X ++ adj v)
          (P ++ [.int .i64 (v : Int), .int .i64 (X.length : Int), .int .i64 (X.length : Int), .int .i64 ((X.length + (adj v).length : Nat) : Int)]) (np + 1) (cnt + 1) gS' gN' gP' vS' vN' vP' ∧
        Apart N R gS' gN' gP' ∧ Keeps (fun j => R j ∨ N ≤ j) w w' := by
  have HN : Hid (n ≤ 256) := hn
  have H : Hid (CF w N n (.func (.func F) #[] caps) idx low on S X P np cnt gS gN gP vS vN vP) := h
  have HU : Hid (U w c Y R) := hu
  have HA : Hid (Apart N R gS gN gP) := ha
  have hUU : Hid (UKeep U ∧ ULt U ∧ EdgesOK F caps n adj U) := ⟨hU, hUL, hE⟩
  clear hU hUL hE hu ha hn
  obtain ⟨e0, e1⟩ := h.re
  obtain ⟨i0, i1⟩ := h.ix
  obtain ⟨l0, l1⟩ := h.lo
  obtain ⟨x0, x1⟩ := h.ixA v hv
  obtain ⟨y0, y1⟩ := h.loA v hv
  clear h
  go_enter Yba.func31, Yba.ntmps31
  go_upto_region 1 with fail
  go_region
  obtain ⟨W1, hW1⟩ : ∃ W1, W1 = (((w.setCell ⟨N + 10, 0, none⟩ (.int .i32 ((cnt : Int) + 1))).setCell ⟨N + 1, v, none⟩ (.int .i32 ((cnt : Int) + 1))).setCell ⟨N + 3, v, none⟩ (.int .i32 ((cnt : Int) + 1))).drew := ⟨_, rfl⟩
  rw [← hW1]
  have C1 : Hid (CF W1 N n (.func (.func F) #[] caps) (upd idx v (cnt + 1)) (upd low v (cnt + 1)) on S X P np (cnt + 1) gS gN gP vS vN vP) := by
    have := (((H.out.setCnt (cnt + 1)).setIdx hv (cnt + 1)).setLow hv (cnt + 1)).drew
    rw [show ((cnt + 1 : Nat) : Int) = (cnt : Int) + 1 from by omega] at this
    rw [hW1]; exact this
  have K1 : Hid (Keeps (fun j => N ≤ j ∧ j < N + 12) w W1) := by
    rw [hW1]
    exact ((((Keeps.refl _ w).setCell (fun _ => by simp) _).setCell (fun _ => by simp) _).setCell (fun _ => by simp) _).drew
  have U1 : Hid (U W1 c Y R) := hUU.out.1 _ _ _ _ _ _ HU.out K1.out (fun j hR hq => HA.out j hR (.inl hq))
  clear hW1 e0 e1 i0 i1 l0 l1 x0 x1 y0 y1
  obtain ⟨i3, hi1, hi2, hi3, hi4⟩ := info3
  have HI : Hid (Yba.prog.info? 3 = some i3 ∧ i3.zero = some (.int .i64 0) ∧ i3.size = 1 ∧ i3.bytes = 8) := ⟨hi1, hi2, hi3, hi4⟩
  obtain ⟨i72, hj1, hj2, hj3, hj4⟩ := info_parts Yba.info72
  have HJ : Hid (Yba.prog.info? 72 = some i72 ∧ i72.zero = some (.agg #[.int .i64 0, .int .i64 0, .int .i64 0, .int .i64 0]) ∧ i72.size = 4 ∧ i72.bytes = 32) := ⟨hj1, hj2, hj3, hj4⟩
  clear hi1 hi2 hi3 hi4 hj1 hj2 hj3 hj4
  obtain ⟨s0, s1⟩ := C1.out.st.box
  have HSL : Hid (S.length + 1 ≤ maxLen) := by unfold Hid maxLen; omega
  have HBA : Hid (N + 12 ≤ (W1.alloc (.cells #[.int .i64 (v : Int)] 3)).heap.size) := by have := C1.out.base; unfold Hid; simp; omega
  go_wp2_with (at_builtin; refine wpList_append_lies _ rfl _ _ 27 rfl (N + 12) 3 i3 (.int .i64 0) 1 8 Yba.underlying27 HI.out.1 HI.out.2.1 HI.out.2.2.1 HI.out.2.2.2 rfl (by decide) vS S.length (ints S) rfl (C1.out.st.row.alloc _) ⟨W1.heap.size, 0, none⟩ 1 1 [.int .i64 (v : Int)] rfl rfl (news_one W1 (.int .i64 (v : Int)) 3) (one_int _) (by decide) HSL.out (by omega) HBA.out _ rfl ?_)
  intro g5 cap5 w5 hown5 hgrow5 hat5 hlt5
  obtain ⟨t0, t1⟩ := C1.out.st.held (by omega) hgrow5
  have HP5 := C1.out.st.push (by omega) hown5 hgrow5 (by simpa using hat5)
  obtain ⟨W2, hW2⟩ : ∃ W2, W2 = w5.setCell ⟨N + 7, 0, none⟩ (.slice (some ⟨g5, 0, none⟩) (S.length + 1) cap5) := ⟨_, rfl⟩
  rw [← hW2] at HP5
  have C2 : Hid (CF W2 N n (.func (.func F) #[] caps) (upd idx v (cnt + 1)) (upd low v (cnt + 1)) on (S ++ [v]) X P np (cnt + 1) (some g5) gN gP (.slice (some ⟨g5, 0, none⟩) (S.length + 1) cap5) vN vP) :=
    C1.out.newS HP5.2.2 HP5.2.1 (by simpa using HP5.1)
  have K2 : Hid (Keeps (fun j => j = N + 7 ∨ gS = some j) W1 W2 ∧ Later W1.heap.size gS (some g5)) := ⟨HP5.2.2, HP5.2.1⟩
  clear HP5 hown5 hgrow5 hat5 hlt5 s0 s1
  go_upto_region 3 with fail
  rw [← hW2]
  clear hW2 t0 t1
  obtain ⟨o0, o1⟩ := C2.out.onB
  obtain ⟨p0, p1⟩ := C2.out.onA v hv
  go_upto_region 4 with fail
  obtain ⟨W3, hW3⟩ : ∃ W3, W3 = W2.setCell ⟨N + 5, v, none⟩ (.bool true) := ⟨_, rfl⟩
  rw [← hW3]
  have C3 : Hid (CF W3 N n (.func (.func F) #[] caps) (upd idx v (cnt + 1)) (upd low v (cnt + 1)) (fun i => if i = v then true else on i) (S ++ [v]) X P np (cnt + 1) (some g5) gN gP (.slice (some ⟨g5, 0, none⟩) (S.length + 1) cap5) vN vP) := by
    rw [hW3]; exact C2.out.setOn hv true
  have K3 : Hid (Keeps (fun j => N ≤ j ∧ j < N + 12) W2 W3) := by
    rw [hW3]; exact (Keeps.refl _ _).setCell (fun _ => by simp) _
  have A3 : Hid (Apart N R (some g5) gN gP) := apart_later R (fun j hj => hUU.out.2.1 _ _ _ _ _ U1.out hj) HA.out K2.out.2 (Later.refl _ _) (Later.refl _ _)
  have U3 : Hid (U W3 c Y R) := hUU.out.1 _ _ _ _ _ _ (hUU.out.1 _ _ _ _ _ _ U1.out K2.out.1 (fun j hR hq => HA.out j hR (by
    rcases hq with rfl | hq
    · exact .inl (by omega)
    · exact .inr (.inl hq)))) K3.out (fun j hR hq => HA.out j hR (.inl hq))
  clear hW3 o0 o1 p0 p1
  obtain ⟨n0, n1⟩ := C3.out.nx.box
  obtain ⟨d0, d1⟩ := C3.out.ed
  obtain ⟨f0, f1⟩ := C3.out.fo
  obtain ⟨an, cn, hvN, -⟩ := row_form C3.out.nx.row
  rw [hvN] at n0
  go_wp2_with fail
  refine (hUU.out.2.2 W3 c Y R (N + 8) (N + 12) gN X.length (ints X) vN v U3.out hv C3.out.nx (by omega) C3.out.base (fun hR => A3.out _ hR (.inl ⟨by omega, by omega⟩)) (fun j hj hR => A3.out _ hR (.inr (.inr (.inl hj)))) hX hcv).mono ?_
  rintro e4 W4 ⟨rfl, hu4, g4, v4, hB4, hl4, hk4⟩
  have C4 : Hid (CF W4 N n (.func (.func F) #[] caps) (upd idx v (cnt + 1)) (upd low v (cnt + 1)) (fun i => if i = v then true else on i) (S ++ [v]) (X ++ adj v) P np (cnt + 1) (some g5) g4 gP (.slice (some ⟨g5, 0, none⟩) (S.length + 1) cap5) v4 vP) :=
    C3.out.newNR A3.out hk4 hl4 (by simpa using hB4)
  have U4 : Hid (U W4 (upd c v (c v + 1)) Y R) := hu4
  have A4 : Hid (Apart N R (some g5) g4 gP) := apart_later R (fun j hj => hUU.out.2.1 _ _ _ _ _ U3.out hj) A3.out (Later.refl _ _) hl4 (Later.refl _ _)
  have K4 : Hid (Keeps (fun j => R j ∨ j = N + 8 ∨ gN = some j) W3 W4) := hk4
  clear hu4 hB4 hl4 hk4 n0 n1 d0 d1 f0 f1 hvN
  obtain ⟨pp0, pp1⟩ := C4.out.pa.box
  obtain ⟨n0, n1⟩ := C4.out.nx.box
  obtain ⟨an4, cn4, hvN, -⟩ := row_form C4.out.nx.row
  rw [hvN] at n0
  have hlen : (X ++ adj v).length = X.length + (adj v).length := by simp
  rw [hlen] at n0
  have HPL : Hid (np + 1 ≤ maxLen) := by unfold Hid maxLen; omega
  have HB4 : Hid (N + 12 ≤ (W4.alloc (.cells #[.int .i64 (v : Int), .int .i64 (X.length : Int), .int .i64 (X.length : Int), .int .i64 ((X.length : Int) + ((adj v).length : Int))] 72)).heap.size) := by have := C4.out.base; unfold Hid; simp; omega
  clear hlen
  go_wp2_with (at_builtin; refine wpList_append_lies _ rfl _ _ 70 rfl (N + 12) 72 i72 (.agg #[.int .i64 0, .int .i64 0, .int .i64 0, .int .i64 0]) 4 32 Yba.underlying70 HJ.out.1 HJ.out.2.1 HJ.out.2.2.1 HJ.out.2.2.2 rfl (by decide) vP np P rfl (C4.out.pa.row.alloc _) ⟨W4.heap.size, 0, none⟩ 1 1 [.int .i64 (v : Int), .int .i64 (X.length : Int), .int .i64 (X.length : Int), .int .i64 ((X.length : Int) + ((adj v).length : Int))] rfl rfl (news_four W4 _ _ _ _ 72) (four_int _ _ _ _) (by decide) HPL.out (by omega) HB4.out _ rfl ?_)
  intro g6 cap6 w6 hown6 hgrow6 hat6 hlt6
  obtain ⟨t0, t1⟩ := C4.out.pa.held (by omega) hgrow6
  have HP6 := C4.out.pa.push (by omega) hown6 hgrow6 (by simpa using hat6)
  have C6 : Hid (CF (w6.setCell ⟨N + 9, 0, none⟩ (.slice (some ⟨g6, 0, none⟩) (np + 1) cap6)) N n (.func (.func F) #[] caps) (upd idx v (cnt + 1)) (upd low v (cnt + 1)) (fun i => if i = v then true else on i) (S ++ [v]) (X ++ adj v) _ (np + 1) (cnt + 1) (some g5) g4 (some g6) _ v4 (.slice (some ⟨g6, 0, none⟩) (np + 1) cap6)) :=
    C4.out.newP HP6.2.2 HP6.2.1 HP6.1
  have K6 : Hid (Keeps (fun j => j = N + 9 ∨ gP = some j) W4 (w6.setCell ⟨N + 9, 0, none⟩ (.slice (some ⟨g6, 0, none⟩) (np + 1) cap6)) ∧ Later W4.heap.size gP (some g6)) := ⟨HP6.2.2, HP6.2.1⟩
  clear HP6 hown6 hgrow6 hat6 hlt6 n0 n1 pp0 pp1 hvN
  go_wp2
  go_end0
  refine ⟨rfl, ?_, some g5, g4, some g6, _, v4, _, C6.out, ?_, ?_⟩
  · exact hUU.out.1 _ _ _ _ _ _ U4.out K6.out.1 (fun j hR hq => A4.out j hR (by
      rcases hq with rfl | hq
      · exact .inl (by omega)
      · exact .inr (.inr (.inr hq))))
  · exact apart_later R (fun j hj => hUU.out.2.1 _ _ _ _ _ U4.out hj) A4.out (Later.refl _ _) (Later.refl _ _) K6.out.2
  · refine ((((K1.out.mono ?_).trans' K2.out.1 ?_).trans' K3.out ?_).trans' K4.out ?_).trans' K6.out.1 ?_
    · exact fun j _ hj => .inr hj.1
    · rintro j _ (rfl | hj)
      · exact .inr (by omega)
      · exact .inr (H.out.ownS hj)
    · exact fun j _ hj => .inr hj.1
    · rintro j _ (hj | rfl | hj)
      · exact .inl hj
      · exact .inr (by omega)
      · exact .inr (H.out.ownN hj)
    · rintro j _ (rfl | hj)
      · exact .inr (by omega)
      · exact .inr (H.out.ownP hj)
end Go.Proofs.Ybulkblzg
