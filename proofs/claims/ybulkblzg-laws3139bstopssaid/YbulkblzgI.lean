import Derived.Test.YbulkblzgE
namespace Go.Proofs.Ybulkblzg
open Go.RowKit
set_option linter.unusedVariables false
set_option linter.unusedSimpArgs false

/-- The edges as they came in. -/
def IsEs (w : World) (a : Option Addr) (m : Nat) (E : List (Nat × Nat)) : Prop :=
  E.length = m ∧ (∀ e ∈ E, e.1 < 65536 ∧ e.2 < 65536) ∧ ∀ i e, E[i]? = some e → ∃ b off, a = some ⟨b, off, none⟩ ∧ w.cell? ⟨b, off + i * 2, none⟩ = some (.int .u16 (e.1 : Int)) ∧ w.cell? ⟨b, off + i * 2 + 1, none⟩ = some (.int .u16 (e.2 : Int))

theorem IsEs.below {w w' : World} {a : Option Addr} {m : Nat} {E : List (Nat × Nat)} (h : IsEs w a m E) (hb : Below w.heap.size w w') : IsEs w' a m E := by
  refine ⟨h.1, h.2.1, fun i e he => ?_⟩
  obtain ⟨b, off, e1, e2, e3⟩ := h.2.2 i e he
  exact ⟨b, off, e1, by rw [hb.cell (World.block_lt_of_cell? w _ e2)]; exact e2, by rw [hb.cell (World.block_lt_of_cell? w _ e3)]; exact e3⟩

def addE (n : Nat) (A : Nat → List Nat) (e : Nat × Nat) : Nat → List Nat := fun j => if j = e.1 % n then A j ++ [e.2 % n] else A j
def adjE (n : Nat) (E : List (Nat × Nat)) : Nat → List Nat := E.foldl (addE n) (fun _ => [])
theorem adjE_snoc (n : Nat) (E : List (Nat × Nat)) (e : Nat × Nat) : adjE n (E ++ [e]) = addE n (adjE n E) e := by simp [adjE]

theorem adjE_len (n : Nat) : ∀ (E : List (Nat × Nat)) (A : Nat → List Nat) (v : Nat), (E.foldl (addE n) A v).length ≤ (A v).length + E.length
  | [], A, v => by simp
  | e :: E, A, v => by
    have := adjE_len n E (addE n A e) v
    have h2 : (addE n A e v).length ≤ (A v).length + 1 := by unfold addE; split <;> simp
    simp only [List.foldl_cons, List.length_cons]
    omega
theorem adjE_deg (n : Nat) (E : List (Nat × Nat)) (v : Nat) : (adjE n E v).length ≤ E.length := by
  have := adjE_len n E (fun _ => []) v
  unfold adjE
  simpa using this
theorem adjE_rng (n : Nat) (hn : 0 < n) : ∀ (E : List (Nat × Nat)) (A : Nat → List Nat), (∀ v, ∀ x ∈ A v, x < n) → ∀ v, ∀ x ∈ E.foldl (addE n) A v, x < n
  | [], A, h, v, x, hx => h v x hx
  | e :: E, A, h, v, x, hx => by
    refine adjE_rng n hn E (addE n A e) (fun v x hx => ?_) v x hx
    unfold addE at hx
    split at hx
    · rcases List.mem_append.1 hx with hx | hx
      · exact h v x hx
      · rw [List.mem_singleton] at hx; subst hx; exact Nat.mod_lt _ hn
    · exact h v x hx

/-- The rows of the graph, while they grow. -/
structure GS (w : World) (aa base n : Nat) (vs : Nat → Value) (A : Nat → List Nat) : Prop where
  arr : Arr w aa n vs
  row : ∀ i, i < n → w.ownsRow base 3 1 (vs i) (A i).length (ints (A i))
  dj : ∀ i j x, i < n → j < n → i ≠ j → (vs i).ownBlock = some x → (vs j).ownBlock ≠ some x
  aalt : aa < base
  le : base ≤ w.heap.size

theorem GS.keep {w w' : World} {aa base n : Nat} {vs : Nat → Value} {A : Nat → List Nat} (h : GS w aa base n vs A) (hk : Keeps (fun _ => False) w w') : GS w' aa base n vs A :=
  ⟨h.arr.keep hk (fun h => h), fun i hi => row_keep (h.row i hi) hk (fun _ _ h => h), h.dj, h.aalt, Nat.le_trans h.le hk.size⟩

/-- One edge more. -/
theorem GS.push {w w5 : World} {o : Obj} {aa base n : Nat} {vs : Nat → Value} {A : Nat → List Nat} (h : GS w aa base n vs A) {u x g cap : Nat} (hu : u < n)
    (hown : w5.ownsRow base 3 1 (.slice (some ⟨g, 0, none⟩) ((A u).length + 1) cap) ((A u).length + 1) (ints (A u) ++ [.int .i64 (x : Int)])) (hg : (w.alloc o).grownBy w5 (vs u).ownBlock) (hat : (vs u).ownBlock = some g ∨ g = (w.alloc o).heap.size) :
    GS (w5.setCell ⟨aa, u, none⟩ (.slice (some ⟨g, 0, none⟩) ((A u).length + 1) cap)) aa base n (fun j => if j = u then .slice (some ⟨g, 0, none⟩) ((A u).length + 1) cap else vs j) (fun j => if j = u then A j ++ [x] else A j) := by
  have hat' : (vs u).ownBlock = some g ∨ g = w.heap.size + 1 := by simpa using hat
  have hs5 : w.heap.size + 1 ≤ w5.heap.size := by have := hg.size; simp at this; omega
  have K : Keeps (fun j => (vs u).ownBlock = some j) w w5 := ((Keeps.refl _ w).alloc o).grown hg (fun j hj _ => hj)
  have hao : ∀ i j, i < n → (vs i).ownBlock = some j → base ≤ j ∧ j < w.heap.size := fun i j hi hj => (h.row i hi).lt j hj
  have hal := h.aalt
  have hna : ¬ (vs u).ownBlock = some aa := fun e => by have := (hao u aa hu e).1; omega
  refine ⟨(h.arr.keep K hna).set _ hu, fun i hi => ?_, fun i j y hi hj hij hb => ?_, h.aalt, by simp [World.setCell]; have := h.le; omega⟩
  · by_cases e : i = u
    · subst e
      simp only [if_true, List.length_append, List.length_cons, List.length_nil]
      rw [show ints (A i ++ [x]) = ints (A i) ++ [.int .i64 (x : Int)] by simp]
      exact ownsRow_setCell_below hown (by exact h.aalt) _
    · simp only [if_neg e]
      exact ownsRow_setCell_below (row_keep (h.row i hi) K (fun j hj hj2 => h.dj i u j hi hu e hj hj2)) (by exact h.aalt) _
  · by_cases e1 : i = u
    · rw [if_pos e1] at hb
      rw [if_neg (fun e2 => hij (e1.trans e2.symm))]
      simp only [Value.ownBlock, Option.some.injEq] at hb
      subst hb
      intro hjb
      rcases hat' with e | e
      · exact h.dj u j g hu hj (fun e2 => hij (e1.trans e2)) e hjb
      · have := (hao j g hj hjb).2; omega
    · rw [if_neg e1] at hb
      by_cases e2 : j = u
      · rw [if_pos e2]
        simp only [Value.ownBlock, ne_eq, Option.some.injEq]
        rintro rfl
        rcases hat' with e | e
        · exact h.dj i u g hi hu (fun e3 => e1 e3) hb e
        · have := (hao i g hi hb).2; omega
      · rw [if_neg e2]; exact h.dj i j y hi hj hij hb

theorem GS.adj {w : World} {aa base n : Nat} {vs : Nat → Value} {A : Nat → List Nat} (h : GS w aa base n vs A) : IsAdj w w.heap.size aa n A := by
  refine ⟨by have := h.aalt; have := h.le; omega, Nat.le_refl _, fun i hi => ?_⟩
  obtain ⟨a, c, hv, _, _, h3, h4⟩ := row_form (h.row i hi)
  refine ⟨a, c, by rw [(h.arr i hi).1, hv], fun j x hx => ?_⟩
  have hjl : j < (A i).length := (List.getElem?_eq_some_iff.1 hx).1
  cases a with
  | none => have := (h4 rfl).1; omega
  | some ad =>
    obtain ⟨g, rfl, _, hg⟩ := h3 ad rfl
    have hr := h.row i hi
    rw [hv] at hr
    refine ⟨g, rfl, hg, ?_⟩
    rw [hr.cellAt j (by omega)]
    simp [hx]

set_option maxRecDepth 100000 in
set_option maxHeartbeats 1000000 in
theorem graph_any (n : Nat) (a : Option Addr) (m cp : Nat) (E : List (Nat × Nat)) (w : World) (hn : n ≤ 256) (hm : m ≤ 1024) (hE : IsEs w a m E) :
    Calls Yba.prog 13 #[.int .i64 (n : Int), .slice a m cp] w fun e w' =>
      e = .returned (.slice (some ⟨w.heap.size, 0, none⟩) n n) ∧ IsAdj w' w'.heap.size w.heap.size n (adjE n E) ∧ Below w.heap.size w w' ∧ w.heap.size < w'.heap.size := by
  have h39 := make_n Yba.underlying39 Yba.info27 rfl (by omega) n (by omega)
  have HE : Hid (IsEs w a m E) := hE
  have G0 : Hid (GS (w.alloc (.cells (madeCells #[.slice none 0 0] n) 27)) w.heap.size (w.heap.size + 1) n (fun _ => .slice none 0 0) (adjE n [])) :=
    ⟨arr_made _ _ _ _, fun i hi => World.ownsRow_nil _ _ _ _, by simp [Value.ownBlock], by omega, by simp⟩
  have B0 : Hid (Below w.heap.size w (w.alloc (.cells (madeCells #[.slice none 0 0] n) 27))) := (Below.refl _ _).alloc (Nat.le_refl _) _
  clear hE
  by_cases h0 : n = 0
  · subst h0
    have h390 : ∀ W : World, (Instr.makeSlice 39 (.int .i64 0) (.int .i64 0)).run Yba.prog W = .ok (.slice (some ⟨W.heap.size, 0, none⟩) 0 0) (W.alloc (.cells (madeCells #[.slice none 0 0] 0) 27)) := h39
    clear h39
    go_enter Yba.func13, Yba.ntmps13
    go_wp2
    go_ret
    refine ⟨rfl, ⟨by simp, Nat.le_refl _, fun i hi => by omega⟩, B0.out, by simp⟩
  · have hnz : ¬ (n : Int) = 0 := by omega
    have hnzb : ((n : Int) == 0) = false := by simp; omega
    go_enter Yba.func13, Yba.ntmps13
    go_wp2
    obtain ⟨W0, hW0⟩ : ∃ W0, W0 = w.alloc (.cells (madeCells #[.slice none 0 0] n) 27) := ⟨_, rfl⟩
    rw [← hW0] at G0 B0 ⊢
    clear hW0 h39
    obtain ⟨i3, hi1, hi2, hi3, hi4⟩ := info3
    have HI : Hid (Yba.prog.info? 3 = some i3 ∧ i3.zero = some (.int .i64 0) ∧ i3.size = 1 ∧ i3.bytes = 8) := ⟨hi1, hi2, hi3, hi4⟩
    clear hi1 hi2 hi3 hi4
    obtain ⟨aa, haa⟩ : ∃ aa, aa = w.heap.size := ⟨_, rfl⟩
    have HAA : Hid (aa = w.heap.size) := haa
    rw [← haa] at G0 B0 ⊢
    clear haa
    go_loopw [17] (fun i wr => ∃ (ii : Nat) (vs : Nat → Value), i = .int .i64 (ii : Int) ∧ ii ≤ m ∧ Hid (GS wr aa (aa + 1) n vs (adjE n (E.take ii)) ∧ Below aa w wr)) (fun i _ => m - (intOf i).toNat)
    case atStart => exact ⟨0, _, rfl, by omega, G0.out, B0.out⟩
    case round =>
      obtain ⟨ii, vs, rfl, him, HG⟩ := hrel
      by_cases hlt : ii < m
      · obtain ⟨e, he⟩ : ∃ e, E[ii]? = some e := ⟨_, List.getElem?_eq_getElem (by rw [HE.out.1]; exact hlt)⟩
        have HEE : Hid (E[ii]? = some e) := he
        obtain ⟨b, off, ha, e1, e2⟩ := (HE.out.below (by rw [← HAA.out]; exact HG.out.2)).2.2 ii e he
        subst ha
        obtain ⟨q1, q2⟩ := HE.out.2.1 e (List.mem_of_getElem? he)
        obtain ⟨u, hu⟩ : ∃ u, u = e.1 % n := ⟨_, rfl⟩
        obtain ⟨x, hx⟩ : ∃ x, x = e.2 % n := ⟨_, rfl⟩
        have hun : u < n := by rw [hu]; exact Nat.mod_lt _ (by omega)
        have hm1 : (e.1 : Int) % (n : Int) = (u : Int) := by rw [hu]; omega
        have hm2 : (e.2 : Int) % (n : Int) = (x : Int) := by rw [hx]; omega
        have HUX : Hid (u = e.1 % n ∧ x = e.2 % n) := ⟨hu, hx⟩
        clear hu hx he
        obtain ⟨f1, hf1⟩ : ∃ f1, f1 = e.1 := ⟨_, rfl⟩
        obtain ⟨f2, hf2⟩ : ∃ f2, f2 = e.2 := ⟨_, rfl⟩
        rw [← hf1] at e1 q1 hm1
        rw [← hf2] at e2 q2 hm2
        clear hf1 hf2
        have hlt' : (ii : Int) < (m : Int) := by omega
        have HG2 : Hid (∀ o, GS (wr.alloc o) aa (aa + 1) n vs (adjE n (E.take ii)) ∧ Below aa w (wr.alloc o)) := fun o => ⟨HG.out.1.keep ((Keeps.refl _ _).alloc o), HG.out.2.alloc (by have := HG.out.1.le; omega) o⟩
        go_upto_region 9 with fail
        rw [hm1, hm2]
        obtain ⟨W1, hW1⟩ : ∃ W1, W1 = wr.alloc (.cells #[.int .u16 (f1 : Int), .int .u16 (f2 : Int)] 59) := ⟨_, rfl⟩
        rw [← hW1]
        have G1 : Hid (GS W1 aa (aa + 1) n vs (adjE n (E.take ii)) ∧ Below aa w W1) := by rw [hW1]; exact HG2.out _
        clear hW1 e1 e2 hm1 hm2
        obtain ⟨v0, v1⟩ := G1.out.1.arr u hun
        obtain ⟨A, hA⟩ : ∃ A, A = adjE n (E.take ii) := ⟨_, rfl⟩
        rw [← hA] at G1
        obtain ⟨l, hl⟩ : ∃ l, l = (A u).length := ⟨_, rfl⟩
        have HL : Hid (l = (A u).length) := hl
        have hlb : l ≤ 1024 := by
          rw [hl, hA]
          have h3 := adjE_deg n (E.take ii) u
          have h4 : (E.take ii).length ≤ 1024 := by rw [List.length_take, HE.out.1]; omega
          omega
        have HAE : Hid (A = adjE n (E.take ii)) := hA
        have HML : Hid (l + 1 ≤ maxLen) := by unfold Hid maxLen; omega
        have HBA : Hid (∀ o, aa + 1 ≤ (W1.alloc o).heap.size) := by intro o; have := G1.out.1.le; simp; omega
        have HRO : Hid (∀ o, (W1.alloc o).ownsRow (aa + 1) 3 1 (vs u) l (ints (A u))) := by intro o; rw [HL.out]; exact (G1.out.1.row u hun).alloc o
        clear hl hA
        go_wp2_with (at_builtin; refine wpList_append_lies _ rfl _ _ 27 rfl (aa + 1) 3 i3 (.int .i64 0) 1 8 Yba.underlying27 HI.out.1 HI.out.2.1 HI.out.2.2.1 HI.out.2.2.2 rfl (by decide) (vs u) l (ints (A u)) rfl (HRO.out _) ⟨W1.heap.size, 0, none⟩ 1 1 [.int .i64 (x : Int)] rfl rfl (news_one W1 (.int .i64 (x : Int)) 3) (one_int _) (by decide) HML.out (by omega) (HBA.out _) _ rfl ?_)
        intro g5 cap5 w5 hown5 hgrow5 hat5 hlt5
        have hb5 : Hid (Arr w5 aa n vs) := by
          have h3 := G1.out.1.arr.alloc (.cells #[.int .i64 (x : Int)] 3)
          refine h3.keep (⟨hgrow5.os, hgrow5.tape, hgrow5.output, hgrow5.size, fun j hj hn => hgrow5.block j hj (fun e => hn e.symm)⟩ : Keeps (fun j => (vs u).ownBlock = some j) _ w5) (fun e => ?_)
          have := ((G1.out.1.row u hun).lt aa e).1; omega
        obtain ⟨z0, z1⟩ := hb5.out u hun
        have G5 : Hid (GS (w5.setCell ⟨aa, u, none⟩ (.slice (some ⟨g5, 0, none⟩) (l + 1) cap5)) aa (aa + 1) n (fun j => if j = u then .slice (some ⟨g5, 0, none⟩) (l + 1) cap5 else vs j) (adjE n (E.take (ii + 1))) ∧ Below aa w (w5.setCell ⟨aa, u, none⟩ (.slice (some ⟨g5, 0, none⟩) (l + 1) cap5))) := by
          rw [HL.out] at hown5 ⊢
          have h3 := G1.out.1.push hun hown5 hgrow5 (by simpa using hat5)
          refine ⟨?_, ?_⟩
          · rw [List.take_add_one, HEE.out]
            simp only [Option.toList_some]
            rw [adjE_snoc, ← HAE.out]
            unfold addE
            rw [← HUX.out.1, ← HUX.out.2]
            exact h3
          · refine ((G1.out.2.alloc (by have := G1.out.1.le; omega) _).grown hgrow5 (by have := G1.out.1.le; simp; omega) (fun j hj => ?_)).setCell (Nat.le_refl _) _
            have := ((G1.out.1.row u hun).lt j hj).1; omega
        clear hown5 hgrow5 hat5 hlt5 hb5
        go_wp2
        go_roundw
        case rel => exact ⟨ii + 1, _, by go_num, by omega, G5.out⟩
        case measure => simp [intOf]; omega
      · obtain rfl : ii = m := by omega
        go_wp2
        go_ret
        refine ⟨by rw [HAA.out]; rfl, ?_, by rw [← HAA.out]; exact HG.out.2, by rw [← HAA.out]; have := HG.out.1.le; omega⟩
        have h3 := HG.out.1.adj
        rw [List.take_of_length_le (by rw [HE.out.1]; exact Nat.le_refl _)] at h3
        rw [← HAA.out]; exact h3
end Go.Proofs.Ybulkblzg
