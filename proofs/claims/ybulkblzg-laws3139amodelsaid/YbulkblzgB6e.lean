import Derived.Test.YbulkblzgB6
import Derived.Test.YbulkblzgD1
namespace Go.Proofs.Ybulkblzg
open Go.RowKit
set_option linter.unusedVariables false
set_option linter.unusedSimpArgs false

theorem TC.first {c : Ct} {N A : Nat} {O : Nat → Nat} {w0 w : World} {fs : List Nat} {q : Nat} {lb : Nat → Nat} {Lv Nx : List (Nat × Nat)} {v0 v1 v2 v3 : Value} {nd : Nat → Nat} {br p : Nat} (h : TC c N A O w0 w fs q lb Lv Nx v0 v1 v2 v3 nd br) {W w1 : World} (hW : Keeps (fun _ => False) w W) {g cap : Nat} (hp : p = fs.length)
    (hown : w1.ownsRow A 21 1 (.slice (some ⟨g, 0, none⟩) (p + 1) cap) (p + 1) (i32s fs ++ [.int .i32 (q : Int)])) (hg : W.grownBy w1 v0.ownBlock) (hat : v0.ownBlock = some g ∨ g = W.heap.size) :
    TC c N A O w0 (w1.setCell ⟨A + 1, 0, none⟩ (.slice (some ⟨g, 0, none⟩) (p + 1) cap)) (fs ++ [q]) q lb Lv Nx (.slice (some ⟨g, 0, none⟩) (p + 1) cap) v1 v2 v3 nd br := by
  subst hp
  refine TB.pushF (i := 0) h (by omega) hW hg hown hat ?_ ?_
  · intro j hj
    match j, hj with
    | 1, _ => rfl
    | 2, _ => rfl
    | 3, _ => rfl
    | _ + 4, _ => rfl
  · show RW.mk 21 1 _ _ _ = _
    rw [i32s_snoc, List.length_append]
    rfl

theorem TM.set2 {w : World} {bt g0 c0 g1 c1 N : Nat} {F lb : Nat → Nat} (h : TM w bt g0 c0 g1 c1 N F lb) (h0 : g0 ≠ bt) (h1 : g1 ≠ bt) (v : Value) : TM (w.setCell ⟨bt, 2, none⟩ v) bt g0 c0 g1 c1 N F lb := by
  have hs : ∀ (i : Nat) (u : Value), i ≠ 2 → w.cell? ⟨bt, i, none⟩ = some u → (w.setCell ⟨bt, 2, none⟩ v).cell? ⟨bt, i, none⟩ = some u := fun i u hi hu => by
    rw [World.cell?_setCell_other _ _ _ _ (by intro hh; injection hh; omega)]; exact hu
  have hb : ∀ g, g ≠ bt → (w.setCell ⟨bt, 2, none⟩ v).heap[g]? = w.heap[g]? := fun g hg => Below.heap_setCell _ _ _ _ (by simpa using hg)
  exact ⟨hs 0 _ (by omega) h.f, fun i hi => by rw [World.cell?_of_block (w := w) (hb g0 h0)]; exact h.fc i hi, hs 1 _ (by omega) h.l, fun i hi => by rw [World.cell?_of_block (w := w) (hb g1 h1)]; exact h.lc i hi⟩

/-- The trie as it lies when all nodes are made. -/
theorem tc_done {c : Ct} {N A : Nat} {O : Nat → Nat} {w0 w : World} {fs : List Nat} {q : Nat} {lb : Nat → Nat} {Lv Nx : List (Nat × Nat)} {v1 v2 v3 : Value} {nd : Nat → Nat} {br g cap : Nat} (h : TC c N A O w0 w (fs ++ [q]) q lb Lv Nx (.slice (some ⟨g, 0, none⟩) (q + 1) cap) v1 v2 v3 nd br) (hl : fs.length = q) (hq : 1 ≤ q) :
    ∃ g1 c1, v1 = .slice (some ⟨g1, 0, none⟩) q c1 ∧ TM w (A + 1) g cap g1 c1 q (fun i => (fs ++ [q]).getD i 0) lb ∧ A ≤ g ∧ A ≤ g1 ∧ g ≠ A + 1 ∧ g1 ≠ A + 1 ∧ g < w.heap.size ∧ g1 < w.heap.size := by
  have h0 : w.ownsRow A 21 1 (.slice (some ⟨g, 0, none⟩) (q + 1) cap) (fs ++ [q]).length (i32s (fs ++ [q])) := h.rw 0 (by omega)
  have h1 : w.ownsRow A 5 1 v1 q (lbs lb q) := h.rw 1 (by omega)
  have hlen : (fs ++ [q]).length = q + 1 := by simp [hl]
  rw [hlen] at h0
  obtain ⟨g1, c1, e1, x1, x2⟩ := h1.form hq
  subst e1
  have y0 := h0.lt g rfl
  have z0 := h.off 0 g (by omega) rfl
  have z1 := h.off 1 g1 (by omega) rfl
  refine ⟨g1, c1, rfl, ⟨h.t0, fun i hi => ?_, h.t1, fun i hi => ?_⟩, y0.1, x1, z0.1, z1.1, y0.2, x2⟩
  · rw [h0.cellAt i (by omega)]
    have hil : i < (fs ++ [q]).length := by omega
    rw [i32s, List.getElem?_map, List.getElem?_eq_getElem hil, List.getD_eq_getElem?_getD, List.getElem?_eq_getElem hil]
    rfl
  · rw [h1.cellAt i (by omega)]
    simp [lbs, hi]

/-- What is left to be done: the fail links. -/
structure FL (c : Ct) (N A g cap g1 c1 gq q : Nat) (F lb : Nat → Nat) (nd : Nat → Nat) (w0 w : World) : Prop where
  tm : TM w (A + 1) g cap g1 c1 q F lb
  s : w.cell? ⟨A + 1, 2, none⟩ = some (.slice (some ⟨gq, 0, none⟩) q q)
  na : Arr w (A + 2) c.k (fun i => .int .i32 (nd i : Int))
  bl : Below N w0 w
  ne : gq ≠ A + 1 ∧ gq ≠ A + 2 ∧ g ≠ gq ∧ g1 ≠ gq
  le : A ≤ g ∧ A ≤ g1 ∧ A ≤ gq ∧ N + 5 ≤ A

theorem fl_made {c : Ct} {N A : Nat} {O : Nat → Nat} {w0 w : World} {fs : List Nat} {q : Nat} {lb : Nat → Nat} {Lv Nx : List (Nat × Nat)} {v2 v3 : Value} {nd : Nat → Nat} {br g cap g1 c1 : Nat} (h : TC c N A O w0 w (fs ++ [q]) q lb Lv Nx (.slice (some ⟨g, 0, none⟩) (q + 1) cap) (.slice (some ⟨g1, 0, none⟩) q c1) v2 v3 nd br) (hl : fs.length = q) (hq : 1 ≤ q) :
    FL c N A g cap g1 c1 w.heap.size q (fun i => (fs ++ [q]).getD i 0) lb nd w0 ((w.alloc (.cells (madeCells #[.int .i32 0] q) 21)).setCell ⟨A + 1, 2, none⟩ (.slice (some ⟨w.heap.size, 0, none⟩) q q)) ∧
    Arr ((w.alloc (.cells (madeCells #[.int .i32 0] q) 21)).setCell ⟨A + 1, 2, none⟩ (.slice (some ⟨w.heap.size, 0, none⟩) q q)) w.heap.size q (fun _ => .int .i32 0) := by
  obtain ⟨g1', c1', e1, x1, x2, x3, x4, x5, x6, x7⟩ := tc_done h hl hq
  simp only [Value.slice.injEq, Option.some.injEq, Addr.mk.injEq, true_and, and_true] at e1
  obtain ⟨rfl, rfl⟩ := e1
  have hsz := h.sz
  have hNA := h.NA
  have hk := keeps_alloc w (.cells (madeCells #[.int .i32 0] q) 21)
  have ar := arr_made w (.int .i32 0) q 21
  have h' : TC c N A O w0 (w.alloc (.cells (madeCells #[.int .i32 0] q) 21)) (fs ++ [q]) q lb Lv Nx (.slice (some ⟨g, 0, none⟩) (q + 1) cap) (.slice (some ⟨g1, 0, none⟩) q c1) v2 v3 nd br := TB.keep h hk
  have hs : (w.alloc (.cells (madeCells #[.int .i32 0] q) 21)).heap.size = w.heap.size + 1 := by simp
  generalize w.alloc (.cells (madeCells #[.int .i32 0] q) 21) = V at *
  refine ⟨⟨(x1.keep hk hq id id id).set2 x4 x5 _, World.cell?_setCell_same _ _ _ h'.t2, h'.na.other (by simp) _, h'.bl.setCell (by simp; omega) _, ⟨by omega, by omega, by omega, by omega⟩, ⟨x2, x3, by omega, hNA⟩⟩, ar.other (by simp; omega) _⟩

theorem FL.keep {c : Ct} {N A g cap g1 c1 gq q : Nat} {F lb : Nat → Nat} {nd : Nat → Nat} {w0 w w' : World} (h : FL c N A g cap g1 c1 gq q F lb nd w0 w) (hq : 1 ≤ q) (hk : Keeps (fun j => j = gq) w w') : FL c N A g cap g1 c1 gq q F lb nd w0 w' := by
  have hn := h.ne
  have hl := h.le
  have b1 := hk.block (A + 1) (World.block_lt_of_cell? w ⟨A + 1, 2, none⟩ h.s) (by omega)
  exact ⟨h.tm.keep hk hq (by omega) (by omega) (by omega), by rw [World.cell?_of_block (w := w) b1]; exact h.s, h.na.keep hk (by omega), h.bl.trans ⟨hk.os, hk.tape, hk.output, hk.size, fun j hj => by
    by_cases e : j < w.heap.size
    · exact hk.block j e (by omega)
    · have := h.bl.size
      have e2 : w.heap.size ≤ A + 1 := by omega
      have e3 := World.block_lt_of_cell? w ⟨A + 1, 2, none⟩ h.s
      simp only at e3
      omega⟩, hn, hl⟩

theorem IsF.lt {q : Nat} {F lb : Nat → Nat} {str : Nat → List Nat} (hT : TrieOK q F lb str) {f : Nat → Nat} {i ch : Nat} (hi : 1 ≤ i) (hiq : i < q) (hch : F i ≤ ch) (hf : ∀ x, 1 ≤ x → x < ch → IsF q str x (f x)) :
    IsF q str i (f i) ∧ ∀ x, 1 ≤ x → x < q → (str x).length ≤ (str (f i)).length → IsF q str x (f x) := by
  have h1 := hT.up i hiq
  have h2 := hf i hi (by omega)
  refine ⟨h2, fun x h3 h4 h5 => hf x h3 ?_⟩
  have h6 := h2.2.2.1
  have := hT.lt_of_len h4 (j := i) (by omega)
  omega
end Go.Proofs.Ybulkblzg
