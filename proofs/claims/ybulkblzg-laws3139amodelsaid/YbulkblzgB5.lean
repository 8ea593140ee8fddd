import Derived.Test.YbulkblzgB4
import Derived.Test.YbulkblzgC4
namespace Go.Proofs.Ybulkblzg
open Go.RowKit
set_option linter.unusedVariables false
set_option linter.unusedSimpArgs false

/-- What the pieces and the batch hold, and where. -/
structure Ct where
  gp : Nat
  np : Nat
  pc : Nat
  gb : Nat
  k : Nat
  bc : Nat
  Ps : Nat → ByteArray
  Bt : Nat → Nat
def Ct.str (c : Ct) (O : Nat → Nat) (j : Nat) : List Nat := bts (c.Ps (c.Bt (O j)))

/-- What piece reads, and piece itself. -/
structure PQ (c : Ct) (N : Nat) (O : Nat → Nat) (w : World) : Prop where
  pm : PM w N (N + 1) (N + 3) c.gp c.np c.pc c.gb c.k c.bc (N + 2) c.Ps c.Bt O
  q : w.cell? ⟨N + 4, 0, none⟩ = some (.func (.func 26) #[] #[.pointer (some ⟨N, 0, none⟩), .pointer (some ⟨N + 1, 0, none⟩), .pointer (some ⟨N + 3, 0, none⟩)])
  lo : 0 < c.k → c.gp < N ∧ c.gb < N

theorem PQ.below {c : Ct} {N A : Nat} {O : Nat → Nat} {w w' : World} (h : PQ c N O w) (hA : N + 5 ≤ A) (hb : ∀ b, b < A → w'.heap[b]? = w.heap[b]?) : PQ c N O w' := by
  have hc : ∀ (b i : Nat) (v : Value), b < A → w.cell? ⟨b, i, none⟩ = some v → w'.cell? ⟨b, i, none⟩ = some v := by
    intro b i v h1 h2
    rw [World.cell?_of_block (w := w) (hb b h1)]; exact h2
  refine ⟨⟨fun h0 => hc _ _ _ (by omega) (h.pm.p h0), fun h0 i hi => hc _ _ _ (by have := h.lo h0; omega) (h.pm.pc h0 i hi), fun h0 => hc _ _ _ (by omega) (h.pm.b h0),
    fun i hi => hc _ _ _ (by have := h.lo (by omega); omega) (h.pm.bc i hi), hc _ _ _ (by omega) h.pm.o, fun i hi => hc _ _ _ (by omega) (h.pm.oc i hi), h.pm.bl, h.pm.ol⟩, hc _ _ _ (by omega) h.q, h.lo⟩

theorem PQ.drewN {c : Ct} {N : Nat} {O : Nat → Nat} {w : World} (h : PQ c N O w) (q : Nat) : PQ c N O (w.drewN q) := ⟨h.pm.drewN q, h.q, h.lo⟩

theorem PQ.piece {c : Ct} {N : Nat} {O : Nat → Nat} {w : World} (h : PQ c N O w) {n : Nat} (hn : n < c.k) :
    Calls Yba.prog 26 #[.int .i64 (n : Int), .pointer (some ⟨N, 0, none⟩), .pointer (some ⟨N + 1, 0, none⟩), .pointer (some ⟨N + 3, 0, none⟩)] w fun e w' => e = .returned (.string (c.Ps (c.Bt (O n)))) ∧ ∃ q, w' = w.drewN q :=
  piece_any _ _ _ _ _ _ _ _ _ _ _ _ _ w h.pm n hn

structure RW where
  e : TypeId
  sz : Nat
  k : Nat
  xs : List Value
  v : Value

/-- The memory of newPieceTrie while the levels are made. -/
structure TB (c : Ct) (N A : Nat) (O : Nat → Nat) (w0 w : World) (R : Nat → RW) (nd : Nat → Nat) (br : Nat) : Prop where
  pq : PQ c N O w
  t0 : w.cell? ⟨A + 1, 0, none⟩ = some (R 0).v
  t1 : w.cell? ⟨A + 1, 1, none⟩ = some (R 1).v
  t2 : w.cell? ⟨A + 1, 2, none⟩ = some (.slice none 0 0)
  tz : ∀ i, w.frozen? ⟨A + 1, i, none⟩ = false
  na : Arr w (A + 2) c.k (fun i => .int .i32 (nd i : Int))
  rw : ∀ i, i < 4 → w.ownsRow A (R i).e (R i).sz (R i).v (R i).k (R i).xs
  ap : ∀ i j b, i < 4 → j < 4 → i ≠ j → (R i).v.ownBlock = some b → (R j).v.ownBlock ≠ some b
  off : ∀ i b, i < 4 → (R i).v.ownBlock = some b → b ≠ A + 1 ∧ b ≠ A + 2 ∧ b ≠ br
  brl : A + 1 ≤ br ∧ br < w.heap.size ∧ br ≠ A + 2
  bl : Below N w0 w
  NA : N + 5 ≤ A
  sz : A + 4 ≤ w.heap.size

section
variable {c : Ct} {N A : Nat} {O : Nat → Nat} {w0 w w' : World} {R R' : Nat → RW} {nd : Nat → Nat} {br : Nat}

theorem TB.turn (h : TB c N A O w0 w R nd br) {i : Nat} (hi : i < 4) (hR : ∀ j, j ≠ i → R' j = R j) (hk : Keeps (fun j => j = A + 1 ∨ (R i).v.ownBlock = some j) w w')
    (hrow : w'.ownsRow A (R' i).e (R' i).sz (R' i).v (R' i).k (R' i).xs) (hl : Later w.heap.size (R i).v.ownBlock (R' i).v.ownBlock)
    (t0 : w'.cell? ⟨A + 1, 0, none⟩ = some (R' 0).v) (t1 : w'.cell? ⟨A + 1, 1, none⟩ = some (R' 1).v) (t2 : w'.cell? ⟨A + 1, 2, none⟩ = some (.slice none 0 0)) (tz : ∀ i, w'.frozen? ⟨A + 1, i, none⟩ = false) :
    TB c N A O w0 w' R' nd br := by
  have hsz := h.sz
  have hNA := h.NA
  have hb := h.brl
  have hlow : ∀ b, b < A → ¬ (b = A + 1 ∨ (R i).v.ownBlock = some b) := by
    rintro b h1 (h2 | h2)
    · omega
    · have := ((h.rw i hi).lt b h2).1; omega
  have hnew : ∀ b, (R' i).v.ownBlock = some b → (R i).v.ownBlock = some b ∨ w.heap.size ≤ b := hl
  refine ⟨h.pq.below hNA (fun b hb => hk.block b (by omega) (hlow b hb)), t0, t1, t2, tz, h.na.keep hk ?_, fun j hj => ?_, fun a b x ha hb hab he => ?_, fun j b hj he => ?_, ⟨hb.1, by have := hk.size; omega, hb.2.2⟩, h.bl.trans (hk.below (by omega) ?_), hNA, by have := hk.size; omega⟩
  · rintro (h2 | h2)
    · omega
    · exact (h.off i _ hi h2).2.1 rfl
  · by_cases e : j = i
    · subst e; exact hrow
    · rw [hR j e]
      refine row_keep (h.rw j hj) hk (fun b hb => ?_)
      rintro (h2 | h2)
      · exact (h.off j b hj hb).1 h2
      · exact h.ap j i b hj hi e hb h2
  · by_cases e1 : a = i
    · subst e1
      rw [hR b (fun e => hab e.symm)]
      rcases hnew x he with h1 | h1
      · exact h.ap a b x ha hb hab h1
      · intro h2
        have := ((h.rw b hb).lt x h2).2
        omega
    · rw [hR a e1] at he
      by_cases e2 : b = i
      · subst e2
        intro h2
        rcases hnew x h2 with h1 | h1
        · exact h.ap a b x ha hb hab he h1
        · have := ((h.rw a ha).lt x he).2
          omega
      · rw [hR b e2]
        exact h.ap a b x ha hb hab he
  · by_cases e : j = i
    · subst e
      rcases hnew b he with h1 | h1
      · exact h.off j b hj h1
      · omega
    · rw [hR j e] at he
      exact h.off j b hj he
  · rintro j (h2 | h2)
    · omega
    · have := ((h.rw i hi).lt j h2).1; omega

theorem TB.keep (h : TB c N A O w0 w R nd br) (hk : Keeps (fun _ => False) w w') : TB c N A O w0 w' R nd br := by
  have hs := h.sz
  have hb : w'.heap[A + 1]? = w.heap[A + 1]? := hk.block _ (by omega) (fun h => h)
  have hk' : Keeps (fun j => j = A + 1 ∨ (R 0).v.ownBlock = some j) w w' := hk.mono (fun _ _ h => h.elim)
  refine h.turn (i := 0) (by omega) (fun _ _ => rfl) hk' (row_keep (h.rw 0 (by omega)) hk (fun _ _ h => h)) (Later.refl _ _) ?_ ?_ ?_ (fun i => ?_)
  · rw [World.cell?_of_block (w := w) hb]; exact h.t0
  · rw [World.cell?_of_block (w := w) hb]; exact h.t1
  · rw [World.cell?_of_block (w := w) hb]; exact h.t2
  · rw [World.frozen?_of_block (w := w) hb]; exact h.tz i

/-- Behind an append, ahead of the store: the struct is as it was. -/
theorem TB.mid (h : TB c N A O w0 w R nd br) {i : Nat} (hi : i < 4) {W w1 : World} (hW : Keeps (fun _ => False) w W) (hg : W.grownBy w1 (R i).v.ownBlock) : w1.heap[A + 1]? = w.heap[A + 1]? := by
  have hs := h.sz
  have := hW.size
  rw [hg.block (A + 1) (by omega) (fun e => (h.off i _ hi e.symm).1 rfl), hW.block (A + 1) (by omega) (fun h => h)]

theorem TB.midc (h : TB c N A O w0 w R nd br) {i : Nat} (hi : i < 4) {W w1 : World} (hW : Keeps (fun _ => False) w W) (hg : W.grownBy w1 (R i).v.ownBlock) :
    w1.cell? ⟨A + 1, 0, none⟩ = some (R 0).v ∧ w1.cell? ⟨A + 1, 1, none⟩ = some (R 1).v ∧ w1.cell? ⟨A + 1, 2, none⟩ = some (.slice none 0 0) ∧ ∀ i, w1.frozen? ⟨A + 1, i, none⟩ = false := by
  have hb := h.mid hi hW hg
  refine ⟨?_, ?_, ?_, fun i => ?_⟩
  · rw [World.cell?_of_block (w := w) hb]; exact h.t0
  · rw [World.cell?_of_block (w := w) hb]; exact h.t1
  · rw [World.cell?_of_block (w := w) hb]; exact h.t2
  · rw [World.frozen?_of_block (w := w) hb]; exact h.tz i

theorem TB.pushS (h : TB c N A O w0 w R nd br) {i : Nat} (hi : i < 4) (hi1 : 2 ≤ i) {W w1 : World} (hW : Keeps (fun _ => False) w W) (hg : W.grownBy w1 (R i).v.ownBlock) {g cap m : Nat} {xs : List Value}
    (hown : w1.ownsRow A (R i).e (R i).sz (.slice (some ⟨g, 0, none⟩) m cap) m xs) (hat : (R i).v.ownBlock = some g ∨ g = W.heap.size)
    (hR : ∀ j, j ≠ i → R' j = R j) (hRi : R' i = ⟨(R i).e, (R i).sz, m, xs, .slice (some ⟨g, 0, none⟩) m cap⟩) : TB c N A O w0 w1 R' nd br := by
  obtain ⟨m0, m1, m2, m3⟩ := h.midc hi hW hg
  have hk : Keeps (fun j => j = A + 1 ∨ (R i).v.ownBlock = some j) w w1 := (hW.mono (S' := fun j => j = A + 1 ∨ (R i).v.ownBlock = some j) (fun _ _ h => h.elim)).grown hg (fun k hk _ => .inr hk)
  refine h.turn hi hR hk ?_ ?_ ?_ ?_ m2 m3
  · rw [hRi]; exact hown
  · rw [hRi]; exact later_of (o := (R i).v.ownBlock) hat hW.size
  · rw [hR 0 (by omega)]; exact m0
  · rw [hR 1 (by omega)]; exact m1

theorem TB.pushF (h : TB c N A O w0 w R nd br) {i : Nat} (hi : i < 2) {W w1 : World} (hW : Keeps (fun _ => False) w W) (hg : W.grownBy w1 (R i).v.ownBlock) {g cap m : Nat} {xs : List Value}
    (hown : w1.ownsRow A (R i).e (R i).sz (.slice (some ⟨g, 0, none⟩) m cap) m xs) (hat : (R i).v.ownBlock = some g ∨ g = W.heap.size)
    (hR : ∀ j, j ≠ i → R' j = R j) (hRi : R' i = ⟨(R i).e, (R i).sz, m, xs, .slice (some ⟨g, 0, none⟩) m cap⟩) : TB c N A O w0 (w1.setCell ⟨A + 1, i, none⟩ (.slice (some ⟨g, 0, none⟩) m cap)) R' nd br := by
  obtain ⟨m0, m1, m2, m3⟩ := h.midc (by omega) hW hg
  have hs := h.sz
  have hws := hW.size
  have hgne : g ≠ A + 1 := by
    rcases hat with e | e
    · exact (h.off i g (by omega) e).1
    · omega
  have hk : Keeps (fun j => j = A + 1 ∨ (R i).v.ownBlock = some j) w (w1.setCell ⟨A + 1, i, none⟩ (.slice (some ⟨g, 0, none⟩) m cap)) :=
    ((hW.mono (S' := fun j => j = A + 1 ∨ (R i).v.ownBlock = some j) (fun _ _ h => h.elim)).grown hg (fun k hk _ => .inr hk)).setCell (fun _ => .inl rfl) _
  have hoth : ∀ (j : Nat) (v : Value), j ≠ i → w1.cell? ⟨A + 1, j, none⟩ = some v → (w1.setCell ⟨A + 1, i, none⟩ (.slice (some ⟨g, 0, none⟩) m cap)).cell? ⟨A + 1, j, none⟩ = some v := by
    intro j v hj hv
    rw [World.cell?_setCell_other _ _ _ _ (by intro hh; injection hh; omega)]; exact hv
  refine h.turn (by omega) hR hk ?_ ?_ ?_ ?_ (hoth 2 _ (by omega) m2) (fun i => by rw [World.frozen?_setCell]; exact m3 i)
  · rw [hRi]; exact ownsRow_setCell_other hown (by simp [Value.ownBlock]; exact hgne) _
  · rw [hRi]; exact later_of (o := (R i).v.ownBlock) hat hW.size
  · by_cases e : i = 0
    · subst e; rw [hRi]; exact World.cell?_setCell_same _ _ _ m0
    · rw [hR 0 (fun h => e h.symm)]; exact hoth 0 _ (fun h => e h.symm) m0
  · by_cases e : i = 1
    · subst e; rw [hRi]; exact World.cell?_setCell_same _ _ _ m1
    · rw [hR 1 (fun h => e h.symm)]; exact hoth 1 _ (fun h => e h.symm) m1

theorem TB.node (h : TB c N A O w0 w R nd br) {i : Nat} (hi : i < c.k) (x : Nat) : TB c N A O w0 (w.setCell ⟨A + 2, i, none⟩ (.int .i32 (x : Int))) R (setF nd i x) br := by
  have hNA := h.NA
  have hb1 : (w.setCell ⟨A + 2, i, none⟩ (.int .i32 (x : Int))).heap[A + 1]? = w.heap[A + 1]? := Below.heap_setCell _ _ _ _ (by simp)
  refine ⟨h.pq.below hNA (fun b hb => Below.heap_setCell _ _ _ _ (by simp; omega)), ?_, ?_, ?_, fun i => ?_, (h.na.set (.int .i32 (x : Int)) hi).congr (fun j _ => ?_), fun j hj => ownsRow_setCell_other (h.rw j hj) (fun e => (h.off j _ hj e).2.1 rfl) _, h.ap, h.off,
    ⟨h.brl.1, by simpa [World.setCell] using h.brl.2.1, h.brl.2.2⟩, h.bl.setCell (by simp; omega) _, hNA, by simpa [World.setCell] using h.sz⟩
  · rw [World.cell?_of_block (w := w) hb1]; exact h.t0
  · rw [World.cell?_of_block (w := w) hb1]; exact h.t1
  · rw [World.cell?_of_block (w := w) hb1]; exact h.t2
  · rw [World.frozen?_of_block (w := w) hb1]; exact h.tz i
  · by_cases e : j = i
    · subst e; simp [setF]
    · simp [setF, e]

theorem TB.newbr (h : TB c N A O w0 w R nd br) (hk : Keeps (fun _ => False) w w') (hw : w.heap.size < w'.heap.size) : TB c N A O w0 w' R nd w.heap.size := by
  have h' := h.keep hk
  have hs := h.sz
  exact ⟨h'.pq, h'.t0, h'.t1, h'.t2, h'.tz, h'.na, h'.rw, h'.ap, fun i b hi hb => ⟨(h'.off i b hi hb).1, (h'.off i b hi hb).2.1, by have := ((h.rw i hi).lt b hb).2; omega⟩, ⟨by omega, hw, by omega⟩, h'.bl, h'.NA, h'.sz⟩
theorem TB.nobr (h : TB c N A O w0 w R nd br) : TB c N A O w0 w R nd (A + 1) := by
  have hs := h.sz
  exact ⟨h.pq, h.t0, h.t1, h.t2, h.tz, h.na, h.rw, h.ap, fun i b hi hb => ⟨(h.off i b hi hb).1, (h.off i b hi hb).2.1, (h.off i b hi hb).1⟩, ⟨Nat.le_refl _, by omega, by omega⟩, h.bl, h.NA, h.sz⟩

theorem TB.shift (h : TB c N A O w0 w R nd br) (h0 : R' 0 = R 0) (h1 : R' 1 = R 1) (h2 : R' 2 = R 3) (h3 : R' 3 = ⟨66, 2, 0, [], .slice none 0 0⟩) : TB c N A O w0 w R' nd br := by
  have hm : ∀ i, i < 4 → (∃ j, j < 4 ∧ R' i = R j ∧ (i = 0 ∧ j = 0 ∨ i = 1 ∧ j = 1 ∨ i = 2 ∧ j = 3)) ∨ (i = 3 ∧ R' i = ⟨66, 2, 0, [], .slice none 0 0⟩) := by
    intro i hi
    match i, hi with
    | 0, _ => exact .inl ⟨0, by omega, h0, by omega⟩
    | 1, _ => exact .inl ⟨1, by omega, h1, by omega⟩
    | 2, _ => exact .inl ⟨3, by omega, h2, by omega⟩
    | 3, _ => exact .inr ⟨rfl, h3⟩
  refine ⟨h.pq, by rw [h0]; exact h.t0, by rw [h1]; exact h.t1, h.t2, h.tz, h.na, fun i hi => ?_, fun a b x ha hb hab he => ?_, fun i b hi he => ?_, h.brl, h.bl, h.NA, h.sz⟩
  · rcases hm i hi with ⟨j, hj, e, -⟩ | ⟨-, e⟩
    · rw [e]; exact h.rw j hj
    · rw [e]; exact ⟨rfl, .inl ⟨rfl, rfl⟩⟩
  · rcases hm a ha with ⟨j, hj, e, hc⟩ | ⟨-, e⟩
    · rw [e] at he
      rcases hm b hb with ⟨j', hj', e', hc'⟩ | ⟨-, e'⟩
      · rw [e']; exact h.ap j j' x hj hj' (by omega) he
      · rw [e']; simp [Value.ownBlock]
    · rw [e] at he; simp [Value.ownBlock] at he
  · rcases hm i hi with ⟨j, hj, e, -⟩ | ⟨-, e⟩
    · rw [e] at he; exact h.off j b hj he
    · rw [e] at he; simp [Value.ownBlock] at he
end

def i32s (l : List Nat) : List Value := l.map (fun (x : Nat) => Value.int .i32 (x : Int))
def lbs (lb : Nat → Nat) (q : Nat) : List Value := (List.range q).map (fun i => Value.int .u8 (lb i : Int))
def runs (l : List (Nat × Nat)) : List Value := l.flatMap (fun p => [Value.int .i64 (p.1 : Int), Value.int .i64 (p.2 : Int)])
theorem i32s_snoc (l : List Nat) (x : Nat) : i32s (l ++ [x]) = i32s l ++ [.int .i32 (x : Int)] := by simp [i32s]
theorem lbs_snoc (lb : Nat → Nat) (q b : Nat) : lbs (setF lb q b) (q + 1) = lbs lb q ++ [.int .u8 (b : Int)] := by
  unfold lbs
  rw [List.range_succ, List.map_append]
  congr 1
  · apply List.map_congr_left
    intro i hi
    rw [setF_other _ _ _ _ (by have := List.mem_range.1 hi; omega)]
  · simp [setF]
theorem runs_snoc (l : List (Nat × Nat)) (a b : Nat) : runs (l ++ [(a, b)]) = runs l ++ [.int .i64 (a : Int), .int .i64 (b : Int)] := by simp [runs]
theorem runs_length (l : List (Nat × Nat)) : (runs l).length = l.length * 2 := by
  induction l with
  | nil => rfl
  | cons a l ih => simp [runs] at ih ⊢; omega
theorem runs_get (l : List (Nat × Nat)) (i f t : Nat) (h : l[i]? = some (f, t)) : (runs l)[i * 2]? = some (.int .i64 (f : Int)) ∧ (runs l)[i * 2 + 1]? = some (.int .i64 (t : Int)) := by
  induction l generalizing i with
  | nil => simp at h
  | cons a l ih =>
    cases i with
    | zero => simp at h; subst h; exact ⟨rfl, rfl⟩
    | succ i =>
      simp at h
      have := ih i h
      rw [show (i + 1) * 2 = i * 2 + 2 by omega]
      exact ⟨this.1, this.2⟩

def rws (r0 r1 r2 r3 : RW) : Nat → RW
  | 0 => r0
  | 1 => r1
  | 2 => r2
  | 3 => r3
  | _ + 4 => ⟨0, 0, 0, [], .slice none 0 0⟩

/-- The memory with what it holds. -/
def TC (c : Ct) (N A : Nat) (O : Nat → Nat) (w0 w : World) (fs : List Nat) (q : Nat) (lb : Nat → Nat) (Lv Nx : List (Nat × Nat)) (v0 v1 v2 v3 : Value) (nd : Nat → Nat) (br : Nat) : Prop :=
  TB c N A O w0 w (rws ⟨21, 1, fs.length, i32s fs, v0⟩ ⟨5, 1, q, lbs lb q, v1⟩ ⟨66, 2, Lv.length, runs Lv, v2⟩ ⟨66, 2, Nx.length, runs Nx, v3⟩) nd br

section
variable {k : Nat} {P : Nat → List Nat} {d bs : Nat} {Lv Nx : List (Nat × Nat)} {p q : Nat} {fs : List Nat} {lb : Nat → Nat} {str : Nat → List Nat} {no no' : Nat → Nat} {pend : Nat → Prop}
theorem core_own' {r f t x : Nat} (h : Core k P d bs Lv Nx (bs + r + 1) q fs lb str no (pendX Lv r x t)) (hr : Lv[r]? = some (f, t)) (hf : f ≤ x) (hx : x < t) (hl : (P x).length = d)
    (h1 : no' x = bs + r) (h2 : ∀ j, j < k → no' j = no j ∨ (no' j = bs + r ∧ P j = P x)) : Core k P d bs Lv Nx (bs + r + 1) q fs lb str no' (pendX Lv r (x + 1) t) := by
  have h3 := core_own h hr hf hx hl
  have hxk : x < k := by have := (h.lv r f t hr).2.1; omega
  have hxs : str (bs + r) = P x ∧ bs + r < q := by
    obtain ⟨y, hy⟩ := (h.lv r f t hr).2.2.2 x hf hx
    have hd := (h.lv r f t hr).2.2.1
    have hy0 : y = [] := by
      have := congrArg List.length hy
      simp at this
      exact List.eq_nil_of_length_eq_zero (by omega)
    have hrl : r < Lv.length := (List.getElem?_eq_some_iff.1 hr).1
    exact ⟨by rw [hy, hy0]; simp, by have := h.qe; omega⟩
  refine ⟨h3.tri, h3.qe, h3.lv, h3.nx, h3.lo, h3.asc, h3.ascN, fun j hj => ?_, h3.bsb, h3.lvb⟩
  rcases h2 j hj with e | ⟨e1, e2⟩
  · by_cases ej : j = x
    · subst ej
      exact .inl ⟨by rw [h1]; exact hxs.2, by rw [h1]; exact hxs.1⟩
    · have := h3.cov j hj
      rw [setF_other _ _ _ _ ej] at this
      rw [e]; exact this
  · exact .inl ⟨by rw [e1]; exact hxs.2, by rw [e1, e2]; exact hxs.1⟩

def NE (L : List (Nat × Nat)) : Prop := ∀ (i f t : Nat), L[i]? = some (f, t) → f < t
theorem NE.nil : NE [] := fun i f t h => by simp at h
theorem NE.snoc {L : List (Nat × Nat)} (h : NE L) {a b : Nat} (hab : a < b) : NE (L ++ [(a, b)]) := by
  intro i f t hi
  rcases Nat.lt_or_ge i L.length with e | e
  · rw [List.getElem?_append_left e] at hi; exact h i f t hi
  · have hil : i < (L ++ [(a, b)]).length := (List.getElem?_eq_some_iff.1 hi).1
    have : i = L.length := by simp at hil; omega
    subst this
    rw [List.getElem?_append_right (Nat.le_refl _)] at hi
    simp at hi
    omega
theorem runs_len (h : Core k P d bs Lv Nx p q fs lb str no pend) (hn : NE Nx) : Nx.length ≤ k := by
  have key : ∀ (i f t : Nat), Nx[i]? = some (f, t) → i ≤ f := by
    intro i
    induction i with
    | zero => intro f t _; omega
    | succ i ih =>
      intro f t hi
      have hil : i + 1 < Nx.length := (List.getElem?_eq_some_iff.1 hi).1
      obtain ⟨f', t', e⟩ : ∃ f' t', Nx[i]? = some (f', t') := ⟨_, _, List.getElem?_eq_getElem (show i < Nx.length by omega)⟩
      have h1 := ih f' t' e
      have h2 := h.ascN i (i + 1) f' t' f t (by omega) e hi
      have h3 := hn i f' t' e
      omega
  rcases Nat.eq_zero_or_pos Nx.length with e | e
  · omega
  · obtain ⟨f', t', e'⟩ : ∃ f' t', Nx[Nx.length - 1]? = some (f', t') := ⟨_, _, List.getElem?_eq_getElem (show Nx.length - 1 < Nx.length by omega)⟩
    have h1 := key _ f' t' e'
    have h2 := hn _ f' t' e'
    have h3 := (h.nx _ f' t' e').2.1
    omega
theorem core_q (h : Core k P d bs Lv Nx p q fs lb str no pend) (hn : NE Nx) (hk : k ≤ 256) (hd : d ≤ 4097) : q ≤ 2000000 := by
  have h1 := h.qe
  have h2 := h.bsb
  have h3 := h.lvb
  have h4 := runs_len h hn
  have h5 : (k + 1) * d ≤ 257 * 4097 := Nat.mul_le_mul (by omega) hd
  omega

theorem trie_of_tri (h : Tri q q fs lb str) : TrieOK q (fun i => (fs ++ [q]).getD i 0) lb str := by
  have hl := h.len
  have hg : ∀ i, i ≤ q → (fs ++ [q])[i]? = some ((fs ++ [q]).getD i 0) := by
    intro i hi
    rw [List.getD_eq_getElem?_getD, List.getElem?_eq_getElem (by simp; omega)]; rfl
  have hlt : ∀ i, i < q → fs[i]? = some ((fs ++ [q]).getD i 0) := by
    intro i hi
    rw [← hg i (by omega), List.getElem?_append_left (by omega)]
  refine ⟨h.one, h.root, ?_, ?_, fun i hi => h.mono i _ _ (hg i (by omega)) (hg (i + 1) (by omega)), fun i hi => h.up i _ (hlt i hi), fun i j hi h1 h2 => h.kid i _ _ j (hg i (by omega)) (hg (i + 1) (by omega)) h1 h2,
    fun i j j' hi h1 h2 h3 => h.inc i _ _ j j' (hg i (by omega)) (hg (i + 1) (by omega)) h1 h2 h3, h.lens⟩
  · have h1 := hg 0 (by omega)
    rw [h.f0] at h1
    injection h1 with h1
    exact h1.symm
  · have h1 := hg q (Nat.le_refl _)
    rw [List.getElem?_append_right (by omega), hl] at h1
    simp at h1 ⊢
    exact h1.symm
end
end Go.Proofs.Ybulkblzg
