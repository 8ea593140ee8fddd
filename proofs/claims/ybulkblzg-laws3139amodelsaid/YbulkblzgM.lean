import Derived.Test.YbulkblzgProg
import Derived.Test.YbulkblzgT
import Derived.WalkKit
import Derived.Deep.AppendLies
import Derived.Deep.RegionHeld3
import Derived.Deep.RegionWith
import Derived.BigQuiet
import Derived.Deep.DeepCutAuto
namespace Go.Proofs.Ybulkblzg
open Go.RowKit
set_option linter.unusedVariables false
set_option linter.unusedSimpArgs false

/-- All blocks of w but those of S are as they were. -/
structure Keeps (S : Nat → Prop) (w w' : World) : Prop where
  os : w'.os = w.os
  tape : w'.tape = w.tape
  output : w'.output = w.output
  size : w.heap.size ≤ w'.heap.size
  block : ∀ k, k < w.heap.size → ¬ S k → w'.heap[k]? = w.heap[k]?

theorem Keeps.refl (S : Nat → Prop) (w : World) : Keeps S w w := ⟨rfl, rfl, rfl, Nat.le_refl _, fun _ _ _ => rfl⟩
theorem Keeps.trans {S : Nat → Prop} {a b c : World} (h : Keeps S a b) (k : Keeps S b c) : Keeps S a c :=
  ⟨k.os.trans h.os, k.tape.trans h.tape, k.output.trans h.output, Nat.le_trans h.size k.size, fun i hi hs => (k.block i (Nat.lt_of_lt_of_le hi h.size) hs).trans (h.block i hi hs)⟩
/-- The second step may turn what was not there ahead of the first, too. -/
theorem Keeps.trans' {S S' : Nat → Prop} {a b c : World} (h : Keeps S a b) (k : Keeps S' b c) (hs : ∀ j, j < a.heap.size → S' j → S j) : Keeps S a c :=
  ⟨k.os.trans h.os, k.tape.trans h.tape, k.output.trans h.output, Nat.le_trans h.size k.size, fun i hi hn => (k.block i (Nat.lt_of_lt_of_le hi h.size) (fun e => hn (hs i hi e))).trans (h.block i hi hn)⟩
theorem Keeps.mono {S S' : Nat → Prop} {w w' : World} (h : Keeps S w w') (hs : ∀ j, j < w.heap.size → S j → S' j) : Keeps S' w w' :=
  ⟨h.os, h.tape, h.output, h.size, fun k hk hn => h.block k hk (fun e => hn (hs k hk e))⟩
theorem Keeps.alloc {S : Nat → Prop} {a w : World} (h : Keeps S a w) (o : Obj) : Keeps S a (w.alloc o) :=
  h.trans ⟨rfl, rfl, rfl, by simp, fun k hk _ => Below.heap_alloc _ _ _ hk⟩
theorem Keeps.setCell {S : Nat → Prop} {a w : World} (h : Keeps S a w) {p : Addr} (hp : p.block < a.heap.size → S p.block) (u : Value) : Keeps S a (w.setCell p u) := by
  refine ⟨h.os, h.tape, h.output, by simpa [World.setCell] using h.size, fun k hk hn => ?_⟩
  rw [Below.heap_setCell _ _ _ _ (fun e => hn (by subst e; exact hp hk))]
  exact h.block k hk hn
theorem Keeps.drewN {S : Nat → Prop} {a w : World} (h : Keeps S a w) (n : Nat) : Keeps S a (w.drewN n) := ⟨h.os, h.tape, h.output, h.size, h.block⟩
theorem Keeps.drew {S : Nat → Prop} {a w : World} (h : Keeps S a w) : Keeps S a w.drew := ⟨h.os, h.tape, h.output, h.size, h.block⟩
theorem Keeps.grown {S : Nat → Prop} {a w w' : World} {row : Option Nat} (h : Keeps S a w) (hg : w.grownBy w' row) (hr : ∀ k, row = some k → k < a.heap.size → S k) : Keeps S a w' :=
  ⟨hg.os.trans h.os, hg.tape.trans h.tape, hg.output.trans h.output, Nat.le_trans h.size hg.size, fun k hk hn =>
    (hg.block k (Nat.lt_of_lt_of_le hk h.size) (fun e => hn (hr k e.symm hk))).trans (h.block k hk hn)⟩
theorem Keeps.below {S : Nat → Prop} {B : Nat} {w w' : World} (h : Keeps S w w') (hB : B ≤ w.heap.size) (hs : ∀ j, S j → B ≤ j) : Below B w w' :=
  ⟨h.os, h.tape, h.output, h.size, fun k hk => h.block k (by omega) (fun e => by have := hs k e; omega)⟩
theorem Below.keeps {B : Nat} {w w' : World} (h : Below B w w') : Keeps (fun j => B ≤ j) w w' :=
  ⟨h.os, h.tape, h.output, h.size, fun k hk hn => h.block k (by omega)⟩

/-- A variable of one cell. -/
def Box (w : World) (b : Nat) (v : Value) : Prop := w.cell? ⟨b, 0, none⟩ = some v ∧ w.frozen? ⟨b, 0, none⟩ = false
/-- n cells from the block's first on. -/
def Arr (w : World) (a n : Nat) (f : Nat → Value) : Prop := ∀ i, i < n → w.cell? ⟨a, i, none⟩ = some (f i) ∧ w.frozen? ⟨a, i, none⟩ = false

theorem Box.lt {w : World} {b : Nat} {v : Value} (h : Box w b v) : b < w.heap.size := World.block_lt_of_cell? w ⟨b, 0, none⟩ h.1
theorem Box.same {w w' : World} {b : Nat} {v : Value} (h : Box w b v) (e : w'.heap[b]? = w.heap[b]?) : Box w' b v := by
  refine ⟨?_, ?_⟩
  · rw [World.cell?_of_block (w := w) (by exact e)]; exact h.1
  · rw [World.frozen?_of_block (w := w) (by exact e)]; exact h.2
theorem Box.keep {S : Nat → Prop} {w w' : World} {b : Nat} {v : Value} (h : Box w b v) (hk : Keeps S w w') (hs : ¬ S b) : Box w' b v := h.same (hk.block b h.lt hs)
theorem Box.set {w : World} {b : Nat} {v : Value} (h : Box w b v) (u : Value) : Box (w.setCell ⟨b, 0, none⟩ u) b u :=
  ⟨World.cell?_setCell_same _ _ _ h.1, by rw [World.frozen?_setCell]; exact h.2⟩
theorem Box.other {w : World} {b : Nat} {v : Value} (h : Box w b v) {p : Addr} (hp : b ≠ p.block) (u : Value) : Box (w.setCell p u) b v := h.same (Below.heap_setCell _ _ _ _ hp)
theorem Box.alloc {w : World} {b : Nat} {v : Value} (h : Box w b v) (o : Obj) : Box (w.alloc o) b v := h.same (Below.heap_alloc _ _ _ h.lt)

theorem Arr.same {w w' : World} {a n : Nat} {f : Nat → Value} (h : Arr w a n f) (e : w'.heap[a]? = w.heap[a]?) : Arr w' a n f := by
  intro i hi
  refine ⟨?_, ?_⟩
  · rw [World.cell?_of_block (w := w) (by exact e)]; exact (h i hi).1
  · rw [World.frozen?_of_block (w := w) (by exact e)]; exact (h i hi).2
theorem Arr.lt {w : World} {a n : Nat} {f : Nat → Value} (h : Arr w a n f) (hn : 0 < n) : a < w.heap.size := World.block_lt_of_cell? w ⟨a, 0, none⟩ (h 0 hn).1
theorem Arr.keep {S : Nat → Prop} {w w' : World} {a n : Nat} {f : Nat → Value} (h : Arr w a n f) (hk : Keeps S w w') (hs : ¬ S a) : Arr w' a n f := by
  rcases Nat.eq_zero_or_pos n with rfl | hn
  · intro i hi; omega
  · exact h.same (hk.block a (h.lt hn) hs)
theorem Arr.set {w : World} {a n : Nat} {f : Nat → Value} (h : Arr w a n f) {i : Nat} (u : Value) (hi : i < n) : Arr (w.setCell ⟨a, i, none⟩ u) a n (fun j => if j = i then u else f j) := by
  intro j hj
  refine ⟨?_, by rw [World.frozen?_setCell]; exact (h j hj).2⟩
  by_cases e : j = i
  · subst e; simp only [if_pos]; exact World.cell?_setCell_same _ _ _ (h j hj).1
  · simp only [if_neg e]; rw [World.cell?_setCell_other _ _ _ _ (by intro hh; injection hh; omega)]; exact (h j hj).1
theorem Arr.other {w : World} {a n : Nat} {f : Nat → Value} (h : Arr w a n f) {p : Addr} (hp : a ≠ p.block) (u : Value) : Arr (w.setCell p u) a n f := h.same (Below.heap_setCell _ _ _ _ hp)
theorem Arr.congr {w : World} {a n : Nat} {f g : Nat → Value} (h : Arr w a n f) (e : ∀ i, i < n → f i = g i) : Arr w a n g := fun i hi => e i hi ▸ h i hi

/-- The block of a row after a growth: the old one, or a new one. -/
def Later (N : Nat) (g g' : Option Nat) : Prop := ∀ j, g' = some j → g = some j ∨ N ≤ j
theorem Later.refl (N : Nat) (g : Option Nat) : Later N g g := fun _ h => .inl h
theorem Later.trans {N N' : Nat} {g g' g'' : Option Nat} (h : Later N g g') (k : Later N' g' g'') (hN : N ≤ N') : Later N g g'' := by
  intro j hj
  rcases k j hj with e | e
  · exact h j e
  · exact .inr (Nat.le_trans hN e)

/-- A row of its own, held in a variable. -/
structure BRow (w : World) (base bx : Nat) (e : TypeId) (sz : Nat) (g : Option Nat) (k : Nat) (xs : List Value) (v : Value) : Prop where
  box : Box w bx v
  row : w.ownsRow base e sz v k xs
  blk : v.ownBlock = g

theorem BRow.lt {w : World} {base bx : Nat} {e : TypeId} {sz : Nat} {g : Option Nat} {k : Nat} {xs : List Value} {v : Value} (h : BRow w base bx e sz g k xs v) : ∀ j, g = some j → base ≤ j ∧ j < w.heap.size :=
  fun j hj => h.row.lt j (h.blk.trans hj)

theorem row_keep {S : Nat → Prop} {w w' : World} {base : Nat} {e : TypeId} {sz k : Nat} {v : Value} {xs : List Value} (h : w.ownsRow base e sz v k xs) (hk : Keeps S w w') (hg : ∀ j, v.ownBlock = some j → ¬ S j) : w'.ownsRow base e sz v k xs := by
  refine ⟨h.1, ?_⟩
  rcases h.2 with hn | ⟨g, cap, cur, rfl, hb, hgg, rest⟩
  · exact .inl hn
  · refine .inr ⟨g, cap, cur, rfl, hb, ?_, rest⟩
    rw [hk.block g (Array.getElem?_eq_some_iff.1 hgg).1 (hg g rfl)]
    exact hgg

theorem BRow.keep {S : Nat → Prop} {w w' : World} {base bx : Nat} {e : TypeId} {sz : Nat} {g : Option Nat} {k : Nat} {xs : List Value} {v : Value} (h : BRow w base bx e sz g k xs v) (hk : Keeps S w w') (hb : ¬ S bx) (hg : ∀ j, g = some j → ¬ S j) : BRow w' base bx e sz g k xs v :=
  ⟨h.box.keep hk hb, row_keep h.row hk (fun j hj => hg j (h.blk.symm.trans hj)), h.blk⟩

/-- What is appended to the row, its variable set. -/
theorem BRow.grow {w w1 : World} {base bx : Nat} {e : TypeId} {sz : Nat} {g : Option Nat} {k k' : Nat} {xs xs' : List Value} {v v' : Value} (h : BRow w base bx e sz g k xs v) (hbx : bx < base)
    (hown : w1.ownsRow base e sz v' k' xs') (hg : w.grownBy w1 g) : BRow (w1.setCell ⟨bx, 0, none⟩ v') base bx e sz v'.ownBlock k' xs' v' := by
  have hb1 : Box w1 bx v := h.box.same (hg.block bx h.box.lt (fun e => by have := (h.lt bx e.symm).1; omega))
  exact ⟨hb1.set _, ownsRow_setCell_below hown (by exact hbx) _, rfl⟩

/-- A shorter row on the same block. -/
theorem row_take {w : World} {base : Nat} {e : TypeId} {sz k : Nat} {a : Option Addr} {c : Nat} {xs : List Value} (h : w.ownsRow base e sz (.slice a k c) k xs) {j : Nat} (hj : j ≤ k) : w.ownsRow base e sz (.slice a j c) j (xs.take (j * sz)) := by
  have hm : j * sz ≤ k * sz := Nat.mul_le_mul_right _ hj
  refine ⟨by rw [List.length_take, h.1]; omega, ?_⟩
  rcases h.2 with ⟨hn, hk⟩ | ⟨g, cap, cur, hv, hb, hgg, h1, h2, h3, h4⟩
  · injection hn with e1 e2 e3
    subst e1 e3
    exact .inl ⟨by rw [show j = 0 by omega], by omega⟩
  · injection hv with e1 e2 e3
    subst e1 e3
    refine .inr ⟨g, c, cur, rfl, hb, hgg, by omega, h2, h3, ?_⟩
    rw [← h4, List.take_take, Nat.min_eq_left hm]

theorem row_form {w : World} {base : Nat} {e : TypeId} {sz k : Nat} {v : Value} {xs : List Value} (h : w.ownsRow base e sz v k xs) : ∃ a c, v = .slice a k c ∧ k ≤ c ∧ c ≤ maxLen ∧ (∀ ad, a = some ad → ∃ g, ad = ⟨g, 0, none⟩ ∧ base ≤ g ∧ g < w.heap.size) ∧ (a = none → k = 0 ∧ c = 0) := by
  rcases h.2 with ⟨rfl, rfl⟩ | ⟨g, cap, cur, rfl, hb, hgg, h1, h2, _⟩
  · exact ⟨none, 0, rfl, Nat.le_refl _, by simp [maxLen], by simp, fun _ => ⟨rfl, rfl⟩⟩
  · refine ⟨_, cap, rfl, h1, h2, fun ad hd => ⟨g, by injection hd with hd; exact hd.symm, hb, ?_⟩, by simp⟩
    exact (Array.getElem?_eq_some_iff.1 hgg).1

theorem later_of {N g : Nat} {o : Option Nat} (h : o = some g ∨ g = N) {M : Nat} (hM : M ≤ N) : Later M o (some g) := by
  intro j hj
  injection hj with hj
  subst hj
  rcases h with h | h
  · exact .inl h
  · exact .inr (by omega)

abbrev ints (l : List Nat) : List Value := l.map (fun (x : Nat) => Value.int .i64 (x : Int))

theorem news_one (w : World) (x : Value) (t : TypeId) : ∀ j u, [x][j]? = some u → (w.alloc (.cells #[x] t)).cell? ((⟨w.heap.size, 0, none⟩ : Addr).add j) = some u :=
  World.news_of_block (cs := #[x]) (heap_alloc_new w (.cells #[x] t))

theorem Yba.info3 : (Yba.prog.info? 3).map (fun i => (i.zero, i.size, i.bytes)) = some (some (.int .i64 0), 1, 8) := by kernel_rfl
theorem info3 : ∃ i, Yba.prog.info? 3 = some i ∧ i.zero = some (.int .i64 0) ∧ i.size = 1 ∧ i.bytes = 8 := by
  obtain ⟨i3, h1, h2, h3, h4⟩ := info_parts Yba.info3
  exact ⟨i3, h1, h2, h3, h4⟩

set_option maxRecDepth 100000 in
theorem follow_any (bx base : Nat) (g : Option Nat) (k : Nat) (xs : List Value) (v : Value) (z : Int) (w : World) (hB : BRow w base bx 3 1 g k xs v) (hbx : bx < base) (hbase : base ≤ w.heap.size) (hk : k < 4294967296) :
    Calls Yba.prog 30 #[.int .i64 z, .pointer (some ⟨bx, 0, none⟩)] w fun e w' =>
      e = .returned (.tuple #[]) ∧ ∃ g' v', BRow w' base bx 3 1 g' (k + 1) (xs ++ [.int .i64 z]) v' ∧ Later w.heap.size g g' ∧ Keeps (fun j => j = bx ∨ g = some j) w w' := by
  obtain ⟨i3, hi1, hi2, hi3, hi4⟩ := info3
  have HI : Hid (Yba.prog.info? 3 = some i3 ∧ i3.zero = some (.int .i64 0) ∧ i3.size = 1 ∧ i3.bytes = 8) := ⟨hi1, hi2, hi3, hi4⟩
  have HB : Hid (BRow w base bx 3 1 g k xs v) := hB
  have c0 := hB.box.1
  have f0 := hB.box.2
  have HO : Hid ((w.alloc (.cells #[.int .i64 z] 3)).ownsRow base 3 1 v k xs) := hB.row.alloc _
  have HBA : Hid (base ≤ (w.alloc (.cells #[.int .i64 z] 3)).heap.size) := by unfold Hid; simp; omega
  have HM : Hid (k + 1 ≤ maxLen) := by unfold Hid maxLen; omega
  have HNEW := news_one w (.int .i64 z) 3
  have HN : Hid (∀ j u, [Value.int .i64 z][j]? = some u → (w.alloc (.cells #[.int .i64 z] 3)).cell? ((⟨w.heap.size, 0, none⟩ : Addr).add j) = some u) := HNEW
  have HONE : Hid (∀ u ∈ [Value.int .i64 z], u.oneCell' = true) := by
    intro u hu
    simp at hu
    subst hu; rfl
  clear hi1 hi2 hi3 hi4 hB HNEW
  go_enter Yba.func30, Yba.ntmps30
  go_wp2_with (at_builtin; refine wpList_append_lies _ rfl _ _ 27 rfl base 3 i3 (.int .i64 0) 1 8 Yba.underlying27 HI.out.1 HI.out.2.1 HI.out.2.2.1 HI.out.2.2.2 rfl (by decide) v k xs rfl HO.out ⟨w.heap.size, 0, none⟩ 1 1 [.int .i64 z] rfl rfl HN.out HONE.out (by decide) HM.out (by omega) HBA.out _ rfl ?_)
  intro g' cap w5 hown5 hgrow5 hat5 hlt5
  have hb5 : Box w5 bx v := (HB.out.box.alloc _).same (hgrow5.block bx (by have := HB.out.box.lt; simp; omega) (fun e => by have := (HB.out.row.lt bx e.symm).1; omega))
  have c5 := hb5.1
  have f5 := hb5.2
  have HA : Hid (BRow (w.alloc (.cells #[.int .i64 z] 3)) base bx 3 1 g k xs v) := ⟨HB.out.box.alloc _, HO.out, HB.out.blk⟩
  have HG : Hid (w5.ownsRow base 3 1 (.slice (some ⟨g', 0, none⟩) (k + 1) cap) (k + 1) (xs ++ [.int .i64 z]) ∧ (w.alloc (.cells #[.int .i64 z] 3)).grownBy w5 g ∧ (g = some g' ∨ g' = w.heap.size + 1)) :=
    ⟨hown5, by rw [← HB.out.blk]; exact hgrow5, by rw [← HB.out.blk]; simpa using hat5⟩
  clear hown5 hgrow5 hat5 hlt5 hb5
  go_wp2
  go_end0
  refine ⟨rfl, some g', _, HA.out.grow (by omega) HG.out.1 HG.out.2.1, later_of HG.out.2.2 (by omega), ?_⟩
  exact (((Keeps.refl _ w).alloc _).grown HG.out.2.1 (fun j hj _ => .inr hj)).setCell (fun _ => .inl rfl) _
end Go.Proofs.Ybulkblzg
