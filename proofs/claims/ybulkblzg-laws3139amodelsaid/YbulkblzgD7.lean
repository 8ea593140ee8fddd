import Derived.Test.YbulkblzgD6
namespace Go.Proofs.Ybulkblzg
open Go.RowKit
set_option linter.unusedVariables false
set_option linter.unusedSimpArgs false

/-- Picks as they lie. -/
def IsPk (w : World) (a : Option Addr) (n g o : Nat) (P : Nat → Nat) : Prop := (0 < n → a = some ⟨g, o, none⟩) ∧ ∀ i, i < n → w.cell? ⟨g, o + i, none⟩ = some (.int .u16 (P i : Int)) ∧ P i < 65536
theorem IsPk.below {w w' : World} {a : Option Addr} {n g o : Nat} {P : Nat → Nat} (h : IsPk w a n g o P) (hb : Below w.heap.size w w') : IsPk w' a n g o P := by
  refine ⟨h.1, fun i hi => ⟨?_, (h.2 i hi).2⟩⟩
  have h1 := (h.2 i hi).1
  rw [World.cell?_of_block (w := w) (hb.block g (World.block_lt_of_cell? w ⟨g, o + i, none⟩ h1))]; exact h1
/-- Bools as they lie. -/
def IsBo (w : World) (a : Option Addr) (n g o : Nat) (B : Nat → Bool) : Prop := (0 < n → a = some ⟨g, o, none⟩) ∧ ∀ i, i < n → w.cell? ⟨g, o + i, none⟩ = some (.bool (B i))
theorem IsBo.below {w w' : World} {a : Option Addr} {n g o : Nat} {B : Nat → Bool} (h : IsBo w a n g o B) (hb : Below w.heap.size w w') : IsBo w' a n g o B := by
  refine ⟨h.1, fun i hi => ?_⟩
  have h1 := h.2 i hi
  rw [World.cell?_of_block (w := w) (hb.block g (World.block_lt_of_cell? w ⟨g, o + i, none⟩ h1))]; exact h1

theorem row_arr {w : World} {base : Nat} {e : TypeId} {k : Nat} {v : Value} {xs : List Value} (h : w.ownsRow base e 1 v k xs) : ∃ a c g, v = .slice a k c ∧ base ≤ g ∧ (0 < k → a = some ⟨g, 0, none⟩) ∧ ∀ f : Nat → Value, (∀ i, i < k → xs[i]? = some (f i)) → Arr w g k f := by
  rcases Nat.eq_zero_or_pos k with e | e
  · obtain ⟨a, c, rfl, -⟩ := row_form h
    exact ⟨a, c, base, rfl, Nat.le_refl _, fun h => by omega, fun f hf i hi => by omega⟩
  · obtain ⟨g, c, rfl, h1, h2⟩ := h.form e
    refine ⟨_, c, g, rfl, h1, fun _ => rfl, fun f hf i hi => ⟨by rw [h.cellAt i (by omega)]; exact hf i hi, ?_⟩⟩
    rcases h.2 with ⟨e1, e2⟩ | ⟨g', cap, cur, e1, -, e3, -⟩
    · simp at e1
    · simp only [Value.slice.injEq, Option.some.injEq, Addr.mk.injEq] at e1
      obtain ⟨⟨e4, -⟩, -⟩ := e1
      subst e4
      simp [World.frozen?, e3]

theorem texts_get (Ts : Nat → ByteArray) {n i : Nat} (hi : i < n) : (texts Ts n)[i]? = some (.string (Ts i)) := by simp [texts, hi]
theorem IsSt.of_row {w : World} {base : Nat} {v : Value} {n : Nat} {Ts : Nat → ByteArray} (h : w.ownsRow base 9 1 v n (texts Ts n)) : ∃ a c g, v = .slice a n c ∧ IsSt w a n g 0 Ts ∧ (0 < n → base ≤ g ∧ g < w.heap.size) := by
  obtain ⟨a, c, g, e, h1, h2⟩ := row_read h
  exact ⟨a, c, g, e, ⟨fun h0 => (h1 h0).1, fun i hi => by rw [Nat.zero_add, h2 i hi]; exact texts_get Ts hi⟩, fun h0 => (h1 h0).2.2⟩

theorem equal_ok (a1 a2 : Option Addr) (n c d g1 o1 g2 o2 : Nat) (Ts : Nat → ByteArray) (w : World) (hn : n ≤ 256) (h1 : IsSt w a1 n g1 o1 Ts) (h2 : IsSt w a2 n g2 o2 Ts) :
    Calls Yba.prog 12 #[.slice a1 n c, .slice a2 n d] w fun e w' => e = .returned (.bool true) ∧ ∃ q, w' = w.drewN q := by
  rcases Nat.eq_zero_or_pos n with e | e
  · subst e
    refine (Yba.slices_Equal_string_empty a1 a2 c 0 d w (by omega)).mono ?_
    rintro e w' ⟨rfl, rfl⟩
    exact ⟨rfl, 0, (drewN_zero _).symm⟩
  · have e1 := h1.1 e
    have e2 := h2.1 e
    subst e1 e2
    have hc : ∀ (g o : Nat), (∀ i, i < n → w.cell? ⟨g, o + i, none⟩ = some (.string (Ts i))) → ∀ j, j < ((List.range n).map Ts).length → w.cell? ⟨g, o + j, none⟩ = some (.string (((List.range n).map Ts).getD j ByteArray.empty)) := by
      intro g o h j hj
      have hj' : j < n := by simpa using hj
      rw [h j hj']
      simp [List.getD_eq_getElem?_getD, hj']
    refine (Yba.slices_Equal_string g1 o1 n c g2 o2 n d ((List.range n).map Ts) ((List.range n).map Ts) w (by simp) (by simp) (by omega) (by omega) (hc g1 o1 h1.2) (hc g2 o2 h2.2)).mono ?_
    rintro e w' ⟨rfl, q, hq⟩
    exact ⟨by simp, q, hq⟩

def bools (f : Nat → Bool) (n : Nat) : List Value := (List.range n).map (fun i => Value.bool (f i))
theorem clone_bools (g n c : Nat) (f : Nat → Bool) (w : World) (hn : n ≤ 256) (h : Arr w g n (fun i => .bool (f i))) :
    Calls Yba.prog 9 #[.slice (some ⟨g, 0, none⟩) n c] w fun e w' => ∃ v', e = .returned v' ∧ w'.ownsRow w.heap.size 4 1 v' n (bools f n) ∧ Below w.heap.size w w' := by
  obtain ⟨i4, h1, h2, h3, h4⟩ := info_parts Yba.info4
  have hsz : ∀ w, (Go.sizeOf 4).run Yba.prog w = .ok 1 w := fun w => by
    simp [Go.sizeOf, typeInfo, h1, h3]
  refine (Yba.slices_Clone_f9 i4 (.bool false) 1 1 h1 h2 h3 h4 rfl (by omega) hsz g 0 n c (bools f n) w (by simp [bools]) (by unfold maxLen; omega) (by omega) (fun j u hu => ?_) (fun u hu => ?_)).mono ?_
  · have hj : j < n := by
      have := (List.getElem?_eq_some_iff.1 hu).1
      simpa [bools] using this
    rw [Nat.zero_add, (h j hj).1, ← hu]
    simp [bools, hj]
  · simp only [bools, List.mem_map] at hu
    obtain ⟨i, -, rfl⟩ := hu
    rfl
  · rintro e w' ⟨v', rfl, x1, -, x2⟩
    exact ⟨v', rfl, x1, x2⟩

def natsV (L : List Nat) : List Value := L.map (fun (i : Nat) => Value.int .i64 (i : Int))
theorem natsV_snoc (L : List Nat) (x : Nat) : natsV (L ++ [x]) = natsV L ++ [.int .i64 (x : Int)] := by simp [natsV]

/-- The batch and its marks. -/
structure MS (W : World) (w : World) (np : Nat) (B : List Nat) (v : Value) : Prop where
  row : w.ownsRow (W.heap.size + 1) 3 1 v B.length (natsV B)
  inb : Arr w W.heap.size np (fun i => .bool (decide (i ∈ B)))
  bl : Below W.heap.size W w
  sz : W.heap.size + 1 ≤ w.heap.size

theorem MS.keep {W w w' : World} {np : Nat} {B : List Nat} {v : Value} (h : MS W w np B v) (hk : Keeps (fun _ => False) w w') : MS W w' np B v :=
  ⟨row_keep h.row hk (fun _ _ h => h), h.inb.keep hk id, h.bl.trans (hk.below h.bl.size (fun _ h => h.elim)), by have := h.sz; have := hk.size; omega⟩
theorem MS.push {W w w1 : World} {np : Nat} {B : List Nat} {v : Value} (h : MS W w np B v) {g cap x : Nat} (hx : x < np) (hown : w1.ownsRow (W.heap.size + 1) 3 1 (.slice (some ⟨g, 0, none⟩) (B.length + 1) cap) (B.length + 1) (natsV B ++ [.int .i64 (x : Int)])) (hg : w.grownBy w1 v.ownBlock) :
    MS W (w1.setCell ⟨W.heap.size, x, none⟩ (.bool true)) np (B ++ [x]) (.slice (some ⟨g, 0, none⟩) (B.length + 1) cap) ∧ ∃ o, w1.cell? ⟨W.heap.size, x, none⟩ = some o ∧ w1.frozen? ⟨W.heap.size, x, none⟩ = false := by
  have hk := grown_keeps hg
  have hlo : ∀ j, v.ownBlock = some j → W.heap.size + 1 ≤ j := fun j hj => (h.row.lt j hj).1
  have hin : Arr w1 W.heap.size np (fun i => .bool (decide (i ∈ B))) := h.inb.keep hk (fun e => by have := hlo _ e; omega)
  have hsz := h.sz
  have hks := hk.size
  refine ⟨⟨?_, (hin.set (.bool true) hx).congr (fun i _ => ?_), (h.bl.trans (hk.below h.bl.size (fun j hj => by have := hlo j hj; omega))).setCell (Nat.le_refl _) _, by simpa [World.setCell] using Nat.le_trans hsz hks⟩, _, (hin x hx).1, (hin x hx).2⟩
  · rw [natsV_snoc, List.length_append]
    refine ownsRow_setCell_below hown ?_ _
    simp
  · by_cases e : i = x
    · subst e; simp
    · simp [e]
end Go.Proofs.Ybulkblzg
