import Derived.Test.YbulkblzgB6
namespace Go.Proofs.Ybulkblzg
open Go.RowKit
set_option linter.unusedVariables false
set_option linter.unusedSimpArgs false

/-- One of the texts holds s. -/
def Holds (nt : Nat) (Ts : Nat → ByteArray) (s : List Nat) : Prop := ∃ i, i < nt ∧ s <:+: bts (Ts i)

theorem TM.keep {S : Nat → Prop} {w w' : World} {bt g0 c0 g1 c1 N : Nat} {F lb : Nat → Nat} (h : TM w bt g0 c0 g1 c1 N F lb) (hk : Keeps S w w') (hN : 1 ≤ N) (h0 : ¬ S bt) (h1 : ¬ S g0) (h2 : ¬ S g1) : TM w' bt g0 c0 g1 c1 N F lb := by
  have b0 := hk.block bt (World.block_lt_of_cell? w ⟨bt, 0, none⟩ h.f) h0
  have b1 := hk.block g0 (World.block_lt_of_cell? w ⟨g0, 0, none⟩ (h.fc 0 (by omega))) h1
  have b2 := hk.block g1 (World.block_lt_of_cell? w ⟨g1, 0, none⟩ (h.lc 0 (by omega))) h2
  exact ⟨by rw [World.cell?_of_block (w := w) b0]; exact h.f, fun i hi => by rw [World.cell?_of_block (w := w) b1]; exact h.fc i hi, by rw [World.cell?_of_block (w := w) b0]; exact h.l, fun i hi => by rw [World.cell?_of_block (w := w) b2]; exact h.lc i hi⟩
theorem FM.keep {S : Nat → Prop} {w w' : World} {bt g2 N : Nat} {f : Nat → Nat} (h : FM w bt g2 N f) (hk : Keeps S w w') (hN : 1 ≤ N) (h0 : ¬ S bt) (h1 : ¬ S g2) : FM w' bt g2 N f := by
  have b0 := hk.block bt (World.block_lt_of_cell? w ⟨bt, 2, none⟩ h.s) h0
  have b1 := hk.block g2 (World.block_lt_of_cell? w ⟨g2, 0, none⟩ (h.c 0 (by omega))) h1
  exact ⟨by rw [World.cell?_of_block (w := w) b0]; exact h.s, fun i hi => by rw [World.cell?_of_block (w := w) b1]; exact h.c i hi⟩

theorem make_big {t e : TypeId} {z : Value} {bytes : Nat} (ht : Yba.prog.underlying t = some (.slice e)) (hi : (Yba.prog.info? e).map (fun i => (i.zero, i.size, i.bytes)) = some (some z, 1, bytes)) (hz : z.cells = #[z]) (hb : bytes ≤ 64) (n : Nat) (hn : n ≤ 16777216) (W : World) :
    (Instr.makeSlice t (.int .i64 (n : Int)) (.int .i64 (n : Int))).run Yba.prog W = .ok (.slice (some ⟨W.heap.size, 0, none⟩) n n) (W.alloc (.cells (madeCells #[z] n) e)) := by
  obtain ⟨i, h1, h2, h3, h4⟩ := info_parts hi
  have hb' : (i.bytes : Int) * (n : Int) ≤ 281474976710656 := by
    have h5 : i.bytes * n ≤ 64 * 16777216 := Nat.mul_le_mul (by omega) hn
    have h : ((i.bytes * n : Nat) : Int) ≤ 281474976710656 := by omega
    rwa [Int.natCast_mul] at h
  have := run_make (P := Yba.prog) W t e i z ht h1 h2 .i64 .i64 (n : Int) (n : Int) (by omega) (Int.le_refl _) hb' (by omega)
  rw [hz, h3] at this
  simpa using this

section
variable {n : Nat} {F : Nat → Nat} {lb : Nat → Nat} {str : Nat → List Nat} {nt : Nat} {Ts : Nat → ByteArray}
/-- What is reached is held. -/
def Snd (n : Nat) (str : Nat → List Nat) (nt : Nat) (Ts : Nat → ByteArray) (r : Nat → Bool) : Prop := ∀ x, x < n → r x = true → Holds nt Ts (str x)
/-- Each prefix of the first a texts has reached its node. -/
def Cmp (n : Nat) (str : Nat → List Nat) (a : Nat) (Ts : Nat → ByteArray) (r : Nat → Bool) : Prop := ∀ i, i < a → ∀ j, j ≤ (bts (Ts i)).length → ∃ y, IsL n str ((bts (Ts i)).take j) y ∧ r y = true
def setB (r : Nat → Bool) (x j : Nat) : Bool := if j = x then true else r j
theorem setB_mono {r : Nat → Bool} {x j : Nat} (h : r j = true) : setB r x j = true := by unfold setB; split <;> simp [h]
theorem setB_same (r : Nat → Bool) (x : Nat) : setB r x x = true := by simp [setB]
theorem Cmp.set {a x : Nat} {r : Nat → Bool} (h : Cmp n str a Ts r) : Cmp n str a Ts (setB r x) := fun i hi j hj => by
  obtain ⟨y, h1, h2⟩ := h i hi j hj
  exact ⟨y, h1, setB_mono h2⟩
theorem Snd.set {x : Nat} {r : Nat → Bool} (h : Snd n str nt Ts r) (hx : Holds nt Ts (str x)) : Snd n str nt Ts (setB r x) := by
  intro y hy hr
  by_cases e : y = x
  · subst e; exact hx
  · unfold setB at hr
    rw [if_neg e] at hr
    exact h y hy hr
theorem holds_of_isL {a j y : Nat} (ha : a < nt) (h : IsL n str ((bts (Ts a)).take j) y) : Holds nt Ts (str y) :=
  ⟨a, ha, h.2.1.isInfix.trans (List.take_prefix _ _).isInfix⟩
theorem holds_fail {x y : Nat} (h : Holds nt Ts (str x)) (hf : IsF n str x y) : Holds nt Ts (str y) := by
  obtain ⟨i, hi, h1⟩ := h
  exact ⟨i, hi, hf.2.1.isInfix.trans h1⟩

theorem reached_iff (hT : TrieOK n F lb str) {f : Nat → Nat} (hf : ∀ x, 1 ≤ x → x < n → IsF n str x (f x)) {r : Nat → Bool} (hc : ∀ x, 1 ≤ x → x < n → r x = true → r (f x) = true) (hs : Snd n str nt Ts r) (hm : Cmp n str nt Ts r) (x : Nat) (hx : x < n) : r x = true ↔ Holds nt Ts (str x) := by
  refine ⟨hs x hx, ?_⟩
  rintro ⟨i, hi, s, t, e⟩
  have hp : (bts (Ts i)).take (s ++ str x).length = s ++ str x := by rw [← e, List.take_left]
  obtain ⟨y, h1, h2⟩ := hm i hi (s ++ str x).length (by rw [← e]; simp)
  rw [hp] at h1
  have h3 : str x <:+ s ++ str x := List.suffix_append _ _
  exact reach_all hT hf hc _ y x rfl h1.1 h2 hx (suffix_of_suffix h3 h1.2.1 (h1.2.2 x hx h3))
end
end Go.Proofs.Ybulkblzg
