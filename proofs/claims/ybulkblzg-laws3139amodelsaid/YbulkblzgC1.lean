import Derived.Test.YbulkblzgM
namespace Go.Proofs.Ybulkblzg
open Go.RowKit
set_option linter.unusedVariables false
set_option linter.unusedSimpArgs false

theorem keeps_set (w : World) (p : Addr) (u : Value) : Keeps (fun j => j = p.block) w (w.setCell p u) := Keeps.setCell (S := fun j => j = p.block) (Keeps.refl _ w) (fun _ => rfl) u

/-- The memory of componentsFrom, from block N on. -/
structure CF (w : World) (N n : Nat) (fE : Value) (idx low : Nat → Nat) (on : Nat → Bool) (S X : List Nat) (P : List Value) (np cnt : Nat) (gS gN gP : Option Nat) (vS vN vP : Value) : Prop where
  ed : Box w N fE
  ix : Box w (N + 2) (.slice (some ⟨N + 1, 0, none⟩) n n)
  ixA : Arr w (N + 1) n (fun i => .int .i32 (idx i : Int))
  lo : Box w (N + 4) (.slice (some ⟨N + 3, 0, none⟩) n n)
  loA : Arr w (N + 3) n (fun i => .int .i32 (low i : Int))
  onB : Box w (N + 6) (.slice (some ⟨N + 5, 0, none⟩) n n)
  onA : Arr w (N + 5) n (fun i => .bool (on i))
  st : BRow w (N + 12) (N + 7) 3 1 gS S.length (ints S) vS
  nx : BRow w (N + 12) (N + 8) 3 1 gN X.length (ints X) vN
  pa : BRow w (N + 12) (N + 9) 72 4 gP np P vP
  re : Box w (N + 10) (.int .i32 (cnt : Int))
  fo : Box w (N + 11) (.func (.func 30) #[] #[.pointer (some ⟨N + 8, 0, none⟩)])
  dSN : ∀ j, gS = some j → gN ≠ some j
  dSP : ∀ j, gS = some j → gP ≠ some j
  dNP : ∀ j, gN = some j → gP ≠ some j
  base : N + 12 ≤ w.heap.size

def Own (N : Nat) (gS gN gP : Option Nat) (j : Nat) : Prop := (N ≤ j ∧ j < N + 12) ∨ gS = some j ∨ gN = some j ∨ gP = some j

section
variable {w w' : World} {N n : Nat} {fE : Value} {idx low : Nat → Nat} {on : Nat → Bool} {S X : List Nat} {P : List Value} {np cnt : Nat} {gS gN gP : Option Nat} {vS vN vP : Value}

theorem CF.ownLt (h : CF w N n fE idx low on S X P np cnt gS gN gP vS vN vP) {j : Nat} (ho : Own N gS gN gP j) : N ≤ j ∧ j < w.heap.size := by
  have hb := h.base
  rcases ho with ho | ho | ho | ho
  · omega
  · have := h.st.lt j ho; omega
  · have := h.nx.lt j ho; omega
  · have := h.pa.lt j ho; omega

/-- Another's writes. -/
theorem CF.keep {Q : Nat → Prop} (h : CF w N n fE idx low on S X P np cnt gS gN gP vS vN vP) (hk : Keeps Q w w') (hq : ∀ j, Own N gS gN gP j → ¬ Q j) : CF w' N n fE idx low on S X P np cnt gS gN gP vS vN vP := by
  have hf : ∀ j, N ≤ j → j < N + 12 → ¬ Q j := fun j h1 h2 => hq j (.inl ⟨h1, h2⟩)
  exact
    { ed := h.ed.keep hk (hf _ (by omega) (by omega)), ix := h.ix.keep hk (hf _ (by omega) (by omega)), ixA := h.ixA.keep hk (hf _ (by omega) (by omega))
      lo := h.lo.keep hk (hf _ (by omega) (by omega)), loA := h.loA.keep hk (hf _ (by omega) (by omega))
      onB := h.onB.keep hk (hf _ (by omega) (by omega)), onA := h.onA.keep hk (hf _ (by omega) (by omega))
      st := h.st.keep hk (hf _ (by omega) (by omega)) (fun j hj => hq j (.inr (.inl hj)))
      nx := h.nx.keep hk (hf _ (by omega) (by omega)) (fun j hj => hq j (.inr (.inr (.inl hj))))
      pa := h.pa.keep hk (hf _ (by omega) (by omega)) (fun j hj => hq j (.inr (.inr (.inr hj))))
      re := h.re.keep hk (hf _ (by omega) (by omega)), fo := h.fo.keep hk (hf _ (by omega) (by omega))
      dSN := h.dSN, dSP := h.dSP, dNP := h.dNP, base := Nat.le_trans h.base hk.size }

theorem CF.alloc (h : CF w N n fE idx low on S X P np cnt gS gN gP vS vN vP) (o : Obj) : CF (w.alloc o) N n fE idx low on S X P np cnt gS gN gP vS vN vP :=
  h.keep ((Keeps.refl (fun _ => False) w).alloc o) (fun _ _ hf => hf)
theorem CF.drewN (h : CF w N n fE idx low on S X P np cnt gS gN gP vS vN vP) (q : Nat) : CF (w.drewN q) N n fE idx low on S X P np cnt gS gN gP vS vN vP :=
  h.keep ((Keeps.refl (fun _ => False) w).drewN q) (fun _ _ hf => hf)
theorem CF.drew (h : CF w N n fE idx low on S X P np cnt gS gN gP vS vN vP) : CF w.drew N n fE idx low on S X P np cnt gS gN gP vS vN vP :=
  h.keep ((Keeps.refl (fun _ => False) w).drew) (fun _ _ hf => hf)

theorem CF.setIdx (h : CF w N n fE idx low on S X P np cnt gS gN gP vS vN vP) {v : Nat} (hv : v < n) (x : Nat) : CF (w.setCell ⟨N + 1, v, none⟩ (.int .i32 (x : Int))) N n fE (upd idx v x) low on S X P np cnt gS gN gP vS vN vP := by
  have hk := keeps_set w ⟨N + 1, v, none⟩ (.int .i32 (x : Int))
  have hr : ∀ {g : Option Nat} {e : TypeId} {sz k : Nat} {xs : List Value} {u : Value} {b : Nat}, BRow w (N + 12) b e sz g k xs u → ∀ j, g = some j → ¬ j = N + 1 := fun hb j hj => by have := (hb.lt j hj).1; omega
  exact
    { ed := h.ed.keep hk (by simp), ix := h.ix.keep hk (by simp)
      ixA := (h.ixA.set _ hv).congr (fun i _ => by unfold upd; split <;> rfl)
      lo := h.lo.keep hk (by simp), loA := h.loA.keep hk (by simp), onB := h.onB.keep hk (by simp), onA := h.onA.keep hk (by simp)
      st := h.st.keep hk (by simp) (hr h.st), nx := h.nx.keep hk (by simp) (hr h.nx), pa := h.pa.keep hk (by simp) (hr h.pa)
      re := h.re.keep hk (by simp), fo := h.fo.keep hk (by simp), dSN := h.dSN, dSP := h.dSP, dNP := h.dNP, base := Nat.le_trans h.base hk.size }

theorem CF.setLow (h : CF w N n fE idx low on S X P np cnt gS gN gP vS vN vP) {v : Nat} (hv : v < n) (x : Nat) : CF (w.setCell ⟨N + 3, v, none⟩ (.int .i32 (x : Int))) N n fE idx (upd low v x) on S X P np cnt gS gN gP vS vN vP := by
  have hk := keeps_set w ⟨N + 3, v, none⟩ (.int .i32 (x : Int))
  have hr : ∀ {g : Option Nat} {e : TypeId} {sz k : Nat} {xs : List Value} {u : Value} {b : Nat}, BRow w (N + 12) b e sz g k xs u → ∀ j, g = some j → ¬ j = N + 3 := fun hb j hj => by have := (hb.lt j hj).1; omega
  exact
    { ed := h.ed.keep hk (by simp), ix := h.ix.keep hk (by simp), ixA := h.ixA.keep hk (by simp)
      lo := h.lo.keep hk (by simp), loA := (h.loA.set _ hv).congr (fun i _ => by unfold upd; split <;> rfl), onB := h.onB.keep hk (by simp), onA := h.onA.keep hk (by simp)
      st := h.st.keep hk (by simp) (hr h.st), nx := h.nx.keep hk (by simp) (hr h.nx), pa := h.pa.keep hk (by simp) (hr h.pa)
      re := h.re.keep hk (by simp), fo := h.fo.keep hk (by simp), dSN := h.dSN, dSP := h.dSP, dNP := h.dNP, base := Nat.le_trans h.base hk.size }

theorem CF.setOn (h : CF w N n fE idx low on S X P np cnt gS gN gP vS vN vP) {v : Nat} (hv : v < n) (x : Bool) : CF (w.setCell ⟨N + 5, v, none⟩ (.bool x)) N n fE idx low (fun i => if i = v then x else on i) S X P np cnt gS gN gP vS vN vP := by
  have hk := keeps_set w ⟨N + 5, v, none⟩ (.bool x)
  have hr : ∀ {g : Option Nat} {e : TypeId} {sz k : Nat} {xs : List Value} {u : Value} {b : Nat}, BRow w (N + 12) b e sz g k xs u → ∀ j, g = some j → ¬ j = N + 5 := fun hb j hj => by have := (hb.lt j hj).1; omega
  exact
    { ed := h.ed.keep hk (by simp), ix := h.ix.keep hk (by simp), ixA := h.ixA.keep hk (by simp)
      lo := h.lo.keep hk (by simp), loA := h.loA.keep hk (by simp), onB := h.onB.keep hk (by simp), onA := (h.onA.set _ hv).congr (fun i _ => by split <;> rfl)
      st := h.st.keep hk (by simp) (hr h.st), nx := h.nx.keep hk (by simp) (hr h.nx), pa := h.pa.keep hk (by simp) (hr h.pa)
      re := h.re.keep hk (by simp), fo := h.fo.keep hk (by simp), dSN := h.dSN, dSP := h.dSP, dNP := h.dNP, base := Nat.le_trans h.base hk.size }

theorem CF.setCnt (h : CF w N n fE idx low on S X P np cnt gS gN gP vS vN vP) (x : Nat) : CF (w.setCell ⟨N + 10, 0, none⟩ (.int .i32 (x : Int))) N n fE idx low on S X P np x gS gN gP vS vN vP := by
  have hk := keeps_set w ⟨N + 10, 0, none⟩ (.int .i32 (x : Int))
  have hr : ∀ {g : Option Nat} {e : TypeId} {sz k : Nat} {xs : List Value} {u : Value} {b : Nat}, BRow w (N + 12) b e sz g k xs u → ∀ j, g = some j → ¬ j = N + 10 := fun hb j hj => by have := (hb.lt j hj).1; omega
  exact
    { ed := h.ed.keep hk (by simp), ix := h.ix.keep hk (by simp), ixA := h.ixA.keep hk (by simp)
      lo := h.lo.keep hk (by simp), loA := h.loA.keep hk (by simp), onB := h.onB.keep hk (by simp), onA := h.onA.keep hk (by simp)
      st := h.st.keep hk (by simp) (hr h.st), nx := h.nx.keep hk (by simp) (hr h.nx), pa := h.pa.keep hk (by simp) (hr h.pa)
      re := h.re.set _, fo := h.fo.keep hk (by simp), dSN := h.dSN, dSP := h.dSP, dNP := h.dNP, base := Nat.le_trans h.base hk.size }

theorem later_ne {M : Nat} {g g' o : Option Nat} (hl : Later M g g') (h : ∀ j, o = some j → g ≠ some j) (hlt : ∀ j, o = some j → j < M) : ∀ j, o = some j → g' ≠ some j := by
  intro j hj e
  rcases hl j e with e | e
  · exact h j hj e
  · have := hlt j hj; omega

/-- The stack's row turned, or made anew. -/
theorem CF.newS {S' : List Nat} {gS' : Option Nat} {vS' : Value} (h : CF w N n fE idx low on S X P np cnt gS gN gP vS vN vP) (hk : Keeps (fun j => j = N + 7 ∨ gS = some j) w w')
    (hl : Later w.heap.size gS gS') (hr : BRow w' (N + 12) (N + 7) 3 1 gS' S'.length (ints S') vS') : CF w' N n fE idx low on S' X P np cnt gS' gN gP vS' vN vP := by
  have hb : ∀ b, b < N + 12 → b ≠ N + 7 → ¬ (b = N + 7 ∨ gS = some b) := by
    rintro b h1 h2 (h3 | h3)
    · exact h2 h3
    · have := (h.st.lt b h3).1; omega
  have hn : ∀ j, gN = some j → ¬ (j = N + 7 ∨ gS = some j) := by
    rintro j h1 (h3 | h3)
    · have := (h.nx.lt j h1).1; omega
    · exact h.dSN j h3 h1
  have hp : ∀ j, gP = some j → ¬ (j = N + 7 ∨ gS = some j) := by
    rintro j h1 (h3 | h3)
    · have := (h.pa.lt j h1).1; omega
    · exact h.dSP j h3 h1
  exact
    { ed := h.ed.keep hk (hb _ (by omega) (by omega)), ix := h.ix.keep hk (hb _ (by omega) (by omega)), ixA := h.ixA.keep hk (hb _ (by omega) (by omega))
      lo := h.lo.keep hk (hb _ (by omega) (by omega)), loA := h.loA.keep hk (hb _ (by omega) (by omega)), onB := h.onB.keep hk (hb _ (by omega) (by omega)), onA := h.onA.keep hk (hb _ (by omega) (by omega))
      st := hr, nx := h.nx.keep hk (hb _ (by omega) (by omega)) hn, pa := h.pa.keep hk (hb _ (by omega) (by omega)) hp
      re := h.re.keep hk (hb _ (by omega) (by omega)), fo := h.fo.keep hk (hb _ (by omega) (by omega))
      dSN := fun j hj e => later_ne hl (fun j hj e => h.dSN j e hj) (fun j hj => (h.nx.lt j hj).2) j e hj
      dSP := fun j hj e => later_ne hl (fun j hj e => h.dSP j e hj) (fun j hj => (h.pa.lt j hj).2) j e hj
      dNP := h.dNP, base := Nat.le_trans h.base hk.size }

theorem CF.newN {X' : List Nat} {gN' : Option Nat} {vN' : Value} (h : CF w N n fE idx low on S X P np cnt gS gN gP vS vN vP) (hk : Keeps (fun j => j = N + 8 ∨ gN = some j) w w')
    (hl : Later w.heap.size gN gN') (hr : BRow w' (N + 12) (N + 8) 3 1 gN' X'.length (ints X') vN') : CF w' N n fE idx low on S X' P np cnt gS gN' gP vS vN' vP := by
  have hb : ∀ b, b < N + 12 → b ≠ N + 8 → ¬ (b = N + 8 ∨ gN = some b) := by
    rintro b h1 h2 (h3 | h3)
    · exact h2 h3
    · have := (h.nx.lt b h3).1; omega
  have hn : ∀ j, gS = some j → ¬ (j = N + 8 ∨ gN = some j) := by
    rintro j h1 (h3 | h3)
    · have := (h.st.lt j h1).1; omega
    · exact h.dSN j h1 h3
  have hp : ∀ j, gP = some j → ¬ (j = N + 8 ∨ gN = some j) := by
    rintro j h1 (h3 | h3)
    · have := (h.pa.lt j h1).1; omega
    · exact h.dNP j h3 h1
  exact
    { ed := h.ed.keep hk (hb _ (by omega) (by omega)), ix := h.ix.keep hk (hb _ (by omega) (by omega)), ixA := h.ixA.keep hk (hb _ (by omega) (by omega))
      lo := h.lo.keep hk (hb _ (by omega) (by omega)), loA := h.loA.keep hk (hb _ (by omega) (by omega)), onB := h.onB.keep hk (hb _ (by omega) (by omega)), onA := h.onA.keep hk (hb _ (by omega) (by omega))
      st := h.st.keep hk (hb _ (by omega) (by omega)) hn, nx := hr, pa := h.pa.keep hk (hb _ (by omega) (by omega)) hp
      re := h.re.keep hk (hb _ (by omega) (by omega)), fo := h.fo.keep hk (hb _ (by omega) (by omega))
      dSN := later_ne hl h.dSN (fun j hj => (h.st.lt j hj).2)
      dSP := h.dSP
      dNP := fun j hj e => later_ne hl (fun j hj e => h.dNP j e hj) (fun j hj => (h.pa.lt j hj).2) j e hj
      base := Nat.le_trans h.base hk.size }

theorem CF.newP {P' : List Value} {np' : Nat} {gP' : Option Nat} {vP' : Value} (h : CF w N n fE idx low on S X P np cnt gS gN gP vS vN vP) (hk : Keeps (fun j => j = N + 9 ∨ gP = some j) w w')
    (hl : Later w.heap.size gP gP') (hr : BRow w' (N + 12) (N + 9) 72 4 gP' np' P' vP') : CF w' N n fE idx low on S X P' np' cnt gS gN gP' vS vN vP' := by
  have hb : ∀ b, b < N + 12 → b ≠ N + 9 → ¬ (b = N + 9 ∨ gP = some b) := by
    rintro b h1 h2 (h3 | h3)
    · exact h2 h3
    · have := (h.pa.lt b h3).1; omega
  have hn : ∀ j, gS = some j → ¬ (j = N + 9 ∨ gP = some j) := by
    rintro j h1 (h3 | h3)
    · have := (h.st.lt j h1).1; omega
    · exact h.dSP j h1 h3
  have hp : ∀ j, gN = some j → ¬ (j = N + 9 ∨ gP = some j) := by
    rintro j h1 (h3 | h3)
    · have := (h.nx.lt j h1).1; omega
    · exact h.dNP j h1 h3
  exact
    { ed := h.ed.keep hk (hb _ (by omega) (by omega)), ix := h.ix.keep hk (hb _ (by omega) (by omega)), ixA := h.ixA.keep hk (hb _ (by omega) (by omega))
      lo := h.lo.keep hk (hb _ (by omega) (by omega)), loA := h.loA.keep hk (hb _ (by omega) (by omega)), onB := h.onB.keep hk (hb _ (by omega) (by omega)), onA := h.onA.keep hk (hb _ (by omega) (by omega))
      st := h.st.keep hk (hb _ (by omega) (by omega)) hn, nx := h.nx.keep hk (hb _ (by omega) (by omega)) hp, pa := hr
      re := h.re.keep hk (hb _ (by omega) (by omega)), fo := h.fo.keep hk (hb _ (by omega) (by omega))
      dSN := h.dSN
      dSP := later_ne hl h.dSP (fun j hj => (h.st.lt j hj).2)
      dNP := later_ne hl h.dNP (fun j hj => (h.nx.lt j hj).2)
      base := Nat.le_trans h.base hk.size }
end
end Go.Proofs.Ybulkblzg
