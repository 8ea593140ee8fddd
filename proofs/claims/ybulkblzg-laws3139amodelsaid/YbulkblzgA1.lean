namespace Go.Proofs.Ybulkblzg
set_option linter.unusedVariables false
set_option linter.unusedSimpArgs false

/-- A trie as its arrays say it: F the first children's numbers (one more than nodes), lb the labels, q nodes, of which p have their children. -/
structure Tri (p q : Nat) (fs : List Nat) (lb : Nat → Nat) (str : Nat → List Nat) : Prop where
  len : fs.length = p
  le : p ≤ q
  one : 1 ≤ q
  root : str 0 = []
  f0 : (fs ++ [q])[0]? = some 1
  mono : ∀ (i a b : Nat), (fs ++ [q])[i]? = some a → (fs ++ [q])[i + 1]? = some b → a ≤ b
  up : ∀ (i a : Nat), fs[i]? = some a → i < a
  bnd : ∀ (i a : Nat), fs[i]? = some a → a ≤ q
  kid : ∀ (i a b j : Nat), (fs ++ [q])[i]? = some a → (fs ++ [q])[i + 1]? = some b → a ≤ j → j < b → str j = str i ++ [lb j]
  inc : ∀ (i a b j j' : Nat), (fs ++ [q])[i]? = some a → (fs ++ [q])[i + 1]? = some b → a ≤ j → j < j' → j' < b → lb j < lb j'
  lens : ∀ (i j : Nat), i ≤ j → j < q → (str i).length ≤ (str j).length

theorem tri_start (lb : Nat → Nat) (str : Nat → List Nat) (h : str 0 = []) : Tri 0 1 [] lb str := by
  refine ⟨rfl, by omega, by omega, h, rfl, ?_, by simp, by simp, ?_, ?_, ?_⟩
  · intro i a b h1 h2
    simp at h2
  · intro i a b j h1 h2
    simp at h2
  · intro i a b j j' h1 h2
    simp at h2
  · intro i j h1 h2
    obtain rfl : i = j := by omega
    exact Nat.le_refl _

/-- A node's children begin. -/
theorem Tri.open_ {p q : Nat} {fs : List Nat} {lb : Nat → Nat} {str : Nat → List Nat} (h : Tri p q fs lb str) (hp : p < q) : Tri (p + 1) q (fs ++ [q]) lb str := by
  have hl := h.len
  -- the list with its end: the old list, and q once more
  have old : ∀ (i a : Nat), (fs ++ [q] ++ [q])[i]? = some a → (i ≤ p ∧ (fs ++ [q])[i]? = some a) ∨ (i = p + 1 ∧ a = q) := by
    intro i a ha
    rcases Nat.lt_or_ge i (fs ++ [q]).length with hi | hi
    · rw [List.getElem?_append_left hi] at ha
      simp at hi
      exact .inl ⟨by omega, ha⟩
    · rw [List.getElem?_append_right hi] at ha
      have hi0 : i - (fs ++ [q]).length = 0 := by
        rcases Nat.eq_zero_or_pos (i - (fs ++ [q]).length) with e | e
        · exact e
        · rw [List.getElem?_eq_none (by simp; simp at e; omega)] at ha; cases ha
      rw [hi0] at ha
      simp at ha hi hi0
      exact .inr ⟨by omega, ha.symm⟩
  have atp : (fs ++ [q])[p]? = some q := by rw [List.getElem?_append_right (by omega), hl]; simp
  refine ⟨by simp [hl], by omega, h.one, h.root, ?_, ?_, ?_, ?_, ?_, ?_, h.lens⟩
  · rw [List.getElem?_append_left (by simp)]; exact h.f0
  · intro i a b h1 h2
    rcases old i a h1 with ⟨e1, e2⟩ | ⟨e1, e2⟩
    · rcases old (i + 1) b h2 with ⟨e3, e4⟩ | ⟨e3, e4⟩
      · exact h.mono i a b e2 e4
      · have : i = p := by omega
        subst this
        rw [atp] at e2
        injection e2 with e2
        omega
    · rcases old (i + 1) b h2 with ⟨e3, e4⟩ | ⟨e3, e4⟩ <;> omega
  · intro i a ha
    rcases Nat.lt_or_ge i p with hi | hi
    · rw [List.getElem?_append_left (by omega)] at ha; exact h.up i a ha
    · have hip : i = p := by
        have := (List.getElem?_eq_some_iff.1 ha).1
        simp [hl] at this; omega
      subst hip
      rw [atp] at ha
      injection ha with ha
      omega
  · intro i a ha
    rcases Nat.lt_or_ge i p with hi | hi
    · rw [List.getElem?_append_left (by omega)] at ha; exact h.bnd i a ha
    · have hip : i = p := by
        have := (List.getElem?_eq_some_iff.1 ha).1
        simp [hl] at this; omega
      subst hip
      rw [atp] at ha
      injection ha with ha
      omega
  · intro i a b j h1 h2 h3 h4
    rcases old i a h1 with ⟨e1, e2⟩ | ⟨e1, e2⟩
    · rcases old (i + 1) b h2 with ⟨e3, e4⟩ | ⟨e3, e4⟩
      · exact h.kid i a b j e2 e4 h3 h4
      · have : i = p := by omega
        subst this
        rw [atp] at e2
        injection e2 with e2
        omega
    · rcases old (i + 1) b h2 with ⟨e3, e4⟩ | ⟨e3, e4⟩ <;> omega
  · intro i a b j j' h1 h2 h3 h4 h5
    rcases old i a h1 with ⟨e1, e2⟩ | ⟨e1, e2⟩
    · rcases old (i + 1) b h2 with ⟨e3, e4⟩ | ⟨e3, e4⟩
      · exact h.inc i a b j j' e2 e4 h3 h4 h5
      · have : i = p := by omega
        subst this
        rw [atp] at e2
        injection e2 with e2
        omega
    · rcases old (i + 1) b h2 with ⟨e3, e4⟩ | ⟨e3, e4⟩ <;> omega

def setF {α : Type} (f : Nat → α) (k : Nat) (x : α) : Nat → α := fun j => if j = k then x else f j
theorem setF_same {α : Type} (f : Nat → α) (k : Nat) (x : α) : setF f k x k = x := by simp [setF]
theorem setF_other {α : Type} (f : Nat → α) (k : Nat) (x : α) (j : Nat) (h : j ≠ k) : setF f k x j = f j := by simp [setF, h]

/-- One child more of the last node that was opened. -/
theorem Tri.kid_ {p q : Nat} {fs : List Nat} {lb : Nat → Nat} {str : Nat → List Nat} (h : Tri (p + 1) q fs lb str) {b : Nat} (hb : ∀ (a : Nat), fs[p]? = some a → ∀ j, a ≤ j → j < q → lb j < b)
    (hlen : ∀ j, j < q → (str j).length ≤ (str p).length + 1) : Tri (p + 1) (q + 1) fs (setF lb q b) (setF str q (str p ++ [b])) := by
  have hl := h.len
  have hpq := h.le
  have old : ∀ (i a : Nat), (fs ++ [q + 1])[i]? = some a → (i ≤ p ∧ (fs ++ [q])[i]? = some a ∧ fs[i]? = some a) ∨ (i = p + 1 ∧ a = q + 1) := by
    intro i a ha
    rcases Nat.lt_or_ge i fs.length with hi | hi
    · rw [List.getElem?_append_left hi] at ha
      exact .inl ⟨by omega, by rw [List.getElem?_append_left hi]; exact ha, ha⟩
    · rw [List.getElem?_append_right hi] at ha
      have hi0 : i - fs.length = 0 := by
        rcases Nat.eq_zero_or_pos (i - fs.length) with e | e
        · exact e
        · rw [List.getElem?_eq_none (by simp; omega)] at ha; cases ha
      rw [hi0] at ha
      simp at ha
      exact .inr ⟨by omega, ha.symm⟩
  have endq : (fs ++ [q])[p + 1]? = some q := by rw [List.getElem?_append_right (by omega), hl]; simp
  refine ⟨hl, by omega, by omega, ?_, ?_, ?_, h.up, fun i a ha => Nat.le_succ_of_le (h.bnd i a ha), ?_, ?_, ?_⟩
  · rw [setF_other _ _ _ _ (by have := h.one; omega)]; exact h.root
  · have := h.f0
    rw [List.getElem?_append_left (by omega)] at this ⊢
    exact this
  · intro i a b' h1 h2
    rcases old i a h1 with ⟨e1, e2, e5⟩ | ⟨e1, e2⟩
    · rcases old (i + 1) b' h2 with ⟨e3, e4, e6⟩ | ⟨e3, e4⟩
      · exact h.mono i a b' e2 e4
      · have := h.bnd i a e5; omega
    · rcases old (i + 1) b' h2 with ⟨e3, e4, e6⟩ | ⟨e3, e4⟩ <;> omega
  · intro i a b' j h1 h2 h3 h4
    rcases old i a h1 with ⟨e1, e2, e5⟩ | ⟨e1, e2⟩
    · have hiq : i ≠ q := by omega
      rcases old (i + 1) b' h2 with ⟨e3, e4, e6⟩ | ⟨e3, e4⟩
      · have hjq : j ≠ q := by have := h.bnd (i + 1) b' e6; omega
        rw [setF_other _ _ _ _ hjq, setF_other _ _ _ _ hiq, setF_other _ _ _ _ hjq]
        exact h.kid i a b' j e2 e4 h3 h4
      · have hip : i = p := by omega
        subst hip
        by_cases hjq : j = q
        · subst hjq; rw [setF_same, setF_same, setF_other _ _ _ _ hiq]
        · rw [setF_other _ _ _ _ hjq, setF_other _ _ _ _ hiq, setF_other _ _ _ _ hjq]
          exact h.kid i a q j e2 endq h3 (by omega)
    · rcases old (i + 1) b' h2 with ⟨e3, e4, e6⟩ | ⟨e3, e4⟩ <;> omega
  · intro i a b' j j' h1 h2 h3 h4 h5
    rcases old i a h1 with ⟨e1, e2, e5⟩ | ⟨e1, e2⟩
    · rcases old (i + 1) b' h2 with ⟨e3, e4, e6⟩ | ⟨e3, e4⟩
      · have hjq : j' < q := by have := h.bnd (i + 1) b' e6; omega
        rw [setF_other _ _ _ _ (by omega), setF_other _ _ _ _ (by omega)]
        exact h.inc i a b' j j' e2 e4 h3 h4 h5
      · have hip : i = p := by omega
        subst hip
        by_cases hjq : j' = q
        · subst hjq
          rw [setF_same, setF_other _ _ _ _ (by omega)]
          exact hb a e5 j h3 h4
        · rw [setF_other _ _ _ _ (by omega), setF_other _ _ _ _ hjq]
          exact h.inc i a q j j' e2 endq h3 h4 (by omega)
    · rcases old (i + 1) b' h2 with ⟨e3, e4, e6⟩ | ⟨e3, e4⟩ <;> omega
  · intro i j h1 h2
    by_cases hj : j = q
    · subst hj
      rw [setF_same]
      by_cases hi : i = j
      · subst hi; rw [setF_same]; exact Nat.le_refl _
      · rw [setF_other _ _ _ _ hi]
        have := hlen i (by omega)
        simpa using this
    · rw [setF_other _ _ _ _ hj, setF_other _ _ _ _ (by omega)]
      exact h.lens i j h1 (by omega)
end Go.Proofs.Ybulkblzg
