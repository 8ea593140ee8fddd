import Derived.Test.YbulkblzgE
namespace Go.Proofs.Ybulkblzg
open Go.RowKit
set_option linter.unusedVariables false
set_option linter.unusedSimpArgs false

def cF (f : Nat → Bool) : Nat → Nat
  | 0 => 0
  | n + 1 => cF f n + if f n then 0 else 1
theorem cF_congr {f g : Nat → Bool} : ∀ n, (∀ i, i < n → f i = g i) → cF f n = cF g n
  | 0, _ => rfl
  | n + 1, h => by
    have h1 := cF_congr n (fun i hi => h i (by omega))
    have h2 := h n (by omega)
    simp only [cF, h1, h2]
theorem cF_set (f : Nat → Bool) (y : Nat) (hy : f y = false) (n : Nat) (hn : y < n) : cF (fun i => if i = y then true else f i) n + 1 = cF f n := by
  generalize hg : (fun i => if i = y then true else f i) = g
  have gy : g y = true := by rw [← hg]; simp
  have go : ∀ i, i ≠ y → g i = f i := fun i hi => by rw [← hg]; simp [hi]
  clear hg
  induction n with
  | zero => omega
  | succ n ih =>
    by_cases e : y = n
    · subst e
      have h1 := cF_congr (f := g) (g := f) y (fun i hi => go i (by omega))
      simp [cF, h1, gy, hy]
    · have h1 := ih (by omega)
      have h2 := go n (fun h => e h.symm)
      simp only [cF, h2]
      omega

/-- The list of what is still to be looked at, and what has been reached from s. -/
structure WL (adj : Nat → List Nat) (n s : Nat) (f : Nat → Bool) (st : List Nat) : Prop where
  src : f s = true
  on : ∀ x ∈ st, x < n ∧ f x = true
  sound : ∀ x, x < n → f x = true → Rch adj s x
  shut : ∀ x, x < n → f x = true → x ∈ st ∨ ∀ y ∈ adj x, f y = true
  sz : st.length + cF f n ≤ n

/-- The like, while the edges of v are looked at: those ahead of ii are done. -/
structure WE (adj : Nat → List Nat) (n s v ii : Nat) (f : Nat → Bool) (st : List Nat) : Prop where
  src : f s = true
  on : ∀ x ∈ st, x < n ∧ f x = true
  sound : ∀ x, x < n → f x = true → Rch adj s x
  shut : ∀ x, x < n → f x = true → x ∈ st ∨ x = v ∨ ∀ y ∈ adj x, f y = true
  done : ∀ y ∈ (adj v).take ii, f y = true
  fv : f v = true
  sz : st.length + cF f n ≤ n

theorem cF_le (f : Nat → Bool) : ∀ n, cF f n ≤ n
  | 0 => Nat.le_refl _
  | n + 1 => by
    have := cF_le f n
    simp only [cF]
    split <;> omega

theorem wl_start (adj : Nat → List Nat) (n s : Nat) (hs : s < n) : WL adj n s (fun i => if i = s then true else false) [s] := by
  refine ⟨by simp, fun x hx => ?_, fun x hx h => ?_, fun x hx h => ?_, ?_⟩
  · rw [List.mem_singleton] at hx; subst hx; exact ⟨hs, by simp⟩
  · have : x = s := by
      by_cases e : x = s
      · exact e
      · simp [e] at h
    subst this; exact .refl _
  · have : x = s := by
      by_cases e : x = s
      · exact e
      · simp [e] at h
    subst this; exact .inl (by simp)
  · have h1 := cF_set (fun _ => false) s rfl n hs
    have h2 := cF_le (fun _ => false) n
    simp only [List.length_cons, List.length_nil]
    omega
theorem wl_pop {adj : Nat → List Nat} {n s v : Nat} {f : Nat → Bool} {st : List Nat} (h : WL adj n s f (st ++ [v])) : WE adj n s v 0 f st := by
  refine ⟨h.src, fun x hx => h.on x (by simp [hx]), h.sound, fun x hx hf => ?_, by simp, (h.on v (by simp)).2, by have := h.sz; simp at this; omega⟩
  rcases h.shut x hx hf with e | e
  · rcases List.mem_append.1 e with e | e
    · exact .inl e
    · exact .inr (.inl (by simpa using e))
  · exact .inr (.inr e)
theorem we_skip {adj : Nat → List Nat} {n s v ii y : Nat} {f : Nat → Bool} {st : List Nat} (h : WE adj n s v ii f st) (hy : (adj v)[ii]? = some y) (hf : f y = true) : WE adj n s v (ii + 1) f st := by
  refine ⟨h.src, h.on, h.sound, h.shut, fun z hz => ?_, h.fv, h.sz⟩
  rw [List.take_add_one, hy] at hz
  rcases List.mem_append.1 hz with hz | hz
  · exact h.done z hz
  · obtain rfl : z = y := by simpa using hz
    exact hf
theorem we_new {adj : Nat → List Nat} {n s v ii y : Nat} {f : Nat → Bool} {st : List Nat} (h : WE adj n s v ii f st) (hv : v < n) (hy : (adj v)[ii]? = some y) (hyn : y < n) (hfy : f y = false) : WE adj n s v (ii + 1) (fun i => if i = y then true else f i) (st ++ [y]) := by
  have hmono : ∀ z, f z = true → (fun i => if i = y then true else f i) z = true := fun z hz => by simp only; split <;> simp [hz]
  refine ⟨hmono _ h.src, fun x hx => ?_, fun x hx hf => ?_, fun x hx hf => ?_, fun z hz => ?_, hmono _ h.fv, by have h1 := cF_set f y hfy n hyn; have h2 := h.sz; simp only [List.length_append, List.length_cons, List.length_nil]; omega⟩
  · rcases List.mem_append.1 hx with hx | hx
    · exact ⟨(h.on x hx).1, hmono _ (h.on x hx).2⟩
    · obtain rfl : x = y := by simpa using hx
      exact ⟨hyn, by simp⟩
  · by_cases e : x = y
    · subst e; exact .tail (h.sound v hv h.fv) (List.mem_of_getElem? hy)
    · simp only [if_neg e] at hf; exact h.sound x hx hf
  · by_cases e : x = y
    · subst e; exact .inl (by simp)
    · simp only [if_neg e] at hf
      rcases h.shut x hx hf with e | e | e
      · exact .inl (by simp [e])
      · exact .inr (.inl e)
      · exact .inr (.inr fun z hz => hmono z (e z hz))
  · rw [List.take_add_one, hy] at hz
    rcases List.mem_append.1 hz with hz | hz
    · exact hmono z (h.done z hz)
    · obtain rfl : z = y := by simpa using hz
      simp
theorem we_end {adj : Nat → List Nat} {n s v : Nat} {f : Nat → Bool} {st : List Nat} (h : WE adj n s v (adj v).length f st) : WL adj n s f st := by
  refine ⟨h.src, h.on, h.sound, fun x hx hf => ?_, h.sz⟩
  rcases h.shut x hx hf with e | e | e
  · exact .inl e
  · subst e; exact .inr fun y hy => h.done y (by rw [List.take_length]; exact hy)
  · exact .inr e
theorem wl_end {adj : Nat → List Nat} {n s : Nat} (hadj : ∀ v, v < n → ∀ x ∈ adj v, x < n) (hs : s < n) {f : Nat → Bool} (h : WL adj n s f []) : ∀ x, x < n → (f x = true ↔ Rch adj s x) := by
  intro x hx
  refine ⟨h.sound x hx, fun hr => ?_⟩
  have : ∀ a b, Rch adj a b → a = s → b < n ∧ f b = true := by
    intro a b hr
    induction hr with
    | refl => rintro rfl; exact ⟨hs, h.src⟩
    | tail _ e ih =>
      intro ha
      obtain ⟨i1, i2⟩ := ih ha
      rcases h.shut _ i1 i2 with e1 | e1
      · cases e1
      · exact ⟨hadj _ i1 _ e, e1 _ e⟩
  exact (this s x hr rfl).2

/-- The rows of the matrix ahead of ss are there. -/
structure PR (w : World) (ra n : Nat) (adj : Nat → List Nat) (ss : Nat) : Prop where
  cells : ∀ i, i < n → ∃ v, w.cell? ⟨ra, i, none⟩ = some v ∧ w.frozen? ⟨ra, i, none⟩ = false
  rows : ∀ s, s < ss → ∃ g, w.cell? ⟨ra, s, none⟩ = some (.slice (some ⟨g, 0, none⟩) n n) ∧ ra < g ∧ g < w.heap.size ∧ ∃ f : Nat → Bool, (∀ x, x < n → w.cell? ⟨g, x, none⟩ = some (.bool (f x))) ∧ ∀ x, x < n → (f x = true ↔ Rch adj s x)
  lt : ra < w.heap.size

structure IsReach (w : World) (hi ra n : Nat) (adj : Nat → List Nat) : Prop where
  le : hi ≤ w.heap.size
  rows : ∀ s, s < n → ∃ g, w.cell? ⟨ra, s, none⟩ = some (.slice (some ⟨g, 0, none⟩) n n) ∧ g < hi ∧ ∃ f : Nat → Bool, (∀ x, x < n → w.cell? ⟨g, x, none⟩ = some (.bool (f x))) ∧ ∀ x, x < n → (f x = true ↔ Rch adj s x)
  lt : ra < hi
theorem IsReach.below {w w' : World} {hi ra n : Nat} {adj : Nat → List Nat} (h : IsReach w hi ra n adj) (hb : Below hi w w') : IsReach w' hi ra n adj := by
  refine ⟨Nat.le_trans h.le hb.size, fun s hs => ?_, h.lt⟩
  obtain ⟨g, h1, h2, f, h3, h4⟩ := h.rows s hs
  exact ⟨g, by rw [hb.cell (by exact h.lt)]; exact h1, h2, f, fun x hx => by rw [hb.cell (by exact h2)]; exact h3 x hx, h4⟩

theorem PR.below {w w' : World} {ra n : Nat} {adj : Nat → List Nat} {ss : Nat} (h : PR w ra n adj ss) (hb : Below w.heap.size w w') : PR w' ra n adj ss := by
  refine ⟨fun i hi => ?_, fun s hs => ?_, Nat.lt_of_lt_of_le h.lt hb.size⟩
  · obtain ⟨v, h1, h2⟩ := h.cells i hi
    exact ⟨v, by rw [hb.cell (by exact h.lt)]; exact h1, by rw [hb.frozen (by exact h.lt)]; exact h2⟩
  · obtain ⟨g, h1, h2, h3, f, h4, h5⟩ := h.rows s hs
    exact ⟨g, by rw [hb.cell (by exact h.lt)]; exact h1, h2, Nat.lt_of_lt_of_le h3 hb.size, f, fun x hx => by rw [hb.cell (by exact h3)]; exact h4 x hx, h5⟩
theorem PR.push {w : World} {ra n : Nat} {adj : Nat → List Nat} {ss g : Nat} (h : PR w ra n adj ss) (hs : ss < n) (hg : ra < g) (hgs : g < w.heap.size) {f : Nat → Bool} (hf : ∀ x, x < n → w.cell? ⟨g, x, none⟩ = some (.bool (f x))) (hr : ∀ x, x < n → (f x = true ↔ Rch adj ss x)) :
    PR (w.setCell ⟨ra, ss, none⟩ (.slice (some ⟨g, 0, none⟩) n n)) ra n adj (ss + 1) := by
  have hsz : (w.setCell ⟨ra, ss, none⟩ (.slice (some ⟨g, 0, none⟩) n n)).heap.size = w.heap.size := by simp [World.setCell]
  refine ⟨fun i hi => ?_, fun s hs' => ?_, by rw [hsz]; exact h.lt⟩
  · obtain ⟨v, h1, h2⟩ := h.cells i hi
    by_cases e : i = ss
    · subst e; exact ⟨_, World.cell?_setCell_same _ _ _ h1, by rw [World.frozen?_setCell]; exact h2⟩
    · exact ⟨v, by rw [World.cell?_setCell_other _ _ _ _ (by intro hh; injection hh; omega)]; exact h1, by rw [World.frozen?_setCell]; exact h2⟩
  · by_cases e : s = ss
    · subst e
      obtain ⟨v, h1, h2⟩ := h.cells s hs
      exact ⟨g, World.cell?_setCell_same _ _ _ h1, hg, by rw [hsz]; exact hgs, f, fun x hx => by rw [World.cell?_setCell_other _ _ _ _ (by intro hh; injection hh; omega)]; exact hf x hx, hr⟩
    · obtain ⟨g', h1, h2, h3, f', h4, h5⟩ := h.rows s (by omega)
      exact ⟨g', by rw [World.cell?_setCell_other _ _ _ _ (by intro hh; injection hh; omega)]; exact h1, h2, by rw [hsz]; exact h3, f', fun x hx => by rw [World.cell?_setCell_other _ _ _ _ (by intro hh; injection hh; omega)]; exact h4 x hx, h5⟩

/-- The state of one source's walk. -/
structure RW (w0 w : World) (g n : Nat) (f : Nat → Bool) (st : List Nat) (v : Value) : Prop where
  arr : Arr w g n (fun i => .bool (f i))
  row : w.ownsRow (g + 1) 3 1 v st.length (ints st)
  blw : Below g w0 w
  le : g + 1 ≤ w.heap.size
noncomputable def rwM (adj : Nat → List Nat) (w0 : World) (g n s : Nat) (v : Value) (w : World) : Nat :=
  least (fun q => ∃ (f : Nat → Bool) (st : List Nat), WL adj n s f st ∧ RW w0 w g n f st v ∧ 2 * cF f n + st.length = q)

theorem rw_min {adj : Nat → List Nat} {w0 w : World} {g n s : Nat} {v : Value} (h : ∃ (f : Nat → Bool) (st : List Nat), Hid (WL adj n s f st ∧ RW w0 w g n f st v)) :
    ∃ (f : Nat → Bool) (st : List Nat), Hid (WL adj n s f st ∧ RW w0 w g n f st v) ∧ Hid (2 * cF f n + st.length = rwM adj w0 g n s v w) := by
  obtain ⟨f, st, h1, h2⟩ := h
  obtain ⟨f', st', h3, h4, h5⟩ := least_spec (p := fun q => ∃ (f : Nat → Bool) (st : List Nat), WL adj n s f st ∧ RW w0 w g n f st v ∧ 2 * cF f n + st.length = q) ⟨f, st, h1, h2, rfl⟩
  exact ⟨f', st', ⟨h3, h4⟩, h5⟩
theorem rw_le {adj : Nat → List Nat} {w0 w : World} {g n s : Nat} {v : Value} {f : Nat → Bool} {st : List Nat} (h1 : WL adj n s f st) (h2 : RW w0 w g n f st v) : rwM adj w0 g n s v w ≤ 2 * cF f n + st.length :=
  least_le (p := fun q => ∃ (f : Nat → Bool) (st : List Nat), WL adj n s f st ∧ RW w0 w g n f st v ∧ 2 * cF f n + st.length = q) ⟨f, st, h1, h2, rfl⟩
end Go.Proofs.Ybulkblzg
