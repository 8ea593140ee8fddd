import Derived.Test.YbulkblzgA1
namespace Go.Proofs.Ybulkblzg
set_option linter.unusedVariables false
set_option linter.unusedSimpArgs false

/-- The order of strings, byte by byte. -/
def slt : List Nat → List Nat → Bool
  | _, [] => false
  | [], _ :: _ => true
  | a :: x, b :: y => if a < b then true else if b < a then false else slt x y
theorem slt_append (s x y : List Nat) : slt (s ++ x) (s ++ y) = slt x y := by
  induction s with
  | nil => rfl
  | cons a s ih => simp [slt, ih]
theorem slt_cons_nil {a : Nat} {x y : List Nat} (h : slt y (a :: x) = false) : ∃ b y', y = b :: y' ∧ a ≤ b := by
  cases y with
  | nil => simp [slt] at h
  | cons b y' =>
    refine ⟨b, y', rfl, ?_⟩
    rcases Nat.lt_or_ge b a with e | e
    · simp [slt, e] at h
    · exact e

def RunsOK (k : Nat) (P : Nat → List Nat) (d bs : Nat) (Lv : List (Nat × Nat)) (str : Nat → List Nat) : Prop :=
  ∀ (i f t : Nat), Lv[i]? = some (f, t) → f ≤ t ∧ t ≤ k ∧ (str (bs + i)).length = d ∧ ∀ j, f ≤ j → j < t → ∃ y, P j = str (bs + i) ++ y

structure Core (k : Nat) (P : Nat → List Nat) (d bs : Nat) (Lv Nx : List (Nat × Nat)) (p q : Nat) (fs : List Nat) (lb : Nat → Nat) (str : Nat → List Nat) (no : Nat → Nat) (pend : Nat → Prop) : Prop where
  tri : Tri p q fs lb str
  qe : q = bs + Lv.length + Nx.length
  lv : RunsOK k P d bs Lv str
  nx : RunsOK k P (d + 1) (bs + Lv.length) Nx str
  lo : ∀ j, j < bs + Lv.length → (str j).length ≤ d
  asc : ∀ (i i' f t f' t' : Nat), i < i' → Lv[i]? = some (f, t) → Lv[i']? = some (f', t') → t ≤ f'
  ascN : ∀ (i i' f t f' t' : Nat), i < i' → Nx[i]? = some (f, t) → Nx[i']? = some (f', t') → t ≤ f'
  cov : ∀ j, j < k → (no j < q ∧ str (no j) = P j) ∨ pend j ∨ ∃ (i f t : Nat), Nx[i]? = some (f, t) ∧ f ≤ j ∧ j < t
  bsb : bs ≤ (k + 1) * d
  lvb : Lv.length ≤ k + 1

/-- Pending: what the runs from r on hold. -/
def pendL (Lv : List (Nat × Nat)) (r j : Nat) : Prop := ∃ (i f t : Nat), r ≤ i ∧ Lv[i]? = some (f, t) ∧ f ≤ j ∧ j < t
def pendX (Lv : List (Nat × Nat)) (r x t j : Nat) : Prop := (x ≤ j ∧ j < t) ∨ pendL Lv (r + 1) j

theorem core_start (k : Nat) (P : Nat → List Nat) (lb : Nat → Nat) (str : Nat → List Nat) (no : Nat → Nat) (h : str 0 = []) : Core k P 0 0 [(0, k)] [] 0 1 [] lb str no (pendL [(0, k)] 0) := by
  refine ⟨tri_start lb str h, rfl, ?_, fun i f t hi => by simp at hi, ?_, ?_, fun i i' f t f' t' _ hi => by simp at hi, ?_, by omega, by simp⟩
  · intro i f t hi
    cases i with
    | zero =>
      simp at hi
      obtain ⟨rfl, rfl⟩ := hi
      exact ⟨Nat.zero_le _, Nat.le_refl _, by simp [h], fun j _ _ => ⟨P j, by simp [h]⟩⟩
    | succ i => simp at hi
  · intro j hj
    obtain rfl : j = 0 := by simp at hj; omega
    simp [h]
  · intro i i' f t f' t' hii h1 h2
    cases i' with
    | zero => omega
    | succ i' => simp at h2
  · intro j hj
    exact .inr (.inl ⟨0, 0, k, Nat.le_refl _, rfl, Nat.zero_le _, hj⟩)

section
variable {k : Nat} {P : Nat → List Nat} {d bs : Nat} {Lv Nx : List (Nat × Nat)} {p q : Nat} {fs : List Nat} {lb : Nat → Nat} {str : Nat → List Nat} {no : Nat → Nat}

/-- A run begins: its node is opened. -/
theorem core_open {r f t : Nat} (h : Core k P d bs Lv Nx (bs + r) q fs lb str no (pendL Lv r)) (hr : Lv[r]? = some (f, t)) : Core k P d bs Lv Nx (bs + r + 1) q (fs ++ [q]) lb str no (pendX Lv r f t) := by
  have hrl : r < Lv.length := (List.getElem?_eq_some_iff.1 hr).1
  refine ⟨h.tri.open_ (by rw [h.qe]; omega), h.qe, h.lv, h.nx, h.lo, h.asc, h.ascN, fun j hj => ?_, h.bsb, h.lvb⟩
  rcases h.cov j hj with e | ⟨i, f', t', h1, h2, h3, h4⟩ | e
  · exact .inl e
  · by_cases e : i = r
    · subst e
      rw [hr] at h2
      injection h2 with h2
      injection h2 with h2 h2'
      subst h2 h2'
      exact .inr (.inl (.inl ⟨h3, h4⟩))
    · exact .inr (.inl (.inr ⟨i, f', t', by omega, h2, h3, h4⟩))
  · exact .inr (.inr e)

/-- A string that is the node's own. -/
theorem core_own {r f t x : Nat} (h : Core k P d bs Lv Nx (bs + r + 1) q fs lb str no (pendX Lv r x t)) (hr : Lv[r]? = some (f, t)) (hf : f ≤ x) (hx : x < t) (hl : (P x).length = d) :
    Core k P d bs Lv Nx (bs + r + 1) q fs lb str (setF no x (bs + r)) (pendX Lv r (x + 1) t) := by
  have hrl : r < Lv.length := (List.getElem?_eq_some_iff.1 hr).1
  obtain ⟨h1, h2, h3, h4⟩ := h.lv r f t hr
  refine ⟨h.tri, h.qe, h.lv, h.nx, h.lo, h.asc, h.ascN, fun j hj => ?_, h.bsb, h.lvb⟩
  by_cases e : j = x
  · subst e
    refine .inl ⟨by rw [setF_same, h.qe]; omega, ?_⟩
    rw [setF_same]
    obtain ⟨y, hy⟩ := h4 j hf hx
    have : y = [] := by
      have := congrArg List.length hy
      simp at this
      exact List.eq_nil_of_length_eq_zero (by omega)
    rw [hy, this]; simp
  · rw [setF_other _ _ _ _ e]
    rcases h.cov j hj with c | (c | c) | c
    · exact .inl c
    · exact .inr (.inl (.inl ⟨by omega, c.2⟩))
    · exact .inr (.inl (.inr c))
    · exact .inr (.inr c)

/-- From here on the run's strings are longer than the node's. -/
theorem runs_longer (hs : ∀ i j, i ≤ j → j < k → slt (P j) (P i) = false) {s : List Nat} {x t : Nat} (htk : t ≤ k) (hp : ∀ j, x ≤ j → j < t → ∃ y, P j = s ++ y) (hx : x < t) (hl : (P x).length ≠ s.length) :
    ∀ j, x ≤ j → j < t → ∃ b y, P j = s ++ b :: y ∧ ∀ b0 y0, P x = s ++ b0 :: y0 → b0 ≤ b := by
  obtain ⟨y, hy⟩ := hp x (Nat.le_refl _) hx
  obtain ⟨a, y', rfl⟩ : ∃ a y', y = a :: y' := by
    cases y with
    | nil => simp [hy] at hl
    | cons a y' => exact ⟨a, y', rfl⟩
  intro j hj hjt
  obtain ⟨z, hz⟩ := hp j hj hjt
  have h1 := hs x j hj (by omega)
  rw [hy, hz, slt_append] at h1
  obtain ⟨b, z', rfl, hab⟩ := slt_cons_nil h1
  refine ⟨b, z', hz, fun b0 y0 e => ?_⟩
  rw [hy] at e
  have := List.append_cancel_left e
  injection this with e1 e2
  omega

/-- One group: the strings from x to to that go on with byte b. -/
theorem core_group {r f t x to b : Nat} (h : Core k P d bs Lv Nx (bs + r + 1) q fs lb str no (pendX Lv r x t)) (hr : Lv[r]? = some (f, t)) (hf : f ≤ x) (hxt : x < to) (hto : to ≤ t)
    (hb : ∀ j, x ≤ j → j < to → ∃ y, P j = str (bs + r) ++ b :: y) (hlab : ∀ (a : Nat), fs[bs + r]? = some a → ∀ c, a ≤ c → c < q → lb c < b) (hnx : ∀ (i f' t' : Nat), Nx[i]? = some (f', t') → t' ≤ x) :
    Core k P d bs Lv (Nx ++ [(x, to)]) (bs + r + 1) (q + 1) fs (setF lb q b) (setF str q (str (bs + r) ++ [b])) no (pendX Lv r to t) := by
  have hrl : r < Lv.length := (List.getElem?_eq_some_iff.1 hr).1
  obtain ⟨h1, h2, h3, h4⟩ := h.lv r f t hr
  have hq := h.qe
  have hold : ∀ j, j < q → setF str q (str (bs + r) ++ [b]) j = str j := fun j hj => setF_other _ _ _ _ (by omega)
  refine ⟨h.tri.kid_ hlab (fun j hj => ?_), by simp; omega, ?_, ?_, ?_, h.asc, ?_, ?_, h.bsb, h.lvb⟩
  · rw [h3]
    rcases Nat.lt_or_ge j (bs + Lv.length) with e | e
    · have := h.lo j e; omega
    · obtain ⟨f', t', e'⟩ : ∃ f' t', Nx[j - (bs + Lv.length)]? = some (f', t') := by
        have hl : j - (bs + Lv.length) < Nx.length := by omega
        exact ⟨_, _, List.getElem?_eq_getElem hl⟩
      obtain ⟨_, _, hl, _⟩ := h.nx _ f' t' e'
      rw [show bs + Lv.length + (j - (bs + Lv.length)) = j by omega] at hl
      omega
  · intro i f' t' hi
    have hil : i < Lv.length := (List.getElem?_eq_some_iff.1 hi).1
    rw [hold (bs + i) (by omega)]
    exact h.lv i f' t' hi
  · intro i f' t' hi
    rcases Nat.lt_or_ge i Nx.length with e | e
    · rw [List.getElem?_append_left e] at hi
      rw [hold _ (by omega)]
      exact h.nx i f' t' hi
    · have hil : i < (Nx ++ [(x, to)]).length := (List.getElem?_eq_some_iff.1 hi).1
      have hin : i = Nx.length := by simp at hil; omega
      subst hin
      rw [List.getElem?_append_right (Nat.le_refl _)] at hi
      simp at hi
      obtain ⟨rfl, rfl⟩ := hi
      rw [show bs + Lv.length + Nx.length = q by omega, setF_same]
      refine ⟨by omega, by omega, by simp [h3], fun j hj1 hj2 => ?_⟩
      obtain ⟨y, hy⟩ := hb j hj1 hj2
      exact ⟨y, by rw [hy]; simp⟩
  · intro j hj
    rw [hold j (by omega)]
    exact h.lo j hj
  · intro i i' f1 t1 f2 t2 hii e1 e2
    rcases Nat.lt_or_ge i' Nx.length with e | e
    · rw [List.getElem?_append_left (by omega)] at e1
      rw [List.getElem?_append_left e] at e2
      exact h.ascN i i' f1 t1 f2 t2 hii e1 e2
    · have hil : i' < (Nx ++ [(x, to)]).length := (List.getElem?_eq_some_iff.1 e2).1
      have hin : i' = Nx.length := by simp at hil; omega
      subst hin
      rw [List.getElem?_append_right (Nat.le_refl _)] at e2
      simp at e2
      rw [List.getElem?_append_left (by omega)] at e1
      have := hnx i f1 t1 e1
      omega
  · intro j hj
    rcases h.cov j hj with ⟨c1, c2⟩ | (c | c) | ⟨i, f', t', c1, c2⟩
    · exact .inl ⟨by omega, by rw [hold _ c1]; exact c2⟩
    · rcases Nat.lt_or_ge j to with e | e
      · exact .inr (.inr ⟨Nx.length, x, to, by rw [List.getElem?_append_right (Nat.le_refl _)]; simp, c.1, e⟩)
      · exact .inr (.inl (.inl ⟨e, c.2⟩))
    · exact .inr (.inl (.inr c))
    · have hil : i < Nx.length := (List.getElem?_eq_some_iff.1 c1).1
      exact .inr (.inr ⟨i, f', t', by rw [List.getElem?_append_left hil]; exact c1, c2⟩)

/-- The run ends. -/
theorem core_close {r t : Nat} (h : Core k P d bs Lv Nx (bs + r + 1) q fs lb str no (pendX Lv r t t)) : Core k P d bs Lv Nx (bs + (r + 1)) q fs lb str no (pendL Lv (r + 1)) := by
  refine ⟨h.tri, h.qe, h.lv, h.nx, h.lo, h.asc, h.ascN, fun j hj => ?_, h.bsb, h.lvb⟩
  rcases h.cov j hj with c | (c | c) | c
  · exact .inl c
  · omega
  · exact .inr (.inl c)
  · exact .inr (.inr c)

/-- The level ends. -/
theorem core_next (h : Core k P d bs Lv Nx (bs + Lv.length) q fs lb str no (pendL Lv Lv.length)) (hb : Nx.length ≤ k + 1) :
    Core k P (d + 1) (bs + Lv.length) Nx [] (bs + Lv.length) q fs lb str no (pendL Nx 0) := by
  refine ⟨h.tri, by have := h.qe; simp; omega, h.nx, fun i f t hi => by simp at hi, fun j hj => ?_, h.ascN, fun i i' f t f' t' _ hi => by simp at hi, fun j hj => ?_, ?_, by omega⟩
  · rcases Nat.lt_or_ge j (bs + Lv.length) with e | e
    · have := h.lo j e; omega
    · obtain ⟨f', t', e'⟩ : ∃ f' t', Nx[j - (bs + Lv.length)]? = some (f', t') := by
        have hl : j - (bs + Lv.length) < Nx.length := by omega
        exact ⟨_, _, List.getElem?_eq_getElem hl⟩
      obtain ⟨_, _, hl, _⟩ := h.nx _ f' t' e'
      rw [show bs + Lv.length + (j - (bs + Lv.length)) = j by omega] at hl
      omega
  · rcases h.cov j hj with c | ⟨i, f, t, c1, c2, c3⟩ | ⟨i, f, t, c1, c2⟩
    · exact .inl c
    · have := (List.getElem?_eq_some_iff.1 c2).1; omega
    · exact .inr (.inl ⟨i, f, t, Nat.zero_le _, c1, c2⟩)
  · have hbs := h.bsb
    have hl := h.lvb
    rw [Nat.mul_add]; omega

/-- All levels are done. -/
theorem core_end (h : Core k P d bs [] [] bs q fs lb str no (pendL [] 0)) : Tri q q fs lb str ∧ ∀ j, j < k → no j < q ∧ str (no j) = P j := by
  have hq := h.qe
  simp at hq
  subst hq
  refine ⟨h.tri, fun j hj => ?_⟩
  rcases h.cov j hj with c | ⟨i, f, t, c1, c2, c3⟩ | ⟨i, f, t, c1, c2⟩
  · exact c
  · simp at c2
  · simp at c1
end
end Go.Proofs.Ybulkblzg
