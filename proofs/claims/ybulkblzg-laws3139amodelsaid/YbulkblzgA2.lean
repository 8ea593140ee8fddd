namespace Go.Proofs.Ybulkblzg
set_option linter.unusedVariables false
set_option linter.unusedSimpArgs false

structure TrieOK (N : Nat) (F : Nat → Nat) (lb : Nat → Nat) (str : Nat → List Nat) : Prop where
  one : 1 ≤ N
  root : str 0 = []
  F0 : F 0 = 1
  FN : F N = N
  mono : ∀ i, i < N → F i ≤ F (i + 1)
  up : ∀ i, i < N → i < F i
  kid : ∀ i j, i < N → F i ≤ j → j < F (i + 1) → str j = str i ++ [lb j]
  inc : ∀ i j j', i < N → F i ≤ j → j < j' → j' < F (i + 1) → lb j < lb j'
  lens : ∀ i j, i ≤ j → j < N → (str i).length ≤ (str j).length

section
variable {N : Nat} {F : Nat → Nat} {lb : Nat → Nat} {str : Nat → List Nat}

theorem TrieOK.mono' (h : TrieOK N F lb str) {i j : Nat} (hij : i ≤ j) (hj : j ≤ N) : F i ≤ F j := by
  induction j with
  | zero => obtain rfl : i = 0 := by omega
            exact Nat.le_refl _
  | succ j ih =>
    by_cases e : i = j + 1
    · subst e; exact Nat.le_refl _
    · exact Nat.le_trans (ih (by omega) (by omega)) (h.mono j (by omega))
theorem TrieOK.fle (h : TrieOK N F lb str) {i : Nat} (hi : i ≤ N) : F i ≤ N := by have := h.mono' hi (Nat.le_refl _); rw [h.FN] at this; exact this

theorem TrieOK.parent (h : TrieOK N F lb str) {j : Nat} (h1 : 1 ≤ j) (hj : j < N) : ∃ i, i < N ∧ i < j ∧ F i ≤ j ∧ j < F (i + 1) := by
  have key : ∀ m, m ≤ N → j < F m → ∃ i, i < m ∧ F i ≤ j ∧ j < F (i + 1) := by
    intro m
    induction m with
    | zero => intro _ h2; rw [h.F0] at h2; omega
    | succ m ih =>
      intro hm h2
      by_cases h3 : j < F m
      · obtain ⟨i, a, b, c⟩ := ih (by omega) h3
        exact ⟨i, by omega, b, c⟩
      · exact ⟨m, by omega, by omega, h2⟩
  obtain ⟨i, a, b, c⟩ := key N (Nat.le_refl _) (by rw [h.FN]; exact hj)
  exact ⟨i, a, by have := h.up i a; omega, b, c⟩

theorem TrieOK.pos (h : TrieOK N F lb str) {j : Nat} (h1 : 1 ≤ j) (hj : j < N) : ∃ i, i < N ∧ i < j ∧ F i ≤ j ∧ j < F (i + 1) ∧ str j = str i ++ [lb j] := by
  obtain ⟨i, a, b, c, d⟩ := h.parent h1 hj
  exact ⟨i, a, b, c, d, h.kid i j a c d⟩

theorem TrieOK.inj (h : TrieOK N F lb str) : ∀ (l i j : Nat), (str i).length = l → i < N → j < N → str i = str j → i = j := by
  intro l
  induction l using Nat.strongRecOn with
  | ind l ih =>
    intro i j hl hi hj e
    rcases Nat.eq_zero_or_pos i with rfl | hi1
    · rcases Nat.eq_zero_or_pos j with rfl | hj1
      · rfl
      · obtain ⟨k, _, _, _, _, hk⟩ := h.pos hj1 hj
        rw [h.root, hk] at e
        simp at e
    · rcases Nat.eq_zero_or_pos j with rfl | hj1
      · obtain ⟨k, _, _, _, _, hk⟩ := h.pos hi1 hi
        rw [h.root, hk] at e
        simp at e
      · obtain ⟨a, a1, a2, a3, a4, a5⟩ := h.pos hi1 hi
        obtain ⟨b, b1, b2, b3, b4, b5⟩ := h.pos hj1 hj
        have hab : str a = str b ∧ lb i = lb j := by
          rw [a5, b5] at e
          have e2 := List.append_inj' e rfl
          exact ⟨e2.1, by simpa using e2.2⟩
        have : a = b := ih (str a).length (by rw [← hl, a5]; simp) a b rfl a1 b1 hab.1
        subst this
        rcases Nat.lt_trichotomy i j with hlt | hlt | hlt
        · have := h.inc a i j a1 a3 hlt b4; omega
        · exact hlt
        · have := h.inc a j i a1 b3 hlt a4; omega

theorem TrieOK.kid_iff (h : TrieOK N F lb str) {i j b : Nat} (hi : i < N) (hj : j < N) (e : str j = str i ++ [b]) : F i ≤ j ∧ j < F (i + 1) ∧ lb j = b := by
  have hj1 : 1 ≤ j := by
    rcases Nat.eq_zero_or_pos j with rfl | h1
    · rw [h.root] at e; simp at e
    · exact h1
  obtain ⟨a, a1, a2, a3, a4, a5⟩ := h.pos hj1 hj
  rw [a5] at e
  have e2 := List.append_inj' e rfl
  have : a = i := h.inj _ a i rfl a1 hi e2.1
  subst this
  exact ⟨a3, a4, by simpa using e2.2⟩

theorem TrieOK.lt_of_len (h : TrieOK N F lb str) {i j : Nat} (hi : i < N) (hl : (str i).length < (str j).length) : i < j := by
  rcases Nat.lt_or_ge i j with e | e
  · exact e
  · have := h.lens j i e hi; omega

theorem TrieOK.down (h : TrieOK N F lb str) {j : Nat} {y : List Nat} {b : Nat} (hj : j < N) (e : str j = y ++ [b]) : ∃ i, i < N ∧ str i = y := by
  have hj1 : 1 ≤ j := by
    rcases Nat.eq_zero_or_pos j with rfl | h1
    · rw [h.root] at e; simp at e
    · exact h1
  obtain ⟨a, a1, _, _, _, a5⟩ := h.pos hj1 hj
  rw [a5] at e
  exact ⟨a, a1, (List.append_inj' e rfl).1⟩

/-- j is the longest node that u ends with. -/
def IsL (N : Nat) (str : Nat → List Nat) (u : List Nat) (j : Nat) : Prop := j < N ∧ str j <:+ u ∧ ∀ x, x < N → str x <:+ u → (str x).length ≤ (str j).length
/-- j is the longest node, shorter than i, that i ends with. -/
def IsF (N : Nat) (str : Nat → List Nat) (i j : Nat) : Prop := j < N ∧ str j <:+ str i ∧ (str j).length < (str i).length ∧ ∀ x, x < N → str x <:+ str i → (str x).length < (str i).length → (str x).length ≤ (str j).length

theorem suffix_snoc {y u : List Nat} {b : Nat} : y ++ [b] <:+ u ++ [b] ↔ y <:+ u := by
  constructor
  · rintro ⟨t, ht⟩
    rw [← List.append_assoc] at ht
    exact ⟨t, (List.append_inj' ht rfl).1⟩
  · rintro ⟨t, rfl⟩
    exact ⟨t, by simp⟩
theorem suffix_of_snoc {x u : List Nat} {b : Nat} (h : x <:+ u ++ [b]) : x = [] ∨ ∃ y, x = y ++ [b] ∧ y <:+ u := by
  rcases List.eq_nil_or_concat x with e | ⟨y, c, e⟩
  · exact .inl e
  · have e' : x = y ++ [c] := by simpa using e
    subst e'
    obtain ⟨t, ht⟩ := h
    rw [← List.append_assoc] at ht
    have h2 := List.append_inj' ht rfl
    have hcb : c = b := by simpa using h2.2
    subst hcb
    exact .inr ⟨y, rfl, t, h2.1⟩
theorem suffix_of_suffix {x y u : List Nat} (h1 : x <:+ u) (h2 : y <:+ u) (hl : x.length ≤ y.length) : x <:+ y := List.suffix_of_suffix_length_le h1 h2 hl
theorem suffix_eq {x y : List Nat} (h : x <:+ y) (hl : x.length = y.length) : x = y := h.eq_of_length hl

/-- Where a child is found the longest is found. -/
theorem step_found (h : TrieOK N F lb str) {i0 i b j : Nat} (hi : i < N) (hs : str i <:+ str i0) (hmax : ∀ x, x < N → str x <:+ str i0 ++ [b] → str x ≠ [] → (str x).length ≤ (str i).length + 1) (hj : j < N) (e : str j = str i ++ [b]) : IsL N str (str i0 ++ [b]) j := by
  refine ⟨hj, by rw [e]; exact suffix_snoc.2 hs, fun x hx hxs => ?_⟩
  rw [e]
  by_cases h0 : str x = []
  · rw [h0]; simp
  · have := hmax x hx hxs h0; simpa using this
theorem step_root (h : TrieOK N F lb str) {i0 b : Nat} (hmax : ∀ x, x < N → str x <:+ str i0 ++ [b] → str x ≠ [] → (str x).length ≤ (str 0).length + 1) (hno : ∀ j, j < N → str j ≠ str 0 ++ [b]) : IsL N str (str i0 ++ [b]) 0 := by
  refine ⟨h.one, by rw [h.root]; exact List.nil_suffix, fun x hx hxs => ?_⟩
  by_cases h0 : str x = []
  · rw [h0]; simp
  · exfalso
    rcases suffix_of_snoc hxs with e | ⟨y, e, hy⟩
    · exact h0 e
    · have := hmax x hx hxs h0
      rw [h.root, e] at this
      simp at this
      subst this
      exact hno x hx (by rw [e, h.root])
theorem step_down (h : TrieOK N F lb str) {i0 i i' b : Nat} (hi : i < N) (hs : str i <:+ str i0) (hmax : ∀ x, x < N → str x <:+ str i0 ++ [b] → str x ≠ [] → (str x).length ≤ (str i).length + 1) (hno : ∀ j, j < N → str j ≠ str i ++ [b]) (hf : IsF N str i i') :
    i' < N ∧ str i' <:+ str i0 ∧ (∀ x, x < N → str x <:+ str i0 ++ [b] → str x ≠ [] → (str x).length ≤ (str i').length + 1) ∧ (str i').length < (str i).length := by
  obtain ⟨f1, f2, f3, f4⟩ := hf
  refine ⟨f1, f2.trans hs, fun x hx hxs h0 => ?_, f3⟩
  have hm := hmax x hx hxs h0
  rcases suffix_of_snoc hxs with e | ⟨y, e, hy⟩
  · exact absurd e h0
  · obtain ⟨k, hk, hky⟩ := h.down hx e
    rw [e] at hm ⊢
    simp at hm ⊢
    have hle : y.length ≤ (str i).length := hm
    have hsuf : y <:+ str i := suffix_of_suffix hy hs hle
    have hne : y.length ≠ (str i).length := by
      intro he
      have := suffix_eq hsuf he
      exact hno x hx (by rw [e, this])
    have := f4 k hk (by rw [hky]; exact hsuf) (by rw [hky]; omega)
    rw [hky] at this
    exact this

theorem fail_kid (h : TrieOK N F lb str) {i fi c s b : Nat} (hi : i < N) (hc : c < N) (ec : str c = str i ++ [b]) (hf : IsF N str i fi) (hs : IsL N str (str fi ++ [b]) s) : IsF N str c s := by
  obtain ⟨f1, f2, f3, f4⟩ := hf
  obtain ⟨s1, s2, s3⟩ := hs
  refine ⟨s1, ?_, ?_, fun x hx hxs hxl => ?_⟩
  · rw [ec]; exact s2.trans (suffix_snoc.2 f2)
  · have := s2.length_le
    rw [ec]; simp at this ⊢; omega
  · rw [ec] at hxs hxl
    rcases suffix_of_snoc hxs with e | ⟨y, e, hy⟩
    · rw [e]; simp
    · obtain ⟨k, hk, hky⟩ := h.down hx e
      rw [e] at hxl
      simp at hxl
      have h1 := f4 k hk (by rw [hky]; exact hy) (by rw [hky]; omega)
      rw [hky] at h1
      have h2 : y <:+ str fi := suffix_of_suffix hy f2 h1
      exact s3 x hx (by rw [e]; exact suffix_snoc.2 h2)
theorem fail_top (h : TrieOK N F lb str) {c b : Nat} (hc : c < N) (ec : str c = str 0 ++ [b]) : IsF N str c 0 := by
  rw [h.root] at ec
  refine ⟨h.one, by rw [h.root]; exact List.nil_suffix, by rw [ec, h.root]; simp, fun x hx hxs hxl => ?_⟩
  rw [ec] at hxl
  simp at hxl
  rw [hxl, h.root]; simp

theorem run_step (h : TrieOK N F lb str) {u : List Nat} {x y b : Nat} (hx : IsL N str u x) (hy : IsL N str (str x ++ [b]) y) : IsL N str (u ++ [b]) y := by
  obtain ⟨x1, x2, x3⟩ := hx
  obtain ⟨y1, y2, y3⟩ := hy
  refine ⟨y1, y2.trans (suffix_snoc.2 x2), fun j hj hjs => ?_⟩
  rcases suffix_of_snoc hjs with e | ⟨z, e, hz⟩
  · rw [e]; simp
  · obtain ⟨k, hk, hkz⟩ := h.down hj e
    have h1 := x3 k hk (by rw [hkz]; exact hz)
    rw [hkz] at h1
    have h2 : z <:+ str x := suffix_of_suffix hz x2 h1
    exact y3 j hj (by rw [e]; exact suffix_snoc.2 h2)
theorem run_nil (h : TrieOK N F lb str) : IsL N str [] 0 := by
  refine ⟨h.one, by rw [h.root]; exact List.nil_suffix, fun x hx hxs => ?_⟩
  have := List.suffix_nil.1 hxs
  rw [this]; simp
theorem step_begin {i0 b : Nat} : ∀ x, x < N → str x <:+ str i0 ++ [b] → str x ≠ [] → (str x).length ≤ (str i0).length + 1 := by
  intro x hx hxs _
  have := hxs.length_le
  simpa using this

theorem fail_lt (h : TrieOK N F lb str) {i j : Nat} (hf : IsF N str i j) : j < i := h.lt_of_len hf.1 hf.2.2.1

/-- Where r holds each longest node of the read prefixes and is shut under fail links, it holds every node that some prefix ends with. -/
theorem reach_all (h : TrieOK N F lb str) {f : Nat → Nat} (hf : ∀ x, 1 ≤ x → x < N → IsF N str x (f x)) {r : Nat → Bool} (hc : ∀ x, 1 ≤ x → x < N → r x = true → r (f x) = true) :
    ∀ (l y x : Nat) , (str y).length = l → y < N → r y = true → x < N → str x <:+ str y → r x = true := by
  intro l
  induction l using Nat.strongRecOn with
  | ind l ih =>
    intro y x hl hy hr hx hs
    by_cases e : (str x).length = (str y).length
    · have := h.inj _ x y rfl hx hy (suffix_eq hs e)
      subst this; exact hr
    · have hlt : (str x).length < (str y).length := by have := hs.length_le; omega
      have hy1 : 1 ≤ y := by
        rcases Nat.eq_zero_or_pos y with rfl | h1
        · rw [h.root] at hlt; simp at hlt
        · exact h1
      obtain ⟨f1, f2, f3, f4⟩ := hf y hy1 hy
      have h1 := f4 x hx hs hlt
      exact ih (str (f y)).length (by omega) (f y) x rfl f1 (hc y hy1 hy hr) hx (suffix_of_suffix hs f2 h1)
end
end Go.Proofs.Ybulkblzg
