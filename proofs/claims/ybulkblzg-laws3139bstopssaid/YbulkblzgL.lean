import Derived.Test.YbulkblzgC3
namespace Go.Proofs.Ybulkblzg
set_option linter.unusedVariables false
set_option linter.unusedSimpArgs false

/-- Which answer holds v. -/
def posv (X : List (List Nat)) (v : Nat) : Nat := X.findIdx (fun c => decide (v ∈ c))

/-- What the answers of a whole walk are. -/
structure Parts (adj : Nat → List Nat) (n : Nat) (X : List (List Nat)) : Prop where
  ne : ∀ c ∈ X, c ≠ []
  rng : ∀ c ∈ X, ∀ v ∈ c, v < n
  nd : X.flatten.Nodup
  cov : ∀ v, v < n → ∃ c ∈ X, v ∈ c
  mu : ∀ c ∈ X, ∀ a ∈ c, ∀ b ∈ c, Rch adj a b
  ord : ∀ (i : Nat) c, X[i]? = some c → ∀ u ∈ c, ∀ w ∈ adj u, ∃ (j : Nat) (d : List Nat), j ≤ i ∧ X[j]? = some d ∧ w ∈ d
  le : X.length ≤ n

theorem parts_of {adj : Nat → List Nat} {n : Nat} {T : Ts} (h : TInv adj n T) (hf : T.fr = []) (hx : T.nx = n) : Parts adj n T.comps := by
  have hs : stk T.fr = [] := by rw [hf]; rfl
  refine ⟨fun c hc => (h.good c hc).1, fun c hc v hv => h.rng v ((h.dom v).2 (.inr (List.mem_flatten.2 ⟨c, hc, hv⟩))), ?_, fun v hv => ?_, fun c hc => (h.good c hc).2, h.ord, h.compLen⟩
  · have := h.nd; rw [hs] at this; simpa using this
  · have h1 := h.nxd v (by omega)
    rcases (h.dom v).1 h1 with e | e
    · rw [hs] at e; cases e
    · obtain ⟨c, hc, hvc⟩ := List.mem_flatten.1 e
      exact ⟨c, hc, hvc⟩

theorem nodup_once : ∀ {X : List (List Nat)}, X.flatten.Nodup → ∀ {i j : Nat} {c d : List Nat} {v : Nat}, X[i]? = some c → X[j]? = some d → v ∈ c → v ∈ d → i = j
  | [], _, i, j, c, d, v, h1, _, _, _ => by simp at h1
  | a :: X, hn, i, j, c, d, v, h1, h2, hc, hd => by
    rw [List.flatten_cons, List.nodup_append] at hn
    obtain ⟨n1, n2, n3⟩ := hn
    cases i with
    | zero =>
      obtain rfl : a = c := by simpa using h1
      cases j with
      | zero => rfl
      | succ j =>
        have hm : v ∈ X.flatten := List.mem_flatten.2 ⟨d, List.mem_of_getElem? (by simpa using h2), hd⟩
        exact absurd rfl (n3 v hc v hm)
    | succ i =>
      cases j with
      | zero =>
        obtain rfl : a = d := by simpa using h2
        have hm : v ∈ X.flatten := List.mem_flatten.2 ⟨c, List.mem_of_getElem? (by simpa using h1), hc⟩
        exact absurd rfl (n3 v hd v hm)
      | succ j =>
        have := nodup_once (X := X) n2 (i := i) (j := j) (by simpa using h1) (by simpa using h2) hc hd
        omega

theorem Parts.at_ {adj : Nat → List Nat} {n : Nat} {X : List (List Nat)} (h : Parts adj n X) {i : Nat} {c : List Nat} (hc : X[i]? = some c) {v : Nat} (hv : v ∈ c) : posv X v = i := by
  have hil : i < X.length := (List.getElem?_eq_some_iff.1 hc).1
  have hlt : X.findIdx (fun c => decide (v ∈ c)) < X.length := List.findIdx_lt_length_of_exists ⟨c, List.mem_of_getElem? hc, by simpa using hv⟩
  have hp := List.findIdx_getElem (p := fun c => decide (v ∈ c)) (xs := X) (w := hlt)
  exact nodup_once h.nd (List.getElem?_eq_getElem hlt) hc (by simpa using hp) hv

theorem Parts.has {adj : Nat → List Nat} {n : Nat} {X : List (List Nat)} (h : Parts adj n X) {v : Nat} (hv : v < n) : ∃ c, X[posv X v]? = some c ∧ v ∈ c := by
  obtain ⟨c, hc, hvc⟩ := h.cov v hv
  obtain ⟨i, hi, e⟩ := List.getElem_of_mem hc
  have hic : X[i]? = some c := by rw [List.getElem?_eq_getElem hi, e]
  exact ⟨c, by rw [h.at_ hic hvc]; exact hic, hvc⟩

theorem Parts.edge {adj : Nat → List Nat} {n : Nat} {X : List (List Nat)} (h : Parts adj n X) {u w : Nat} (hu : u < n) (hw : w ∈ adj u) : posv X w ≤ posv X u := by
  obtain ⟨c, hc, huc⟩ := h.has hu
  obtain ⟨j, d, hj, hd, hwd⟩ := h.ord _ c hc u huc w hw
  rw [h.at_ hd hwd]; exact hj

theorem Parts.path {adj : Nat → List Nat} {n : Nat} {X : List (List Nat)} (h : Parts adj n X) (hadj : ∀ v, v < n → ∀ x ∈ adj v, x < n) {u w : Nat} (hr : Rch adj u w) (hu : u < n) : w < n ∧ posv X w ≤ posv X u := by
  induction hr with
  | refl => exact ⟨hu, Nat.le_refl _⟩
  | tail _ e ih => exact ⟨hadj _ ih.1 _ e, Nat.le_trans (h.edge ih.1 e) ih.2⟩

theorem Parts.same {adj : Nat → List Nat} {n : Nat} {X : List (List Nat)} (h : Parts adj n X) (hadj : ∀ v, v < n → ∀ x ∈ adj v, x < n) {u w : Nat} (hu : u < n) (hw : w < n) : posv X u = posv X w ↔ Rch adj u w ∧ Rch adj w u := by
  constructor
  · intro e
    obtain ⟨c, hc, huc⟩ := h.has hu
    obtain ⟨d, hd, hwd⟩ := h.has hw
    rw [← e, hc] at hd
    obtain rfl : c = d := Option.some.inj hd
    exact ⟨h.mu c (List.mem_of_getElem? hc) u huc w hwd, h.mu c (List.mem_of_getElem? hc) w hwd u huc⟩
  · rintro ⟨h1, h2⟩
    have := (h.path hadj h1 hu).2
    have := (h.path hadj h2 hw).2
    omega

/-- What pos holds when the vertices of 'done' have been met. -/
def pst (X : List (List Nat)) (done : List Nat) (v : Nat) : Int := if v ∈ done then (posv X v : Int) else -1
theorem pst_nil (X : List (List Nat)) (v : Nat) : pst X [] v = -1 := by simp [pst]
theorem pst_out {X : List (List Nat)} {done : List Nat} {v : Nat} (h : v ∉ done) : pst X done v = -1 := by simp [pst, h]
theorem pst_in {X : List (List Nat)} {done : List Nat} {v : Nat} (h : v ∈ done) : pst X done v = (posv X v : Int) := by simp [pst, h]
theorem pst_next {X : List (List Nat)} {done : List Nat} {v i : Nat} (h : posv X v = i) : (fun u => if u = v then (i : Int) else pst X done u) = pst X (done ++ [v]) := by
  funext u
  by_cases e : u = v
  · subst e; simp [pst, h]
  · simp [pst, e]

theorem parts_fresh {adj : Nat → List Nat} {n : Nat} {X : List (List Nat)} (h : Parts adj n X) {i j : Nat} {c : List Nat} {v : Nat} (hc : X[i]? = some c) (hv : c[j]? = some v) : v ∉ (X.take i).flatten ++ c.take j := by
  have hnd := h.nd
  have hsplit : X = X.take i ++ c :: X.drop (i + 1) := by
    have hil : i < X.length := (List.getElem?_eq_some_iff.1 hc).1
    have : X.drop i = c :: X.drop (i + 1) := by
      rw [List.drop_eq_getElem_cons hil]
      rw [List.getElem?_eq_getElem hil] at hc
      rw [Option.some.inj hc]
    rw [← this]; simp
  rw [hsplit, List.flatten_append, List.flatten_cons, List.nodup_append] at hnd
  obtain ⟨n1, n2, n3⟩ := hnd
  have hcs : c = c.take j ++ v :: c.drop (j + 1) := by
    have hjl : j < c.length := (List.getElem?_eq_some_iff.1 hv).1
    have : c.drop j = v :: c.drop (j + 1) := by
      rw [List.drop_eq_getElem_cons hjl]
      rw [List.getElem?_eq_getElem hjl] at hv
      rw [Option.some.inj hv]
    rw [← this]; simp
  intro hm
  rcases List.mem_append.1 hm with e | e
  · exact n3 v e v (by rw [List.mem_append]; exact .inl (List.mem_of_getElem? hv)) rfl
  · rw [List.nodup_append] at n2
    have n4 := n2.1
    rw [hcs, List.nodup_append] at n4
    exact n4.2.2 v (by simpa using e) v (by simp) rfl
end Go.Proofs.Ybulkblzg
