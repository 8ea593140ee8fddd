import Derived.Test.YbulkblzgL
import Derived.Test.YbulkblzgC5
namespace Go.Proofs.Ybulkblzg
set_option linter.unusedVariables false
set_option linter.unusedSimpArgs false

theorem step_prefix (adj : Nat → List Nat) (n : Nat) (T : Ts) : ∃ Z, (stepT adj n T).comps = T.comps ++ Z := by
  rcases List.eq_nil_or_concat T.fr with e | ⟨F, f, e⟩
  · rw [stepT_nil e]
    unfold rootT
    split
    · split <;> exact ⟨[], by simp [reachT]⟩
    · exact ⟨[], by simp⟩
  · have e' : T.fr = F ++ [f] := by simpa using e
    rcases Nat.lt_or_ge f.at_ (adj f.v).length with hl | hl
    · rw [stepT_edge e' (List.getElem?_eq_getElem hl)]
      unfold edgeT
      split
      · exact ⟨[], by simp [reachT]⟩
      · split <;> exact ⟨[], by simp⟩
    · rw [stepT_pop e' hl]
      unfold popT
      split
      · exact ⟨[f.mem], rfl⟩
      · exact ⟨[], by simp⟩

theorem iter_prefix (adj : Nat → List Nat) (n j : Nat) : ∀ d, ∃ Z, (iterT adj n (j + d)).comps = (iterT adj n j).comps ++ Z
  | 0 => ⟨[], by simp⟩
  | d + 1 => by
    obtain ⟨Z, hZ⟩ := iter_prefix adj n j d
    obtain ⟨Z', hZ'⟩ := step_prefix adj n (iterT adj n (j + d))
    refine ⟨Z ++ Z', ?_⟩
    show (stepT adj n (iterT adj n (j + d))).comps = _
    rw [hZ', hZ, List.append_assoc]

theorem iter_halt {adj : Nat → List Nat} {n j : Nat} (h1 : (iterT adj n j).fr = []) (h2 : (iterT adj n j).nx = n) : ∀ d, iterT adj n (j + d) = iterT adj n j
  | 0 => rfl
  | d + 1 => by
    show stepT adj n (iterT adj n (j + d)) = _
    rw [iter_halt h1 h2 d, stepT_nil h1, rootT, if_neg (by omega)]

theorem run_prefix {adj : Nat → List Nat} {n k1 k2 : Nat} {T1 T2 : Ts} (e1 : T1 = iterT adj n k1) (e2 : T2 = iterT adj n k2) (h1 : T1.fr = []) (h2 : T1.nx = n) : ∃ Z, T1.comps = T2.comps ++ Z := by
  rcases Nat.le_total k2 k1 with h | h
  · obtain ⟨Z, hZ⟩ := iter_prefix adj n k2 (k1 - k2)
    rw [show k2 + (k1 - k2) = k1 by omega] at hZ
    exact ⟨Z, by rw [e1, e2, hZ]⟩
  · have := iter_halt (adj := adj) (n := n) (j := k1) (by rw [← e1]; exact h1) (by rw [← e1]; exact h2) (k2 - k1)
    rw [show k1 + (k2 - k1) = k2 by omega] at this
    exact ⟨[], by rw [e1, e2, this]; simp⟩
theorem run_same {adj : Nat → List Nat} {n k1 k2 : Nat} {T1 T2 : Ts} (e1 : T1 = iterT adj n k1) (e2 : T2 = iterT adj n k2) (h1 : T1.fr = []) (h2 : T1.nx = n) (h3 : T2.fr = []) (h4 : T2.nx = n) : T1.comps = T2.comps := by
  obtain ⟨Z, hZ⟩ := run_prefix e1 e2 h1 h2
  obtain ⟨Z', hZ'⟩ := run_prefix e2 e1 h3 h4
  have l1 := congrArg List.length hZ
  have l2 := congrArg List.length hZ'
  simp at l1 l2
  have : Z = [] := List.eq_nil_of_length_eq_zero (by omega)
  rw [hZ, this]; simp

/-- How many answers the stopped run has. -/
def wantOf (L total : Nat) : Nat := if (if L < 1 then 1 else L) > total then total else (if L < 1 then 1 else L)
theorem want_eq {adj : Nat → List Nat} {n k1 k2 L : Nat} {T1 T2 : Ts} (e1 : T1 = iterT adj n k1) (e2 : T2 = iterT adj n k2) (h1 : T1.fr = []) (h2 : T1.nx = n) (hL : L ≤ T1.comps.length + 1)
    (he : Ended n (fun Y => decide (Y.length < L)) T2) : T2.comps.length = wantOf L T1.comps.length ∧ ∃ Z, T1.comps = T2.comps ++ Z := by
  obtain ⟨Z, hZ⟩ := run_prefix e1 e2 h1 h2
  refine ⟨?_, Z, hZ⟩
  have hl := congrArg List.length hZ
  simp at hl
  unfold wantOf
  rcases he with ⟨h3, h4, h5⟩ | ⟨h3, h4, h5⟩
  · have hs := run_same e1 e2 h1 h2 h3 h4
    have hsl := congrArg List.length hs
    by_cases h0 : T2.comps.length = 0
    · split <;> split at * <;> omega
    · have := h5 T2.comps.length (by omega) (Nat.le_refl _)
      simp at this
      split <;> split at * <;> omega
  · have hp : 0 < T2.comps.length := List.length_pos_iff.2 h3
    simp at h4
    by_cases h1' : T2.comps.length = 1
    · split <;> split at * <;> omega
    · have := h5 (T2.comps.length - 1) (by omega) (by omega)
      simp at this
      split <;> split at * <;> omega

open Classical in
/-- How many of the vertices below v are the first of their kind. -/
noncomputable def firsts (adj : Nat → List Nat) : Nat → Nat
  | 0 => 0
  | v + 1 => firsts adj v + if ∃ u, u < v ∧ Rch adj u v ∧ Rch adj v u then 0 else 1

theorem nodup_sub : ∀ {l D : List Nat}, l.Nodup → (∀ x ∈ l, x ∈ D) → l.length ≤ D.length
  | [], D, _, _ => by simp
  | a :: l, D, hn, h => by
    rw [List.nodup_cons] at hn
    have ha := h a (by simp)
    have h1 := nodup_sub (l := l) (D := D.erase a) hn.2 (fun x hx => (List.mem_erase_of_ne (fun e => hn.1 (by rw [← e]; exact hx))).2 (h x (by simp [hx])))
    rw [List.length_erase_of_mem ha] at h1
    have h2 : 0 < D.length := List.length_pos_of_mem ha
    simp; omega

def metP (X : List (List Nat)) : Nat → List Nat
  | 0 => []
  | v + 1 => if posv X v ∈ metP X v then metP X v else metP X v ++ [posv X v]

theorem metP_facts {adj : Nat → List Nat} {n : Nat} {X : List (List Nat)} (h : Parts adj n X) (hadj : ∀ v, v < n → ∀ x ∈ adj v, x < n) : ∀ v, v ≤ n → (metP X v).length = firsts adj v ∧ (metP X v).Nodup ∧ (∀ i ∈ metP X v, ∃ u, u < v ∧ posv X u = i) ∧ (∀ u, u < v → posv X u ∈ metP X v)
  | 0, _ => ⟨rfl, List.nodup_nil, fun i hi => by simp [metP] at hi, fun u hu => by omega⟩
  | v + 1, hv => by
    obtain ⟨h1, h2, h3, h4⟩ := metP_facts h hadj v (by omega)
    have hiff : posv X v ∈ metP X v ↔ ∃ u, u < v ∧ Rch adj u v ∧ Rch adj v u := by
      constructor
      · intro hm
        obtain ⟨u, hu, e⟩ := h3 _ hm
        exact ⟨u, hu, (h.same hadj (by omega) (by omega)).1 e⟩
      · rintro ⟨u, hu, hr⟩
        rw [← (h.same hadj (by omega) (by omega)).2 hr]
        exact h4 u hu
    by_cases hm : posv X v ∈ metP X v
    · have e1 : metP X (v + 1) = metP X v := by simp [metP, hm]
      have e2 : firsts adj (v + 1) = firsts adj v := by simp only [firsts]; rw [if_pos (hiff.1 hm)]; rfl
      rw [e1, e2]
      refine ⟨h1, h2, fun i hi => ?_, fun u hu => ?_⟩
      · obtain ⟨u, hu, e⟩ := h3 i hi
        exact ⟨u, by omega, e⟩
      · by_cases e : u = v
        · subst e; exact hm
        · exact h4 u (by omega)
    · have e1 : metP X (v + 1) = metP X v ++ [posv X v] := by simp [metP, hm]
      have e2 : firsts adj (v + 1) = firsts adj v + 1 := by simp only [firsts]; rw [if_neg (fun hh => hm (hiff.2 hh))]
      rw [e1, e2]
      refine ⟨by simp [h1], ?_, fun i hi => ?_, fun u hu => ?_⟩
      · rw [List.nodup_append]
        refine ⟨h2, by simp, fun a ha b hb => ?_⟩
        rw [List.mem_singleton] at hb
        subst hb
        exact fun e => hm (e ▸ ha)
      · rcases List.mem_append.1 hi with hi | hi
        · obtain ⟨u, hu, e⟩ := h3 i hi
          exact ⟨u, by omega, e⟩
        · rw [List.mem_singleton] at hi
          exact ⟨v, by omega, hi.symm⟩
      · by_cases e : u = v
        · subst e; simp
        · simp [h4 u (by omega)]

theorem firsts_eq {adj : Nat → List Nat} {n : Nat} {X : List (List Nat)} (h : Parts adj n X) (hadj : ∀ v, v < n → ∀ x ∈ adj v, x < n) : firsts adj n = X.length := by
  obtain ⟨h1, h2, h3, h4⟩ := metP_facts h hadj n (Nat.le_refl _)
  rw [← h1]
  apply Nat.le_antisymm
  · refine nodup_le X.length _ h2 (fun i hi => ?_)
    obtain ⟨u, hu, rfl⟩ := h3 i hi
    obtain ⟨c, hc, _⟩ := h.has hu
    exact (List.getElem?_eq_some_iff.1 hc).1
  · have := nodup_sub (l := List.range X.length) (D := metP X n) List.nodup_range (fun i hi => ?_)
    · simpa using this
    · have hi' : i < X.length := by simpa using hi
      have hc : X[i]? = some X[i] := List.getElem?_eq_getElem hi'
      have hne := h.ne X[i] (List.getElem_mem hi')
      obtain ⟨v, hv⟩ := List.exists_mem_of_ne_nil _ hne
      have hvn := h.rng X[i] (List.getElem_mem hi') v hv
      rw [← h.at_ hc hv]
      exact h4 v hvn
theorem firsts_le (adj : Nat → List Nat) : ∀ v, firsts adj v ≤ v
  | 0 => Nat.le_refl _
  | v + 1 => by
    have := firsts_le adj v
    simp only [firsts]
    split <;> omega
end Go.Proofs.Ybulkblzg
