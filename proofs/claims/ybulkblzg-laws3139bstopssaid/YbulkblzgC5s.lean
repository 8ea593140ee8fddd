import Derived.Test.YbulkblzgC5
namespace Go.Proofs.Ybulkblzg
open Go.RowKit
set_option linter.unusedVariables false
set_option linter.unusedSimpArgs false

theorem Yba.und27 : Yba.prog.underlying 27 = some (.slice (Yba.prog.elem 27)) := by kernel_rfl
theorem Yba.und70 : Yba.prog.underlying 70 = some (.slice (Yba.prog.elem 70)) := by kernel_rfl
theorem size27 (w : World) : (sizeOf (Yba.prog.elem 27)).run Yba.prog w = .ok 1 w := by kernel_rfl
theorem size70 (w : World) : (sizeOf (Yba.prog.elem 70)).run Yba.prog w = .ok 4 w := by kernel_rfl
def Flat (a : Option Addr) : Prop := ∀ ad, a = some ad → ∃ g, ad = ⟨g, 0, none⟩
theorem sliceH27 {a : Option Addr} (ha : Flat a) (len cap h : Nat) (hh : h ≤ cap) (w : World) : (Instr.slice 27 (.slice a len cap) none (some (.int .i64 (h : Int))) none).run Yba.prog w = .ok (.slice a h cap) w := by
  have hr := run_slice_h (P := Yba.prog) (w := w) (t := 27) (a := a) (len := len) (cap := cap) (ht := Yba.und27) (kh := .i64) (h := (h : Int)) (h0 := by omega) (h2 := by omega)
  rw [size27] at hr
  rw [hr]
  cases a with
  | none => simp [sliced]
  | some ad =>
    obtain ⟨g, rfl⟩ := ha ad rfl
    simp [sliced, Addr.add]
theorem sliceH70 {a : Option Addr} (ha : Flat a) (len cap h : Nat) (hh : h ≤ cap) (w : World) : (Instr.slice 70 (.slice a len cap) none (some (.int .i64 (h : Int))) none).run Yba.prog w = .ok (.slice a h cap) w := by
  have hr := run_slice_h (P := Yba.prog) (w := w) (t := 70) (a := a) (len := len) (cap := cap) (ht := Yba.und70) (kh := .i64) (h := (h : Int)) (h0 := by omega) (h2 := by omega)
  rw [size70] at hr
  rw [hr]
  cases a with
  | none => simp [sliced]
  | some ad =>
    obtain ⟨g, rfl⟩ := ha ad rfl
    simp [sliced, Addr.add]
theorem sliceL27 (g len cap l : Nat) (hh : l ≤ len) (hc : len ≤ cap) (hl : l < cap) (w : World) : (Instr.slice 27 (.slice (some ⟨g, 0, none⟩) len cap) (some (.int .i64 (l : Int))) none none).run Yba.prog w = .ok (.slice (some ⟨g, l, none⟩) (len - l) (cap - l)) w := by
  have hr := run_slice_l (P := Yba.prog) (w := w) (t := 27) (a := some ⟨g, 0, none⟩) (len := len) (cap := cap) (ht := Yba.und27) (kl := .i64) (l := (l : Int)) (h0 := by omega) (h1 := by omega)
  rw [size27] at hr
  rw [hr]
  have : ¬ cap = l := by omega
  simp [sliced, Addr.add, this]
  exact fun e => e.symm

theorem rem_merge (adj : Nat → List Nat) : ∀ (L : List Fr) (m : List Nat), rem adj (merge L m) = rem adj L
  | [], _ => rfl
  | [p], m => rfl
  | p :: q :: r, m => by
    have := rem_merge adj (q :: r) m
    simp only [merge, rem] at *
    omega

theorem merge_facts (adj : Nat → List Nat) : ∀ (L : List Fr) (m : List Nat), L ≠ [] → stk (merge L m) = stk L ++ m ∧ nxt adj (merge L m) = nxt adj L ∧ (∀ s, frs adj s (merge L m) = frs adj s L) ∧ (merge L m).length = L.length
  | [], _, h => absurd rfl h
  | [p], m, _ => by simp [merge, stk, nxt, frs]
  | p :: q :: r, m, _ => by
    obtain ⟨h1, h2, h3, h4⟩ := merge_facts adj (q :: r) m (by simp)
    refine ⟨?_, ?_, ?_, ?_⟩
    · simp only [merge, stk] at *; rw [h1]; simp
    · simp only [merge, nxt] at *; rw [h2]
    · intro s; simp only [merge, frs] at *; rw [h3]
    · simp only [merge, List.length_cons] at *; rw [h4]

theorem pop_root {adj : Nat → List Nat} {n : Nat} {V : Ts} (h : TInv adj n V) {f : Fr} (hf : V.fr = [f]) : V.low f.v = V.idx f.v := by
  have hfm : f ∈ V.fr := by rw [hf]; simp
  obtain ⟨x, hx, e, _⟩ := h.wit f hfm
  obtain ⟨m, hm⟩ := h.hd f hfm
  have hi := h.inc
  rw [hf, stk_one] at hx hi
  rw [hm] at hx hi
  rw [List.pairwise_cons] at hi
  have hl := h.lowle f hfm
  rcases List.mem_cons.1 hx with rfl | hx
  · exact e.symm
  · have := hi.1 x hx; omega

theorem on_clear {L : List Fr} {m : List Nat} (hd : (stk L ++ m).Nodup) : (fun i => (decide (i ∈ stk L ++ m) && !decide (i ∈ m))) = fun i => decide (i ∈ stk L) := by
  funext i
  rw [List.nodup_append] at hd
  by_cases h1 : i ∈ m
  · have : i ∉ stk L := fun h2 => hd.2.2 i h2 i h1 rfl
    simp [h1, this]
  · simp [h1]

theorem step_nx {adj : Nat → List Nat} {n : Nat} {V : Ts} {L : List Fr} {f : Fr} (hf : V.fr = L ++ [f]) : (stepT adj n V).nx = V.nx := by
  rcases Nat.lt_or_ge f.at_ (adj f.v).length with hl | hl
  · rw [stepT_edge hf (List.getElem?_eq_getElem hl)]
    unfold edgeT
    split
    · rfl
    · split <;> rfl
  · rw [stepT_pop hf hl]
    unfold popT
    split <;> rfl

theorem meas_step {adj : Nat → List Nat} {n : Nat} (hadj : ∀ v, v < n → ∀ x ∈ adj v, x < n) (hdeg : ∀ v, v < n → (adj v).length ≤ 1024) {V : Ts} (h : TInv adj n V) {L : List Fr} {f : Fr} (hf : V.fr = L ++ [f]) : meas adj n (stepT adj n V) < meas adj n V := by
  have hi := inv_step hadj h
  have hr : rem adj V.fr = rem adj L + ((adj f.v).length - f.at_ + 1) := by rw [hf, rem_append]; simp [rem]
  rcases Nat.lt_or_ge f.at_ (adj f.v).length with hl | hl
  · have hw : (adj f.v)[f.at_]? = some (adj f.v)[f.at_] := List.getElem?_eq_getElem hl
    have hr' : rem adj (L ++ [{ f with at_ := f.at_ + 1 }]) = rem adj L + ((adj f.v).length - (f.at_ + 1) + 1) := by rw [rem_append]; simp [rem]
    rw [stepT_edge hf hw] at hi ⊢
    generalize (adj f.v)[f.at_] = x at hi hw ⊢
    have hfm : f ∈ V.fr := by rw [hf]; simp
    have hxn : x < n := hadj _ (h.vlt hfm) x (List.mem_of_getElem? hw)
    have hd := hdeg x hxn
    unfold edgeT at hi ⊢
    split at hi
    · rename_i h0
      have hc := hi.count
      rw [if_pos h0]
      simp only [reachT] at hc
      unfold meas
      simp only [reachT]
      rw [rem_append, hr', hr]
      simp only [rem]
      omega
    · rename_i h0
      rw [if_neg h0]
      unfold meas
      split
      · simp only [hr', hr]; omega
      · simp only [hr', hr]; omega
  · rw [stepT_pop hf hl]
    unfold popT meas
    split
    · simp only [hr]; omega
    · simp only [hr, rem_merge]; omega
end Go.Proofs.Ybulkblzg
