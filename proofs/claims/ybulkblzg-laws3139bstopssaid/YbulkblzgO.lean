import Derived.Test.YbulkblzgRows
import Derived.Test.YbulkblzgI
import Derived.ProofKit
import Derived.OpenShut
import Derived.Deep.Slices
namespace Go.Proofs.Ybulkblzg
open Go.ChangeShapes Go.WideShapes Go.ChangeAt Go.RowKit Go.Deep
set_option linter.unusedVariables false
set_option linter.unusedSimpArgs false
set_option maxRecDepth 100000

theorem list_of_all {α : Type} (Q : Nat → α → Prop) : ∀ n, (∀ i, i < n → ∃ p, Q i p) → ∃ L : List α, L.length = n ∧ ∀ i p, L[i]? = some p → Q i p
  | 0, _ => ⟨[], rfl, fun i p hi => by simp at hi⟩
  | k + 1, hall => by
    obtain ⟨L, h1, h2⟩ := list_of_all Q k (fun i hi => hall i (by omega))
    obtain ⟨p, hp⟩ := hall k (by omega)
    refine ⟨L ++ [p], by simp [h1], fun i q hq => ?_⟩
    by_cases e : i < L.length
    · rw [List.getElem?_append_left e] at hq; exact h2 i q hq
    · have hil : i < (L ++ [p]).length := (List.getElem?_eq_some_iff.1 hq).1
      obtain rfl : i = k := by simp at hil; omega
      rw [List.getElem?_append_right (by omega)] at hq
      obtain rfl : p = q := by simpa [h1] using hq
      exact hp

theorem list2 {α : Type} {l : List α} (h : l.length = 2) : ∃ c0 c1, l = [c0, c1] :=
  match l, h with
  | [c0, c1], _ => ⟨c0, c1, rfl⟩

theorem Yba.laidOut : laidOutB Yba.prog = true := by kernel_rfl
theorem oc59 : Yba.prog.cellsOf 59 = 2 := by kernel_rfl
theorem oc28 : Yba.prog.cellsOf 28 = 1 := by kernel_rfl

section
variable {H : Type} {enc : TypeId × Value → H} {w : World} {base : Nat} {spare : Nat → Bool} {held : Bool}

theorem cells_two {a : Addr} {cs : List Value} (h : w.cells? base a 2 = some cs) : ∃ c0 c1, cs = [c0, c1] ∧ w.cell? a = some c0 ∧ w.cell? (a.add 1) = some c1 := by
  unfold World.cells? at h
  by_cases hb : base ≤ a.block
  · rw [if_pos hb] at h
    have hr : List.range 2 = [0, 1] := rfl
    rw [hr] at h
    simp only [List.mapM_cons, List.mapM_nil, Option.bind_eq_bind, Option.bind_eq_some_iff, Option.pure_def, Option.some.injEq] at h
    obtain ⟨c0, h0, l, ⟨c1, h1, l', rfl, rfl⟩, rfl⟩ := h
    exact ⟨c0, c1, rfl, by simpa [Addr.add] using h0, h1⟩
  · rw [if_neg hb] at h; cases h

theorem spot_none {a : Addr} {v : Value} (h : w.cell? a = some v) : a.spot = none := by
  unfold World.cell? at h
  split at h
  · split at h
    · cases h
    · cases hs : a.spot with
      | none => rfl
      | some x => simp_all
  · cases h

theorem bounds_u16' {z : Int} (h : (Lit.int .u16 z).wf = true) : 0 ≤ z ∧ z < 65536 := by
  simp [Lit.wf, IntKind.min, IntKind.max, IntKind.bits, IntKind.signed] at h
  omega

theorem open_edge {fuel : Nat} {cs : List Value} {x : DataW H × List MemPlace} (h : DataW.trod enc Yba.prog w base spare held fuel 59 cs = some x) :
    ∃ e : Nat × Nat, cs = [.int .u16 (e.1 : Int), .int .u16 (e.2 : Int)] ∧ e.1 < 65536 ∧ e.2 < 65536 := by
  obtain ⟨xs, n, rfl, _, hlen, hxs, hf⟩ := DataW.trod_struct Yba.underlying59 h
  rw [oc59] at hlen
  obtain ⟨c0, c1, rfl⟩ := list2 hlen
  have hxs' : xs.length = 2 := hxs
  obtain ⟨x0, x1, rfl⟩ := list2 hxs'
  have h0 : DataW.trod enc Yba.prog w base spare held n 28 (([c0, c1].drop 0).take (Yba.prog.cellsOf 28)) = some x0 := hf 0 _ rfl
  have h1 : DataW.trod enc Yba.prog w base spare held n 28 (([c0, c1].drop 1).take (Yba.prog.cellsOf 28)) = some x1 := hf 1 _ rfl
  rw [oc28] at h0 h1
  replace h0 : DataW.trod enc Yba.prog w base spare held n 28 [c0] = some x0 := h0
  replace h1 : DataW.trod enc Yba.prog w base spare held n 28 [c1] = some x1 := h1
  obtain ⟨z0, e0, _, w0⟩ := DataW.trod_int Yba.underlying28 h0
  obtain ⟨z1, e1, _, w1⟩ := DataW.trod_int Yba.underlying28 h1
  simp at e0 e1
  subst e0 e1
  have b0 := bounds_u16' w0
  have b1 := bounds_u16' w1
  refine ⟨(z0.toNat, z1.toNat), ?_, by simp only; omega, by simp only; omega⟩
  rw [show ((z0.toNat : Nat) : Int) = z0 by omega, show ((z1.toNat : Nat) : Int) = z1 by omega]

theorem open_es {r : Reach} {b0' : Nat} {v : Value} {d : DataW H} {p : List MemPlace} (hsp : ∀ b, spare b = true) (hv : Value.okWide Yba.prog w r b0' 38 v) (h : DataW.Trod enc Yba.prog w base spare held 38 v d p) :
    ∃ (a : Option Addr) (m c : Nat) (E : List (Nat × Nat)), v = .slice a m c ∧ IsEs w a m E := by
  obtain ⟨a0, m0, c0, rfl⟩ := okWide_slice Yba.underlying38 hv
  obtain ⟨fuel, hf⟩ := h
  rcases open_slice Yba.underlying38 hf with ⟨e, _⟩ | ⟨a, len, cap, m, fl, D, Pl, e, hb, hl, hm, hmm, _, hel⟩
  · simp [Value.cells] at e
    obtain ⟨rfl, rfl, rfl⟩ := e
    exact ⟨none, 0, 0, [], rfl, rfl, by simp, fun i e he => by simp at he⟩
  · simp [Value.cells] at e
    obtain ⟨rfl, rfl, rfl⟩ := e
    rw [hsp] at hmm
    simp at hmm
    subst hmm
    have hall : ∀ i, i < m0 → ∃ e : Nat × Nat, (∃ b off, a = ⟨b, off, none⟩ ∧ w.cell? ⟨b, off + i * 2, none⟩ = some (.int .u16 (e.1 : Int)) ∧ w.cell? ⟨b, off + i * 2 + 1, none⟩ = some (.int .u16 (e.2 : Int))) ∧ e.1 < 65536 ∧ e.2 < 65536 := by
      intro i hi
      obtain ⟨cs', h1, h2⟩ := hel i (by omega)
      rw [oc59] at h1
      obtain ⟨e, rfl, q1, q2⟩ := open_edge h2
      obtain ⟨c0, c1, ec, k0, k1⟩ := cells_two h1
      simp only [List.cons.injEq, and_true] at ec
      obtain ⟨rfl, rfl⟩ := ec
      obtain ⟨cs0, h01, _⟩ := hel 0 (by omega)
      rw [oc59, Nat.zero_mul] at h01
      obtain ⟨_, _, _, k00, _⟩ := cells_two h01
      have hs := spot_none k00
      obtain ⟨b, off, sp⟩ := a
      have hs' : sp = none := by simpa [Addr.add] using hs
      subst hs'
      have add_at : ∀ b off i : Nat, (⟨b, off, none⟩ : Addr).add i = ⟨b, off + i, none⟩ := fun b off i => by unfold Addr.add; split <;> simp_all
      rw [add_at] at k0 k1
      rw [add_at] at k1
      exact ⟨e, ⟨b, off, rfl, k0, k1⟩, q1, q2⟩
    obtain ⟨E, hE, hEi⟩ := list_of_all (fun i (e : Nat × Nat) => (∃ b off, a = ⟨b, off, none⟩ ∧ w.cell? ⟨b, off + i * 2, none⟩ = some (.int .u16 (e.1 : Int)) ∧ w.cell? ⟨b, off + i * 2 + 1, none⟩ = some (.int .u16 (e.2 : Int))) ∧ e.1 < 65536 ∧ e.2 < 65536) m0 hall
    refine ⟨some a, m0, _, E, rfl, hE, fun e he => ?_, fun i e he => ?_⟩
    · obtain ⟨i, hi, e'⟩ := List.getElem_of_mem he
      exact (hEi i e (by rw [List.getElem?_eq_getElem hi, e'])).2
    · obtain ⟨⟨b, off, rfl, k0, k1⟩, _⟩ := hEi i e he
      exact ⟨b, off, rfl, k0, k1⟩
end
end Go.Proofs.Ybulkblzg
