import Derived.Test.YbulkblzgRows
import Derived.Test.YbulkblzgD4
import Derived.Test.YbulkblzgShelf
import Derived.ProofKit
import Derived.OpenShut
import Derived.Deep.Slices
import Derived.Deep.Strs
import Derived.SizedLaws
namespace Go.Proofs.Ybulkblzg
open Go.ChangeShapes Go.WideShapes Go.ChangeAt Go.RowKit Go.Deep
set_option linter.unusedVariables false
set_option linter.unusedSimpArgs false
set_option maxRecDepth 100000

theorem all_list {α : Type} (Q : Nat → α → Prop) : ∀ n, (∀ i, i < n → ∃ p, Q i p) → ∃ L : List α, L.length = n ∧ ∀ i p, L[i]? = some p → Q i p
  | 0, _ => ⟨[], rfl, fun i p hi => by simp at hi⟩
  | k + 1, hall => by
    obtain ⟨L, h1, h2⟩ := all_list Q k (fun i hi => hall i (by omega))
    obtain ⟨p, hp⟩ := hall k (by omega)
    refine ⟨L ++ [p], by simp [h1], fun i q hq => ?_⟩
    by_cases e : i < L.length
    · rw [List.getElem?_append_left e] at hq; exact h2 i q hq
    · have hil : i < (L ++ [p]).length := (List.getElem?_eq_some_iff.1 hq).1
      obtain rfl : i = k := by simp at hil; omega
      rw [List.getElem?_append_right (by omega)] at hq
      obtain rfl : p = q := by simpa [h1] using hq
      exact hp
theorem three {α : Type} {l : List α} (h : l.length = 3) : ∃ c0 c1 c2, l = [c0, c1, c2] :=
  match l, h with
  | [c0, c1, c2], _ => ⟨c0, c1, c2, rfl⟩

theorem Yba.laidOut' : laidOutB Yba.prog = true := by kernel_rfl
theorem co36 : Yba.prog.cellsOf 36 = 3 := by kernel_rfl
theorem co28 : Yba.prog.cellsOf 28 = 1 := by kernel_rfl
theorem co9 : Yba.prog.cellsOf 9 = 1 := by kernel_rfl
theorem co4 : Yba.prog.cellsOf 4 = 1 := by kernel_rfl
theorem add_at (b off i : Nat) : (⟨b, off, none⟩ : Addr).add i = ⟨b, off + i, none⟩ := by unfold Addr.add; split <;> simp_all

section
variable {H : Type} {enc : TypeId × Value → H} {w : World} {base : Nat} {spare : Nat → Bool} {held : Bool}

theorem no_spot {a : Addr} {v : Value} (h : w.cell? a = some v) : a.spot = none := by
  unfold World.cell? at h
  split at h
  · split at h
    · cases h
    · cases hs : a.spot with
      | none => rfl
      | some x => simp_all
  · cases h

theorem cells_three {a : Addr} {cs : List Value} (h : w.cells? base a 3 = some cs) : ∃ c0 c1 c2, cs = [c0, c1, c2] ∧ w.cell? a = some c0 ∧ w.cell? (a.add 1) = some c1 ∧ w.cell? (a.add 2) = some c2 := by
  unfold World.cells? at h
  by_cases hb : base ≤ a.block
  · rw [if_pos hb] at h
    have hr : List.range 3 = [0, 1, 2] := rfl
    rw [hr] at h
    simp only [List.mapM_cons, List.mapM_nil, Option.bind_eq_bind, Option.bind_eq_some_iff, Option.pure_def, Option.some.injEq] at h
    obtain ⟨c0, h0, l, ⟨c1, h1, l', ⟨c2, h2, l'', rfl, rfl⟩, rfl⟩, rfl⟩ := h
    exact ⟨c0, c1, c2, rfl, by simpa [Addr.add] using h0, h1, h2⟩
  · rw [if_neg hb] at h; cases h

theorem u16_bounds {z : Int} (h : (Lit.int .u16 z).wf = true) : 0 ≤ z ∧ z < 65536 := by
  simp [Lit.wf, IntKind.min, IntKind.max, IntKind.bits, IntKind.signed] at h
  omega

theorem open_span {fuel : Nat} {cs : List Value} {x : DataW H × List MemPlace} (h : DataW.trod enc Yba.prog w base spare held fuel 36 cs = some x) :
    ∃ e : Nat × Nat × Nat, cs = [.int .u16 (e.1 : Int), .int .u16 (e.2.1 : Int), .int .u16 (e.2.2 : Int)] ∧ e.1 < 65536 ∧ e.2.1 < 65536 ∧ e.2.2 < 65536 := by
  obtain ⟨xs, n, rfl, _, hlen, hxs, hf⟩ := DataW.trod_struct Yba.underlying36 h
  rw [co36] at hlen
  obtain ⟨c0, c1, c2, rfl⟩ := three hlen
  have hxs' : xs.length = 3 := hxs
  obtain ⟨x0, x1, x2, rfl⟩ := three hxs'
  have h0 : DataW.trod enc Yba.prog w base spare held n 28 (([c0, c1, c2].drop 0).take (Yba.prog.cellsOf 28)) = some x0 := hf 0 _ rfl
  have h1 : DataW.trod enc Yba.prog w base spare held n 28 (([c0, c1, c2].drop 1).take (Yba.prog.cellsOf 28)) = some x1 := hf 1 _ rfl
  have h2 : DataW.trod enc Yba.prog w base spare held n 28 (([c0, c1, c2].drop 2).take (Yba.prog.cellsOf 28)) = some x2 := hf 2 _ rfl
  rw [co28] at h0 h1 h2
  replace h0 : DataW.trod enc Yba.prog w base spare held n 28 [c0] = some x0 := h0
  replace h1 : DataW.trod enc Yba.prog w base spare held n 28 [c1] = some x1 := h1
  replace h2 : DataW.trod enc Yba.prog w base spare held n 28 [c2] = some x2 := h2
  obtain ⟨z0, e0, _, w0⟩ := DataW.trod_int Yba.underlying28 h0
  obtain ⟨z1, e1, _, w1⟩ := DataW.trod_int Yba.underlying28 h1
  obtain ⟨z2, e2, _, w2⟩ := DataW.trod_int Yba.underlying28 h2
  simp at e0 e1 e2
  subst e0 e1 e2
  have b0 := u16_bounds w0
  have b1 := u16_bounds w1
  have b2 := u16_bounds w2
  refine ⟨(z0.toNat, z1.toNat, z2.toNat), ?_, by simp only; omega, by simp only; omega, by simp only; omega⟩
  rw [show ((z0.toNat : Nat) : Int) = z0 by omega, show ((z1.toNat : Nat) : Int) = z1 by omega, show ((z2.toNat : Nat) : Int) = z2 by omega]

theorem open_spans {r : Reach} {b0' : Nat} {v : Value} {d : DataW H} {p : List MemPlace} (hsp : ∀ b, spare b = true) (hv : Value.okWide Yba.prog w r b0' 34 v) (h : DataW.Trod enc Yba.prog w base spare held 34 v d p) :
    ∃ (a : Option Addr) (m c : Nat) (S : List (Nat × Nat × Nat)), v = .slice a m c ∧ IsSp w a m S := by
  obtain ⟨a0, m0, c0, rfl⟩ := okWide_slice Yba.underlying34 hv
  obtain ⟨fuel, hf⟩ := h
  rcases open_slice Yba.underlying34 hf with ⟨e, _⟩ | ⟨a, len, cap, m, fl, D, Pl, e, hb, hl, hm, hmm, _, hel⟩
  · simp [Value.cells] at e
    obtain ⟨rfl, rfl, rfl⟩ := e
    exact ⟨none, 0, 0, [], rfl, rfl, by simp, fun i e he => by simp at he⟩
  · simp [Value.cells] at e
    obtain ⟨rfl, rfl, rfl⟩ := e
    rw [hsp] at hmm
    simp at hmm
    subst hmm
    have hall : ∀ i, i < m0 → ∃ e : Nat × Nat × Nat, (∃ b off, a = ⟨b, off, none⟩ ∧ w.cell? ⟨b, off + i * 3, none⟩ = some (.int .u16 (e.1 : Int)) ∧ w.cell? ⟨b, off + i * 3 + 1, none⟩ = some (.int .u16 (e.2.1 : Int)) ∧ w.cell? ⟨b, off + i * 3 + 2, none⟩ = some (.int .u16 (e.2.2 : Int))) ∧ e.1 < 65536 ∧ e.2.1 < 65536 ∧ e.2.2 < 65536 := by
      intro i hi
      obtain ⟨cs', h1, h2⟩ := hel i (by omega)
      rw [co36] at h1
      obtain ⟨e, rfl, q1, q2, q3⟩ := open_span h2
      obtain ⟨c0, c1, c2, ec, k0, k1, k2⟩ := cells_three h1
      simp only [List.cons.injEq, and_true] at ec
      obtain ⟨rfl, rfl, rfl⟩ := ec
      obtain ⟨cs0, h01, _⟩ := hel 0 (by omega)
      rw [co36, Nat.zero_mul] at h01
      obtain ⟨_, _, _, _, k00, _, _⟩ := cells_three h01
      have hs := no_spot k00
      obtain ⟨b, off, sp⟩ := a
      have hs' : sp = none := by simpa [Addr.add] using hs
      subst hs'
      rw [add_at] at k0 k1 k2
      rw [add_at] at k1 k2
      exact ⟨e, ⟨b, off, rfl, k0, k1, k2⟩, q1, q2, q3⟩
    obtain ⟨E, hE, hEi⟩ := all_list (fun i (e : Nat × Nat × Nat) => (∃ b off, a = ⟨b, off, none⟩ ∧ w.cell? ⟨b, off + i * 3, none⟩ = some (.int .u16 (e.1 : Int)) ∧ w.cell? ⟨b, off + i * 3 + 1, none⟩ = some (.int .u16 (e.2.1 : Int)) ∧ w.cell? ⟨b, off + i * 3 + 2, none⟩ = some (.int .u16 (e.2.2 : Int))) ∧ e.1 < 65536 ∧ e.2.1 < 65536 ∧ e.2.2 < 65536) m0 hall
    refine ⟨some a, m0, _, E, rfl, hE, fun e he => ?_, fun i e he => ?_⟩
    · obtain ⟨i, hi, e'⟩ := List.getElem_of_mem he
      exact (hEi i e (by rw [List.getElem?_eq_getElem hi, e'])).2
    · obtain ⟨⟨b, off, rfl, k0, k1, k2⟩, _⟩ := hEi i e he
      exact ⟨b, off, rfl, k0, k1, k2⟩

theorem weightsAll_mem {P : Program} {e : TypeId} {l : List (DataW H)} {d : DataW H} (hd : d ∈ l) {n : Nat} (hn : n ∈ d.weights P e) : n ∈ DataW.weightsAll P e l := by
  induction l with
  | nil => cases hd
  | cons x l ih =>
    rw [DataW.weightsAll]
    rcases List.mem_cons.1 hd with rfl | h
    · exact List.mem_append_left _ hn
    · exact List.mem_append_right _ (ih h)

theorem open_texts {r : Reach} {b0' : Nat} {v : Value} {d : DataW H} {p : List MemPlace} (hsp : ∀ b, spare b = true) (hv : Value.okWide Yba.prog w r b0' 22 v) (h : DataW.Trod enc Yba.prog w base spare held 22 v d p) (hsz : ∀ n ∈ d.weights Yba.prog 22, n ≤ reachBytes) :
    ∃ (a : Option Addr) (m c g o : Nat) (Ts : Nat → ByteArray), v = .slice a m c ∧ IsSt w a m g o Ts ∧ ∀ i, i < m → (Ts i).size ≤ 140737488355328 := by
  obtain ⟨a0, m0, c0, rfl⟩ := okWide_slice Yba.underlying22 hv
  obtain ⟨fuel, hf⟩ := h
  rcases open_strs Yba.underlying22 Yba.underlying9 co9 hf with ⟨e, _⟩ | ⟨a, len, cap, m, Sx, e, hb, hl, hm, hmm, hx, hel⟩
  · simp [Value.cells] at e
    obtain ⟨rfl, rfl, rfl⟩ := e
    exact ⟨none, 0, 0, 0, 0, fun _ => ByteArray.empty, rfl, ⟨fun h => by omega, fun i hi => by omega⟩, fun i hi => by omega⟩
  · simp [Value.cells] at e
    obtain ⟨rfl, rfl, rfl⟩ := e
    rw [hsp] at hmm
    simp at hmm
    subst hmm
    simp only [Prod.mk.injEq] at hx
    obtain ⟨hx, -⟩ := hx
    subst hx
    have hw : ∀ i, i < m0 → (Sx i).size ≤ 140737488355328 := by
      intro i hi
      have h1 := hsz (Sx i).data.toList.length (by
        rw [DataW.weights, Yba.underlying22]
        refine List.mem_cons_of_mem _ (List.mem_append_left _ (weightsAll_mem (d := .lit (.string (Sx i).data.toList)) ?_ (by simp [DataW.weights])))
        exact List.mem_map.2 ⟨i, List.mem_range.2 hi, rfl⟩)
      have h2 := reachBytes_lt
      have h3 : (Sx i).size = (Sx i).data.toList.length := by rw [Array.length_toList]; rfl
      omega
    rcases Nat.eq_zero_or_pos m0 with e | e
    · subst e
      exact ⟨some a, 0, _, 0, 0, Sx, rfl, ⟨fun h => by omega, fun i hi => by omega⟩, fun i hi => by omega⟩
    · have k00 := (hel 0 (by omega)).1
      have hs := no_spot k00
      obtain ⟨b, off, sp⟩ := a
      have hs' : sp = none := by simpa [Addr.add] using hs
      subst hs'
      refine ⟨_, m0, _, b, off, Sx, rfl, ⟨fun _ => rfl, fun i hi => ?_⟩, hw⟩
      have := (hel i (by omega)).1
      rwa [add_at] at this
end

theorem ownsRow_of_nil (w : World) (base : Nat) (e : TypeId) : w.ownsRow base e 1 (.slice none 0 0) 0 [] := ⟨rfl, .inl ⟨rfl, rfl⟩⟩
theorem clone_ok : CloneS := by
  intro a n c g o Ts w hn hS
  rcases Nat.eq_zero_or_pos n with e | e
  · subst e
    cases a with
    | none =>
      refine (Yba.slices_Clone_string_nil 0 c w).mono ?_
      rintro e w' ⟨rfl, rfl⟩
      exact ⟨_, rfl, ownsRow_of_nil _ _ _, Below.refl _ _⟩
    | some ad =>
      refine (Yba.slices_Clone_string_zero ad c w).mono ?_
      rintro e w' ⟨v', rfl, h1, -, h2⟩
      exact ⟨_, rfl, h1, h2⟩
  · have ha := hS.1 e
    subst ha
    refine (Yba.slices_Clone_string g o n c ((List.range n).map Ts) w (by simp) (by omega) (fun j hj => ?_)).mono ?_
    · have hj' : j < n := by simpa using hj
      rw [hS.2 j hj']
      simp [List.getD_eq_getElem?_getD, hj']
    · rintro e w' ⟨v', rfl, h1, -, h2⟩
      refine ⟨_, rfl, ?_, h2⟩
      rw [List.take_of_length_le (by simp)] at h1
      have h3 : ((List.range n).map Ts).map Value.string = texts Ts n := by simp [texts, List.map_map]
      rw [h3] at h1
      exact h1
end Go.Proofs.Ybulkblzg
