import Derived.Test.YbulkblxqDoorRows
import Derived.Test.YbulkblxqDoorW3
import Derived.ProofKit
import Derived.OpenShut
import Derived.OpenVars
import Derived.Deep.Slices
import Derived.LaidMore
namespace Go.Proofs.YbulkblxqDoor
open Go.ChangeShapes Go.WideShapes Go.ChangeAt Go.RowKit Go.Deep
set_option linter.unusedVariables false
set_option linter.unusedSimpArgs false
set_option maxRecDepth 100000

theorem list16 {α : Type} {l : List α} (h : l.length = 16) : ∃ c0 c1 c2 c3 c4 c5 c6 c7 c8 c9 c10 c11 c12 c13 c14 c15, l = [c0, c1, c2, c3, c4, c5, c6, c7, c8, c9, c10, c11, c12, c13, c14, c15] :=
  match l, h with
  | [c0, c1, c2, c3, c4, c5, c6, c7, c8, c9, c10, c11, c12, c13, c14, c15], _ => ⟨c0, c1, c2, c3, c4, c5, c6, c7, c8, c9, c10, c11, c12, c13, c14, c15, rfl⟩

theorem list_of_all {α : Type} (Q : Nat → α → Prop) : ∀ n, (∀ i, i < n → ∃ p, Q i p) → ∃ L : List α, L.length = n ∧ ∀ i (hi : i < L.length), Q i L[i]
  | 0, _ => ⟨[], rfl, fun i hi => absurd hi (Nat.not_lt_zero _)⟩
  | k + 1, hall => by
    obtain ⟨L, h1, h2⟩ := list_of_all Q k (fun i hi => hall i (by omega))
    obtain ⟨p, hp⟩ := hall k (by omega)
    refine ⟨L ++ [p], by simp [h1], fun i hi => ?_⟩
    by_cases e : i < L.length
    · rw [List.getElem_append_left e]; exact h2 i e
    · obtain rfl : i = k := by simp at hi; omega
      rw [List.getElem_append_right (by omega)]
      simpa [h1] using hp

theorem list2 {α : Type} {l : List α} (h : l.length = 2) : ∃ c0 c1, l = [c0, c1] :=
  match l, h with
  | [c0, c1], _ => ⟨c0, c1, rfl⟩

theorem oc21 : Ybad.prog.cellsOf 21 = 1 := by kernel_rfl
theorem oc22 : Ybad.prog.cellsOf 22 = 1 := by kernel_rfl
theorem oc69 : Ybad.prog.cellsOf 69 = 2 := by kernel_rfl
theorem oc66 : Ybad.prog.cellsOf 66 = 1 := by kernel_rfl
theorem oc67 : Ybad.prog.cellsOf 67 = 1 := by kernel_rfl
theorem oc5 : Ybad.prog.cellsOf 5 = 1 := by kernel_rfl
theorem oc3 : Ybad.prog.cellsOf 3 = 1 := by kernel_rfl
theorem oc23 : Ybad.prog.cellsOf 23 = 1 := by kernel_rfl
theorem oc25 : Ybad.prog.cellsOf 25 = 16 := by kernel_rfl

section
variable {H : Type} {enc : TypeId × Value → H} {w : World} {base : Nat} {spare : Nat → Bool} {held : Bool}

theorem cells_two {a : Addr} {cs : List Value} (h : w.cells? base a 2 = some cs) : ∃ c0 c1, cs = [c0, c1] ∧ w.cell? a = some c0 ∧ w.cell? (a.add 1) = some c1 := by
  unfold World.cells? at h
  by_cases hb : base ≤ a.block
  · rw [if_pos hb] at h
    have hr : List.range 2 = [0, 1] := rfl
    rw [hr] at h
    simp only [List.mapM_cons, List.mapM_nil, Option.bind_eq_bind, Option.bind_eq_some_iff, Option.pure_def, Option.some.injEq] at h
    obtain ⟨c0, h0, l, ⟨c1, h1, l', rfl, rfl⟩, rfl⟩ := h
    exact ⟨c0, c1, rfl, by simpa [Addr.add] using h0, h1⟩
  · rw [if_neg hb] at h; cases h

theorem spot_none {a : Addr} {v : Value} (h : w.cell? a = some v) : a.spot = none := by
  unfold World.cell? at h
  split at h
  · split at h
    · cases h
    · cases hs : a.spot with
      | none => rfl
      | some x => simp_all
  · cases h

theorem bounds_i8' {z : Int} (h : (Lit.int .i8 z).wf = true) : -128 ≤ z ∧ z < 128 := by
  simp [Lit.wf, IntKind.min, IntKind.max, IntKind.bits, IntKind.signed] at h
  omega

theorem bounds_u8' {z : Int} (h : (Lit.int .u8 z).wf = true) : 0 ≤ z ∧ z < 256 := by
  simp [Lit.wf, IntKind.min, IntKind.max, IntKind.bits, IntKind.signed] at h
  omega

theorem add_at (b off i : Nat) : (⟨b, off, none⟩ : Addr).add i = ⟨b, off + i, none⟩ := by
  unfold Addr.add
  split
  · rename_i h; subst h; rfl
  · rfl

/-- One profile as it came in, opened. -/
theorem open_prof {fuel : Nat} {cs : List Value} {x : DataW H × List MemPlace} (hsp : ∀ b, spare b = true) (h : DataW.trod enc Ybad.prog w base spare held fuel 69 cs = some x) :
    ∃ p : PIn, cs = [.int .i8 p.hub, .slice p.a p.n p.c] ∧ -128 ≤ p.hub ∧ p.hub < 128 ∧ (p.n ≤ 1024 → IsInts .u8 w p.a p.n p.zs ∧ ∀ z ∈ p.zs, 0 ≤ z ∧ z < 256) := by
  obtain ⟨xs, n, rfl, _, hlen, hxs, hf⟩ := DataW.trod_struct Ybad.underlying69 h
  rw [oc69] at hlen
  obtain ⟨c0, c1, rfl⟩ := list2 hlen
  have hxs' : xs.length = 2 := hxs
  obtain ⟨x0, x1, rfl⟩ := list2 hxs'
  have h0 : DataW.trod enc Ybad.prog w base spare held n 66 (([c0, c1].drop 0).take (Ybad.prog.cellsOf 66)) = some x0 := hf 0 _ rfl
  have h1 : DataW.trod enc Ybad.prog w base spare held n 67 (([c0, c1].drop 1).take (Ybad.prog.cellsOf 67)) = some x1 := hf 1 _ rfl
  rw [oc66] at h0
  rw [oc67] at h1
  replace h0 : DataW.trod enc Ybad.prog w base spare held n 66 [c0] = some x0 := h0
  replace h1 : DataW.trod enc Ybad.prog w base spare held n 67 [c1] = some x1 := h1
  obtain ⟨z, e0, _, wz⟩ := DataW.trod_int Ybad.underlying66 h0
  simp at e0
  subst e0
  have bz := bounds_i8' wz
  rcases open_ints Ybad.underlying67 Ybad.underlying5 oc5 h1 with ⟨e1, _⟩ | ⟨a, len, cap, zs, e1, _, hl, hm, hzl, _, hcell, hwz⟩
  · simp at e1
    subst e1
    exact ⟨⟨z, none, 0, 0, []⟩, rfl, bz.1, bz.2, fun _ => ⟨⟨rfl, by simp, fun i hi => absurd hi (Nat.not_lt_zero _)⟩, fun z hz => absurd hz (List.not_mem_nil)⟩⟩
  · simp at e1
    subst e1
    rw [hsp] at hzl
    simp at hzl
    refine ⟨⟨z, some a, len, cap, zs.take len⟩, rfl, bz.1, bz.2, fun hle => ⟨⟨by simp; omega, by dsimp only at hle ⊢; omega, fun i hi => ?_⟩, fun y hy => bounds_u8' (hwz y (List.mem_of_mem_take hy))⟩⟩
    dsimp only at hle hi ⊢
    have hc := hcell i (by omega)
    have hs := spot_none (hcell 0 (by omega))
    obtain ⟨b, off, sp⟩ := a
    have hs' : sp = none := by simpa [Addr.add] using hs
    subst hs'
    refine ⟨b, off, rfl, ?_⟩
    rw [add_at] at hc
    rw [hc]
    simp [List.getD, List.getElem?_take, hi]

theorem open_profs {fuel : Nat} {v : Value} {x : DataW H × List MemPlace} (hsp : ∀ b, spare b = true) (h : DataW.trod enc Ybad.prog w base spare held fuel 23 [v] = some x) :
    ∃ (a : Option Addr) (n c : Nat) (L : List PIn), v = .slice a n c ∧ IsPIns w a n L := by
  rcases open_slice Ybad.underlying23 h with ⟨e, _⟩ | ⟨a, len, cap, m, fl, D, Pl, e, hb, hl, hm, hmm, _, hel⟩
  · simp at e
    subst e
    exact ⟨none, 0, 0, [], rfl, rfl, fun i hi => absurd hi (Nat.not_lt_zero _)⟩
  · simp at e
    subst e
    rw [hsp] at hmm
    simp at hmm
    subst hmm
    have hall : ∀ i, i < len → ∃ p : PIn, (∃ b off, a = ⟨b, off, none⟩ ∧ w.cell? ⟨b, off + i * 2, none⟩ = some (.int .i8 p.hub) ∧ w.cell? ⟨b, off + i * 2 + 1, none⟩ = some (.slice p.a p.n p.c)) ∧ -128 ≤ p.hub ∧ p.hub < 128 ∧ (p.n ≤ 1024 → IsInts .u8 w p.a p.n p.zs ∧ ∀ z ∈ p.zs, 0 ≤ z ∧ z < 256) := by
      intro i hi
      obtain ⟨cs', h1, h2⟩ := hel i (by omega)
      rw [oc69] at h1
      obtain ⟨p, rfl, q1, q2, q3⟩ := open_prof hsp h2
      obtain ⟨c0, c1, ec, k0, k1⟩ := cells_two h1
      simp only [List.cons.injEq, and_true] at ec
      obtain ⟨rfl, rfl⟩ := ec
      obtain ⟨cs0, h01, _⟩ := hel 0 (by omega)
      rw [oc69, Nat.zero_mul] at h01
      obtain ⟨_, _, _, k00, _⟩ := cells_two h01
      have hs := spot_none k00
      obtain ⟨b, off, sp⟩ := a
      have hs' : sp = none := by simpa [Addr.add] using hs
      subst hs'
      rw [add_at] at k0 k1
      rw [add_at] at k1
      exact ⟨p, ⟨b, off, rfl, k0, k1⟩, q1, q2, q3⟩
    obtain ⟨L, hL, hLi⟩ : ∃ L : List PIn, L.length = len ∧ ∀ i (hi : i < L.length), (∃ b off, a = ⟨b, off, none⟩ ∧ w.cell? ⟨b, off + i * 2, none⟩ = some (.int .i8 L[i].hub) ∧ w.cell? ⟨b, off + i * 2 + 1, none⟩ = some (.slice L[i].a L[i].n L[i].c)) ∧ -128 ≤ L[i].hub ∧ L[i].hub < 128 ∧ (L[i].n ≤ 1024 → IsInts .u8 w L[i].a L[i].n L[i].zs ∧ ∀ z ∈ L[i].zs, 0 ≤ z ∧ z < 256) := by
      exact list_of_all (fun i (p : PIn) => (∃ b off, a = ⟨b, off, none⟩ ∧ w.cell? ⟨b, off + i * 2, none⟩ = some (.int .i8 p.hub) ∧ w.cell? ⟨b, off + i * 2 + 1, none⟩ = some (.slice p.a p.n p.c)) ∧ -128 ≤ p.hub ∧ p.hub < 128 ∧ (p.n ≤ 1024 → IsInts .u8 w p.a p.n p.zs ∧ ∀ z ∈ p.zs, 0 ≤ z ∧ z < 256)) len hall
    refine ⟨some a, len, m, L, rfl, hL, fun i hi => ?_⟩
    obtain ⟨⟨b, off, rfl, k0, k1⟩, q1, q2, q3⟩ := hLi i hi
    exact ⟨b, off, rfl, k0, k1, q1, q2, q3⟩

/-- The whole input, opened. -/
theorem open_in {r : Reach} {b0' : Nat} {v : Value} {d : DataW H} {p : List MemPlace} (hsp : ∀ b, spare b = true) (hv : Value.okWide Ybad.prog w r b0' 25 v) (h : DataW.Trod enc Ybad.prog w base spare held 25 v d p) :
    ∃ (t0 t1 t2 t3 l0 l1 l2 l3 p0 p1 p2 p3 b0 b1 pre : Int) (a : Option Addr) (n c : Nat) (L : List PIn),
      v = .agg #[.int .i64 t0, .int .i64 t1, .int .i64 t2, .int .i64 t3, .int .u64 l0, .int .u64 l1, .int .u64 l2, .int .u64 l3, .int .u8 p0, .int .u8 p1, .int .u8 p2, .int .u8 p3, .int .i32 b0, .int .i32 b1, .slice a n c, .int .u8 pre] ∧
      IsPIns w a n L ∧ (0 ≤ p0 ∧ p0 < 256) ∧ (0 ≤ p1 ∧ p1 < 256) ∧ (0 ≤ p2 ∧ p2 < 256) ∧ (0 ≤ p3 ∧ p3 < 256) ∧ (0 ≤ pre ∧ pre < 256) ∧ (Lit.int .i32 b0).wf = true ∧ (Lit.int .i32 b1).wf = true ∧
      (Lit.int .u64 l0).wf = true ∧ (Lit.int .u64 l1).wf = true ∧ (Lit.int .u64 l2).wf = true ∧ (Lit.int .u64 l3).wf = true := by
  obtain ⟨cs, rfl, hsz⟩ := okWide_struct Ybad.underlying25 hv
  rw [oc25] at hsz
  obtain ⟨l⟩ := cs
  obtain ⟨c0, c1, c2, c3, c4, c5, c6, c7, c8, c9, c10, c11, c12, c13, c14, c15, rfl⟩ := list16 (l := l) hsz
  obtain ⟨fuel, hf⟩ := h
  obtain ⟨xs, n, rfl, _, _, hxs, hfl⟩ := DataW.trod_struct Ybad.underlying25 hf
  have hxs' : xs.length = 16 := hxs
  obtain ⟨x0, x1, x2, x3, x4, x5, x6, x7, x8, x9, x10, x11, x12, x13, x14, x15, rfl⟩ := list16 hxs'
  have h0 : DataW.trod enc Ybad.prog w base spare held n 3 (([c0, c1, c2, c3, c4, c5, c6, c7, c8, c9, c10, c11, c12, c13, c14, c15].drop 0).take (Ybad.prog.cellsOf 3)) = some x0 := hfl 0 _ rfl
  rw [oc3] at h0
  replace h0 : DataW.trod enc Ybad.prog w base spare held n 3 [c0] = some x0 := h0
  have h1 : DataW.trod enc Ybad.prog w base spare held n 3 (([c0, c1, c2, c3, c4, c5, c6, c7, c8, c9, c10, c11, c12, c13, c14, c15].drop 1).take (Ybad.prog.cellsOf 3)) = some x1 := hfl 1 _ rfl
  rw [oc3] at h1
  replace h1 : DataW.trod enc Ybad.prog w base spare held n 3 [c1] = some x1 := h1
  have h2 : DataW.trod enc Ybad.prog w base spare held n 3 (([c0, c1, c2, c3, c4, c5, c6, c7, c8, c9, c10, c11, c12, c13, c14, c15].drop 2).take (Ybad.prog.cellsOf 3)) = some x2 := hfl 2 _ rfl
  rw [oc3] at h2
  replace h2 : DataW.trod enc Ybad.prog w base spare held n 3 [c2] = some x2 := h2
  have h3 : DataW.trod enc Ybad.prog w base spare held n 3 (([c0, c1, c2, c3, c4, c5, c6, c7, c8, c9, c10, c11, c12, c13, c14, c15].drop 3).take (Ybad.prog.cellsOf 3)) = some x3 := hfl 3 _ rfl
  rw [oc3] at h3
  replace h3 : DataW.trod enc Ybad.prog w base spare held n 3 [c3] = some x3 := h3
  have h4 : DataW.trod enc Ybad.prog w base spare held n 22 (([c0, c1, c2, c3, c4, c5, c6, c7, c8, c9, c10, c11, c12, c13, c14, c15].drop 4).take (Ybad.prog.cellsOf 22)) = some x4 := hfl 4 _ rfl
  rw [oc22] at h4
  replace h4 : DataW.trod enc Ybad.prog w base spare held n 22 [c4] = some x4 := h4
  have h5 : DataW.trod enc Ybad.prog w base spare held n 22 (([c0, c1, c2, c3, c4, c5, c6, c7, c8, c9, c10, c11, c12, c13, c14, c15].drop 5).take (Ybad.prog.cellsOf 22)) = some x5 := hfl 5 _ rfl
  rw [oc22] at h5
  replace h5 : DataW.trod enc Ybad.prog w base spare held n 22 [c5] = some x5 := h5
  have h6 : DataW.trod enc Ybad.prog w base spare held n 22 (([c0, c1, c2, c3, c4, c5, c6, c7, c8, c9, c10, c11, c12, c13, c14, c15].drop 6).take (Ybad.prog.cellsOf 22)) = some x6 := hfl 6 _ rfl
  rw [oc22] at h6
  replace h6 : DataW.trod enc Ybad.prog w base spare held n 22 [c6] = some x6 := h6
  have h7 : DataW.trod enc Ybad.prog w base spare held n 22 (([c0, c1, c2, c3, c4, c5, c6, c7, c8, c9, c10, c11, c12, c13, c14, c15].drop 7).take (Ybad.prog.cellsOf 22)) = some x7 := hfl 7 _ rfl
  rw [oc22] at h7
  replace h7 : DataW.trod enc Ybad.prog w base spare held n 22 [c7] = some x7 := h7
  have h8 : DataW.trod enc Ybad.prog w base spare held n 5 (([c0, c1, c2, c3, c4, c5, c6, c7, c8, c9, c10, c11, c12, c13, c14, c15].drop 8).take (Ybad.prog.cellsOf 5)) = some x8 := hfl 8 _ rfl
  rw [oc5] at h8
  replace h8 : DataW.trod enc Ybad.prog w base spare held n 5 [c8] = some x8 := h8
  have h9 : DataW.trod enc Ybad.prog w base spare held n 5 (([c0, c1, c2, c3, c4, c5, c6, c7, c8, c9, c10, c11, c12, c13, c14, c15].drop 9).take (Ybad.prog.cellsOf 5)) = some x9 := hfl 9 _ rfl
  rw [oc5] at h9
  replace h9 : DataW.trod enc Ybad.prog w base spare held n 5 [c9] = some x9 := h9
  have h10 : DataW.trod enc Ybad.prog w base spare held n 5 (([c0, c1, c2, c3, c4, c5, c6, c7, c8, c9, c10, c11, c12, c13, c14, c15].drop 10).take (Ybad.prog.cellsOf 5)) = some x10 := hfl 10 _ rfl
  rw [oc5] at h10
  replace h10 : DataW.trod enc Ybad.prog w base spare held n 5 [c10] = some x10 := h10
  have h11 : DataW.trod enc Ybad.prog w base spare held n 5 (([c0, c1, c2, c3, c4, c5, c6, c7, c8, c9, c10, c11, c12, c13, c14, c15].drop 11).take (Ybad.prog.cellsOf 5)) = some x11 := hfl 11 _ rfl
  rw [oc5] at h11
  replace h11 : DataW.trod enc Ybad.prog w base spare held n 5 [c11] = some x11 := h11
  have h12 : DataW.trod enc Ybad.prog w base spare held n 21 (([c0, c1, c2, c3, c4, c5, c6, c7, c8, c9, c10, c11, c12, c13, c14, c15].drop 12).take (Ybad.prog.cellsOf 21)) = some x12 := hfl 12 _ rfl
  rw [oc21] at h12
  replace h12 : DataW.trod enc Ybad.prog w base spare held n 21 [c12] = some x12 := h12
  have h13 : DataW.trod enc Ybad.prog w base spare held n 21 (([c0, c1, c2, c3, c4, c5, c6, c7, c8, c9, c10, c11, c12, c13, c14, c15].drop 13).take (Ybad.prog.cellsOf 21)) = some x13 := hfl 13 _ rfl
  rw [oc21] at h13
  replace h13 : DataW.trod enc Ybad.prog w base spare held n 21 [c13] = some x13 := h13
  have h14 : DataW.trod enc Ybad.prog w base spare held n 23 (([c0, c1, c2, c3, c4, c5, c6, c7, c8, c9, c10, c11, c12, c13, c14, c15].drop 14).take (Ybad.prog.cellsOf 23)) = some x14 := hfl 14 _ rfl
  rw [oc23] at h14
  replace h14 : DataW.trod enc Ybad.prog w base spare held n 23 [c14] = some x14 := h14
  have h15 : DataW.trod enc Ybad.prog w base spare held n 5 (([c0, c1, c2, c3, c4, c5, c6, c7, c8, c9, c10, c11, c12, c13, c14, c15].drop 15).take (Ybad.prog.cellsOf 5)) = some x15 := hfl 15 _ rfl
  rw [oc5] at h15
  replace h15 : DataW.trod enc Ybad.prog w base spare held n 5 [c15] = some x15 := h15
  obtain ⟨z0, e0, _, w0⟩ := DataW.trod_int Ybad.underlying3 h0
  obtain ⟨z1, e1, _, w1⟩ := DataW.trod_int Ybad.underlying3 h1
  obtain ⟨z2, e2, _, w2⟩ := DataW.trod_int Ybad.underlying3 h2
  obtain ⟨z3, e3, _, w3⟩ := DataW.trod_int Ybad.underlying3 h3
  obtain ⟨z4, e4, _, w4⟩ := DataW.trod_int Ybad.underlying22 h4
  obtain ⟨z5, e5, _, w5⟩ := DataW.trod_int Ybad.underlying22 h5
  obtain ⟨z6, e6, _, w6⟩ := DataW.trod_int Ybad.underlying22 h6
  obtain ⟨z7, e7, _, w7⟩ := DataW.trod_int Ybad.underlying22 h7
  obtain ⟨z8, e8, _, w8⟩ := DataW.trod_int Ybad.underlying5 h8
  obtain ⟨z9, e9, _, w9⟩ := DataW.trod_int Ybad.underlying5 h9
  obtain ⟨z10, e10, _, w10⟩ := DataW.trod_int Ybad.underlying5 h10
  obtain ⟨z11, e11, _, w11⟩ := DataW.trod_int Ybad.underlying5 h11
  obtain ⟨z12, e12, _, w12⟩ := DataW.trod_int Ybad.underlying21 h12
  obtain ⟨z13, e13, _, w13⟩ := DataW.trod_int Ybad.underlying21 h13
  obtain ⟨z15, e15, _, w15⟩ := DataW.trod_int Ybad.underlying5 h15
  simp only [List.cons.injEq, and_true] at e0 e1 e2 e3 e4 e5 e6 e7 e8 e9 e10 e11 e12 e13 e15
  subst e0 e1 e2 e3 e4 e5 e6 e7 e8 e9 e10 e11 e12 e13 e15
  obtain ⟨a, n', c, L, rfl, hL⟩ := open_profs hsp h14
  exact ⟨z0, z1, z2, z3, z4, z5, z6, z7, z8, z9, z10, z11, z12, z13, z15, a, n', c, L, rfl, hL, bounds_u8' w8, bounds_u8' w9, bounds_u8' w10, bounds_u8' w11, bounds_u8' w15, w12, w13, w4, w5, w6, w7⟩
end
end Go.Proofs.YbulkblxqDoor
