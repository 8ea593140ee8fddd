import Derived.Test.YbulkblxqDoorW2
namespace Go.Proofs.YbulkblxqDoor
open Go.RowKit
set_option linter.unusedVariables false
set_option linter.unusedSimpArgs false

/-- One profile as it came in. -/
structure PIn where
  hub : Int
  a : Option Addr
  n : Nat
  c : Nat
  zs : List Int

def IsPIns (w : World) (a : Option Addr) (n : Nat) (L : List PIn) : Prop :=
  L.length = n ∧ ∀ i (h : i < L.length), ∃ b off, a = some ⟨b, off, none⟩ ∧ w.cell? ⟨b, off + i * 2, none⟩ = some (.int .i8 L[i].hub) ∧
    w.cell? ⟨b, off + i * 2 + 1, none⟩ = some (.slice L[i].a L[i].n L[i].c) ∧ -128 ≤ L[i].hub ∧ L[i].hub < 128 ∧ (L[i].n ≤ 1024 → IsInts .u8 w L[i].a L[i].n L[i].zs ∧ ∀ z ∈ L[i].zs, 0 ≤ z ∧ z < 256)

def bigB (L : List PIn) : Bool := decide (1024 < L.length) || L.any fun p => decide (1024 < p.n)

theorem bigB_of_some {L : List PIn} {k : Nat} (hk : k < L.length) (h : 1024 < L[k].n) : bigB L = true := by
  unfold bigB
  rw [Bool.or_eq_true]
  right
  rw [List.any_eq_true]
  exact ⟨L[k], List.getElem_mem _, by simpa using h⟩

theorem bigB_of_none {L : List PIn} (hl : L.length ≤ 1024) (h : ∀ j (hj : j < L.length), L[j].n ≤ 1024) : bigB L = false := by
  unfold bigB
  rw [Bool.or_eq_false_iff]
  refine ⟨by simp; omega, ?_⟩
  rw [List.any_eq_false]
  intro p hp
  obtain ⟨j, hj, rfl⟩ := List.getElem_of_mem hp
  have := h j hj
  simp; omega

theorem cell_alloc {w : World} {p : Addr} {v : Value} (h : w.cell? p = some v) (o : Obj) : (w.alloc o).cell? p = some v := by
  rw [((Below.refl w.heap.size w).alloc (Nat.le_refl _) o).cell (cell_lt h)]; exact h

theorem toolarge_at (x0 x1 x2 x3 x4 x5 x6 x7 x8 x9 x10 x11 x12 x13 x15 : Value) (b off n c : Nat) (L : List PIn) (r : Bool) (w : World) (hz : L.length = n) (hn : n ≤ 1024)
    (hr : Hid (r = bigB L))
    (hc : ∀ i (h : i < L.length), w.cell? ⟨b, off + i * 2 + 1, none⟩ = some (.slice L[i].a L[i].n L[i].c)) :
    Calls Ybad.prog 5 #[.agg #[x0, x1, x2, x3, x4, x5, x6, x7, x8, x9, x10, x11, x12, x13, .slice (some ⟨b, off, none⟩) n c, x15]] w fun e w' =>
      e = .returned (.bool r) ∧ Below w.heap.size w w' := by
  have B1 : Hid (∀ o1, Below w.heap.size w (w.alloc o1)) := fun o1 => ((Below.refl _ _).alloc (Nat.le_refl _) _)
  go_enter Ybad.func5, Ybad.ntmps5
  go_wp2
  go_loop [3] (fun i => ∃ k : Nat, k ≤ n ∧ i = .int .i64 k ∧ ∀ j (hj : j < L.length), j < k → L[j].n ≤ 1024) (fun i => n - (intOf i).toNat)
  case atStart => exact ⟨0, Nat.zero_le _, rfl, fun j _ hj => absurd hj (Nat.not_lt_zero _)⟩
  case round =>
    obtain ⟨k, hk, rfl, hno⟩ := hrel
    have HN : Hid (∀ j (hj : j < L.length), j < k → L[j].n ≤ 1024) := hno
    clear hno
    by_cases hlt : k < n
    · have hkl : k < L.length := by omega
      have hcell : ∀ o, (w.alloc o).cell? ⟨b, off + k * 2 + 1, none⟩ = some (.slice L[k].a L[k].n L[k].c) := fun o => cell_alloc (hc k hkl) o
      by_cases hbig : 1024 < L[k].n
      · have HB : Hid (bigB L = true) := bigB_of_some hkl hbig
        generalize hp : L[k] = p at *
        clear hc hz
        go_wp2
        go_ret
        exact ⟨ret_bool (by rw [hr.out, HB.out]), B1.out _⟩
      · have HB : Hid (L[k].n ≤ 1024) := by unfold Hid; omega
        have HP : Hid (∀ j (hj : j < L.length), j < k + 1 → L[j].n ≤ 1024) := by
          intro j hj hjk
          by_cases e : j = k
          · subst e; exact HB.out
          · exact HN.out j hj (by omega)
        generalize hp : L[k] = p at *
        clear hc hp
        go_wp2
        go_round
        case rel => exact ⟨k + 1, by omega, by go_num, HP.out⟩
        case measure => simp [intOf]; omega
    · go_wp2
      go_ret
      exact ⟨ret_bool (by rw [hr.out, bigB_of_none (by omega) (fun j hj => HN.out j hj (by omega))]), B1.out _⟩

theorem toolarge_any (x0 x1 x2 x3 x4 x5 x6 x7 x8 x9 x10 x11 x12 x13 x15 : Value) (a : Option Addr) (n c : Nat) (L : List PIn) (w : World) (h : IsPIns w a n L) :
    Calls Ybad.prog 5 #[.agg #[x0, x1, x2, x3, x4, x5, x6, x7, x8, x9, x10, x11, x12, x13, .slice a n c, x15]] w fun e w' =>
      e = .returned (.bool (bigB L)) ∧ Below w.heap.size w w' := by
  have B1 : Hid (∀ o1, Below w.heap.size w (w.alloc o1)) := fun o1 => ((Below.refl _ _).alloc (Nat.le_refl _) _)
  obtain ⟨hz, hc⟩ := h
  by_cases h1 : n ≤ 1024
  · by_cases h0 : n = 0
    · subst h0
      obtain rfl : L = [] := List.length_eq_zero_iff.1 hz
      go_enter Ybad.func5, Ybad.ntmps5
      go_wp2
      refine wp_loop_rounds 1 ?_
      rw [rounds_succ]
      go_wp2
      go_ret
      exact ⟨rfl, B1.out _⟩
    · obtain ⟨b, off, rfl, _⟩ := hc 0 (by omega)
      exact toolarge_at x0 x1 x2 x3 x4 x5 x6 x7 x8 x9 x10 x11 x12 x13 x15 b off n c L _ w hz h1 rfl fun i hi => by
        obtain ⟨b', off', he, _, h', _⟩ := hc i hi
        simp only [Option.some.injEq, Addr.mk.injEq, and_true] at he
        obtain ⟨rfl, rfl⟩ := he
        exact h'
  · have hb : Hid (bigB L = true) := by unfold Hid; unfold bigB; rw [decide_eq_true (by omega)]; rfl
    clear hc
    generalize bigB L = r at *
    go_enter Ybad.func5, Ybad.ntmps5
    go_wp2
    go_ret
    exact ⟨ret_bool hb.out, B1.out _⟩
end Go.Proofs.YbulkblxqDoor
