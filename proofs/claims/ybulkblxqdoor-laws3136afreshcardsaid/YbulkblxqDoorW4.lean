import Derived.Test.YbulkblxqDoorW5
import Derived.Deep.RegionHeld3
namespace Go.Proofs.YbulkblxqDoor
open Go.RowKit
set_option linter.unusedVariables false
set_option linter.unusedSimpArgs false

/-- A class of pairs, as the searches read it. -/
def IsClass (w : World) (b : Nat) (t0 t1 l0 l1 p0 p1 lab : Int) : Prop :=
  w.cell? ⟨b, 0, none⟩ = some (.int .i64 t0) ∧ w.cell? ⟨b, 1, none⟩ = some (.int .i64 t1) ∧ w.cell? ⟨b, 2, none⟩ = some (.int .u64 l0) ∧ w.cell? ⟨b, 3, none⟩ = some (.int .u64 l1) ∧
  w.cell? ⟨b, 4, none⟩ = some (.int .i64 p0) ∧ w.cell? ⟨b, 5, none⟩ = some (.int .i64 p1) ∧ w.cell? ⟨b, 7, none⟩ = some (.int .i32 lab)

theorem IsClass.below {w w' : World} {b : Nat} {t0 t1 l0 l1 p0 p1 lab : Int} (h : IsClass w b t0 t1 l0 l1 p0 p1 lab) (hb : Below w.heap.size w w') : IsClass w' b t0 t1 l0 l1 p0 p1 lab := by
  have hl := cell_lt h.1
  unfold IsClass
  rw [hb.cell (p := ⟨b, 0, none⟩) hl, hb.cell (p := ⟨b, 1, none⟩) hl, hb.cell (p := ⟨b, 2, none⟩) hl, hb.cell (p := ⟨b, 3, none⟩) hl, hb.cell (p := ⟨b, 4, none⟩) hl, hb.cell (p := ⟨b, 5, none⟩) hl, hb.cell (p := ⟨b, 7, none⟩) hl]
  exact h

theorem heap_at_new (w : World) (o : Obj) : (w.alloc o).heap[w.heap.size]? = some o := by
  show (w.heap.push o)[w.heap.size]? = _
  simp

theorem heap3_mid (w : World) (A X Y : Obj) : (((w.alloc A).alloc X).alloc Y).drew.drew.heap[w.heap.size + 1]? = some X := by
  show (((w.heap.push A).push X).push Y)[w.heap.size + 1]? = _
  rw [Array.getElem?_push, if_neg (by simp), Array.getElem?_push, if_pos (by simp)]

theorem heap3_last (w : World) (A X Y : Obj) : (((w.alloc A).alloc X).alloc Y).drew.drew.heap[w.heap.size + 2]? = some Y := by
  show (((w.heap.push A).push X).push Y)[w.heap.size + 2]? = _
  rw [Array.getElem?_push, if_pos (by simp)]

theorem cell_of_heap {w : World} {b : Nat} {cs : Array Value} {t : TypeId} {m : Nat × Nat} (h : w.heap[b]? = some (.cells cs t m)) (o : Nat) : w.cell? ⟨b, o, none⟩ = cs[o]? := by
  unfold World.cell?
  simp only [h]
  rfl

theorem isClass_of {w : World} {b : Nat} {t : TypeId} {m : Nat × Nat} {t0 t1 l0 l1 p0 p1 lab : Int} {c6 : Value} {rest : List Value}
    (h : w.heap[b]? = some (.cells (.int .i64 t0 :: .int .i64 t1 :: .int .u64 l0 :: .int .u64 l1 :: .int .i64 p0 :: .int .i64 p1 :: c6 :: .int .i32 lab :: rest).toArray t m)) :
    IsClass w b t0 t1 l0 l1 p0 p1 lab := by
  unfold IsClass
  simp only [cell_of_heap h]
  exact ⟨rfl, rfl, rfl, rfl, rfl, rfl, rfl⟩

theorem wrap_small {x : Int} (h0 : 0 ≤ x) (h1 : x < 256) (n : Int) : (IntKind.i64.wrap x).tmod n = x % n := by
  rw [IntKind.wrap_i64, show (x + 9223372036854775808) % 18446744073709551616 - 9223372036854775808 = x by omega]
  exact Int.tmod_eq_emod_of_nonneg h0

set_option maxHeartbeats 2000000 in
theorem classes_any (t0 t1 t2 t3 l0 l1 l2 l3 p0 p1 p2 p3 b0 b1 n : Int) (x14 x15 : Value) (w : World) (hn : 0 < n) (hn' : n < 5000)
   (q0 : 0 ≤ p0 ∧ p0 < 256) (q1 : 0 ≤ p1 ∧ p1 < 256) (q2 : 0 ≤ p2 ∧ p2 < 256) (q3 : 0 ≤ p3 ∧ p3 < 256) :
    Calls Ybad.prog 7 #[.agg #[.int .i64 t0, .int .i64 t1, .int .i64 t2, .int .i64 t3, .int .u64 l0, .int .u64 l1, .int .u64 l2, .int .u64 l3, .int .u8 p0, .int .u8 p1, .int .u8 p2, .int .u8 p3, .int .i32 b0, .int .i32 b1, x14, x15], .int .i64 n] w fun e w' =>
      e = .returned (.tuple #[.pointer (some ⟨w.heap.size + 1, 0, none⟩), .pointer (some ⟨w.heap.size + 2, 0, none⟩)]) ∧ Below w.heap.size w w' ∧
        IsClass w' (w.heap.size + 1) t0 t1 l0 l1 (p0 % n) (p1 % n) b0 ∧ IsClass w' (w.heap.size + 2) t2 t3 l2 l3 (p2 % n) (p3 % n) b1 := by
  obtain ⟨q00, q01⟩ := q0
  obtain ⟨q10, q11⟩ := q1
  obtain ⟨q20, q21⟩ := q2
  obtain ⟨q30, q31⟩ := q3
  have hne : ¬ n = 0 := by omega
  go_enter Ybad.func7, Ybad.ntmps7
  go_wp2
  go_region_held3 (fun w' => w'.cell? ⟨w.heap.size, 0, none⟩ = some (.int .i64 t0) ∧ w'.cell? ⟨w.heap.size, 1, none⟩ = some (.int .i64 t1) ∧ w'.cell? ⟨w.heap.size, 4, none⟩ = some (.int .u64 l0) ∧ w'.cell? ⟨w.heap.size, 5, none⟩ = some (.int .u64 l1) ∧ w'.cell? ⟨w.heap.size, 8, none⟩ = some (.int .u8 p0) ∧ w'.cell? ⟨w.heap.size, 9, none⟩ = some (.int .u8 p1) ∧ w'.cell? ⟨w.heap.size, 12, none⟩ = some (.int .i32 b0)) (go_keep) (fail)
  rename_i hHeld
  clear hHeld
  go_wp2
  go_region_held3 (fun w' => w'.cell? ⟨w.heap.size, 2, none⟩ = some (.int .i64 t2) ∧ w'.cell? ⟨w.heap.size, 3, none⟩ = some (.int .i64 t3) ∧ w'.cell? ⟨w.heap.size, 6, none⟩ = some (.int .u64 l2) ∧ w'.cell? ⟨w.heap.size, 7, none⟩ = some (.int .u64 l3) ∧ w'.cell? ⟨w.heap.size, 10, none⟩ = some (.int .u8 p2) ∧ w'.cell? ⟨w.heap.size, 11, none⟩ = some (.int .u8 p3) ∧ w'.cell? ⟨w.heap.size, 13, none⟩ = some (.int .i32 b1)) (go_keep) (fail)
  rename_i hHeld
  clear hHeld
  go_wp2
  go_ret2
  refine ⟨rfl, (((((Below.refl _ _).alloc (Nat.le_refl _) _).alloc (by simp) _).alloc (by simp; omega) _).drew).drew, ?_, ?_⟩
  · rw [← wrap_small q00 q01, ← wrap_small q10 q11]
    exact isClass_of (heap3_mid _ _ _ _)
  · rw [← wrap_small q20 q21, ← wrap_small q30 q31]
    exact isClass_of (heap3_last _ _ _ _)
end Go.Proofs.YbulkblxqDoor
