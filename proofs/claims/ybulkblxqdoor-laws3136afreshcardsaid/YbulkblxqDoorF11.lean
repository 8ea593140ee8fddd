import Derived.Test.YbulkblxqDoorF10
namespace Go.Proofs.YbulkblxqDoor
open Go.RowKit
set_option linter.unusedVariables false
set_option linter.unusedSimpArgs false

theorem zero97 {w : World} {b : Nat} (hh : w.heap[b]? = some (.cells #[.int .u64 0, .int .u64 0, .int .u64 0, .int .u64 0, .int .i64 0, .int .u64 0] 97 (0, 0))) :
    (w.cell? ⟨b, 0, none⟩ = some (.int .u64 0) ∧ w.cell? ⟨b, 1, none⟩ = some (.int .u64 0) ∧ w.cell? ⟨b, 2, none⟩ = some (.int .u64 0) ∧ w.cell? ⟨b, 3, none⟩ = some (.int .u64 0) ∧ w.cell? ⟨b, 4, none⟩ = some (.int .i64 0) ∧ w.cell? ⟨b, 5, none⟩ = some (.int .u64 0)) ∧
    (w.frozen? ⟨b, 0, none⟩ = false ∧ w.frozen? ⟨b, 1, none⟩ = false ∧ w.frozen? ⟨b, 2, none⟩ = false ∧ w.frozen? ⟨b, 3, none⟩ = false ∧ w.frozen? ⟨b, 4, none⟩ = false ∧ w.frozen? ⟨b, 5, none⟩ = false) := by
  refine ⟨⟨?_, ?_, ?_, ?_, ?_, ?_⟩, ⟨?_, ?_, ?_, ?_, ?_, ?_⟩⟩
  all_goals first | (rw [cell_of_heap hh]; rfl) | simp [World.frozen?, hh]

theorem four62 {w : World} {b : Nat} {l0 l1 l2 l3 : Int} {t : TypeId} {m : Nat × Nat} (hh : w.heap[b]? = some (.cells #[.int .u64 l0, .int .u64 l1, .int .u64 l2, .int .u64 l3] t m)) :
    w.cell? ⟨b, 0, none⟩ = some (.int .u64 l0) ∧ w.cell? ⟨b, 1, none⟩ = some (.int .u64 l1) ∧ w.cell? ⟨b, 2, none⟩ = some (.int .u64 l2) ∧ w.cell? ⟨b, 3, none⟩ = some (.int .u64 l3) := by
  refine ⟨?_, ?_, ?_, ?_⟩
  all_goals (rw [cell_of_heap hh]; rfl)

set_option maxRecDepth 100000 in
set_option maxHeartbeats 2000000 in
theorem apartShape_any (bf b1 b2 : Nat) (l0 l1 l2 l3 e : Int) (w : World)
    (h0 : w.cell? ⟨b1, 2, none⟩ = some (.int .u64 l0)) (h1 : w.cell? ⟨b1, 3, none⟩ = some (.int .u64 l1)) (h2 : w.cell? ⟨b2, 2, none⟩ = some (.int .u64 l2)) (h3 : w.cell? ⟨b2, 3, none⟩ = some (.int .u64 l3))
    (hcall : ∀ W, Below w.heap.size w W → Calls Ybad.prog 12 #[.pointer (some ⟨bf, 0, none⟩), .pointer (some ⟨b1, 0, none⟩), .pointer (some ⟨b2, 0, none⟩)] W fun e' w' => e' = .returned (.int .u64 e) ∧ Below W.heap.size W w') :
    Calls Ybad.prog 13 #[.pointer (some ⟨bf, 0, none⟩), .pointer (some ⟨b1, 0, none⟩), .pointer (some ⟨b2, 0, none⟩)] w fun e' w' =>
      e' = .returned (.agg #[.int .u64 l0, .int .u64 l1, .int .u64 l2, .int .u64 l3, .int .i64 4, .int .u64 e]) ∧ Below w.heap.size w w' := by
  have HC : Hid (∀ W, Below w.heap.size w W → Calls Ybad.prog 12 #[.pointer (some ⟨bf, 0, none⟩), .pointer (some ⟨b1, 0, none⟩), .pointer (some ⟨b2, 0, none⟩)] W fun e' w' => e' = .returned (.int .u64 e) ∧ Below W.heap.size W w') := hcall
  clear hcall
  have a0 : ∀ o, (w.alloc o).cell? ⟨b1, 2, none⟩ = some (.int .u64 l0) := fun o => cell_alloc h0 o
  have a1 : ∀ o, (w.alloc o).cell? ⟨b1, 3, none⟩ = some (.int .u64 l1) := fun o => cell_alloc h1 o
  have a2 : ∀ o, (w.alloc o).cell? ⟨b2, 2, none⟩ = some (.int .u64 l2) := fun o => cell_alloc h2 o
  have a3 : ∀ o, (w.alloc o).cell? ⟨b2, 3, none⟩ = some (.int .u64 l3) := fun o => cell_alloc h3 o
  have hb1 : b1 < w.heap.size := cell_lt h0
  have hb2 : b2 < w.heap.size := cell_lt h2
  clear h0 h1 h2 h3
  go_enter Ybad.func13, Ybad.ntmps13
  go_wp2
  go_region_held3 (fun w' => w'.cell? ⟨b1, 2, none⟩ = some (.int .u64 l0) ∧ w'.cell? ⟨b1, 3, none⟩ = some (.int .u64 l1) ∧ w'.cell? ⟨b2, 2, none⟩ = some (.int .u64 l2) ∧ w'.cell? ⟨b2, 3, none⟩ = some (.int .u64 l3)) (first | go_keep) (fail)
  rename_i hHeld
  clear hHeld
  go_wp2
  clear a0 a1 a2 a3
  obtain ⟨W2, hW2⟩ : ∃ W2, W2 = ((w.alloc (.cells #[.int .u64 0, .int .u64 0, .int .u64 0, .int .u64 0, .int .i64 0, .int .u64 0] 97)).alloc (.cells #[.int .u64 l0, .int .u64 l1, .int .u64 l2, .int .u64 l3] 62)).drew := ⟨_, rfl⟩
  rw [← hW2]
  have HB2 : Hid (Below w.heap.size w W2) := by
    rw [hW2]; exact (((Below.refl _ _).alloc (Nat.le_refl _) _).alloc (by simp) _).drew
  have HBD : Hid (Below w.heap.size w W2.drew) := HB2.out.drew
  have i1 : W2.heap[w.heap.size + 1]? = some (.cells #[.int .u64 l0, .int .u64 l1, .int .u64 l2, .int .u64 l3] 62 (0, 0)) := by
    rw [hW2]
    have := heap_at_new (w.alloc (.cells #[.int .u64 0, .int .u64 0, .int .u64 0, .int .u64 0, .int .i64 0, .int .u64 0] 97)) (.cells #[.int .u64 l0, .int .u64 l1, .int .u64 l2, .int .u64 l3] 62)
    rw [show (w.alloc (.cells #[.int .u64 0, .int .u64 0, .int .u64 0, .int .u64 0, .int .i64 0, .int .u64 0] 97)).heap.size = w.heap.size + 1 by simp] at this
    exact this
  have i0 : W2.heap[w.heap.size]? = some (.cells #[.int .u64 0, .int .u64 0, .int .u64 0, .int .u64 0, .int .i64 0, .int .u64 0] 97 (0, 0)) := by
    rw [hW2]
    have hb : Below (w.heap.size + 1) (w.alloc (.cells #[.int .u64 0, .int .u64 0, .int .u64 0, .int .u64 0, .int .i64 0, .int .u64 0] 97)) ((w.alloc (.cells #[.int .u64 0, .int .u64 0, .int .u64 0, .int .u64 0, .int .i64 0, .int .u64 0] 97)).alloc (.cells #[.int .u64 l0, .int .u64 l1, .int .u64 l2, .int .u64 l3] 62)).drew := ((Below.refl _ _).alloc (by simp) _).drew
    rw [hb.block _ (by omega)]
    exact heap_at_new _ _
  have hsz : W2.heap.size = w.heap.size + 2 := by rw [hW2]; simp
  have HK : Hid (∀ w17, Below W2.drew.heap.size W2.drew w17 → w17.heap[w.heap.size]? = some (.cells #[.int .u64 0, .int .u64 0, .int .u64 0, .int .u64 0, .int .i64 0, .int .u64 0] 97 (0, 0)) ∧
      w17.heap[w.heap.size + 1]? = some (.cells #[.int .u64 l0, .int .u64 l1, .int .u64 l2, .int .u64 l3] 62 (0, 0)) ∧ Below w.heap.size w w17) := by
    intro w17 hb
    have hs : W2.drew.heap.size = w.heap.size + 2 := hsz
    rw [hs] at hb
    exact ⟨(hb.block _ (by omega)).trans i0, (hb.block _ (by omega)).trans i1, HBD.out.trans (hb.mono (by omega))⟩
  obtain ⟨d0, d1, d2, d3⟩ := four62 i1
  clear hW2 i0 i1 hsz
  go_region_held3 (fun w' => w'.cell? ⟨w.heap.size + 1, 0, none⟩ = some (.int .u64 l0) ∧ w'.cell? ⟨w.heap.size + 1, 1, none⟩ = some (.int .u64 l1) ∧ w'.cell? ⟨w.heap.size + 1, 2, none⟩ = some (.int .u64 l2) ∧ w'.cell? ⟨w.heap.size + 1, 3, none⟩ = some (.int .u64 l3)) (first | go_keep | exact four62 k1)
    ((go_at_call 12; refine (HC.out _ HBD.out).mono ?_; rintro e' w17 ⟨rfl, hb17⟩; have k17 := HK.out w17 hb17; clear hb17; obtain ⟨k0, k1, kb⟩ := k17; obtain ⟨⟨z0, z1, z2, z3, z4, z5⟩, y0, y1, y2, y3, y4, y5⟩ := zero97 k0))
  rename_i hHeld
  clear hHeld
  have HB : Hid (Below w.heap.size w w17) := kb
  clear kb k0 k1
  go_wp2
  refine bodyPost_ret (v := .agg #[.int .u64 l0, .int .u64 l1, .int .u64 l2, .int .u64 l3, .int .i64 4, .int .u64 e]) (by simp [results, Ybad.results13, go_sem, z0, z1, z2, z3, z4, z5]) rfl ⟨rfl, ?_⟩
  have hle : w.heap.size ≤ w.heap.size := Nat.le_refl _
  exact (((((HB.out.setCell hle _).setCell hle _).setCell hle _).setCell hle _).setCell hle _).setCell hle _
end Go.Proofs.YbulkblxqDoor
