import Derived.Test.YbulkblxqDoorW4
namespace Go.Proofs.YbulkblxqDoor
open Go.RowKit Go.Sort
set_option linter.unusedVariables false
set_option linter.unusedSimpArgs false

theorem own_form {w : World} {base : Nat} {e : TypeId} {size : Nat} {v : Value} {n : Nat} {xs : List Value} (h : w.ownsRow base e size v n xs) :
    ∃ a c, v = .slice a n c ∧ ∀ x, a = some x → x.off = 0 ∧ x.spot = none ∧ base ≤ x.block := by
  obtain ⟨h1, h2⟩ := h
  rcases h2 with ⟨rfl, rfl⟩ | ⟨g, cap, cur, rfl, hg, r⟩
  · exact ⟨none, 0, rfl, fun x hx => by cases hx⟩
  · exact ⟨some ⟨g, 0, none⟩, cap, rfl, fun x hx => by cases hx; exact ⟨rfl, rfl, hg⟩⟩

theorem below_putRow {B : Nat} {w : World} {n blk off : Nat} {d : Array Int} {os : Array Obj} (hB : B ≤ blk) (hs : B ≤ w.heap.size) :
    Below B w (grow (putRow (Value.int .i64) (Sort.ahead w n) blk off d) os) := by
  refine ⟨rfl, rfl, rfl, by simp [grow], fun k hk => ?_⟩
  simp only [grow, putRow, mapBlock, Sort.ahead]
  rw [Array.getElem?_append_left (by simp; omega), Array.getElem?_modify, if_neg (by omega)]

theorem sort_own (w : World) (base : Nat) (a : Option Addr) (n c : Nat) (zs : List Int) (hown : w.ownsRow base 3 1 (.slice a n c) n (zs.map (Value.int .i64))) (hb : base ≤ w.heap.size)
    (hsz : n ≤ 1024) (hz : zs.length = n) :
    Calls Ybad.prog 11 #[.slice a n c] w fun e w' => e = .returned (.tuple #[]) ∧ ∃ zs', IsInts .i64 w' a n zs' ∧ zs'.Pairwise (· ≤ ·) ∧ (∀ x, a = some x → base ≤ x.block) ∧ Below base w w' := by
  by_cases h0 : n = 0
  · subst h0
    refine (Ybad.slices_Sort_int_none a c w).mono ?_
    rintro e w' ⟨rfl, rfl⟩
    obtain ⟨a', c', he, hx⟩ := own_form hown
    cases he
    exact ⟨rfl, [], ⟨rfl, by omega, fun i hi => absurd hi (Nat.not_lt_zero _)⟩, List.Pairwise.nil, fun x hx' => (hx x hx').2.2, Below.refl _ _⟩
  · obtain ⟨h1, h2⟩ := hown
    rcases h2 with ⟨_, hn0⟩ | ⟨g, cap, cur, hv, hg, hh, hcap, hm, hcs, htake⟩
    · exact absurd hn0 h0
    · cases hv
      have hlt : g < w.heap.size := by
        by_cases hl : g < w.heap.size
        · exact hl
        · rw [Array.getElem?_eq_none (by omega)] at hh; cases hh
      have hcur : ∀ j (hj : j < zs.length), cur[j]? = some (.int .i64 zs[j]) := fun j hj => by
        have h3 : (cur.toList.take (n * 1))[j]? = some (.int .i64 zs[j]) := by rw [htake]; simp [hj]
        rw [List.getElem?_take_of_lt (by omega)] at h3
        simpa using h3
      have hH : Holds (Value.int .i64) w g 0 zs.toArray := fun j hj => by
        have hj' : j < zs.length := by simpa using hj
        refine ⟨?_, ?_⟩
        · rw [cell_of_heap hh, Nat.zero_add, hcur j hj']
          simp [hj']
        · simp [World.frozen?, hh]
      have hcall := Ybad.slices_Sort_int g 0 c zs w hH hlt (by omega)
      rw [hz] at hcall
      refine hcall.mono ?_
      rintro e w' ⟨rfl, q, os, rfl⟩
      have hperm := List.mergeSort_perm zs (fun x y => decide (x ≤ y))
      have hsort : (zs.mergeSort fun x y => decide (x ≤ y)).Pairwise (· ≤ ·) := by
        have := List.pairwise_mergeSort (le := fun x y : Int => decide (x ≤ y)) (fun a b c h1 h2 => by simp at *; omega) (fun a b => by simp; omega) zs
        simpa using this
      generalize zs.mergeSort (fun x y => decide (x ≤ y)) = zs' at *
      have hl' : zs'.length = n := by rw [hperm.length_eq]; exact hz
      refine ⟨rfl, zs', ⟨hl', by omega, fun i hi => ⟨g, 0, rfl, ?_⟩⟩, hsort, fun x hx => by cases hx; exact hg, below_putRow hg hb⟩
      have h5 := cell?_putRow (Value.int .i64) w g 0 zs.toArray zs'.toArray hH (by simp [hl', hz]) i (by simp; omega)
      have h6 : (grow (putRow (Value.int .i64) (Sort.ahead w q) g 0 zs'.toArray) os).cell? ⟨g, 0 + i, none⟩ = (putRow (Value.int .i64) w g 0 zs'.toArray).cell? ⟨g, 0 + i, none⟩ := by
        refine World.cell?_of_block (w := putRow (Value.int .i64) w g 0 zs'.toArray) ?_
        simp only [grow, putRow, mapBlock, Sort.ahead]
        rw [Array.getElem?_append_left (by simp; omega)]
      rw [h6, h5]
      simp [List.getD, show i < zs'.length by omega]
end Go.Proofs.YbulkblxqDoor
