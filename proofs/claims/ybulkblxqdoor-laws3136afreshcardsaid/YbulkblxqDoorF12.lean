import Derived.Test.YbulkblxqDoorF11
import Derived.Test.YbulkblxqDoorW4K
import Derived.Deep.AppendLies
namespace Go.Proofs.YbulkblxqDoor
open Go.RowKit Go.Maps
set_option linter.unusedVariables false
set_option linter.unusedSimpArgs false

theorem grown_of_below {w W : World} (h : Below w.heap.size w W) (r : Option Nat) : w.grownBy W r := ⟨h.os, h.tape, h.output, h.size, fun k hk _ => h.block k hk⟩

theorem grown_cell {w W : World} {bm : Nat} (h : w.grownBy W (some bm)) {a : Addr} {v : Value} (hc : w.cell? a = some v) (hne : ¬ a.block = bm) : W.cell? a = some v := by
  rw [h.cell_far a (cell_lt hc) (by simpa using hne)]; exact hc

theorem idx99 {k : Nat} (hk : k < 3) : ∀ W, (Instr.index 99 (.agg #[.int .i64 0, .int .i64 1, .int .i64 2, .int .i64 3, .int .i64 0, .int .i64 2, .int .i64 1, .int .i64 3, .int .i64 0, .int .i64 2, .int .i64 3, .int .i64 1]) (.int .i64 (k : Int))).run Ybad.prog W = .ok (.agg #[.int .i64 (ordA k 0 : Int), .int .i64 (ordA k 1 : Int), .int .i64 (ordA k 2 : Int), .int .i64 (ordA k 3 : Int)]) W := by
  match k, hk with
  | 0, _ => intro W; kernel_rfl
  | 1, _ => intro W; kernel_rfl
  | 2, _ => intro W; kernel_rfl

/-- The three calls of one round. -/
structure RoundF (o0 o1 o2 o3 : Nat) (l0 l1 l2 l3 e m0 m1 m2 m3 E t0 t1 t2 t3 hk : Int) : Prop where
  c14 : ∀ W, Calls Ybad.prog 14 #[.agg #[.int .u64 l0, .int .u64 l1, .int .u64 l2, .int .u64 l3, .int .i64 4, .int .u64 e], .agg #[.int .i64 (o0 : Int), .int .i64 (o1 : Int), .int .i64 (o2 : Int), .int .i64 (o3 : Int)]] W fun e' w' =>
    e' = .returned (.agg #[.int .u64 m0, .int .u64 m1, .int .u64 m2, .int .u64 m3, .int .i64 4, .int .u64 E]) ∧ Below W.heap.size W w'
  c16 : ∀ W, Calls Ybad.prog 16 #[.agg #[.int .u64 m0, .int .u64 m1, .int .u64 m2, .int .u64 m3, .int .i64 4, .int .u64 E]] W fun e' w' =>
    e' = .returned (.agg #[.int .u8 t0, .int .u8 t1, .int .u8 t2, .int .u8 t3]) ∧ Below W.heap.size W w'
  c15 : ∀ W a c, IsInts .u64 W a 4 [m0, m1, m2, m3] → Calls Ybad.prog 15 #[.slice a 4 c, .agg #[.int .u8 t0, .int .u8 t1, .int .u8 t2, .int .u8 t3]] W fun e' w' =>
    e' = .returned (.int .u64 hk) ∧ Below W.heap.size W w'

theorem four_list (T : List Int) (h : T.length = 4) : ∃ a b c d, T = [a, b, c, d] := by
  match T, h with
  | [a, b, c, d], _ => exact ⟨a, b, c, d, rfl⟩

theorem roundF (l0 l1 l2 l3 e : Int) {k : Nat} (hk : k < 3) : ∃ m0 m1 m2 m3 E t0 t1 t2 t3, RoundF (ordA k 0) (ordA k 1) (ordA k 2) (ordA k 3) l0 l1 l2 l3 e m0 m1 m2 m3 E t0 t1 t2 t3 (hashO [l0, l1, l2, l3] e (ordA k)) := by
  have hE : mkE (cR e fun i => [ordA k 0, ordA k 1, ordA k 2, ordA k 3].getD i 0) = mkE (cR e (ordA k)) := rfl
  obtain ⟨t0, t1, t2, t3, hT⟩ := four_list (oT fun i j => bit64 (mkE (cR e (ordA k))) (4 * i + j)) (oout_length _ _ _ _)
  refine ⟨_, _, _, _, _, t0, t1, t2, t3, ⟨fun W => reordered_any l0 l1 l2 l3 e (ordA k 0) (ordA k 1) (ordA k 2) (ordA k 3) W (ordA_lt hk (by omega)) (ordA_lt hk (by omega)) (ordA_lt hk (by omega)) (ordA_lt hk (by omega)), fun W => ?_, fun W a c hW => ?_⟩⟩
  · refine (out_any _ _ _ _ _ W).mono ?_
    rintro e' w' ⟨rfl, hb⟩
    rw [hE, hT]
    exact ⟨rfl, hb⟩
  · refine (hashEdges_any a c _ t0 t1 t2 t3 W hW).mono ?_
    rintro e' w' ⟨rfl, hb⟩
    refine ⟨?_, hb⟩
    rw [← hash_eq, hT]
    rfl
end Go.Proofs.YbulkblxqDoor
