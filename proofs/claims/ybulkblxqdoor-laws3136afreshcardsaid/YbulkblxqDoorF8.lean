import Derived.Test.YbulkblxqDoorF7
namespace Go.Proofs.YbulkblxqDoor
open Go.RowKit
set_option linter.unusedVariables false
set_option linter.unusedSimpArgs false

def ordL : List Nat := [0, 1, 2, 3, 0, 2, 1, 3, 0, 2, 3, 1]
def ordA (q k : Nat) : Nat := ordL.getD (q * 4 + k) 0
theorem ordA_lt {q k : Nat} (hq : q < 3) (hk : k < 4) : ordA q k < 4 := by
  have h : ∀ q, q < 3 → ∀ k, k < 4 → ordA q k < 4 := by decide
  exact h q hq k hk

def pW (e : Int) (o : Nat → Nat) (k l : Nat) : Bool := decide (k < l) && cR e o k l
def labO (L : List Int) (o : Nat → Nat) : List Int := tabU (fun k => L.getD (o k) 0) 4
def hashO (L : List Int) (e : Int) (o : Nat → Nat) : Int := heP fun k => hvP (pW e o k) (labO L o) k

theorem slice62all (w : World) (g : Nat) :
   (Instr.sliceAt 62 (.pointer (some ⟨g, 0, none⟩)) none none none).run Ybad.prog w = .ok (.slice (some ⟨g, 0, none⟩) 4 4) w := by
  rw [run_sliceAt_array_all (ht := und62), size62, alen62]
  rfl

def ordV : Value := .agg #[.int .i64 0, .int .i64 1, .int .i64 2, .int .i64 3, .int .i64 0, .int .i64 2, .int .i64 1, .int .i64 3, .int .i64 0, .int .i64 2, .int .i64 3, .int .i64 1]

set_option maxRecDepth 100000 in
set_option maxHeartbeats 1000000 in
theorem orders_any (w : World) : Calls Ybad.prog 18 #[] w fun e w' => e = .returned (.agg #[.int .i64 0, .int .i64 1, .int .i64 2, .int .i64 3, .int .i64 0, .int .i64 2, .int .i64 1, .int .i64 3, .int .i64 0, .int .i64 2, .int .i64 3, .int .i64 1]) ∧ Below w.heap.size w w' := by
  go_enter Ybad.func18, Ybad.ntmps18
  go_wp2
  refine bodyPost_ret (v := .agg #[.int .i64 0, .int .i64 1, .int .i64 2, .int .i64 3, .int .i64 0, .int .i64 2, .int .i64 1, .int .i64 3, .int .i64 0, .int .i64 2, .int .i64 3, .int .i64 1]) (by simp [results, Ybad.results18, go_sem]) rfl ⟨rfl, ?_⟩
  exact (Below.refl _ _).alloc (Nat.le_refl _) _
end Go.Proofs.YbulkblxqDoor
