import Derived.Test.YbulkblxqDoorW6
namespace Go.Proofs.YbulkblxqDoor
open Go.RowKit
set_option linter.unusedVariables false
set_option linter.unusedSimpArgs false

theorem ret_int {k : IntKind} {a b : Int} (h : a = b) : Ending.returned (.int k a) = .returned (.int k b) := by rw [h]

def fx (i t : Int) : Int := if t < 0 then -1 - i else t

def pAt (Ps : List POut) (k : Nat) : POut := Ps.getD k ⟨0, none, 0, 0, []⟩

/-- What the two edge functions read. -/
def EdgeW (W : World) (bt bp g : Nat) (T : List Int) (K : List Nat) (Ps : List POut) : Prop :=
  (∀ j, j < 4 → W.cell? ⟨bt, j, none⟩ = some (.int .i64 (T.getD j 0))) ∧ (∀ j, j < 4 → W.cell? ⟨bp, j, none⟩ = some (.int .i64 ((K.getD j 0 : Nat) : Int)) ∧ K.getD j 0 < Ps.length) ∧ IsProfs W g Ps

theorem IsProfs.below {W W' : World} {g : Nat} {Ps : List POut} (h : IsProfs W g Ps) (hb : Below W.heap.size W W') : IsProfs W' g Ps := by
  intro i hi
  obtain ⟨h1, h2, h3, h4⟩ := h i hi
  exact ⟨by rw [hb.cell (cell_lt h1)]; exact h1, by rw [hb.cell (cell_lt h2)]; exact h2, h3.below hb, h4⟩

theorem EdgeW.below {W W' : World} {bt bp g : Nat} {T : List Int} {K : List Nat} {Ps : List POut} (h : EdgeW W bt bp g T K Ps) (hb : Below W.heap.size W W') : EdgeW W' bt bp g T K Ps := by
  obtain ⟨h1, h2, h3⟩ := h
  exact ⟨fun j hj => by rw [hb.cell (cell_lt (h1 j hj))]; exact h1 j hj, fun j hj => ⟨by rw [hb.cell (cell_lt (h2 j hj).1)]; exact (h2 j hj).1, (h2 j hj).2⟩, h3.below hb⟩

def cB (T : List Int) (K : List Nat) (Ps : List POut) (a b : Nat) : Bool :=
  (T.getD a 0 == T.getD b 0) || confB (pAt Ps (K.getD a 0)).hub (pAt Ps (K.getD a 0)).zs (pAt Ps (K.getD b 0)).hub (pAt Ps (K.getD b 0)).zs

/-- The facts of one pair (a, b). -/
theorem EdgeW.pair {W : World} {bt bp g : Nat} {T : List Int} {K : List Nat} {Ps : List POut} (h : EdgeW W bt bp g T K Ps) {a b : Nat} (ha : a < 4) (hb : b < 4) :
    ∃ (x y : Int) (ka kb : Nat) (pa pb : POut), W.cell? ⟨bt, a, none⟩ = some (.int .i64 x) ∧ W.cell? ⟨bt, b, none⟩ = some (.int .i64 y) ∧
      W.cell? ⟨bp, a, none⟩ = some (.int .i64 (ka : Int)) ∧ W.cell? ⟨bp, b, none⟩ = some (.int .i64 (kb : Int)) ∧ ka < Ps.length ∧ kb < Ps.length ∧
      W.cell? ⟨g, ka * 2, none⟩ = some (.int .i64 pa.hub) ∧ W.cell? ⟨g, ka * 2 + 1, none⟩ = some (.slice pa.a pa.n pa.c) ∧
      W.cell? ⟨g, kb * 2, none⟩ = some (.int .i64 pb.hub) ∧ W.cell? ⟨g, kb * 2 + 1, none⟩ = some (.slice pb.a pb.n pb.c) ∧
      IsInts .i64 W pa.a pa.n pa.zs ∧ pa.zs.Pairwise (· ≤ ·) ∧ IsInts .i64 W pb.a pb.n pb.zs ∧ pb.zs.Pairwise (· ≤ ·) ∧
      cB T K Ps a b = ((x == y) || confB pa.hub pa.zs pb.hub pb.zs) := by
  obtain ⟨h1, h2, h3⟩ := h
  obtain ⟨c1, c2, c3, c4⟩ := h3 _ (h2 a ha).2
  obtain ⟨d1, d2, d3, d4⟩ := h3 _ (h2 b hb).2
  have ea : pAt Ps (K.getD a 0) = Ps[K.getD a 0]'(h2 a ha).2 := by unfold pAt; rw [List.getD_eq_getElem?_getD, List.getElem?_eq_getElem (h2 a ha).2]; rfl
  have eb : pAt Ps (K.getD b 0) = Ps[K.getD b 0]'(h2 b hb).2 := by unfold pAt; rw [List.getD_eq_getElem?_getD, List.getElem?_eq_getElem (h2 b hb).2]; rfl
  exact ⟨_, _, _, _, _, _, h1 a ha, h1 b hb, (h2 a ha).1, (h2 b hb).1, (h2 a ha).2, (h2 b hb).2, c1, c2, d1, d2, c3, c4, d3, d4, by unfold cB; rw [ea, eb]⟩

def orE (e : Int) (k : Nat) : Int := bits BinOp.or .u64 e (IntKind.u64.wrap (2 ^ k))
def stepE (e : Int) (c : Bool) (a b : Nat) : Int := if c then orE e (4 * a + b) else e
def innE (c : Nat → Nat → Bool) (a : Nat) (e : Int) : Nat → Int
  | 0 => e
  | m + 1 => stepE (innE c a e m) (c a (a + 1 + m)) a (a + 1 + m)
def outE (c : Nat → Nat → Bool) : Nat → Int
  | 0 => 2050
  | k + 1 => innE c k (outE c k) (3 - k)
def innA (c : Nat → Nat → Bool) (i : Nat) (e : Int) : Nat → Int
  | 0 => e
  | j + 1 => stepE (innA c i e j) (c j i) j i
def outA (c : Nat → Nat → Bool) : Nat → Int
  | 0 => 2050
  | i + 1 => innA c i (outA c i) i

theorem six (c01 c02 c03 c12 c13 c23 : Bool) :
    stepE (stepE (stepE (stepE (stepE (stepE 2050 c01 0 1) c02 0 2) c03 0 3) c12 1 2) c13 1 3) c23 2 3 =
    stepE (stepE (stepE (stepE (stepE (stepE 2050 c01 0 1) c02 0 2) c12 1 2) c03 0 3) c13 1 3) c23 2 3 := by
  revert c01 c02 c03 c12 c13 c23
  decide +kernel

theorem outE_outA (c : Nat → Nat → Bool) : outE c 4 = outA c 4 := by
  show stepE (stepE (stepE (stepE (stepE (stepE 2050 (c 0 1) 0 1) (c 0 2) 0 2) (c 0 3) 0 3) (c 1 2) 1 2) (c 1 3) 1 3) (c 2 3) 2 3 =
    stepE (stepE (stepE (stepE (stepE (stepE 2050 (c 0 1) 0 1) (c 0 2) 0 2) (c 1 2) 1 2) (c 0 3) 0 3) (c 1 3) 1 3) (c 2 3) 2 3
  exact six _ _ _ _ _ _

theorem keep8 {W w' : World} (hb : Below W.heap.size W w') {a1 a2 a3 a4 a5 a6 a7 a8 : Addr} {v1 v2 v3 v4 v5 v6 v7 v8 : Value}
    (h : W.cell? a1 = some v1 ∧ W.cell? a2 = some v2 ∧ W.cell? a3 = some v3 ∧ W.cell? a4 = some v4 ∧ W.cell? a5 = some v5 ∧ W.cell? a6 = some v6 ∧ W.cell? a7 = some v7 ∧ W.cell? a8 = some v8) :
    w'.cell? a1 = some v1 ∧ w'.cell? a2 = some v2 ∧ w'.cell? a3 = some v3 ∧ w'.cell? a4 = some v4 ∧ w'.cell? a5 = some v5 ∧ w'.cell? a6 = some v6 ∧ w'.cell? a7 = some v7 ∧ w'.cell? a8 = some v8 := by
  obtain ⟨h1, h2, h3, h4, h5, h6, h7, h8⟩ := h
  exact ⟨by rw [hb.cell (cell_lt h1)]; exact h1, by rw [hb.cell (cell_lt h2)]; exact h2, by rw [hb.cell (cell_lt h3)]; exact h3, by rw [hb.cell (cell_lt h4)]; exact h4,
    by rw [hb.cell (cell_lt h5)]; exact h5, by rw [hb.cell (cell_lt h6)]; exact h6, by rw [hb.cell (cell_lt h7)]; exact h7, by rw [hb.cell (cell_lt h8)]; exact h8⟩

theorem mod_nat {x : Int} {n : Nat} (h0 : 0 ≤ x) (h1 : x < 256) (hn : 0 < n) : (IntKind.i64.wrap x).tmod (n : Int) = (((x % (n : Int)).toNat : Nat) : Int) := by
  rw [wrap_small h0 h1]
  have := Int.emod_nonneg x (show (n : Int) ≠ 0 by omega)
  omega

theorem mod_lt {x : Int} {n : Nat} (hn : 0 < n) : (x % (n : Int)).toNat < n := by
  have := Int.emod_nonneg x (show (n : Int) ≠ 0 by omega)
  have := Int.emod_lt_of_pos x (show (0 : Int) < (n : Int) by omega)
  omega

theorem edgeW_of {W : World} {bt bp g n : Nat} {u0 u1 u2 u3 p0 p1 p2 p3 : Int} {t t' : TypeId} {m m' : Nat × Nat} {Ps : List POut} (hn : 0 < n) (hl : Ps.length = n)
    (q0 : 0 ≤ p0 ∧ p0 < 256) (q1 : 0 ≤ p1 ∧ p1 < 256) (q2 : 0 ≤ p2 ∧ p2 < 256) (q3 : 0 ≤ p3 ∧ p3 < 256)
    (h1 : W.heap[bt]? = some (.cells #[.int .i64 u0, .int .i64 u1, .int .i64 u2, .int .i64 u3] t m))
    (h2 : W.heap[bp]? = some (.cells #[.int .i64 ((IntKind.i64.wrap p0).tmod n), .int .i64 ((IntKind.i64.wrap p1).tmod n), .int .i64 ((IntKind.i64.wrap p2).tmod n), .int .i64 ((IntKind.i64.wrap p3).tmod n)] t' m'))
    (h3 : IsProfs W g Ps) : EdgeW W bt bp g [u0, u1, u2, u3] [(p0 % (n : Int)).toNat, (p1 % (n : Int)).toNat, (p2 % (n : Int)).toNat, (p3 % (n : Int)).toNat] Ps := by
  refine ⟨fun j hj => ?_, fun j hj => ?_, h3⟩
  · rw [cell_of_heap h1]
    match j, hj with
    | 0, _ => rfl
    | 1, _ => rfl
    | 2, _ => rfl
    | 3, _ => rfl
  · rw [cell_of_heap h2, mod_nat q0.1 q0.2 hn, mod_nat q1.1 q1.2 hn, mod_nat q2.1 q2.2 hn, mod_nat q3.1 q3.2 hn, hl]
    match j, hj with
    | 0, _ => exact ⟨rfl, mod_lt hn⟩
    | 1, _ => exact ⟨rfl, mod_lt hn⟩
    | 2, _ => exact ⟨rfl, mod_lt hn⟩
    | 3, _ => exact ⟨rfl, mod_lt hn⟩

theorem innE_succ (c : Nat → Nat → Bool) (a : Nat) (e : Int) (m b : Nat) (hb : b = a + 1 + m) : innE c a e (m + 1) = stepE (innE c a e m) (c a b) a b := by subst hb; rfl
theorem outE_succ (c : Nat → Nat → Bool) (k m : Nat) (h : k + 1 + m = 4) : outE c (k + 1) = innE c k (outE c k) m := by
  obtain rfl : m = 3 - k := by omega
  rfl
theorem stepE_true (e : Int) (a b : Nat) : stepE e true a b = bits BinOp.or .u64 e (IntKind.u64.wrap (2 ^ (4 * a + b))) := rfl
theorem stepE_false (e : Int) (a b : Nat) : stepE e false a b = e := rfl
end Go.Proofs.YbulkblxqDoor
