import Derived.Test.YbulkblxqDoorW8
import Derived.Test.YbulkblxqDoorW9
namespace Go.Proofs.YbulkblxqDoor
open Go.RowKit Go.Maps
set_option linter.unusedVariables false
set_option linter.unusedSimpArgs false

theorem IsPIns.below {w w' : World} {a : Option Addr} {n : Nat} {L : List PIn} (h : IsPIns w a n L) (hb : Below w.heap.size w w') : IsPIns w' a n L := by
  obtain ⟨h1, h3⟩ := h
  refine ⟨h1, fun i hi => ?_⟩
  obtain ⟨b, off, e, c1, c2, c3, c4, c5⟩ := h3 i hi
  exact ⟨b, off, e, by rw [hb.cell (cell_lt c1)]; exact c1, by rw [hb.cell (cell_lt c2)]; exact c2, c3, c4, fun hle => ⟨(c5 hle).1.below hb, (c5 hle).2⟩⟩

theorem six_wf (c01 c02 c03 c12 c13 c23 : Bool) :
    (Lit.int .u64 (stepE (stepE (stepE (stepE (stepE (stepE 2050 c01 0 1) c02 0 2) c03 0 3) c12 1 2) c13 1 3) c23 2 3)).wf = true := by
  revert c01 c02 c03 c12 c13 c23
  decide +kernel

theorem outE_wf (c : Nat → Nat → Bool) : (Lit.int .u64 (outE c 4)).wf = true := by
  show (Lit.int .u64 (stepE (stepE (stepE (stepE (stepE (stepE 2050 (c 0 1) 0 1) (c 0 2) 0 2) (c 0 3) 0 3) (c 1 2) 1 2) (c 1 3) 1 3) (c 2 3) 2 3)).wf = true
  exact six_wf _ _ _ _ _ _

/-- The input, boxed. -/
def InAt (w : World) (b : Nat) (t0 t1 t2 t3 l0 l1 l2 l3 p0 p1 p2 p3 b0 b1 pre : Int) (a : Option Addr) (n c : Nat) : Prop := w.heap[b]? = some (.cells #[.int .i64 t0, .int .i64 t1, .int .i64 t2, .int .i64 t3, .int .u64 l0, .int .u64 l1, .int .u64 l2, .int .u64 l3, .int .u8 p0, .int .u8 p1, .int .u8 p2, .int .u8 p3, .int .i32 b0, .int .i32 b1, .slice a n c, .int .u8 pre] 25 (0, 0))

theorem InAt.cells {w : World} {b : Nat} {t0 t1 t2 t3 l0 l1 l2 l3 p0 p1 p2 p3 b0 b1 pre : Int} {a : Option Addr} {n c : Nat} (h : InAt w b t0 t1 t2 t3 l0 l1 l2 l3 p0 p1 p2 p3 b0 b1 pre a n c) :
    w.cell? ⟨b, 0, none⟩ = some (.int .i64 t0) ∧ w.cell? ⟨b, 1, none⟩ = some (.int .i64 t1) ∧ w.cell? ⟨b, 2, none⟩ = some (.int .i64 t2) ∧ w.cell? ⟨b, 3, none⟩ = some (.int .i64 t3) ∧ w.cell? ⟨b, 4, none⟩ = some (.int .u64 l0) ∧ w.cell? ⟨b, 5, none⟩ = some (.int .u64 l1) ∧ w.cell? ⟨b, 6, none⟩ = some (.int .u64 l2) ∧ w.cell? ⟨b, 7, none⟩ = some (.int .u64 l3) ∧ w.cell? ⟨b, 8, none⟩ = some (.int .u8 p0) ∧ w.cell? ⟨b, 9, none⟩ = some (.int .u8 p1) ∧ w.cell? ⟨b, 10, none⟩ = some (.int .u8 p2) ∧ w.cell? ⟨b, 11, none⟩ = some (.int .u8 p3) ∧ w.cell? ⟨b, 12, none⟩ = some (.int .i32 b0) ∧ w.cell? ⟨b, 13, none⟩ = some (.int .i32 b1) ∧ w.cell? ⟨b, 14, none⟩ = some (.slice a n c) ∧ w.cell? ⟨b, 15, none⟩ = some (.int .u8 pre) := by
  unfold InAt at h
  refine ⟨?_, ?_, ?_, ?_, ?_, ?_, ?_, ?_, ?_, ?_, ?_, ?_, ?_, ?_, ?_, ?_⟩ <;> (rw [cell_of_heap h]; rfl)

theorem InAt.below {w w' : World} {b : Nat} {t0 t1 t2 t3 l0 l1 l2 l3 p0 p1 p2 p3 b0 b1 pre : Int} {a : Option Addr} {n c : Nat} (h : InAt w b t0 t1 t2 t3 l0 l1 l2 l3 p0 p1 p2 p3 b0 b1 pre a n c) (hb : Below w.heap.size w w') : InAt w' b t0 t1 t2 t3 l0 l1 l2 l3 p0 p1 p2 p3 b0 b1 pre a n c := by
  unfold InAt at *
  have hl : b < w.heap.size := by
    by_cases hl : b < w.heap.size
    · exact hl
    · rw [Array.getElem?_eq_none (by omega)] at h; cases h
  rw [hb.block b hl]; exact h


theorem IsClass.nat {w : World} {b : Nat} {t0 t1 l0 l1 p0 p1 lab : Int} {n : Nat} (hn : 0 < n) (h : IsClass w b t0 t1 l0 l1 (p0 % (n : Int)) (p1 % (n : Int)) lab) :
    IsClass w b t0 t1 l0 l1 (((p0 % (n : Int)).toNat : Nat) : Int) (((p1 % (n : Int)).toNat : Nat) : Int) lab := by
  rw [show (((p0 % (n : Int)).toNat : Nat) : Int) = p0 % (n : Int) by have := Int.emod_nonneg p0 (show (n : Int) ≠ 0 by omega); omega,
    show (((p1 % (n : Int)).toNat : Nat) : Int) = p1 % (n : Int) by have := Int.emod_nonneg p1 (show (n : Int) ≠ 0 by omega); omega]
  exact h

/-- The edges, as both functions reckon them. -/
def edgeV (t0 t1 t2 t3 p0 p1 p2 p3 : Int) (Ps : List POut) : Int :=
  outE (cB [fx 0 t0, fx 1 t1, fx 2 t2, fx 3 t3] [(p0 % (Ps.length : Int)).toNat, (p1 % (Ps.length : Int)).toNat, (p2 % (Ps.length : Int)).toNat, (p3 % (Ps.length : Int)).toNat] Ps) 4

theorem edges_call (t0 t1 t2 t3 l0 l1 l2 l3 p0 p1 p2 p3 b0 b1 : Int) (x14 x15 : Value) (g cap np : Nat) (Ps : List POut) (w : World) (hl : np = Ps.length) (hn : 0 < np) (hn' : np ≤ 1024)
   (q0 : 0 ≤ p0 ∧ p0 < 256) (q1 : 0 ≤ p1 ∧ p1 < 256) (q2 : 0 ≤ p2 ∧ p2 < 256) (q3 : 0 ≤ p3 ∧ p3 < 256) (hP : IsProfs w g Ps) :
    Calls Ybad.prog 9 #[.agg #[.int .i64 t0, .int .i64 t1, .int .i64 t2, .int .i64 t3, .int .u64 l0, .int .u64 l1, .int .u64 l2, .int .u64 l3, .int .u8 p0, .int .u8 p1, .int .u8 p2, .int .u8 p3, .int .i32 b0, .int .i32 b1, x14, x15],
       .slice (some ⟨g, 0, none⟩) np cap] w fun e w' => e = .returned (.int .u64 (edgeV t0 t1 t2 t3 p0 p1 p2 p3 Ps)) ∧ Below w.heap.size w w' := by
  subst hl
  exact edges_any t0 t1 t2 t3 l0 l1 l2 l3 p0 p1 p2 p3 b0 b1 x14 x15 g cap Ps w hn hn' q0 q1 q2 q3 hP

theorem apart_call (bf b1 b2 g cap np : Nat) (t0 t1 t2 t3 l0 l1 l2 l3 p0 p1 p2 p3 lx ly : Int) (Ps : List POut) (w : World) (hl : np = Ps.length) (hn : 0 < np) (hn' : np ≤ 1024)
   (hx : IsClass w b1 t0 t1 l0 l1 (p0 % (np : Int)) (p1 % (np : Int)) lx) (hy : IsClass w b2 t2 t3 l2 l3 (p2 % (np : Int)) (p3 % (np : Int)) ly)
   (hf : w.cell? ⟨bf, 2, none⟩ = some (.slice (some ⟨g, 0, none⟩) np cap)) (hP : IsProfs w g Ps) :
    Calls Ybad.prog 12 #[.pointer (some ⟨bf, 0, none⟩), .pointer (some ⟨b1, 0, none⟩), .pointer (some ⟨b2, 0, none⟩)] w fun e w' =>
      e = .returned (.int .u64 (edgeV t0 t1 t2 t3 p0 p1 p2 p3 Ps)) ∧ Below w.heap.size w w' := by
  subst hl
  unfold edgeV
  rw [outE_outA]
  exact apart_any bf b1 b2 g cap t0 t1 t2 t3 l0 l1 l2 l3 lx ly _ _ _ _ Ps w hn hn' (hx.nat hn) (hy.nat hn) ⟨mod_lt hn, mod_lt hn, mod_lt hn, mod_lt hn⟩ hf hP

theorem edgeV_wf (t0 t1 t2 t3 p0 p1 p2 p3 : Int) (Ps : List POut) : (Lit.int .u64 (edgeV t0 t1 t2 t3 p0 p1 p2 p3 Ps)).wf = true := outE_wf _

theorem maxLen_pos : 0 < maxLen := by unfold maxLen; omega

/-- The map with the one entry. -/
def kmap (kl : Lit) (v : Int) : DataW Unit := (DataW.map []).put kl (.lit (.int .i64 v))

theorem kmap_has (kl : Lit) (v : Int) (hk : WideAt.IsKeyLit kl) : Maps.has (kmap kl v) kl = true ∧ (kmap kl v).atKey kl (.lit (.int .i64 0)) = .lit (.int .i64 v) ∧ Maps.size (kmap kl v) = 1 :=
  ⟨Maps.has_put_same ⟨[], rfl⟩ hk _, Maps.atKey_put_same ⟨[], rfl⟩ hk _ _, rfl⟩

theorem key65' {a b e : Int} (wa : (Lit.int .i32 a).wf = true) (wb : (Lit.int .i32 b).wf = true) (we : (Lit.int .u64 e).wf = true) :
    ∃ kl, keyOf Ybad.prog 65 (.agg #[.int .i32 a, .int .i32 b, .int .u64 e]) = some kl ∧ WideAt.IsKeyLit kl := by
  obtain ⟨kl, h⟩ := key65 wa wb we
  exact ⟨kl, h, law65.key h⟩

/-- The finder, as the searches read it. -/
def FindAt (w wx : World) (bf g np cap : Nat) : Prop :=
  wx.cell? ⟨bf, 2, none⟩ = some (.slice (some ⟨g, 0, none⟩) np cap) ∧ wx.cell? ⟨bf, 148, none⟩ = some (.slice none 0 0) ∧ Below w.heap.size w wx

theorem map_look {w : World} {b nn : Nat} {kl : Lit} {v : Int} {key : Value} (hk : WideAt.IsKeyLit kl) (hkey : keyOf Ybad.prog 65 key = some kl) (h : w.ownsMap Ybad.prog 65 (plainElem Ybad.prog 3) b nn (kmap kl v)) :
    (Instr.lookup 58 (.map (some b)) key false).run Ybad.prog w = .ok (.int .i64 v) w := by
  obtain ⟨c, hrun, hat, _⟩ := h.lookup_int law65 Ybad.underlying58 Ybad.underlying3 (zero3 _) hkey
  rw [(kmap_has kl v hk).2.1] at hat
  have : c = v := by simpa using hat.symm
  rw [← this]
  exact hrun

theorem map_len {w : World} {b nn : Nat} {kl : Lit} {v : Int} (h : w.ownsMap Ybad.prog 65 (plainElem Ybad.prog 3) b nn (kmap kl v)) (ty : TypeId) :
    (Builtin.len_ #[58] ty #[.map (some b)]).run Ybad.prog w = .ok (.int .i64 1) w := h.len Ybad.underlying58 ty

theorem findAt_of {w w5 : World} {cs : Array Value} {g np cap : Nat} {t : TypeId} (hb : Below w.heap.size w w5) (h2 : cs[2]? = some (.slice (some ⟨g, 0, none⟩) np cap)) (h29 : cs[148]? = some (.slice none 0 0)) :
    FindAt w5 (w5.alloc (.cells cs t)) w5.heap.size g np cap := by
  have hh := heap_at_new w5 (.cells cs t)
  exact ⟨by rw [cell_of_heap hh]; exact h2, by rw [cell_of_heap hh]; exact h29, (Below.refl _ _).alloc (Nat.le_refl _) _⟩

theorem FindAt.below {w wx w' : World} {bf g np cap : Nat} (h : FindAt w wx bf g np cap) (hb : Below wx.heap.size wx w') : FindAt w w' bf g np cap := by
  obtain ⟨h1, h2, h3⟩ := h
  exact ⟨by rw [hb.cell (cell_lt h1)]; exact h1, by rw [hb.cell (cell_lt h2)]; exact h2, h3.trans (hb.mono h3.size)⟩
end Go.Proofs.YbulkblxqDoor
