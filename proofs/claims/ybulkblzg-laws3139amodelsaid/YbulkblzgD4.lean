import Derived.Test.YbulkblzgD2
import Derived.Test.YbulkblzgD3
namespace Go.Proofs.Ybulkblzg
open Go.RowKit
set_option linter.unusedVariables false
set_option linter.unusedSimpArgs false

def strs (L : List ByteArray) : List Value := L.map Value.string
def ids (k : Nat) : List Value := (List.range k).map (fun (i : Nat) => Value.int .i64 (i : Int))
theorem strs_snoc (L : List ByteArray) (s : ByteArray) : strs (L ++ [s]) = strs L ++ [.string s] := by simp [strs]
theorem ids_snoc (k : Nat) : ids (k + 1) = ids k ++ [.int .i64 (k : Int)] := by simp [ids, List.range_succ]
def texts (Ts : Nat → ByteArray) (n : Nat) : List Value := (List.range n).map (fun i => Value.string (Ts i))

/-- What a row's cells hold. -/
theorem row_read {w : World} {base : Nat} {e : TypeId} {k : Nat} {v : Value} {xs : List Value} (h : w.ownsRow base e 1 v k xs) : ∃ a c g, v = .slice a k c ∧ (0 < k → a = some ⟨g, 0, none⟩ ∧ v.ownBlock = some g ∧ base ≤ g ∧ g < w.heap.size) ∧ ∀ i, i < k → w.cell? ⟨g, i, none⟩ = xs[i]? := by
  rcases Nat.eq_zero_or_pos k with e | e
  · obtain ⟨a, c, rfl, -⟩ := row_form h
    exact ⟨a, c, 0, rfl, fun h => by omega, fun i hi => by omega⟩
  · obtain ⟨g, c, rfl, h1, h2⟩ := h.form e
    exact ⟨_, c, g, rfl, fun _ => ⟨rfl, rfl, h1, h2⟩, fun i hi => h.cellAt i (by omega)⟩

theorem row_made {W : World} {z : Value} {e : TypeId} {n base : Nat} (hb : base ≤ W.heap.size) (hn : n ≤ maxLen) : (W.alloc (.cells (madeCells #[z] n) e)).ownsRow base e 1 (.slice (some ⟨W.heap.size, 0, none⟩) 0 n) 0 [] := by
  refine ⟨rfl, .inr ⟨W.heap.size, n, _, rfl, hb, heap_alloc_new _ _, Nat.zero_le _, hn, ?_, ?_⟩⟩
  · have := congrArg List.length (toList_madeCells_one z n)
    simpa using this
  · simp

/-- The pieces and the batch of Hits. -/
structure HS (w0 w : World) (L : List ByteArray) (k : Nat) (v5 v6 : Value) : Prop where
  p : w.ownsRow w0.heap.size 9 1 v5 L.length (strs L)
  b : w.ownsRow w0.heap.size 3 1 v6 k (ids k)
  ap : ∀ j, v5.ownBlock = some j → v6.ownBlock ≠ some j
  bl : Below w0.heap.size w0 w

theorem HS.keep {w0 w w' : World} {L : List ByteArray} {k : Nat} {v5 v6 : Value} (h : HS w0 w L k v5 v6) (hk : Keeps (fun _ => False) w w') : HS w0 w' L k v5 v6 :=
  ⟨row_keep h.p hk (fun _ _ h => h), row_keep h.b hk (fun _ _ h => h), h.ap, h.bl.trans (hk.below h.bl.size (fun _ h => h.elim))⟩

theorem grown_keeps {W w1 : World} {o : Option Nat} (hg : W.grownBy w1 o) : Keeps (fun j => o = some j) W w1 := (Keeps.refl (fun j => o = some j) W).grown hg (fun k hk _ => hk)

theorem HS.pushP {w0 w w1 : World} {L : List ByteArray} {k : Nat} {v5 v6 : Value} {s : ByteArray} {g cap : Nat} (h : HS w0 w L k v5 v6) (hown : w1.ownsRow w0.heap.size 9 1 (.slice (some ⟨g, 0, none⟩) (L.length + 1) cap) (L.length + 1) (strs L ++ [.string s])) (hg : w.grownBy w1 v5.ownBlock) (hat : v5.ownBlock = some g ∨ g = w.heap.size) :
    HS w0 w1 (L ++ [s]) k (.slice (some ⟨g, 0, none⟩) (L.length + 1) cap) v6 := by
  have hk := grown_keeps hg
  refine ⟨by rw [strs_snoc, List.length_append]; exact hown, row_keep h.b hk (fun j hj e => h.ap j e hj), fun j hj => ?_, h.bl.trans (hk.below h.bl.size (fun j hj => ((h.p.lt j hj).1)))⟩
  have hj' : g = j := by simpa [Value.ownBlock] using hj
  subst hj'
  rcases hat with e | e
  · exact h.ap g e
  · intro h2
    have := (h.b.lt g h2).2
    omega
theorem HS.pushB {w0 w w1 : World} {L : List ByteArray} {k : Nat} {v5 v6 : Value} {g cap : Nat} (h : HS w0 w L k v5 v6) (hown : w1.ownsRow w0.heap.size 3 1 (.slice (some ⟨g, 0, none⟩) (k + 1) cap) (k + 1) (ids k ++ [.int .i64 (k : Int)])) (hg : w.grownBy w1 v6.ownBlock) (hat : v6.ownBlock = some g ∨ g = w.heap.size) :
    HS w0 w1 L (k + 1) v5 (.slice (some ⟨g, 0, none⟩) (k + 1) cap) := by
  have hk := grown_keeps hg
  refine ⟨row_keep h.p hk (fun j hj e => h.ap j hj e), by rw [ids_snoc]; exact hown, fun j hj => ?_, h.bl.trans (hk.below h.bl.size (fun j hj => ((h.b.lt j hj).1)))⟩
  intro h2
  have hj' : g = j := by simpa [Value.ownBlock] using h2
  subst hj'
  rcases hat with e | e
  · exact h.ap g hj e
  · have := (h.p.lt g hj).2
    omega

/-- Strings as they lie. -/
def IsSt (w : World) (a : Option Addr) (n g o : Nat) (Ts : Nat → ByteArray) : Prop := (0 < n → a = some ⟨g, o, none⟩) ∧ ∀ i, i < n → w.cell? ⟨g, o + i, none⟩ = some (.string (Ts i))
theorem IsSt.below {w w' : World} {a : Option Addr} {n g o : Nat} {Ts : Nat → ByteArray} (h : IsSt w a n g o Ts) (hb : Below w.heap.size w w') : IsSt w' a n g o Ts := by
  refine ⟨h.1, fun i hi => ?_⟩
  have h1 := h.2 i hi
  rw [World.cell?_of_block (w := w) (hb.block g (World.block_lt_of_cell? w ⟨g, o + i, none⟩ h1))]; exact h1

def CloneS : Prop := ∀ (a : Option Addr) (n c g o : Nat) (Ts : Nat → ByteArray) (w : World), n ≤ 256 → IsSt w a n g o Ts →
  Calls Yba.prog 8 #[.slice a n c] w fun e w' => ∃ v', e = .returned v' ∧ w'.ownsRow w.heap.size 9 1 v' n (texts Ts n) ∧ Below w.heap.size w w'
def MarkOK : Prop := ∀ (c : Ct) (pp pb pt pf : Option Addr) (nt tc gt gf fc : Nat) (Ts : Nat → ByteArray) (fd : Nat → Bool) (w0 : World), c.k ≤ 256 → c.np ≤ 65536 →
  (0 < c.k → pp = some ⟨c.gp, 0, none⟩ ∧ pb = some ⟨c.gb, 0, none⟩ ∧ pf = some ⟨gf, 0, none⟩ ∧ c.gp < w0.heap.size ∧ c.gb < w0.heap.size ∧ c.gb ≠ gf) →
  (0 < c.k → ∀ i, i < c.np → w0.cell? ⟨c.gp, i, none⟩ = some (.string (c.Ps i))) → (∀ i, i < c.k → w0.cell? ⟨c.gb, i, none⟩ = some (.int .i64 (c.Bt i : Int))) → (∀ i, i < c.k → c.Bt i < c.np) → (∀ i, i < c.np → (bts (c.Ps i)).length ≤ 4096) →
  nt ≤ 256 → (0 < nt → pt = some ⟨gt, 0, none⟩) → (∀ i, i < nt → w0.cell? ⟨gt, i, none⟩ = some (.string (Ts i))) → (∀ i, i < nt → (bts (Ts i)).length ≤ 4096) → Arr w0 gf c.np (fun i => .bool (fd i)) →
    Calls Yba.prog 10 #[.slice pp c.np c.pc, .slice pb c.k c.bc, .slice pt nt tc, .slice pf c.np fc] w0 fun e w' => e = .returned (.tuple #[]) ∧ Keeps (fun j => j = gf) w0 w' ∧
      ∃ r : Nat → Bool, Arr w' gf c.np (fun i => .bool (r i)) ∧ (∀ i, i < c.k → (r (c.Bt i) = true ↔ Holds nt Ts (bts (c.Ps (c.Bt i))))) ∧ ∀ i, i < c.np → (∀ j, j < c.k → c.Bt j ≠ i) → r i = fd i

theorem bts_extract (s : ByteArray) (a b : Nat) : bts (s.extract a b) <:+: bts s := by
  have h : bts (s.extract a b) = ((bts s).drop a).take (b - a) := by
    have h1 := ByteArray.extract_mk s.data.toList a b
    simp only [Array.toArray_toList] at h1
    unfold bts
    rw [show s.extract a b = ByteArray.mk ((s.data.toList.drop a).take (b - a)).toArray from h1, Lib.toList_data, Lib.toList_data]
    simp [List.map_take, List.map_drop]
  rw [h]
  exact (List.take_prefix _ _).isInfix.trans (List.drop_suffix _ _).isInfix

theorem make_cap {t e : TypeId} {z : Value} {bytes : Nat} (ht : Yba.prog.underlying t = some (.slice e)) (hi : (Yba.prog.info? e).map (fun i => (i.zero, i.size, i.bytes)) = some (some z, 1, bytes)) (hz : z.cells = #[z]) (hb : bytes ≤ 64) (n : Nat) (hn : n ≤ 65536) (W : World) :
    (Instr.makeSlice t (.int .i64 0) (.int .i64 (n : Int))).run Yba.prog W = .ok (.slice (some ⟨W.heap.size, 0, none⟩) 0 n) (W.alloc (.cells (madeCells #[z] n) e)) := by
  obtain ⟨i, h1, h2, h3, h4⟩ := info_parts hi
  have hb' : (i.bytes : Int) * (n : Int) ≤ 281474976710656 := by
    have h5 : i.bytes * n ≤ 64 * 65536 := Nat.mul_le_mul (by omega) hn
    have h : ((i.bytes * n : Nat) : Int) ≤ 281474976710656 := by omega
    rwa [Int.natCast_mul] at h
  have := run_make (P := Yba.prog) W t e i z ht h1 h2 .i64 .i64 0 (n : Int) (by omega) (by omega) hb' (by omega)
  rw [hz, h3] at this
  simpa using this

theorem Yba.info9 : (Yba.prog.info? 9).map (fun i => (i.zero, i.size, i.bytes)) = some (some (.string ByteArray.empty), 1, 16) := by kernel_rfl

/-- Spans as they lie. -/
def IsSp (w : World) (a : Option Addr) (n : Nat) (S : List (Nat × Nat × Nat)) : Prop := S.length = n ∧ (∀ e ∈ S, e.1 < 65536 ∧ e.2.1 < 65536 ∧ e.2.2 < 65536) ∧
  ∀ i e, S[i]? = some e → ∃ b off, a = some ⟨b, off, none⟩ ∧ w.cell? ⟨b, off + i * 3, none⟩ = some (.int .u16 (e.1 : Int)) ∧ w.cell? ⟨b, off + i * 3 + 1, none⟩ = some (.int .u16 (e.2.1 : Int)) ∧ w.cell? ⟨b, off + i * 3 + 2, none⟩ = some (.int .u16 (e.2.2 : Int))
theorem IsSp.below {w w' : World} {a : Option Addr} {n : Nat} {S : List (Nat × Nat × Nat)} (h : IsSp w a n S) (hb : Below w.heap.size w w') : IsSp w' a n S := by
  refine ⟨h.1, h.2.1, fun i e he => ?_⟩
  obtain ⟨b, off, h1, h2, h3, h4⟩ := h.2.2 i e he
  have h5 := hb.block b (World.block_lt_of_cell? w ⟨b, off + i * 3, none⟩ h2)
  exact ⟨b, off, h1, by rw [World.cell?_of_block (w := w) h5]; exact h2, by rw [World.cell?_of_block (w := w) h5]; exact h3, by rw [World.cell?_of_block (w := w) h5]; exact h4⟩
end Go.Proofs.Ybulkblzg
