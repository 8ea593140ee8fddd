import Derived.Test.YbulkblzgB2
import Derived.Test.YbulkblzgA3
import Derived.Test.YbulkblzgShelf
import Derived.Shelf.GgSortFunc.Whole
import Derived.Shelf.GgSortFunc.Tiny
namespace Go.Proofs.Ybulkblzg
open Go.RowKit
set_option linter.unusedVariables false
set_option linter.unusedSimpArgs false

/-- A string's bytes. -/
def bts (s : ByteArray) : List Nat := s.toList.map UInt8.toNat

theorem less_slt (a b : List UInt8) : Op.bytesLess a b = slt (a.map UInt8.toNat) (b.map UInt8.toNat) := by
  induction a generalizing b with
  | nil => cases b <;> rfl
  | cons x a ih =>
    cases b with
    | nil => rfl
    | cons y b =>
      simp only [Op.bytesLess, slt, List.map_cons, ih]
      rcases Nat.lt_trichotomy x.toNat y.toNat with h | h | h
      · have h1 : x < y := UInt8.lt_iff_toNat_lt.2 h
        simp [h1, h]
      · have h1 : x = y := UInt8.toNat_inj.1 h
        subst h1
        simp
      · have h1 : ¬ x < y := fun h2 => by have := UInt8.lt_iff_toNat_lt.1 h2; omega
        have h2 : (x == y) = false := by
          rw [beq_eq_false_iff_ne]
          intro h2
          subst h2; omega
        have h3 : ¬ x.toNat < y.toNat := by omega
        simp [h1, h2, h, h3]

/-- What piece reads. -/
structure PM (w : World) (bp bb bo gp np pc gb k bc ao : Nat) (Ps : Nat → ByteArray) (Bt O : Nat → Nat) : Prop where
  p : 0 < k → w.cell? ⟨bp, 0, none⟩ = some (.slice (some ⟨gp, 0, none⟩) np pc)
  pc : 0 < k → ∀ i, i < np → w.cell? ⟨gp, i, none⟩ = some (.string (Ps i))
  b : 0 < k → w.cell? ⟨bb, 0, none⟩ = some (.slice (some ⟨gb, 0, none⟩) k bc)
  bc : ∀ i, i < k → w.cell? ⟨gb, i, none⟩ = some (.int .i64 (Bt i : Int))
  o : w.cell? ⟨bo, 0, none⟩ = some (.slice (some ⟨ao, 0, none⟩) k k)
  oc : ∀ i, i < k → w.cell? ⟨ao, i, none⟩ = some (.int .i64 (O i : Int))
  bl : ∀ i, i < k → Bt i < np
  ol : ∀ i, i < k → O i < k

theorem PM.drewN {w : World} {bp bb bo gp np pc gb k bc ao : Nat} {Ps : Nat → ByteArray} {Bt O : Nat → Nat} (h : PM w bp bb bo gp np pc gb k bc ao Ps Bt O) (q : Nat) : PM (w.drewN q) bp bb bo gp np pc gb k bc ao Ps Bt O :=
  ⟨h.p, h.pc, h.b, h.bc, h.o, h.oc, h.bl, h.ol⟩

theorem piece_any (bp bb bo gp np pc gb k bc ao : Nat) (Ps : Nat → ByteArray) (Bt O : Nat → Nat) (w : World) (h : PM w bp bb bo gp np pc gb k bc ao Ps Bt O) (n : Nat) (hn : n < k) :
    Calls Yba.prog 26 #[.int .i64 (n : Int), .pointer (some ⟨bp, 0, none⟩), .pointer (some ⟨bb, 0, none⟩), .pointer (some ⟨bo, 0, none⟩)] w fun e w' => e = .returned (.string (Ps (Bt (O n)))) ∧ ∃ q, w' = w.drewN q := by
  have m0 := h.p (by omega)
  have m1 := h.b (by omega)
  have m2 := h.o
  have m3 := h.oc n hn
  have ho := h.ol n hn
  have m4 := h.bc (O n) ho
  have hb := h.bl (O n) ho
  have m5 := h.pc (by omega) (Bt (O n)) hb
  obtain ⟨o, hoo⟩ : ∃ o, o = O n := ⟨_, rfl⟩
  rw [← hoo] at m3 ho m4 hb m5 ⊢
  obtain ⟨b, hbb⟩ : ∃ b, b = Bt o := ⟨_, rfl⟩
  rw [← hbb] at m4 hb m5 ⊢
  clear h hoo hbb
  go_enter Yba.func26, Yba.ntmps26
  go_upto_region 1 with fail
  go_quiet (fail)
  go_wp2
  go_ret
  exact ⟨rfl, nq, rfl⟩

set_option maxRecDepth 100000 in
set_option maxHeartbeats 400000 in
theorem less_any (bq bp bb bo gp np pc gb k bc ao : Nat) (Ps : Nat → ByteArray) (Bt O : Nat → Nat) (w : World) (h : PM w bp bb bo gp np pc gb k bc ao Ps Bt O)
    (hq : w.cell? ⟨bq, 0, none⟩ = some (.func (.func 26) #[] #[.pointer (some ⟨bp, 0, none⟩), .pointer (some ⟨bb, 0, none⟩), .pointer (some ⟨bo, 0, none⟩)])) (i j : Nat) (hi : i < k) (hj : j < k) :
    Calls Yba.prog 28 #[.int .i64 (i : Int), .int .i64 (j : Int), .pointer (some ⟨bq, 0, none⟩)] w fun e w' => e = .returned (.bool (slt (bts (Ps (Bt (O i)))) (bts (Ps (Bt (O j)))))) ∧ ∃ q, w' = w.drewN q := by
  have HP : Hid (∀ (n q : Nat), n < k → Calls Yba.prog 26 #[.int .i64 (n : Int), .pointer (some ⟨bp, 0, none⟩), .pointer (some ⟨bb, 0, none⟩), .pointer (some ⟨bo, 0, none⟩)] (w.drewN q) fun e w' => e = .returned (.string (Ps (Bt (O n)))) ∧ ∃ q', w' = (w.drewN q).drewN q') :=
    fun n q hn => piece_any bp bb bo gp np pc gb k bc ao Ps Bt O _ (h.drewN q) n hn
  obtain ⟨St, hSt⟩ : ∃ St : Nat → ByteArray, St = fun n => Ps (Bt (O n)) := ⟨_, rfl⟩
  have HS : Hid (∀ (n q : Nat), n < k → Calls Yba.prog 26 #[.int .i64 (n : Int), .pointer (some ⟨bp, 0, none⟩), .pointer (some ⟨bb, 0, none⟩), .pointer (some ⟨bo, 0, none⟩)] (w.drewN q) fun e w' => e = .returned (.string (St n)) ∧ ∃ q', w' = (w.drewN q).drewN q') := by
    rw [hSt]; exact HP.out
  have hgo : Ending.returned (.bool (slt (bts (Ps (Bt (O i)))) (bts (Ps (Bt (O j)))))) = Ending.returned (.bool (slt (bts (St i)) (bts (St j)))) := by rw [hSt]
  rw [hgo]
  have HRB : Hid (Op.bytesLess (St i).toList (St j).toList = slt (bts (St i)) (bts (St j))) := less_slt _ _
  obtain ⟨r, hr⟩ : ∃ r, r = slt (bts (St i)) (bts (St j)) := ⟨_, rfl⟩
  rw [← hr] at HRB ⊢
  clear h HP hSt hr hgo
  go_enter Yba.func28, Yba.ntmps28
  go_upto_region 1 with fail
  go_quiet ((go_at_call 26; exact Calls.quiet_of (HS.out _ _ (by assumption))))
  go_wp2
  go_ret
  exact ⟨congrArg (fun b => Ending.returned (.bool b)) HRB.out, nq, rfl⟩
end Go.Proofs.Ybulkblzg
