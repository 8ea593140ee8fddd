import Derived.Test.YbulkblxqDoorTie
import Derived.Test.YbulkblxqDoorF14
import Derived.Lib.LaidTab
namespace Go.Proofs.YbulkblxqDoor
open Go.RowKit Go.Maps
set_option linter.unusedVariables false
set_option linter.unusedSimpArgs false

theorem ord_cells {H : Type} {enc : TypeId × Value → H} {P : Program} {w : World} {base : Nat} {sp : Nat → Bool} {held : Bool} {fuel : Nat} {t e f : TypeId} {cs : List Value} {a b c : List Int} {p : List MemPlace}
    (ht : P.underlying t = some (.array 3 e)) (he : P.underlying e = some (.array 4 f)) (hf : P.underlying f = some (.int .i64)) (hcf : P.cellsOf f = 1) (hce : P.cellsOf e = 4) (hct : P.cellsOf t = 12)
    (ha : a.length = 4) (hb : b.length = 4) (hc : c.length = 4)
    (h : DataW.trod enc P w base sp held fuel t cs = some (.agg [Lib.tabData .i64 a, Lib.tabData .i64 b, Lib.tabData .i64 c], p)) : cs = (a ++ b ++ c).map fun z => Value.int .i64 z := by
  cases fuel with
  | zero => simp [DataW.trod] at h
  | succ fuel =>
    simp only [DataW.trod, ht, hce, hct] at h
    split at h
    · rename_i hl
      obtain ⟨xs, hm, hx⟩ := Option.map_eq_some_iff.1 h
      have hxs : xs.map (·.1) = [Lib.tabData .i64 a, Lib.tabData .i64 b, (Lib.tabData .i64 c : DataW H)] := by
        have := congrArg Prod.fst hx
        simpa using this
      have hlen : cs.length = 12 := by simpa using hl
      have part : ∀ (i : Nat) (z : List Int), i < 3 → [a, b, c][i]? = some z → (cs.drop (i * 4)).take 4 = z.map fun z => Value.int .i64 z := by
        intro i z hi hz
        obtain ⟨r, hr, hg⟩ := Lib.mapM_at hm i i (by simp [hi])
        have h1 : (xs.map (·.1))[i]? = some r.1 := by simp [hr]
        rw [hxs] at h1
        have h2 : ([a, b, c].map (fun z => (Lib.tabData .i64 z : DataW H)))[i]? = some (Lib.tabData .i64 z) := by rw [List.getElem?_map, hz]; rfl
        have h3 : r.1 = Lib.tabData .i64 z := by
          have : some r.1 = some (Lib.tabData .i64 z : DataW H) := h1.symm.trans (by simpa using h2)
          exact Option.some.inj this
        obtain ⟨r1, r2⟩ := r
        simp only at h3
        subst h3
        exact Lib.cells_of_tab he hf hcf hce hg
      have p0 := part 0 a (by omega) rfl
      have p1 := part 1 b (by omega) rfl
      have p2 := part 2 c (by omega) rfl
      have : cs = (cs.drop (0 * 4)).take 4 ++ (cs.drop (1 * 4)).take 4 ++ (cs.drop (2 * 4)).take 4 := by
        apply List.ext_getElem?
        intro i
        simp only [List.getElem?_append, List.getElem?_take, List.getElem?_drop, List.length_append, List.length_take, List.length_drop, hlen]
        repeat' split
        all_goals (first | (congr 1; omega) | (rw [List.getElem?_eq_none (by omega)]) | omega)
      rw [this, p0, p1, p2]
      simp
    · cases h

theorem ordG_of {W : World} (hL : laidMetH Ybad.prog Rows.lawS3136AFreshRow.laid W) : OrdG W := by
  have hL' : laidMet Ybad.prog Rows.lawS3136AFreshRow.laid W := hL
  obtain ⟨ps, ⟨g', t', cs, fuel, p, q, hg', ht', hvar, hd, _, _⟩, _⟩ := hL'
  obtain rfl : g' = 0 := (Option.some.inj ((show Ybad.prog.globalNamed (Rows.lawS3136AFreshRow.laid.map (·.1)).head! = some 0 by kernel_rfl).symm.trans hg')).symm
  obtain rfl : t' = 99 := (Option.some.inj ((show (Ybad.prog.globals[0]?).map (·.type) = some 99 by kernel_rfl).symm.trans ht')).symm
  have hcs := ord_cells (a := [0, 1, 2, 3]) (b := [0, 2, 1, 3]) (c := [0, 2, 3, 1]) (e := 40) (f := 3) Ybad.underlying99 Ybad.underlying40 Ybad.underlying3 (by kernel_rfl) (by kernel_rfl) (by kernel_rfl) rfl rfl rfl hd
  intro i hi
  have h1 := World.var?_cell hg' hvar i
  rw [h1]
  have h2 : cs[i]? = cs.toList[i]? := by simp
  rw [h2, hcs]
  have : ∀ i, i < 12 → ((([0, 1, 2, 3] : List Int) ++ [0, 2, 1, 3] ++ [0, 2, 3, 1]).map fun z => Value.int .i64 z)[i]? = some (.int .i64 (ordL.getD i 0 : Nat)) := by
    intro i hi
    match i, hi with
    | 0, _ => rfl
    | 1, _ => rfl
    | 2, _ => rfl
    | 3, _ => rfl
    | 4, _ => rfl
    | 5, _ => rfl
    | 6, _ => rfl
    | 7, _ => rfl
    | 8, _ => rfl
    | 9, _ => rfl
    | 10, _ => rfl
    | 11, _ => rfl
  exact this i hi

set_option maxRecDepth 100000 in
theorem fresh_any (t0 t1 t2 t3 l0 l1 l2 l3 p0 p1 p2 p3 b0 b1 pre : Int) (a : Option Addr) (n c : Nat) (L : List PIn) (w : World) (hL : IsPIns w a n L)
   (q0 : 0 ≤ p0 ∧ p0 < 256) (q1 : 0 ≤ p1 ∧ p1 < 256) (q2 : 0 ≤ p2 ∧ p2 < 256) (q3 : 0 ≤ p3 ∧ p3 < 256) (hpre : 0 ≤ pre ∧ pre < 256)
   (wb0 : (Lit.int .i32 b0).wf = true) (wb1 : (Lit.int .i32 b1).wf = true) (hG : OrdG w) :
    Calls Ybad.prog 3 #[.agg #[.int .i64 t0, .int .i64 t1, .int .i64 t2, .int .i64 t3, .int .u64 l0, .int .u64 l1, .int .u64 l2, .int .u64 l3, .int .u8 p0, .int .u8 p1, .int .u8 p2, .int .u8 p3, .int .i32 b0, .int .i32 b1, .slice a n c, .int .u8 pre]] w fun e w' =>
      e = .returned (.bool true) ∧ Below w.heap.size w w' := by
  cases hbig : bigB L with
  | false => exact fresh_small t0 t1 t2 t3 l0 l1 l2 l3 p0 p1 p2 p3 b0 b1 pre a n c L w hL hbig q0 q1 q2 q3 hpre wb0 wb1 hG (cell_lt (hG 0 (by omega)))
  | true =>
    have H0 : Hid (IsPIns w a n L ∧ bigB L = true) := ⟨hL, hbig⟩
    clear hL hbig q0 q1 q2 q3 hpre wb0 wb1 hG
    have HBA : Hid (∀ o, Below w.heap.size w (w.alloc o)) := fun o => (Below.refl _ _).alloc (Nat.le_refl _) o
    go_enter Ybad.func3, Ybad.ntmps3
    go_wp2_with fail
    refine (toolarge_any _ _ _ _ _ _ _ _ _ _ _ _ _ _ _ a n c L _ (H0.out.1.below (HBA.out _))).mono ?_
    rintro e w1 ⟨rfl, hb1⟩
    rw [H0.out.2]
    have HB1 : Hid (Below w.heap.size w w1) := (HBA.out _).trans (hb1.mono (by simp))
    clear hb1
    go_wp2
    go_ret
    exact ⟨rfl, HB1.out⟩
end Go.Proofs.YbulkblxqDoor
