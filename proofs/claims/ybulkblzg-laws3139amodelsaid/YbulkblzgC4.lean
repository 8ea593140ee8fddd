import Derived.Test.YbulkblzgC3
namespace Go.Proofs.Ybulkblzg
open Go.RowKit
set_option linter.unusedVariables false
set_option linter.unusedSimpArgs false

theorem exists_least (p : Nat → Prop) : ∀ k, p k → ∃ m, p m ∧ ∀ j, p j → m ≤ j := by
  intro k
  induction k using Nat.strongRecOn with
  | ind k ih =>
    intro hk
    by_cases h : ∃ j, j < k ∧ p j
    · obtain ⟨j, hj, hp⟩ := h
      exact ih j hj hp
    · exact ⟨k, hk, fun j hj => Nat.le_of_not_lt (fun hl => h ⟨j, hl, hj⟩)⟩
/-- The least number with p; 0 where there is none. -/
noncomputable def least (p : Nat → Prop) : Nat := by
  classical exact if h : ∃ m, p m ∧ ∀ j, p j → m ≤ j then h.choose else 0
theorem least_le {p : Nat → Prop} {k : Nat} (h : p k) : least p ≤ k := by
  have he := exists_least p k h
  unfold least
  rw [dif_pos he]
  exact he.choose_spec.2 k h
theorem least_spec {p : Nat → Prop} {k : Nat} (h : p k) : p (least p) := by
  have he := exists_least p k h
  unfold least
  rw [dif_pos he]
  exact he.choose_spec.1

theorem BRow.take {w : World} {base bx : Nat} {e : TypeId} {sz : Nat} {g : Option Nat} {k : Nat} {xs : List Value} {a : Option Addr} {c : Nat} (h : BRow w base bx e sz g k xs (.slice a k c)) (hbx : bx < base) {j : Nat} (hj : j ≤ k) :
    BRow (w.setCell ⟨bx, 0, none⟩ (.slice a j c)) base bx e sz g j (xs.take (j * sz)) (.slice a j c) := by
  refine ⟨h.box.set _, ownsRow_setCell_below (row_take h.row hj) (by exact hbx) _, ?_⟩
  have := h.blk
  cases a <;> simpa [Value.ownBlock] using this

section
variable {w : World} {N n : Nat} {fE : Value} {idx low : Nat → Nat} {on : Nat → Bool} {S X : List Nat} {P : List Value} {np cnt : Nat} {gS gN gP : Option Nat} {vS vN vP : Value}

theorem CF.takeN {a : Option Addr} {c : Nat} (h : CF w N n fE idx low on S X P np cnt gS gN gP vS (.slice a X.length c) vP) {j : Nat} (hj : j ≤ X.length) :
    CF (w.setCell ⟨N + 8, 0, none⟩ (.slice a j c)) N n fE idx low on S (X.take j) P np cnt gS gN gP vS (.slice a j c) vP := by
  have hb := h.nx.take (by omega) hj
  refine h.newN ((keeps_set w ⟨N + 8, 0, none⟩ _).mono (fun j _ hj => .inl hj)) (Later.refl _ _) ?_
  rw [Nat.mul_one] at hb
  rw [show (X.take j).length = j by simp; omega, show ints (X.take j) = (ints X).take j by simp]
  exact hb
theorem CF.takeS {a : Option Addr} {c : Nat} (h : CF w N n fE idx low on S X P np cnt gS gN gP (.slice a S.length c) vN vP) {j : Nat} (hj : j ≤ S.length) :
    CF (w.setCell ⟨N + 7, 0, none⟩ (.slice a j c)) N n fE idx low on (S.take j) X P np cnt gS gN gP (.slice a j c) vN vP := by
  have hb := h.st.take (by omega) hj
  refine h.newS ((keeps_set w ⟨N + 7, 0, none⟩ _).mono (fun j _ hj => .inl hj)) (Later.refl _ _) ?_
  rw [Nat.mul_one] at hb
  rw [show (S.take j).length = j by simp; omega, show ints (S.take j) = (ints S).take j by simp]
  exact hb
theorem CF.takeP {a : Option Addr} {c : Nat} (h : CF w N n fE idx low on S X P np cnt gS gN gP vS vN (.slice a np c)) {j : Nat} (hj : j ≤ np) :
    CF (w.setCell ⟨N + 9, 0, none⟩ (.slice a j c)) N n fE idx low on S X (P.take (j * 4)) j cnt gS gN gP vS vN (.slice a j c) :=
  h.newP ((keeps_set w ⟨N + 9, 0, none⟩ _).mono (fun j _ hj => .inl hj)) (Later.refl _ _) (h.pa.take (by omega) hj)

theorem frs_set (adj : Nat → List Nat) (F : List Fr) (f : Fr) : (frs adj 0 (F ++ [f])).set (F.length * 4 + 2) (.int .i64 (((nxt adj F).length + f.at_ + 1 : Nat) : Int)) = frs adj 0 (F ++ [{ f with at_ := f.at_ + 1 }]) := by
  rw [frs_snoc, frs_snoc, List.set_append_right _ _ (by rw [frs_length]; omega), frs_length]
  simp only [Nat.add_sub_cancel_left]
  rfl

theorem CF.setAt {adj : Nat → List Nat} {F : List Fr} {f : Fr} {g cap m : Nat} (hm : m = F.length) (h : CF w N n fE idx low on S X (frs adj 0 (F ++ [f])) (m + 1) cnt gS gN gP vS vN (.slice (some ⟨g, 0, none⟩) (m + 1) cap)) :
    CF (w.setCell ⟨g, m * 4 + 2, none⟩ (.int .i64 (((nxt adj F).length + f.at_ + 1 : Nat) : Int))) N n fE idx low on S X (frs adj 0 (F ++ [{ f with at_ := f.at_ + 1 }])) (m + 1) cnt gS gN gP vS vN (.slice (some ⟨g, 0, none⟩) (m + 1) cap) := by
  subst hm
  have hg : gP = some g := h.pa.blk.symm
  have hs := h.pa.row.stored (F.length * 4 + 2) (.int .i64 (((nxt adj F).length + f.at_ + 1 : Nat) : Int))
  rw [frs_set] at hs
  refine h.newP ((keeps_set w ⟨g, F.length * 4 + 2, none⟩ _).mono (fun j _ hj => .inr (by rw [hg, hj]))) (Later.refl _ _) ⟨h.pa.box.other ?_ _, hs.1, h.pa.blk⟩
  have := (h.pa.lt g hg).1
  simp; omega
end

theorem CT_reach {w : World} {N n : Nat} {fE : Value} {adj : Nat → List Nat} {T : Ts} {v : Nat} {gS gN gP : Option Nat} {vS vN vP : Value}
    (h : CF w N n fE (upd T.idx v (T.cnt + 1)) (upd T.low v (T.cnt + 1)) (fun i => if i = v then true else decide (i ∈ stk T.fr)) (stk T.fr ++ [v]) (nxt adj T.fr ++ adj v)
      (frs adj 0 T.fr ++ [.int .i64 (v : Int), .int .i64 ((nxt adj T.fr).length : Int), .int .i64 ((nxt adj T.fr).length : Int), .int .i64 (((nxt adj T.fr).length + (adj v).length : Nat) : Int)]) (T.fr.length + 1) (T.cnt + 1) gS gN gP vS vN vP) :
    CT w N n fE adj (reachT T v) gS gN gP vS vN vP := by
  refine h.congr rfl rfl ?_ ?_ ?_ ?_ ?_ rfl
  · funext i
    simp only [reachT, stk_append, stk_one]
    by_cases e : i = v <;> simp [e]
  · simp [reachT, stk_append, stk_one]
  · simp [reachT, nxt_snoc]
  · simp [reachT, frs_snoc]
  · simp [reachT]

/-- The cells of the path's last frame. -/
theorem last_frame {w : World} {base bx : Nat} {adj : Nat → List Nat} {F : List Fr} {f : Fr} {g cap m : Nat} {o : Option Nat} (hm : m = F.length) (h : BRow w base bx 72 4 o (m + 1) (frs adj 0 (F ++ [f])) (.slice (some ⟨g, 0, none⟩) (m + 1) cap)) :
    w.cell? ⟨g, m * 4, none⟩ = some (.int .i64 (f.v : Int)) ∧ w.cell? ⟨g, m * 4 + 1, none⟩ = some (.int .i64 ((nxt adj F).length : Int)) ∧
    w.cell? ⟨g, m * 4 + 2, none⟩ = some (.int .i64 (((nxt adj F).length + f.at_ : Nat) : Int)) ∧ w.cell? ⟨g, m * 4 + 3, none⟩ = some (.int .i64 (((nxt adj F).length + (adj f.v).length : Nat) : Int)) ∧
    w.frozen? ⟨g, m * 4 + 2, none⟩ = false := by
  subst hm
  have hl := frs_length adj F 0
  refine ⟨?_, ?_, ?_, ?_, h.row.frozenAt _⟩
  · rw [h.row.cellAt _ (by omega), frs_snoc, List.getElem?_append_right (by omega), hl]; simp
  · rw [h.row.cellAt _ (by omega), frs_snoc, List.getElem?_append_right (by omega), hl]; simp
  · rw [h.row.cellAt _ (by omega), frs_snoc, List.getElem?_append_right (by omega), hl]; simp
  · rw [h.row.cellAt _ (by omega), frs_snoc, List.getElem?_append_right (by omega), hl]; simp

theorem int_cell {w : World} {base bx : Nat} {o : Option Nat} {L : List Nat} {k g cap : Nat} (h : BRow w base bx 3 1 o k (ints L) (.slice (some ⟨g, 0, none⟩) k cap)) {i x : Nat} (hi : i < k) (hx : L[i]? = some x) :
    w.cell? ⟨g, i, none⟩ = some (.int .i64 (x : Int)) := by
  rw [h.row.cellAt _ (by omega)]
  simp [hx]

theorem row_some {w : World} {base bx : Nat} {e : TypeId} {sz : Nat} {o : Option Nat} {k : Nat} {xs : List Value} {v : Value} (h : BRow w base bx e sz o k xs v) (hk : 0 < k) : ∃ g cap, v = .slice (some ⟨g, 0, none⟩) k cap ∧ k ≤ cap ∧ cap ≤ maxLen ∧ o = some g := by
  obtain ⟨a, c, hv, h1, h2, h3, h4⟩ := row_form h.row
  cases a with
  | none => have := (h4 rfl).1; omega
  | some ad =>
    obtain ⟨g, rfl, _⟩ := h3 ad rfl
    exact ⟨g, c, hv, h1, h2, by rw [← h.blk, hv]; rfl⟩

theorem Yba.info21 : (Yba.prog.info? 21).map (fun i => (i.zero, i.size, i.bytes)) = some (some (.int .i32 0), 1, 4) := by kernel_rfl
theorem Yba.info4 : (Yba.prog.info? 4).map (fun i => (i.zero, i.size, i.bytes)) = some (some (.bool false), 1, 1) := by kernel_rfl
theorem Yba.info27 : (Yba.prog.info? 27).map (fun i => (i.zero, i.size, i.bytes)) = some (some (.slice none 0 0), 1, 24) := by kernel_rfl

theorem make_n {t e : TypeId} {z : Value} {bytes : Nat} (ht : Yba.prog.underlying t = some (.slice e)) (hi : (Yba.prog.info? e).map (fun i => (i.zero, i.size, i.bytes)) = some (some z, 1, bytes)) (hz : z.cells = #[z]) (hb : bytes ≤ 64) (n : Nat) (hn : n ≤ 65536) (W : World) :
    (Instr.makeSlice t (.int .i64 (n : Int)) (.int .i64 (n : Int))).run Yba.prog W = .ok (.slice (some ⟨W.heap.size, 0, none⟩) n n) (W.alloc (.cells (madeCells #[z] n) e)) := by
  obtain ⟨i, h1, h2, h3, h4⟩ := info_parts hi
  have hb' : (i.bytes : Int) * (n : Int) ≤ 281474976710656 := by
    have h5 : i.bytes * n ≤ 64 * 65536 := Nat.mul_le_mul (by omega) hn
    have h : ((i.bytes * n : Nat) : Int) ≤ 281474976710656 := by omega
    rwa [Int.natCast_mul] at h
  have := run_make (P := Yba.prog) W t e i z ht h1 h2 .i64 .i64 (n : Int) (n : Int) (by omega) (Int.le_refl _) hb' (by omega)
  rw [hz, h3] at this
  simpa using this

theorem arr_made (W : World) (z : Value) (n : Nat) (e : TypeId) : Arr (W.alloc (.cells (madeCells #[z] n) e)) W.heap.size n (fun _ => z) := by
  intro i hi
  have hh := heap_alloc_new W (.cells (madeCells #[z] n) e)
  generalize W.alloc (.cells (madeCells #[z] n) e) = V at *
  refine ⟨?_, by simp [World.frozen?, hh]⟩
  rw [cell_of_row V W.heap.size i _ e (0, 0) hh]
  have := toList_madeCells_one z n
  rw [← Array.getElem?_toList, this]
  simp [hi]

theorem box_new (W : World) (v : Value) (e : TypeId) : Box (W.alloc (.cells #[v] e)) W.heap.size v := by
  have hh := heap_alloc_new W (.cells #[v] e)
  generalize W.alloc (.cells #[v] e) = V at *
  refine ⟨?_, by simp [World.frozen?, hh]⟩
  rw [cell_of_row V W.heap.size 0 _ e (0, 0) hh]; rfl
theorem Arr.alloc {w : World} {a n : Nat} {f : Nat → Value} (h : Arr w a n f) (o : Obj) : Arr (w.alloc o) a n f :=
  h.keep ((Keeps.refl (fun _ => False) w).alloc o) (fun hf => hf)
end Go.Proofs.Ybulkblzg
