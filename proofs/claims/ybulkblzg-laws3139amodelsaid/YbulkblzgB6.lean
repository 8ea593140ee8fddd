import Derived.Test.YbulkblzgB5
import Derived.Laws.EntriesVeiled
import Derived.Deep.CutBlock
namespace Go.Proofs.Ybulkblzg
open Go.RowKit
set_option linter.unusedVariables false
set_option linter.unusedSimpArgs false

/-- The state of the levels. -/
structure SX (c : Ct) (N A : Nat) (O : Nat → Nat) (w0 w : World) (d bs : Nat) (Lv Nx : List (Nat × Nat)) (p q : Nat) (fs : List Nat) (lb : Nat → Nat) (str : Nat → List Nat) (nd : Nat → Nat) (br : Nat) (v0 v1 v2 v3 : Value) (pend : Nat → Prop) : Prop where
  tc : TC c N A O w0 w fs q lb Lv Nx v0 v1 v2 v3 nd br
  core : Core c.k (c.str O) d bs Lv Nx p q fs lb str (fun j => nd (O j)) pend
  ne : NE Nx
  lbb : ∀ j, lb j < 256

theorem box_two (W : World) (a b : Value) (e : TypeId) : (W.alloc (.cells #[a, b] e)).cell? ⟨W.heap.size, 0, none⟩ = some a ∧ (W.alloc (.cells #[a, b] e)).cell? ⟨W.heap.size, 1, none⟩ = some b := by
  have hh := heap_alloc_new W (.cells #[a, b] e)
  generalize W.alloc (.cells #[a, b] e) = V at *
  exact ⟨by rw [cell_of_row V W.heap.size 0 _ e (0, 0) hh]; rfl, by rw [cell_of_row V W.heap.size 1 _ e (0, 0) hh]; rfl⟩

theorem wrap32 (n : Nat) (h : n < 2147483648) : IntKind.i32.wrap (n : Int) = (n : Int) := by
  simp [IntKind.wrap, IntKind.bits, IntKind.signed]; omega

theorem bts_length (s : ByteArray) : (bts s).length = s.size := by
  simp only [bts, List.length_map, Lib.toList_data, Array.length_toList]
  rfl

theorem bts_lt (s : ByteArray) {b : Nat} (h : b ∈ bts s) : b < 256 := by
  simp only [bts, List.mem_map] at h
  obtain ⟨u, -, rfl⟩ := h
  exact u.toNat_lt

/-- The run that is in hand. -/
structure Rn (w : World) (br : Nat) (f t : Nat) : Prop where
  f : w.cell? ⟨br, 0, none⟩ = some (.int .i64 (f : Int))
  t : w.cell? ⟨br, 1, none⟩ = some (.int .i64 (t : Int))
theorem Rn.keep {S : Nat → Prop} {w w' : World} {br f t : Nat} (h : Rn w br f t) (hk : Keeps S w w') (hs : ¬ S br) : Rn w' br f t := by
  have hb := hk.block br (World.block_lt_of_cell? w ⟨br, 0, none⟩ h.f) hs
  exact ⟨by rw [World.cell?_of_block (w := w) hb]; exact h.f, by rw [World.cell?_of_block (w := w) hb]; exact h.t⟩

theorem Yba.info66 : (Yba.prog.info? 66).map (fun i => (i.zero, i.size, i.bytes)) = some (some (.agg #[.int .i64 0, .int .i64 0]), 2, 16) := by kernel_rfl
theorem Yba.info5 : (Yba.prog.info? 5).map (fun i => (i.zero, i.size, i.bytes)) = some (some (.int .u8 0), 1, 1) := by kernel_rfl
theorem keeps_drewN (w : World) (q : Nat) : Keeps (fun _ => False) w (w.drewN q) := (Keeps.refl _ w).drewN q
theorem keeps_alloc (w : World) (o : Obj) : Keeps (fun _ => False) w (w.alloc o) := (Keeps.refl _ w).alloc o
theorem keeps_alloc_drew (w : World) (o : Obj) : Keeps (fun _ => False) w (w.alloc o).drew := ((Keeps.refl _ w).alloc o).drew

section
variable {c : Ct} {N A : Nat} {O : Nat → Nat} {w0 w w' : World} {d bs : Nat} {Lv Nx : List (Nat × Nat)} {p q : Nat} {fs : List Nat} {lb : Nat → Nat} {str : Nat → List Nat} {nd : Nat → Nat} {br : Nat} {v0 v1 v2 v3 : Value} {pend : Nat → Prop}

theorem SX.keep (h : SX c N A O w0 w d bs Lv Nx p q fs lb str nd br v0 v1 v2 v3 pend) (hk : Keeps (fun _ => False) w w') : SX c N A O w0 w' d bs Lv Nx p q fs lb str nd br v0 v1 v2 v3 pend := ⟨TB.keep h.tc hk, h.core, h.ne, h.lbb⟩

/-- A run begins. -/
theorem SX.begin (h : SX c N A O w0 w d bs Lv Nx p q fs lb str nd (A + 1) v0 v1 v2 v3 pend) (f t : Nat) : SX c N A O w0 (w.alloc (.cells #[.int .i64 (f : Int), .int .i64 (t : Int)] 66)) d bs Lv Nx p q fs lb str nd w.heap.size v0 v1 v2 v3 pend ∧
    Rn (w.alloc (.cells #[.int .i64 (f : Int), .int .i64 (t : Int)] 66)) w.heap.size f t ∧ w.heap.size ≠ A + 1 := by
  have hs := h.tc.sz
  exact ⟨⟨TB.newbr h.tc (keeps_alloc _ _) (by simp), h.core, h.ne, h.lbb⟩, ⟨(box_two _ _ _ _).1, (box_two _ _ _ _).2⟩, by omega⟩

/-- The run's node is opened. -/
theorem SX.opened {r f t : Nat} (h : SX c N A O w0 w d bs Lv Nx (bs + r) q fs lb str nd br v0 v1 v2 v3 (pendL Lv r)) (hr : Lv[r]? = some (f, t)) (hrn : Rn w br f t) (hbr : br ≠ A + 1) {W w1 : World} (hW : Keeps (fun _ => False) w W) {g cap : Nat}
    (hown : w1.ownsRow A 21 1 (.slice (some ⟨g, 0, none⟩) (fs.length + 1) cap) (fs.length + 1) (i32s fs ++ [.int .i32 (q : Int)])) (hg : W.grownBy w1 v0.ownBlock) (hat : v0.ownBlock = some g ∨ g = W.heap.size) :
    SX c N A O w0 (w1.setCell ⟨A + 1, 0, none⟩ (.slice (some ⟨g, 0, none⟩) (fs.length + 1) cap)) d bs Lv Nx (bs + r + 1) q (fs ++ [q]) lb str nd br (.slice (some ⟨g, 0, none⟩) (fs.length + 1) cap) v1 v2 v3 (pendX Lv r f t) ∧
    Rn (w1.setCell ⟨A + 1, 0, none⟩ (.slice (some ⟨g, 0, none⟩) (fs.length + 1) cap)) br f t := by
  refine ⟨⟨?_, core_open h.core hr, h.ne, h.lbb⟩, ?_⟩
  · refine TB.pushF (i := 0) h.tc (by omega) hW hg hown hat ?_ ?_
    · intro j hj
      match j, hj with
      | 1, _ => rfl
      | 2, _ => rfl
      | 3, _ => rfl
      | _ + 4, _ => rfl
    · show RW.mk 21 1 _ _ _ = _
      rw [i32s_snoc, List.length_append]
      rfl
  · have hk : Keeps (fun j => j = A + 1 ∨ v0.ownBlock = some j) w (w1.setCell ⟨A + 1, 0, none⟩ (.slice (some ⟨g, 0, none⟩) (fs.length + 1) cap)) :=
      ((hW.mono (S' := fun j => j = A + 1 ∨ v0.ownBlock = some j) (fun _ _ h => h.elim)).grown hg (fun k hk _ => .inr hk)).setCell (fun _ => .inl rfl) _
    refine hrn.keep hk ?_
    rintro (e | e)
    · exact hbr e
    · exact (h.tc.off 0 br (by omega) e).2.2 rfl
end

section
variable {c : Ct} {N A : Nat} {O : Nat → Nat} {w0 w w' : World} {d bs : Nat} {Lv Nx : List (Nat × Nat)} {p q : Nat} {fs : List Nat} {lb : Nat → Nat} {str : Nat → List Nat} {nd : Nat → Nat} {br : Nat} {v0 v1 v2 v3 : Value} {pend : Nat → Prop}
/-- A string that is the node's own. -/
theorem SX.own {r f t x : Nat} (h : SX c N A O w0 w d bs Lv Nx (bs + r + 1) q fs lb str nd br v0 v1 v2 v3 (pendX Lv r x t)) (hr : Lv[r]? = some (f, t)) (hrn : Rn w br f t) (hf : f ≤ x) (hx : x < t) (hl : (c.str O x).length = d) (ho : ∀ j, j < c.k → O j < c.k) {p' : Nat} (hp' : p' = bs + r) :
    SX c N A O w0 (w.setCell ⟨A + 2, O x, none⟩ (.int .i32 (p' : Int))) d bs Lv Nx (bs + r + 1) q fs lb str (setF nd (O x) p') br v0 v1 v2 v3 (pendX Lv r (x + 1) t) ∧ Rn (w.setCell ⟨A + 2, O x, none⟩ (.int .i32 (p' : Int))) br f t := by
  subst hp'
  have hxk : x < c.k := by have := (h.core.lv r f t hr).2.1; omega
  refine ⟨⟨TB.node h.tc (ho x hxk) (bs + r), core_own' h.core hr hf hx hl (by simp [setF]) (fun j hj => ?_), h.ne, h.lbb⟩, hrn.keep (keeps_set w ⟨A + 2, O x, none⟩ _) (fun e => h.tc.brl.2.2 e)⟩
  by_cases e : O j = O x
  · exact .inr ⟨by simp [setF, e], by simp [Ct.str, e]⟩
  · exact .inl (by simp [setF, e])
end

theorem TC.label {c : Ct} {N A : Nat} {O : Nat → Nat} {w0 w : World} {fs : List Nat} {q : Nat} {lb : Nat → Nat} {Lv Nx : List (Nat × Nat)} {v0 v1 v2 v3 : Value} {nd : Nat → Nat} {br b : Nat} (h : TC c N A O w0 w fs q lb Lv Nx v0 v1 v2 v3 nd br) {W w1 : World} (hW : Keeps (fun _ => False) w W) {g cap : Nat}
    (hown : w1.ownsRow A 5 1 (.slice (some ⟨g, 0, none⟩) (q + 1) cap) (q + 1) (lbs lb q ++ [.int .u8 (b : Int)])) (hg : W.grownBy w1 v1.ownBlock) (hat : v1.ownBlock = some g ∨ g = W.heap.size) :
    TC c N A O w0 (w1.setCell ⟨A + 1, 1, none⟩ (.slice (some ⟨g, 0, none⟩) (q + 1) cap)) fs (q + 1) (setF lb q b) Lv Nx v0 (.slice (some ⟨g, 0, none⟩) (q + 1) cap) v2 v3 nd br ∧ Keeps (fun j => j = A + 1 ∨ v1.ownBlock = some j) w (w1.setCell ⟨A + 1, 1, none⟩ (.slice (some ⟨g, 0, none⟩) (q + 1) cap)) := by
  refine ⟨TB.pushF (i := 1) h (by omega) hW hg hown hat ?_ ?_, ?_⟩
  · intro j hj
    match j, hj with
    | 0, _ => rfl
    | 2, _ => rfl
    | 3, _ => rfl
    | _ + 4, _ => rfl
  · show RW.mk 5 1 _ _ _ = _
    rw [lbs_snoc]
    rfl
  · exact ((hW.mono (S' := fun j => j = A + 1 ∨ v1.ownBlock = some j) (fun _ _ h => h.elim)).grown hg (fun k hk _ => .inr hk)).setCell (fun _ => .inl rfl) _
theorem TC.next {c : Ct} {N A : Nat} {O : Nat → Nat} {w0 w : World} {fs : List Nat} {q : Nat} {lb : Nat → Nat} {Lv Nx : List (Nat × Nat)} {v0 v1 v2 v3 : Value} {nd : Nat → Nat} {br x u n3 : Nat} (h : TC c N A O w0 w fs q lb Lv Nx v0 v1 v2 v3 nd br) {W w1 : World} (hW : Keeps (fun _ => False) w W) {g cap : Nat} (hn : n3 = Nx.length)
    (hown : w1.ownsRow A 66 2 (.slice (some ⟨g, 0, none⟩) (n3 + 1) cap) (n3 + 1) (runs Nx ++ [.int .i64 (x : Int), .int .i64 (u : Int)])) (hg : W.grownBy w1 v3.ownBlock) (hat : v3.ownBlock = some g ∨ g = W.heap.size) :
    TC c N A O w0 w1 fs q lb Lv (Nx ++ [(x, u)]) v0 v1 v2 (.slice (some ⟨g, 0, none⟩) (n3 + 1) cap) nd br ∧ Keeps (fun j => v3.ownBlock = some j) w w1 := by
  subst hn
  refine ⟨TB.pushS (i := 3) h (by omega) (by omega) hW hg hown hat ?_ ?_, ?_⟩
  · intro j hj
    match j, hj with
    | 0, _ => rfl
    | 1, _ => rfl
    | 2, _ => rfl
    | 3, h => exact absurd rfl h
    | _ + 4, _ => rfl
  · show RW.mk 66 2 _ _ _ = _
    rw [runs_snoc, List.length_append]
    rfl
  · exact (hW.mono (S' := fun j => v3.ownBlock = some j) (fun _ _ h => h.elim)).grown hg (fun k hk _ => hk)
theorem str_at {s : ByteArray} {i b : Nat} (h : (bts s)[i]? = some b) : ∀ W, (Instr.index 9 (.string s) (.int .i64 (i : Int))).run Yba.prog W = .ok (.int .u8 (b : Int)) W := by
  intro W
  have hl : i < s.size := by
    have := (List.getElem?_eq_some_iff.1 h).1
    rwa [bts_length] at this
  rw [run_index_string W 9 s .i64 i Yba.underlying9, dif_pos ⟨by omega, by omega⟩]
  have hb : (s[i]'hl).toNat = b := by
    simp only [bts, Lib.toList_data, List.getElem?_map] at h
    rw [Array.getElem?_toList, Array.getElem?_eq_getElem (show i < s.data.size from hl)] at h
    have h' : s.data[i].toNat = b := by simpa using h
    exact h'
  simp [← hb]

/-- One group is done. -/
theorem SX.group {c : Ct} {N A : Nat} {O : Nat → Nat} {w0 w w' : World} {d bs : Nat} {Lv Nx : List (Nat × Nat)} {q : Nat} {fs : List Nat} {lb : Nat → Nat} {str : Nat → List Nat} {nd : Nat → Nat} {br : Nat} {v0 v1 v2 v3 v1' v3' : Value} {r f t x u b q1 : Nat} {S : List Nat}
    (h : SX c N A O w0 w d bs Lv Nx (bs + r + 1) q fs lb str nd br v0 v1 v2 v3 (pendX Lv r x t)) (hr : Lv[r]? = some (f, t)) (hf : f ≤ x) (hxu : x < u) (hut : u ≤ t) (hb : ∀ j, x ≤ j → j < u → ∃ y, c.str O j = S ++ b :: y) (hS : str (bs + r) = S)
    (hq : fs[bs + r]? = some q1) (hlab : ∀ a, q1 ≤ a → a < q → lb a < b) (hnx : ∀ (i f' t' : Nat), Nx[i]? = some (f', t') → t' ≤ x) (hgt : u < t → ∀ b' y', c.str O u = S ++ b' :: y' → b < b')
    (ht : TC c N A O w0 w' fs (q + 1) (setF lb q b) Lv (Nx ++ [(x, u)]) v0 v1' v2 v3' nd br) :
    SX c N A O w0 w' d bs Lv (Nx ++ [(x, u)]) (bs + r + 1) (q + 1) fs (setF lb q b) (setF str q (str (bs + r) ++ [b])) nd br v0 v1' v2 v3' (pendX Lv r u t) ∧
    setF str q (str (bs + r) ++ [b]) (bs + r) = S ∧ (∀ a, q1 ≤ a → a < q + 1 → ∀ b' y', u < t → c.str O u = S ++ b' :: y' → setF lb q b a < b') ∧ (∀ (i f' t' : Nat), (Nx ++ [(x, u)])[i]? = some (f', t') → t' ≤ u) := by
  have hbq : bs + r + 1 ≤ q := h.core.tri.le
  have hb256 : b < 256 := by
    obtain ⟨y, hy⟩ := hb x (Nat.le_refl _) hxu
    exact bts_lt (c.Ps (c.Bt (O x))) (by have : bts (c.Ps (c.Bt (O x))) = S ++ b :: y := hy; rw [this]; simp)
  refine ⟨⟨ht, core_group h.core hr hf hxu hut (by rw [hS]; exact hb) (fun a ha => ?_) hnx, h.ne.snoc hxu, fun j => ?_⟩, ?_, fun a h1 h2 b' y' h3 h4 => ?_, fun i f' t' hi => ?_⟩
  · rw [hq] at ha
    injection ha with ha
    subst ha
    exact hlab
  · unfold setF
    split
    · exact hb256
    · exact h.lbb j
  · rw [setF_other _ _ _ _ (by omega)]; exact hS
  · have hbb := hgt h3 b' y' h4
    by_cases e : a = q
    · subst e; rw [setF_same]; exact hbb
    · rw [setF_other _ _ _ _ e]
      have := hlab a h1 (by omega)
      omega
  · rcases Nat.lt_or_ge i Nx.length with e | e
    · rw [List.getElem?_append_left e] at hi
      have := hnx i f' t' hi
      omega
    · have hil : i < (Nx ++ [(x, u)]).length := (List.getElem?_eq_some_iff.1 hi).1
      have : i = Nx.length := by simp at hil; omega
      subst this
      rw [List.getElem?_append_right (Nat.le_refl _)] at hi
      simp at hi
      omega

theorem byte_gt {k : Nat} {P : Nat → List Nat} (hs : ∀ i j, i ≤ j → j < k → slt (P j) (P i) = false) {S : List Nat} {x u b b' : Nat} {y y' : List Nat} (hxu : x ≤ u) (hu : u < k) (h1 : P x = S ++ b :: y) (h2 : P u = S ++ b' :: y') (hne : b' ≠ b) : b < b' := by
  have h3 := hs x u hxu hu
  rw [h1, h2, slt_append] at h3
  obtain ⟨b2, y2, e, h4⟩ := slt_cons_nil h3
  injection e with e1 e2
  omega

/-- The start. -/
theorem sx_start (c : Ct) (N : Nat) (O : Nat → Nat) (w0 w : World) (hk : c.k ≤ 256) (hq : PQ c N O w) (hb : Below N w0 w) (hNA : N + 5 ≤ w.heap.size) :
    SX c N w.heap.size O w0 ((((w.alloc (.cells #[.int .u8 0] 5)).alloc (.cells #[.slice none 0 0, .slice (some ⟨w.heap.size, 0, none⟩) 1 1, .slice none 0 0] 55)).alloc (.cells (madeCells #[.int .i32 0] c.k) 21)).alloc (.cells #[.int .i64 0, .int .i64 (c.k : Int)] 66))
      0 0 [(0, c.k)] [] 0 1 [] (fun _ => 0) (fun _ => []) (fun _ => 0) (w.heap.size + 1) (.slice none 0 0) (.slice (some ⟨w.heap.size, 0, none⟩) 1 1) (.slice (some ⟨w.heap.size + 3, 0, none⟩) 1 1) (.slice none 0 0) (pendL [(0, c.k)] 0) := by
  obtain ⟨A, hA⟩ : ∃ A, A = w.heap.size := ⟨_, rfl⟩
  rw [← hA]
  obtain ⟨w1, h1⟩ : ∃ w1, w1 = w.alloc (.cells #[.int .u8 0] 5) := ⟨_, rfl⟩
  obtain ⟨w2, h2⟩ : ∃ w2, w2 = w1.alloc (.cells #[.slice none 0 0, .slice (some ⟨A, 0, none⟩) 1 1, .slice none 0 0] 55) := ⟨_, rfl⟩
  obtain ⟨w3, h3⟩ : ∃ w3, w3 = w2.alloc (.cells (madeCells #[.int .i32 0] c.k) 21) := ⟨_, rfl⟩
  obtain ⟨w4, h4⟩ : ∃ w4, w4 = w3.alloc (.cells #[.int .i64 0, .int .i64 (c.k : Int)] 66) := ⟨_, rfl⟩
  rw [← h1, ← h2, ← h3, ← h4]
  have s1 : w1.heap.size = A + 1 := by rw [h1, hA]; simp
  have s2 : w2.heap.size = A + 2 := by rw [h2]; simp; omega
  have s3 : w3.heap.size = A + 3 := by rw [h3]; simp; omega
  have s4 : w4.heap.size = A + 4 := by rw [h4]; simp; omega
  have b1 : w1.heap[A]? = some (.cells #[.int .u8 0] 5 (0, 0)) := by rw [h1, hA]; exact heap_alloc_new _ _
  have b2 : w2.heap[A + 1]? = some (.cells #[.slice none 0 0, .slice (some ⟨A, 0, none⟩) 1 1, .slice none 0 0] 55 (0, 0)) := by rw [h2, ← s1]; exact heap_alloc_new _ _
  have a3 : Arr w3 (A + 2) c.k (fun _ => .int .i32 0) := by rw [h3, ← s2]; exact arr_made _ _ _ _
  have b4 : w4.heap[A + 3]? = some (.cells #[.int .i64 0, .int .i64 (c.k : Int)] 66 (0, 0)) := by rw [h4, ← s3]; exact heap_alloc_new _ _
  have k34 : ∀ b, b < A + 3 → w4.heap[b]? = w3.heap[b]? := fun b hb => by rw [h4]; exact Below.heap_alloc _ _ _ (by omega)
  have k23 : ∀ b, b < A + 2 → w3.heap[b]? = w2.heap[b]? := fun b hb => by rw [h3]; exact Below.heap_alloc _ _ _ (by omega)
  have k12 : ∀ b, b < A + 1 → w2.heap[b]? = w1.heap[b]? := fun b hb => by rw [h2]; exact Below.heap_alloc _ _ _ (by omega)
  have k01 : ∀ b, b < A → w1.heap[b]? = w.heap[b]? := fun b hb => by rw [h1]; exact Below.heap_alloc _ _ _ (by omega)
  have e1 : w4.heap[A]? = some (.cells #[.int .u8 0] 5 (0, 0)) := by rw [k34 _ (by omega), k23 _ (by omega), k12 _ (by omega)]; exact b1
  have e2 : w4.heap[A + 1]? = some (.cells #[.slice none 0 0, .slice (some ⟨A, 0, none⟩) 1 1, .slice none 0 0] 55 (0, 0)) := by rw [k34 _ (by omega), k23 _ (by omega)]; exact b2
  have hlow : ∀ b, b < A → w4.heap[b]? = w.heap[b]? := fun b hb => by rw [k34 _ (by omega), k23 _ (by omega), k12 _ (by omega), k01 _ hb]
  refine ⟨?_, core_start c.k (c.str O) _ _ _ rfl, NE.nil, fun _ => by omega⟩
  refine ⟨hq.below (A := A) (by omega) hlow, ?_, ?_, ?_, fun i => ?_, ?_, fun i hi => ?_, fun i j b hi hj hij => ?_, fun i b hi => ?_, ⟨Nat.le_refl _, by omega, by omega⟩, ?_, by omega, by omega⟩
  · rw [cell_of_row w4 (A + 1) 0 _ 55 (0, 0) e2]; rfl
  · rw [cell_of_row w4 (A + 1) 1 _ 55 (0, 0) e2]; rfl
  · rw [cell_of_row w4 (A + 1) 2 _ 55 (0, 0) e2]; rfl
  · simp [World.frozen?, e2]
  · exact a3.same (k34 _ (by omega))
  · match i, hi with
    | 0, _ => exact ⟨rfl, .inl ⟨rfl, rfl⟩⟩
    | 1, _ => exact ⟨rfl, .inr ⟨A, 1, _, rfl, Nat.le_refl _, e1, Nat.le_refl _, by simp [maxLen], rfl, rfl⟩⟩
    | 2, _ => exact ⟨rfl, .inr ⟨A + 3, 1, _, rfl, by omega, b4, Nat.le_refl _, by simp [maxLen], rfl, rfl⟩⟩
    | 3, _ => exact ⟨rfl, .inl ⟨rfl, rfl⟩⟩
  · match i, hi, j, hj with
    | 0, _, _, _ => intro h; simp [rws, Value.ownBlock] at h
    | 3, _, _, _ => intro h; simp [rws, Value.ownBlock] at h
    | 1, _, 0, _ => intro h; simp [rws, Value.ownBlock]
    | 1, _, 1, _ => omega
    | 1, _, 2, _ => intro h; simp [rws, Value.ownBlock] at h ⊢; omega
    | 1, _, 3, _ => intro h; simp [rws, Value.ownBlock]
    | 2, _, 0, _ => intro h; simp [rws, Value.ownBlock]
    | 2, _, 1, _ => intro h; simp [rws, Value.ownBlock] at h ⊢; omega
    | 2, _, 2, _ => omega
    | 2, _, 3, _ => intro h; simp [rws, Value.ownBlock]
  · match i, hi with
    | 0, _ => intro h; simp [rws, Value.ownBlock] at h
    | 3, _ => intro h; simp [rws, Value.ownBlock] at h
    | 1, _ => intro h; simp [rws, Value.ownBlock] at h; omega
    | 2, _ => intro h; simp [rws, Value.ownBlock] at h; omega
  · refine hb.trans ⟨?_, ?_, ?_, by omega, fun b hb => hlow b (by omega)⟩ <;> (rw [h4, h3, h2, h1]; rfl)

def T7 (c : Ct) (w0 w' : World) (bt an : Nat) : Prop :=
  ∃ (F lb : Nat → Nat) (str : Nat → List Nat) (f : Nat → Nat) (g0 c0 g1 c1 g2 n : Nat) (nd : Nat → Nat), TrieOK n F lb str ∧ TM w' bt g0 c0 g1 c1 n F lb ∧ FM w' bt g2 n f ∧ n ≤ 16777216 ∧ (∀ j, j < n → lb j < 256) ∧
    (∀ x, 1 ≤ x → x < n → IsF n str x (f x)) ∧ (∀ i, i < c.k → w'.cell? ⟨an, i, none⟩ = some (.int .i32 (nd i : Int))) ∧ (∀ i, i < c.k → nd i < n ∧ str (nd i) = bts (c.Ps (c.Bt i))) ∧ Below w0.heap.size w0 w' ∧
    w0.heap.size ≤ bt ∧ w0.heap.size ≤ an ∧ w0.heap.size ≤ g0 ∧ w0.heap.size ≤ g1 ∧ w0.heap.size ≤ g2
end Go.Proofs.Ybulkblzg
