import Derived.Test.YbulkblzgC4
import Derived.Laws.EntriesVeiled
namespace Go.Proofs.Ybulkblzg
open Go.RowKit
set_option linter.unusedVariables false
set_option linter.unusedSimpArgs false

def FoundOK (G : Nat) (caps : Array Value) (n : Nat) (U : UT) (cont : List (List Nat) → Bool) : Prop :=
  ∀ (W : World) (c : Nat → Nat) (X : List (List Nat)) (R : Nat → Prop) (g off k cap : Nat) (zs : List Nat),
    U W c X R → ¬ R g → g < W.heap.size → 0 < k → k = zs.length → k ≤ 256 → X.length ≤ 256 → (∀ (j x : Nat), zs[j]? = some x → W.cell? ⟨g, off + j, none⟩ = some (.int .i64 (x : Int))) →
    Calls Yba.prog G (#[.slice (some ⟨g, off, none⟩) k cap] ++ caps) W fun e W' =>
      e = .returned (.bool (cont (X ++ [zs]))) ∧ ∃ R', U W' c (X ++ [zs]) R' ∧ (∀ j, R' j → R j ∨ W.heap.size ≤ j) ∧ Keeps R W W'

def Ended (n : Nat) (cont : List (List Nat) → Bool) (T : Ts) : Prop :=
  (T.fr = [] ∧ T.nx = n ∧ ∀ m, 1 ≤ m → m ≤ T.comps.length → cont (T.comps.take m) = true) ∨
  (T.comps ≠ [] ∧ cont T.comps = false ∧ ∀ m, 1 ≤ m → m < T.comps.length → cont (T.comps.take m) = true)

/-- The state of the walk, as it lies in memory. -/
structure Sr (w0 : World) (N n rb nb : Nat) (fE : Value) (U : UT) (R0 : Nat → Prop) (w : World) (idx low : Nat → Nat) (on : Nat → Bool) (S X : List Nat) (P : List Value) (np cnt nx : Nat) (c : Nat → Nat) (Y : List (List Nat)) (R : Nat → Prop) (gS gN gP : Option Nat) (vS vN vP : Value) : Prop where
  cf : CF w N n fE idx low on S X P np cnt gS gN gP vS vN vP
  u : U w c Y R
  ap : Apart N R gS gN gP
  rbx : Box w rb (.int .i64 (nx : Int))
  nbx : Box w nb (.int .i64 (n : Int))
  nR : ¬ R rb ∧ ¬ R nb
  lt : rb < N ∧ nb < N ∧ rb ≠ nb
  kp : Keeps (fun j => R0 j ∨ j = rb ∨ N ≤ j) w0 w
  sub : ∀ j, R j → R0 j ∨ N ≤ j
  n0 : w0.heap.size = N

section
variable {w0 : World} {N n rb nb : Nat} {fE : Value} {U : UT} {R0 : Nat → Prop} {w w' : World} {idx low idx' low' : Nat → Nat} {on on' : Nat → Bool} {S X S' X' : List Nat} {P P' : List Value} {np cnt np' cnt' nx : Nat} {c : Nat → Nat} {Y : List (List Nat)} {R : Nat → Prop} {gS gN gP gS' gN' gP' : Option Nat} {vS vN vP vS' vN' vP' : Value}

theorem Sr.own {Q : Nat → Prop} (h : Sr w0 N n rb nb fE U R0 w idx low on S X P np cnt nx c Y R gS gN gP vS vN vP) (hU : UKeep U) (hk : Keeps Q w w') (hq : ∀ j, Q j → Own N gS gN gP j)
    (hcf : CF w' N n fE idx' low' on' S' X' P' np' cnt' gS gN gP vS' vN' vP') : Sr w0 N n rb nb fE U R0 w' idx' low' on' S' X' P' np' cnt' nx c Y R gS gN gP vS' vN' vP' := by
  have hlt : ∀ j, Q j → N ≤ j := fun j hj => (h.cf.ownLt (hq j hj)).1
  refine ⟨hcf, hU _ _ _ _ _ _ h.u hk (fun j hR hj => h.ap j hR (hq j hj)), h.ap, h.rbx.keep hk (fun hj => by have := hlt _ hj; have := h.lt; omega), h.nbx.keep hk (fun hj => by have := hlt _ hj; have := h.lt; omega), h.nR, h.lt, h.kp.trans' hk (fun j _ hj => .inr (.inr (hlt j hj))), h.sub, h.n0⟩

theorem Sr.setLow (h : Sr w0 N n rb nb fE U R0 w idx low on S X P np cnt nx c Y R gS gN gP vS vN vP) (hU : UKeep U) {v : Nat} (hv : v < n) (x : Nat) :
    Sr w0 N n rb nb fE U R0 (w.setCell ⟨N + 3, v, none⟩ (.int .i32 (x : Int))) idx (upd low v x) on S X P np cnt nx c Y R gS gN gP vS vN vP :=
  h.own hU (keeps_set w _ _) (fun j hj => .inl (by simp at hj; omega)) (h.cf.setLow hv x)
theorem Sr.setOn (h : Sr w0 N n rb nb fE U R0 w idx low on S X P np cnt nx c Y R gS gN gP vS vN vP) (hU : UKeep U) {v : Nat} (hv : v < n) (x : Bool) :
    Sr w0 N n rb nb fE U R0 (w.setCell ⟨N + 5, v, none⟩ (.bool x)) idx low (fun i => if i = v then x else on i) S X P np cnt nx c Y R gS gN gP vS vN vP :=
  h.own hU (keeps_set w _ _) (fun j hj => .inl (by simp at hj; omega)) (h.cf.setOn hv x)
theorem Sr.drew (h : Sr w0 N n rb nb fE U R0 w idx low on S X P np cnt nx c Y R gS gN gP vS vN vP) (hU : UKeep U) : Sr w0 N n rb nb fE U R0 w.drew idx low on S X P np cnt nx c Y R gS gN gP vS vN vP :=
  h.own hU ((Keeps.refl (fun _ => False) w).drew) (fun j hj => hj.elim) h.cf.drew
theorem Sr.drewN (h : Sr w0 N n rb nb fE U R0 w idx low on S X P np cnt nx c Y R gS gN gP vS vN vP) (hU : UKeep U) (q : Nat) : Sr w0 N n rb nb fE U R0 (w.drewN q) idx low on S X P np cnt nx c Y R gS gN gP vS vN vP :=
  h.own hU ((Keeps.refl (fun _ => False) w).drewN q) (fun j hj => hj.elim) (h.cf.drewN q)
theorem Sr.takeN {a : Option Addr} {q : Nat} (h : Sr w0 N n rb nb fE U R0 w idx low on S X P np cnt nx c Y R gS gN gP vS (.slice a X.length q) vP) (hU : UKeep U) {j : Nat} (hj : j ≤ X.length) :
    Sr w0 N n rb nb fE U R0 (w.setCell ⟨N + 8, 0, none⟩ (.slice a j q)) idx low on S (X.take j) P np cnt nx c Y R gS gN gP vS (.slice a j q) vP :=
  h.own hU (keeps_set w _ _) (fun j hj => .inl (by simp at hj; omega)) (h.cf.takeN hj)
theorem Sr.takeS {a : Option Addr} {q : Nat} (h : Sr w0 N n rb nb fE U R0 w idx low on S X P np cnt nx c Y R gS gN gP (.slice a S.length q) vN vP) (hU : UKeep U) {j : Nat} (hj : j ≤ S.length) :
    Sr w0 N n rb nb fE U R0 (w.setCell ⟨N + 7, 0, none⟩ (.slice a j q)) idx low on (S.take j) X P np cnt nx c Y R gS gN gP (.slice a j q) vN vP :=
  h.own hU (keeps_set w _ _) (fun j hj => .inl (by simp at hj; omega)) (h.cf.takeS hj)
theorem Sr.takeP {a : Option Addr} {q : Nat} (h : Sr w0 N n rb nb fE U R0 w idx low on S X P np cnt nx c Y R gS gN gP vS vN (.slice a np q)) (hU : UKeep U) {j : Nat} (hj : j ≤ np) :
    Sr w0 N n rb nb fE U R0 (w.setCell ⟨N + 9, 0, none⟩ (.slice a j q)) idx low on S X (P.take (j * 4)) j cnt nx c Y R gS gN gP vS vN (.slice a j q) :=
  h.own hU (keeps_set w _ _) (fun j hj => .inl (by simp at hj; omega)) (h.cf.takeP hj)
theorem Sr.setAt {adj : Nat → List Nat} {F : List Fr} {f : Fr} {g cap m : Nat} (hm : m = F.length) (h : Sr w0 N n rb nb fE U R0 w idx low on S X (frs adj 0 (F ++ [f])) (m + 1) cnt nx c Y R gS gN gP vS vN (.slice (some ⟨g, 0, none⟩) (m + 1) cap)) (hU : UKeep U) :
    Sr w0 N n rb nb fE U R0 (w.setCell ⟨g, m * 4 + 2, none⟩ (.int .i64 (((nxt adj F).length + f.at_ + 1 : Nat) : Int))) idx low on S X (frs adj 0 (F ++ [{ f with at_ := f.at_ + 1 }])) (m + 1) cnt nx c Y R gS gN gP vS vN (.slice (some ⟨g, 0, none⟩) (m + 1) cap) :=
  h.own hU (keeps_set w _ _) (fun j hj => .inr (.inr (.inr (by rw [← h.cf.pa.blk, hj]; rfl)))) (h.cf.setAt hm)

theorem Sr.root (h : Sr w0 N n rb nb fE U R0 w idx low on S X P np cnt nx c Y R gS gN gP vS vN vP) (hU : UKeep U) :
    Sr w0 N n rb nb fE U R0 (w.setCell ⟨rb, 0, none⟩ (.int .i64 ((nx : Int) + 1))) idx low on S X P np cnt (nx + 1) c Y R gS gN gP vS vN vP := by
  have hk := keeps_set w ⟨rb, 0, none⟩ (.int .i64 ((nx : Int) + 1))
  have hl := h.lt
  refine ⟨h.cf.keep hk (fun j ho hj => ?_), hU _ _ _ _ _ _ h.u hk (fun j hR hj => ?_), h.ap, ?_, h.nbx.keep hk (fun hj => hl.2.2 hj.symm), h.nR, h.lt, h.kp.trans' hk (fun j _ hj => .inr (.inl hj)), h.sub, h.n0⟩
  · have h1 := (h.cf.ownLt ho).1
    simp at hj; omega
  · simp at hj; subst hj; exact h.nR.1 hR
  · have := h.rbx.set (.int .i64 ((nx : Int) + 1))
    rw [show ((nx + 1 : Nat) : Int) = (nx : Int) + 1 from by omega]; exact this

theorem Sr.reach {v : Nat} (h : Sr w0 N n rb nb fE U R0 w idx low on S X P np cnt nx c Y R gS gN gP vS vN vP) (hu : U w' (upd c v (c v + 1)) Y R)
    (hcf : CF w' N n fE idx' low' on' S' X' P' np' cnt' gS' gN' gP' vS' vN' vP') (hap : Apart N R gS' gN' gP') (hk : Keeps (fun j => R j ∨ N ≤ j) w w') :
    Sr w0 N n rb nb fE U R0 w' idx' low' on' S' X' P' np' cnt' nx (upd c v (c v + 1)) Y R gS' gN' gP' vS' vN' vP' := by
  have hl := h.lt
  refine ⟨hcf, hu, hap, h.rbx.keep hk ?_, h.nbx.keep hk ?_, h.nR, h.lt, h.kp.trans' hk ?_, h.sub, h.n0⟩
  · rintro (hj | hj)
    · exact h.nR.1 hj
    · omega
  · rintro (hj | hj)
    · exact h.nR.2 hj
    · omega
  · rintro j _ (hj | hj)
    · rcases h.sub j hj with e | e
      · exact .inl e
      · exact .inr (.inr e)
    · exact .inr (.inr hj)

theorem Sr.found {Y' : List (List Nat)} {R' : Nat → Prop} (h : Sr w0 N n rb nb fE U R0 w idx low on S X P np cnt nx c Y R gS gN gP vS vN vP) (hu : U w' c Y' R') (hR : ∀ j, R' j → R j ∨ w.heap.size ≤ j) (hk : Keeps R w w') :
    Sr w0 N n rb nb fE U R0 w' idx low on S X P np cnt nx c Y' R' gS gN gP vS vN vP := by
  have hl := h.lt
  refine ⟨h.cf.keep hk (fun j ho hj => h.ap j hj ho), hu, ?_, h.rbx.keep hk h.nR.1, h.nbx.keep hk h.nR.2, ⟨?_, ?_⟩, h.lt, h.kp.trans' hk ?_, ?_, h.n0⟩
  · intro j hj ho
    rcases hR j hj with e | e
    · exact h.ap j e ho
    · have := (h.cf.ownLt ho).2; omega
  · intro hj
    rcases hR _ hj with e | e
    · exact h.nR.1 e
    · have := h.rbx.lt; omega
  · intro hj
    rcases hR _ hj with e | e
    · exact h.nR.2 e
    · have := h.nbx.lt; omega
  · intro j _ hj
    rcases h.sub j hj with e | e
    · exact .inl e
    · exact .inr (.inr e)
  · intro j hj
    rcases hR _ hj with e | e
    · exact h.sub j e
    · have := h.cf.base; exact .inr (by omega)
theorem Sr.congr {nx' : Nat} {c' : Nat → Nat} {Y' : List (List Nat)} (h : Sr w0 N n rb nb fE U R0 w idx low on S X P np cnt nx c Y R gS gN gP vS vN vP) (e1 : idx = idx') (e2 : low = low') (e3 : on = on') (e4 : S = S') (e5 : X = X') (e6 : P = P') (e7 : np = np') (e8 : cnt = cnt') (e9 : nx = nx') (e10 : c = c') (e11 : Y = Y') :
    Sr w0 N n rb nb fE U R0 w idx' low' on' S' X' P' np' cnt' nx' c' Y' R gS gN gP vS vN vP := by
  subst e1 e2 e3 e4 e5 e6 e7 e8 e9 e10 e11; exact h
end

abbrev St (w0 : World) (N n rb nb : Nat) (fE : Value) (adj : Nat → List Nat) (U : UT) (R0 : Nat → Prop) (w : World) (T : Ts) (R : Nat → Prop) (gS gN gP : Option Nat) (vS vN vP : Value) : Prop :=
  Sr w0 N n rb nb fE U R0 w T.idx T.low (fun i => decide (i ∈ stk T.fr)) (stk T.fr) (nxt adj T.fr) (frs adj 0 T.fr) T.fr.length T.cnt T.nx (asked T) T.comps R gS gN gP vS vN vP

/-- The walk stands at a state that it has come to; found has never said no. -/
def Ok (w0 : World) (N n rb nb : Nat) (fE : Value) (adj : Nat → List Nat) (U : UT) (R0 : Nat → Prop) (cont : List (List Nat) → Bool) (w : World) (T : Ts) (R : Nat → Prop) (gS gN gP : Option Nat) (vS vN vP : Value) : Prop :=
  St w0 N n rb nb fE adj U R0 w T R gS gN gP vS vN vP ∧ (∃ k, T = iterT adj n k) ∧ ∀ m, 1 ≤ m → m ≤ T.comps.length → cont (T.comps.take m) = true
noncomputable def outM (w0 : World) (N n rb nb : Nat) (fE : Value) (adj : Nat → List Nat) (U : UT) (R0 : Nat → Prop) (cont : List (List Nat) → Bool) (w : World) : Nat :=
  least (fun q => ∃ (T : Ts) (R : Nat → Prop) (gS gN gP : Option Nat) (vS vN vP : Value), T.fr = [] ∧ Ok w0 N n rb nb fE adj U R0 cont w T R gS gN gP vS vN vP ∧ n - T.nx = q)
noncomputable def inM (w0 : World) (N n rb nb : Nat) (fE : Value) (adj : Nat → List Nat) (U : UT) (R0 : Nat → Prop) (cont : List (List Nat) → Bool) (x : Nat) (w : World) : Nat :=
  least (fun q => ∃ (T : Ts) (R : Nat → Prop) (gS gN gP : Option Nat) (vS vN vP : Value), T.nx = x ∧ Ok w0 N n rb nb fE adj U R0 cont w T R gS gN gP vS vN vP ∧ meas adj n T = q)
section
variable {w0 : World} {N n rb nb : Nat} {fE : Value} {adj : Nat → List Nat} {U : UT} {R0 : Nat → Prop} {cont : List (List Nat) → Bool} {w : World}
theorem out_min (h : ∃ (T : Ts) (R : Nat → Prop) (gS gN gP : Option Nat) (vS vN vP : Value), T.fr = [] ∧ Hid (Ok w0 N n rb nb fE adj U R0 cont w T R gS gN gP vS vN vP)) :
    ∃ (T : Ts) (R : Nat → Prop) (gS gN gP : Option Nat) (vS vN vP : Value), T.fr = [] ∧ Hid (Ok w0 N n rb nb fE adj U R0 cont w T R gS gN gP vS vN vP) ∧ Hid (n - T.nx = outM w0 N n rb nb fE adj U R0 cont w) := by
  obtain ⟨T, R, a, b, c, d, e, f, h1, h2⟩ := h
  exact least_spec (p := fun q => ∃ (T : Ts) (R : Nat → Prop) (gS gN gP : Option Nat) (vS vN vP : Value), T.fr = [] ∧ Ok w0 N n rb nb fE adj U R0 cont w T R gS gN gP vS vN vP ∧ n - T.nx = q) ⟨T, R, a, b, c, d, e, f, h1, h2, rfl⟩
theorem out_le {T : Ts} {R : Nat → Prop} {gS gN gP : Option Nat} {vS vN vP : Value} (h1 : T.fr = []) (h2 : Ok w0 N n rb nb fE adj U R0 cont w T R gS gN gP vS vN vP) : outM w0 N n rb nb fE adj U R0 cont w ≤ n - T.nx :=
  least_le (p := fun q => ∃ (T : Ts) (R : Nat → Prop) (gS gN gP : Option Nat) (vS vN vP : Value), T.fr = [] ∧ Ok w0 N n rb nb fE adj U R0 cont w T R gS gN gP vS vN vP ∧ n - T.nx = q) ⟨T, R, _, _, _, _, _, _, h1, h2, rfl⟩
theorem in_min {x : Nat} (h : ∃ (T : Ts) (R : Nat → Prop) (gS gN gP : Option Nat) (vS vN vP : Value), Hid (T.nx = x) ∧ Hid (Ok w0 N n rb nb fE adj U R0 cont w T R gS gN gP vS vN vP)) :
    ∃ (T : Ts) (R : Nat → Prop) (gS gN gP : Option Nat) (vS vN vP : Value), Hid (T.nx = x) ∧ Hid (Ok w0 N n rb nb fE adj U R0 cont w T R gS gN gP vS vN vP) ∧ Hid (meas adj n T = inM w0 N n rb nb fE adj U R0 cont x w) := by
  obtain ⟨T, R, a, b, c, d, e, f, h1, h2⟩ := h
  exact least_spec (p := fun q => ∃ (T : Ts) (R : Nat → Prop) (gS gN gP : Option Nat) (vS vN vP : Value), T.nx = x ∧ Ok w0 N n rb nb fE adj U R0 cont w T R gS gN gP vS vN vP ∧ meas adj n T = q) ⟨T, R, a, b, c, d, e, f, h1, h2, rfl⟩
theorem in_le {x : Nat} {T : Ts} {R : Nat → Prop} {gS gN gP : Option Nat} {vS vN vP : Value} (h1 : T.nx = x) (h2 : Ok w0 N n rb nb fE adj U R0 cont w T R gS gN gP vS vN vP) : inM w0 N n rb nb fE adj U R0 cont x w ≤ meas adj n T :=
  least_le (p := fun q => ∃ (T : Ts) (R : Nat → Prop) (gS gN gP : Option Nat) (vS vN vP : Value), T.nx = x ∧ Ok w0 N n rb nb fE adj U R0 cont w T R gS gN gP vS vN vP ∧ meas adj n T = q) ⟨T, R, _, _, _, _, _, _, h1, h2, rfl⟩
end

/-- The twelve blocks that componentsFrom begins with. -/
def start (w : World) (N n : Nat) (fE : Value) : World :=
  ((((((((((((w.alloc (.cells #[fE] 44)).alloc (.cells (madeCells #[.int .i32 0] n) 21)).alloc (.cells #[.slice (some ⟨N + 1, 0, none⟩) n n] 50)).alloc (.cells (madeCells #[.int .i32 0] n) 21)).alloc
    (.cells #[.slice (some ⟨N + 3, 0, none⟩) n n] 50)).alloc (.cells (madeCells #[.bool false] n) 4)).alloc (.cells #[.slice (some ⟨N + 5, 0, none⟩) n n] 24)).alloc (.cells #[.slice none 0 0] 27)).alloc
    (.cells #[.slice none 0 0] 27)).alloc (.cells #[.slice none 0 0] 70)).alloc (.cells #[.int .i32 0] 21)).alloc (.cells #[.func (.func 30) #[] #[.pointer (some ⟨N + 8, 0, none⟩)]] 43))

theorem cf_start (w : World) (N n : Nat) (fE : Value) (adj : Nat → List Nat) (hN : w.heap.size = N) : CT (start w N n fE) N n fE adj T0 none none none (.slice none 0 0) (.slice none 0 0) (.slice none 0 0) := by
  unfold start
  obtain ⟨w1, h1⟩ : ∃ w1, w1 = w.alloc (.cells #[fE] 44) := ⟨_, rfl⟩
  rw [← h1]
  have b0 : Box w1 N fE := by rw [h1, ← hN]; exact box_new _ _ _
  have s1 : w1.heap.size = N + 1 := by rw [h1]; simp [hN]
  clear h1
  obtain ⟨w2, h2⟩ : ∃ w2, w2 = w1.alloc (.cells (madeCells #[.int .i32 0] n) 21) := ⟨_, rfl⟩
  rw [← h2]
  have b1 : Arr w2 (N + 1) n (fun _ => .int .i32 0) := by rw [h2, ← s1]; exact arr_made _ _ _ _
  have s2 : w2.heap.size = N + 2 := by rw [h2]; simp [s1]
  replace b0 : Box w2 N fE := by rw [h2]; exact b0.alloc _
  clear h2
  obtain ⟨w3, h3⟩ : ∃ w3, w3 = w2.alloc (.cells #[.slice (some ⟨N + 1, 0, none⟩) n n] 50) := ⟨_, rfl⟩
  rw [← h3]
  have b2 : Box w3 (N + 2) (.slice (some ⟨N + 1, 0, none⟩) n n) := by rw [h3, ← s2]; exact box_new _ _ _
  have s3 : w3.heap.size = N + 3 := by rw [h3]; simp [s2]
  replace b0 : Box w3 N fE := by rw [h3]; exact b0.alloc _
  replace b1 : Arr w3 (N + 1) n (fun _ => .int .i32 0) := by rw [h3]; exact b1.alloc _
  clear h3
  obtain ⟨w4, h4⟩ : ∃ w4, w4 = w3.alloc (.cells (madeCells #[.int .i32 0] n) 21) := ⟨_, rfl⟩
  rw [← h4]
  have b3 : Arr w4 (N + 3) n (fun _ => .int .i32 0) := by rw [h4, ← s3]; exact arr_made _ _ _ _
  have s4 : w4.heap.size = N + 4 := by rw [h4]; simp [s3]
  have k4 : Keeps (fun _ => False) w3 w4 := by rw [h4]; exact (Keeps.refl _ _).alloc _
  clear h4
  obtain ⟨w5, h5⟩ : ∃ w5, w5 = w4.alloc (.cells #[.slice (some ⟨N + 3, 0, none⟩) n n] 50) := ⟨_, rfl⟩
  rw [← h5]
  have b4 : Box w5 (N + 4) (.slice (some ⟨N + 3, 0, none⟩) n n) := by rw [h5, ← s4]; exact box_new _ _ _
  have s5 : w5.heap.size = N + 5 := by rw [h5]; simp [s4]
  have k5 : Keeps (fun _ => False) w4 w5 := by rw [h5]; exact (Keeps.refl _ _).alloc _
  clear h5
  obtain ⟨w6, h6⟩ : ∃ w6, w6 = w5.alloc (.cells (madeCells #[.bool false] n) 4) := ⟨_, rfl⟩
  rw [← h6]
  have b5 : Arr w6 (N + 5) n (fun _ => .bool false) := by rw [h6, ← s5]; exact arr_made _ _ _ _
  have s6 : w6.heap.size = N + 6 := by rw [h6]; simp [s5]
  have k6 : Keeps (fun _ => False) w5 w6 := by rw [h6]; exact (Keeps.refl _ _).alloc _
  clear h6
  obtain ⟨w7, h7⟩ : ∃ w7, w7 = w6.alloc (.cells #[.slice (some ⟨N + 5, 0, none⟩) n n] 24) := ⟨_, rfl⟩
  rw [← h7]
  have b6 : Box w7 (N + 6) (.slice (some ⟨N + 5, 0, none⟩) n n) := by rw [h7, ← s6]; exact box_new _ _ _
  have s7 : w7.heap.size = N + 7 := by rw [h7]; simp [s6]
  have k7 : Keeps (fun _ => False) w6 w7 := by rw [h7]; exact (Keeps.refl _ _).alloc _
  clear h7
  obtain ⟨w8, h8⟩ : ∃ w8, w8 = w7.alloc (.cells #[.slice none 0 0] 27) := ⟨_, rfl⟩
  rw [← h8]
  have b7 : Box w8 (N + 7) (.slice none 0 0) := by rw [h8, ← s7]; exact box_new _ _ _
  have s8 : w8.heap.size = N + 8 := by rw [h8]; simp [s7]
  have k8 : Keeps (fun _ => False) w7 w8 := by rw [h8]; exact (Keeps.refl _ _).alloc _
  clear h8
  obtain ⟨w9, h9⟩ : ∃ w9, w9 = w8.alloc (.cells #[.slice none 0 0] 27) := ⟨_, rfl⟩
  rw [← h9]
  have b8 : Box w9 (N + 8) (.slice none 0 0) := by rw [h9, ← s8]; exact box_new _ _ _
  have s9 : w9.heap.size = N + 9 := by rw [h9]; simp [s8]
  have k9 : Keeps (fun _ => False) w8 w9 := by rw [h9]; exact (Keeps.refl _ _).alloc _
  clear h9
  obtain ⟨w10, h10⟩ : ∃ w10, w10 = w9.alloc (.cells #[.slice none 0 0] 70) := ⟨_, rfl⟩
  rw [← h10]
  have b9 : Box w10 (N + 9) (.slice none 0 0) := by rw [h10, ← s9]; exact box_new _ _ _
  have s10 : w10.heap.size = N + 10 := by rw [h10]; simp [s9]
  have k10 : Keeps (fun _ => False) w9 w10 := by rw [h10]; exact (Keeps.refl _ _).alloc _
  clear h10
  obtain ⟨w11, h11⟩ : ∃ w11, w11 = w10.alloc (.cells #[.int .i32 0] 21) := ⟨_, rfl⟩
  rw [← h11]
  have b10 : Box w11 (N + 10) (.int .i32 0) := by rw [h11, ← s10]; exact box_new _ _ _
  have s11 : w11.heap.size = N + 11 := by rw [h11]; simp [s10]
  have k11 : Keeps (fun _ => False) w10 w11 := by rw [h11]; exact (Keeps.refl _ _).alloc _
  clear h11
  obtain ⟨w12, h12⟩ : ∃ w12, w12 = w11.alloc (.cells #[.func (.func 30) #[] #[.pointer (some ⟨N + 8, 0, none⟩)]] 43) := ⟨_, rfl⟩
  rw [← h12]
  have b11 : Box w12 (N + 11) (.func (.func 30) #[] #[.pointer (some ⟨N + 8, 0, none⟩)]) := by rw [h12, ← s11]; exact box_new _ _ _
  have s12 : w12.heap.size = N + 12 := by rw [h12]; simp [s11]
  have k12 : Keeps (fun _ => False) w11 w12 := by rw [h12]; exact (Keeps.refl _ _).alloc _
  clear h12
  have j11 := k11.trans k12
  have j10 := k10.trans j11
  have j9 := k9.trans j10
  have j8 := k8.trans j9
  have j7 := k7.trans j8
  have j6 := k6.trans j7
  have j5 := k5.trans j6
  have j4 := k4.trans j5
  have nf : ¬ False := fun h => h
  exact
    { ed := b0.keep j4 nf, ix := b2.keep j4 nf, ixA := (b1.keep j4 nf).congr (fun i _ => by simp [T0]), lo := b4.keep j6 nf, loA := (b3.keep j5 nf).congr (fun i _ => by simp [T0])
      onB := b6.keep j8 nf, onA := (b5.keep j7 nf).congr (fun i _ => by simp [T0, stk])
      st := ⟨b7.keep j9 nf, World.ownsRow_nil _ _ _ _, rfl⟩, nx := ⟨b8.keep j10 nf, World.ownsRow_nil _ _ _ _, rfl⟩, pa := ⟨b9.keep j11 nf, World.ownsRow_nil _ _ _ _, rfl⟩
      re := b10.keep k12 nf, fo := b11, dSN := by simp, dSP := by simp, dNP := by simp, base := by omega }

theorem keeps_start (w : World) (N n : Nat) (fE : Value) : Keeps (fun _ => False) w (start w N n fE) := by
  unfold start
  exact ((((((((((((Keeps.refl _ w).alloc _).alloc _).alloc _).alloc _).alloc _).alloc _).alloc _).alloc _).alloc _).alloc _).alloc _).alloc _
end Go.Proofs.Ybulkblzg
