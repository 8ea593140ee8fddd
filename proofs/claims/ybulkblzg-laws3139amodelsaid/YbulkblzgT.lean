namespace Go.Proofs.Ybulkblzg
set_option linter.unusedVariables false
set_option linter.unusedSimpArgs false

inductive Rch (adj : Nat → List Nat) : Nat → Nat → Prop
  | refl (a : Nat) : Rch adj a a
  | tail {a b c : Nat} : Rch adj a b → c ∈ adj b → Rch adj a c

theorem Rch.trans {adj : Nat → List Nat} {a b c : Nat} (h : Rch adj a b) (k : Rch adj b c) : Rch adj a c := by
  induction k with
  | refl => exact h
  | tail _ e ih => exact .tail ih e
theorem Rch.one {adj : Nat → List Nat} {a b : Nat} (h : b ∈ adj a) : Rch adj a b := .tail (.refl a) h

structure Fr where
  v : Nat
  mem : List Nat
  at_ : Nat

structure Ts where
  idx : Nat → Nat
  low : Nat → Nat
  fr : List Fr
  comps : List (List Nat)
  cnt : Nat
  nx : Nat

def upd (f : Nat → Nat) (k x : Nat) : Nat → Nat := fun j => if j = k then x else f j
theorem upd_same (f : Nat → Nat) (k x : Nat) : upd f k x k = x := by simp [upd]
theorem upd_other (f : Nat → Nat) (k x j : Nat) (h : j ≠ k) : upd f k x j = f j := by simp [upd, h]

def stk : List Fr → List Nat
  | [] => []
  | f :: fs => f.mem ++ stk fs
theorem stk_append (a b : List Fr) : stk (a ++ b) = stk a ++ stk b := by
  induction a with
  | nil => rfl
  | cons f fs ih => simp [stk, ih]
theorem stk_one (f : Fr) : stk [f] = f.mem := by simp [stk]
theorem mem_stk {fr : List Fr} {x : Nat} : x ∈ stk fr ↔ ∃ f ∈ fr, x ∈ f.mem := by
  induction fr with
  | nil => simp [stk]
  | cons f fs ih => simp [stk, ih]

def reachT (T : Ts) (v : Nat) : Ts :=
  { T with cnt := T.cnt + 1, idx := upd T.idx v (T.cnt + 1), low := upd T.low v (T.cnt + 1), fr := T.fr ++ [⟨v, [v], 0⟩] }

def merge : List Fr → List Nat → List Fr
  | [], _ => []
  | [p], m => [{ p with mem := p.mem ++ m }]
  | p :: q :: r, m => p :: merge (q :: r) m
theorem merge_last (G : List Fr) (p : Fr) (m : List Nat) : merge (G ++ [p]) m = G ++ [{ p with mem := p.mem ++ m }] := by
  induction G with
  | nil => rfl
  | cons a b ih =>
    cases b with
    | nil => simp [merge]
    | cons c d => simpa [merge] using ih

def lowP (T : Ts) (F : List Fr) (v : Nat) : Nat → Nat :=
  match F.getLast? with
  | none => T.low
  | some p => upd T.low p.v (min (T.low p.v) (T.low v))

def popT (T : Ts) (F : List Fr) (f : Fr) : Ts :=
  if lowP T F f.v f.v = T.idx f.v then { T with low := lowP T F f.v, fr := F, comps := T.comps ++ [f.mem] }
  else { T with low := lowP T F f.v, fr := merge F f.mem }

def edgeT (T : Ts) (F : List Fr) (f : Fr) (w : Nat) : Ts :=
  if T.idx w = 0 then reachT { T with fr := F ++ [{ f with at_ := f.at_ + 1 }] } w
  else if w ∈ stk T.fr then { T with fr := F ++ [{ f with at_ := f.at_ + 1 }], low := upd T.low f.v (min (T.low f.v) (T.idx w)) }
  else { T with fr := F ++ [{ f with at_ := f.at_ + 1 }] }

def rootT (n : Nat) (T : Ts) : Ts :=
  if T.nx < n then
    if T.idx T.nx = 0 then reachT { T with nx := T.nx + 1 } T.nx else { T with nx := T.nx + 1 }
  else T

def stepT (adj : Nat → List Nat) (n : Nat) (T : Ts) : Ts :=
  match T.fr.getLast? with
  | none => rootT n T
  | some f =>
    match (adj f.v)[f.at_]? with
    | some w => edgeT T T.fr.dropLast f w
    | none => popT T T.fr.dropLast f

theorem stepT_nil {adj : Nat → List Nat} {n : Nat} {T : Ts} (h : T.fr = []) : stepT adj n T = rootT n T := by
  simp [stepT, h]
theorem stepT_edge {adj : Nat → List Nat} {n : Nat} {T : Ts} {F : List Fr} {f : Fr} {w : Nat} (h : T.fr = F ++ [f]) (hw : (adj f.v)[f.at_]? = some w) : stepT adj n T = edgeT T F f w := by
  simp [stepT, h, hw]
theorem stepT_pop {adj : Nat → List Nat} {n : Nat} {T : Ts} {F : List Fr} {f : Fr} (h : T.fr = F ++ [f]) (hw : (adj f.v).length ≤ f.at_) : stepT adj n T = popT T F f := by
  simp [stepT, h, hw]

def T0 : Ts := ⟨fun _ => 0, fun _ => 0, [], [], 0, 0⟩
def iterT (adj : Nat → List Nat) (n : Nat) : Nat → Ts
  | 0 => T0
  | k + 1 => stepT adj n (iterT adj n k)

structure TInv (adj : Nat → List Nat) (n : Nat) (T : Ts) : Prop where
  rng : ∀ w, T.idx w ≠ 0 → w < n
  nd : (stk T.fr ++ T.comps.flatten).Nodup
  dom : ∀ w, T.idx w ≠ 0 ↔ w ∈ stk T.fr ∨ w ∈ T.comps.flatten
  inc : (stk T.fr).Pairwise (fun a b => T.idx a < T.idx b)
  cnt : ∀ w, T.idx w ≤ T.cnt
  tot : T.cnt = (stk T.fr ++ T.comps.flatten).length
  hd : ∀ f ∈ T.fr, ∃ m, f.mem = f.v :: m
  le : ∀ f ∈ T.fr, f.at_ ≤ (adj f.v).length
  exO : ∀ f ∈ T.fr, ∀ u ∈ f.mem, u ≠ f.v → ∀ w ∈ adj u, T.idx w ≠ 0 ∧ (w ∈ stk T.fr → T.low f.v ≤ T.idx w)
  exV : ∀ f ∈ T.fr, ∀ w ∈ (adj f.v).take f.at_, T.idx w ≠ 0 ∧ (w ∈ stk T.fr → T.low f.v ≤ T.idx w)
  lowle : ∀ f ∈ T.fr, T.low f.v ≤ T.idx f.v
  wit : ∀ f ∈ T.fr, ∃ x ∈ stk T.fr, T.idx x = T.low f.v ∧ Rch adj f.v x
  mu : ∀ f ∈ T.fr, ∀ u ∈ f.mem, Rch adj f.v u ∧ Rch adj u f.v
  chain : T.fr.Pairwise (fun a b => Rch adj a.v b.v)
  good : ∀ c ∈ T.comps, c ≠ [] ∧ ∀ a ∈ c, ∀ b ∈ c, Rch adj a b
  ord : ∀ (i : Nat) c, T.comps[i]? = some c → ∀ u ∈ c, ∀ w ∈ adj u, ∃ (j : Nat) (d : List Nat), j ≤ i ∧ T.comps[j]? = some d ∧ w ∈ d
  nxl : T.nx ≤ n
  nxd : ∀ v, v < T.nx → T.idx v ≠ 0

theorem inv0 (adj : Nat → List Nat) (n : Nat) : TInv adj n T0 := by
  constructor <;> simp [T0, stk]

theorem TInv.vmem {adj : Nat → List Nat} {n : Nat} {T : Ts} (h : TInv adj n T) {f : Fr} (hf : f ∈ T.fr) : f.v ∈ stk T.fr := by
  obtain ⟨m, hm⟩ := h.hd f hf
  exact mem_stk.2 ⟨f, hf, by simp [hm]⟩

/-- A vertex is reached, either from a new root or along an edge; what is reached is not on the stack. -/
theorem inv_reach {adj : Nat → List Nat} {n : Nat} {T : Ts} (h : TInv adj n T) {w : Nat} (hw : w < n) (h0 : T.idx w = 0)
    (hr : ∀ f ∈ T.fr, Rch adj f.v w) : TInv adj n (reachT T w) := by
  have hns : w ∉ stk T.fr := fun hm => (h.dom w).2 (.inl hm) h0
  have hnc : w ∉ T.comps.flatten := fun hm => (h.dom w).2 (.inr hm) h0
  have hoth : ∀ x, x ∈ stk T.fr → upd T.idx w (T.cnt + 1) x = T.idx x := fun x hx => upd_other _ _ _ _ (fun e => hns (e ▸ hx))
  have hlo : ∀ f ∈ T.fr, upd T.low w (T.cnt + 1) f.v = T.low f.v := fun f hf => upd_other _ _ _ _ (fun e => hns (e ▸ h.vmem hf))
  have hne : ∀ x, T.idx x ≠ 0 → upd T.idx w (T.cnt + 1) x = T.idx x := fun x hx => upd_other _ _ _ _ (fun e => hx (e ▸ h0))
  have hstk : stk (T.fr ++ [⟨w, [w], 0⟩]) = stk T.fr ++ [w] := by rw [stk_append, stk_one]
  have hcn := h.cnt
  -- what is known of an explored edge stays
  have hex : ∀ f ∈ T.fr, ∀ y, T.idx y ≠ 0 ∧ (y ∈ stk T.fr → T.low f.v ≤ T.idx y) →
      upd T.idx w (T.cnt + 1) y ≠ 0 ∧ (y ∈ stk T.fr ++ [w] → upd T.low w (T.cnt + 1) f.v ≤ upd T.idx w (T.cnt + 1) y) := by
    rintro f hf y ⟨h1, h2⟩
    rw [hne y h1, hlo f hf]
    refine ⟨h1, fun hy => ?_⟩
    rcases List.mem_append.1 hy with hy | hy
    · exact h2 hy
    · exact absurd (by simpa using hy : y = w) (fun e => h1 (e ▸ h0))
  constructor <;> simp only [reachT, hstk]
  · intro x hx
    by_cases e : x = w
    · exact e ▸ hw
    · rw [upd_other _ _ _ _ e] at hx; exact h.rng x hx
  · have := h.nd
    rw [List.append_assoc, List.nodup_append] 
    rw [List.nodup_append] at this
    obtain ⟨n1, n2, n3⟩ := this
    refine ⟨n1, ?_, ?_⟩
    · simp [n2]; simpa using hnc
    · intro a ha b hb
      rcases List.mem_append.1 hb with hb | hb
      · intro e; exact hns (by simp at hb; rw [← hb, ← e]; exact ha)
      · exact n3 a ha b hb
  · intro x
    by_cases e : x = w
    · subst e; simp [upd_same]
    · rw [upd_other _ _ _ _ e, h.dom x]; simp [e]
  · rw [List.pairwise_append]
    refine ⟨h.inc.imp_of_mem (fun ha hb hlt => by rw [hoth _ ha, hoth _ hb]; exact hlt), by simp, ?_⟩
    intro a ha b hb
    obtain rfl : b = w := by simpa using hb
    rw [hoth _ ha, upd_same]
    have := hcn a; omega
  · intro x
    by_cases e : x = w
    · subst e; rw [upd_same]; omega
    · rw [upd_other _ _ _ _ e]; have := hcn x; omega
  · have := h.tot
    simp at this ⊢; omega
  · intro f hf
    rcases List.mem_append.1 hf with hf | hf
    · exact h.hd f hf
    · obtain rfl : f = ⟨w, [w], 0⟩ := by simpa using hf
      exact ⟨[], rfl⟩
  · intro f hf
    rcases List.mem_append.1 hf with hf | hf
    · exact h.le f hf
    · obtain rfl : f = ⟨w, [w], 0⟩ := by simpa using hf
      simp
  · intro f hf u hu hne' y hy
    rcases List.mem_append.1 hf with hf | hf
    · exact hex f hf y (h.exO f hf u hu hne' y hy)
    · obtain rfl : f = ⟨w, [w], 0⟩ := by simpa using hf
      simp at hu hne'; exact absurd hu hne'
  · intro f hf y hy
    rcases List.mem_append.1 hf with hf | hf
    · exact hex f hf y (h.exV f hf y hy)
    · obtain rfl : f = ⟨w, [w], 0⟩ := by simpa using hf
      simp at hy
  · intro f hf
    rcases List.mem_append.1 hf with hf | hf
    · rw [hlo f hf, hoth _ (h.vmem hf)]; exact h.lowle f hf
    · obtain rfl : f = ⟨w, [w], 0⟩ := by simpa using hf
      simp [upd_same]
  · intro f hf
    rcases List.mem_append.1 hf with hf | hf
    · obtain ⟨x, hx, e, r⟩ := h.wit f hf
      exact ⟨x, by simp [hx], by rw [hlo f hf, hoth _ hx]; exact e, r⟩
    · obtain rfl : f = ⟨w, [w], 0⟩ := by simpa using hf
      exact ⟨w, by simp, by simp [upd_same], .refl _⟩
  · intro f hf u hu
    rcases List.mem_append.1 hf with hf | hf
    · exact h.mu f hf u hu
    · obtain rfl : f = ⟨w, [w], 0⟩ := by simpa using hf
      obtain rfl : u = w := by simpa using hu
      exact ⟨.refl _, .refl _⟩
  · rw [List.pairwise_append]
    refine ⟨h.chain, by simp, ?_⟩
    intro a ha b hb
    obtain rfl : b = ⟨w, [w], 0⟩ := by simpa using hb
    exact hr a ha
  · exact h.good
  · exact h.ord
  · exact h.nxl
  · intro x hx
    rw [hne x (h.nxd x hx)]; exact h.nxd x hx

theorem stk_adv (F : List Fr) (f : Fr) (G : List Fr) (k : Nat) : stk (F ++ { f with at_ := k } :: G) = stk (F ++ f :: G) := by
  simp [stk_append, stk]

theorem inv_adv {adj : Nat → List Nat} {n : Nat} {T : Ts} (h : TInv adj n T) {F G : List Fr} {f : Fr} {w : Nat} (hfr : T.fr = F ++ f :: G)
    (hw : (adj f.v)[f.at_]? = some w) (h0 : T.idx w ≠ 0) (hl : w ∈ stk T.fr → T.low f.v ≤ T.idx w) :
    TInv adj n { T with fr := F ++ { f with at_ := f.at_ + 1 } :: G } := by
  have hlt : f.at_ < (adj f.v).length := by
    rcases Nat.lt_or_ge f.at_ (adj f.v).length with h | h
    · exact h
    · rw [List.getElem?_eq_none h] at hw; cases hw
  have hstk := stk_adv F f G (f.at_ + 1)
  have hfm : f ∈ T.fr := by rw [hfr]; simp
  -- a frame of the new path is one of the old, but for its count
  have hm : ∀ g, g ∈ F ++ { f with at_ := f.at_ + 1 } :: G → ∃ g0 ∈ T.fr, g.v = g0.v ∧ g.mem = g0.mem := by
    intro g hg
    rw [hfr]
    rcases List.mem_append.1 hg with hg | hg
    · exact ⟨g, by simp [hg], rfl, rfl⟩
    · rcases List.mem_cons.1 hg with rfl | hg
      · exact ⟨f, by simp, rfl, rfl⟩
      · exact ⟨g, by simp [hg], rfl, rfl⟩
  constructor <;> simp only [hstk, ← hfr]
  · exact h.rng
  · exact h.nd
  · exact h.dom
  · exact h.inc
  · exact h.cnt
  · exact h.tot
  · intro g hg
    obtain ⟨g0, h1, h2, h3⟩ := hm g hg
    rw [h2, h3]; exact h.hd g0 h1
  · intro g hg
    rcases List.mem_append.1 hg with hg | hg
    · exact h.le g (by rw [hfr]; simp [hg])
    · rcases List.mem_cons.1 hg with rfl | hg
      · exact hlt
      · exact h.le g (by rw [hfr]; simp [hg])
  · intro g hg
    obtain ⟨g0, h1, h2, h3⟩ := hm g hg
    rw [h2, h3]; exact h.exO g0 h1
  · intro g hg
    rcases List.mem_append.1 hg with hg | hg
    · exact h.exV g (by rw [hfr]; simp [hg])
    · rcases List.mem_cons.1 hg with rfl | hg
      · intro y hy
        simp only [List.take_add_one, hw, Option.toList_some] at hy
        rcases List.mem_append.1 hy with hy | hy
        · exact h.exV f hfm y hy
        · obtain rfl : y = w := by simpa using hy
          exact ⟨h0, hl⟩
      · exact h.exV g (by rw [hfr]; simp [hg])
  · intro g hg
    obtain ⟨g0, h1, h2, h3⟩ := hm g hg
    rw [h2]; exact h.lowle g0 h1
  · intro g hg
    obtain ⟨g0, h1, h2, h3⟩ := hm g hg
    rw [h2]; exact h.wit g0 h1
  · intro g hg
    obtain ⟨g0, h1, h2, h3⟩ := hm g hg
    rw [h2, h3]; exact h.mu g0 h1
  · have := h.chain
    rw [hfr] at this
    rw [List.pairwise_append, List.pairwise_cons] at this ⊢
    obtain ⟨a, ⟨b, c⟩, d⟩ := this
    refine ⟨a, ⟨b, c⟩, fun x hx y hy => ?_⟩
    rcases List.mem_cons.1 hy with rfl | hy
    · exact d x hx f (by simp)
    · exact d x hx y (by simp [hy])
  · exact h.good
  · exact h.ord
  · exact h.nxl
  · exact h.nxd

theorem inv_low {adj : Nat → List Nat} {n : Nat} {T : Ts} (h : TInv adj n T) {v w x : Nat} (hw : w ∈ stk T.fr) (hx : x = T.idx w) (hr : Rch adj v w) :
    TInv adj n { T with low := upd T.low v (min (T.low v) x) } := by
  subst hx
  have hle : ∀ u, upd T.low v (min (T.low v) (T.idx w)) u ≤ T.low u := by
    intro u
    by_cases e : u = v
    · subst e; rw [upd_same]; exact Nat.min_le_left _ _
    · rw [upd_other _ _ _ _ e]; exact Nat.le_refl _
  constructor <;> simp only
  · exact h.rng
  · exact h.nd
  · exact h.dom
  · exact h.inc
  · exact h.cnt
  · exact h.tot
  · exact h.hd
  · exact h.le
  · exact fun f hf u hu hn y hy => ⟨(h.exO f hf u hu hn y hy).1, fun hs => Nat.le_trans (hle _) ((h.exO f hf u hu hn y hy).2 hs)⟩
  · exact fun f hf y hy => ⟨(h.exV f hf y hy).1, fun hs => Nat.le_trans (hle _) ((h.exV f hf y hy).2 hs)⟩
  · exact fun f hf => Nat.le_trans (hle _) (h.lowle f hf)
  · intro f hf
    by_cases e : f.v = v
    · rw [e, upd_same]
      rcases Nat.le_total (T.low v) (T.idx w) with hh | hh
      · rw [Nat.min_eq_left hh, ← e]; exact h.wit f hf
      · rw [Nat.min_eq_right hh]; exact ⟨w, hw, rfl, hr⟩
    · rw [upd_other _ _ _ _ e]; exact h.wit f hf
  · exact h.mu
  · exact h.chain
  · exact h.good
  · exact h.ord
  · exact h.nxl
  · exact h.nxd

theorem inv_edge {adj : Nat → List Nat} {n : Nat} (hadj : ∀ v, v < n → ∀ w ∈ adj v, w < n) {T : Ts} (h : TInv adj n T) {F : List Fr} {f : Fr} {w : Nat} (hfr : T.fr = F ++ [f]) (hw : (adj f.v)[f.at_]? = some w) :
    TInv adj n (edgeT T F f w) := by
  have hwm : w ∈ adj f.v := List.mem_of_getElem? hw
  have hfm : f ∈ T.fr := by rw [hfr]; simp
  have hvn : f.v < n := h.rng _ ((h.dom _).2 (.inl (h.vmem hfm)))
  have hch : ∀ g ∈ T.fr, Rch adj g.v f.v := by
    intro g hg
    have := h.chain
    rw [hfr, List.pairwise_append] at this
    rw [hfr] at hg
    rcases List.mem_append.1 hg with hg | hg
    · exact this.2.2 g hg f (by simp)
    · obtain rfl : g = f := by simpa using hg
      exact .refl _
  unfold edgeT
  by_cases h0 : T.idx w = 0
  · rw [if_pos h0]
    have h1 := inv_reach h (hadj _ hvn _ hwm) h0 (fun g hg => .tail (hch g hg) hwm)
    have h2 : (reachT T w).fr = F ++ f :: [⟨w, [w], 0⟩] := by simp [reachT, hfr]
    have hne : f.v ≠ w := fun e => (h.dom f.v).2 (.inl (h.vmem hfm)) (e ▸ h0)
    have h3 := inv_adv h1 h2 hw (by simp [reachT, upd_same]) (fun _ => by
      simp only [reachT, upd_same]
      rw [upd_other _ _ _ _ hne]
      have := h.lowle f hfm; have := h.cnt f.v; omega)
    simpa [reachT] using h3
  · rw [if_neg h0]
    by_cases hs : w ∈ stk T.fr
    · rw [if_pos hs]
      have h1 := inv_low h hs rfl (Rch.one hwm)
      have h3 := inv_adv h1 (F := F) (G := []) (f := f) (w := w) (by simp [hfr]) hw (by simpa using h0) (fun _ => by
        simp only [upd_same]; exact Nat.min_le_right _ _)
      simpa using h3
    · rw [if_neg hs]
      exact inv_adv h (F := F) (G := []) hfr hw h0 (fun hh => absurd hh hs)

theorem lowP_self (T : Ts) (F : List Fr) (v : Nat) : lowP T F v v = T.low v := by
  unfold lowP
  cases F.getLast? with
  | none => rfl
  | some p =>
    by_cases e : v = p.v
    · simp only [← e, upd_same]; simp
    · simp only [upd_other _ _ _ _ e]

theorem inv_pop {adj : Nat → List Nat} {n : Nat} {T : Ts} (h : TInv adj n T) {F : List Fr} {f : Fr} (hfr : T.fr = F ++ [f]) (hw : (adj f.v).length ≤ f.at_) :
    TInv adj n (popT T F f) := by
  have hfm : f ∈ T.fr := by rw [hfr]; simp
  have hFm : ∀ g ∈ F, g ∈ T.fr := fun g hg => by rw [hfr]; simp [hg]
  have htk : (adj f.v).take f.at_ = adj f.v := List.take_of_length_le hw
  have hstk : stk T.fr = stk F ++ f.mem := by rw [hfr, stk_append, stk_one]
  have hex : ∀ u ∈ f.mem, ∀ w ∈ adj u, T.idx w ≠ 0 ∧ (w ∈ stk T.fr → T.low f.v ≤ T.idx w) := by
    intro u hu w hw'
    by_cases e : u = f.v
    · subst e; exact h.exV f hfm w (by rw [htk]; exact hw')
    · exact h.exO f hfm u hu e w hw'
  obtain ⟨m, hm⟩ := h.hd f hfm
  have hinc := h.inc
  rw [hstk, List.pairwise_append] at hinc
  have hbel : ∀ x ∈ stk F, T.idx x < T.idx f.v := fun x hx => hinc.2.2 x hx f.v (by simp [hm])
  have habv : ∀ x ∈ f.mem, T.idx f.v ≤ T.idx x := by
    intro x hx
    have := hinc.2.1
    rw [hm] at hx this
    rw [List.pairwise_cons] at this
    rcases List.mem_cons.1 hx with rfl | hx
    · exact Nat.le_refl _
    · exact Nat.le_of_lt (this.1 x hx)
  have hch := h.chain
  rw [hfr, List.pairwise_append] at hch
  have hnd := h.nd
  rw [hstk, List.append_assoc] at hnd
  unfold popT
  rw [lowP_self]
  by_cases hroot : T.low f.v = T.idx f.v
  · rw [if_pos hroot]
    have hlow : lowP T F f.v = T.low := by
      unfold lowP
      split
      · rfl
      · rename_i p hp
        have hpF : p ∈ F := List.mem_of_getLast? hp
        have h1 := h.lowle p (hFm p hpF)
        have h2 := hbel p.v (by obtain ⟨m', hm'⟩ := h.hd p (hFm p hpF); exact mem_stk.2 ⟨p, hpF, by simp [hm']⟩)
        rw [Nat.min_eq_left (by omega)]
        funext x
        by_cases e : x = p.v
        · subst e; rw [upd_same]
        · rw [upd_other _ _ _ _ e]
    rw [hlow]
    have hsub : ∀ x, x ∈ stk F → x ∈ stk T.fr := fun x hx => by rw [hstk]; simp [hx]
    have hfl : (T.comps ++ [f.mem]).flatten = T.comps.flatten ++ f.mem := by simp
    constructor <;> simp only [hfl]
    · exact h.rng
    · rw [List.nodup_append] at hnd ⊢
      obtain ⟨a, b, c⟩ := hnd
      refine ⟨a, ?_, fun x hx y hy => c x hx y ?_⟩
      · rw [List.nodup_append] at b ⊢
        exact ⟨b.2.1, b.1, fun x hx y hy => (b.2.2 y hy x hx).symm⟩
      · rcases List.mem_append.1 hy with hy | hy <;> simp [hy]
    · intro x
      rw [h.dom x, hstk]
      simp only [List.mem_append]
      constructor
      · rintro ((h | h) | h) <;> simp [h]
      · rintro (h | h | h) <;> simp [h]
    · exact hinc.1
    · exact h.cnt
    · have := h.tot
      rw [hstk] at this
      simp at this ⊢; omega
    · exact fun g hg => h.hd g (hFm g hg)
    · exact fun g hg => h.le g (hFm g hg)
    · exact fun g hg u hu hn y hy => ⟨(h.exO g (hFm g hg) u hu hn y hy).1, fun hs => (h.exO g (hFm g hg) u hu hn y hy).2 (hsub _ hs)⟩
    · exact fun g hg y hy => ⟨(h.exV g (hFm g hg) y hy).1, fun hs => (h.exV g (hFm g hg) y hy).2 (hsub _ hs)⟩
    · exact fun g hg => h.lowle g (hFm g hg)
    · intro g hg
      obtain ⟨x, hx, e, r⟩ := h.wit g (hFm g hg)
      refine ⟨x, ?_, e, r⟩
      rw [hstk] at hx
      rcases List.mem_append.1 hx with hx | hx
      · exact hx
      · have h1 := habv x hx
        have h2 := h.lowle g (hFm g hg)
        have h3 := hbel g.v (by obtain ⟨m', hm'⟩ := h.hd g (hFm g hg); exact mem_stk.2 ⟨g, hg, by simp [hm']⟩)
        omega
    · exact fun g hg => h.mu g (hFm g hg)
    · exact hch.1
    · intro c hc
      rcases List.mem_append.1 hc with hc | hc
      · exact h.good c hc
      · obtain rfl : c = f.mem := by simpa using hc
        refine ⟨by simp [hm], fun a ha b hb => ((h.mu f hfm a ha).2).trans (h.mu f hfm b hb).1⟩
    · intro i c hic u hu w hw'
      rcases Nat.lt_or_ge i T.comps.length with hi | hi
      · rw [List.getElem?_append_left hi] at hic
        obtain ⟨j, d, hj, hd, hwd⟩ := h.ord i c hic u hu w hw'
        exact ⟨j, d, hj, by rw [List.getElem?_append_left (by omega)]; exact hd, hwd⟩
      · rw [List.getElem?_append_right hi] at hic
        have hi0 : i - T.comps.length = 0 := by
          rcases Nat.eq_zero_or_pos (i - T.comps.length) with e | e
          · exact e
          · rw [List.getElem?_eq_none (by simp; omega)] at hic; cases hic
        rw [hi0] at hic
        obtain rfl : f.mem = c := by simpa using hic
        obtain ⟨h1, h2⟩ := hex u hu w hw'
        rcases (h.dom w).1 h1 with hs | hs
        · have h3 := h2 hs
          rw [hstk] at hs
          rcases List.mem_append.1 hs with hs | hs
          · have := hbel w hs; omega
          · exact ⟨T.comps.length, f.mem, hi, by simp, hs⟩
        · obtain ⟨d, hd, hwd⟩ := List.mem_flatten.1 hs
          obtain ⟨j, hj, e⟩ := List.getElem_of_mem hd
          exact ⟨j, d, by omega, by rw [List.getElem?_append_left hj, List.getElem?_eq_getElem hj, e], hwd⟩
    · exact h.nxl
    · exact h.nxd
  · rw [if_neg hroot]
    have hlt : T.low f.v < T.idx f.v := Nat.lt_of_le_of_ne (h.lowle f hfm) hroot
    obtain ⟨x, hx, hxe, hxr⟩ := h.wit f hfm
    have hxF : x ∈ stk F := by
      rw [hstk] at hx
      rcases List.mem_append.1 hx with hx | hx
      · exact hx
      · have := habv x hx; omega
    obtain ⟨q, hqF, hxq⟩ := mem_stk.1 hxF
    have hFne : F ≠ [] := by rintro rfl; cases hqF
    obtain ⟨G, p, hGp⟩ : ∃ G p, F = G ++ [p] := ⟨F.dropLast, F.getLast hFne, (List.dropLast_concat_getLast hFne).symm⟩
    have hpF : p ∈ F := by rw [hGp]; simp
    have hlow : lowP T F f.v = upd T.low p.v (min (T.low p.v) (T.low f.v)) := by
      simp [lowP, hGp]
    -- x leads back to p
    have hqp : Rch adj q.v p.v := by
      have := hch.1
      rw [hGp, List.pairwise_append] at this
      rw [hGp] at hqF
      rcases List.mem_append.1 hqF with hq | hq
      · exact this.2.2 q hq p (by simp)
      · obtain rfl : q = p := by simpa using hq
        exact .refl _
    have hxp : Rch adj x p.v := ((h.mu q (hFm q hqF) x hxq).2).trans hqp
    have hpf : Rch adj p.v f.v := hch.2.2 p hpF f (by simp)
    have hfp : Rch adj f.v p.v := hxr.trans hxp
    have h1 := inv_low h (v := p.v) (w := x) (x := T.low f.v) (by rw [hstk]; simp [hxF]) hxe.symm (hpf.trans hxr)
    rw [hlow, hGp, merge_last]
    rw [hGp] at hfr hFm hstk
    have hpv : ∀ g ∈ G, g ∈ T.fr := fun g hg => by rw [hfr]; simp [hg]
    have hpT : p ∈ T.fr := hFm p (by simp)
    have hs2 : stk (G ++ [{ p with mem := p.mem ++ f.mem }]) = stk T.fr := by rw [hfr]; simp [stk_append, stk]
    have hup : upd T.low p.v (min (T.low p.v) (T.low f.v)) p.v ≤ T.low f.v := by rw [upd_same]; exact Nat.min_le_right _ _
    constructor <;> simp only [hs2]
    · exact h1.rng
    · exact h1.nd
    · exact h1.dom
    · exact h1.inc
    · exact h1.cnt
    · exact h1.tot
    · intro g hg
      rcases List.mem_append.1 hg with hg | hg
      · exact h1.hd g (hpv g hg)
      · obtain rfl : g = _ := by simpa using hg
        obtain ⟨m', hm'⟩ := h.hd p hpT
        exact ⟨m' ++ f.mem, by simp [hm']⟩
    · intro g hg
      rcases List.mem_append.1 hg with hg | hg
      · exact h1.le g (hpv g hg)
      · obtain rfl : g = _ := by simpa using hg
        exact h1.le p hpT
    · intro g hg u hu hn y hy
      rcases List.mem_append.1 hg with hg | hg
      · exact h1.exO g (hpv g hg) u hu hn y hy
      · obtain rfl : g = _ := by simpa using hg
        rcases List.mem_append.1 hu with hu | hu
        · exact h1.exO p hpT u hu hn y hy
        · exact ⟨(hex u hu y hy).1, fun hs => Nat.le_trans hup ((hex u hu y hy).2 hs)⟩
    · intro g hg y hy
      rcases List.mem_append.1 hg with hg | hg
      · exact h1.exV g (hpv g hg) y hy
      · obtain rfl : g = _ := by simpa using hg
        exact h1.exV p hpT y hy
    · intro g hg
      rcases List.mem_append.1 hg with hg | hg
      · exact h1.lowle g (hpv g hg)
      · obtain rfl : g = _ := by simpa using hg
        exact h1.lowle p hpT
    · intro g hg
      rcases List.mem_append.1 hg with hg | hg
      · exact h1.wit g (hpv g hg)
      · obtain rfl : g = _ := by simpa using hg
        exact h1.wit p hpT
    · intro g hg u hu
      rcases List.mem_append.1 hg with hg | hg
      · exact h.mu g (hpv g hg) u hu
      · obtain rfl : g = _ := by simpa using hg
        rcases List.mem_append.1 hu with hu | hu
        · exact h.mu p hpT u hu
        · exact ⟨hpf.trans (h.mu f hfm u hu).1, ((h.mu f hfm u hu).2).trans hfp⟩
    · have := hch.1
      rw [hGp, List.pairwise_append] at this
      rw [List.pairwise_append]
      refine ⟨this.1, by simp, fun a ha b hb => ?_⟩
      obtain rfl : b = _ := by simpa using hb
      exact this.2.2 a ha p (by simp)
    · exact h.good
    · exact h.ord
    · exact h.nxl
    · exact h.nxd

theorem inv_root {adj : Nat → List Nat} {n : Nat} {T : Ts} (h : TInv adj n T) (hfr : T.fr = []) : TInv adj n (rootT n T) := by
  unfold rootT
  by_cases hn : T.nx < n
  · rw [if_pos hn]
    by_cases h0 : T.idx T.nx = 0
    · rw [if_pos h0]
      have h1 := inv_reach h hn h0 (by rw [hfr]; simp)
      have h2 := h1.nxd
      exact { h1 with
        nxl := hn
        nxd := fun v hv => by
          by_cases e : v = T.nx
          · subst e; simp [reachT, upd_same]
          · exact h2 v (by simp only [reachT] at hv ⊢; omega) }
    · rw [if_neg h0]
      exact { h with
        nxl := hn
        nxd := fun v hv => by
          by_cases e : v = T.nx
          · subst e; exact h0
          · exact h.nxd v (by simp only at hv; omega) }
  · rw [if_neg hn]; exact h

theorem inv_step {adj : Nat → List Nat} {n : Nat} (hadj : ∀ v, v < n → ∀ w ∈ adj v, w < n) {T : Ts} (h : TInv adj n T) : TInv adj n (stepT adj n T) := by
  rcases List.eq_nil_or_concat T.fr with e | ⟨F, f, e⟩
  · rw [stepT_nil e]; exact inv_root h e
  · rcases Nat.lt_or_ge f.at_ (adj f.v).length with hl | hl
    · have hw : (adj f.v)[f.at_]? = some (adj f.v)[f.at_] := List.getElem?_eq_getElem hl
      rw [stepT_edge (by simpa using e) hw]
      exact inv_edge hadj h (by simpa using e) hw
    · rw [stepT_pop (by simpa using e) hl]
      exact inv_pop h (by simpa using e) hl

theorem inv_iter {adj : Nat → List Nat} {n : Nat} (hadj : ∀ v, v < n → ∀ w ∈ adj v, w < n) : ∀ k, TInv adj n (iterT adj n k)
  | 0 => inv0 adj n
  | k + 1 => inv_step hadj (inv_iter hadj k)
end Go.Proofs.Ybulkblzg
