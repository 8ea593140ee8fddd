import Derived.Test.YbulkblzgC2
namespace Go.Proofs.Ybulkblzg
open Go.RowKit
set_option linter.unusedVariables false
set_option linter.unusedSimpArgs false

theorem root_more (rb nb k n : Nat) (w : World) (hr : Box w rb (.int .i64 (k : Int))) (hn : Box w nb (.int .i64 (n : Int))) (hk : k < n) (hb : n ≤ 256) :
    Calls Yba.prog 25 #[.pointer (some ⟨rb, 0, none⟩), .pointer (some ⟨nb, 0, none⟩)] w fun e w' => e = .returned (.int .i64 (k : Int)) ∧ w' = w.setCell ⟨rb, 0, none⟩ (.int .i64 ((k : Int) + 1)) := by
  obtain ⟨r0, r1⟩ := hr
  obtain ⟨n0, n1⟩ := hn
  have hne : ¬ ((k : Int) = (n : Int)) := by omega
  go_enter Yba.func25, Yba.ntmps25
  go_wp2
  go_ret
  exact ⟨rfl, rfl⟩

theorem root_end (rb nb n : Nat) (w : World) (hr : Box w rb (.int .i64 (n : Int))) (hn : Box w nb (.int .i64 (n : Int))) :
    Calls Yba.prog 25 #[.pointer (some ⟨rb, 0, none⟩), .pointer (some ⟨nb, 0, none⟩)] w fun e w' => e = .returned (.int .i64 (-1)) ∧ w' = w := by
  obtain ⟨r0, r1⟩ := hr
  obtain ⟨n0, n1⟩ := hn
  go_enter Yba.func25, Yba.ntmps25
  go_wp2
  go_ret
  exact ⟨rfl, rfl⟩

def nxt (adj : Nat → List Nat) : List Fr → List Nat
  | [] => []
  | f :: fs => adj f.v ++ nxt adj fs
theorem nxt_append (adj : Nat → List Nat) (a b : List Fr) : nxt adj (a ++ b) = nxt adj a ++ nxt adj b := by
  induction a with
  | nil => rfl
  | cons f fs ih => simp [nxt, ih]
theorem nxt_snoc (adj : Nat → List Nat) (F : List Fr) (f : Fr) : nxt adj (F ++ [f]) = nxt adj F ++ adj f.v := by simp [nxt_append, nxt]

/-- The path's cells. -/
def frs (adj : Nat → List Nat) : Nat → List Fr → List Value
  | _, [] => []
  | s, f :: fs => [.int .i64 (f.v : Int), .int .i64 (s : Int), .int .i64 ((s + f.at_ : Nat) : Int), .int .i64 ((s + (adj f.v).length : Nat) : Int)] ++ frs adj (s + (adj f.v).length) fs
theorem frs_append (adj : Nat → List Nat) (a b : List Fr) (s : Nat) : frs adj s (a ++ b) = frs adj s a ++ frs adj (s + (nxt adj a).length) b := by
  induction a generalizing s with
  | nil => simp [frs, nxt]
  | cons f fs ih => simp [frs, nxt, ih, Nat.add_assoc]
theorem frs_length (adj : Nat → List Nat) (a : List Fr) (s : Nat) : (frs adj s a).length = a.length * 4 := by
  induction a generalizing s with
  | nil => rfl
  | cons f fs ih => simp [frs, ih]; omega
theorem frs_snoc (adj : Nat → List Nat) (F : List Fr) (f : Fr) : frs adj 0 (F ++ [f]) = frs adj 0 F ++ [.int .i64 (f.v : Int), .int .i64 ((nxt adj F).length : Int), .int .i64 (((nxt adj F).length + f.at_ : Nat) : Int), .int .i64 (((nxt adj F).length + (adj f.v).length : Nat) : Int)] := by
  rw [frs_append]; simp [frs]

/-- How often each vertex has been asked for its edges. -/
def asked (T : Ts) : Nat → Nat := fun v => if T.idx v = 0 then 0 else 1

abbrev CT (w : World) (N n : Nat) (fE : Value) (adj : Nat → List Nat) (T : Ts) (gS gN gP : Option Nat) (vS vN vP : Value) : Prop :=
  CF w N n fE T.idx T.low (fun i => decide (i ∈ stk T.fr)) (stk T.fr) (nxt adj T.fr) (frs adj 0 T.fr) T.fr.length T.cnt gS gN gP vS vN vP

theorem CF.congr {w : World} {N n : Nat} {fE : Value} {idx low idx' low' : Nat → Nat} {on on' : Nat → Bool} {S X S' X' : List Nat} {P P' : List Value} {np cnt np' cnt' : Nat} {gS gN gP : Option Nat} {vS vN vP : Value}
    (h : CF w N n fE idx low on S X P np cnt gS gN gP vS vN vP) (e1 : idx = idx') (e2 : low = low') (e3 : on = on') (e4 : S = S') (e5 : X = X') (e6 : P = P') (e7 : np = np') (e8 : cnt = cnt') :
    CF w N n fE idx' low' on' S' X' P' np' cnt' gS gN gP vS vN vP := by
  subst e1 e2 e3 e4 e5 e6 e7 e8; exact h

/-- What reach leaves is the state of reachT. -/
theorem asked_reach (T : Ts) (v : Nat) (h : T.idx v = 0) : upd (asked T) v (asked T v + 1) = asked (reachT T v) := by
  funext x
  unfold asked reachT upd
  by_cases e : x = v
  · subst e; simp [h]
  · simp [e]

theorem nodup_le (n : Nat) : ∀ (l : List Nat), l.Nodup → (∀ x ∈ l, x < n) → l.length ≤ n := by
  induction n with
  | zero => intro l _ h; cases l with
    | nil => simp
    | cons a b => have := h a (by simp); omega
  | succ n ih =>
    intro l hd h
    have h1 : (l.erase n).Nodup := hd.erase n
    have h2 := ih (l.erase n) h1 (fun x hx => by
      have hx1 : x ∈ l := List.mem_of_mem_erase hx
      have hx2 : x ≠ n := fun e => by
        subst e
        exact (List.Nodup.not_mem_erase hd) hx
      have := h x hx1; omega)
    have h3 : l.length ≤ (l.erase n).length + 1 := by
      by_cases hm : n ∈ l
      · rw [List.length_erase_of_mem hm]; omega
      · rw [List.erase_of_not_mem hm]; omega
    omega

theorem TInv.count {adj : Nat → List Nat} {n : Nat} {T : Ts} (h : TInv adj n T) : T.cnt ≤ n := by
  rw [h.tot]
  exact nodup_le n _ h.nd (fun x hx => h.rng x ((h.dom x).2 (by simpa using List.mem_append.1 hx)))
theorem TInv.stkLen {adj : Nat → List Nat} {n : Nat} {T : Ts} (h : TInv adj n T) : (stk T.fr).length ≤ n := by
  have h1 := h.count
  have h2 := h.tot
  simp at h2; omega

theorem len_stk {fr : List Fr} (h : ∀ f ∈ fr, ∃ m, f.mem = f.v :: m) : fr.length ≤ (stk fr).length := by
  induction fr with
  | nil => simp
  | cons f fs ih =>
    obtain ⟨m, hm⟩ := h f (by simp)
    have := ih (fun g hg => h g (by simp [hg]))
    simp [stk, hm]; omega
theorem TInv.frLen {adj : Nat → List Nat} {n : Nat} {T : Ts} (h : TInv adj n T) : T.fr.length ≤ n := Nat.le_trans (len_stk h.hd) h.stkLen
theorem nxt_len {adj : Nat → List Nat} {D : Nat} : ∀ {fr : List Fr}, (∀ f ∈ fr, (adj f.v).length ≤ D) → (nxt adj fr).length ≤ fr.length * D
  | [], _ => by simp [nxt]
  | f :: fs, h => by
    have h1 := h f (by simp)
    have h2 := nxt_len (fr := fs) (D := D) (fun g hg => h g (by simp [hg]))
    simp only [nxt, List.length_append, List.length_cons, Nat.add_mul]
    omega
theorem TInv.vlt {adj : Nat → List Nat} {n : Nat} {T : Ts} (h : TInv adj n T) {f : Fr} (hf : f ∈ T.fr) : f.v < n := h.rng _ ((h.dom _).2 (.inl (h.vmem hf)))
theorem TInv.compLen {adj : Nat → List Nat} {n : Nat} {T : Ts} (h : TInv adj n T) : T.comps.length ≤ n := by
  have h1 := h.count
  have h2 := h.tot
  have h3 : T.comps.length ≤ T.comps.flatten.length := by
    have hg := h.good
    generalize T.comps = L at hg
    clear h1 h2
    induction L with
    | nil => simp
    | cons a b ih =>
      have := ih (fun c hc => hg c (by simp [hc]))
      have h0 := (hg a (by simp)).1
      have : 0 < a.length := List.length_pos_iff.2 h0
      simp at *; omega
  simp at h2; simp at h3; omega

/-- The measure of the walk's rounds: vertices not yet reached; edges not yet followed; frames. -/
def rem (adj : Nat → List Nat) : List Fr → Nat
  | [] => 0
  | f :: fs => ((adj f.v).length - f.at_) + 1 + rem adj fs
theorem rem_append (adj : Nat → List Nat) (a b : List Fr) : rem adj (a ++ b) = rem adj a + rem adj b := by
  induction a with
  | nil => simp [rem]
  | cons f fs ih => simp [rem, ih]; omega
def meas (adj : Nat → List Nat) (n : Nat) (T : Ts) : Nat := (n - T.cnt) * 2002 + rem adj T.fr
end Go.Proofs.Ybulkblzg
