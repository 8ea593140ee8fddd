import Derived.Test.YbulkblzgC6
namespace Go.Proofs.Ybulkblzg
open Go.RowKit
set_option linter.unusedVariables false
set_option linter.unusedSimpArgs false

set_option maxRecDepth 100000 in
theorem comps_any (F : Nat) (caps : Array Value) (G : Nat) (capsG : Array Value) (n : Nat) (adj : Nat → List Nat) (U : UT) (cont : List (List Nat) → Bool) (hU : UKeep U) (hUL : ULt U) (hE : EdgesOK F caps n adj U)
    (hF : ∀ (args : Array Value) (w : World), (callFunc F args).run Yba.prog w = .ok (.enter F args) w) (hFo : FoundOK G capsG n U cont)
    (hG : ∀ (args : Array Value) (w : World), (callFunc G args).run Yba.prog w = .ok (.enter G args) w)
    (hadj : ∀ v, v < n → ∀ x ∈ adj v, x < n) (hdeg : ∀ v, v < n → (adj v).length ≤ 1024) (hn : n ≤ 256) (R0 : Nat → Prop) (w : World) (hu : U w (fun _ => 0) [] R0) :
    Calls Yba.prog 16 #[.int .i64 (n : Int), .func (.func F) #[] caps, .func (.func G) #[] capsG] w fun e w' =>
      e = .returned (.tuple #[]) ∧ ∃ T R, (∃ k, T = iterT adj n k) ∧ U w' (asked T) T.comps R ∧ Keeps (fun j => R0 j ∨ w.heap.size ≤ j) w w' ∧ (∀ j, R j → R0 j ∨ w.heap.size ≤ j) ∧ Ended n cont T := by
  obtain ⟨N, hN⟩ : ∃ N, N = w.heap.size := ⟨_, rfl⟩
  have HN : Hid (N = w.heap.size) := hN
  have HUU : Hid (∀ o1 o2, U ((w.alloc o1).alloc o2) (fun _ => 0) [] R0 ∧ ¬ R0 (w.heap.size + 1) ∧ ¬ R0 w.heap.size) := by
    intro o1 o2
    refine ⟨hU _ _ _ _ _ _ hu (((Keeps.refl (fun _ => False) w).alloc o1).alloc o2) (fun _ _ h => h), fun h => ?_, fun h => ?_⟩
    · have := hUL _ _ _ _ _ hu h; omega
    · have := hUL _ _ _ _ _ hu h; omega
  have HC : Hid (∀ (w2 : World) (rb nb : Nat), U w2 (fun _ => 0) [] R0 → (¬ R0 rb ∧ ¬ R0 nb) → rb ≠ nb → Box w2 rb (.int .i64 0) → Box w2 nb (.int .i64 (n : Int)) →
    Calls Yba.prog 24 #[.int .i64 (n : Int), .func (.func F) #[] caps, .func (.func 25) #[] #[.pointer (some ⟨rb, 0, none⟩), .pointer (some ⟨nb, 0, none⟩)], .func (.func G) #[] capsG] w2 fun e w' =>
      e = .returned (.tuple #[]) ∧ ∃ T R, (∃ k, T = iterT adj n k) ∧ U w' (asked T) T.comps R ∧ Keeps (fun j => R0 j ∨ j = rb ∨ w2.heap.size ≤ j) w2 w' ∧ (∀ j, R j → R0 j ∨ w2.heap.size ≤ j) ∧ Ended n cont T) :=
    fun w2 rb nb h1 h2 h3 h4 h5 => from_any F caps G capsG n adj U cont hU hUL hE hF hFo hG hadj hdeg hn rb nb R0 w2 h1 h2 h3 h4 h5
  have HB : Hid (∀ t1 t2, Box ((w.alloc (.cells #[.int .i64 (n : Int)] t1)).alloc (.cells #[.int .i64 0] t2)) (w.heap.size + 1) (.int .i64 0) ∧ Box ((w.alloc (.cells #[.int .i64 (n : Int)] t1)).alloc (.cells #[.int .i64 0] t2)) w.heap.size (.int .i64 (n : Int))) := by
    intro t1 t2
    refine ⟨?_, (box_new w (.int .i64 (n : Int)) t1).alloc _⟩
    have := box_new (w.alloc (.cells #[.int .i64 (n : Int)] t1)) (.int .i64 0) t2
    simpa using this
  clear hu hU hUL hE hFo hadj hdeg hF hG hN
  go_enter Yba.func16, Yba.ntmps16
  go_wp2_with fail
  refine (HC.out _ _ _ (HUU.out _ _).1 (HUU.out (.cells #[] 0) (.cells #[] 0)).2 (by omega) (HB.out _ _).1 (HB.out _ _).2).mono ?_
  rintro e W1 ⟨rfl, T, R, h1, h2, h3, h4, h5⟩
  have HE : Hid (∃ T R, (∃ k, T = iterT adj n k) ∧ U W1 (asked T) T.comps R ∧ Keeps (fun j => R0 j ∨ w.heap.size ≤ j) w W1 ∧ (∀ j, R j → R0 j ∨ w.heap.size ≤ j) ∧ Ended n cont T) := by
    refine ⟨T, R, h1, h2, ?_, ?_, h5⟩
    · refine (((Keeps.refl _ w).alloc _).alloc _).trans' h3 ?_
      rintro j hj (e | e | e)
      · exact .inl e
      · omega
      · simp at e; omega
    · intro j hj
      rcases h4 j hj with e | e
      · exact .inl e
      · simp at e; exact .inr (by omega)
  clear h1 h2 h3 h4 h5
  go_wp2
  go_end0
  exact ⟨rfl, HE.out⟩
end Go.Proofs.Ybulkblzg
