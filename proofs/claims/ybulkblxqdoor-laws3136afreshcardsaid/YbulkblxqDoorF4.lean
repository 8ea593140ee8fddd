import Derived.Test.YbulkblxqDoorF3
import Derived.Test.YbulkblxqDoorH4
import Derived.Deep.RegionHeld3
import Derived.Deep.RegionWith
namespace Go.Proofs.YbulkblxqDoor
open Go.RowKit
set_option linter.unusedVariables false
set_option linter.unusedSimpArgs false

def bit8 (o : Int) (j : Nat) : Bool := bits BinOp.and IntKind.u8 o (2 ^ j % 256) != 0
def picks (p : Nat → Bool) (L : List Int) : Nat → List Int
  | 0 => []
  | k + 1 => if p k then picks p L k ++ [L.getD k 0] else picks p L k

theorem picks_le (p : Nat → Bool) (L : List Int) : ∀ k, (picks p L k).length ≤ k
  | 0 => Nat.le_refl _
  | k + 1 => by
    have := picks_le p L k
    unfold picks
    split <;> simp <;> omega
theorem picks_lt (p : Nat → Bool) (L : List Int) (i : Nat) (hp : p i = false) : ∀ k, i < k → (picks p L k).length < k
  | 0, h => by omega
  | k + 1, h => by
    by_cases e : k = i
    · subst e
      have := picks_le p L k
      unfold picks
      simp [hp]; omega
    · have := picks_lt p L i hp k (by omega)
      unfold picks
      split <;> simp <;> omega

def OFF : Int := 14695981039346656037
def hvP (p : Nat → Bool) (L : List Int) (i : Nat) : Int := (isort (picks p L 4)).foldl fnv8 (fnv8 OFF (L.getD i 0))

/-- A row of n numbers of the call's own, that may be written. -/
def OwnU (w : World) (g n : Nat) : Prop := ∀ i, i < n → (∃ u, w.cell? ⟨g, i, none⟩ = some (.int .u64 u)) ∧ w.frozen? ⟨g, i, none⟩ = false

theorem OwnU.set {w : World} {g n : Nat} (h : OwnU w g n) (m : Nat) (x : Int) : OwnU (w.setCell ⟨g, m, none⟩ (.int .u64 x)) g n := by
  intro i hi
  obtain ⟨⟨u, hu⟩, hf⟩ := h i hi
  refine ⟨?_, by rw [World.frozen?_setCell]; exact hf⟩
  by_cases e : i = m
  · subst e
    exact ⟨x, World.cell?_setCell_same _ _ _ hu⟩
  · exact ⟨u, by rw [World.cell?_setCell_other _ _ _ _ (by intro hq; injection hq with _ h2; omega)]; exact hu⟩

theorem RowU.push {w : World} {g n : Nat} {C : List Int} (h : RowU w g C) (ho : OwnU w g n) (hl : C.length < n) (x : Int) : RowU (w.setCell ⟨g, C.length, none⟩ (.int .u64 x)) g (C ++ [x]) := by
  intro i hi
  simp at hi
  obtain ⟨⟨u, hu⟩, hf⟩ := ho i (by omega)
  refine ⟨?_, by rw [World.frozen?_setCell]; exact hf⟩
  by_cases e : i = C.length
  · subst e
    rw [World.cell?_setCell_same _ _ _ hu]
    simp [List.getD]
  · rw [World.cell?_setCell_other _ _ _ _ (by intro hq; injection hq with _ h2; omega), (h i (by omega)).1]
    simp [List.getD, List.getElem?_append_left (show i < C.length by omega)]

theorem RowU.ints {w : World} {g : Nat} {C : List Int} (h : RowU w g C) (hl : C.length < 4611686018427387904) : IsInts .u64 w (some ⟨g, 0, none⟩) C.length C := by
  refine ⟨rfl, hl, fun i hi => ⟨g, 0, rfl, ?_⟩⟩
  rw [Nat.zero_add]
  exact (h i hi).1

theorem alen57 : Ybad.prog.arrayLen 57 = 3 := by kernel_rfl
theorem alen62 : Ybad.prog.arrayLen 62 = 4 := by kernel_rfl
theorem und57 : Ybad.prog.underlying 57 = some (.array (Ybad.prog.arrayLen 57) (Ybad.prog.elem 57)) := by kernel_rfl
theorem und62 : Ybad.prog.underlying 62 = some (.array (Ybad.prog.arrayLen 62) (Ybad.prog.elem 62)) := by kernel_rfl
theorem size57 (w : World) : (sizeOf (Ybad.prog.elem 57)).run Ybad.prog w = .ok 1 w := by kernel_rfl
theorem size62 (w : World) : (sizeOf (Ybad.prog.elem 62)).run Ybad.prog w = .ok 1 w := by kernel_rfl
theorem slice57 (w : World) (g m : Nat) (hm : m ≤ 3) :
   (Instr.sliceAt 57 (.pointer (some ⟨g, 0, none⟩)) none (some (.int .i64 (m : Int))) none).run Ybad.prog w = .ok (.slice (some ⟨g, 0, none⟩) m 3) w := by
  rw [run_sliceAt_array_h (ht := und57) _ _ _ _ _ (by omega) (by rw [alen57]; omega), size57, alen57]
  rfl
theorem slice62 (w : World) (g m : Nat) (hm : m ≤ 4) :
   (Instr.sliceAt 62 (.pointer (some ⟨g, 0, none⟩)) none (some (.int .i64 (m : Int))) none).run Ybad.prog w = .ok (.slice (some ⟨g, 0, none⟩) m 4) w := by
  rw [run_sliceAt_array_h (ht := und62) _ _ _ _ _ (by omega) (by rw [alen62]; omega), size62, alen62]
  rfl

theorem RowU.nil (w : World) (g : Nat) : RowU w g [] := fun i hi => by simp at hi

theorem ownU_of {w : World} {g n : Nat} {cs : Array Value} {t : TypeId} (h : w.heap[g]? = some (.cells cs t (0, 0))) (hc : ∀ i, i < n → cs[i]? = some (.int .u64 0)) : OwnU w g n := by
  intro i hi
  refine ⟨⟨0, ?_⟩, by simp [World.frozen?, h]⟩
  rw [cell_of_heap h]
  exact hc i hi
theorem ownU3 (w : World) (t : TypeId) : OwnU (w.alloc (.cells #[.int .u64 0, .int .u64 0, .int .u64 0] t)) w.heap.size 3 := by
  refine ownU_of (heap_at_new w (.cells #[.int .u64 0, .int .u64 0, .int .u64 0] t)) fun i hi => ?_
  match i, hi with
  | 0, _ => rfl
  | 1, _ => rfl
  | 2, _ => rfl

theorem isInts_one (w : World) (x : Int) (t : TypeId) : IsInts .u64 (w.alloc (.cells #[.int .u64 x] t)).drew (some ⟨w.heap.size, 0, none⟩) 1 [x] := by
  refine ⟨rfl, by omega, fun i hi => ⟨_, _, rfl, ?_⟩⟩
  obtain rfl : i = 0 := by omega
  exact cell_of_heap (heap_at_new w (.cells #[.int .u64 x] t)) 0

def pV (i : Nat) (o : Int) (j : Nat) : Bool := ((j : Int) != (i : Int)) && bit8 o j

set_option maxRecDepth 100000 in
set_option maxHeartbeats 2000000 in
theorem hashVertex_any (a : Option Addr) (c : Nat) (L : List Int) (i : Nat) (o : Int) (w : World) (hL : IsInts .u64 w a 4 L) (hi : i < 4) :
    Calls Ybad.prog 24 #[.slice a 4 c, .int .i64 i, .int .u8 o] w fun e w' => e = .returned (.int .u64 (hvP (pV i o) L i)) ∧ Below w.heap.size w w' := by
  obtain ⟨C4, hC4⟩ : ∃ C, C = picks (pV i o) L 4 := ⟨_, rfl⟩
  have HC4 : Hid (picks (pV i o) L 4 = C4 ∧ C4.length < 4) := ⟨hC4.symm, by rw [hC4]; exact picks_lt _ _ i (by simp [pV]) 4 hi⟩
  obtain ⟨x, hx⟩ : ∃ x, x = L.getD i 0 := ⟨_, rfl⟩
  obtain ⟨r, hr⟩ : ∃ r, r = hvP (pV i o) L i := ⟨_, rfl⟩
  rw [← hr]
  have HR : Hid ((isort C4).foldl fnv8 (fnv8 OFF x) = r) := by unfold Hid; rw [hr, hC4, hx]; rfl
  obtain ⟨b, off, ha, hci⟩ := hL.2.2 i hi
  rw [← hx] at hci
  have HX : Hid (L.getD i 0 = x) := hx.symm
  subst ha
  have HL : Hid (IsInts .u64 w (some ⟨b, off, none⟩) 4 L) := hL
  clear hL hC4 hr hx
  go_enter Ybad.func24, Ybad.ntmps24
  go_wp2
  go_loopw [8, 13] (fun m k wr => ∃ (kk : Nat) (C : List Int), kk ≤ 4 ∧ k = .int .i64 kk ∧ m = .int .i64 C.length ∧ C.length ≤ 3 ∧ Hid (C = picks (pV i o) L kk ∧ RowU wr w.heap.size C ∧ OwnU wr w.heap.size 3 ∧ Below w.heap.size w wr ∧ w.heap.size < wr.heap.size)) (fun _ k _ => 4 - (intOf k).toNat)
  case atStart => exact ⟨0, [], by omega, rfl, rfl, by simp, rfl, RowU.nil _ _, ownU3 _ _, (Below.refl _ _).alloc (Nat.le_refl _) _, by simp⟩
  case round =>
    obtain ⟨k, C, hk, rfl, rfl, hC3, HC⟩ := hrel
    by_cases hlt : k < 4
    · obtain ⟨b', off', hab, hck⟩ := (HL.out.below HC.out.2.2.2.1).2.2 k hlt
      obtain ⟨rfl, rfl⟩ : b = b' ∧ off = off' := by simpa using hab
      generalize hxk : L.getD k 0 = xk at hck
      have HXK : Hid (L.getD k 0 = xk) := hxk
      clear hxk
      by_cases hp : pV i o k = true
      · obtain ⟨hki, hbk⟩ : ((k : Int) != (i : Int)) = true ∧ (bits BinOp.and IntKind.u8 o (2 ^ k % 256) != 0) = true := by unfold pV at hp; rw [Bool.and_eq_true] at hp; exact hp
        have hCp : C ++ [xk] = picks (pV i o) L (k + 1) := by
          rw [show picks (pV i o) L (k + 1) = if pV i o k then picks (pV i o) L k ++ [L.getD k 0] else picks (pV i o) L k from rfl, if_pos hp, HC.out.1, HXK.out]
        have hC2 : C.length < 3 := by
          have h1 : (picks (pV i o) L (k + 1)).length ≤ 3 := by
            by_cases e : i < k + 1
            · have := picks_lt (pV i o) L i (by simp [pV]) (k + 1) e; omega
            · have := picks_le (pV i o) L (k + 1); omega
          rw [← hCp] at h1
          simp at h1; omega
        have HP : Hid (C ++ [xk] = picks (pV i o) L (k + 1)) := hCp
        obtain ⟨⟨u, hu⟩, hfz⟩ := HC.out.2.2.1 C.length hC2
        clear hCp hp
        go_wp2
        go_roundw
        case rel =>
          exact ⟨k + 1, C ++ [xk], by omega, by go_num, by simp, by simp; omega, HP.out, HC.out.2.1.push HC.out.2.2.1 hC2 xk, HC.out.2.2.1.set _ _, HC.out.2.2.2.1.setCell (Nat.le_refl _) _, by simp [World.setCell]; exact HC.out.2.2.2.2⟩
        case measure => simp [intOf]; omega
      · have HP : Hid (C = picks (pV i o) L (k + 1)) := by
          unfold Hid
          rw [show picks (pV i o) L (k + 1) = if pV i o k then picks (pV i o) L k ++ [L.getD k 0] else picks (pV i o) L k from rfl, if_neg hp, HC.out.1]
        rcases hb1 : ((k : Int) != (i : Int)) with _ | _
        · clear hp
          go_wp2
          go_roundw
          case rel => exact ⟨k + 1, C, by omega, by go_num, rfl, hC3, HP.out, HC.out.2⟩
          case measure => simp [intOf]; omega
        · have hbk : (bits BinOp.and IntKind.u8 o (2 ^ k % 256) != 0) = false := by
            unfold pV at hp
            rw [hb1, Bool.true_and] at hp
            exact Bool.eq_false_iff.mpr hp
          clear hp
          go_wp2
          go_roundw
          case rel => exact ⟨k + 1, C, by omega, by go_num, rfl, hC3, HP.out, HC.out.2⟩
          case measure => simp [intOf]; omega
    · obtain rfl : k = 4 := by omega
      obtain rfl : C = C4 := HC.out.1.trans HC4.out.1
      have hci' : wr.cell? ⟨b, off + i, none⟩ = some (.int .u64 x) := by rw [HC.out.2.2.2.1.cell (cell_lt hci)]; exact hci
      have hsl := slice57 wr w.heap.size C.length hC3
      go_wp2_with fail
      refine (sortv_any w.heap.size C.length 3 C _ HC.out.2.1 rfl (by omega)).mono ?_
      rintro e w1 ⟨rfl, hrow, htouch⟩
      have HB1 : Hid (Below w.heap.size w w1) := HC.out.2.2.2.1.trans ((htouch.below (Nat.le_refl _)).mono (Nat.le_refl _))
      have hci1 : w1.cell? ⟨b, off + i, none⟩ = some (.int .u64 x) := by rw [HB1.out.cell (cell_lt hci)]; exact hci
      have hs1 : ¬ w1.heap.size = 0 := by rw [htouch.size]; have := HC.out.2.2.2.2; omega
      have hcl : (isort C).length = C.length := isort_length C
      obtain ⟨S, hS⟩ : ∃ S, S = isort C := ⟨_, rfl⟩
      rw [← hS] at hrow hcl
      have HR2 : Hid (S.foldl fnv8 (fnv8 OFF x) = r) := by rw [hS]; exact HR.out
      have HROW : Hid (RowU w1 w.heap.size S) := hrow
      clear hrow htouch hS hci' HR
      clear hsl
      have hsl : ∀ W, (Instr.sliceAt 57 (.pointer (some ⟨w.heap.size, 0, none⟩)) none (some (.int .i64 (C.length : Int))) none).run Ybad.prog W = .ok (.slice (some ⟨w.heap.size, 0, none⟩) C.length 3) W := fun W => slice57 W w.heap.size C.length hC3
      have hi' : (i : Int) < 4 := by omega
      obtain ⟨y, hy⟩ : ∃ y, y = fnv8 OFF x := ⟨_, rfl⟩
      have HBZ : Hid (Below w.heap.size w (w1.alloc (.cells #[.int .u64 x] 22)).drew) := (HB1.out.alloc HB1.out.size _).drew
      have H1 : Hid (Calls Ybad.prog 26 #[.int .u64 14695981039346656037, .slice (some ⟨w1.heap.size, 0, none⟩) 1 1] (w1.alloc (.cells #[.int .u64 x] 22)).drew fun e w' => e = .returned (.int .u64 y) ∧ w' = (w1.alloc (.cells #[.int .u64 x] 22)).drew) := by
        rw [hy]
        exact hashv_any OFF _ 1 1 [x] _ (isInts_one _ _ _)
      have H2 : Hid (Calls Ybad.prog 26 #[.int .u64 y, .slice (some ⟨w.heap.size, 0, none⟩) C.length 3] (w1.alloc (.cells #[.int .u64 x] 22)).drew fun e w' => e = .returned (.int .u64 r) ∧ w' = (w1.alloc (.cells #[.int .u64 x] 22)).drew) := by
        rw [← HR2.out, ← hy]
        refine hashv_any y _ C.length 3 S _ ?_
        rw [← hcl]
        exact (HROW.out.ints (by omega)).below (((Below.refl _ _).alloc (Nat.le_refl _) _).drew)
      clear hy
      go_wp2_with fail
      go_region_held3 (fun w' => w'.cell? ⟨b, off + i, none⟩ = some (.int .u64 x)) (first | go_keep)
        (first
          | (go_at_call_of 26 (14695981039346656037 : Int); refine H1.out.mono ?_; rintro e w2 ⟨rfl, rfl⟩)
          | (go_at_call_of 26 (y); refine H2.out.mono ?_; rintro e w2 ⟨rfl, rfl⟩))
      rename_i hHeld
      clear hHeld
      go_wp2
      go_ret
      exact ⟨rfl, HBZ.out⟩
end Go.Proofs.YbulkblxqDoor
