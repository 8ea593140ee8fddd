import Derived.Test.YbulkblxqDoorF4
namespace Go.Proofs.YbulkblxqDoor
open Go.RowKit
set_option linter.unusedVariables false
set_option linter.unusedSimpArgs false

def tabU (f : Nat → Int) (k : Nat) : List Int := (List.range k).map f
theorem tabU_length (f : Nat → Int) (k : Nat) : (tabU f k).length = k := by simp [tabU]
theorem tabU_succ (f : Nat → Int) (k : Nat) : tabU f (k + 1) = tabU f k ++ [f k] := by simp [tabU, List.range_succ]

def heP (hv : Nat → Int) : Int := (isort (tabU hv 4)).foldl fnv8 OFF

theorem ownU4 (w : World) (t : TypeId) : OwnU (w.alloc (.cells #[.int .u64 0, .int .u64 0, .int .u64 0, .int .u64 0] t)) w.heap.size 4 := by
  refine ownU_of (heap_at_new w (.cells #[.int .u64 0, .int .u64 0, .int .u64 0, .int .u64 0] t)) fun i hi => ?_
  match i, hi with
  | 0, _ => rfl
  | 1, _ => rfl
  | 2, _ => rfl
  | 3, _ => rfl

theorem RowU.block {w w' : World} {g : Nat} {zs : List Int} (h : RowU w g zs) (hb : w'.heap[g]? = w.heap[g]?) : RowU w' g zs := by
  intro i hi
  obtain ⟨h1, h2⟩ := h i hi
  exact ⟨by rw [World.cell?_of_block (w := w) (by exact hb)]; exact h1, by unfold World.frozen? at h2 ⊢; simp only [hb]; exact h2⟩
theorem OwnU.block {w w' : World} {g n : Nat} (h : OwnU w g n) (hb : w'.heap[g]? = w.heap[g]?) : OwnU w' g n := by
  intro i hi
  obtain ⟨⟨u, h1⟩, h2⟩ := h i hi
  exact ⟨⟨u, by rw [World.cell?_of_block (w := w) (by exact hb)]; exact h1⟩, by unfold World.frozen? at h2 ⊢; simp only [hb]; exact h2⟩

set_option maxRecDepth 100000 in
set_option maxHeartbeats 2000000 in
theorem hashEdges_any (a : Option Addr) (c : Nat) (L : List Int) (o0 o1 o2 o3 : Int) (w : World) (hL : IsInts .u64 w a 4 L) :
    Calls Ybad.prog 15 #[.slice a 4 c, .agg #[.int .u8 o0, .int .u8 o1, .int .u8 o2, .int .u8 o3]] w fun e w' =>
      e = .returned (.int .u64 (heP fun i => hvP (pV i ([o0, o1, o2, o3].getD i 0)) L i)) ∧ Below w.heap.size w w' := by
  obtain ⟨f, hf⟩ : ∃ f : Nat → Int, f = fun i => hvP (pV i ([o0, o1, o2, o3].getD i 0)) L i := ⟨_, rfl⟩
  rw [← hf]
  obtain ⟨r, hr⟩ : ∃ r, r = heP f := ⟨_, rfl⟩
  rw [← hr]
  have HV : Hid (∀ (i : Nat) (W : World), i < 4 → IsInts .u64 W a 4 L → Calls Ybad.prog 24 #[.slice a 4 c, .int .i64 i, .int .u8 ([o0, o1, o2, o3].getD i 0)] W fun e w' => e = .returned (.int .u64 (f i)) ∧ Below W.heap.size W w') := by
    intro i W hi hW
    rw [hf]
    exact hashVertex_any a c L i _ W hW hi
  have HR : Hid ((isort (tabU f 4)).foldl fnv8 14695981039346656037 = r) := hr.symm
  clear hf hr
  have HL : Hid (IsInts .u64 w a 4 L) := hL
  obtain ⟨b0, off, ha, -⟩ := hL.2.2 0 (by omega)
  subst ha
  clear hL
  obtain ⟨wb, hwb⟩ : ∃ wb, wb = w.alloc (.cells #[.int .u8 o0, .int .u8 o1, .int .u8 o2, .int .u8 o3] 103) := ⟨_, rfl⟩
  have HWB : Hid (wb.heap[w.heap.size]? = some (.cells #[.int .u8 o0, .int .u8 o1, .int .u8 o2, .int .u8 o3] 103 (0, 0)) ∧ wb.heap.size = w.heap.size + 1 ∧ Below w.heap.size w wb) := by
    rw [hwb]; exact ⟨heap_at_new _ _, by simp, (Below.refl _ _).alloc (Nat.le_refl _) _⟩
  have HSt : Hid (Below (w.heap.size + 1) wb ((w.alloc (.cells #[.int .u8 o0, .int .u8 o1, .int .u8 o2, .int .u8 o3] 103)).alloc (.cells #[.int .u64 0, .int .u64 0, .int .u64 0, .int .u64 0] 62))
      ∧ OwnU ((w.alloc (.cells #[.int .u8 o0, .int .u8 o1, .int .u8 o2, .int .u8 o3] 103)).alloc (.cells #[.int .u64 0, .int .u64 0, .int .u64 0, .int .u64 0] 62)) (w.heap.size + 1) 4) := by
    rw [← hwb, ← HWB.out.2.1]
    exact ⟨(Below.refl _ _).alloc (Nat.le_refl _) _, ownU4 _ _⟩
  clear hwb
  go_enter Ybad.func15, Ybad.ntmps15
  go_wp2
  go_loopw [9] (fun k wr => ∃ (kk : Nat), kk ≤ 4 ∧ k = .int .i64 kk ∧ Hid (RowU wr (w.heap.size + 1) (tabU f kk) ∧ OwnU wr (w.heap.size + 1) 4 ∧ Below (w.heap.size + 1) wb wr ∧ w.heap.size + 1 < wr.heap.size)) (fun k _ => 4 - (intOf k).toNat)
  case atStart => exact ⟨0, by omega, rfl, RowU.nil _ _, HSt.out.2, HSt.out.1, by simp⟩
  case round =>
    obtain ⟨k, hk, rfl, HC⟩ := hrel
    by_cases hlt : k < 4
    · have hbox : wr.heap[w.heap.size]? = some (.cells #[.int .u8 o0, .int .u8 o1, .int .u8 o2, .int .u8 o3] 103 (0, 0)) := by
        rw [HC.out.2.2.1.block _ (by omega)]; exact HWB.out.1
      have hck : wr.cell? ⟨w.heap.size, k, none⟩ = some (.int .u8 ([o0, o1, o2, o3].getD k 0)) := by
        rw [cell_of_heap hbox]
        match k, hlt with
        | 0, _ => rfl
        | 1, _ => rfl
        | 2, _ => rfl
        | 3, _ => rfl
      have HLr : Hid (IsInts .u64 wr (some ⟨b0, off, none⟩) 4 L) := (HL.out.below HWB.out.2.2).below (HC.out.2.2.1.mono (Nat.le_of_eq HWB.out.2.1))
      have HCk := HV.out k wr hlt HLr.out
      generalize [o0, o1, o2, o3].getD k 0 = ok at hck HCk
      have HCk' : Hid (Calls Ybad.prog 24 #[.slice (some ⟨b0, off, none⟩) 4 c, .int .i64 k, .int .u8 ok] wr fun e w' => e = .returned (.int .u64 (f k)) ∧ Below wr.heap.size wr w') := HCk
      clear HCk hbox
      go_wp2_with fail
      refine HCk'.out.mono ?_
      rintro e w1 ⟨rfl, hb1⟩
      have hblk : w1.heap[w.heap.size + 1]? = wr.heap[w.heap.size + 1]? := hb1.block _ HC.out.2.2.2
      have HO1 : Hid (OwnU w1 (w.heap.size + 1) 4 ∧ RowU w1 (w.heap.size + 1) (tabU f k) ∧ Below (w.heap.size + 1) wb w1 ∧ w.heap.size + 1 < w1.heap.size) :=
        ⟨HC.out.2.1.block hblk, HC.out.1.block hblk, HC.out.2.2.1.trans (hb1.mono (Nat.le_of_lt HC.out.2.2.2)), Nat.lt_of_lt_of_le HC.out.2.2.2 hb1.size⟩
      obtain ⟨⟨u, hu⟩, hfz⟩ := HO1.out.1 k hlt
      obtain ⟨fk, hfk⟩ : ∃ fk, fk = f k := ⟨_, rfl⟩
      rw [← hfk]
      have HF : Hid (f k = fk) := hfk.symm
      clear hb1 hblk HCk' hfk hck
      go_wp2
      go_roundw
      case rel =>
        refine ⟨k + 1, by omega, by go_num, ?_, HO1.out.1.set _ _, HO1.out.2.2.1.setCell (Nat.le_refl _) _, by simp [World.setCell]; exact HO1.out.2.2.2⟩
        rw [tabU_succ, HF.out]
        have h5 := HO1.out.2.1.push HO1.out.1 (by rw [tabU_length]; exact hlt) fk
        rw [tabU_length] at h5
        exact h5
      case measure => simp [intOf]; omega
    · obtain rfl : k = 4 := by omega
      have hsl : ∀ W, (Instr.sliceAt 62 (.pointer (some ⟨w.heap.size + 1, 0, none⟩)) none (some (.int .i64 4)) none).run Ybad.prog W = .ok (.slice (some ⟨w.heap.size + 1, 0, none⟩) 4 4) W := fun W => slice62 W (w.heap.size + 1) 4 (by omega)
      go_wp2_with fail
      refine (sortv_any (w.heap.size + 1) 4 4 (tabU f 4) _ HC.out.1 (tabU_length _ _) (by omega)).mono ?_
      rintro e w1 ⟨rfl, hrow, htouch⟩
      have HZ : Hid (IsInts .u64 w1 (some ⟨w.heap.size + 1, 0, none⟩) 4 (isort (tabU f 4))) := by
        have h5 := hrow.ints (by rw [isort_length, tabU_length]; omega)
        rw [isort_length, tabU_length] at h5
        exact h5
      have HB : Hid (Below w.heap.size w w1) := HWB.out.2.2.trans ((HC.out.2.2.1.trans (htouch.below (Nat.le_refl _))).mono (by omega))
      clear hrow htouch
      go_wp2_with fail
      refine (hashv_any 14695981039346656037 _ 4 4 _ _ HZ.out).mono ?_
      rintro e w2 ⟨rfl, rfl⟩
      rw [HR.out]
      go_wp2
      go_ret
      exact ⟨rfl, HB.out⟩
end Go.Proofs.YbulkblxqDoor
