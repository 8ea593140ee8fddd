import Derived.Test.YbulkblzgJ
namespace Go.Proofs.Ybulkblzg
open Go.RowKit
set_option linter.unusedVariables false
set_option linter.unusedSimpArgs false

theorem Yba.info24 : (Yba.prog.info? 24).map (fun i => (i.zero, i.size, i.bytes)) = some (some (.slice none 0 0), 1, 24) := by kernel_rfl

theorem rw_start (wr : World) (g n ss : Nat) (hg : g = wr.heap.size) (hs : ss < n) :
    RW wr ((wr.alloc (.cells ((madeCells #[.bool false] n).setIfInBounds ss (.bool true)) 4)).alloc (.cells #[.int .i64 (ss : Int)] 3)) g n (fun i => if i = ss then true else false) [ss] (.slice (some ⟨g + 1, 0, none⟩) 1 1) := by
  subst hg
  have h1 : Arr (wr.alloc (.cells ((madeCells #[.bool false] n).setIfInBounds ss (.bool true)) 4)) wr.heap.size n (fun i => .bool (if i = ss then true else false)) := by
    intro i hi
    have hh := heap_alloc_new wr (.cells ((madeCells #[.bool false] n).setIfInBounds ss (.bool true)) 4)
    generalize wr.alloc (.cells ((madeCells #[.bool false] n).setIfInBounds ss (.bool true)) 4) = V at *
    refine ⟨?_, by simp [World.frozen?, hh]⟩
    rw [cell_of_row V wr.heap.size i _ 4 (0, 0) hh, ← Array.getElem?_toList, Array.toList_setIfInBounds, toList_madeCells_one, List.getElem?_set]
    by_cases e : i = ss
    · subst e; simp [hi]
    · rw [if_neg (fun h => e h.symm)]; simp [e, hi]
  refine ⟨h1.alloc _, ?_, ?_, by simp⟩
  · have h2 := World.ownsRow_lit (base := wr.heap.size + 1) (e := 3) (size := 1) (wr.alloc (.cells ((madeCells #[.bool false] n).setIfInBounds ss (.bool true)) 4)) #[.int .i64 (ss : Int)] 1 (by simp) (by simp [maxLen]) rfl
    simpa using h2
  · exact ((Below.refl _ wr).alloc (Nat.le_refl _) _).alloc (by simp) _

theorem RW.push {w0 w w5 : World} {o : Obj} {g n : Nat} {f : Nat → Bool} {st : List Nat} {v : Value} (h : RW w0 w g n f st v) {y g' cap : Nat} (hy : y < n)
    (hown : w5.ownsRow (g + 1) 3 1 (.slice (some ⟨g', 0, none⟩) (st.length + 1) cap) (st.length + 1) (ints st ++ [.int .i64 (y : Int)])) (hg : ((w.setCell ⟨g, y, none⟩ (.bool true)).alloc o).grownBy w5 v.ownBlock) :
    RW w0 w5 g n (fun i => if i = y then true else f i) (st ++ [y]) (.slice (some ⟨g', 0, none⟩) (st.length + 1) cap) := by
  have hv : ∀ j, v.ownBlock = some j → g + 1 ≤ j := fun j hj => (h.row.lt j hj).1
  have ha : Arr (w.setCell ⟨g, y, none⟩ (.bool true)) g n (fun i => .bool (if i = y then true else f i)) := (h.arr.set _ hy).congr (fun i _ => by by_cases e : i = y <;> simp [e])
  have hsz : (w.setCell ⟨g, y, none⟩ (.bool true)).heap.size = w.heap.size := by simp [World.setCell]
  have hle := h.le
  refine ⟨?_, by simpa using hown, ?_, by have := hg.size; simp [World.setCell] at this; omega⟩
  · refine (ha.alloc o).same (hg.block g (by simp [World.setCell]; omega) (fun e => by have := hv g e.symm; omega))
  · exact ((h.blw.setCell (Nat.le_refl _) _).alloc (by rw [hsz]; omega) _).grown hg (by simp [World.setCell]; omega) (fun j hj => by have := hv j hj; omega)

set_option maxRecDepth 100000 in
set_option maxHeartbeats 2000000 in
theorem reachm_any (aa n hi : Nat) (adj : Nat → List Nat) (w : World) (hA : IsAdj w hi aa n adj) (hn : n ≤ 256) (hadj : ∀ v, v < n → ∀ x ∈ adj v, x < n) (hdeg : ∀ v, v < n → (adj v).length ≤ 1024) :
    Calls Yba.prog 14 #[.slice (some ⟨aa, 0, none⟩) n n] w fun e w' =>
      e = .returned (.slice (some ⟨w.heap.size, 0, none⟩) n n) ∧ IsReach w' w'.heap.size w.heap.size n adj ∧ Below w.heap.size w w' ∧ w.heap.size < w'.heap.size := by
  have h41 := make_n Yba.underlying41 Yba.info24 rfl (by omega) n (by omega)
  have h24 := make_n Yba.underlying24 Yba.info4 rfl (by omega) n (by omega)
  obtain ⟨ra, hra⟩ : ∃ ra, ra = w.heap.size := ⟨_, rfl⟩
  have HRA : Hid (ra = w.heap.size) := hra
  have HA : Hid (IsAdj w hi aa n adj ∧ (∀ v, v < n → ∀ x ∈ adj v, x < n) ∧ (∀ v, v < n → (adj v).length ≤ 1024)) := ⟨hA, hadj, hdeg⟩
  have P0 : Hid (PR (w.alloc (.cells (madeCells #[.slice none 0 0] n) 24)) ra n adj 0 ∧ Below ra w (w.alloc (.cells (madeCells #[.slice none 0 0] n) 24))) := by
    rw [hra]
    refine ⟨⟨fun i hi => ⟨_, (arr_made w (.slice none 0 0) n 24 i hi).1, (arr_made w (.slice none 0 0) n 24 i hi).2⟩, fun s hs => by omega, by simp⟩, (Below.refl _ _).alloc (Nat.le_refl _) _⟩
  have haar : Hid (aa < ra ∧ hi ≤ ra) := by rw [hra]; have := hA.aalt; have := hA.le; exact ⟨by omega, by omega⟩
  clear hA hadj hdeg
  obtain ⟨i3, hi1, hi2, hi3, hi4⟩ := info3
  have HI : Hid (Yba.prog.info? 3 = some i3 ∧ i3.zero = some (.int .i64 0) ∧ i3.size = 1 ∧ i3.bytes = 8) := ⟨hi1, hi2, hi3, hi4⟩
  clear hi1 hi2 hi3 hi4
  go_enter Yba.func14, Yba.ntmps14
  go_wp2
  rw [← hra]
  clear hra
  obtain ⟨W0, hW0⟩ : ∃ W0, W0 = w.alloc (.cells (madeCells #[.slice none 0 0] n) 24) := ⟨_, rfl⟩
  rw [← hW0] at P0 ⊢
  clear hW0 h41
  go_loopw [5] (fun i wr => ∃ ss : Nat, i = .int .i64 (ss : Int) ∧ ss ≤ n ∧ Hid (PR wr ra n adj ss ∧ Below ra w wr)) (fun i _ => n - (intOf i).toNat)
  case atStart => exact ⟨0, rfl, by omega, P0.out⟩
  case round =>
    obtain ⟨ss, rfl, hsn, HP⟩ := hrel
    by_cases hlt : ss < n
    · have hlt' : (ss : Int) < (n : Int) := by omega
      have hdl : decide ((ss : Int) < (n : Int)) = true := by simp; omega
      have hdl2 : decide (ss < n) = true := by simp; omega
      obtain ⟨g, hg⟩ : ∃ g, g = wr.heap.size := ⟨_, rfl⟩
      have HG : Hid (g = wr.heap.size) := hg
      obtain ⟨am0, am1⟩ := arr_made wr (.bool false) n 4 ss hlt
      go_wp2
      rw [← hg]
      obtain ⟨W1, hW1⟩ : ∃ W1, W1 = (wr.alloc (.cells ((madeCells #[.bool false] n).setIfInBounds ss (.bool true)) 4)).alloc (.cells #[.int .i64 (ss : Int)] 3) := ⟨_, rfl⟩
      rw [← hW1]
      have R1 : Hid (RW wr W1 g n (fun i => if i = ss then true else false) [ss] (.slice (some ⟨g + 1, 0, none⟩) 1 1)) := by rw [hW1]; exact rw_start wr g n ss hg hlt
      clear hW1 am0 am1 hg
      obtain ⟨wo, rfl⟩ : ∃ wo : World, wo = wr := ⟨_, rfl⟩
      go_loopw [7] (fun v wi => ∃ (f : Nat → Bool) (st : List Nat), Hid (WL adj n ss f st ∧ RW wo wi g n f st v)) (fun v wi => rwM adj wo g n ss v wi)
      case atStart => exact ⟨_, _, wl_start adj n ss hlt, R1.out⟩
      case round =>
        obtain ⟨f, st, HW, HM⟩ := rw_min hrel
        clear hrel R1
        have HAI : Hid (Below hi w wr) := ((HP.out.2.mono haar.out.2).trans (HW.out.2.blw.mono (by have := haar.out.2; have := HP.out.1.lt; have := HG.out; omega)))
        rcases List.eq_nil_or_concat st with hst | ⟨st', x, hst⟩
        · subst hst
          obtain ⟨a7, c7, hv7, -⟩ := row_form HW.out.2.row
          subst hv7
          have hp3 : PR wr ra n adj ss := HP.out.1.below (by have h3 := HW.out.2.blw; rw [HG.out] at h3; exact h3)
          obtain ⟨vv, k0, k1⟩ := hp3.cells ss hlt
          have HP3 : Hid (PR wr ra n adj ss) := hp3
          clear hp3
          go_wp2
          go_roundw
          case rel =>
            refine ⟨ss + 1, by go_num, by omega, ?_⟩
            refine ⟨HP3.out.push hlt (by rw [HG.out]; exact HP.out.1.lt) (by have := HW.out.2.le; omega) (fun x hx => (HW.out.2.arr x hx).1) (wl_end HA.out.2.1 hlt HW.out.1), ?_⟩
            exact (HP.out.2.trans (HW.out.2.blw.mono (by rw [HG.out]; exact Nat.le_of_lt HP.out.1.lt))).setCell (Nat.le_refl _) _
          case measure => simp [intOf]; omega
        · obtain rfl : st = st' ++ [x] := by simpa using hst
          clear hst
          obtain ⟨k, hk⟩ : ∃ k, k = st'.length := ⟨_, rfl⟩
          have hlen : (st' ++ [x]).length = k + 1 := by simp [hk]
          have HR : Hid (wr.ownsRow (g + 1) 3 1 u7 (k + 1) (ints (st' ++ [x]))) := by have h3 := HW.out.2.row; rw [hlen] at h3; exact h3
          obtain ⟨a7, c7, hv7, hc7, hc72, ha7, hz7⟩ := row_form HR.out
          subst hv7
          obtain ⟨gs, rfl⟩ : ∃ gs, a7 = some ⟨gs, 0, none⟩ := by
            cases a7 with
            | none => have := (hz7 rfl).1; omega
            | some ad => obtain ⟨gs, e, _⟩ := ha7 ad rfl; exact ⟨gs, by rw [e]⟩
          have cx : wr.cell? ⟨gs, k, none⟩ = some (.int .i64 (x : Int)) := by
            rw [HR.out.cellAt k (by omega)]
            simp [hk]
          have hkb : k ≤ 256 := by have h3 := HW.out.1.sz; rw [hlen] at h3; omega
          have h27 := fun W => sliceH27 (a := some ⟨gs, 0, none⟩) (fun ad hd => ⟨gs, by injection hd with hd; exact hd.symm⟩) (k + 1) c7 k (by omega) W
          have HK : Hid (k = st'.length) := hk
          have hxn : x < n := (HW.out.1.on x (by simp)).1
          have HAD : Hid (IsAdj wr hi aa n adj) := HA.out.1.below HAI.out
          obtain ⟨xa, xc, x0, hxr⟩ := HAD.out.row x hxn
          have HXR : Hid (∀ (j y : Nat), (adj x)[j]? = some y → ∃ g, xa = some ⟨g, 0, none⟩ ∧ g < hi ∧ wr.cell? ⟨g, j, none⟩ = some (.int .i64 (y : Int))) := hxr
          obtain ⟨l, hl⟩ : ∃ l, l = (adj x).length := ⟨_, rfl⟩
          have HL : Hid (l = (adj x).length) := hl
          rw [← hl] at x0
          have hlb : l ≤ 1024 := by rw [hl]; exact HA.out.2.2 x hxn
          have HC7 : Hid (k + 1 ≤ c7 ∧ c7 ≤ maxLen) := ⟨hc7, hc72⟩
          clear hk hlen hxr hl hc7 hc72 ha7 hz7
          go_wp2
          clear cx h27 x0
          obtain ⟨wi, rfl⟩ : ∃ wi : World, wi = wr := ⟨_, rfl⟩
          go_loopw [7, 46] (fun v i wj => ∃ (ii : Nat) (f : Nat → Bool) (st : List Nat), i = .int .i64 (ii : Int) ∧ ii ≤ l ∧ Hid (WE adj n ss x ii f st ∧ RW wo wj g n f st v ∧ 2 * cF f n + st.length + 1 ≤ rwM adj wo g n ss (.slice (some ⟨gs, 0, none⟩) (k + 1) c7) wi)) (fun _ i _ => l - (intOf i).toNat)
          case atStart =>
            refine ⟨0, f, st', rfl, by omega, wl_pop HW.out.1, ⟨HW.out.2.arr, ?_, HW.out.2.blw, HW.out.2.le⟩, ?_⟩
            · have h3 := row_take HR.out (j := k) (by omega)
              rw [HK.out] at h3 ⊢
              simpa using h3
            · have h3 := HM.out
              simp only [List.length_append, List.length_cons, List.length_nil] at h3
              omega
          case round =>
            obtain ⟨ii, f2, st2, rfl, hil, HJ⟩ := hrel
            by_cases hil2 : ii < l
            · obtain ⟨y, hy⟩ : ∃ y, (adj x)[ii]? = some y := ⟨_, List.getElem?_eq_getElem (by rw [← HL.out]; exact hil2)⟩
              have HY : Hid ((adj x)[ii]? = some y) := hy
              obtain ⟨gg, hxa, hgg, hyc⟩ := HXR.out ii y hy
              subst hxa
              have hyn : y < n := HA.out.2.1 x hxn y (List.mem_of_getElem? hy)
              have cy : wr.cell? ⟨gg, ii, none⟩ = some (.int .i64 (y : Int)) := by
                rw [World.cell?_of_block (w := wo) (by exact HJ.out.2.1.blw.block gg (by have := haar.out.2; have := HP.out.1.lt; have := HG.out; omega)), ← World.cell?_of_block (w := wo) (w' := wi) (by exact HW.out.2.blw.block gg (by have := haar.out.2; have := HP.out.1.lt; have := HG.out; omega))]
                exact hyc
              obtain ⟨r0, r1⟩ := HJ.out.2.1.arr y hyn
              have hil3 : (ii : Int) < (l : Int) := by omega
              clear hy hyc
              cases hf : f2 y with
              | true =>
                simp only [hf] at r0
                have HF : Hid (f2 y = true) := hf
                clear hf
                go_wp2
                go_roundw
                case rel => exact ⟨ii + 1, f2, st2, by go_num, by omega, we_skip HJ.out.1 HY.out HF.out, HJ.out.2⟩
                case measure => simp [intOf]; omega
              | false =>
                simp only [hf] at r0
                have HF : Hid (f2 y = false) := hf
                clear hf
                obtain ⟨k2, hk2⟩ : ∃ k2, k2 = st2.length := ⟨_, rfl⟩
                have HK2 : Hid (k2 = st2.length) := hk2
                have hk2b : Hid (k2 + 1 ≤ maxLen ∧ (k2 + 1) * 8 ≤ 140737488355328) := by
                  have h3 := HJ.out.1.sz
                  rw [← hk2] at h3
                  unfold Hid maxLen
                  omega
                have HRO : Hid (∀ o, ((wr.setCell ⟨g, y, none⟩ (.bool true)).alloc o).ownsRow (g + 1) 3 1 u7 k2 (ints st2) ∧ g + 1 ≤ ((wr.setCell ⟨g, y, none⟩ (.bool true)).alloc o).heap.size) := by
                  intro o
                  rw [hk2]
                  exact ⟨(ownsRow_setCell_below HJ.out.2.1.row (by simp) _).alloc o, by have := HJ.out.2.1.le; simp [World.setCell]; omega⟩
                clear hk2
                go_wp2_with (at_builtin; refine wpList_append_lies _ rfl _ _ 27 rfl (g + 1) 3 i3 (.int .i64 0) 1 8 Yba.underlying27 HI.out.1 HI.out.2.1 HI.out.2.2.1 HI.out.2.2.2 rfl (by decide) u7 k2 (ints st2) rfl (HRO.out _).1 ⟨wr.heap.size, 0, none⟩ 1 1 [.int .i64 (y : Int)] rfl rfl (by have h3 := news_one (wr.setCell ⟨g, y, none⟩ (.bool true)) (.int .i64 (y : Int)) 3; simpa [World.setCell] using h3) (one_int _) (by decide) hk2b.out.1 hk2b.out.2 (HRO.out _).2 _ rfl ?_)
                intro g5 cap5 w5 hown5 hgrow5 hat5 hlt5
                have R5 : Hid (RW wo w5 g n (fun i => if i = y then true else f2 i) (st2 ++ [y]) (.slice (some ⟨g5, 0, none⟩) (k2 + 1) cap5)) := by
                  rw [HK2.out] at hown5 ⊢
                  exact HJ.out.2.1.push hyn hown5 hgrow5
                clear hown5 hgrow5 hat5 hlt5
                go_wp2
                go_roundw
                case rel =>
                  refine ⟨ii + 1, _, st2 ++ [y], by go_num, by omega, we_new HJ.out.1 hxn HY.out hyn HF.out, R5.out, ?_⟩
                  have h3 := cF_set f2 y HF.out n hyn
                  have h4 := HJ.out.2.2
                  simp only [List.length_append, List.length_cons, List.length_nil]
                  omega
                case measure => simp [intOf]; omega
            · obtain rfl : ii = l := by omega
              have HE : Hid (WL adj n ss f2 st2) := we_end (by have h3 := HJ.out.1; rw [HL.out] at h3; exact h3)
              go_wp2
              go_roundw
              case rel => exact ⟨f2, st2, HE.out, HJ.out.2.1⟩
              case measure =>
                have h3 := rw_le HE.out HJ.out.2.1
                have h4 := HJ.out.2.2
                omega
    · obtain rfl : ss = n := by omega
      go_wp2
      go_ret
      refine ⟨by rw [HRA.out]; rfl, ?_, by rw [← HRA.out]; exact HP.out.2, by rw [← HRA.out]; exact HP.out.1.lt⟩
      refine ⟨Nat.le_refl _, fun s hs => ?_, by rw [← HRA.out]; exact HP.out.1.lt⟩
      obtain ⟨g, h1, h2, h3, f, h4, h5⟩ := HP.out.1.rows s hs
      rw [← HRA.out]
      exact ⟨g, h1, h3, f, h4, h5⟩
end Go.Proofs.Ybulkblzg
