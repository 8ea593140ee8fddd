import Derived.Test.YbulkbmbyW3
namespace Go.Proofs.Ybulkbmby
open Go.RowKit
set_option linter.unusedVariables false
set_option linter.unusedSimpArgs false

theorem up_at64 {d : Int} (h0 : 0 ≤ d) (h : d < 16) (w : World) : (Instr.index 9 (.string { data := #[48, 49, 50, 51, 52, 53, 54, 55, 56, 57, 65, 66, 67, 68, 69, 70] }) (.int .u64 d)).run Yba.prog w = .ok (.int .u8 (upF d.toNat)) w := by
  obtain ⟨k, rfl⟩ := Int.eq_ofNat_of_zero_le h0
  rcases sixteen (show k < 16 by omega) with rfl | rfl | rfl | rfl | rfl | rfl | rfl | rfl | rfl | rfl | rfl | rfl | rfl | rfl | rfl | rfl <;> kernel_rfl
theorem lo_at64 {d : Int} (h0 : 0 ≤ d) (h : d < 16) (w : World) : (Instr.index 9 (.string { data := #[48, 49, 50, 51, 52, 53, 54, 55, 56, 57, 97, 98, 99, 100, 101, 102] }) (.int .u64 d)).run Yba.prog w = .ok (.int .u8 (loF d.toNat)) w := by
  obtain ⟨k, rfl⟩ := Int.eq_ofNat_of_zero_le h0
  rcases sixteen (show k < 16 by omega) with rfl | rfl | rfl | rfl | rfl | rfl | rfl | rfl | rfl | rfl | rfl | rfl | rfl | rfl | rfl | rfl <;> kernel_rfl

theorem lt_of_div {v t : Int} {m : Nat} (h : t = v / 16 ^ m) (h0 : t = 0) : v < 16 ^ m := by
  have hp : (0 : Int) < 16 ^ m := Int.pow_pos (by omega)
  rw [h0] at h
  have := Int.lt_mul_ediv_self_add (x := v) hp
  rw [← h] at this
  omega

theorem lt16 {v t : Int} {m : Nat} (hv0 : 0 ≤ v) (hv1 : v < 18446744073709551616) (h : t = v / 16 ^ m) (h0 : ¬ t = 0) (hm : m ≤ 16) : m < 16 := by
  by_cases e : m = 16
  · subst e
    exfalso
    apply h0
    rw [h]
    exact Int.ediv_eq_zero_of_lt hv0 (by simpa using hv1)
  · omega

theorem div_step (v : Int) (m : Nat) : v / 16 ^ m / 16 = v / 16 ^ (m + 1) := by
  rw [Int.pow_succ, Int.ediv_ediv_of_nonneg (Int.le_of_lt (Int.pow_pos (by omega)))]

/-- The buffer behind k rounds. -/
def Built (w wr : World) (v : Int) (Wn k : Nat) (cs : List Int) (rest : List Value) : Prop :=
  cs.length = k ∧ rest.length = Wn - k ∧ wr.heap[w.heap.size]? = some (.cells (cs.map (Value.int .u8) ++ rest).toArray 5 (0, 0)) ∧ Below w.heap.size w wr ∧
    (∀ j, j < k → hexd (cs.getD j 0) = some (v / 16 ^ (Wn - 1 - j) % 16)) ∧ ∀ j, 0 ≤ cs.getD j 0 ∧ cs.getD j 0 < 256

theorem built_start {w wr : World} {v : Int} {Wn : Nat} {cur : List Value} (hb : Below w.heap.size w wr) (hl : cur.length = Wn) (hh : wr.heap[w.heap.size]? = some (.cells cur.toArray 5 (0, 0))) : Built w wr v Wn 0 [] cur :=
  ⟨rfl, by omega, by simpa using hh, hb, fun j hj => absurd hj (Nat.not_lt_zero _), fun j => by simp⟩

theorem Built.cell {w wr : World} {v : Int} {Wn k : Nat} {cs : List Int} {rest : List Value} (h : Built w wr v Wn k cs rest) (hk : k < Wn) :
    ∃ o, wr.cell? ⟨w.heap.size, k, none⟩ = some o ∧ wr.frozen? ⟨w.heap.size, k, none⟩ = false := by
  obtain ⟨h1, h2, h3, _⟩ := h
  have hl : k < (cs.map (Value.int .u8) ++ rest).length := by simp; omega
  refine ⟨(cs.map (Value.int .u8) ++ rest)[k], ?_, ?_⟩
  · rw [cell_of_heap h3]
    simp only [List.getElem?_toArray]
    exact List.getElem?_eq_getElem hl
  · simp [World.frozen?, h3]

theorem Built.step {w wr : World} {v D x : Int} {Wn k : Nat} {cs : List Int} {rest : List Value} (h : Built w wr v Wn k cs rest) (hk : k < Wn) (hx : loF D.toNat = x ∨ upF D.toNat = x) (hD : D = v / 16 ^ (Wn - 1 - k) % 16) (h0 : 0 ≤ D) (h1 : D < 16) :
    Built w (wr.setCell ⟨w.heap.size, k, none⟩ (.int .u8 x)) v Wn (k + 1) (cs ++ [x]) rest.tail := by
  obtain ⟨g1, g2, g3, g4, g5, g6⟩ := h
  have hxb : 0 ≤ x ∧ x < 256 := by
    unfold loF upF at hx
    split at hx <;> omega
  refine ⟨by simp [g1], by simp; omega, ?_, g4.setCell (Nat.le_refl _) _, fun j hj => ?_, fun j => ?_⟩
  · unfold World.setCell
    simp only [Array.getElem?_modify, if_pos, g3, Option.map_some, Option.isSome_none, Bool.false_eq_true, if_false]
    congr 2
    rw [List.setIfInBounds_toArray]
    congr 1
    cases rest with
    | nil => simp at g2; omega
    | cons r rest =>
      simp [List.set_append, g1]
  · by_cases e : j < k
    · rw [show (cs ++ [x]).getD j 0 = cs.getD j 0 by simp [List.getD, List.getElem?_append, g1, e]]
      exact g5 j e
    · obtain rfl : j = k := by omega
      rw [show (cs ++ [x]).getD j 0 = x by simp [List.getD, ← g1]]
      rw [hit (k := D.toNat) (by omega) hx, ← hD]
      congr 1
      omega
  · by_cases e : j < k
    · rw [show (cs ++ [x]).getD j 0 = cs.getD j 0 by simp [List.getD, List.getElem?_append, g1, e]]
      exact g6 j
    · by_cases e' : j = k
      · subst e'
        rw [show (cs ++ [x]).getD j 0 = x by simp [List.getD, ← g1]]
        exact hxb
      · rw [List.getD_eq_getElem?_getD, List.getElem?_eq_none (by simp; omega)]
        simp

theorem pow_mono {a b : Nat} (h : a ≤ b) : (16 : Int) ^ a ≤ 16 ^ b := by
  have := Nat.pow_le_pow_right (n := 16) (by omega) h
  exact_mod_cast this

theorem w64 {x : Int} (h0 : 0 ≤ x) (h1 : x < 100) : wrap64 x = x := by
  unfold wrap64
  omega

theorem digit_eq (v : Int) (j : Nat) (h0 : 0 ≤ v) (h1 : v < 18446744073709551616) : bits BinOp.and IntKind.u64 (v / 2 ^ (4 * j)) 15 = v / 16 ^ j % 16 := by
  have hp : (2 : Int) ^ (4 * j) = 16 ^ j := by rw [Int.pow_mul]; rfl
  rw [hp]
  have hpos : (0 : Int) < 16 ^ j := Int.pow_pos (by omega)
  have hq0 : 0 ≤ v / 16 ^ j := Int.ediv_nonneg h0 (Int.le_of_lt hpos)
  have hq1 : v / 16 ^ j ≤ v := Int.ediv_le_self _ h0
  exact bits_mask .u64 64 (by decide) wraps_u64' 4 (by decide) _ hq0 (by omega)

theorem Built.isB {w wr : World} {v : Int} {Wn : Nat} {cs : List Int} {rest : List Value} (h : Built w wr v Wn Wn cs rest) : IsB wr (some ⟨w.heap.size, 0, none⟩) Wn cs := by
  obtain ⟨g1, g2, g3, g4, g5, g6⟩ := h
  refine ⟨g1, g6, fun i hi => ⟨_, _, rfl, ?_⟩⟩
  rw [cell_of_heap g3]
  have hil : i < cs.length := by omega
  simp [List.getElem?_append, hil, List.getD]

theorem Built.parsed {w wr : World} {v : Int} {Wn : Nat} {cs : List Int} {rest : List Value} (h : Built w wr v Wn Wn cs rest) (h1 : 1 ≤ Wn) (h2 : Wn ≤ 16) (hv0 : 0 ≤ v) (hv : v < 16 ^ Wn) : parseV cs = v ∧ parseB cs = true := by
  obtain ⟨g1, g2, g3, g4, g5, g6⟩ := h
  have hp : ∀ k, k ≤ Wn → pv (cs.take k) = some (v / 16 ^ (Wn - k)) := by
    intro k
    induction k with
    | zero => intro _; rw [Nat.sub_zero, Int.ediv_eq_zero_of_lt hv0 hv]; rfl
    | succ k ih =>
      intro hk
      rw [take_snoc cs k (by omega), pv_snoc, ih (by omega), pstep_some (g5 k (by omega))]
      congr 1
      rw [show Wn - k = (Wn - 1 - k) + 1 by omega, ← div_step, show Wn - (k + 1) = Wn - 1 - k by omega]
      omega
  have hq := hp Wn (Nat.le_refl _)
  rw [List.take_of_length_le (by omega), Nat.sub_self, Int.pow_zero, Int.ediv_one] at hq
  have e : ¬ (cs.length = 0 ∨ 16 < cs.length) := by omega
  unfold parseV parseB
  rw [if_neg e, if_neg e, hq]
  exact ⟨rfl, rfl⟩

theorem row_cell {w : World} {g : Nat} {cur : List Value} {t : TypeId} (h : w.heap[g]? = some (.cells cur.toArray t (0, 0))) {j : Nat} (hj : j < cur.length) :
    ∃ o, w.cell? ⟨g, j, none⟩ = some o ∧ w.frozen? ⟨g, j, none⟩ = false := by
  refine ⟨cur[j], ?_, ?_⟩
  · rw [cell_of_heap h]
    simp [hj]
  · simp [World.frozen?, h]

theorem row_set {w : World} {g : Nat} {cur : List Value} {t : TypeId} (h : w.heap[g]? = some (.cells cur.toArray t (0, 0))) (j : Nat) (v : Value) :
    (w.setCell ⟨g, j, none⟩ v).heap[g]? = some (.cells (cur.set j v).toArray t (0, 0)) := by
  unfold World.setCell
  simp only [Array.getElem?_modify, if_pos, h, Option.map_some, Option.isSome_none, Bool.false_eq_true, if_false, List.setIfInBounds_toArray]

set_option maxRecDepth 100000 in
set_option maxHeartbeats 2000000 in
theorem round_any (v nn up : Int) (hv0 : 0 ≤ v) (hv1 : v < 18446744073709551616) (hn0 : 0 ≤ nn) (hn1 : nn < 256) (hu0 : 0 ≤ up) (hu1 : up < 65536) (w : World) :
    Calls Yba.prog 4 #[.int .u64 v, .int .u8 nn, .int .u16 up] w fun e w' => e = .returned (.bool true) ∧ Below w.heap.size w w' := by
  obtain ⟨i5, hi, hz0, hz1, hz2⟩ := info_parts Yba.info5
  have HI : Hid (Yba.prog.info? 5 = some i5 ∧ i5.zero = some (.int .u8 0) ∧ i5.size = 1 ∧ i5.bytes = 1) := ⟨hi, hz0, hz1, hz2⟩
  clear hi hz0 hz1 hz2
  go_enter Yba.func4, Yba.ntmps4
  go_wp2
  go_loop [7, 8] (fun mw t => ∃ m : Nat, 1 ≤ m ∧ m ≤ 16 ∧ mw = .int .i64 m ∧ t = .int .u64 (v / 16 ^ m)) (fun mw _ => 16 - (intOf mw).toNat)
  case atStart => exact ⟨1, by omega, by omega, rfl, by simp⟩
  case round =>
    obtain ⟨m, hm1, hm2, rfl, rfl⟩ := hrel
    obtain ⟨t, ht⟩ : ∃ t, t = v / 16 ^ m := ⟨_, rfl⟩
    rw [← ht]
    have HT : Hid (t = v / 16 ^ m) := ht
    clear ht
    by_cases h0 : t = 0
    · have hq : (t != 0) = false := by simp [h0]
      have HL : Hid (v < 16 ^ m) := lt_of_div HT.out h0
      clear h0
      have hne : ¬ (17 - (m : Int) = 0) := by omega
      have hr0 : 0 ≤ nn % (17 - (m : Int)) := Int.emod_nonneg _ hne
      have hr1 : nn % (17 - (m : Int)) < 17 - (m : Int) := Int.emod_lt_of_pos _ (by omega)
      obtain ⟨Wn, hWn⟩ : ∃ Wn : Nat, (Wn : Int) = (m : Int) + nn % (17 - (m : Int)) := ⟨((m : Int) + nn % (17 - (m : Int))).toNat, by omega⟩
      have hW1 : 1 ≤ Wn := by omega
      have hW2 : Wn ≤ 16 := by omega
      have HVW : Hid (v < 16 ^ Wn) := Int.lt_of_lt_of_le HL.out (pow_mono (by omega))
      have HWn : Hid ((Wn : Int) = (m : Int) + nn % (17 - (m : Int))) := hWn
      clear hWn hr0 hr1
      go_upto_region 6 with fail
      go_cut [9] (fun s9 wx => s9 = .int .i64 (Wn : Int) ∧ w = wx)
      case first =>
        go_wp2
        go_meet
        case rel => exact ⟨by rw [HWn.out, w64 (by have := HWn.out; omega) (by have := HWn.out; omega)], rfl⟩
      case rest =>
        obtain ⟨rfl, rfl⟩ := hcut
        clear hne HWn HL HT hq hm1 hm2
        go_wp2_with (at_make; refine wpList_make_full _ rfl _ _ 22 rfl w.heap.size 5 i5 (.int .u8 0) 1 Yba.underlying22 HI.out.1 HI.out.2.1 HI.out.2.2.1 .i64 .i64 (Wn : Int) (Wn : Int) Wn rfl rfl rfl rfl ?b1 ?b2 (Nat.le_refl _) ?_)
        case b1 => rw [HI.out.2.2.2]; omega
        case b2 => unfold maxLen; omega
        intro w1 hown hgrow
        have HB1 : Hid (Below w.heap.size w w1) := (Below.refl _ _).grown hgrow (Nat.le_refl _) (fun k h => by cases h)
        obtain ⟨cur, hcl, hch⟩ := made_heap hown
        have HCU : Hid (cur.length = Wn ∧ w1.heap[w.heap.size]? = some (.cells cur.toArray 5 (0, 0))) := ⟨hcl, hch⟩
        clear hown hgrow hcl hch
        go_wp2
        go_loopw [11] (fun i wr => ∃ (k : Nat) (cs : List Int) (rest : List Value), k ≤ Wn ∧ i = .int .i64 k ∧ Hid (Built w wr v Wn k cs rest)) (fun i _ => Wn - (intOf i).toNat)
        case atStart => exact ⟨0, [], cur, by omega, rfl, built_start HB1.out HCU.out.1 HCU.out.2⟩
        case round =>
          obtain ⟨k, cs, rest, hk, rfl, HB⟩ := hrel
          by_cases hlt : k < Wn
          · obtain ⟨o, hco, hfo⟩ := HB.out.cell hlt
            obtain ⟨D, hD⟩ : ∃ D, D = v / 16 ^ (Wn - 1 - k) % 16 := ⟨_, rfl⟩
            have eD : bits BinOp.and IntKind.u64 (v / 2 ^ (4 * (Wn - 1 - k))) 15 = D := by rw [hD]; exact digit_eq v _ hv0 hv1
            have hD0 : 0 ≤ D := by rw [hD]; exact Int.emod_nonneg _ (by omega)
            have hD1 : D < 16 := by rw [hD]; exact Int.emod_lt_of_pos _ (by omega)
            have HDe : Hid (D = v / 16 ^ (Wn - 1 - k) % 16) := hD
            clear hD
            have e1 := up_at64 hD0 hD1
            have e2 := lo_at64 hD0 hD1
            obtain ⟨x1, hx1⟩ : ∃ x, x = upF D.toNat := ⟨_, rfl⟩
            obtain ⟨x2, hx2⟩ : ∃ x, x = loF D.toNat := ⟨_, rfl⟩
            rw [← hx1] at e1
            rw [← hx2] at e2
            have HX : Hid (x1 = upF D.toNat ∧ x2 = loF D.toNat) := ⟨hx1, hx2⟩
            clear hx1 hx2
            go_wp2
            · go_roundw
              case rel => exact ⟨k + 1, cs ++ [x1], rest.tail, by omega, by go_num, HB.out.step hlt (.inr HX.out.1.symm) HDe.out hD0 hD1⟩
              case measure => simp [intOf]; omega
            · go_roundw
              case rel => exact ⟨k + 1, cs ++ [x2], rest.tail, by omega, by go_num, HB.out.step hlt (.inl HX.out.2.symm) HDe.out hD0 hD1⟩
              case measure => simp [intOf]; omega
          · obtain rfl : k = Wn := by omega
            have HIB : Hid (IsB wr (some ⟨w.heap.size, 0, none⟩) k cs) := HB.out.isB
            have HPV : Hid (parseV cs = v ∧ parseB cs = true) := HB.out.parsed hW1 hW2 hv0 HVW.out
            have HP6 : Hid (∀ W, Below wr.heap.size wr W → Calls Yba.prog 6 #[.slice (some ⟨w.heap.size, 0, none⟩) k k] W fun e w' => e = .returned (.tuple #[.int .u64 v, .bool true]) ∧ w' = W) := by
              intro W hW
              have h5 := parse_any (some ⟨w.heap.size, 0, none⟩) k k cs W (HIB.out.below hW)
              rw [HPV.out.1, HPV.out.2] at h5
              exact h5
            have HBW : Hid (Below w.heap.size w wr) := HB.out.2.2.2.1
            have HCS : Hid (cs.length = k) := HB.out.1
            clear HB HPV HCU HB1
            have hvv : (v != v) = false := by simp
            go_wp2_with fail
            refine (HP6.out _ (Below.refl _ _)).mono ?_
            rintro e w2 ⟨rfl, rfl⟩
            go_wp2_with (at_make; refine wpList_make_full _ rfl _ _ 22 rfl w2.heap.size 5 i5 (.int .u8 0) 1 Yba.underlying22 HI.out.1 HI.out.2.1 HI.out.2.2.1 .i64 .i64 17 17 17 rfl rfl rfl rfl ?b3 ?b4 (Nat.le_refl _) ?_)
            case b3 => rw [HI.out.2.2.2]; omega
            case b4 => unfold maxLen; omega
            intro w3 hown hgrow
            have HB3 : Hid (Below w2.heap.size w2 w3) := (Below.refl _ _).grown hgrow (Nat.le_refl _) (fun k h => by cases h)
            obtain ⟨cur, hcl, hch⟩ := made_heap hown
            have HCU : Hid (cur.length = 17 ∧ w3.heap[w2.heap.size]? = some (.cells cur.toArray 5 (0, 0))) := ⟨hcl, hch⟩
            clear hown hgrow hcl hch
            go_wp2
            go_loopw [16] (fun i wr => ∃ (j : Nat) (cur : List Value), j ≤ 17 ∧ i = .int .i64 j ∧ Hid (cur.length = 17 ∧ wr.heap[w2.heap.size]? = some (.cells cur.toArray 5 (0, 0)) ∧ Below w2.heap.size w2 wr)) (fun i _ => 17 - (intOf i).toNat)
            case atStart => exact ⟨0, cur, by omega, rfl, HCU.out.1, HCU.out.2, HB3.out⟩
            case round =>
              obtain ⟨j, cur', hj, rfl, HR⟩ := hrel
              by_cases hjl : (j : Int) < 17 - (k : Int)
              · have hj17 : j < 17 := by omega
                obtain ⟨o, hco, hfo⟩ := row_cell HR.out.2.1 (show j < cur'.length by have := HR.out.1; omega)
                go_wp2
                go_roundw
                case rel => exact ⟨j + 1, cur'.set j (.int .u8 48), by omega, by go_num, by simp [HR.out.1], row_set HR.out.2.1 _ _, HR.out.2.2.setCell (Nat.le_refl _) _⟩
                case measure => simp [intOf]; omega
              · have HIB2 : Hid (IsB wr (some ⟨w.heap.size, 0, none⟩) k cs) := HIB.out.below HR.out.2.2
                go_wp2_with (refine wpList_copy_splice rfl _ _ 22 22 rfl 5 Yba.underlying22 Yba.size5 _ (some ⟨w.heap.size, 0, none⟩) _ _ k k rfl rfl w2.heap.size (17 - k) cur' 5 HR.out.2.1 (cs.map (Value.int .u8)) ?d1 ?d2 ?d3 (ints_oneCell .u8 cs) w2.heap.size w2 HR.out.2.2 (Nat.le_refl _) ?_)
                case d1 => rw [HCS.out, show 17 - (17 - k) = k by omega]; simp
                case d2 =>
                  intro _ j a hja
                  have hjl' : j < cs.length := by
                    by_cases hl : j < cs.length
                    · exact hl
                    · rw [List.getElem?_eq_none (by omega)] at hja; cases hja
                  obtain ⟨b', off', he, hc⟩ := HIB2.out.2.2 j (by have := HCS.out; omega)
                  simp only [Option.some.injEq, Addr.mk.injEq, and_true] at he
                  obtain ⟨rfl, rfl⟩ := he
                  rw [Nat.zero_add] at hc
                  rw [hc]
                  simp [List.getD, hja]
                case d3 => rw [HCS.out, HR.out.1]; omega
                intro w4 _ hb4
                have HB4 : Hid (Below w.heap.size w w4) := HBW.out.trans (hb4.mono HBW.out.size)
                clear hb4
                go_wp2_with fail
                refine (parse_no _ 17 17 _ (.inr (by omega))).mono ?_
                rintro e w5 ⟨rfl, rfl⟩
                go_wp2
                go_ret
                exact ⟨rfl, HB4.out⟩
    · have hq : (t != 0) = true := by simp [h0]
      have hm3 : m < 16 := lt16 hv0 hv1 HT.out h0 hm2
      clear h0
      go_wp2
      go_round
      case rel => exact ⟨m + 1, by omega, by omega, by go_num, by rw [HT.out, div_step]⟩
      case measure => simp [intOf]; omega
end Go.Proofs.Ybulkbmby
