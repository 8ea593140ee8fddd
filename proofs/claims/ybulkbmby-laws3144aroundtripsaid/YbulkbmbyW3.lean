import Derived.Test.YbulkbmbyW5
import Derived.Laws.CopyOwn
import Derived.Deep.DeepCutAuto
import Derived.Deep.CutBlock
import Derived.Deep.QuietTactic
import Derived.BigQuiet
namespace Go.Proofs.Ybulkbmby
open Go.RowKit
set_option linter.unusedVariables false
set_option linter.unusedSimpArgs false

theorem Yba.info5 : (Yba.prog.info? 5).map (fun i => (i.zero, i.size, i.bytes)) = some (some (.int .u8 0), 1, 1) := by kernel_rfl
theorem Yba.size5 : (Yba.prog.info? 5).map (·.size) = some 1 := by kernel_rfl

theorem cell_lt {w : World} {p : Addr} {v : Value} (h : w.cell? p = some v) : p.block < w.heap.size := by
  unfold World.cell? at h
  by_cases hb : p.block < w.heap.size
  · exact hb
  · rw [Array.getElem?_eq_none (by omega)] at h
    simp at h

theorem IsB.below {w w' : World} {a : Option Addr} {n : Nat} {zs : List Int} (h : IsB w a n zs) (hb : Below w.heap.size w w') : IsB w' a n zs := by
  obtain ⟨h1, h2, h3⟩ := h
  refine ⟨h1, h2, fun i hi => ?_⟩
  obtain ⟨b, off, e, hc⟩ := h3 i hi
  exact ⟨b, off, e, by rw [hb.cell (cell_lt hc)]; exact hc⟩

theorem cell_of_heap {w : World} {b : Nat} {cs : Array Value} {t : TypeId} {m : Nat × Nat} (h : w.heap[b]? = some (.cells cs t m)) (o : Nat) : w.cell? ⟨b, o, none⟩ = cs[o]? := by
  unfold World.cell?
  simp only [h]
  rfl

/-- The row behind copy: the bytes that were copied. -/
def Copied (w : World) (g : Nat) (zs : List Int) : Prop := ∀ i, i < zs.length → w.cell? ⟨g, i, none⟩ = some (.int .u8 (zs.getD i 0))

theorem made_heap {w : World} {base n : Nat} {xs : List Value} {g : Nat} (h : w.ownsRow base 5 1 (.slice (some ⟨g, 0, none⟩) n n) n xs) : ∃ cur : List Value, cur.length = n ∧ w.heap[g]? = some (.cells cur.toArray 5 (0, 0)) := by
  obtain ⟨h1, h2⟩ := h
  rcases h2 with ⟨he, _⟩ | ⟨g', cap', cur, hv, hg, hh, _, _, hs, _⟩
  · cases he
  · cases hv
    exact ⟨cur.toList, by simpa using hs, by simpa using hh⟩

theorem copied_of {w : World} {g n : Nat} {cur : List Value} {zs : List Int} {t : TypeId} {m : Nat × Nat} (hl : cur.length = n) (hz : zs.length = n) (h : w.heap[g]? = some (.cells (splice cur 0 (zs.map (Value.int .u8))).toArray t m)) : Copied w g zs := by
  intro i hi
  rw [cell_of_heap h]
  simp [splice, hi, List.getD, List.getElem?_append]

theorem src_of {w : World} {a : Option Addr} {n : Nat} {zs : List Int} (h : IsB w a n zs) (h0 : 0 < n) : ∃ ad, a = some ad ∧ ∀ j v, (zs.map (Value.int .u8))[j]? = some v → w.cell? (ad.add j) = some v := by
  obtain ⟨b, off, he, hc⟩ := h.at h0
  refine ⟨_, he, fun j v hj => ?_⟩
  have hjl : j < zs.length := by
    by_cases hl : j < zs.length
    · exact hl
    · rw [List.getElem?_eq_none (by simp; omega)] at hj; cases hj
  have := hc j (by have := h.1; omega)
  have e : (⟨b, off, none⟩ : Addr).add j = ⟨b, off + j, none⟩ := by
    unfold Addr.add; split
    · rename_i h0; subst h0; rfl
    · rfl
  rw [e, this]
  simp [hjl] at hj
  rw [← hj]
  simp [List.getD, hjl]

theorem below_drewN {B : Nat} {a w : World} (h : Below B a w) (q : Nat) : Below B a (w.drewN q) := ⟨h.os, h.tape, h.output, h.size, h.block⟩

theorem parse_false {zs : List Int} (h : parseB zs = false) : parseV zs = 0 := by
  unfold parseB at h
  unfold parseV
  split
  · rfl
  · rename_i hn
    rw [if_neg hn] at h
    cases hp : pv zs with
    | none => rfl
    | some v => rw [hp] at h; cases h

set_option maxHeartbeats 2000000 in
theorem model_small (a : Option Addr) (n c : Nat) (zs : List Int) (w : World) (h : IsB w a n zs) (hn : n ≤ 1024) :
    Calls Yba.prog 3 #[.slice a n c] w fun e w' => e = .returned (.bool true) ∧ Below w.heap.size w w' := by
  obtain ⟨i5, hi, hz0, hz1, hz2⟩ := info_parts Yba.info5
  have HI : Hid (Yba.prog.info? 5 = some i5 ∧ i5.zero = some (.int .u8 0) ∧ i5.size = 1 ∧ i5.bytes = 1) := ⟨hi, hz0, hz1, hz2⟩
  clear hi hz0 hz1 hz2
  have H : Hid (IsB w a n zs) := h
  clear h
  go_enter Yba.func3, Yba.ntmps3
  go_wp2_with (at_make; refine wpList_make_full _ rfl _ _ 22 rfl w.heap.size 5 i5 (.int .u8 0) 1 Yba.underlying22 HI.out.1 HI.out.2.1 HI.out.2.2.1 .i64 .i64 (n : Int) (n : Int) n rfl rfl rfl rfl ?b1 ?b2 (Nat.le_refl _) ?_)
  case b1 => rw [HI.out.2.2.2]; omega
  case b2 => unfold maxLen; omega
  intro w1 hown hgrow
  have HB1 : Hid (Below w.heap.size w w1) := (Below.refl _ _).grown hgrow (Nat.le_refl _) (fun k h => by cases h)
  obtain ⟨cur, hcl, hch⟩ := made_heap hown
  have HCU : Hid (cur.length = n ∧ w1.heap[w.heap.size]? = some (.cells cur.toArray 5 (0, 0))) := ⟨hcl, hch⟩
  clear hown hgrow hcl hch
  have H1 : Hid (IsB w1 a n zs) := H.out.below HB1.out
  go_wp2_with (refine wpList_copy_splice rfl _ _ 22 22 rfl 5 Yba.underlying22 Yba.size5 (some ⟨w.heap.size, 0, none⟩) a n n n c rfl rfl w.heap.size 0 cur 5 HCU.out.2 (zs.map (Value.int .u8)) ?c1 ?c2 ?c3 (ints_oneCell .u8 zs) w.heap.size w HB1.out (Nat.le_refl _) ?_)
  case c1 => simp [H.out.1]
  case c2 =>
    intro hpos
    have X := src_of H1.out (by have h5 := H.out.1; first | omega | (simp at hpos; omega) | (rw [← h5]; exact List.length_pos_of_ne_nil hpos))
    first | exact ⟨rfl, X⟩ | exact X | simpa using X
  case c3 => simp [H.out.1, HCU.out.1]
  intro w2 HH2 hb2
  have H2 : Hid (IsB w2 a n zs) := H.out.below hb2
  have HB2 : Hid (Below w.heap.size w w2) := hb2
  have HCP : Hid (Copied w2 w.heap.size zs) := copied_of HCU.out.1 H.out.1 HH2.out
  clear hb2 HH2 HCU H1 HB1
  obtain ⟨ok, hok⟩ : ∃ ok : Bool, ok = decide (1 ≤ n ∧ n ≤ 16) := ⟨_, rfl⟩
  have HOK : Hid (ok = decide (1 ≤ n ∧ n ≤ 16)) := hok
  clear hok
  go_upto_region 5 with fail
  go_cut [4] (fun s4 wx => s4 = .bool ok ∧ w2 = wx)
  case first =>
    by_cases h1 : 1 ≤ n
    · by_cases h16 : n ≤ 16
      · have HE : Hid (true = ok) := by unfold Hid; rw [HOK.out, decide_eq_true ⟨h1, h16⟩]
        go_wp2
        go_meet
        case rel => exact ⟨congrArg Value.bool (Eq.trans (by first | rfl | exact decide_eq_true (by omega)) HE.out), rfl⟩
      · have HE : Hid (false = ok) := by unfold Hid; rw [HOK.out, decide_eq_false (fun h => h16 h.2)]
        go_wp2
        go_meet
        case rel => exact ⟨congrArg Value.bool (Eq.trans (by first | rfl | exact decide_eq_false (by omega)) HE.out), rfl⟩
    · have HE : Hid (false = ok) := by unfold Hid; rw [HOK.out, decide_eq_false (fun h => h1 h.1)]
      go_wp2
      go_meet
      case rel => exact ⟨congrArg Value.bool (Eq.trans (by first | rfl | exact decide_eq_false (by omega)) HE.out), rfl⟩
  case rest =>
    obtain ⟨rfl, rfl⟩ := hcut
    obtain ⟨PB, hPB⟩ : ∃ PB, PB = parseB zs := ⟨_, rfl⟩
    obtain ⟨PV, hPV⟩ : ∃ PV, PV = parseV zs := ⟨_, rfl⟩
    have HPV : Hid (PB = parseB zs ∧ PV = parseV zs) := ⟨hPB, hPV⟩
    clear hPB hPV
    go_upto_block 0 with fail
    go_cut [4, 5] (fun s4 s5 wx => ∃ u : Int, s4 = .bool PB ∧ s5 = .int .u64 u ∧ w2 = wx ∧ Hid (PB = true → u = PV))
    case first =>
      cases ok with
      | false =>
        have HF : Hid (PB = false) := by
          have h5 := of_decide_eq_false HOK.out.symm
          unfold Hid
          rw [HPV.out.1]
          unfold parseB
          rw [if_pos (by rw [H.out.1]; omega)]
        go_wp2
        refine wp_loop_rounds 1 ?_
        rw [rounds_succ]
        go_wp2
        all_goals
          go_meet
          case rel => exact ⟨0, by rw [HF.out], rfl, rfl, fun h => by rw [HF.out] at h; cases h⟩
      | true =>
        have hnn : 1 ≤ n ∧ n ≤ 16 := of_decide_eq_true HOK.out.symm
        have HPB : Hid (PB = (pv zs).isSome ∧ PV = (pv zs).getD 0) := by
          have e : ¬ (zs.length = 0 ∨ 16 < zs.length) := by rw [H.out.1]; omega
          refine ⟨HPV.out.1.trans ?_, HPV.out.2.trans ?_⟩
          · unfold parseB; rw [if_neg e]
          · unfold parseV; rw [if_neg e]
        obtain ⟨h1, h16⟩ := hnn
        obtain ⟨b, off, ha, hc⟩ := H2.out.at h1
        subst ha
        have HC : Hid (∀ i, i < n → w2.cell? ⟨b, off + i, none⟩ = some (.int .u8 (zs.getD i 0))) := hc
        clear hc
        go_wp2
        go_loop [4, 5, 6] (fun s4 s5 i => ∃ (k : Nat) (u : Int), k ≤ n ∧ i = .int .i64 k ∧ s4 = .bool true ∧ s5 = .int .u64 u ∧ Hid (pv (zs.take k) = some u ∧ 0 ≤ u ∧ u < 16 ^ k)) (fun _ _ i => n - (intOf i).toNat)
        case atStart => exact ⟨0, 0, by omega, rfl, rfl, rfl, by simp [pv], by omega, by simp⟩
        case round =>
          obtain ⟨k, u, hk, rfl, rfl, rfl, HU⟩ := hrel
          by_cases hlt : k < n
          · have cz := HC.out k hlt
            have ts := take_snoc zs k (by have := H.out.1; omega)
            generalize zs.getD k 0 = z at *
            have HP : Hid (pv (zs.take (k + 1)) = pstep (some u) z) := by
              unfold Hid; rw [ts, pv_snoc, HU.out.1]
            clear ts
            have hpw : u < 1152921504606846976 := Int.lt_of_lt_of_le HU.out.2.2 (pow_le (by omega))
            have hu0 : 0 ≤ u := HU.out.2.1
            have HD5 : Hid (∀ w, Calls Yba.prog 5 #[.int .u8 z] w fun e w' => e = .returned (.tuple #[.int .u64 ((hexd z).getD 0), .bool (hexd z).isSome]) ∧ w' = w) := digit_any z
            cases hd : hexd z with
            | none =>
              rw [hd] at HD5
              have HN : Hid (PB = false) := by
                have h5 := pv_append_none (zs.take (k + 1)) (zs.drop (k + 1)) (by rw [HP.out, pstep_none hd])
                rw [List.take_append_drop] at h5
                exact HPB.out.1.trans (by rw [h5]; rfl)
              clear hd
              go_wp2_with fail
              refine (HD5.out _).mono ?_
              rintro e w' ⟨rfl, rfl⟩
              go_wp2
              go_meet
              case rel => exact ⟨_, by rw [HN.out], rfl, rfl, fun h => by rw [HN.out] at h; cases h⟩
            | some d =>
              rw [hd] at HD5
              have hdr := hexd_range hd
              have HS : Hid (hexd z = some d) := hd
              obtain ⟨hd0, hd1⟩ := hdr
              clear hd
              go_wp2_with fail
              refine (HD5.out _).mono ?_
              rintro e w' ⟨rfl, rfl⟩
              go_wp2
              go_round
              case rel => exact ⟨k + 1, u * 16 + d, by omega, by go_num, rfl, rfl, by rw [HP.out, pstep_some HS.out], bound_step hu0 HU.out.2.2 (hexd_range HS.out)⟩
              case measure => simp [intOf]; omega
          · have HN : Hid (pv zs = some u) := by
              have h5 := HU.out.1
              rw [List.take_of_length_le (by have := H.out.1; omega)] at h5
              exact h5
            go_wp2
            go_meet
            case rel => exact ⟨u, by rw [HPB.out.1, HN.out]; rfl, rfl, rfl, fun _ => by rw [HPB.out.2, HN.out]; rfl⟩
    case rest =>
      obtain ⟨u, rfl, rfl, rfl, HU⟩ := hcut
      have HP6 : Hid (∀ W, Below w2.heap.size w2 W → Calls Yba.prog 6 #[.slice a n c] W fun e w' => e = .returned (.tuple #[.int .u64 PV, .bool PB]) ∧ w' = W) := by
        intro W hW
        rw [HPV.out.1, HPV.out.2]
        exact parse_any a n c zs W (H2.out.below hW)
      have HV0 : Hid (PB = false → PV = 0) := fun h => by rw [HPV.out.2]; exact parse_false (HPV.out.1.symm.trans h)
      have H2C : Hid (IsB w2 a n zs ∧ Copied w2 w.heap.size zs) := ⟨H2.out, HCP.out⟩
      clear HPV HOK
      have hsz : Hid (zs.length = n) := H.out.1
      cases PB with
      | false =>
        have hv0 := HV0.out rfl
        subst hv0
        go_wp2_with fail
        refine (HP6.out _ (Below.refl _ _)).mono ?_
        rintro e wz ⟨rfl, rfl⟩
        go_wp2
        go_loopw [11] (fun i wr => ∃ k : Nat, k ≤ n ∧ i = .int .i64 k ∧ Hid (∃ q, wr = wz.drewN q)) (fun i _ => n - (intOf i).toNat)
        case atStart => exact ⟨0, by omega, rfl, 0, rfl⟩
        case round =>
          obtain ⟨k, hk, rfl, HQ⟩ := hrel
          obtain ⟨q, hq⟩ := HQ.out
          subst hq
          by_cases hlt : k < n
          · obtain ⟨b, off, ha, hc⟩ := H2C.out.1.at (by omega)
            subst ha
            have cz := hc k hlt
            have cy := H2C.out.2 k (by have := hsz.out; omega)
            clear hc
            generalize zs.getD k 0 = z at *
            have hk' : (k : Int) < (n : Int) := by omega
            have hzz : (z != z) = false := by simp
            go_wp2
            go_quiet (fail)
            go_wp2
            go_roundw
            case rel => exact ⟨k + 1, by omega, by go_num, _, rfl⟩
            case measure => simp [intOf]; omega
          · go_wp2
            go_ret
            exact ⟨rfl, below_drewN HB2.out _⟩
      | true =>
        have hv0 := HU.out rfl
        subst hv0
        have hne : (u != u) = false := by simp
        go_wp2_with fail
        refine (HP6.out _ (Below.refl _ _)).mono ?_
        rintro e wz ⟨rfl, rfl⟩
        go_wp2
        go_loopw [11] (fun i wr => ∃ k : Nat, k ≤ n ∧ i = .int .i64 k ∧ Hid (∃ q, wr = wz.drewN q)) (fun i _ => n - (intOf i).toNat)
        case atStart => exact ⟨0, by omega, rfl, 0, rfl⟩
        case round =>
          obtain ⟨k, hk, rfl, HQ⟩ := hrel
          obtain ⟨q, hq⟩ := HQ.out
          subst hq
          by_cases hlt : k < n
          · obtain ⟨b, off, ha, hc⟩ := H2C.out.1.at (by omega)
            subst ha
            have cz := hc k hlt
            have cy := H2C.out.2 k (by have := hsz.out; omega)
            clear hc
            generalize zs.getD k 0 = z at *
            have hk' : (k : Int) < (n : Int) := by omega
            have hzz : (z != z) = false := by simp
            go_wp2
            go_quiet (fail)
            go_wp2
            go_roundw
            case rel => exact ⟨k + 1, by omega, by go_num, _, rfl⟩
            case measure => simp [intOf]; omega
          · go_wp2
            go_ret
            exact ⟨rfl, below_drewN HB2.out _⟩

theorem model_any (a : Option Addr) (n c : Nat) (zs : List Int) (w : World) (h : n ≤ 1024 → IsB w a n zs) :
    Calls Yba.prog 3 #[.slice a n c] w fun e w' => e = .returned (.bool true) ∧ Below w.heap.size w w' := by
  by_cases hn : n ≤ 1024
  · exact model_small a n c zs w (h hn) hn
  · clear h
    go_enter Yba.func3, Yba.ntmps3
    go_wp2
    go_ret
    exact ⟨rfl, Below.refl _ _⟩
end Go.Proofs.Ybulkbmby
