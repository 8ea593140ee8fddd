import Derived.Test.YbulkblzgD7
namespace Go.Proofs.Ybulkblzg
open Go.RowKit
set_option linter.unusedVariables false
set_option linter.unusedSimpArgs false

def bfo (ni : Nat) (In : Nat → Bool) (i : Nat) : Bool := if i < ni then In i else false
theorem bools_get (f : Nat → Bool) {n i : Nat} (hi : i < n) : (bools f n)[i]? = some (.bool (f i)) := by simp [bools, hi]

set_option maxRecDepth 100000 in
set_option maxHeartbeats 4000000 in
theorem model_small (hCl : CloneS) (hMk : MarkOK) (a0 : Option Addr) (np pc gp op : Nat) (Ps : Nat → ByteArray) (a1 : Option Addr) (nk kc gk ok : Nat) (Pk : Nat → Nat) (a2 : Option Addr) (nt tc gt ot : Nat) (Ts : Nat → ByteArray) (a3 : Option Addr) (ni ic gi oi : Nat) (In : Nat → Bool) (w : World)
    (hnp : np ≤ 256) (hnk : nk ≤ 256) (hnt : nt ≤ 256) (hni : ni ≤ 4096) (hP : IsSt w a0 np gp op Ps) (hK : IsPk w a1 nk gk ok Pk) (hT : IsSt w a2 nt gt ot Ts) (hI : IsBo w a3 ni gi oi In)
    (hszP : ∀ i, i < np → (Ps i).size ≤ 140737488355328) (hszT : ∀ i, i < nt → (Ts i).size ≤ 140737488355328) :
    Calls Yba.prog 3 #[.slice a0 np pc, .slice a1 nk kc, .slice a2 nt tc, .slice a3 ni ic] w fun e w' => e = .returned (.bool true) ∧ Below w.heap.size w w' := by
  have HI : Hid (IsSt w a0 np gp op Ps ∧ IsPk w a1 nk gk ok Pk ∧ IsSt w a2 nt gt ot Ts ∧ IsBo w a3 ni gi oi In) := ⟨hP, hK, hT, hI⟩
  have h24 := make_n Yba.underlying24 Yba.info4 rfl (by omega) np (by omega)
  have d1 : decide ((256 : Int) < (np : Int)) = false := by simp; omega
  have d2 : decide ((256 : Int) < (nk : Int)) = false := by simp; omega
  have d3 : decide ((256 : Int) < (nt : Int)) = false := by simp; omega
  have d4 : decide ((4096 : Int) < (ni : Int)) = false := by simp; omega
  have d1' : decide (256 < np) = false := by simp; omega
  have d2' : decide (256 < nk) = false := by simp; omega
  have d3' : decide (256 < nt) = false := by simp; omega
  have d4' : decide (4096 < ni) = false := by simp; omega
  have hby := bytes_any a0 np pc gp op Ps w hnp hP.1 hP.2 hszP
  have hbt := bytes_any a2 nt tc gt ot Ts w hnt hT.1 hT.2 hszT
  clear hP hK hT hI
  go_enter Yba.func3, Yba.ntmps3
  go_wp2_with fail
  refine hby.mono ?_
  clear hby
  rintro e W0 ⟨rfl, hW0⟩
  obtain rfl := hW0
  by_cases hsum : 4096 < sumL Ps np
  · have d5 : decide ((4096 : Int) < (sumL Ps np : Int)) = true := by simp; omega
    have d5' : decide (4096 < sumL Ps np) = true := by simp; omega
    go_wp2
    go_ret
    exact ⟨rfl, Below.refl _ _⟩
  · have d5 : decide ((4096 : Int) < (sumL Ps np : Int)) = false := by simp; omega
    have d5' : decide (4096 < sumL Ps np) = false := by simp; omega
    have HSP : Hid (∀ i, i < np → (Ps i).size ≤ 4096) := fun i hi => by have := sumL_le Ps hi; omega
    go_wp2_with fail
    refine hbt.mono ?_
    clear hbt
    rintro e W1 ⟨rfl, hW1⟩
    obtain rfl := hW1
    by_cases hsumt : 4096 < sumL Ts nt
    · have d6 : decide ((4096 : Int) < (sumL Ts nt : Int)) = true := by simp; omega
      have d6' : decide (4096 < sumL Ts nt) = true := by simp; omega
      go_wp2
      go_ret
      exact ⟨rfl, Below.refl _ _⟩
    · have d6 : decide ((4096 : Int) < (sumL Ts nt : Int)) = false := by simp; omega
      have d6' : decide (4096 < sumL Ts nt) = false := by simp; omega
      have HST : Hid (∀ i, i < nt → (Ts i).size ≤ 4096) := fun i hi => by have := sumL_le Ts hi; omega
      clear hszP hszT
      go_wp2_with fail
      refine (hCl a0 np pc gp op Ps W1 hnp HI.out.1).mono ?_
      rintro e W2 ⟨v9, rfl, hown2, hbl2⟩
      obtain ⟨a9, c9, g9, e9, hst9, hb9⟩ := IsSt.of_row hown2
      subst e9
      have H2 : Hid (IsSt W2 a9 np g9 0 Ps ∧ (0 < np → W1.heap.size ≤ g9 ∧ g9 < W2.heap.size) ∧ Below W1.heap.size W1 W2) := ⟨hst9, hb9, hbl2⟩
      clear hown2 hst9 hb9 hbl2
      go_wp2_with fail
      refine (hCl a2 nt tc gt ot Ts W2 hnt (HI.out.2.2.1.below H2.out.2.2)).mono ?_
      rintro e W3 ⟨v10, rfl, hown3, hbl3⟩
      obtain ⟨a10, c10, g10, e10, hst10, hb10⟩ := IsSt.of_row hown3
      subst e10
      have H3 : Hid (IsSt W3 a9 np g9 0 Ps ∧ IsSt W3 a10 nt g10 0 Ts ∧ (0 < np → W1.heap.size ≤ g9 ∧ g9 < W3.heap.size) ∧ (0 < nt → W1.heap.size ≤ g10 ∧ g10 < W3.heap.size) ∧ Below W1.heap.size W1 W3) := by
        have x1 := H2.out.2.2.size
        have x2 := hbl3.size
        refine ⟨H2.out.1.below hbl3, hst10, fun h => ?_, fun h => ?_, H2.out.2.2.trans (hbl3.mono x1)⟩
        · have := H2.out.2.1 h; omega
        · have := hb10 h; omega
      clear H2 hown3 hst10 hb10 hbl3
      go_upto_region 9 with fail
      obtain ⟨W4, hW4⟩ : ∃ W4, W4 = W3.alloc (.cells (madeCells #[.bool false] np) 4) := ⟨_, rfl⟩
      rw [← hW4]
      have HM0 : Hid (MS W3 W4 np [] (.slice none 0 0)) := by
        rw [hW4]
        exact ⟨ownsRow_of_nil _ _ _, (arr_made _ _ _ _).congr (fun i _ => by simp), (Below.refl _ _).alloc (Nat.le_refl _) _, by simp⟩
      clear hW4
      obtain ⟨i3, hi1, hi2, hi3, hi4⟩ := info3
      have HI3 : Hid (Yba.prog.info? 3 = some i3 ∧ i3.zero = some (.int .i64 0) ∧ i3.size = 1 ∧ i3.bytes = 8) := ⟨hi1, hi2, hi3, hi4⟩
      clear hi1 hi2 hi3 hi4
      go_upto_if 56 with fail
      go_cut [11] (fun s11 wx => ∃ (B : List Nat) (v : Value), s11 = v ∧ Hid (MS W3 wx np B v ∧ B.length ≤ 256 ∧ ∀ b ∈ B, b < np))
      case first =>
        -- <<ARM1
        as_aux_lemma =>
          rcases Nat.eq_zero_or_pos np with hz | hz
          · have dz : decide (0 < np) = false := by simp; omega
            simp only [dz]
            go_wp2
            go_meet
            case rel => exact ⟨[], _, rfl, HM0.out, by simp, by simp⟩
          · have dz : decide (0 < np) = true := by simp; omega
            simp only [dz]
            have hnz : ¬ (np : Int) = 0 := by omega
            have hnzb : ((np : Int) == 0) = false := by simp; omega
            go_wp2
            go_loopw [11, 59] (fun s11 s59 wr => ∃ (k : Nat) (B : List Nat) (v : Value), s11 = v ∧ s59 = .int .i64 (k : Int) ∧ k ≤ nk ∧ Hid (MS W3 wr np B v ∧ B.length = k ∧ ∀ b ∈ B, b < np)) (fun _ s59 _ => nk - (intOf s59).toNat)
            case atStart => exact ⟨0, [], _, rfl, rfl, by omega, HM0.out, rfl, by simp⟩
            case round =>
              clear HM0
              obtain ⟨k, B, v, rfl, rfl, hk, HR⟩ := hrel
              by_cases hlt : k < nk
              · have hpk := (HI.out.2.1.below H3.out.2.2.2.2).below (HR.out.1.bl.mono (Nat.le_refl _))
                have ha1 := hpk.1 (by omega)
                subst ha1
                obtain ⟨p1, p2⟩ := hpk.2 k hlt
                obtain ⟨pk, hpk'⟩ : ∃ pk, pk = Pk k := ⟨_, rfl⟩
                rw [← hpk'] at p1 p2
                obtain ⟨x, hx⟩ : ∃ x, x = pk % np := ⟨_, rfl⟩
                have hxn : x < np := by rw [hx]; exact Nat.mod_lt _ hz
                have hm1 : (pk : Int) % (np : Int) = (x : Int) := by rw [hx, Int.natCast_emod]
                clear hx hpk' hpk
                obtain ⟨a11, c11, e11, -⟩ := row_form HR.out.1.row
                rw [HR.out.2.1] at e11
                subst e11
                have HML : Hid (k + 1 ≤ maxLen) := by unfold Hid maxLen; omega
                have OA : Hid ((wr.alloc (.cells #[.int .i64 (x : Int)] 3)).ownsRow (W3.heap.size + 1) 3 1 (.slice a11 k c11) k (natsV B)) := by
                  have x1 := HR.out.1.row
                  rw [HR.out.2.1] at x1
                  exact x1.alloc _
                have HONE : Hid (∀ u ∈ [Value.int .i64 (x : Int)], u.oneCell' = true) := by intro u hu; simp at hu; subst hu; rfl
                have HBB : Hid (W3.heap.size + 1 ≤ (wr.alloc (.cells #[.int .i64 (x : Int)] 3)).heap.size) := by
                  have x1 := HR.out.1.sz
                  unfold Hid; simp; omega
                go_upto_region 14 with fail
                rw [hm1]
                go_wp2_with (at_builtin; refine wpList_append_lies _ rfl _ _ 27 rfl (W3.heap.size + 1) 3 i3 (.int .i64 0) 1 8 Yba.underlying27 HI3.out.1 HI3.out.2.1 HI3.out.2.2.1 HI3.out.2.2.2 rfl (by decide) (.slice a11 k c11) k (natsV B) rfl OA.out ⟨wr.heap.size, 0, none⟩ 1 1 [.int .i64 (x : Int)] rfl rfl (news_one wr (.int .i64 (x : Int)) 3) HONE.out (by decide) HML.out (by omega) HBB.out _ rfl ?_)
                intro g5 cap5 w11 hown11 hgrow11 hat11 hlt11
                have x0 := HR.out.2.1
                obtain ⟨x1, ov, x2, x3⟩ := MS.push (HR.out.1.keep (keeps_alloc wr (.cells #[.int .i64 (x : Int)] 3))) (g := g5) (cap := cap5) hxn (by rw [x0]; exact hown11) hgrow11
                rw [x0] at x1
                have H5 : Hid (MS W3 (w11.setCell ⟨W3.heap.size, x, none⟩ (.bool true)) np (B ++ [x]) (.slice (some ⟨g5, 0, none⟩) (k + 1) cap5) ∧ (B ++ [x]).length = k + 1 ∧ ∀ b ∈ B ++ [x], b < np) := by
                  refine ⟨x1, by simp [x0], fun b hb => ?_⟩
                  rcases List.mem_append.1 hb with h | h
                  · exact HR.out.2.2 b h
                  · simp at h; subst h; exact hxn
                clear x1 x0 HR OA HONE HBB hown11 hgrow11 hat11 hlt11 p1
                go_wp2
                go_roundw
                case rel => exact ⟨k + 1, B ++ [x], _, rfl, by go_num, by omega, H5.out⟩
                case measure => simp [intOf]; omega
              · obtain rfl : k = nk := by omega
                go_wp2
                go_meet
                case rel => exact ⟨B, _, rfl, HR.out.1, by have := HR.out.2.1; omega, HR.out.2.2⟩
        -- ARM1>>
      case rest =>
        obtain ⟨B, v, rfl, HR⟩ := hcut
        obtain ⟨W5, rfl⟩ : ∃ W5 : World, W5 = wc := ⟨_, rfl⟩
        clear HM0
        go_upto_region 18 with fail
        obtain ⟨N5, hN5⟩ : ∃ N5, N5 = W5.heap.size := ⟨_, rfl⟩
        obtain ⟨W6, hW6⟩ : ∃ W6, W6 = W5.alloc (.cells (madeCells #[.bool false] np) 4) := ⟨_, rfl⟩
        rw [← hN5, ← hW6]
        obtain ⟨k, hk⟩ : ∃ k, k = B.length := ⟨_, rfl⟩
        obtain ⟨a11, c11, gb, e11, b1, b2⟩ := row_read HR.out.1.row
        rw [← hk] at e11 b1 b2
        subst e11
        have H6 : Hid (Below W1.heap.size W1 W6 ∧ Arr W6 N5 np (fun _ => .bool false) ∧ IsSt W6 a9 np g9 0 Ps ∧ IsSt W6 a10 nt g10 0 Ts ∧ Arr W6 W3.heap.size np (fun i => .bool (decide (i ∈ B))) ∧ (0 < k → a11 = some ⟨gb, 0, none⟩ ∧ gb < N5) ∧ (∀ i, i < k → W6.cell? ⟨gb, i, none⟩ = some (.int .i64 (B.getD i 0 : Int))) ∧
            W1.heap.size ≤ W3.heap.size ∧ W3.heap.size < N5 ∧ (0 < np → g9 < N5) ∧ (0 < nt → g10 < N5) ∧ N5 < W6.heap.size) := by
          have y1 := H3.out.2.2.2.2.size
          have y2 := HR.out.1.sz
          have hkk : Keeps (fun _ => False) W5 W6 := by rw [hW6]; exact keeps_alloc _ _
          have hM : MS W3 W6 np B (.slice a11 k c11) := HR.out.1.keep hkk
          refine ⟨H3.out.2.2.2.2.trans (hM.bl.mono y1), by rw [hW6, hN5]; exact arr_made _ _ _ _, H3.out.1.below hM.bl, H3.out.2.1.below hM.bl, hM.inb, fun h => ⟨(b1 h).1, by have := (b1 h).2.2.2; omega⟩, fun i hi => ?_, y1, by omega, fun h => ?_, fun h => ?_, ?_⟩
          · have x1 := (b1 (by omega)).2.2.2
            rw [World.cell?_of_block (w := W5) (hkk.block gb x1 id), b2 i hi]
            have x2 : i < B.length := by omega
            simp [natsV, List.getD_eq_getElem?_getD, List.getElem?_eq_getElem x2]
          · have := H3.out.2.2.1 h; omega
          · have := H3.out.2.2.2.1 h; omega
          · rw [hW6, hN5]; simp
        have HB : Hid (k = B.length ∧ B.length ≤ 256 ∧ ∀ b ∈ B, b < np) := ⟨hk, HR.out.2⟩
        have hk256 : k ≤ 256 := by rw [hk]; exact HR.out.2.1
        clear hN5 hW6 hk b1 b2 HR H3 h24
        go_wp2
        go_loopw [81] (fun s81 wr => ∃ (i : Nat), s81 = .int .i64 (i : Int) ∧ i ≤ np ∧ Hid (Keeps (fun j => j = N5) W6 wr ∧ Arr wr N5 np (fun j => .bool (if j < i then bfo ni In j else false)))) (fun s81 _ => np - (intOf s81).toNat)
        case atStart => exact ⟨0, rfl, by omega, Keeps.refl _ _, H6.out.2.1.congr (fun i _ => by simp)⟩
        case round =>
          obtain ⟨i, rfl, hi, HR⟩ := hrel
          by_cases hlt : i < np
          · obtain ⟨z0, z1⟩ := HR.out.2 i hlt
            simp only [Nat.lt_irrefl, if_false] at z0
            by_cases hini : i < ni
            · have di : decide ((i : Int) < (ni : Int)) = true := by simp; omega
              have x6 := H6.out.1.size
              have x7 := H6.out.2.2.2.2.2.2.2
              have hin := HI.out.2.2.2.below (H6.out.1.trans (HR.out.1.below x6 (fun j hj => by omega)))
              have ha3 := hin.1 (by omega)
              subst ha3
              have q0 := hin.2 i hini
              obtain ⟨bv, hbv⟩ : ∃ bv, bv = In i := ⟨_, rfl⟩
              rw [← hbv] at q0
              have H7 : Hid (Keeps (fun j => j = N5) W6 (wr.setCell ⟨N5, i, none⟩ (.bool bv)) ∧ Arr (wr.setCell ⟨N5, i, none⟩ (.bool bv)) N5 np (fun j => .bool (if j < i + 1 then bfo ni In j else false))) := by
                refine ⟨HR.out.1.trans (keeps_set wr ⟨N5, i, none⟩ _), (HR.out.2.set (.bool bv) hlt).congr (fun j _ => ?_)⟩
                by_cases e : j = i
                · subst e
                  simp only [if_pos, Nat.lt_succ_self, bfo, hini, hbv]
                · simp only [if_neg e]
                  by_cases e2 : j < i
                  · rw [if_pos e2, if_pos (by omega)]
                  · rw [if_neg e2, if_neg (by omega)]
              clear hin hbv x6 x7
              go_wp2
              go_roundw
              case rel => exact ⟨i + 1, by go_num, by omega, H7.out⟩
              case measure => simp [intOf]; omega
            · have di : decide ((i : Int) < (ni : Int)) = false := by simp; omega
              go_wp2
              go_roundw
              case rel =>
                refine ⟨i + 1, by go_num, by omega, HR.out.1, HR.out.2.congr (fun j _ => ?_)⟩
                by_cases e : j = i
                · subst e
                  simp [bfo, hini]
                · by_cases e2 : j < i
                  · rw [if_pos e2, if_pos (by omega)]
                  · rw [if_neg e2, if_neg (by omega)]
              case measure => simp [intOf]; omega
          · obtain rfl : i = np := by omega
            have hbf : Arr wr N5 i (fun j => .bool (bfo ni In j)) := HR.out.2.congr (fun j hj => by rw [if_pos hj])
            go_wp2_with fail
            refine (clone_bools N5 i i (bfo ni In) wr hnp hbf).mono ?_
            rintro e W7 ⟨v18, rfl, hown7, hbl7⟩
            obtain ⟨a18, c18, gf, e18, f0, f1, f2⟩ := row_arr hown7
            subst e18
            have hk7 : Keeps (fun j => j = N5) W6 W7 := HR.out.1.trans' (Below.keeps hbl7) (fun j h1 h2 => by have := HR.out.1.size; omega)
            have x7 := H6.out.2.2.2.2.2.2.2
            have x8 := HR.out.1.size
            have x9 := hbl7.size
            have hgf : N5 < gf := by omega
            have hcell : ∀ (g : Nat), g < N5 → W7.heap[g]? = W6.heap[g]? := fun g hg => hk7.block g (by omega) (by omega)
            have harr : Arr W7 gf i (fun j => .bool (bfo ni In j)) := f2 _ (fun j hj => bools_get _ hj)
            have H7 : Calls Yba.prog 10 #[.slice a9 i c9, .slice a11 k c11, .slice a10 nt c10, .slice a18 i c18] W7 fun e w' => e = .returned (.tuple #[]) ∧ Keeps (fun j => j = gf) W7 w' ∧
                ∃ r : Nat → Bool, Arr w' gf i (fun j => .bool (r j)) ∧ (∀ j, j < k → (r (B.getD j 0) = true ↔ Holds nt Ts (bts (Ps (B.getD j 0))))) ∧ ∀ j, j < i → (∀ x, x < k → B.getD x 0 ≠ j) → r j = bfo ni In j :=
              hMk ⟨g9, i, c9, gb, k, c11, Ps, fun j => B.getD j 0⟩ a9 a11 a10 a18 nt c10 g10 gf c18 Ts (bfo ni In) W7 hk256 (by simp only; omega)
                (fun h0 => by
                  simp only at h0 ⊢
                  have y0 : B.getD 0 0 < i := HB.out.2.2 _ (by rw [List.getD_eq_getElem?_getD, List.getElem?_eq_getElem (by have := HB.out.1; omega)]; exact List.getElem_mem _)
                  have y1 := H6.out.2.2.2.2.2.1 h0
                  have y2 := H6.out.2.2.1.1 (by omega)
                  have y3 := f1 (by omega)
                  have y4 := x7.2.2.1 (by omega)
                  exact ⟨y2, y1.1, y3, by omega, by omega, by omega⟩)
                (fun h0 j hj => by
                  simp only at h0 hj ⊢
                  have y1 := H6.out.2.2.1.2 j hj
                  rw [Nat.zero_add] at y1
                  rw [World.cell?_of_block (w := W6) (hcell g9 (x7.2.2.1 (by omega)))]; exact y1)
                (fun j hj => by
                  simp only at hj ⊢
                  rw [World.cell?_of_block (w := W6) (hcell gb (H6.out.2.2.2.2.2.1 (by omega)).2)]; exact H6.out.2.2.2.2.2.2.1 j hj)
                (fun j hj => by
                  simp only at hj ⊢
                  refine HB.out.2.2 _ ?_
                  rw [List.getD_eq_getElem?_getD, List.getElem?_eq_getElem (by have := HB.out.1; omega)]; exact List.getElem_mem _)
                (fun j hj => by simp only at hj ⊢; rw [bts_length]; exact HSP.out j hj)
                hnt (fun h0 => H6.out.2.2.2.1.1 h0)
                (fun j hj => by
                  have y1 := H6.out.2.2.2.1.2 j hj
                  rw [Nat.zero_add] at y1
                  rw [World.cell?_of_block (w := W6) (hcell g10 (x7.2.2.2.1 (by omega)))]; exact y1)
                (fun j hj => by rw [bts_length]; exact HST.out j hj)
                harr
            have HK7 : Hid (Keeps (fun j => j = N5) W6 W7 ∧ Arr W7 N5 i (fun j => .bool (bfo ni In j)) ∧ (0 < i → a18 = some ⟨gf, 0, none⟩) ∧ N5 < gf ∧ W6.heap.size ≤ W7.heap.size) := by
              refine ⟨hk7, ?_, f1, hgf, by omega⟩
              exact hbf.keep (Below.keeps hbl7) (by omega)
            clear HR hbf hown7 hbl7 f0 f1 f2 hk7 x7 x8 x9 hgf hcell harr
            go_wp2_with fail
            refine H7.mono ?_
            clear H7
            rintro e W8 ⟨rfl, hk8, r, hr1, hr2, hr3⟩
            have H8 : Hid (Below W1.heap.size W1 W8 ∧ Arr W8 gf i (fun j => .bool (r j)) ∧ Arr W8 N5 i (fun j => .bool (bfo ni In j)) ∧ Arr W8 W3.heap.size i (fun j => .bool (decide (j ∈ B))) ∧ IsSt W8 a9 i g9 0 Ps ∧ IsSt W8 a10 nt g10 0 Ts) := by
              have x7 := H6.out.2.2.2.2.2.2.2
              have x8 := HK7.out.2.2.2.2
              have x9 := H6.out.1.size
              have hg := HK7.out.2.2.2.1
              have hk68 : Keeps (fun j => j = N5 ∨ j = gf) W6 W8 := (HK7.out.1.mono (fun j _ h => .inl h)).trans (hk8.mono (fun j _ h => .inr h))
              have hst : ∀ (a : Option Addr) (n g : Nat) (Us : Nat → ByteArray), (0 < n → g < N5) → IsSt W6 a n g 0 Us → IsSt W8 a n g 0 Us := fun a n g Us h1 h2 => ⟨h2.1, fun j hj => by
                have := h1 (by omega)
                rw [World.cell?_of_block (w := W6) (hk68.block g (by omega) (by omega))]; exact h2.2 j hj⟩
              exact ⟨H6.out.1.trans (hk68.below x9 (fun j hj => by omega)), hr1, HK7.out.2.1.keep hk8 (by omega), H6.out.2.2.2.2.1.keep hk68 (by omega), hst _ _ _ _ x7.2.2.1 H6.out.2.2.1, hst _ _ _ _ x7.2.2.2.1 H6.out.2.2.2.1⟩
            have HRR : Hid (∀ j, j < i → (j ∈ B → (r j = true ↔ Holds nt Ts (bts (Ps j)))) ∧ (j ∉ B → r j = bfo ni In j)) := by
              intro j hj
              refine ⟨fun h => ?_, fun h => hr3 j hj (fun x hx e => h ?_)⟩
              · obtain ⟨x, hx, e⟩ := List.getElem_of_mem h
                have e2 : B.getD x 0 = j := by rw [List.getD_eq_getElem?_getD, List.getElem?_eq_getElem hx]; exact e
                have := hr2 x (by have := HB.out.1; omega)
                rw [e2] at this
                exact this
              · rw [← e, List.getD_eq_getElem?_getD, List.getElem?_eq_getElem (by have := HB.out.1; omega)]; exact List.getElem_mem _
            have HA18 : Hid (0 < i → a18 = some ⟨gf, 0, none⟩) := HK7.out.2.2.1
            clear hk8 hr1 hr2 hr3 HK7 H6
            go_wp2
            go_loopw [105] (fun s105 wi => ∃ (j : Nat), s105 = .int .i64 (j : Int) ∧ j ≤ i ∧ Hid (∃ q, wi = W8.drewN q)) (fun s105 _ => i - (intOf s105).toNat)
            case atStart => exact ⟨0, rfl, by omega, 0, (drewN_zero W8).symm⟩
            case round =>
              obtain ⟨j, rfl, hj, HQ⟩ := hrel
              obtain ⟨q, hq⟩ := HQ.out
              have HB8 : Hid (Below W1.heap.size W1 wr) := by rw [hq]; exact ⟨H8.out.1.os, H8.out.1.tape, H8.out.1.output, H8.out.1.size, H8.out.1.block⟩
              by_cases hji : j < i
              · have ha18 := HA18.out (by omega)
                subst ha18
                have z0 : wr.cell? ⟨gf, j, none⟩ = some (.bool (r j)) := by rw [hq]; exact (H8.out.2.1 j hji).1
                have z1 : wr.cell? ⟨N5, j, none⟩ = some (.bool (bfo ni In j)) := by rw [hq]; exact (H8.out.2.2.1 j hji).1
                have z2 : wr.cell? ⟨W3.heap.size, j, none⟩ = some (.bool (decide (j ∈ B))) := by rw [hq]; exact (H8.out.2.2.2.1 j hji).1
                have HQ' : Hid (wr = W8.drewN q) := hq
                obtain ⟨y1, y2⟩ := HRR.out j hji
                by_cases hjB : j ∈ B
                · have y3 := y1 hjB
                  simp only [hjB, decide_true] at z2
                  have hst := HI.out.1.below HB8.out
                  have ha0 := hst.1 (by omega)
                  subst ha0
                  have z3 := hst.2 j hji
                  obtain ⟨bv, hbv⟩ : ∃ bv, bv = bfo ni In j := ⟨_, rfl⟩
                  rw [← hbv] at z1
                  clear y1 y2 hq hbv hst
                  go_wp2_with fail
                  refine (inany_any a2 nt tc gt ot Ts (Ps j) wr hnt (HI.out.2.2.1.below HB8.out).1 (HI.out.2.2.1.below HB8.out).2 HST.out (HSP.out j hji)).mono ?_
                  rintro e W9 ⟨⟨r', rfl, hr'⟩, q', hq'⟩
                  have hrr : r' = r j := by
                    have h5 := hr'.trans y3.symm
                    cases h6 : r' <;> cases h7 : r j <;> simp_all
                  have z0' : W9.cell? ⟨gf, j, none⟩ = some (.bool r') := by rw [hrr, hq']; exact z0
                  have HQ2 : Hid (∃ q, W9 = W8.drewN q) := ⟨q + q', by rw [hq', HQ'.out, drewN_drewN]⟩
                  clear hrr hr' y3 z0 z1 z2 z3 hq'
                  cases r'
                  all_goals
                    go_wp2
                    go_roundw
                    case rel => exact ⟨j + 1, by go_num, by omega, HQ2.out⟩
                    case measure => simp [intOf]; omega
                · have y3 := y2 hjB
                  simp only [hjB, decide_false] at z2
                  rw [← y3] at z1
                  obtain ⟨bv, hbv⟩ : ∃ bv, bv = r j := ⟨_, rfl⟩
                  rw [← hbv] at z0 z1
                  clear y1 y2 y3 hq hbv
                  cases bv
                  all_goals
                    go_wp2
                    go_roundw
                    case rel => exact ⟨j + 1, by go_num, by omega, q, HQ'.out⟩
                    case measure => simp [intOf]; omega
              · obtain rfl : j = i := by omega
                have HQ' : Hid (wr = W8.drewN q) := hq
                have hs1 : IsSt wr a9 j g9 0 Ps := by rw [hq]; exact H8.out.2.2.2.2.1
                have hs2 : IsSt wr a10 nt g10 0 Ts := by rw [hq]; exact H8.out.2.2.2.2.2
                have HS2 : Hid (IsSt wr a10 nt g10 0 Ts) := hs2
                have hc1 := equal_ok a9 a0 j c9 pc g9 0 gp op Ps wr hnp hs1 (HI.out.1.below HB8.out)
                clear hs1 hs2 hq
                go_wp2_with fail
                refine hc1.mono ?_
                clear hc1
                rintro e W9 ⟨rfl, q1, hq1⟩
                have hc2 := equal_ok a10 a2 nt c10 tc g10 0 gt ot Ts W9 hnt (by rw [hq1]; exact HS2.out) (by rw [hq1]; exact (HI.out.2.2.1.below HB8.out : IsSt wr a2 nt gt ot Ts))
                have HB9 : Hid (Below W1.heap.size W1 W9) := by rw [hq1]; exact ⟨HB8.out.os, HB8.out.tape, HB8.out.output, HB8.out.size, HB8.out.block⟩
                clear hq1
                go_wp2_with fail
                refine hc2.mono ?_
                clear hc2
                rintro e W10 ⟨rfl, q2, hq2⟩
                have HB10 : Hid (Below W1.heap.size W1 W10) := by rw [hq2]; exact ⟨HB9.out.os, HB9.out.tape, HB9.out.output, HB9.out.size, HB9.out.block⟩
                clear hq2
                go_wp2
                go_ret
                exact ⟨rfl, HB10.out⟩
end Go.Proofs.Ybulkblzg
