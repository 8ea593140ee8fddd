import Derived.Test.YbulkblzgD4
namespace Go.Proofs.Ybulkblzg
open Go.RowKit
set_option linter.unusedVariables false
set_option linter.unusedSimpArgs false

set_option maxRecDepth 100000 in
set_option maxHeartbeats 2000000 in
theorem hits_small (hCl : CloneS) (hMk : MarkOK) (a : Option Addr) (nt tc gt ot : Nat) (Ts : Nat → ByteArray) (sa : Option Addr) (n sc : Nat) (S : List (Nat × Nat × Nat)) (w : World) (hnt : nt ≤ 256) (hn : n ≤ 256) (hT : IsSt w a nt gt ot Ts) (hS : IsSp w sa n S) (hsz : ∀ i, i < nt → (Ts i).size ≤ 140737488355328) :
    Calls Yba.prog 4 #[.slice a nt tc, .slice sa n sc] w fun e w' => e = .returned (.bool true) ∧ Below w.heap.size w w' := by
  have HT : Hid (IsSt w a nt gt ot Ts ∧ IsSp w sa n S) := ⟨hT, hS⟩
  have h22 := make_cap Yba.underlying22 Yba.info9 rfl (by omega) n (by omega)
  have h27 := make_cap Yba.underlying27 Yba.info3 rfl (by omega) n (by omega)
  have h24 := make_n Yba.underlying24 Yba.info4 rfl (by omega) n (by omega)
  have d1 : decide ((256 : Int) < (nt : Int)) = false := by simp; omega
  have d2 : decide ((256 : Int) < (n : Int)) = false := by simp; omega
  have d1' : decide (256 < nt) = false := by simp; omega
  have d2' : decide (256 < n) = false := by simp; omega
  have hby := bytes_any a nt tc gt ot Ts w hnt hT.1 hT.2 hsz
  clear hT hS
  go_enter Yba.func4, Yba.ntmps4
  go_wp2_with fail
  refine hby.mono ?_
  clear hby
  rintro e W0 ⟨rfl, hW0⟩
  subst hW0
  by_cases hsum : 4096 < sumL Ts nt
  · have d3 : decide ((4096 : Int) < (sumL Ts nt : Int)) = true := by simp; omega
    go_wp2
    go_ret
    exact ⟨rfl, Below.refl _ _⟩
  · have d3 : decide ((4096 : Int) < (sumL Ts nt : Int)) = false := by simp; omega
    have HSZ : Hid (∀ i, i < nt → (Ts i).size ≤ 4096) := fun i hi => by have := sumL_le Ts hi; omega
    rcases Nat.eq_zero_or_pos nt with h0 | h0
    · subst h0
      go_wp2
      go_ret
      exact ⟨rfl, Below.refl _ _⟩
    · have hnz : ¬ (nt : Int) = 0 := by omega
      have hnzb : ((nt : Int) == 0) = false := by simp; omega
      have ha : a = some ⟨gt, ot, none⟩ := HT.out.1.1 h0
      subst ha
      clear hsz
      go_upto_region 7 with fail
      obtain ⟨W2, hW2⟩ : ∃ W2, W2 = (W0.alloc (.cells (madeCells #[.string ByteArray.empty] n) 9)).alloc (.cells (madeCells #[.int .i64 0] n) 3) := ⟨_, rfl⟩
      rw [← hW2]
      have HS0 : Hid (HS W0 W2 [] 0 (.slice (some ⟨W0.heap.size, 0, none⟩) 0 n) (.slice (some ⟨W0.heap.size + 1, 0, none⟩) 0 n)) := by
        have x1 := row_made (W := W0) (z := .string ByteArray.empty) (e := 9) (n := n) (base := W0.heap.size) (Nat.le_refl _) (by unfold maxLen; omega)
        have x2 := row_made (W := W0.alloc (.cells (madeCells #[.string ByteArray.empty] n) 9)) (z := .int .i64 0) (e := 3) (n := n) (base := W0.heap.size) (by simp) (by unfold maxLen; omega)
        rw [World.size_alloc] at x2
        rw [hW2]
        exact ⟨x1.alloc _, x2, fun j h1 h2 => by simp [Value.ownBlock] at h1 h2; omega, ((Below.refl _ _).alloc (Nat.le_refl _) _).alloc (by simp) _⟩
      clear hW2 h22 h27
      go_wp2
      go_loopw [5, 6, 40] (fun s5 s6 s40 wr => ∃ (k : Nat) (L : List ByteArray) (v5 v6 : Value), s5 = v5 ∧ s6 = v6 ∧ s40 = .int .i64 (k : Int) ∧ k ≤ n ∧ Hid (L.length = k ∧ HS W0 wr L k v5 v6 ∧ ∀ s ∈ L, s.size ≤ 4096 ∧ Holds nt Ts (bts s))) (fun _ _ s40 _ => n - (intOf s40).toNat)
      case atStart => exact ⟨0, [], _, _, rfl, rfl, rfl, by omega, rfl, HS0.out, fun s hs => by simp at hs⟩
      case round =>
        clear HS0
        obtain ⟨k, L, v5, v6, rfl, rfl, rfl, hk, HR⟩ := hrel
        by_cases hlt : k < n
        · obtain ⟨e, he⟩ : ∃ e, S[k]? = some e := ⟨_, List.getElem?_eq_getElem (by rw [HT.out.2.1]; exact hlt)⟩
          obtain ⟨b, off, hsa, e1, e2, e3⟩ := (HT.out.2.below HR.out.2.1.bl).2.2 k e he
          subst hsa
          obtain ⟨q1, q2, q3⟩ := HT.out.2.2.1 e (List.mem_of_getElem? he)
          obtain ⟨f1, f2, f3⟩ := e
          simp only at e1 e2 e3 q1 q2 q3
          obtain ⟨u, hu⟩ : ∃ u, u = f1 % nt := ⟨_, rfl⟩
          have hun : u < nt := by rw [hu]; exact Nat.mod_lt _ (by omega)
          have hm1 : (f1 : Int) % (nt : Int) = (u : Int) := by rw [hu]; omega
          have tx : ∀ o, (wr.alloc o).cell? ⟨gt, ot + u, none⟩ = some (.string (Ts u)) := fun o => (HT.out.1.below (HR.out.2.1.keep (keeps_alloc wr o)).bl).2 u hun
          have hsu := HSZ.out u hun
          obtain ⟨s, hs⟩ : ∃ s, s = Ts u := ⟨_, rfl⟩
          have HSU : Hid (s = Ts u) := hs
          rw [← hs] at tx hsu
          clear hs hu he
          obtain ⟨av, hav⟩ : ∃ av, av = f2 % (s.size + 1) := ⟨_, rfl⟩
          obtain ⟨bv, hbv⟩ : ∃ bv, bv = f3 % (s.size + 1) := ⟨_, rfl⟩
          have hav1 : av ≤ s.size := by rw [hav]; have := Nat.mod_lt f2 (show 0 < s.size + 1 by omega); omega
          have hbv1 : bv ≤ s.size := by rw [hbv]; have := Nat.mod_lt f3 (show 0 < s.size + 1 by omega); omega
          have hm2 : (f2 : Int) % ((s.size : Int) + 1) = (av : Int) := by rw [hav, Int.natCast_emod, Int.natCast_add]; rfl
          have hm3 : (f3 : Int) % ((s.size : Int) + 1) = (bv : Int) := by rw [hbv, Int.natCast_emod, Int.natCast_add]; rfl
          have hs1 : ¬ (s.size : Int) + 1 = 0 := by omega
          have hs2 : ((s.size : Int) + 1 == 0) = false := by simp; omega
          clear hav hbv
          go_upto_region 13 with fail
          rw [hm2, hm3]
          obtain ⟨W3, hW3⟩ : ∃ W3, W3 = wr.alloc (.cells #[.int .u16 (f1 : Int), .int .u16 (f2 : Int), .int .u16 (f3 : Int)] 36) := ⟨_, rfl⟩
          rw [← hW3]
          have H3 : Hid (L.length = k ∧ HS W0 W3 L k u5 u6 ∧ ∀ s ∈ L, s.size ≤ 4096 ∧ Holds nt Ts (bts s)) := by rw [hW3]; exact ⟨HR.out.1, HR.out.2.1.keep (keeps_alloc wr _), HR.out.2.2⟩
          clear hW3 HR tx e1 e2 e3 hm1 hm2 hm3 hs1 hs2
          obtain ⟨a5, c5, e5, -⟩ := row_form H3.out.2.1.p
          rw [H3.out.1] at e5
          obtain ⟨a6, c6, e6, -⟩ := row_form H3.out.2.1.b
          subst e5 e6
          obtain ⟨i9, hi1, hi2, hi3, hi4⟩ := info_parts Yba.info9
          have HI9 : Hid (Yba.prog.info? 9 = some i9 ∧ i9.zero = some (.string ByteArray.empty) ∧ i9.size = 1 ∧ i9.bytes = 16) := ⟨hi1, hi2, hi3, hi4⟩
          clear hi1 hi2 hi3 hi4
          obtain ⟨i3, hi1, hi2, hi3, hi4⟩ := info3
          have HI3 : Hid (Yba.prog.info? 3 = some i3 ∧ i3.zero = some (.int .i64 0) ∧ i3.size = 1 ∧ i3.bytes = 8) := ⟨hi1, hi2, hi3, hi4⟩
          clear hi1 hi2 hi3 hi4
          have HML : Hid (k + 1 ≤ maxLen) := by unfold Hid maxLen; omega
          rcases Nat.lt_or_ge bv av with hab | hab
          case' inl =>
            have dab : decide ((bv : Int) < (av : Int)) = true := by simp; omega
            go_upto_region 15 with fail
            obtain ⟨lo, hi, hlo, hhi, hlh, hhs⟩ : ∃ lo hi, lo = bv ∧ hi = av ∧ lo ≤ hi ∧ hi ≤ s.size := ⟨bv, av, rfl, rfl, by omega, by omega⟩
            rw [← hlo, ← hhi]
            clear hab dab hav1 hbv1 hlo hhi
          case' inr =>
            have dab : decide ((bv : Int) < (av : Int)) = false := by simp; omega
            go_upto_region 15 with fail
            obtain ⟨lo, hi, hlo, hhi, hlh, hhs⟩ : ∃ lo hi, lo = av ∧ hi = bv ∧ lo ≤ hi ∧ hi ≤ s.size := ⟨av, bv, rfl, rfl, by omega, by omega⟩
            rw [← hlo, ← hhi]
            clear hab dab hav1 hbv1 hlo hhi
          all_goals
            have hsl : ∀ W, (Instr.slice 9 (.string s) (some (.int .i64 (lo : Int))) (some (.int .i64 (hi : Int))) none).run Yba.prog W = .ok (.string (s.extract lo hi)) W := fun W => by
              have := run_slice_string (P := Yba.prog) (w := W) 9 s .i64 .i64 (lo : Int) (hi : Int) Yba.underlying9 (by omega) (by omega) (by omega)
              simpa using this
            have HP : Hid ((s.extract lo hi).size ≤ 4096 ∧ Holds nt Ts (bts (s.extract lo hi))) := by
              have x1 := bts_extract s lo hi
              refine ⟨?_, u, hun, by rw [← HSU.out]; exact x1⟩
              have x2 := x1.length_le
              rw [bts_length, bts_length] at x2
              omega
            obtain ⟨pc, hpc⟩ : ∃ pc, pc = s.extract lo hi := ⟨_, rfl⟩
            rw [← hpc] at hsl HP
            clear hpc
            have OA : Hid ((W3.alloc (.cells #[.string pc] 9)).ownsRow W0.heap.size 9 1 (.slice a5 k c5) k (strs L)) := by
              have x1 := H3.out.2.1.p
              rw [H3.out.1] at x1
              exact x1.alloc _
            have HONE : Hid (∀ u ∈ [Value.string pc], u.oneCell' = true) := by intro u hu; simp at hu; subst hu; rfl
            have HBB : Hid (W0.heap.size ≤ (W3.alloc (.cells #[.string pc] 9)).heap.size) := by
              have x1 := H3.out.2.1.bl.size
              unfold Hid; simp; omega
            go_wp2_with (at_builtin; refine wpList_append_lies _ rfl _ _ 22 rfl W0.heap.size 9 i9 (.string ByteArray.empty) 1 16 Yba.underlying22 HI9.out.1 HI9.out.2.1 HI9.out.2.2.1 HI9.out.2.2.2 rfl (by decide) (.slice a5 k c5) k (strs L) rfl OA.out ⟨W3.heap.size, 0, none⟩ 1 1 [.string pc] rfl rfl (news_one W3 (.string pc) 9) HONE.out (by decide) HML.out (by omega) HBB.out _ rfl ?_)
            intro g5 cap5 w11 hown11 hgrow11 hat11 hlt11
            have H4 : Hid ((L ++ [pc]).length = k + 1 ∧ HS W0 w11 (L ++ [pc]) k (.slice (some ⟨g5, 0, none⟩) (k + 1) cap5) (.slice a6 k c6) ∧ ∀ s ∈ L ++ [pc], s.size ≤ 4096 ∧ Holds nt Ts (bts s)) := by
              have x1 := H3.out.1
              have x2 := HS.pushP (H3.out.2.1.keep (keeps_alloc W3 (.cells #[.string pc] 9))) (s := pc) (g := g5) (cap := cap5) (w1 := w11) (by rw [x1]; exact hown11) hgrow11 (by simpa using hat11)
              rw [x1] at x2
              refine ⟨by simp [x1], x2, fun s hs => ?_⟩
              rcases List.mem_append.1 hs with h | h
              · exact H3.out.2.2 s h
              · simp at h; subst h; exact HP.out
            clear hown11 hgrow11 hat11 hlt11 H3 OA HONE HBB hsl
            have OA : Hid ((w11.alloc (.cells #[.int .i64 (k : Int)] 3)).ownsRow W0.heap.size 3 1 (.slice a6 k c6) k (ids k)) := H4.out.2.1.b.alloc _
            have HONE : Hid (∀ u ∈ [Value.int .i64 (k : Int)], u.oneCell' = true) := by intro u hu; simp at hu; subst hu; rfl
            have HBB : Hid (W0.heap.size ≤ (w11.alloc (.cells #[.int .i64 (k : Int)] 3)).heap.size) := by
              have x1 := H4.out.2.1.bl.size
              unfold Hid; simp; omega
            go_wp2_with (at_builtin; refine wpList_append_lies _ rfl _ _ 27 rfl W0.heap.size 3 i3 (.int .i64 0) 1 8 Yba.underlying27 HI3.out.1 HI3.out.2.1 HI3.out.2.2.1 HI3.out.2.2.2 rfl (by decide) (.slice a6 k c6) k (ids k) rfl OA.out ⟨w11.heap.size, 0, none⟩ 1 1 [.int .i64 (k : Int)] rfl rfl (news_one w11 (.int .i64 (k : Int)) 3) HONE.out (by decide) HML.out (by omega) HBB.out _ rfl ?_)
            intro g6 cap6 w12 hown12 hgrow12 hat12 hlt12
            have H5 : Hid ((L ++ [pc]).length = k + 1 ∧ HS W0 w12 (L ++ [pc]) (k + 1) (.slice (some ⟨g5, 0, none⟩) (k + 1) cap5) (.slice (some ⟨g6, 0, none⟩) (k + 1) cap6) ∧ ∀ s ∈ L ++ [pc], s.size ≤ 4096 ∧ Holds nt Ts (bts s)) :=
              ⟨H4.out.1, HS.pushB (H4.out.2.1.keep (keeps_alloc w11 (.cells #[.int .i64 (k : Int)] 3))) hown12 hgrow12 (by simpa using hat12), H4.out.2.2⟩
            clear hown12 hgrow12 hat12 hlt12 H4 OA HONE HBB
            go_wp2
            go_roundw
            case rel => exact ⟨k + 1, L ++ [pc], _, _, rfl, rfl, by go_num, by omega, H5.out⟩
            case measure => simp [intOf]; omega
        · obtain rfl : k = n := by omega
          obtain ⟨a5, c5, gp, e5, p1, p2⟩ := row_read HR.out.2.1.p
          rw [HR.out.1] at e5 p1 p2
          obtain ⟨a6, c6, gb, e6, b1, b2⟩ := row_read HR.out.2.1.b
          subst e5 e6
          go_wp2_with fail
          refine (hCl (some ⟨gt, ot, none⟩) nt tc gt ot Ts wr hnt (HT.out.1.below HR.out.2.1.bl)).mono ?_
          rintro e W4 ⟨v12, rfl, hown4, hbl4⟩
          obtain ⟨a7, c7, g7, e7, t1, t2⟩ := row_read hown4
          subst e7
          obtain ⟨t3, -, -, t6⟩ := t1 h0
          subst t3
          clear t1
          go_upto_region 20 with fail
          obtain ⟨gf, hgf⟩ : ∃ gf, gf = W4.heap.size := ⟨_, rfl⟩
          obtain ⟨W5, hW5⟩ : ∃ W5, W5 = W4.alloc (.cells (madeCells #[.bool false] k) 4) := ⟨_, rfl⟩
          rw [← hgf, ← hW5]
          have hk5 : Keeps (fun _ => False) W4 W5 := by rw [hW5]; exact keeps_alloc _ _
          have hs4 := hbl4.size
          have hbk : ∀ (g : Nat) (i : Nat), g < wr.heap.size → W5.cell? ⟨g, i, none⟩ = wr.cell? ⟨g, i, none⟩ := fun g i hg => by
            rw [World.cell?_of_block (w := W4) (hk5.block g (by omega) id), World.cell?_of_block (w := wr) (hbl4.block g hg)]
          have hlen := HR.out.1
          have H5 : Calls Yba.prog 10 #[.slice a5 k c5, .slice a6 k c6, .slice (some ⟨g7, 0, none⟩) nt c7, .slice (some ⟨gf, 0, none⟩) k k] W5 fun e w' => e = .returned (.tuple #[]) ∧ Keeps (fun j => j = gf) W5 w' ∧
              ∃ r : Nat → Bool, Arr w' gf k (fun i => .bool (r i)) ∧ (∀ i, i < k → (r i = true ↔ Holds nt Ts (bts (L.getD i ByteArray.empty)))) ∧ ∀ i, i < k → (∀ j, j < k → j ≠ i) → r i = false := hMk ⟨gp, k, c5, gb, k, c6, fun i => L.getD i ByteArray.empty, fun i => i⟩ a5 a6 (some ⟨g7, 0, none⟩) (some ⟨gf, 0, none⟩) nt c7 g7 gf k Ts (fun _ => false) W5 (by simp only; omega) (by simp only; omega)
            (fun h0 => by
              obtain ⟨x1, x2, x3, x4⟩ := p1 h0
              obtain ⟨y1, y2, y3, y4⟩ := b1 h0
              have := hk5.size
              exact ⟨x1, y1, rfl, by simp only; omega, by simp only; omega, by simp only; omega⟩)
            (fun h0 i hi => by
              simp only at hi ⊢
              rw [hbk gp i (p1 h0).2.2.2, p2 i hi]
              simp [strs, List.getD_eq_getElem?_getD, List.getElem?_eq_getElem (show i < L.length by omega)])
            (fun i hi => by
              simp only at hi ⊢
              rw [hbk gb i (b1 (by omega)).2.2.2, b2 i hi]
              simp [ids, hi])
            (fun i hi => hi)
            (fun i hi => by
              simp only at hi ⊢
              rw [bts_length]
              refine (HR.out.2.2 _ ?_).1
              rw [List.getD_eq_getElem?_getD, List.getElem?_eq_getElem (show i < L.length by omega)]
              exact List.getElem_mem _)
            hnt (fun _ => rfl)
            (fun i hi => by
              rw [World.cell?_of_block (w := W4) (hk5.block g7 t6 id), t2 i hi]
              simp [texts, hi])
            (fun i hi => by rw [bts_length]; exact HSZ.out i hi)
            (by rw [hW5, hgf]; exact arr_made _ _ _ _)
          have HBL : Hid (Below W0.heap.size W0 W5) := HR.out.2.1.bl.trans ((hbl4.mono HR.out.2.1.bl.size).trans (hk5.below (by have := HR.out.2.1.bl.size; omega) (fun _ h => h.elim)))
          have HGF : Hid (W0.heap.size ≤ gf) := by have := HR.out.2.1.bl.size; unfold Hid; omega
          have HALL : Hid (∀ i, i < k → Holds nt Ts (bts (L.getD i ByteArray.empty))) := by
            intro i hi
            refine (HR.out.2.2 _ ?_).2
            rw [List.getD_eq_getElem?_getD, List.getElem?_eq_getElem (show i < L.length by omega)]
            exact List.getElem_mem _
          clear HR hown4 hbl4 hbk hk5 hs4 hlen hgf hW5 h24 p1 p2 b1 b2 t2 t6
          go_wp2_with fail
          refine H5.mono ?_
          clear H5
          rintro e W6 ⟨rfl, hk6, r, hr1, hr2, -⟩
          have H6 : Hid (Below W0.heap.size W0 W6 ∧ Arr W6 gf k (fun _ => .bool true)) := by
            refine ⟨HBL.out.trans (hk6.below HBL.out.size (fun j hj => by have := HGF.out; omega)), hr1.congr (fun i hi => ?_)⟩
            have := (hr2 i hi).2 (HALL.out i hi)
            show Value.bool (r i) = .bool true
            rw [this]
          clear hk6 hr1 hr2 HALL HBL
          go_wp2
          go_loopw [97] (fun s97 wi => ∃ (j : Nat), s97 = .int .i64 (j : Int) ∧ j ≤ k ∧ Hid (wi = W6)) (fun s97 _ => k - (intOf s97).toNat)
          case atStart => exact ⟨0, rfl, by omega, rfl⟩
          case round =>
            obtain ⟨j, rfl, hj, HJ⟩ := hrel
            obtain rfl : wr = W6 := HJ.out
            clear HJ
            by_cases hjk : j < k
            · obtain ⟨z0, -⟩ := H6.out.2 j hjk
              go_wp2
              go_roundw
              case rel => exact ⟨j + 1, by go_num, by omega, trivial⟩
              case measure => simp [intOf]; omega
            · obtain rfl : j = k := by omega
              go_wp2
              go_ret
              exact ⟨rfl, H6.out.1⟩
end Go.Proofs.Ybulkblzg
