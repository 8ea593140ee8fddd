import Derived.Test.YbulkblzgB6e
namespace Go.Proofs.Ybulkblzg
open Go.RowKit
set_option linter.unusedVariables false
set_option linter.unusedSimpArgs false

set_option maxRecDepth 100000 in
set_option maxHeartbeats 40000000 in
theorem trie_any (c : Ct) (pp pb : Option Addr) (w0 : World) (hk : c.k ≤ 256)
    (hp : 0 < c.k → pp = some ⟨c.gp, 0, none⟩ ∧ pb = some ⟨c.gb, 0, none⟩ ∧ c.gp < w0.heap.size ∧ c.gb < w0.heap.size)
    (hpc : 0 < c.k → ∀ i, i < c.np → w0.cell? ⟨c.gp, i, none⟩ = some (.string (c.Ps i))) (hbc : ∀ i, i < c.k → w0.cell? ⟨c.gb, i, none⟩ = some (.int .i64 (c.Bt i : Int)))
    (hbl : ∀ i, i < c.k → c.Bt i < c.np) (hlen : ∀ i, i < c.np → (bts (c.Ps i)).length ≤ 4096) :
    Calls Yba.prog 21 #[.slice pp c.np c.pc, .slice pb c.k c.bc] w0 fun e w' => ∃ bt an, e = .returned (.tuple #[.pointer (some ⟨bt, 0, none⟩), .slice (some ⟨an, 0, none⟩) c.k c.k]) ∧ T7 c w0 w' bt an := by
  obtain ⟨N, hN⟩ : ∃ N, N = w0.heap.size := ⟨_, rfl⟩
  have HN : Hid (N = w0.heap.size) := hN
  have HA : Hid ((0 < c.k → pp = some ⟨c.gp, 0, none⟩ ∧ pb = some ⟨c.gb, 0, none⟩ ∧ c.gp < w0.heap.size ∧ c.gb < w0.heap.size) ∧ (0 < c.k → ∀ i, i < c.np → w0.cell? ⟨c.gp, i, none⟩ = some (.string (c.Ps i))) ∧ (∀ i, i < c.k → w0.cell? ⟨c.gb, i, none⟩ = some (.int .i64 (c.Bt i : Int))) ∧
    (∀ i, i < c.k → c.Bt i < c.np) ∧ (∀ i, i < c.np → (bts (c.Ps i)).length ≤ 4096)) := ⟨hp, hpc, hbc, hbl, hlen⟩
  clear hp hpc hbc hbl hlen
  have h27 := make_n Yba.underlying27 Yba.info3 rfl (by omega) c.k (by omega)
  have h50 := make_n Yba.underlying50 Yba.info21 rfl (by omega) c.k (by omega)
  go_enter Yba.func21, Yba.ntmps21
  go_upto_region 3 with fail
  rw [← hN]
  simp only [Nat.add_assoc, Nat.reduceAdd]
  obtain ⟨W1, hW1⟩ : ∃ W1, W1 = ((((w0.alloc (.cells #[.slice pp c.np c.pc] 22)).alloc (.cells #[.slice pb c.k c.bc] 27)).alloc (.cells (madeCells #[.int .i64 0] c.k) 3)).alloc (.cells #[.slice (some ⟨N + 2, 0, none⟩) c.k c.k] 27)) := ⟨_, rfl⟩
  rw [← hW1]
  have H1 : Hid (Box W1 N (.slice pp c.np c.pc) ∧ Box W1 (N + 1) (.slice pb c.k c.bc) ∧ Arr W1 (N + 2) c.k (fun _ => .int .i64 0) ∧ Box W1 (N + 3) (.slice (some ⟨N + 2, 0, none⟩) c.k c.k) ∧ Below N w0 W1 ∧ W1.heap.size = N + 4) := by
    have x0 := box_new w0 (.slice pp c.np c.pc) 22
    have x1 := box_new (w0.alloc (.cells #[.slice pp c.np c.pc] 22)) (.slice pb c.k c.bc) 27
    have x2 := arr_made ((w0.alloc (.cells #[.slice pp c.np c.pc] 22)).alloc (.cells #[.slice pb c.k c.bc] 27)) (.int .i64 0) c.k 3
    have x3 := box_new (((w0.alloc (.cells #[.slice pp c.np c.pc] 22)).alloc (.cells #[.slice pb c.k c.bc] 27)).alloc (.cells (madeCells #[.int .i64 0] c.k) 3)) (.slice (some ⟨N + 2, 0, none⟩) c.k c.k) 27
    simp only [World.size_alloc, Nat.add_assoc, Nat.reduceAdd, ← hN] at x0 x1 x2 x3
    rw [hW1]
    refine ⟨((x0.alloc _).alloc _).alloc _, (x1.alloc _).alloc _, x2.alloc _, x3, ?_, by simp [← hN]⟩
    rw [hN]
    exact ((((Below.refl _ _).alloc (Nat.le_refl _) _).alloc (by simp) _).alloc (by simp; omega) _).alloc (by simp; omega) _
  clear hW1 h27 hN
  go_loopw [27] (fun s wr => ∃ (a : Nat), s = .int .i64 (a : Int) ∧ a ≤ c.k ∧ Hid (Keeps (fun j => j = N + 2) W1 wr ∧ Arr wr (N + 2) c.k (fun i => .int .i64 (if i < a then (i : Int) else 0)) ∧ wr.heap.size = N + 4)) (fun s _ => c.k - (intOf s).toNat)
  case atStart => exact ⟨0, rfl, Nat.zero_le _, Keeps.refl _ _, H1.out.2.2.1.congr (fun i _ => by simp), H1.out.2.2.2.2.2⟩
  case round =>
    obtain ⟨a, rfl, ha, HR⟩ := hrel
    have b3 := (H1.out.2.2.2.1.keep HR.out.1 (by omega)).1
    by_cases hlt : a < c.k
    · obtain ⟨o0, o1⟩ := HR.out.2.1 a hlt
      simp only [Nat.lt_irrefl, if_false] at o0
      go_wp2
      go_roundw
      case rel =>
        refine ⟨a + 1, by go_num, by omega, (HR.out.1.trans (keeps_set _ ⟨N + 2, a, none⟩ _)), (HR.out.2.1.set _ hlt).congr (fun i _ => ?_), by simpa [World.setCell] using HR.out.2.2⟩
        by_cases e : i = a
        · subst e; simp
        · simp only [if_neg e]
          by_cases e2 : i < a
          · rw [if_pos e2, if_pos (by omega)]
          · rw [if_neg e2, if_neg (by omega)]
      case measure => simp [intOf]; omega
    · obtain rfl : a = c.k := by omega
      go_upto_region 8 with fail
      rw [HR.out.2.2]
      obtain ⟨W2, hW2⟩ : ∃ W2, W2 = wr.alloc (.cells #[.func (.func 26) #[] #[.pointer (some ⟨N, 0, none⟩), .pointer (some ⟨N + 1, 0, none⟩), .pointer (some ⟨N + 3, 0, none⟩)]] 62) := ⟨_, rfl⟩
      rw [← hW2]
      have H2 : Hid (PM W2 N (N + 1) (N + 3) c.gp c.np c.pc c.gb c.k c.bc (N + 2) c.Ps c.Bt (fun i => i) ∧ (∀ i, i < c.k → W2.frozen? ⟨N + 2, i, none⟩ = false) ∧ Box W2 (N + 4) (.func (.func 26) #[] #[.pointer (some ⟨N, 0, none⟩), .pointer (some ⟨N + 1, 0, none⟩), .pointer (some ⟨N + 3, 0, none⟩)]) ∧
          Below N w0 W2 ∧ W2.heap.size = N + 5 ∧ Box W2 (N + 1) (.slice pb c.k c.bc) ∧ Box W2 (N + 3) (.slice (some ⟨N + 2, 0, none⟩) c.k c.k)) := by
        have hs := HR.out.2.2
        have hk2 : Keeps (fun j => j = N + 2) W1 W2 := by rw [hW2]; exact HR.out.1.alloc _
        have hb2 : Below N w0 W2 := H1.out.2.2.2.2.1.trans (hk2.below (by have := H1.out.2.2.2.2.2; omega) (fun j hj => by omega))
        have ar : Arr W2 (N + 2) c.k (fun i => .int .i64 (i : Int)) := by
          rw [hW2]
          exact (HR.out.2.1.alloc _).congr (fun i hi => by rw [if_pos hi])
        have x0 := H1.out.1.keep hk2 (by omega)
        have x1 := H1.out.2.1.keep hk2 (by omega)
        have x3 := H1.out.2.2.2.1.keep hk2 (by omega)
        have xq : Box W2 (N + 4) (.func (.func 26) #[] #[.pointer (some ⟨N, 0, none⟩), .pointer (some ⟨N + 1, 0, none⟩), .pointer (some ⟨N + 3, 0, none⟩)]) := by rw [hW2, ← hs]; exact box_new _ _ _
        have hNw := HN.out
        refine ⟨⟨fun h0 => ?_, fun h0 i hi => ?_, fun h0 => ?_, fun i hi => ?_, x3.1, fun i hi => (ar i hi).1, HA.out.2.2.2.1, fun i hi => hi⟩, fun i hi => (ar i hi).2, xq, hb2, by rw [hW2]; simp [hs], x1, x3⟩
        · rw [← (HA.out.1 h0).1]; exact x0.1
        · have h3 := (HA.out.1 h0).2.2.1
          rw [World.cell?_of_block (w := w0) (hb2.block c.gp (by omega))]; exact HA.out.2.1 h0 i hi
        · rw [← (HA.out.1 h0).2.1]; exact x1.1
        · have h3 := (HA.out.1 (by omega)).2.2.2
          rw [World.cell?_of_block (w := w0) (hb2.block c.gb (by omega))]; exact HA.out.2.2.1 i hi
      clear hW2 HR H1 b3
      obtain ⟨b5, -⟩ := H2.out.2.2.2.2.2.2
      go_wp2_with fail
      refine (sort_any (N + 4) N (N + 1) (N + 3) c.gp c.np c.pc c.gb c.k c.bc (N + 2) c.Ps c.Bt W2 H2.out.1 H2.out.2.1 H2.out.2.2.1.1 (by omega) (by omega) (fun h0 => by have := HN.out; have := (HA.out.1 h0).2.2; omega)).mono ?_
      rintro e W3 ⟨rfl, O, hO, hk3, ha3⟩
      have hnK : ∀ b, b ≠ N + 2 → b < N + 5 → W3.heap[b]? = W2.heap[b]? := fun b h1 h2 => hk3.block b (by have := H2.out.2.2.2.2.1; omega) h1
      have b1 : ∀ o o', ((W3.alloc o).alloc o').cell? ⟨N + 1, 0, none⟩ = some (.slice pb c.k c.bc) := fun o o' => (((H2.out.2.2.2.2.2.1.keep hk3 (by omega)).alloc o).alloc o').1
      have b6 : ∀ o o' o'', (((W3.alloc o).alloc o').alloc o'').cell? ⟨N + 3, 0, none⟩ = some (.slice (some ⟨N + 2, 0, none⟩) c.k c.k) := fun o o' o'' => ((((H2.out.2.2.2.2.2.2.keep hk3 (by omega)).alloc o).alloc o').alloc o'').1
      have H3 : Hid (PQ c N O W3 ∧ Below N w0 W3 ∧ N + 5 ≤ W3.heap.size ∧ Ordered c.k (fun a => bts (c.Ps (c.Bt a))) O) := by
        have hs2 := H2.out.2.2.2.2.1
        have hNw := HN.out
        have hcc : ∀ (b i : Nat) (v : Value), b ≠ N + 2 → b < N + 5 → W2.cell? ⟨b, i, none⟩ = some v → W3.cell? ⟨b, i, none⟩ = some v := by
          intro b i v h1 h2 h3
          rw [World.cell?_of_block (w := W2) (hnK b h1 h2)]; exact h3
        refine ⟨⟨⟨fun h0 => hcc _ _ _ (by omega) (by omega) (H2.out.1.p h0), fun h0 i hi => hcc _ _ _ ?_ ?_ (H2.out.1.pc h0 i hi), fun h0 => hcc _ _ _ (by omega) (by omega) (H2.out.1.b h0), fun i hi => hcc _ _ _ ?_ ?_ (H2.out.1.bc i hi), hcc _ _ _ (by omega) (by omega) H2.out.1.o, fun i hi => (ha3 i hi).1, HA.out.2.2.2.1, hO.lt⟩,
          hcc _ _ _ (by omega) (by omega) H2.out.2.2.1.1, fun h0 => ?_⟩, H2.out.2.2.2.1.trans (hk3.below (by omega) (fun j hj => by omega)), by have := hk3.size; omega, hO⟩
        · have := (HA.out.1 h0).2.2; omega
        · have := (HA.out.1 h0).2.2; omega
        · have := (HA.out.1 (by omega)).2.2; omega
        · have := (HA.out.1 (by omega)).2.2; omega
        · have := (HA.out.1 h0).2.2; omega
      clear hk3 ha3 hnK hO H2 b5
      have HSX : Hid (∀ W4, W4 = ((((W3.alloc (.cells #[.int .u8 0] 5)).alloc (.cells #[.slice none 0 0, .slice (some ⟨W3.heap.size, 0, none⟩) 1 1, .slice none 0 0] 55)).alloc (.cells (madeCells #[.int .i32 0] c.k) 21)).alloc (.cells #[.int .i64 0, .int .i64 (c.k : Int)] 66)) →
        SX c N W3.heap.size O w0 W4 0 0 [(0, c.k)] [] 0 1 [] (fun _ => 0) (fun _ => []) (fun _ => 0) (W3.heap.size + 1) (.slice none 0 0) (.slice (some ⟨W3.heap.size, 0, none⟩) 1 1) (.slice (some ⟨W3.heap.size + 3, 0, none⟩) 1 1) (.slice none 0 0) (pendL [(0, c.k)] 0)) := by
        rintro W4 rfl
        exact sx_start c N O w0 W3 hk H3.out.1 H3.out.2.1 H3.out.2.2.1
      go_upto_region 12 with fail
      obtain ⟨A, hA⟩ : ∃ A, A = W3.heap.size := ⟨_, rfl⟩
      rw [← hA] at HSX ⊢
      simp only [Nat.add_assoc, Nat.reduceAdd]
      obtain ⟨W4, hW4⟩ : ∃ W4, W4 = ((((W3.alloc (.cells #[.int .u8 0] 5)).alloc (.cells #[.slice none 0 0, .slice (some ⟨A, 0, none⟩) 1 1, .slice none 0 0] 55)).alloc (.cells (madeCells #[.int .i32 0] c.k) 21)).alloc (.cells #[.int .i64 0, .int .i64 (c.k : Int)] 66)) := ⟨_, rfl⟩
      rw [← hW4]
      have HS0 : Hid (SX c N A O w0 W4 0 0 [(0, c.k)] [] 0 1 [] (fun _ => 0) (fun _ => []) (fun _ => 0) (A + 1) (.slice none 0 0) (.slice (some ⟨A, 0, none⟩) 1 1) (.slice (some ⟨A + 3, 0, none⟩) 1 1) (.slice none 0 0) (pendL [(0, c.k)] 0)) := HSX.out W4 hW4
      have HO : Hid (Ordered c.k (fun a => bts (c.Ps (c.Bt a))) O) := H3.out.2.2.2
      have HP : Hid ((∀ i j, i ≤ j → j < c.k → slt (c.str O j) (c.str O i) = false) ∧ ∀ j, j < c.k → (c.str O j).length ≤ 4096) := ⟨HO.out.srt, fun j hj => HA.out.2.2.2.2 _ (HA.out.2.2.2.1 _ (HO.out.lt j hj))⟩
      clear HSX hW4 hA b1 b6 h50 H3
      go_wp2
      go_loopw [11, 12] (fun s11 s12 wr => ∃ (d bs q : Nat) (Lv : List (Nat × Nat)) (fs : List Nat) (lb : Nat → Nat) (str : Nat → List Nat) (nd : Nat → Nat) (v0 v1 v2 : Value), s11 = v2 ∧ s12 = .int .i64 (d : Int) ∧ d ≤ 4097 ∧
        Hid (SX c N A O w0 wr d bs Lv [] bs q fs lb str nd (A + 1) v0 v1 v2 (.slice none 0 0) (pendL Lv 0) ∧ (0 < d → NE Lv))) (fun _ s12 _ => 5000 - (intOf s12).toNat)
      case atStart => exact ⟨0, 0, 1, _, _, _, _, _, _, _, _, rfl, rfl, by omega, HS0.out, fun h => by omega⟩
      case round =>
        obtain ⟨d, bs, q, Lv, fs, lb, str, nd, v0, v1, v2, rfl, rfl, hd, HR2⟩ := hrel
        obtain ⟨a2, c2, hv2, -⟩ := row_form (HR2.out.1.tc.rw 2 (by omega))
        change u11 = .slice a2 Lv.length c2 at hv2
        subst hv2
        clear HS0
        rcases Nat.eq_zero_or_pos Lv.length with hL | hL
        · have HL : Hid (Lv = []) := List.eq_nil_of_length_eq_zero hL
          rw [hL]
          have hLv : Lv = [] := HL.out
          subst hLv
          have HE : Hid (Tri q q fs lb str ∧ ∀ j, j < c.k → nd (O j) < q ∧ str (nd (O j)) = c.str O j) := core_end HR2.out.1.core
          obtain ⟨a0, c0, e0, -⟩ := row_form (HR2.out.1.tc.rw 0 (by omega))
          change v0 = .slice a0 fs.length c0 at e0
          rw [HE.out.1.len] at e0
          obtain ⟨a1, c1, e1, -⟩ := row_form (HR2.out.1.tc.rw 1 (by omega))
          change v1 = .slice a1 q c1 at e1
          subst e0 e1
          have hqb : q ≤ 2000000 := core_q HR2.out.1.core HR2.out.1.ne hk (by omega)
          have hq1 : 1 ≤ q := HE.out.1.one
          have hwq := wrap32 q (by omega)
          have t0 : wr.cell? ⟨A + 1, 0, none⟩ = some (.slice a0 q c0) := HR2.out.1.tc.t0
          have t1 : wr.cell? ⟨A + 1, 1, none⟩ = some (.slice a1 q c1) := HR2.out.1.tc.t1
          have t0' : ∀ o, (wr.alloc o).cell? ⟨A + 1, 0, none⟩ = some (.slice a0 q c0) := fun o => (TB.keep HR2.out.1.tc (keeps_alloc wr o)).t0
          obtain ⟨i21, hi1, hi2, hi3, hi4⟩ := info_parts Yba.info21
          have HI : Hid (Yba.prog.info? 21 = some i21 ∧ i21.zero = some (.int .i32 0) ∧ i21.size = 1 ∧ i21.bytes = 4) := ⟨hi1, hi2, hi3, hi4⟩
          clear hi1 hi2 hi3 hi4
          go_upto_region 34 with fail
          go_cut [162] (fun s162 wx => ∃ g cap, Hid (TC c N A O w0 wx (fs ++ [q]) q lb [] [] (.slice (some ⟨g, 0, none⟩) (q + 1) cap) (.slice a1 q c1) (.slice a2 ([] : List (Nat × Nat)).length c2) (.slice none 0 0) nd (A + 1)))
          case first =>
            have OA : Hid ((wr.alloc (.cells #[.int .i32 (q : Int)] 21)).drew.ownsRow A 21 1 (.slice a0 q c0) q (i32s fs)) := by
              have h3 := HR2.out.1.tc.rw 0 (by omega)
              simp only [rws, HE.out.1.len] at h3
              exact h3.alloc _
            have HNEW : Hid (∀ j u, [Value.int .i32 (q : Int)][j]? = some u → (wr.alloc (.cells #[.int .i32 (q : Int)] 21)).drew.cell? ((⟨wr.heap.size, 0, none⟩ : Addr).add j) = some u) := news_one wr (.int .i32 (q : Int)) 21
            have HONE : Hid (∀ u ∈ [Value.int .i32 (q : Int)], u.oneCell' = true) := by intro u hu; simp at hu; subst hu; rfl
            have HML : Hid (q + 1 ≤ maxLen) := by unfold Hid maxLen; omega
            have HBB : Hid (A ≤ (wr.alloc (.cells #[.int .i32 (q : Int)] 21)).drew.heap.size) := by
              have h1 := HR2.out.1.tc.sz
              show A ≤ (wr.alloc (.cells #[.int .i32 (q : Int)] 21)).heap.size
              simp; omega
            have HF : Hid (∀ w11, (wr.alloc (.cells #[.int .i32 (q : Int)] 21)).drew.grownBy w11 (Value.slice a0 q c0).ownBlock → w11.cell? ⟨A + 1, 0, none⟩ = some (.slice a0 q c0) ∧ w11.frozen? ⟨A + 1, 0, none⟩ = false) := by
              intro w11 hg
              have h3 := TB.midc HR2.out.1.tc (i := 0) (by omega) (keeps_alloc_drew _ _) hg
              exact ⟨h3.1, h3.2.2.2 0⟩
            go_region_law (refine step_append_lies _ rfl (.tmp 154) (.tmp 161) 50 rfl A 21 i21 (.int .i32 0) 1 4 Yba.underlying50 HI.out.1 HI.out.2.1 HI.out.2.2.1 HI.out.2.2.2 rfl (by decide) (.slice a0 q c0) q (i32s fs) (by simp [Act.eval, Act.put]) OA.out ⟨wr.heap.size, 0, none⟩ 1 1 [.int .i32 (q : Int)] (by simp [Act.eval, Act.put]) rfl HNEW.out HONE.out (by decide) HML.out (by omega) HBB.out _ rfl ?_; intro g cap w11 hown11 hgrow11 hat11 hlt11; have f11 := HF.out w11 hgrow11; obtain ⟨f11a, f11b⟩ := f11)
            all_goals
              have H6 : Hid (TC c N A O w0 (w11.setCell ⟨A + 1, 0, none⟩ (.slice (some ⟨g, 0, none⟩) (q + 1) cap)) (fs ++ [q]) q lb [] [] (.slice (some ⟨g, 0, none⟩) (q + 1) cap) (.slice a1 q c1) (.slice a2 ([] : List (Nat × Nat)).length c2) (.slice none 0 0) nd (A + 1)) :=
                TC.first HR2.out.1.tc (keeps_alloc_drew wr (.cells #[.int .i32 (q : Int)] 21)) HE.out.1.len.symm hown11 hgrow11 hat11
              clear hown11 hgrow11 hat11 hlt11 f11a f11b
              go_wp2
              go_meet
              case rel => exact ⟨g, cap, H6.out⟩
          case rest =>
            obtain ⟨g, cap, H6⟩ := hcut
            obtain ⟨W6, rfl⟩ : ∃ W6 : World, W6 = wc := ⟨_, rfl⟩
            obtain ⟨g1, c1', e1', -⟩ := tc_done H6.out HE.out.1.len hq1
            injection e1' with e2 e3 e4
            subst e2 e4
            clear e3
            have HLB : Hid (∀ j, lb j < 256) := HR2.out.1.lbb
            have HND : Hid (∀ i, i < c.k → nd i < q ∧ str (nd i) = bts (c.Ps (c.Bt i))) := by
              intro i hi
              obtain ⟨j, hj, rfl⟩ := HO.out.all i hi
              exact HE.out.2 j hj
            clear t0 t1 t0' HR2 HI
            have t1 : W6.cell? ⟨A + 1, 1, none⟩ = some (.slice (some ⟨g1, 0, none⟩) q c1) := H6.out.t1
            have t2 : ∀ o, (W6.alloc o).cell? ⟨A + 1, 2, none⟩ = some (.slice none 0 0) := fun o => (TB.keep H6.out (keeps_alloc W6 o)).t2
            have t3 : ∀ o, (W6.alloc o).frozen? ⟨A + 1, 2, none⟩ = false := fun o => (TB.keep H6.out (keeps_alloc W6 o)).tz 2
            have h50 := make_big Yba.underlying50 Yba.info21 rfl (by omega) q (by omega)
            go_upto_region 36 with fail
            have HFL := fl_made H6.out HE.out.1.len hq1
            have HTT : Hid (TrieOK q (fun i => (fs ++ [q]).getD i 0) lb str) := trie_of_tri HE.out.1
            obtain ⟨F, hF⟩ : ∃ F : Nat → Nat, F = fun i => (fs ++ [q]).getD i 0 := ⟨_, rfl⟩
            rw [← hF] at HFL HTT
            obtain ⟨gq, hgq⟩ : ∃ gq, gq = W6.heap.size := ⟨_, rfl⟩
            rw [← hgq] at HFL ⊢
            obtain ⟨Wq, hWq⟩ : ∃ Wq, Wq = (W6.alloc (.cells (madeCells #[.int .i32 0] q) 21)).setCell ⟨A + 1, 2, none⟩ (.slice (some ⟨gq, 0, none⟩) q q) := ⟨_, rfl⟩
            rw [← hWq] at HFL ⊢
            have HF : Hid (FL c N A g cap g1 c1 gq q F lb nd w0 Wq ∧ Arr Wq gq q (fun _ => .int .i32 0)) := HFL
            clear HFL hF hgq hWq h50 t1 t2 t3 H6 HE HL
            go_wp2
            go_loopw [20] (fun s20 wi => ∃ (i : Nat), s20 = .int .i32 (i : Int) ∧ 1 ≤ i ∧ i ≤ q ∧ Hid (Keeps (fun j => j = gq) Wq wi ∧ ∃ f : Nat → Nat, Arr wi gq q (fun j => .int .i32 (f j : Int)) ∧ ∀ x, 1 ≤ x → x < F i → IsF q str x (f x))) (fun s20 _ => q - (intOf s20).toNat)
            case atStart =>
              refine ⟨1, rfl, by omega, hq1, Keeps.refl _ _, fun _ => 0, HF.out.2, fun x h1 h2 => ?_⟩
              have h3 := HTT.out.fle (i := 1) hq1
              exact fail_top HTT.out (by omega) (HTT.out.kid 0 x (by omega) (by rw [HTT.out.F0]; exact h1) h2)
            case round =>
              obtain ⟨i, rfl, hi1, hiq, HR⟩ := hrel
              have hFL := HF.out.1.keep hq1 HR.out.1
              have m1 := hFL.tm.l
              by_cases hlt : i < q
              · have m0 := hFL.tm.f
                have m2 := hFL.tm.fc i (by omega)
                have hF1 := HTT.out.fle (i := i + 1) (by omega)
                have hF2 := HTT.out.mono i hlt
                have hF3 := HTT.out.up i hlt
                obtain ⟨lo, hlo⟩ : ∃ lo, lo = F i := ⟨_, rfl⟩
                obtain ⟨hh, hhh⟩ : ∃ hh, hh = F (i + 1) := ⟨_, rfl⟩
                have HLO : Hid (lo = F i ∧ hh = F (i + 1)) := ⟨hlo, hhh⟩
                rw [← hlo] at m2 hF2 hF3
                rw [← hhh] at hF1 hF2
                clear hlo hhh hFL
                go_wp2
                obtain ⟨wo, hwo⟩ : ∃ wo : World, wo = wr := ⟨_, rfl⟩
                rw [← hwo] at HR ⊢
                clear m0 m1 m2 hwo
                go_loopw [21] (fun s21 wi => ∃ (ch : Nat), s21 = .int .i32 (ch : Int) ∧ lo ≤ ch ∧ ch ≤ hh ∧ Hid (Keeps (fun j => j = gq) Wq wi ∧ ∃ f : Nat → Nat, Arr wi gq q (fun j => .int .i32 (f j : Int)) ∧ ∀ x, 1 ≤ x → x < ch → IsF q str x (f x))) (fun s21 _ => hh - (intOf s21).toNat)
                case atStart =>
                  obtain ⟨f, h1, h2⟩ := HR.out.2
                  exact ⟨lo, rfl, Nat.le_refl _, hF2, HR.out.1, f, h1, by rw [HLO.out.1]; exact h2⟩
                case round =>
                  clear HR
                  obtain ⟨ch, rfl, hc1, hc2, HR⟩ := hrel
                  have hFL := HF.out.1.keep hq1 HR.out.1
                  have m0 := hFL.tm.f
                  have m3 := hFL.tm.fc (i + 1) (by omega)
                  rw [← HLO.out.2] at m3
                  by_cases hch : ch < hh
                  · obtain ⟨f, hf1, hf2⟩ := HR.out.2
                    have hisf := IsF.lt HTT.out hi1 hlt (by rw [← HLO.out.1]; exact hc1) hf2
                    have hfq : f i < q := hisf.1.1
                    have HC0 := step_any (A + 1) g cap g1 c1 gq q F lb str f wr.drew HTT.out ⟨hFL.tm.f, hFL.tm.fc, hFL.tm.l, hFL.tm.lc⟩ ⟨hFL.s, fun j hj => (hf1 j hj).1⟩ (by omega) (fun j _ => HLB.out j) (f i) hfq (lb ch) (HLB.out ch) hisf.2
                    have m4 := hFL.s
                    have m5 := (hf1 i hlt).1
                    have m6 := hFL.tm.l
                    have m7 := hFL.tm.lc ch (by omega)
                    obtain ⟨m8, m9⟩ := hf1 ch (by omega)
                    have HUP : Hid (∀ y W, IsL q str (str (f i) ++ [lb ch]) y → Keeps (fun _ => False) wr W → Keeps (fun j => j = gq) Wq (W.setCell ⟨gq, ch, none⟩ (.int .i32 (y : Int))) ∧ ∃ f : Nat → Nat, Arr (W.setCell ⟨gq, ch, none⟩ (.int .i32 (y : Int))) gq q (fun j => .int .i32 (f j : Int)) ∧ ∀ x, 1 ≤ x → x < ch + 1 → IsF q str x (f x)) := by
                      intro y W hy hk
                      refine ⟨(HR.out.1.trans (hk.mono (fun _ _ h => h.elim))).trans (keeps_set W ⟨gq, ch, none⟩ _), setF f ch y, (((hf1.keep hk id).set (.int .i32 (y : Int)) (by omega)).congr (fun j _ => ?_)), fun x h1 h2 => ?_⟩
                      · by_cases e : j = ch
                        · subst e; simp [setF]
                        · simp [setF, e]
                      · by_cases e : x = ch
                        · subst e
                          rw [setF_same]
                          exact fail_kid HTT.out hlt (by omega) (HTT.out.kid i x hlt (by rw [← HLO.out.1]; exact hc1) (by rw [← HLO.out.2]; exact hch)) hisf.1 hy
                        · rw [setF_other _ _ _ _ e]
                          exact hf2 x h1 (by omega)
                    obtain ⟨fi, hfi⟩ : ∃ fi, fi = f i := ⟨_, rfl⟩
                    obtain ⟨bl, hbl⟩ : ∃ bl, bl = lb ch := ⟨_, rfl⟩
                    obtain ⟨fc, hfc⟩ : ∃ fc, fc = f ch := ⟨_, rfl⟩
                    rw [← hfi, ← hbl] at HC0 HUP
                    dsimp only at m5 m7 m8
                    rw [← hfi] at m5
                    rw [← hbl] at m7
                    rw [← hfc] at m8
                    have HC : Hid (Calls Yba.prog 22 #[.pointer (some ⟨A + 1, 0, none⟩), .int .i32 (fi : Int), .int .u8 (bl : Int)] wr.drew fun e w' => (∃ q, w' = wr.drew.drewN q) ∧ ∃ y, IsL q str (str fi ++ [bl]) y ∧ e = .returned (.int .i32 (y : Int))) := HC0
                    have HSET : Hid (∀ (W : World) (v : Value), (W.cell? ⟨A + 1, 2, none⟩ = some (.slice (some ⟨gq, 0, none⟩) q q) ∧ W.cell? ⟨A + 1, 1, none⟩ = some (.slice (some ⟨g1, 0, none⟩) q c1) ∧ W.cell? ⟨gq, i, none⟩ = some (.int .i32 (fi : Int)) ∧ W.cell? ⟨g1, ch, none⟩ = some (.int .u8 (bl : Int))) → ((W.setCell ⟨gq, ch, none⟩ v).cell? ⟨A + 1, 2, none⟩ = some (.slice (some ⟨gq, 0, none⟩) q q) ∧ (W.setCell ⟨gq, ch, none⟩ v).cell? ⟨A + 1, 1, none⟩ = some (.slice (some ⟨g1, 0, none⟩) q c1) ∧ (W.setCell ⟨gq, ch, none⟩ v).cell? ⟨gq, i, none⟩ = some (.int .i32 (fi : Int)) ∧ (W.setCell ⟨gq, ch, none⟩ v).cell? ⟨g1, ch, none⟩ = some (.int .u8 (bl : Int)))) := by
                      intro W v h
                      have hne := hFL.ne
                      have hb : ∀ (b j : Nat) (u : Value), (b ≠ gq ∨ j ≠ ch) → W.cell? ⟨b, j, none⟩ = some u → (W.setCell ⟨gq, ch, none⟩ v).cell? ⟨b, j, none⟩ = some u := fun b j u hn hu => by
                        rw [World.cell?_setCell_other _ _ _ _ (by intro hh; injection hh; omega)]; exact hu
                      exact ⟨hb _ _ _ (by omega) h.1, hb _ _ _ (by omega) h.2.1, hb _ _ _ (by omega) h.2.2.1, hb _ _ _ (by omega) h.2.2.2⟩
                    have hI1 : (0 : Int) ≤ (ch : Int) := by omega
                    have hI2 : (ch : Int) < (q : Int) := by omega
                    have hI3 : (0 : Int) ≤ (i : Int) := by omega
                    have hI4 : (i : Int) < (q : Int) := by omega
                    clear HC0 hfi hbl hfc hf1 hf2 hisf hFL
                    go_upto_block 15 with fail
                    go_cut [223] (fun s223 wx => Hid (Keeps (fun j => j = gq) Wq wx ∧ ∃ f : Nat → Nat, Arr wx gq q (fun j => .int .i32 (f j : Int)) ∧ ∀ x, 1 ≤ x → x < ch + 1 → IsF q str x (f x)))
                    case first =>
                      go_upto_region 42 with fail
                      go_region_held3 (fun w' => w'.cell? ⟨A + 1, 2, none⟩ = some (.slice (some ⟨gq, 0, none⟩) q q) ∧ w'.cell? ⟨A + 1, 1, none⟩ = some (.slice (some ⟨g1, 0, none⟩) q c1) ∧ w'.cell? ⟨gq, i, none⟩ = some (.int .i32 (fi : Int)) ∧ w'.cell? ⟨g1, ch, none⟩ = some (.int .u8 (bl : Int))) (first | go_keep | exact k17 | exact HSET.out _ _ k17 | exact HSET.out _ _ ⟨m4, m6, m5, m7⟩)
                        (first | (go_at_call 22; refine HC.out.mono ?_; rintro e w17 ⟨⟨q', hq'⟩, y, hy, rfl⟩; have k17 : w17.cell? ⟨A + 1, 2, none⟩ = some (.slice (some ⟨gq, 0, none⟩) q q) ∧ w17.cell? ⟨A + 1, 1, none⟩ = some (.slice (some ⟨g1, 0, none⟩) q c1) ∧ w17.cell? ⟨gq, i, none⟩ = some (.int .i32 (fi : Int)) ∧ w17.cell? ⟨g1, ch, none⟩ = some (.int .u8 (bl : Int)) := by { rw [hq']; exact ⟨m4, m6, m5, m7⟩ }; have k18 : w17.cell? ⟨gq, ch, none⟩ = some (.int .i32 (fc : Int)) := by { rw [hq']; exact m8 }; have k19 : w17.frozen? ⟨gq, ch, none⟩ = false := by { rw [hq']; exact m9 }))
                      all_goals
                        rename_i hHeld
                        clear hHeld k17 k18 k19 hq'
                        have HY : Hid (IsL q str (str fi ++ [bl]) y) := hy
                        clear hy
                        go_wp2
                        go_meet
                        case rel => exact HUP.out y _ HY.out (keeps_drewN wr _)
                    case rest =>
                      go_wp2
                      go_roundw
                      case rel => exact ⟨ch + 1, by go_num, by omega, by omega, hcut.out⟩
                      case measure => simp [intOf]; omega
                  · obtain rfl : ch = hh := by omega
                    go_wp2
                    go_roundw
                    case rel =>
                      obtain ⟨f, h1, h2⟩ := HR.out.2
                      exact ⟨i + 1, by go_num, by omega, by omega, HR.out.1, f, h1, by rw [← HLO.out.2]; exact h2⟩
                    case measure => simp [intOf]; omega
              · obtain rfl : i = q := by omega
                go_wp2
                go_ret2
                obtain ⟨f, h1, h2⟩ := HR.out.2
                rw [HTT.out.FN] at h2
                have hN := HN.out
                have hle := hFL.le
                refine ⟨A + 1, A + 2, rfl, F, lb, str, f, g, cap, g1, c1, gq, i, nd, HTT.out, hFL.tm, ⟨hFL.s, fun j hj => (h1 j hj).1⟩, by omega, fun j _ => HLB.out j, h2, fun j hj => (hFL.na j hj).1, HND.out, by rw [← hN]; exact hFL.bl, by omega, by omega, by omega, by omega, by omega⟩
        · have hLz : decide ((0 : Int) < (Lv.length : Int)) = true := by simp; omega
          have hd2 : d ≤ 4096 := by
            by_cases h0 : d = 0
            · omega
            · obtain ⟨f, t, e⟩ : ∃ f t, Lv[0]? = some (f, t) := ⟨_, _, List.getElem?_eq_getElem hL⟩
              obtain ⟨x1, x2, x3, x4⟩ := HR2.out.1.core.lv 0 f t e
              have x5 := HR2.out.2 (by omega) 0 f t e
              obtain ⟨y, hy⟩ := x4 f (Nat.le_refl _) x5
              have x6 := HP.out.2 f (by omega)
              rw [hy, List.length_append, x3] at x6
              omega
          obtain ⟨n2, hn2⟩ : ∃ n2, n2 = Lv.length := ⟨_, rfl⟩
          have HN2 : Hid (n2 = Lv.length) := hn2
          have hn2b : n2 ≤ 257 := by have h1 := HR2.out.1.core.lvb; omega
          rw [← hn2] at hL hLz HR2 ⊢
          clear hn2
          go_wp2
          obtain ⟨wl, rfl⟩ : ∃ wl : World, wl = wr := ⟨_, rfl⟩
          obtain ⟨g2, cc, e2, -⟩ := (HR2.out.1.tc.rw 2 (by omega)).form (by show 0 < Lv.length; rw [← HN2.out]; exact hL)
          have e2' : Value.slice a2 n2 c2 = .slice (some ⟨g2, 0, none⟩) Lv.length cc := e2
          injection e2' with e3 e4 e5
          subst e3 e5
          clear e2 e4
          go_loopw [13, 57] (fun s13 s57 wi => ∃ (r q : Nat) (Nx : List (Nat × Nat)) (fs : List Nat) (lb : Nat → Nat) (str : Nat → List Nat) (nd : Nat → Nat) (v0 v1 v3 : Value), s13 = v3 ∧ s57 = .int .i64 (r : Int) ∧ r ≤ n2 ∧
            Hid (SX c N A O w0 wi d bs Lv Nx (bs + r) q fs lb str nd (A + 1) v0 v1 (.slice (some ⟨g2, 0, none⟩) n2 c2) v3 (pendL Lv r) ∧ (∀ (i f t : Nat), Nx[i]? = some (f, t) → ∀ (i' f' t' : Nat), r ≤ i' → Lv[i']? = some (f', t') → t ≤ f'))) (fun _ s57 _ => n2 - (intOf s57).toNat)
          case atStart => exact ⟨0, q, [], fs, lb, str, nd, v0, v1, _, rfl, rfl, by omega, HR2.out.1, fun i f t h => by simp at h⟩
          case round =>
            clear HR2 hLz
            obtain ⟨r, q1, Nx, fs1, lb1, str1, nd1, x0, x1, v3, rfl, rfl, hr, HR3⟩ := hrel
            by_cases hlt : r < n2
            · obtain ⟨f, t, hft⟩ : ∃ f t, Lv[r]? = some (f, t) := ⟨_, _, List.getElem?_eq_getElem (show r < Lv.length by rw [← HN2.out]; exact hlt)⟩
              have HFT : Hid (Lv[r]? = some (f, t)) := hft
              have hq1 : q1 ≤ 2000000 := core_q HR3.out.1.core HR3.out.1.ne hk (by omega)
              have htk : f ≤ t ∧ t ≤ c.k := ⟨(HR3.out.1.core.lv r f t hft).1, (HR3.out.1.core.lv r f t hft).2.1⟩
              have lr0 : wr.cell? ⟨g2, r * 2, none⟩ = some (.int .i64 (f : Int)) := by
                have h3 := HR3.out.1.tc.rw 2 (by omega)
                have h4 : wr.ownsRow A 66 2 (.slice (some ⟨g2, 0, none⟩) n2 c2) n2 (runs Lv) := by rw [HN2.out]; have h5 := h3; simp only [rws, ← HN2.out] at h5; rw [← HN2.out]; exact h5
                rw [h4.cellAt _ (by omega)]; exact (runs_get Lv r f t hft).1
              have lr1 : wr.cell? ⟨g2, r * 2 + 1, none⟩ = some (.int .i64 (t : Int)) := by
                have h3 := HR3.out.1.tc.rw 2 (by omega)
                have h4 : wr.ownsRow A 66 2 (.slice (some ⟨g2, 0, none⟩) n2 c2) n2 (runs Lv) := by rw [HN2.out]; have h5 := h3; simp only [rws, ← HN2.out] at h5; rw [← HN2.out]; exact h5
                rw [h4.cellAt _ (by omega)]; exact (runs_get Lv r f t hft).2
              clear hft
              go_upto_region 19 with fail
              have HB5 := HR3.out.1.begin f t
              obtain ⟨W5, hW5⟩ : ∃ W5, W5 = wr.alloc (.cells #[.int .i64 (f : Int), .int .i64 (t : Int)] 66) := ⟨_, rfl⟩
              obtain ⟨br, hbr⟩ : ∃ br, br = wr.heap.size := ⟨_, rfl⟩
              rw [← hbr, ← hW5] at HB5 ⊢
              have H5 : Hid (SX c N A O w0 W5 d bs Lv Nx (bs + r) q1 fs1 lb1 str1 nd1 br x0 x1 (.slice (some ⟨g2, 0, none⟩) n2 c2) u13 (pendL Lv r) ∧ Rn W5 br f t ∧ br ≠ A + 1) := HB5
              have HNX : Hid (∀ (i f t : Nat), Nx[i]? = some (f, t) → ∀ (i' f' t' : Nat), r ≤ i' → Lv[i']? = some (f', t') → t ≤ f') := HR3.out.2
              clear lr0 lr1 hW5 hbr HR3 HB5
              obtain ⟨a0, c0, e0, -⟩ := row_form (H5.out.1.tc.rw 0 (by omega))
              change x0 = .slice a0 fs1.length c0 at e0
              obtain ⟨a1, c1, e1, -⟩ := row_form (H5.out.1.tc.rw 1 (by omega))
              change x1 = .slice a1 q1 c1 at e1
              obtain ⟨p, hp⟩ : ∃ p, p = fs1.length := ⟨_, rfl⟩
              rw [← hp] at e0
              subst e0 e1
              have HPP : Hid (p = fs1.length ∧ p = bs + r) := ⟨hp, by rw [hp]; exact H5.out.1.core.tri.len⟩
              have hpq : p ≤ 2000000 := by have h1 := H5.out.1.core.tri.le; have h2 := HPP.out.2; omega
              have t0 : W5.cell? ⟨A + 1, 0, none⟩ = some (.slice a0 p c0) := H5.out.1.tc.t0
              have t1 : W5.cell? ⟨A + 1, 1, none⟩ = some (.slice a1 q1 c1) := H5.out.1.tc.t1
              have t0' : ∀ o, (W5.alloc o).cell? ⟨A + 1, 0, none⟩ = some (.slice a0 p c0) := fun o => (TB.keep H5.out.1.tc (keeps_alloc W5 o)).t0
              have hwq := wrap32 q1 (by omega)
              have hwp := wrap32 p (by omega)
              clear hp
              obtain ⟨i21, hi1, hi2, hi3, hi4⟩ := info_parts Yba.info21
              have HI : Hid (Yba.prog.info? 21 = some i21 ∧ i21.zero = some (.int .i32 0) ∧ i21.size = 1 ∧ i21.bytes = 4) := ⟨hi1, hi2, hi3, hi4⟩
              clear hi1 hi2 hi3 hi4
              go_upto_region 20 with fail
              go_cut [79] (fun s79 wx => ∃ g cap, Hid (SX c N A O w0 wx d bs Lv Nx (bs + r + 1) q1 (fs1 ++ [q1]) lb1 str1 nd1 br (.slice (some ⟨g, 0, none⟩) (p + 1) cap) (.slice a1 q1 c1) (.slice (some ⟨g2, 0, none⟩) n2 c2) u13 (pendX Lv r f t) ∧ Rn wx br f t))
              case first =>
                have OA : Hid ((W5.alloc (.cells #[.int .i32 (q1 : Int)] 21)).drew.ownsRow A 21 1 (.slice a0 p c0) p (i32s fs1)) := by
                  have h3 := H5.out.1.tc.rw 0 (by omega)
                  rw [HPP.out.1]
                  simp only [rws, HPP.out.1] at h3
                  exact h3.alloc _
                have HNEW : Hid (∀ j u, [Value.int .i32 (q1 : Int)][j]? = some u → (W5.alloc (.cells #[.int .i32 (q1 : Int)] 21)).drew.cell? ((⟨W5.heap.size, 0, none⟩ : Addr).add j) = some u) := news_one W5 (.int .i32 (q1 : Int)) 21
                have HONE : Hid (∀ u ∈ [Value.int .i32 (q1 : Int)], u.oneCell' = true) := by intro u hu; simp at hu; subst hu; rfl
                have HML : Hid (p + 1 ≤ maxLen) := by unfold Hid maxLen; omega
                have HBB : Hid (A ≤ (W5.alloc (.cells #[.int .i32 (q1 : Int)] 21)).drew.heap.size) := by
                  have h1 := H5.out.1.tc.sz
                  show A ≤ (W5.alloc (.cells #[.int .i32 (q1 : Int)] 21)).heap.size
                  simp; omega
                have HF : Hid (∀ w11, (W5.alloc (.cells #[.int .i32 (q1 : Int)] 21)).drew.grownBy w11 (Value.slice a0 p c0).ownBlock → w11.cell? ⟨A + 1, 0, none⟩ = some (.slice a0 p c0) ∧ w11.frozen? ⟨A + 1, 0, none⟩ = false) := by
                  intro w11 hg
                  have h3 := TB.midc H5.out.1.tc (i := 0) (by omega) (keeps_alloc_drew _ _) hg
                  exact ⟨h3.1, h3.2.2.2 0⟩
                go_region_law (refine step_append_lies _ rfl (.tmp 71) (.tmp 78) 50 rfl A 21 i21 (.int .i32 0) 1 4 Yba.underlying50 HI.out.1 HI.out.2.1 HI.out.2.2.1 HI.out.2.2.2 rfl (by decide) (.slice a0 p c0) p (i32s fs1) (by simp [Act.eval, Act.put]) OA.out ⟨W5.heap.size, 0, none⟩ 1 1 [.int .i32 (q1 : Int)] (by simp [Act.eval, Act.put]) rfl HNEW.out HONE.out (by decide) HML.out (by omega) HBB.out _ rfl ?_; intro g cap w11 hown11 hgrow11 hat11 hlt11; have f11 := HF.out w11 hgrow11; obtain ⟨f11a, f11b⟩ := f11)
                all_goals
                  have H6 : Hid (SX c N A O w0 (w11.setCell ⟨A + 1, 0, none⟩ (.slice (some ⟨g, 0, none⟩) (p + 1) cap)) d bs Lv Nx (bs + r + 1) q1 (fs1 ++ [q1]) lb1 str1 nd1 br (.slice (some ⟨g, 0, none⟩) (p + 1) cap) (.slice a1 q1 c1) (.slice (some ⟨g2, 0, none⟩) n2 c2) u13 (pendX Lv r f t) ∧
                      Rn (w11.setCell ⟨A + 1, 0, none⟩ (.slice (some ⟨g, 0, none⟩) (p + 1) cap)) br f t) := by
                    have h3 := SX.opened H5.out.1 HFT.out H5.out.2.1 H5.out.2.2 (keeps_alloc_drew W5 (.cells #[.int .i32 (q1 : Int)] 21)) (g := g) (cap := cap) (w1 := w11) (by rw [← HPP.out.1]; exact hown11) hgrow11 hat11
                    rw [← HPP.out.1] at h3
                    exact h3
                  clear hown11 hgrow11 hat11 hlt11 f11a f11b
                  go_wp2
                  go_meet
                  case rel => exact ⟨g, cap, H6.out⟩
              case rest =>
                obtain ⟨g, cap, H6⟩ := hcut
                have HBR : Hid (br ≠ A + 1) := H5.out.2.2
                clear t0 t1 t0' H5
                obtain ⟨W6, rfl⟩ : ∃ W6 : World, W6 = wc := ⟨_, rfl⟩
                obtain ⟨rf, -⟩ := H6.out.2
                go_upto_block 6 with fail
                clear rf
                go_cut [17] (fun s17 wx => ∃ (x : Nat) (nd : Nat → Nat), s17 = .int .i64 (x : Int) ∧ f ≤ x ∧ x ≤ t ∧ (x < t → (c.str O x).length ≠ d) ∧ Hid (SX c N A O w0 wx d bs Lv Nx (bs + r + 1) q1 (fs1 ++ [q1]) lb1 str1 nd br (.slice (some ⟨g, 0, none⟩) (p + 1) cap) (.slice a1 q1 c1) (.slice (some ⟨g2, 0, none⟩) n2 c2) u13 (pendX Lv r x t) ∧ Rn wx br f t))
                case first =>
                  as_aux_lemma =>
                    go_wp2
                    go_loopw [17] (fun s17 wi => ∃ (x : Nat) (nd : Nat → Nat), s17 = .int .i64 (x : Int) ∧ f ≤ x ∧ x ≤ t ∧ Hid (SX c N A O w0 wi d bs Lv Nx (bs + r + 1) q1 (fs1 ++ [q1]) lb1 str1 nd br (.slice (some ⟨g, 0, none⟩) (p + 1) cap) (.slice a1 q1 c1) (.slice (some ⟨g2, 0, none⟩) n2 c2) u13 (pendX Lv r x t) ∧ Rn wi br f t)) (fun s17 _ => t - (intOf s17).toNat)
                    case atStart => exact ⟨f, nd1, rfl, Nat.le_refl _, htk.1, H6.out⟩
                    case round =>
                      clear H6
                      obtain ⟨x, nd2, rfl, hx1, hx2, H7⟩ := hrel
                      obtain ⟨-, rt⟩ := H7.out.2
                      have hq := H7.out.1.tc.pq.q
                      by_cases hxt : x < t
                      · have dlt : decide ((x : Int) < (t : Int)) = true := by simp; omega
                        go_wp2_with fail
                        refine (H7.out.1.tc.pq.piece (n := x) (by omega)).mono ?_
                        rintro e W7 ⟨rfl, nq, hW7⟩
                        have H8 : Hid (SX c N A O w0 W7 d bs Lv Nx (bs + r + 1) q1 (fs1 ++ [q1]) lb1 str1 nd2 br (.slice (some ⟨g, 0, none⟩) (p + 1) cap) (.slice a1 q1 c1) (.slice (some ⟨g2, 0, none⟩) n2 c2) u13 (pendX Lv r x t) ∧ Rn W7 br f t) := by
                          rw [hW7]; exact ⟨H7.out.1.keep (keeps_drewN _ _), H7.out.2.keep (keeps_drewN _ _) (fun h => h)⟩
                        have hsz : (c.str O x).length = (c.Ps (c.Bt (O x))).size := bts_length _
                        obtain ⟨s, hs⟩ : ∃ s, s = c.Ps (c.Bt (O x)) := ⟨_, rfl⟩
                        rw [← hs] at hsz ⊢
                        clear hs hW7 H7 rt hq
                        by_cases hsd : s.size = d
                        · have dsd : ((s.size : Int) = (d : Int)) := by omega
                          have m0 := H8.out.1.tc.pq.pm.o
                          have m1 := H8.out.1.tc.pq.pm.oc x (by omega)
                          have hox := HO.out.lt x (by omega)
                          obtain ⟨m2, m3⟩ := H8.out.1.tc.na (O x) hox
                          have H9 := H8.out.1.own HFT.out H8.out.2 hx1 hxt (by rw [hsz]; exact hsd) HO.out.lt HPP.out.2
                          obtain ⟨ox, hoxe⟩ : ∃ ox, ox = O x := ⟨_, rfl⟩
                          rw [← hoxe] at m1 m2 m3 hox H9
                          have H9' : Hid (_ ∧ _) := H9
                          clear H9 hoxe H8
                          go_wp2
                          go_roundw
                          case rel => exact ⟨x + 1, setF nd2 ox p, by go_num, by omega, by omega, H9'.out⟩
                          case measure => simp [intOf]; omega
                        · have dsd : ¬ ((s.size : Int) = (d : Int)) := by omega
                          go_wp2
                          go_meet
                          case rel => exact ⟨x, nd2, rfl, hx1, hx2, fun _ => by rw [hsz]; exact hsd, H8.out⟩
                      · obtain rfl : x = t := by omega
                        go_wp2
                        go_meet
                        case rel => exact ⟨x, nd2, rfl, hx1, hx2, fun h => by omega, H7.out⟩
                case rest =>
                  clear H6
                  obtain ⟨x, nd2, rfl, hx1, hx2, hxn, H7⟩ := hcut
                  obtain ⟨W7, rfl⟩ : ∃ W7 : World, W7 = wc := ⟨_, rfl⟩
                  obtain ⟨S, hS⟩ : ∃ S, S = str1 (bs + r) := ⟨_, rfl⟩
                  have HSd : Hid (S = str1 (bs + r) ∧ S.length = d) := ⟨hS, by rw [hS]; exact (H7.out.1.core.lv r f t HFT.out).2.2.1⟩
                  have HLG : Hid (∀ j, x ≤ j → j < t → ∃ b y, c.str O j = S ++ b :: y) := by
                    intro j h1 h2
                    have h3 := (H7.out.1.core.lv r f t HFT.out)
                    obtain ⟨b, y, h4, -⟩ := runs_longer HP.out.1 (s := S) (x := x) (t := t) h3.2.1 (fun j h5 h6 => by rw [hS]; exact h3.2.2.2 j (by omega) h6) (by omega) (by rw [HSd.out.2]; exact hxn (by omega)) j h1 h2
                    exact ⟨b, y, h4⟩
                  clear hxn hS
                  have HST : Hid (∃ (q : Nat) (Nx : List (Nat × Nat)) (lb : Nat → Nat) (str : Nat → List Nat) (v1 : Value), SX c N A O w0 W7 d bs Lv Nx (bs + r + 1) q (fs1 ++ [q1]) lb str nd2 br (.slice (some ⟨g, 0, none⟩) (p + 1) cap) v1 (.slice (some ⟨g2, 0, none⟩) n2 c2) u13 (pendX Lv r x t) ∧ Rn W7 br f t ∧
                      str (bs + r) = S ∧ (∀ a, q1 ≤ a → a < q → ∀ b y, x < t → c.str O x = S ++ b :: y → lb a < b) ∧ (∀ (i f' t' : Nat), Nx[i]? = some (f', t') → t' ≤ x)) :=
                    ⟨q1, Nx, lb1, str1, _, H7.out.1, H7.out.2, HSd.out.1.symm, fun a h1 h2 => by omega, fun i f' t' h => by have := HNX.out i f' t' h r f t (Nat.le_refl _) HFT.out; omega⟩
                  have HFQ : Hid ((fs1 ++ [q1])[bs + r]? = some q1) := by
                    have h1 := HPP.out
                    unfold Hid
                    rw [List.getElem?_append_right (by omega), show bs + r - fs1.length = 0 by omega]
                    rfl
                  have HQ1 : Hid (q1 ≤ 2000000) := hq1
                  clear H7 HNX hq1 hwq
                  obtain ⟨x1, hx1'⟩ : ∃ x1, x1 = x := ⟨_, rfl⟩
                  have HX1 : Hid (x1 = x) := hx1'
                  rw [← hx1'] at HLG
                  clear hx1'
                  go_wp2
                  go_loopw [13, 17] (fun s13 s17 wi => ∃ (x q : Nat) (Nx : List (Nat × Nat)) (lb : Nat → Nat) (str : Nat → List Nat) (v1 v3 : Value), s13 = v3 ∧ s17 = .int .i64 (x : Int) ∧ f ≤ x ∧ x1 ≤ x ∧ x ≤ t ∧ Hid (SX c N A O w0 wi d bs Lv Nx (bs + r + 1) q (fs1 ++ [q1]) lb str nd2 br (.slice (some ⟨g, 0, none⟩) (p + 1) cap) v1 (.slice (some ⟨g2, 0, none⟩) n2 c2) v3 (pendX Lv r x t) ∧ Rn wi br f t ∧
                      str (bs + r) = S ∧ (∀ a, q1 ≤ a → a < q → ∀ b y, x < t → c.str O x = S ++ b :: y → lb a < b) ∧ (∀ (i f' t' : Nat), Nx[i]? = some (f', t') → t' ≤ x))) (fun _ s17 _ => t - (intOf s17).toNat)
                  case atStart =>
                    obtain ⟨q, Nx, lb, str, v1, h⟩ := HST.out
                    exact ⟨x, q, Nx, lb, str, v1, _, rfl, rfl, hx1, by have := HX1.out; omega, hx2, h⟩
                  case round =>
                    clear HST hx1 hx2
                    obtain ⟨x, q, Nx, lb, str, v1, v3, rfl, rfl, hx1, hx0, hx2, H7⟩ := hrel
                    obtain ⟨-, rt⟩ := H7.out.2.1
                    have hq := H7.out.1.tc.pq.q
                    by_cases hxt : x < t
                    · obtain ⟨b, y, hby⟩ := HLG.out x hx0 hxt
                      have HBY : Hid (c.str O x = S ++ b :: y) := hby
                      have hidx : ∀ W, (Instr.index 9 (.string (c.Ps (c.Bt (O x)))) (.int .i64 (d : Int))).run Yba.prog W = .ok (.int .u8 (b : Int)) W := str_at (by
                        have h1 : bts (c.Ps (c.Bt (O x))) = S ++ b :: y := hby
                        rw [h1, List.getElem?_append_right (by rw [HSd.out.2]; exact Nat.le_refl _), HSd.out.2, Nat.sub_self]; rfl)
                      clear hby
                      go_wp2_with fail
                      refine (H7.out.1.tc.pq.piece (n := x) (by omega)).mono ?_
                      rintro e W8 ⟨rfl, nq, hW8⟩
                      have H8 : Hid (SX c N A O w0 W8 d bs Lv Nx (bs + r + 1) q (fs1 ++ [q1]) lb str nd2 br (.slice (some ⟨g, 0, none⟩) (p + 1) cap) v1 (.slice (some ⟨g2, 0, none⟩) n2 c2) u13 (pendX Lv r x t) ∧ Rn W8 br f t) := by
                        rw [hW8]; exact ⟨H7.out.1.keep (keeps_drewN _ _), H7.out.2.1.keep (keeps_drewN _ _) (fun h => h)⟩
                      have H9 : Hid (str (bs + r) = S ∧ (∀ a, q1 ≤ a → a < q → lb a < b) ∧ (∀ (i f' t' : Nat), Nx[i]? = some (f', t') → t' ≤ x)) := ⟨H7.out.2.2.1, fun a h1 h2 => H7.out.2.2.2.1 a h1 h2 b y hxt HBY.out, H7.out.2.2.2.2⟩
                      clear hW8 H7 rt hq
                      go_upto_block 10 with fail
                      go_cut [19] (fun s19 wx => ∃ (u : Nat), s19 = .int .i64 (u : Int) ∧ x < u ∧ u ≤ t ∧ Hid (SX c N A O w0 wx d bs Lv Nx (bs + r + 1) q (fs1 ++ [q1]) lb str nd2 br (.slice (some ⟨g, 0, none⟩) (p + 1) cap) v1 (.slice (some ⟨g2, 0, none⟩) n2 c2) u13 (pendX Lv r x t) ∧ Rn wx br f t ∧
                        (∀ j, x ≤ j → j < u → ∃ y, c.str O j = S ++ b :: y) ∧ (u < t → ∀ b' y', c.str O u = S ++ b' :: y' → b < b')))
                      case first =>
                        as_aux_lemma =>
                          go_wp2
                          go_loopw [19] (fun s19 wi => ∃ (u : Nat), s19 = .int .i64 (u : Int) ∧ x < u ∧ u ≤ t ∧ Hid (SX c N A O w0 wi d bs Lv Nx (bs + r + 1) q (fs1 ++ [q1]) lb str nd2 br (.slice (some ⟨g, 0, none⟩) (p + 1) cap) v1 (.slice (some ⟨g2, 0, none⟩) n2 c2) u13 (pendX Lv r x t) ∧ Rn wi br f t ∧
                            (∀ j, x ≤ j → j < u → ∃ y, c.str O j = S ++ b :: y))) (fun s19 _ => t - (intOf s19).toNat)
                          case atStart =>
                            refine ⟨x + 1, by go_num, by omega, by omega, H8.out.1, H8.out.2, fun j h1 h2 => ⟨y, ?_⟩⟩
                            have : j = x := by omega
                            subst this
                            exact HBY.out
                          case round =>
                            clear H8 hidx
                            obtain ⟨u, rfl, hxu, hut, H10⟩ := hrel
                            obtain ⟨-, rt⟩ := H10.out.2.1
                            have hq := H10.out.1.tc.pq.q
                            by_cases hlu : u < t
                            · have dlt : decide ((u : Int) < (t : Int)) = true := by simp; omega
                              obtain ⟨b', y', hby'⟩ := HLG.out u (by omega) hlu
                              have HBY' : Hid (c.str O u = S ++ b' :: y') := hby'
                              have hidx : ∀ W, (Instr.index 9 (.string (c.Ps (c.Bt (O u)))) (.int .i64 (d : Int))).run Yba.prog W = .ok (.int .u8 (b' : Int)) W := str_at (by
                                have h1 : bts (c.Ps (c.Bt (O u))) = S ++ b' :: y' := hby'
                                rw [h1, List.getElem?_append_right (by rw [HSd.out.2]; exact Nat.le_refl _), HSd.out.2, Nat.sub_self]; rfl)
                              clear hby'
                              go_wp2_with fail
                              refine (H10.out.1.tc.pq.piece (n := u) (by omega)).mono ?_
                              rintro e W9 ⟨rfl, nq, hW9⟩
                              have H11 : Hid (SX c N A O w0 W9 d bs Lv Nx (bs + r + 1) q (fs1 ++ [q1]) lb str nd2 br (.slice (some ⟨g, 0, none⟩) (p + 1) cap) v1 (.slice (some ⟨g2, 0, none⟩) n2 c2) u13 (pendX Lv r x t) ∧ Rn W9 br f t) := by
                                rw [hW9]; exact ⟨H10.out.1.keep (keeps_drewN _ _), H10.out.2.1.keep (keeps_drewN _ _) (fun h => h)⟩
                              have H12 : Hid (∀ j, x ≤ j → j < u → ∃ y, c.str O j = S ++ b :: y) := H10.out.2.2
                              clear hW9 H10 rt hq
                              by_cases hbb : b' = b
                              · subst hbb
                                go_wp2
                                go_roundw
                                case rel =>
                                  refine ⟨u + 1, by go_num, by omega, by omega, H11.out.1, H11.out.2, fun j h1 h2 => ?_⟩
                                  by_cases e : j = u
                                  · subst e; exact ⟨y', HBY'.out⟩
                                  · exact H12.out j h1 (by omega)
                                case measure => simp [intOf]; omega
                              · have hbi : ¬ ((b' : Int) = (b : Int)) := by omega
                                go_wp2
                                go_meet
                                case rel =>
                                  refine ⟨u, rfl, hxu, hut, H11.out.1, H11.out.2, H12.out, fun _ b2 y2 h2 => ?_⟩
                                  have h3 := HBY'.out
                                  rw [h2] at h3
                                  have h4 := List.append_cancel_left h3
                                  injection h4 with h5 h6
                                  subst h5
                                  exact byte_gt HP.out.1 (by omega) (by omega) HBY.out HBY'.out hbb
                            · obtain rfl : u = t := by omega
                              go_wp2
                              go_meet
                              case rel => exact ⟨u, rfl, hxu, hut, H10.out.1, H10.out.2.1, H10.out.2.2, fun h => by omega⟩
                      case rest =>
                        clear H8 hidx
                        obtain ⟨u, rfl, hxu, hut, H10⟩ := hcut
                        obtain ⟨W9, rfl⟩ : ∃ W9 : World, W9 = wc := ⟨_, rfl⟩
                        as_aux_lemma =>
                          obtain ⟨a1, c1, e1, -⟩ := row_form (H10.out.1.tc.rw 1 (by omega))
                          change v1 = .slice a1 q c1 at e1
                          obtain ⟨a3, c3, e3, -⟩ := row_form (H10.out.1.tc.rw 3 (by omega))
                          change u13 = .slice a3 Nx.length c3 at e3
                          obtain ⟨n3, hn3⟩ : ∃ n3, n3 = Nx.length := ⟨_, rfl⟩
                          have HN3 : Hid (n3 = Nx.length) := hn3
                          rw [← hn3] at e3
                          clear hn3
                          subst e1 e3
                          have hqb : q ≤ 2000000 := core_q H10.out.1.core H10.out.1.ne hk (by omega)
                          have hn3b : n3 ≤ 256 := by have h1 := runs_len H10.out.1.core H10.out.1.ne; have h2 := HN3.out; omega
                          have t1 : W9.cell? ⟨A + 1, 1, none⟩ = some (.slice a1 q c1) := H10.out.1.tc.t1
                          have t1' : ∀ o, (W9.alloc o).cell? ⟨A + 1, 1, none⟩ = some (.slice a1 q c1) := fun o => (TB.keep H10.out.1.tc (keeps_alloc W9 o)).t1
                          obtain ⟨i5, hi1, hi2, hi3, hi4⟩ := info_parts Yba.info5
                          have HI5 : Hid (Yba.prog.info? 5 = some i5 ∧ i5.zero = some (.int .u8 0) ∧ i5.size = 1 ∧ i5.bytes = 1) := ⟨hi1, hi2, hi3, hi4⟩
                          clear hi1 hi2 hi3 hi4
                          obtain ⟨i66, hi1, hi2, hi3, hi4⟩ := info_parts Yba.info66
                          have HI66 : Hid (Yba.prog.info? 66 = some i66 ∧ i66.zero = some (.agg #[.int .i64 0, .int .i64 0]) ∧ i66.size = 2 ∧ i66.bytes = 16) := ⟨hi1, hi2, hi3, hi4⟩
                          clear hi1 hi2 hi3 hi4
                          have OA : Hid ((W9.alloc (.cells #[.int .u8 (b : Int)] 5)).ownsRow A 5 1 (.slice a1 q c1) q (lbs lb q)) := by
                            have h3 := H10.out.1.tc.rw 1 (by omega)
                            simp only [rws] at h3
                            exact h3.alloc _
                          have HNEW : Hid (∀ j u, [Value.int .u8 (b : Int)][j]? = some u → (W9.alloc (.cells #[.int .u8 (b : Int)] 5)).cell? ((⟨W9.heap.size, 0, none⟩ : Addr).add j) = some u) := news_one W9 (.int .u8 (b : Int)) 5
                          have HONE : Hid (∀ u ∈ [Value.int .u8 (b : Int)], u.oneCell' = true) := by intro u hu; simp at hu; subst hu; rfl
                          have HML : Hid (q + 1 ≤ maxLen) := by unfold Hid maxLen; omega
                          have HBB : Hid (A ≤ (W9.alloc (.cells #[.int .u8 (b : Int)] 5)).heap.size) := by
                            have h1 := H10.out.1.tc.sz
                            show A ≤ (W9.alloc (.cells #[.int .u8 (b : Int)] 5)).heap.size
                            simp; omega
                          have HF : Hid (∀ w11, (W9.alloc (.cells #[.int .u8 (b : Int)] 5)).grownBy w11 (Value.slice a1 q c1).ownBlock → w11.cell? ⟨A + 1, 1, none⟩ = some (.slice a1 q c1) ∧ w11.frozen? ⟨A + 1, 1, none⟩ = false) := by
                            intro w11 hg
                            have h3 := TB.midc H10.out.1.tc (i := 1) (by omega) (keeps_alloc _ _) hg
                            exact ⟨h3.2.1, h3.2.2.2 1⟩
                          go_wp2_with (at_builtin; refine wpList_append_lies _ rfl _ _ 53 rfl A 5 i5 (.int .u8 0) 1 1 Yba.underlying53 HI5.out.1 HI5.out.2.1 HI5.out.2.2.1 HI5.out.2.2.2 rfl (by decide) (.slice a1 q c1) q (lbs lb q) rfl OA.out ⟨W9.heap.size, 0, none⟩ 1 1 [.int .u8 (b : Int)] rfl rfl HNEW.out HONE.out (by decide) HML.out (by omega) HBB.out _ rfl ?_)
                          intro g5 cap5 w11 hown11 hgrow11 hat11 hlt11
                          obtain ⟨f11a, f11b⟩ := HF.out w11 hgrow11
                          have HT := TC.label H10.out.1.tc (keeps_alloc W9 _) hown11 hgrow11 (by simpa using hat11)
                          have HRN := H10.out.2.1.keep HT.2 (by
                            rintro (e | e)
                            · exact HBR.out e
                            · exact (H10.out.1.tc.off 1 br (by omega) e).2.2 rfl)
                          have H13 : Hid (TC c N A O w0 (w11.setCell ⟨A + 1, 1, none⟩ (.slice (some ⟨g5, 0, none⟩) (q + 1) cap5)) (fs1 ++ [q1]) (q + 1) (setF lb q b) Lv Nx (.slice (some ⟨g, 0, none⟩) (p + 1) cap) (.slice (some ⟨g5, 0, none⟩) (q + 1) cap5) (.slice (some ⟨g2, 0, none⟩) n2 c2) (.slice a3 n3 c3) nd2 br ∧ Rn (w11.setCell ⟨A + 1, 1, none⟩ (.slice (some ⟨g5, 0, none⟩) (q + 1) cap5)) br f t) := ⟨HT.1, HRN⟩
                          clear HT HRN hown11 hgrow11 hat11 hlt11 OA HNEW HONE HML HBB HF t1 t1'
                          go_upto_region 30 with fail
                          clear f11a f11b
                          obtain ⟨W10, hW10⟩ : ∃ W10, W10 = w11.setCell ⟨A + 1, 1, none⟩ (.slice (some ⟨g5, 0, none⟩) (q + 1) cap5) := ⟨_, rfl⟩
                          rw [← hW10] at H13 ⊢
                          clear hW10
                          have OA : Hid ((W10.alloc (.cells #[.int .i64 (x : Int), .int .i64 (u : Int)] 66)).ownsRow A 66 2 (.slice a3 n3 c3) n3 (runs Nx)) := by
                            have h3 := H13.out.1.rw 3 (by omega)
                            rw [HN3.out]
                            simp only [rws, HN3.out] at h3
                            exact h3.alloc _
                          have HNEW : Hid (∀ j u', [Value.int .i64 (x : Int), .int .i64 (u : Int)][j]? = some u' → (W10.alloc (.cells #[.int .i64 (x : Int), .int .i64 (u : Int)] 66)).cell? ((⟨W10.heap.size, 0, none⟩ : Addr).add j) = some u') :=
                            World.news_of_block (cs := #[.int .i64 (x : Int), .int .i64 (u : Int)]) (heap_alloc_new W10 (.cells #[.int .i64 (x : Int), .int .i64 (u : Int)] 66))
                          have HONE : Hid (∀ u' ∈ [Value.int .i64 (x : Int), .int .i64 (u : Int)], u'.oneCell' = true) := by intro u' hu; simp at hu; rcases hu with rfl | rfl <;> rfl
                          have HML : Hid (n3 + 1 ≤ maxLen) := by unfold Hid maxLen; omega
                          have HBB : Hid (A ≤ (W10.alloc (.cells #[.int .i64 (x : Int), .int .i64 (u : Int)] 66)).heap.size) := by
                            have h1 := H13.out.1.sz
                            show A ≤ (W10.alloc (.cells #[.int .i64 (x : Int), .int .i64 (u : Int)] 66)).heap.size
                            simp; omega
                          go_wp2_with (at_builtin; refine wpList_append_lies _ rfl _ _ 67 rfl A 66 i66 (.agg #[.int .i64 0, .int .i64 0]) 2 16 Yba.underlying67 HI66.out.1 HI66.out.2.1 HI66.out.2.2.1 HI66.out.2.2.2 rfl (by decide) (.slice a3 n3 c3) n3 (runs Nx) rfl OA.out ⟨W10.heap.size, 0, none⟩ 1 1 [.int .i64 (x : Int), .int .i64 (u : Int)] rfl rfl HNEW.out HONE.out (by decide) HML.out (by omega) HBB.out _ rfl ?_)
                          intro g6 cap6 w12 hown12 hgrow12 hat12 hlt12
                          have HT := TC.next H13.out.1 (keeps_alloc W10 _) HN3.out hown12 hgrow12 (by simpa using hat12)
                          have HRN := H13.out.2.keep HT.2 (fun e => (H13.out.1.off 3 br (by omega) e).2.2 rfl)
                          have HG := SX.group H10.out.1 HFT.out hx1 hxu hut H10.out.2.2.1 H9.out.1 HFQ.out H9.out.2.1 H9.out.2.2 H10.out.2.2.2 HT.1
                          have H14 : Hid (_ ∧ Rn w12 br f t ∧ _) := ⟨HG.1, HRN, HG.2⟩
                          clear HT HRN HG hown12 hgrow12 hat12 hlt12 H13 OA HNEW HONE HML HBB
                          go_wp2
                          go_roundw
                          case rel => exact ⟨u, q + 1, Nx ++ [(x, u)], setF lb q b, _, _, _, rfl, rfl, by omega, by omega, hut, H14.out⟩
                          case measure => simp [intOf]; omega
                    · obtain rfl : x = t := by omega
                      go_wp2
                      go_roundw
                      case rel =>
                        refine ⟨r + 1, q, Nx, fs1 ++ [q1], lb, str, nd2, _, v1, _, rfl, by go_num, by omega, ⟨TB.nobr H7.out.1.tc, core_close H7.out.1.core, H7.out.1.ne, H7.out.1.lbb⟩, fun i f' t' hi i' f2 t2 h1 h2 => ?_⟩
                        have h3 := H7.out.2.2.2.2 i f' t' hi
                        have h4 := H7.out.1.core.asc r i' f x f2 t2 (by omega) HFT.out h2
                        omega
                      case measure => simp [intOf]; omega
            · obtain rfl : r = n2 := by omega
              go_wp2
              refine ⟨⟨d + 1, bs + r, q1, Nx, fs1, lb1, str1, nd1, x0, x1, _, rfl, by go_num, by omega, ⟨TB.shift HR3.out.1.tc rfl rfl rfl rfl, ?_, NE.nil, HR3.out.1.lbb⟩, fun _ => HR3.out.1.ne⟩, by simp [intOf]; omega⟩
              have h1 := HR3.out.1.core
              have h2 := runs_len h1 HR3.out.1.ne
              rw [HN2.out] at h1 ⊢
              exact core_next h1 (by omega)
end Go.Proofs.Ybulkblzg
