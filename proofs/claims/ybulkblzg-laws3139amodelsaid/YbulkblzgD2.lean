import Derived.Test.YbulkblzgD1
namespace Go.Proofs.Ybulkblzg
open Go.RowKit
set_option linter.unusedVariables false
set_option linter.unusedSimpArgs false

theorem Arr.setB {w : World} {g n x : Nat} {r : Nat → Bool} (h : Arr w g n (fun i => .bool (r i))) (hx : x < n) : Arr (w.setCell ⟨g, x, none⟩ (.bool true)) g n (fun i => .bool (setB r x i)) :=
  (h.set (.bool true) hx).congr (fun i _ => by unfold Go.Proofs.Ybulkblzg.setB; split <;> rfl)

set_option maxRecDepth 100000 in
set_option maxHeartbeats 2000000 in
theorem mark_walk (c : Ct) (pp pb pt pf : Option Addr) (nt tc gt gf fc : Nat) (Ts : Nat → ByteArray) (fd : Nat → Bool) (w0 : World) (hk : c.k ≤ 256) (hnp : c.np ≤ 65536)
    (hTr : Calls Yba.prog 21 #[.slice pp c.np c.pc, .slice pb c.k c.bc] w0 fun e w' => ∃ bt an, e = .returned (.tuple #[.pointer (some ⟨bt, 0, none⟩), .slice (some ⟨an, 0, none⟩) c.k c.k]) ∧ T7 c w0 w' bt an)
    (hpb : 0 < c.k → pb = some ⟨c.gb, 0, none⟩ ∧ pf = some ⟨gf, 0, none⟩ ∧ c.gb < w0.heap.size ∧ c.gb ≠ gf)
    (hbc : ∀ i, i < c.k → w0.cell? ⟨c.gb, i, none⟩ = some (.int .i64 (c.Bt i : Int))) (hbl : ∀ i, i < c.k → c.Bt i < c.np)
    (hnt : nt ≤ 256) (ht : 0 < nt → pt = some ⟨gt, 0, none⟩) (htc : ∀ i, i < nt → w0.cell? ⟨gt, i, none⟩ = some (.string (Ts i))) (htl : ∀ i, i < nt → (bts (Ts i)).length ≤ 4096)
    (hfd : Arr w0 gf c.np (fun i => .bool (fd i))) :
    Calls Yba.prog 10 #[.slice pp c.np c.pc, .slice pb c.k c.bc, .slice pt nt tc, .slice pf c.np fc] w0 fun e w' => e = .returned (.tuple #[]) ∧ Keeps (fun j => j = gf) w0 w' ∧
      ∃ r : Nat → Bool, Arr w' gf c.np (fun i => .bool (r i)) ∧ (∀ i, i < c.k → (r (c.Bt i) = true ↔ Holds nt Ts (bts (c.Ps (c.Bt i))))) ∧ ∀ i, i < c.np → (∀ j, j < c.k → c.Bt j ≠ i) → r i = fd i := by
  have HA : Hid ((0 < c.k → pb = some ⟨c.gb, 0, none⟩ ∧ pf = some ⟨gf, 0, none⟩ ∧ c.gb < w0.heap.size ∧ c.gb ≠ gf) ∧ (∀ i, i < c.k → w0.cell? ⟨c.gb, i, none⟩ = some (.int .i64 (c.Bt i : Int))) ∧ (∀ i, i < c.k → c.Bt i < c.np) ∧
    (0 < nt → pt = some ⟨gt, 0, none⟩) ∧ (∀ i, i < nt → w0.cell? ⟨gt, i, none⟩ = some (.string (Ts i))) ∧ (∀ i, i < nt → (bts (Ts i)).length ≤ 4096) ∧ Arr w0 gf c.np (fun i => .bool (fd i))) := ⟨hpb, hbc, hbl, ht, htc, htl, hfd⟩
  clear hpb hbc hbl ht htc htl hfd
  go_enter Yba.func10, Yba.ntmps10
  go_wp2_with fail
  refine hTr.mono ?_
  clear hTr
  rintro e W1 ⟨bt, an, rfl, F, lb, str, f, g0, c0, g1, c1, g2, n, nd, hT, hM, hF, hn, hlb, hIs, hna, hnd, hbl1, hb1, hb2, hb3, hb4, hb5⟩
  have HT : Hid (TrieOK n F lb str ∧ (∀ j, j < n → lb j < 256) ∧ (∀ x, 1 ≤ x → x < n → IsF n str x (f x)) ∧ (∀ i, i < c.k → nd i < n ∧ str (nd i) = bts (c.Ps (c.Bt i)))) := ⟨hT, hlb, hIs, hnd⟩
  have HW1 : Hid (TM W1 bt g0 c0 g1 c1 n F lb ∧ FM W1 bt g2 n f ∧ (∀ i, i < c.k → W1.cell? ⟨an, i, none⟩ = some (.int .i32 (nd i : Int))) ∧ Below w0.heap.size w0 W1) := ⟨hM, hF, hna, hbl1⟩
  have HBB : Hid (w0.heap.size ≤ bt ∧ w0.heap.size ≤ an ∧ w0.heap.size ≤ g0 ∧ w0.heap.size ≤ g1 ∧ w0.heap.size ≤ g2) := ⟨hb1, hb2, hb3, hb4, hb5⟩
  have hn1 := hT.one
  have m1 := hM.l
  clear hT hM hF hlb hIs hna hnd hbl1 hb1 hb2 hb3 hb4 hb5
  have h24 := make_big Yba.underlying24 Yba.info4 rfl (by omega) n hn
  go_upto_region 2 with fail
  obtain ⟨gr, hgr⟩ : ∃ gr, gr = W1.heap.size := ⟨_, rfl⟩
  obtain ⟨Wm, hWm⟩ : ∃ Wm, Wm = W1.alloc (.cells (madeCells #[.bool false] n) 4) := ⟨_, rfl⟩
  rw [← hgr, ← hWm]
  have HM : Hid (TM Wm bt g0 c0 g1 c1 n F lb ∧ FM Wm bt g2 n f ∧ (∀ i, i < c.k → Wm.cell? ⟨an, i, none⟩ = some (.int .i32 (nd i : Int))) ∧ Below w0.heap.size w0 Wm ∧ Arr Wm gr n (fun _ => .bool false) ∧ w0.heap.size ≤ gr ∧
      bt ≠ gr ∧ g0 ≠ gr ∧ g1 ≠ gr ∧ g2 ≠ gr ∧ (0 < c.k → an ≠ gr)) := by
    have hk1 : Keeps (fun _ => False) W1 Wm := by rw [hWm]; exact (Keeps.refl _ W1).alloc _
    have x1 := World.block_lt_of_cell? W1 ⟨bt, 0, none⟩ HW1.out.1.f
    have x2 := World.block_lt_of_cell? W1 ⟨g0, 0, none⟩ (HW1.out.1.fc 0 (by omega))
    have x3 := World.block_lt_of_cell? W1 ⟨g1, 0, none⟩ (HW1.out.1.lc 0 (by omega))
    have x4 := World.block_lt_of_cell? W1 ⟨g2, 0, none⟩ (HW1.out.2.1.c 0 (by omega))
    have x5 := HW1.out.2.2.2.size
    simp only at x1 x2 x3 x4
    refine ⟨HW1.out.1.keep hk1 hn1 id id id, HW1.out.2.1.keep hk1 hn1 id id, fun i hi => ?_, HW1.out.2.2.2.trans (hk1.below x5 (fun j hj => hj.elim)), ?_, by omega, by omega, by omega, by omega, by omega, fun h0 => ?_⟩
    · have x6 := World.block_lt_of_cell? W1 ⟨an, i, none⟩ (HW1.out.2.2.1 i hi)
      rw [World.cell?_of_block (w := W1) (hk1.block an x6 id)]; exact HW1.out.2.2.1 i hi
    · rw [hWm, hgr]; exact arr_made _ _ _ _
    · have x6 := World.block_lt_of_cell? W1 ⟨an, 0, none⟩ (HW1.out.2.2.1 0 h0)
      simp only at x6; omega
  clear hgr hWm h24 m1 HW1
  go_wp2
  go_loopw [32] (fun s32 wr => ∃ (a : Nat), s32 = .int .i64 (a : Int) ∧ a ≤ nt ∧ Hid (Keeps (fun j => j = gr) Wm wr ∧ ∃ r : Nat → Bool, Arr wr gr n (fun i => .bool (r i)) ∧ Snd n str nt Ts r ∧ Cmp n str a Ts r)) (fun s32 _ => nt - (intOf s32).toNat)
  case atStart => exact ⟨0, rfl, Nat.zero_le _, Keeps.refl _ _, fun _ => false, HM.out.2.2.2.2.1, fun x _ h => by simp at h, fun i hi => by omega⟩
  case round =>
    obtain ⟨a, rfl, ha, HR⟩ := hrel
    by_cases hlt : a < nt
    · have p0 := HA.out.2.2.2.1 (by omega)
      subst p0
      have p1 : wr.cell? ⟨gt, a, none⟩ = some (.string (Ts a)) := by
        have x1 := HA.out.2.2.2.2.1 a hlt
        have x2 := World.block_lt_of_cell? w0 ⟨gt, a, none⟩ x1
        have x3 := HM.out.2.2.2.1
        simp only at x2
        rw [World.cell?_of_block (w := Wm) (HR.out.1.block gt (by have := x3.size; omega) (by have := HM.out.2.2.2.2.2.1; omega)), World.cell?_of_block (w := w0) (x3.block gt x2)]; exact x1
      obtain ⟨r, hr1, hr2, hr3⟩ := HR.out.2
      obtain ⟨q0, q1⟩ := hr1 0 (by omega)
      have hsz : (bts (Ts a)).length = (Ts a).size := bts_length _
      have hsl := HA.out.2.2.2.2.2.1 a hlt
      obtain ⟨s, hs⟩ : ∃ s, s = Ts a := ⟨_, rfl⟩
      rw [hsz, ← hs] at hsl
      rw [← hs] at p1
      have H2 : Hid (Keeps (fun j => j = gr) Wm (wr.setCell ⟨gr, 0, none⟩ (.bool true)) ∧ ∃ r : Nat → Bool, Arr (wr.setCell ⟨gr, 0, none⟩ (.bool true)) gr n (fun i => .bool (r i)) ∧ Snd n str nt Ts r ∧ Cmp n str a Ts r ∧
          (∀ j, j ≤ 0 → ∃ y, IsL n str ((bts s).take j) y ∧ r y = true) ∧ IsL n str ((bts s).take 0) 0) := by
        have hl0 : IsL n str ((bts (Ts a)).take 0) 0 := by rw [List.take_zero]; exact run_nil HT.out.1
        rw [hs]
        refine ⟨HR.out.1.trans (keeps_set wr ⟨gr, 0, none⟩ _), setB r 0, hr1.setB (by omega), hr2.set (holds_of_isL hlt hl0), hr3.set, fun j hj => ⟨0, ?_, setB_same _ _⟩, hl0⟩
        obtain rfl : j = 0 := by omega
        exact hl0
      have HS : Hid (s = Ts a ∧ (bts s).length = s.size) := ⟨hs, bts_length _⟩
      clear hs hr1 hr2 hr3 HR hsz
      go_wp2
      obtain ⟨wo, rfl⟩ : ∃ wo : World, wo = wr := ⟨_, rfl⟩
      clear p1 q0 q1
      go_loopw [13, 14] (fun s13 s14 wi => ∃ (y m : Nat), s13 = .int .i32 (y : Int) ∧ s14 = .int .i64 (m : Int) ∧ m ≤ s.size ∧ y < n ∧ Hid (Keeps (fun j => j = gr) Wm wi ∧ ∃ r : Nat → Bool, Arr wi gr n (fun i => .bool (r i)) ∧ Snd n str nt Ts r ∧ Cmp n str a Ts r ∧
          (∀ j, j ≤ m → ∃ y, IsL n str ((bts s).take j) y ∧ r y = true) ∧ IsL n str ((bts s).take m) y)) (fun _ s14 _ => s.size - (intOf s14).toNat)
      case atStart => exact ⟨0, 0, rfl, rfl, by omega, by omega, H2.out⟩
      case round =>
        clear H2
        obtain ⟨y, m, rfl, rfl, hm, hy, H2⟩ := hrel
        by_cases hms : m < s.size
        · obtain ⟨b, hb⟩ : ∃ b, (bts s)[m]? = some b := ⟨_, List.getElem?_eq_getElem (by rw [HS.out.2]; exact hms)⟩
          have hidx := str_at hb
          have hb256 : b < 256 := bts_lt s (List.mem_of_getElem? hb)
          have HB : Hid ((bts s)[m]? = some b) := hb
          clear hb
          go_wp2_with fail
          refine (step_any bt g0 c0 g1 c1 g2 n F lb str f wr HT.out.1 (HM.out.1.keep H2.out.1 hn1 HM.out.2.2.2.2.2.2.1 HM.out.2.2.2.2.2.2.2.1 HM.out.2.2.2.2.2.2.2.2.1) (HM.out.2.1.keep H2.out.1 hn1 HM.out.2.2.2.2.2.2.1 HM.out.2.2.2.2.2.2.2.2.2.1) hn HT.out.2.1 y hy b hb256 (fun x h1 h2 _ => HT.out.2.2.1 x h1 h2)).mono ?_
          rintro e W2 ⟨⟨q, hq⟩, y2, hy2, rfl⟩
          have hy2n : y2 < n := hy2.1
          obtain ⟨r, hr1, hr2, hr3, hr4, hr5⟩ := H2.out.2
          have hr1' : Arr W2 gr n (fun i => .bool (r i)) := by rw [hq]; exact hr1
          obtain ⟨q0, q1⟩ := hr1' y2 hy2n
          have H3 : Hid (Keeps (fun j => j = gr) Wm (W2.setCell ⟨gr, y2, none⟩ (.bool true)) ∧ ∃ r : Nat → Bool, Arr (W2.setCell ⟨gr, y2, none⟩ (.bool true)) gr n (fun i => .bool (r i)) ∧ Snd n str nt Ts r ∧ Cmp n str a Ts r ∧
              (∀ j, j ≤ m + 1 → ∃ y, IsL n str ((bts s).take j) y ∧ r y = true) ∧ IsL n str ((bts s).take (m + 1)) y2) := by
            have hl : IsL n str ((bts s).take (m + 1)) y2 := by
              rw [List.take_add_one, HB.out]
              exact run_step HT.out.1 hr5 hy2
            have hk2 : Keeps (fun j => j = gr) Wm W2 := by rw [hq]; exact H2.out.1.drewN q
            refine ⟨hk2.trans (keeps_set W2 ⟨gr, y2, none⟩ _), setB r y2, hr1'.setB hy2n, hr2.set (holds_of_isL (a := a) hlt (by rw [← HS.out.1]; exact hl)), hr3.set, fun j hj => ?_, hl⟩
            by_cases e : j = m + 1
            · subst e; exact ⟨y2, hl, setB_same _ _⟩
            · obtain ⟨y3, h1, h2⟩ := hr4 j (by omega)
              exact ⟨y3, h1, setB_mono h2⟩
          obtain ⟨bv, hbv⟩ : ∃ bv, bv = r y2 := ⟨_, rfl⟩
          dsimp only at q0
          rw [← hbv] at q0
          clear hr1 hr1' hr2 hr3 hr4 hr5 hq hy2 hbv H2 hidx
          go_wp2
          go_roundw
          case rel => exact ⟨y2, m + 1, rfl, by go_num, by omega, hy2n, H3.out⟩
          case measure => simp [intOf]; omega
        · obtain rfl : m = s.size := by omega
          go_wp2
          go_roundw
          case rel =>
            obtain ⟨r, hr1, hr2, hr3, hr4, hr5⟩ := H2.out.2
            refine ⟨a + 1, by go_num, by omega, H2.out.1, r, hr1, hr2, fun i hi j hj => ?_⟩
            by_cases e : i = a
            · subst e
              rw [← HS.out.1] at hj ⊢
              exact hr4 j (by rw [← HS.out.2]; exact hj)
            · exact hr3 i (by omega) j hj
          case measure => simp [intOf]; omega
    · obtain rfl : a = nt := by omega
      go_wp2
      obtain ⟨wo, rfl⟩ : ∃ wo : World, wo = wr := ⟨_, rfl⟩
      go_loopw [15] (fun s15 wi => ∃ (m : Nat), s15 = .int .i64 (m : Int) ∧ m < n ∧ Hid (Keeps (fun j => j = gr) Wm wi ∧ ∃ r : Nat → Bool, Arr wi gr n (fun i => .bool (r i)) ∧ Snd n str a Ts r ∧ Cmp n str a Ts r ∧
          ∀ x, m < x → x < n → r x = true → r (f x) = true)) (fun s15 _ => (intOf s15).toNat)
      case atStart =>
        obtain ⟨r, hr1, hr2, hr3⟩ := HR.out.2
        exact ⟨n - 1, by go_num, by omega, HR.out.1, r, hr1, hr2, hr3, fun x h1 h2 => by omega⟩
      case round =>
        clear HR
        obtain ⟨m, rfl, hm, HR⟩ := hrel
        by_cases hm0 : 0 < m
        · obtain ⟨r, hr1, hr2, hr3, hr4⟩ := HR.out.2
          obtain ⟨q0, q1⟩ := hr1 m hm
          dsimp only at q0
          cases hrm : r m with
          | false =>
            rw [hrm] at q0
            have HRF : Hid (Arr wr gr n (fun i => .bool (r i)) ∧ Snd n str a Ts r ∧ Cmp n str a Ts r ∧ (∀ x, m < x → x < n → r x = true → r (f x) = true) ∧ r m = false) := ⟨hr1, hr2, hr3, hr4, hrm⟩
            clear hr1 hr2 hr3 hr4 hrm
            go_wp2
            go_roundw
            case rel =>
              refine ⟨m - 1, by go_num, by omega, HR.out.1, r, HRF.out.1, HRF.out.2.1, HRF.out.2.2.1, fun x h1 h2 h3 => ?_⟩
              by_cases e : x = m
              · subst e; rw [HRF.out.2.2.2.2] at h3; simp at h3
              · exact HRF.out.2.2.2.1 x (by omega) h2 h3
            case measure => simp [intOf]; omega
          | true =>
            rw [hrm] at q0
            have hfm := HT.out.2.2.1 m hm0 hm
            have hf1 : f m < m := fail_lt HT.out.1 hfm
            have hFM := HM.out.2.1.keep HR.out.1 hn1 HM.out.2.2.2.2.2.2.1 HM.out.2.2.2.2.2.2.2.2.2.1
            have l0 := hFM.s
            have l1 := hFM.c m hm
            obtain ⟨q2, q3⟩ := hr1 (f m) (by omega)
            have H3 : Hid (Keeps (fun j => j = gr) Wm (wr.setCell ⟨gr, f m, none⟩ (.bool true)) ∧ ∃ r : Nat → Bool, Arr (wr.setCell ⟨gr, f m, none⟩ (.bool true)) gr n (fun i => .bool (r i)) ∧ Snd n str a Ts r ∧ Cmp n str a Ts r ∧
                ∀ x, m - 1 < x → x < n → r x = true → r (f x) = true) := by
              refine ⟨HR.out.1.trans (keeps_set wr ⟨gr, f m, none⟩ _), setB r (f m), hr1.setB (by omega), hr2.set (holds_fail (hr2 m hm hrm) hfm), hr3.set, fun x h1 h2 h3 => ?_⟩
              by_cases e : x = m
              · subst e; exact setB_same _ _
              · have h4 : r x = true := by
                  unfold setB at h3
                  rw [if_neg (by omega)] at h3
                  exact h3
                exact setB_mono (hr4 x (by omega) h2 h4)
            obtain ⟨fm, hfme⟩ : ∃ fm, fm = f m := ⟨_, rfl⟩
            rw [← hfme] at l1 q2 q3 H3 hf1
            obtain ⟨bv, hbv⟩ : ∃ bv, bv = r fm := ⟨_, rfl⟩
            dsimp only at q2
            rw [← hbv] at q2
            have hfmn : fm < n := by omega
            clear hr1 hr2 hr3 hr4 hrm hfm hFM hfme hbv HR
            go_wp2
            go_roundw
            case rel => exact ⟨m - 1, by go_num, by omega, H3.out⟩
            case measure => simp [intOf]; omega
        · obtain rfl : m = 0 := by omega
          have HZ : Hid (∃ r : Nat → Bool, Arr wr gr n (fun i => .bool (r i)) ∧ ∀ x, x < n → (r x = true ↔ Holds a Ts (str x))) := by
            obtain ⟨r, hr1, hr2, hr3, hr4⟩ := HR.out.2
            exact ⟨r, hr1, fun x hx => reached_iff HT.out.1 HT.out.2.2.1 (fun y h1 h2 h3 => hr4 y (by omega) h2 h3) hr2 hr3 x hx⟩
          have HKZ : Hid (Keeps (fun j => j = gr) Wm wr) := HR.out.1
          clear HR
          go_wp2
          obtain ⟨Wz, hWz⟩ : ∃ Wz : World, Wz = wr := ⟨_, rfl⟩
          rw [← hWz] at HZ HKZ
          subst hWz
          go_loopw [76] (fun s76 wi => ∃ (j : Nat), s76 = .int .i64 (j : Int) ∧ j ≤ c.k ∧ Hid (Keeps (fun b => b = gf) Wz wi ∧ ∃ fr : Nat → Bool, Arr wi gf c.np (fun i => .bool (fr i)) ∧ (∀ i, i < j → (fr (c.Bt i) = true ↔ Holds a Ts (bts (c.Ps (c.Bt i))))) ∧
            ∀ i, i < c.np → (∀ x, x < j → c.Bt x ≠ i) → fr i = fd i)) (fun s76 _ => c.k - (intOf s76).toNat)
          case atStart =>
            refine ⟨0, rfl, Nat.zero_le _, Keeps.refl _ _, fd, ?_, fun i hi => by omega, fun i _ _ => rfl⟩
            have x1 := HA.out.2.2.2.2.2.2
            rcases Nat.eq_zero_or_pos c.np with e | e
            · intro i hi; omega
            · have x2 := x1.lt e
              exact (x1.same (HM.out.2.2.2.1.block gf x2)).keep HKZ.out (by have := HM.out.2.2.2.2.2.1; omega)
          case round =>
            obtain ⟨j, rfl, hj, HR⟩ := hrel
            by_cases hjk : j < c.k
            · obtain ⟨e1, e2, x3, x4⟩ := HA.out.1 (by omega)
              subst e1 e2
              obtain ⟨r, hr1, hr2⟩ := HZ.out
              obtain ⟨fr, hf1, hf2, hf3⟩ := HR.out.2
              have hBn := HA.out.2.2.1 j hjk
              have hgf : gf < w0.heap.size := HA.out.2.2.2.2.2.2.lt (by omega)
              obtain ⟨n1, n2⟩ := HT.out.2.2.2 j hjk
              have hgs := HM.out.2.2.2.2.2.1
              have hbb := HBB.out
              have p1 : wr.cell? ⟨c.gb, j, none⟩ = some (.int .i64 (c.Bt j : Int)) := by
                have y3 := HM.out.2.2.2.1
                have y4 := HKZ.out.size
                have y5 := y3.size
                rw [World.cell?_of_block (w := Wz) (HR.out.1.block c.gb (by omega) x4), World.cell?_of_block (w := Wm) (HKZ.out.block c.gb (by omega) (by omega)), World.cell?_of_block (w := w0) (y3.block c.gb x3)]; exact HA.out.2.1 j hjk
              have p2 : wr.cell? ⟨an, j, none⟩ = some (.int .i32 (nd j : Int)) := by
                have y1 := HM.out.2.2.1 j hjk
                have y2 := World.block_lt_of_cell? Wm ⟨an, j, none⟩ y1
                have y4 := HKZ.out.size
                simp only at y2
                rw [World.cell?_of_block (w := Wz) (HR.out.1.block an (by omega) (by omega)), World.cell?_of_block (w := Wm) (HKZ.out.block an y2 (HM.out.2.2.2.2.2.2.2.2.2.2 (by omega)))]; exact y1
              have p3 : wr.cell? ⟨gr, nd j, none⟩ = some (.bool (r (nd j))) := ((hr1.keep HR.out.1 (by omega)) (nd j) n1).1
              obtain ⟨q2, q3⟩ := hf1 (c.Bt j) hBn
              obtain ⟨bj, hbj⟩ : ∃ bj, bj = c.Bt j := ⟨_, rfl⟩
              obtain ⟨nj, hnj⟩ : ∃ nj, nj = nd j := ⟨_, rfl⟩
              obtain ⟨bv, hbv⟩ : ∃ bv, bv = r nj := ⟨_, rfl⟩
              have H3 : Hid (Keeps (fun b => b = gf) Wz (wr.setCell ⟨gf, bj, none⟩ (.bool bv)) ∧ ∃ fr : Nat → Bool, Arr (wr.setCell ⟨gf, bj, none⟩ (.bool bv)) gf c.np (fun i => .bool (fr i)) ∧ (∀ i, i < j + 1 → (fr (c.Bt i) = true ↔ Holds a Ts (bts (c.Ps (c.Bt i))))) ∧
                  ∀ i, i < c.np → (∀ x, x < j + 1 → c.Bt x ≠ i) → fr i = fd i) := by
                refine ⟨HR.out.1.trans (keeps_set wr ⟨gf, bj, none⟩ _), fun i => if i = bj then bv else fr i, (hf1.set (.bool bv) (by rw [hbj]; exact hBn)).congr (fun i _ => by dsimp only; split <;> rfl), fun i hi => ?_, fun i hi hx => ?_⟩ <;> dsimp only
                · by_cases e : c.Bt i = bj
                  · rw [if_pos e, hbv, hnj, e, hbj, ← n2]
                    exact hr2 _ n1
                  · rw [if_neg e]
                    exact hf2 i (by
                      have : i ≠ j := fun h => e (by rw [h, hbj])
                      omega)
                · rw [if_neg (by rw [hbj]; exact fun h => hx j (by omega) h.symm)]
                  exact hf3 i hi (fun x hx' => hx x (by omega))
              rw [← hbj] at p1 q2 q3 hBn
              rw [← hnj] at p2 p3 n1
              rw [← hbv] at p3
              obtain ⟨ov, hov⟩ : ∃ ov, ov = fr bj := ⟨_, rfl⟩
              dsimp only at q2
              rw [← hov] at q2
              clear hr1 hr2 hf1 hf2 hf3 n2 hbj hnj hbv HR hov hbb hgs x4
              go_wp2
              go_roundw
              case rel => exact ⟨j + 1, by go_num, by omega, H3.out⟩
              case measure => simp [intOf]; omega
            · obtain rfl : j = c.k := by omega
              go_wp2
              go_end0
              obtain ⟨fr, hf1, hf2, hf3⟩ := HR.out.2
              refine ⟨rfl, ?_, fr, hf1, hf2, hf3⟩
              have y1 : Keeps (fun j => j = gf) w0 Wm := (Below.keeps HM.out.2.2.2.1).mono (fun j h1 h2 => by omega)
              have y2 : Keeps (fun j => j = gf) w0 Wz := y1.trans' HKZ.out (fun j h1 h2 => by have := HM.out.2.2.2.2.2.1; omega)
              exact y2.trans HR.out.1
end Go.Proofs.Ybulkblzg
