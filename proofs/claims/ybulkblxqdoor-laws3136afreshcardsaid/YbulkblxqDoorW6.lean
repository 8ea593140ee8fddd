import Derived.Test.YbulkblxqDoorP6
import Derived.Deep.DeepMust
import Derived.Maps.AppendAt
namespace Go.Proofs.YbulkblxqDoor
open Go.RowKit Go.Sort
set_option linter.unusedVariables false
set_option linter.unusedSimpArgs false

theorem Ybad.info3 : (Ybad.prog.info? 3).map (fun i => (i.zero, i.size, i.bytes)) = some (some (.int .i64 0), 1, 8) := by kernel_rfl
theorem Ybad.info72 : (Ybad.prog.info? 72).map (fun i => (i.zero, i.size, i.bytes)) = some (some (.agg #[.int .i64 0, .slice none 0 0]), 2, 32) := by kernel_rfl

/-- One profile as the call has made it. -/
structure POut where
  hub : Int
  a : Option Addr
  n : Nat
  c : Nat
  zs : List Int

def pcells (Ps : List POut) : List Value := Ps.flatMap fun p => [.int .i64 p.hub, .slice p.a p.n p.c]

def Hubs (w : World) (g : Nat) (p : POut) : Prop := IsInts .i64 w p.a p.n p.zs ∧ p.zs.Pairwise (· ≤ ·) ∧ ∀ x, p.a = some x → g < x.block

def IsProfs (w : World) (b : Nat) (Ps : List POut) : Prop :=
  ∀ i (h : i < Ps.length), w.cell? ⟨b, i * 2, none⟩ = some (.int .i64 Ps[i].hub) ∧ w.cell? ⟨b, i * 2 + 1, none⟩ = some (.slice Ps[i].a Ps[i].n Ps[i].c) ∧
    IsInts .i64 w Ps[i].a Ps[i].n Ps[i].zs ∧ Ps[i].zs.Pairwise (· ≤ ·)

def Rel6 (w : World) (n k : Nat) (Ps : List POut) (wr : World) : Prop :=
  Ps.length = k ∧ wr.ownsRow w.heap.size 72 2 (.slice (some ⟨w.heap.size, 0, none⟩) k (n + 1)) k (pcells Ps) ∧ (∀ p ∈ Ps, Hubs wr w.heap.size p) ∧ Below w.heap.size w wr

theorem cell_two_new (w : World) (x y : Value) (t : TypeId) : ∀ j u, [x, y][j]? = some u → (w.alloc (.cells #[x, y] t)).cell? ((⟨w.heap.size, 0, none⟩ : Addr).add j) = some u := by
  intro j u hj
  match j, hj with
  | 0, hj => simp at hj; subst hj; simp [Addr.add]
  | 1, hj => simp at hj; subst hj; simp [Addr.add]

theorem two_oneCell (h : Int) (a : Option Addr) (m c : Nat) : ∀ u ∈ [Value.int .i64 h, Value.slice a m c], u.oneCell' = true := by
  intro u hu
  simp at hu
  rcases hu with rfl | rfl <;> rfl

theorem own_block {w : World} {base : Nat} {e : TypeId} {size : Nat} {v : Value} {n : Nat} {xs : List Value} (h : w.ownsRow base e size v n xs) : ∀ k, v.ownBlock = some k → base ≤ k := by
  intro k hk
  obtain ⟨a, c, rfl, hx⟩ := own_form h
  cases a with
  | none => cases hk
  | some y => cases hk; exact (hx y rfl).2.2

theorem own_lt {w : World} {base : Nat} {e : TypeId} {size g n cap : Nat} {xs : List Value} (h : w.ownsRow base e size (.slice (some ⟨g, 0, none⟩) n cap) n xs) : g < w.heap.size := by
  obtain ⟨h1, h2⟩ := h
  rcases h2 with ⟨he, _⟩ | ⟨g', cap', cur, hv, hg, hh, r⟩
  · cases he
  · cases hv
    by_cases hl : g < w.heap.size
    · exact hl
    · rw [Array.getElem?_eq_none (by omega)] at hh; cases hh

theorem own_below {w w' : World} {base B : Nat} {e : TypeId} {size g n cap : Nat} {xs : List Value} (h : w.ownsRow base e size (.slice (some ⟨g, 0, none⟩) n cap) n xs) (hb : Below B w w') (hg : g < B) :
    w'.ownsRow base e size (.slice (some ⟨g, 0, none⟩) n cap) n xs := by
  obtain ⟨h1, h2⟩ := h
  refine ⟨h1, ?_⟩
  rcases h2 with ⟨he, _⟩ | ⟨g', cap', cur, hv, hg', hh, r⟩
  · cases he
  · cases hv
    exact .inr ⟨g, cap, cur, rfl, hg', by rw [hb.block g hg]; exact hh, r⟩

theorem ints_grown {w w' : World} {k : IntKind} {a : Option Addr} {n g : Nat} {zs : List Int} (h : IsInts k w a n zs) (hx : ∀ x, a = some x → g < x.block) (hg : w.grownBy w' (some g)) : IsInts k w' a n zs := by
  obtain ⟨h1, h2, h3⟩ := h
  refine ⟨h1, h2, fun i hi => ?_⟩
  obtain ⟨b, off, e, hc⟩ := h3 i hi
  have hl := hx _ e
  refine ⟨b, off, e, ?_⟩
  rw [World.cell?_of_block (w := w) (hg.block b (cell_lt hc) (fun e => by simp at e; simp at hl; omega))]
  exact hc

theorem rel6_step {w wo wi w3 : World} {n k m c : Nat} {Ps : List POut} {hub : Int} {a : Option Addr} {zs' : List Int} {o : Obj} (hr : Rel6 w n k Ps wo) (hb : Below wo.heap.size wo wi)
    (hi : IsInts .i64 wi a m zs') (hs : zs'.Pairwise (· ≤ ·)) (ha : ∀ x, a = some x → wo.heap.size ≤ x.block)
    (ho : w3.ownsRow w.heap.size 72 2 (.slice (some ⟨w.heap.size, 0, none⟩) (k + 1) (n + 1)) (k + 1) (pcells Ps ++ [.int .i64 hub, .slice a m c]))
    (hg : (wi.alloc o).grownBy w3 (some w.heap.size)) : Rel6 w n (k + 1) (Ps ++ [⟨hub, a, m, c, zs'⟩]) w3 := by
  obtain ⟨h1, h2, h3, h4⟩ := hr
  have hlt := own_lt h2
  have hba : Below wo.heap.size wo (wi.alloc o) := hb.alloc (Nat.le_trans (Nat.le_refl _) hb.size) o
  have hbi : Below wi.heap.size wi (wi.alloc o) := (Below.refl _ _).alloc (Nat.le_refl _) o
  refine ⟨by simp [h1], by simpa [pcells] using ho, fun p hp => ?_, ?_⟩
  · rw [List.mem_append] at hp
    rcases hp with hp | hp
    · obtain ⟨q1, q2, q3⟩ := h3 p hp
      exact ⟨ints_grown (q1.below hba) q3 hg, q2, q3⟩
    · simp only [List.mem_cons, List.not_mem_nil, or_false] at hp
      subst hp
      have q3 : ∀ x, a = some x → w.heap.size < x.block := fun x hx => by have := ha x hx; omega
      exact ⟨ints_grown (hi.below hbi) q3 hg, hs, q3⟩
  · refine (h4.trans (hba.mono (by omega))).grown hg ?_ (fun k hk => by cases hk; exact Nat.le_refl _)
    have := hb.size
    simp; omega

theorem pcells_len (Ps : List POut) : (pcells Ps).length = Ps.length * 2 := by
  induction Ps with
  | nil => rfl
  | cons p Ps ih => simp [pcells] at *; omega

theorem pcells_get (Ps : List POut) (i : Nat) (h : i < Ps.length) : (pcells Ps)[i * 2]? = some (.int .i64 Ps[i].hub) ∧ (pcells Ps)[i * 2 + 1]? = some (.slice Ps[i].a Ps[i].n Ps[i].c) := by
  induction Ps generalizing i with
  | nil => simp at h
  | cons p Ps ih =>
    have e : pcells (p :: Ps) = .int .i64 p.hub :: .slice p.a p.n p.c :: pcells Ps := by simp [pcells]
    rw [e]
    cases i with
    | zero => simp
    | succ i =>
      have := ih i (by simpa using h)
      rw [show (i + 1) * 2 = i * 2 + 1 + 1 by omega]
      simpa using this

theorem rel6_end {w wr : World} {n k : Nat} {Ps : List POut} (hr : Rel6 w n k Ps wr) : IsProfs wr w.heap.size Ps := by
  obtain ⟨h1, h2, h3, h4⟩ := hr
  intro i hi
  obtain ⟨q1, q2, q3⟩ := h3 _ (List.getElem_mem hi)
  obtain ⟨r1, r2⟩ := pcells_get Ps i hi
  exact ⟨by rw [h2.cellAt (i * 2) (by omega)]; exact r1, by rw [h2.cellAt (i * 2 + 1) (by omega)]; exact r2, q1, q2⟩

set_option maxHeartbeats 1000000 in
theorem profiles_at (b off n c : Nat) (L : List PIn) (w : World) (hz : L.length = n) (hn : n ≤ 1024) (hb : b < w.heap.size)
    (hc : ∀ i (h : i < L.length), w.cell? ⟨b, off + i * 2, none⟩ = some (.int .i8 L[i].hub) ∧
      w.cell? ⟨b, off + i * 2 + 1, none⟩ = some (.slice L[i].a L[i].n L[i].c) ∧ -128 ≤ L[i].hub ∧ L[i].hub < 128 ∧ IsInts .u8 w L[i].a L[i].n L[i].zs ∧ (∀ z ∈ L[i].zs, 0 ≤ z ∧ z < 256) ∧ L[i].n ≤ 1024) :
    Calls Ybad.prog 6 #[.slice (some ⟨b, off, none⟩) n c] w fun e w' =>
      ∃ Ps : List POut, 0 < Ps.length ∧ Ps.length ≤ 1024 ∧ e = .returned (.slice (some ⟨w.heap.size, 0, none⟩) Ps.length (n + 1)) ∧ IsProfs w' w.heap.size Ps ∧ Below w.heap.size w w' := by
  obtain ⟨i3, hi3, hz30, hz31, hz32⟩ := info_parts Ybad.info3
  obtain ⟨i72, hi72, hz720, hz721, hz722⟩ := info_parts Ybad.info72
  have HC : Hid (∀ i (h : i < L.length), w.cell? ⟨b, off + i * 2, none⟩ = some (.int .i8 L[i].hub) ∧
      w.cell? ⟨b, off + i * 2 + 1, none⟩ = some (.slice L[i].a L[i].n L[i].c) ∧ -128 ≤ L[i].hub ∧ L[i].hub < 128 ∧ IsInts .u8 w L[i].a L[i].n L[i].zs ∧ (∀ z ∈ L[i].zs, 0 ≤ z ∧ z < 256) ∧ L[i].n ≤ 1024) := hc
  clear hc
  have HI : Hid ((Ybad.prog.info? 3 = some i3 ∧ i3.zero = some (.int .i64 0) ∧ i3.size = 1 ∧ i3.bytes = 8) ∧ (Ybad.prog.info? 72 = some i72 ∧ i72.zero = some (.agg #[.int .i64 0, .slice none 0 0]) ∧ i72.size = 2 ∧ i72.bytes = 32)) := ⟨⟨hi3, hz30, hz31, hz32⟩, hi72, hz720, hz721, hz722⟩
  clear hi3 hz30 hz31 hz32 hi72 hz720 hz721 hz722
  go_enter Ybad.func6, Ybad.ntmps6
  go_wp2_with (at_make; refine wpList_make_own _ rfl _ _ 27 rfl w.heap.size 72 i72 (.agg #[.int .i64 0, .slice none 0 0]) 2 Ybad.underlying27 HI.out.2.1 HI.out.2.2.1 HI.out.2.2.2.1 .i64 .i64 ((n : Int) + 1) (n + 1) rfl rfl (by omega) ?b1 ?b2 (Nat.le_refl _) ?_)
  case b1 => rw [HI.out.2.2.2.2]; omega
  case b2 => unfold maxLen; omega
  intro w1 hown hgrow
  have hb1 : Below w.heap.size w w1 := (Below.refl _ _).grown hgrow (Nat.le_refl _) (fun k h => by cases h)
  have R0 : Hid (Rel6 w n 0 [] w1) := ⟨rfl, hown, fun p hp => absurd hp (List.not_mem_nil), hb1⟩
  clear hown hgrow hb1
  go_wp2
  go_loopw [3, 4] (fun o i wr => ∃ (k : Nat) (Ps : List POut), k ≤ n ∧ i = .int .i64 k ∧ o = .slice (some ⟨w.heap.size, 0, none⟩) k (n + 1) ∧ Hid (Rel6 w n k Ps wr)) (fun _ i _ => n - (intOf i).toNat)
  case atStart => exact ⟨0, [], Nat.zero_le _, rfl, rfl, R0⟩
  case round =>
    obtain ⟨k, Ps, hk, rfl, rfl, R⟩ := hrel
    clear R0
    obtain ⟨wo, rfl⟩ : ∃ wo : World, wo = wr := ⟨_, rfl⟩
    by_cases hlt : k < n
    · obtain ⟨hc0, hc1, hl0, hl1, hin, hzs, hpn⟩ := HC.out k (by omega)
      generalize L[k] = p at *
      obtain ⟨ph, pa, pn, pc, pz⟩ := p
      dsimp only at hc0 hc1 hl0 hl1 hin hzs hpn
      have HB : Hid (Below w.heap.size w wo) := R.out.2.2.2
      have HIN : Hid (IsInts .u8 w pa pn pz ∧ (∀ z ∈ pz, 0 ≤ z ∧ z < 256)) := ⟨hin, hzs⟩
      have HC1 : Hid (w.cell? ⟨b, off + k * 2 + 1, none⟩ = some (.slice pa pn pc)) := hc1
      have hd0 : wo.cell? ⟨b, off + k * 2, none⟩ = some (.int .i8 ph) := by rw [HB.out.cell (by exact hb)]; exact hc0
      have hd1 : wo.cell? ⟨b, off + k * 2 + 1, none⟩ = some (.slice pa pn pc) := by rw [HB.out.cell (by exact hb)]; exact hc1
      clear hc0 hc1 hin hzs
      by_cases hs : 0 ≤ ph
      all_goals
        go_wp2
        go_loopw [6, 7] (fun h j wi => ∃ (m : Nat) (a : Option Addr) (c : Nat) (zs' : List Int), m ≤ pn ∧ j = .int .i64 m ∧ h = .slice a m c ∧ zs'.length = m ∧ Hid (wi.ownsRow wo.heap.size 3 1 (.slice a m c) m (zs'.map (Value.int .i64))) ∧ Hid (Below wo.heap.size wo wi)) (fun _ j _ => pn - (intOf j).toNat)
        case atStart => exact ⟨0, none, 0, [], Nat.zero_le _, rfl, rfl, rfl, World.ownsRow_nil _ _ _ _, Below.refl _ _⟩
        case round =>
          obtain ⟨m, a, c', zs', hm, rfl, rfl, hzl, O, HBi⟩ := hrel
          obtain ⟨wi, rfl⟩ : ∃ wi : World, wi = wr := ⟨_, rfl⟩
          have hwo : b < wo.heap.size := Nat.lt_of_lt_of_le hb HB.out.size
          have he1 : wi.cell? ⟨b, off + k * 2 + 1, none⟩ = some (.slice pa pn pc) := by rw [HBi.out.cell (by exact hwo)]; exact hd1
          clear hd0 hd1
          by_cases hmn : m < pn
          · obtain ⟨⟨hi1, hi2, hi3⟩, hzs⟩ := HIN.out
            obtain ⟨b2, off2, rfl, hcz⟩ := hi3 m hmn
            have hb2 : b2 < w.heap.size := cell_lt hcz
            have hwb2 : b2 < wo.heap.size := Nat.lt_of_lt_of_le hb2 HB.out.size
            have hez : wi.cell? ⟨b2, off2 + m, none⟩ = some (.int .u8 (pz.getD m 0)) := by rw [HBi.out.cell (by exact hwb2), HB.out.cell (by exact hb2)]; exact hcz
            have hzb : 0 ≤ pz.getD m 0 ∧ pz.getD m 0 < 256 := hzs _ (by rw [List.getD_eq_getElem?_getD, List.getElem?_eq_getElem (by omega)]; exact List.getElem_mem _)
            clear hcz hzs hi3 hi1 hi2
            generalize pz.getD m 0 = z at *
            obtain ⟨hz0, hz1⟩ := hzb
            go_wp2_with (at_builtin; refine wpList_append_own _ rfl _ _ 35 rfl wo.heap.size 3 i3 (.int .i64 0) 1 8 Ybad.underlying35 HI.out.1.1 HI.out.1.2.1 HI.out.1.2.2.1 HI.out.1.2.2.2 rfl (by decide) _ _ _ rfl (O.out.alloc _) ⟨wi.heap.size, 0, none⟩ 1 1 [.int .i64 (z % 8)] rfl rfl (cell_one_new _ _ _) (ints_oneCell .i64 [z % 8]) ?_ ?_ ?_ ?_)
            · unfold maxLen; omega
            · omega
            · have := HBi.out.size; simp; omega
            intro v' w2 hown' hgrow _
            obtain ⟨a', c2, rfl, _⟩ := own_form hown'
            have O2 : Hid (w2.ownsRow wo.heap.size 3 1 (.slice a' (m + 1) c2) (m + 1) ((zs' ++ [z % 8]).map (Value.int .i64))) := by
              unfold Hid; simpa using hown'
            have HB2 : Hid (Below wo.heap.size wo w2) := by
              exact (HBi.out.alloc HBi.out.size _).grown hgrow (by have := HBi.out.size; simp; omega) (own_block O.out)
            clear hown' hgrow
            go_wp2
            go_roundw
            case rel => exact ⟨m + 1, a', c2, zs' ++ [z % 8], by omega, by go_num, rfl, by simp [hzl], O2, HB2⟩
            case measure => simp [intOf]; omega
          · obtain rfl : m = pn := by omega
            go_wp2_with fail
            refine (sort_own _ wo.heap.size a m c' zs' O.out HBi.out.size (by omega) hzl).mono ?_
            rintro e w2 ⟨rfl, zt, hit, hst, hat, hbt⟩
            have HB2 : Hid (Below wo.heap.size wo w2) := HBi.out.trans hbt
            have HT : Hid (IsInts .i64 w2 a m zt ∧ zt.Pairwise (· ≤ ·) ∧ (∀ x, a = some x → wo.heap.size ≤ x.block)) := ⟨hit, hst, hat⟩
            have OP : Hid (w2.ownsRow w.heap.size 72 2 (.slice (some ⟨w.heap.size, 0, none⟩) k (n + 1)) k (pcells Ps)) := own_below R.out.2.1 HB2.out (own_lt R.out.2.1)
            clear hit hst hat hbt HBi O he1
            go_wp2_with (at_builtin; refine wpList_append_fits _ rfl _ _ 27 rfl w.heap.size 72 i72 2 Ybad.underlying27 HI.out.2.1 HI.out.2.2.2.1 w.heap.size k (n + 1) (pcells Ps) rfl (OP.out.alloc _) ⟨w2.heap.size, 0, none⟩ 1 1 [.int .i64 _, .slice a m c'] rfl rfl (cell_two_new _ _ _ _) (two_oneCell _ _ _ _) (by omega) ?_)
            intro w3 ho3 hg3
            have R3 := rel6_step R.out HB2.out HT.out.1 HT.out.2.1 HT.out.2.2 ho3 hg3
            have R4 : Hid (Rel6 w n (k + 1) _ w3) := R3
            clear ho3 hg3 R3 HB2 HT OP
            go_wp2
            go_roundw
            case rel => exact ⟨k + 1, _, by omega, by go_num, rfl, R4⟩
            case measure => simp [intOf]; omega
    · obtain rfl : k = n := by omega
      by_cases h0 : k = 0
      · have HP : Hid (Ps = []) := List.length_eq_zero_iff.1 (R.out.1.trans h0)
        subst h0
        have OP : Hid (wo.ownsRow w.heap.size 72 2 (.slice (some ⟨w.heap.size, 0, none⟩) 0 (0 + 1)) 0 (pcells Ps)) := R.out.2.1
        go_wp2_with (at_builtin; refine wpList_append_fits _ rfl _ _ 27 rfl w.heap.size 72 i72 2 Ybad.underlying27 HI.out.2.1 HI.out.2.2.2.1 w.heap.size 0 1 (pcells Ps) rfl (OP.out.alloc _) ⟨wo.heap.size, 0, none⟩ 1 1 [.int .i64 (-1), .slice none 0 0] rfl rfl (cell_two_new _ _ _ _) (two_oneCell _ _ _ _) (by omega) ?_)
        intro w3 ho3 hg3
        have R3 := rel6_step (zs' := []) R.out (Below.refl _ _) ⟨rfl, by simp, fun i hi => absurd hi (Nat.not_lt_zero _)⟩ List.Pairwise.nil (fun x hx => by cases hx) ho3 hg3
        have R4 : Hid (Rel6 w 0 (0 + 1) _ w3) := R3
        clear ho3 hg3 R3 OP
        go_wp2
        go_ret
        exact ⟨_, by simp, by simp [HP.out], by rw [HP.out]; rfl, rel6_end R4.out, R4.out.2.2.2⟩
      · have hk0 : ((k : Int) == 0) = false := by simp; omega
        go_wp2
        go_ret
        exact ⟨Ps, by rw [R.out.1]; omega, by rw [R.out.1]; omega, by rw [R.out.1]; rfl, rel6_end R.out, R.out.2.2.2⟩

set_option maxHeartbeats 1000000 in
theorem profiles_empty (a : Option Addr) (c : Nat) (w : World) :
    Calls Ybad.prog 6 #[.slice a 0 c] w fun e w' =>
      ∃ Ps : List POut, 0 < Ps.length ∧ Ps.length ≤ 1024 ∧ e = .returned (.slice (some ⟨w.heap.size, 0, none⟩) Ps.length (0 + 1)) ∧ IsProfs w' w.heap.size Ps ∧ Below w.heap.size w w' := by
  obtain ⟨i72, hi72, hz720, hz721, hz722⟩ := info_parts Ybad.info72
  have HI : Hid (Ybad.prog.info? 72 = some i72 ∧ i72.zero = some (.agg #[.int .i64 0, .slice none 0 0]) ∧ i72.size = 2 ∧ i72.bytes = 32) := ⟨hi72, hz720, hz721, hz722⟩
  clear hi72 hz720 hz721 hz722
  go_enter Ybad.func6, Ybad.ntmps6
  go_wp2_with (at_make; refine wpList_make_own _ rfl _ _ 27 rfl w.heap.size 72 i72 (.agg #[.int .i64 0, .slice none 0 0]) 2 Ybad.underlying27 HI.out.1 HI.out.2.1 HI.out.2.2.1 .i64 .i64 1 1 rfl rfl (by omega) ?b1 ?b2 (Nat.le_refl _) ?_)
  case b1 => rw [HI.out.2.2.2]; omega
  case b2 => unfold maxLen; omega
  intro w1 hown hgrow
  have hb1 : Below w.heap.size w w1 := (Below.refl _ _).grown hgrow (Nat.le_refl _) (fun k h => by cases h)
  have R : Hid (Rel6 w 0 0 [] w1) := ⟨rfl, hown, fun p hp => absurd hp (List.not_mem_nil), hb1⟩
  clear hown hgrow hb1
  go_wp2
  refine wp_loop_rounds 1 ?_
  rw [rounds_succ]
  go_wp2_with (at_builtin; refine wpList_append_fits _ rfl _ _ 27 rfl w.heap.size 72 i72 2 Ybad.underlying27 HI.out.1 HI.out.2.2.1 w.heap.size 0 1 [] rfl (R.out.2.1.alloc _) ⟨w1.heap.size, 0, none⟩ 1 1 [.int .i64 (-1), .slice none 0 0] rfl rfl (cell_two_new _ _ _ _) (two_oneCell _ _ _ _) (by omega) ?_)
  intro w3 ho3 hg3
  have R3 := rel6_step (zs' := []) R.out (Below.refl _ _) ⟨rfl, by simp, fun i hi => absurd hi (Nat.not_lt_zero _)⟩ List.Pairwise.nil (fun x hx => by cases hx) ho3 hg3
  have R4 : Hid (Rel6 w 0 (0 + 1) _ w3) := R3
  clear ho3 hg3 R3
  go_wp2
  go_ret
  exact ⟨_, by simp, by simp, rfl, rel6_end R4.out, R4.out.2.2.2⟩

theorem profiles_any (a : Option Addr) (n c : Nat) (L : List PIn) (w : World) (h : IsPIns w a n L) (hs : bigB L = false) :
    Calls Ybad.prog 6 #[.slice a n c] w fun e w' =>
      ∃ Ps : List POut, 0 < Ps.length ∧ Ps.length ≤ 1024 ∧ e = .returned (.slice (some ⟨w.heap.size, 0, none⟩) Ps.length (n + 1)) ∧ IsProfs w' w.heap.size Ps ∧ Below w.heap.size w w' := by
  obtain ⟨hz, hc⟩ := h
  unfold bigB at hs
  rw [Bool.or_eq_false_iff, decide_eq_false_iff_not, List.any_eq_false] at hs
  obtain ⟨hs1, hs2⟩ := hs
  by_cases h0 : n = 0
  · subst h0
    exact profiles_empty a c w
  · obtain ⟨b, off, rfl, hcell, _⟩ := hc 0 (by omega)
    refine profiles_at b off n c L w hz (by omega) (cell_lt hcell) fun i hi => ?_
    obtain ⟨b', off', he, h1, h2, h3, h4, h56⟩ := hc i hi
    simp only [Option.some.injEq, Addr.mk.injEq, and_true] at he
    obtain ⟨rfl, rfl⟩ := he
    have hle : L[i].n ≤ 1024 := by simpa using hs2 _ (List.getElem_mem hi)
    exact ⟨h1, h2, h3, h4, (h56 hle).1, (h56 hle).2, hle⟩
end Go.Proofs.YbulkblxqDoor
