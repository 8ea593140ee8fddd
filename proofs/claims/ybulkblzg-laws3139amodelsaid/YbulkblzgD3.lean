import Derived.Test.YbulkblzgD1
namespace Go.Proofs.Ybulkblzg
open Go.RowKit
set_option linter.unusedVariables false
set_option linter.unusedSimpArgs false

/-- The lengths together. -/
def sumL (Ts : Nat → ByteArray) : Nat → Nat
  | 0 => 0
  | n + 1 => sumL Ts n + (Ts n).size
theorem sumL_le (Ts : Nat → ByteArray) {i n : Nat} (h : i < n) : (Ts i).size ≤ sumL Ts n := by
  induction n with
  | zero => omega
  | succ n ih =>
    simp only [sumL]
    by_cases e : i = n
    · subst e; omega
    · have := ih (by omega); omega
theorem sumL_bound (Ts : Nat → ByteArray) (B : Nat) (n : Nat) (h : ∀ i, i < n → (Ts i).size ≤ B) : sumL Ts n ≤ n * B := by
  induction n with
  | zero => simp [sumL]
  | succ n ih =>
    have h1 := ih (fun i hi => h i (by omega))
    have h2 := h n (by omega)
    simp only [sumL, Nat.succ_mul]
    omega

set_option maxRecDepth 100000 in
theorem bytes_any (pt : Option Addr) (nt tc gt ot : Nat) (Ts : Nat → ByteArray) (w : World) (hnt : nt ≤ 256) (ht : 0 < nt → pt = some ⟨gt, ot, none⟩) (htc : ∀ i, i < nt → w.cell? ⟨gt, ot + i, none⟩ = some (.string (Ts i))) (hsz : ∀ i, i < nt → (Ts i).size ≤ 140737488355328) :
    Calls Yba.prog 7 #[.slice pt nt tc] w fun e w' => e = .returned (.int .i64 (sumL Ts nt : Int)) ∧ w' = w := by
  have HA : Hid ((0 < nt → pt = some ⟨gt, ot, none⟩) ∧ (∀ i, i < nt → w.cell? ⟨gt, ot + i, none⟩ = some (.string (Ts i))) ∧ (∀ i, i < nt → (Ts i).size ≤ 140737488355328)) := ⟨ht, htc, hsz⟩
  clear ht htc hsz
  go_enter Yba.func7, Yba.ntmps7
  go_wp2
  go_loopw [3, 8] (fun s3 s8 wr => ∃ (a s : Nat), s3 = .int .i64 (s : Int) ∧ s8 = .int .i64 (a : Int) ∧ a ≤ nt ∧ Hid (s = sumL Ts a ∧ wr = w)) (fun _ s8 _ => nt - (intOf s8).toNat)
  case atStart => exact ⟨0, 0, rfl, rfl, Nat.zero_le _, rfl, rfl⟩
  case round =>
    obtain ⟨a, s, rfl, rfl, ha, HR⟩ := hrel
    obtain rfl : wr = w := HR.out.2
    have HS : Hid (s = sumL Ts a) := HR.out.1
    clear HR
    by_cases hlt : a < nt
    · have p0 := HA.out.1 (by omega)
      subst p0
      have p1 := HA.out.2.1 a hlt
      have x1 : s ≤ a * 140737488355328 := by rw [HS.out]; exact sumL_bound Ts _ a (fun i hi => HA.out.2.2 i (by omega))
      have x2 := HA.out.2.2 a hlt
      have x3 : a * 140737488355328 ≤ 256 * 140737488355328 := Nat.mul_le_mul_right _ (by omega)
      have hsb : s + (Ts a).size ≤ 257 * 140737488355328 := by omega
      obtain ⟨z, hz⟩ : ∃ z, z = (Ts a) := ⟨_, rfl⟩
      rw [← hz] at p1 hsb
      have HZ : Hid (z = Ts a) := hz
      clear hz x1 x2 x3
      go_wp2
      go_roundw
      case rel => exact ⟨a + 1, s + z.size, by go_num, by go_num, by omega, by rw [HS.out, HZ.out]; rfl, trivial⟩
      case measure => simp [intOf]; omega
    · obtain rfl : a = nt := by omega
      go_wp2
      go_ret
      exact ⟨by rw [HS.out]; rfl, rfl⟩

theorem take_snoc_eq {l p : List Nat} {i j b : Nat} (h : (l.drop i).take j = p.take j) (h1 : l[i + j]? = some b) (h2 : p[j]? = some b) : (l.drop i).take (j + 1) = p.take (j + 1) := by
  rw [List.take_add_one, List.take_add_one, h, List.getElem?_drop, h1, h2]
theorem infix_at {l p : List Nat} {i : Nat} (h : (l.drop i).take p.length = p) : p <:+: l := by
  rw [← h]
  exact (List.take_prefix _ _).isInfix.trans (List.drop_suffix _ _).isInfix
theorem at_infix {l p : List Nat} (h : p <:+: l) : ∃ i, i + p.length ≤ l.length ∧ (l.drop i).take p.length = p := by
  obtain ⟨s, t, rfl⟩ := h
  refine ⟨s.length, by simp, ?_⟩
  rw [List.append_assoc, List.drop_left, List.take_left]

set_option maxRecDepth 100000 in
set_option maxHeartbeats 1000000 in
theorem contains_any (s p : ByteArray) (w : World) (hs : s.size ≤ 4096) (hp : p.size ≤ 4096) :
    Calls Yba.prog 23 #[.string s, .string p] w fun e w' => (∃ r : Bool, e = .returned (.bool r) ∧ (r = true ↔ bts p <:+: bts s)) ∧ ∃ q, w' = w.drewN q := by
  have HL : Hid ((bts s).length = s.size ∧ (bts p).length = p.size) := ⟨bts_length _, bts_length _⟩
  go_enter Yba.func23, Yba.ntmps23
  by_cases h0 : s.size < p.size
  · go_wp2
    go_ret
    refine ⟨⟨false, rfl, ?_⟩, 0, (drewN_zero w).symm⟩
    simp only [Bool.false_eq_true, false_iff]
    intro h
    have h1 := h.length_le
    rw [HL.out.1, HL.out.2] at h1
    omega
  · go_wp2
    go_loopw [5] (fun s5 wr => ∃ (i : Nat), s5 = .int .i64 (i : Int) ∧ i ≤ 8192 ∧ Hid ((∀ i', i' < i → ((bts s).drop i').take p.size ≠ bts p) ∧ ∃ q, wr = w.drewN q)) (fun s5 _ => 10000 - (intOf s5).toNat)
    case atStart => exact ⟨0, rfl, by omega, fun i hi => by omega, 0, (drewN_zero w).symm⟩
    case round =>
      obtain ⟨i, rfl, hi, HR⟩ := hrel
      by_cases hlt : i + p.size ≤ s.size
      · go_wp2
        obtain ⟨wo, hwo⟩ : ∃ wo : World, wo = wr := ⟨_, rfl⟩
        rw [← hwo] at HR ⊢
        clear hwo
        go_loopw [6] (fun s6 wi => ∃ (j : Nat), s6 = .int .i64 (j : Int) ∧ j ≤ p.size ∧ Hid (((bts s).drop i).take j = (bts p).take j ∧ ∃ q, wi = w.drewN q)) (fun s6 _ => p.size - (intOf s6).toNat)
        case atStart => exact ⟨0, rfl, by omega, rfl, HR.out.2⟩
        case round =>
          obtain ⟨j, rfl, hj, HJ⟩ := hrel
          by_cases hjp : j < p.size
          · have dlt : decide ((j : Int) < (p.size : Int)) = true := by simp; omega
            obtain ⟨b, hb⟩ : ∃ b, (bts s)[i + j]? = some b := ⟨_, List.getElem?_eq_getElem (by rw [HL.out.1]; omega)⟩
            obtain ⟨b', hb'⟩ : ∃ b', (bts p)[j]? = some b' := ⟨_, List.getElem?_eq_getElem (by rw [HL.out.2]; omega)⟩
            have hidx := str_at hb
            have hidx' := str_at hb'
            rw [Int.natCast_add] at hidx
            have HB : Hid ((bts s)[i + j]? = some b ∧ (bts p)[j]? = some b') := ⟨hb, hb'⟩
            have h256 : b < 256 := bts_lt s (List.mem_of_getElem? hb)
            have h256' : b' < 256 := bts_lt p (List.mem_of_getElem? hb')
            clear hb hb'
            by_cases hbb : b = b'
            · subst hbb
              go_upto_region 7 with fail
              go_quiet (fail)
              have HW : Hid (∃ q, wr.drewN nq = w.drewN q) := by
                obtain ⟨q, hq⟩ := HJ.out.2
                exact ⟨q + nq, by rw [hq, drewN_drewN]⟩
              go_wp2
              go_roundw
              case rel => exact ⟨j + 1, by go_num, by omega, take_snoc_eq HJ.out.1 HB.out.1 HB.out.2, HW.out⟩
              case measure => simp [intOf]; omega
            · have hbi : ¬ ((b : Int) = (b' : Int)) := by omega
              go_upto_region 7 with fail
              go_quiet (fail)
              have HW : Hid (∃ q, wr.drewN nq = w.drewN q) := by
                obtain ⟨q, hq⟩ := HJ.out.2
                exact ⟨q + nq, by rw [hq, drewN_drewN]⟩
              go_wp2
              go_roundw
              case rel =>
                refine ⟨i + 1, by go_num, by omega, fun i' h1 => ?_, HW.out⟩
                by_cases e : i' = i
                · subst e
                  intro h2
                  have h3 := congrArg (fun l => l[j]?) h2
                  simp only [List.getElem?_take, if_pos hjp, List.getElem?_drop, HB.out.1, HB.out.2] at h3
                  injection h3 with h3
                  exact hbb h3
                · exact HR.out.1 i' (by omega)
              case measure => simp [intOf]; omega
          · obtain rfl : j = p.size := by omega
            have dlt : decide ((p.size : Int) < (p.size : Int)) = false := by simp
            go_upto_region 7 with fail
            go_quiet (fail)
            have HW : Hid (∃ q, wr.drewN nq = w.drewN q) := by
              obtain ⟨q, hq⟩ := HJ.out.2
              exact ⟨q + nq, by rw [hq, drewN_drewN]⟩
            go_wp2
            go_ret
            refine ⟨⟨true, rfl, ?_⟩, HW.out⟩
            simp only [true_iff]
            refine infix_at (i := i) ?_
            rw [HL.out.2, HJ.out.1, ← HL.out.2, List.take_length]
      · go_wp2
        go_ret
        refine ⟨⟨false, rfl, ?_⟩, HR.out.2⟩
        simp only [Bool.false_eq_true, false_iff]
        intro h
        obtain ⟨i', h1, h2⟩ := at_infix h
        rw [HL.out.1, HL.out.2] at h1
        rw [HL.out.2] at h2
        exact HR.out.1 i' (by omega) h2

set_option maxRecDepth 100000 in
theorem inany_any (pt : Option Addr) (nt tc gt ot : Nat) (Ts : Nat → ByteArray) (p : ByteArray) (w : World) (hnt : nt ≤ 256) (ht : 0 < nt → pt = some ⟨gt, ot, none⟩) (htc : ∀ i, i < nt → w.cell? ⟨gt, ot + i, none⟩ = some (.string (Ts i))) (hsz : ∀ i, i < nt → (Ts i).size ≤ 4096) (hp : p.size ≤ 4096) :
    Calls Yba.prog 11 #[.slice pt nt tc, .string p] w fun e w' => (∃ r : Bool, e = .returned (.bool r) ∧ (r = true ↔ Holds nt Ts (bts p))) ∧ ∃ q, w' = w.drewN q := by
  have HA : Hid ((0 < nt → pt = some ⟨gt, ot, none⟩) ∧ (∀ i, i < nt → w.cell? ⟨gt, ot + i, none⟩ = some (.string (Ts i))) ∧ (∀ i, i < nt → (Ts i).size ≤ 4096)) := ⟨ht, htc, hsz⟩
  clear ht htc hsz
  go_enter Yba.func11, Yba.ntmps11
  go_wp2
  go_loopw [9] (fun s9 wr => ∃ (a : Nat), s9 = .int .i64 (a : Int) ∧ a ≤ nt ∧ Hid ((∀ i, i < a → ¬ bts p <:+: bts (Ts i)) ∧ ∃ q, wr = w.drewN q)) (fun s9 _ => nt - (intOf s9).toNat)
  case atStart => exact ⟨0, rfl, by omega, fun i hi => by omega, 0, (drewN_zero w).symm⟩
  case round =>
    obtain ⟨a, rfl, ha, HR⟩ := hrel
    by_cases hlt : a < nt
    · have p0 := HA.out.1 (by omega)
      subst p0
      have p1 : wr.cell? ⟨gt, ot + a, none⟩ = some (.string (Ts a)) := by
        obtain ⟨q, hq⟩ := HR.out.2
        rw [hq]; exact HA.out.2.1 a hlt
      have x2 := HA.out.2.2 a hlt
      go_wp2_with fail
      refine (contains_any (Ts a) p wr x2 hp).mono ?_
      rintro e W2 ⟨⟨r, rfl, hr⟩, q', hq'⟩
      have HW : Hid (∃ q, W2 = w.drewN q) := by
        obtain ⟨q, hq⟩ := HR.out.2
        exact ⟨q + q', by rw [hq', hq, drewN_drewN]⟩
      have HRR : Hid (r = true ↔ bts p <:+: bts (Ts a)) := hr
      clear hr hq'
      cases r with
      | false =>
        go_wp2
        go_roundw
        case rel =>
          refine ⟨a + 1, by go_num, by omega, fun i hi => ?_, HW.out⟩
          by_cases e : i = a
          · subst e
            intro h
            have := HRR.out.2 h
            simp at this
          · exact HR.out.1 i (by omega)
        case measure => simp [intOf]; omega
      | true =>
        go_wp2
        go_ret
        refine ⟨⟨true, rfl, ?_⟩, HW.out⟩
        simp only [true_iff]
        exact ⟨a, hlt, HRR.out.1 (by first | rfl | trivial)⟩
    · obtain rfl : a = nt := by omega
      go_wp2
      go_ret
      refine ⟨⟨false, rfl, ?_⟩, HR.out.2⟩
      simp only [Bool.false_eq_true, false_iff]
      rintro ⟨i, hi, h⟩
      exact HR.out.1 i hi h
end Go.Proofs.Ybulkblzg
