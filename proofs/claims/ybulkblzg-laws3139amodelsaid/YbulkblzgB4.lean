import Derived.Test.YbulkblzgB3
import Derived.Lib.RowBridge
import Derived.Lib.SortBridge
import Derived.Sort.LotA
namespace Go.Proofs.Ybulkblzg
open Go.RowKit Go.Shelf Go.Lib Go.Sort
set_option linter.unusedVariables false
set_option linter.unusedSimpArgs false

theorem slt_irrefl : ∀ x, slt x x = false
  | [] => rfl
  | a :: x => by simp [slt, slt_irrefl x]
theorem slt_trans : ∀ x y z, slt x y = true → slt y z = true → slt x z = true
  | [], y, [], _, h => by cases y <;> simp [slt] at h
  | [], _, _ :: _, _, _ => rfl
  | a :: x, [], z, h, _ => by simp [slt] at h
  | a :: x, b :: y, [], _, h => by simp [slt] at h
  | a :: x, b :: y, c :: z, h1, h2 => by
    simp only [slt] at h1 h2 ⊢
    split at h1
    · split at h2
      · rw [if_pos (by omega)]
      · split at h2
        · cases h2
        · rw [if_pos (by omega)]
    · split at h1
      · cases h1
      · split at h2
        · rw [if_pos (by omega)]
        · split at h2
          · cases h2
          · rw [if_neg (by omega), if_neg (by omega)]
            exact slt_trans x y z h1 h2
theorem slt_ntrans : ∀ x y z, slt x y = false → slt y z = false → slt x z = false
  | [], _, [], _, _ => rfl
  | _ :: _, _, [], _, _ => rfl
  | x, [], c :: z, _, h => by simp [slt] at h
  | [], b :: y, c :: z, h, _ => by simp [slt] at h
  | a :: x, b :: y, c :: z, h1, h2 => by
    simp only [slt] at h1 h2 ⊢
    split at h1
    · cases h1
    · split at h2
      · cases h2
      · rw [if_neg (by omega)]
        split
        · rfl
        · split at h1
          · split at h2 <;> omega
          · split at h2
            · omega
            · exact slt_ntrans x y z h1 h2

noncomputable def siT : TypeInfo := (Yba.prog.info? 27).get (by kernel_rfl)
noncomputable def siE : TypeInfo := (Yba.prog.info? 3).get (by kernel_rfl)
theorem siK (n : Nat) (h2 : 2 ≤ n) : Lib.swapperK n siE 2 = 5 := by
  have a : siE.hasPointers = false := by kernel_rfl
  have b : siE.bytes = 8 := by kernel_rfl
  have c : (n == 0) = false := by simp; omega
  have d : (n == 1) = false := by simp; omega
  simp [Lib.swapperK, a, b, c, d]

theorem enter28 : ∀ (args : Array Value) (w : World), (callFunc 28 args).run Yba.prog w = .ok (.enter 28 args) w := fun args w => by kernel_rfl

theorem keeps_grow (w : World) (os : Array Obj) : Keeps (fun _ => False) w (grow w os) :=
  ⟨rfl, rfl, rfl, by simp, fun k hk _ => heap_grow_old w os hk⟩

/-- What the sort leaves. -/
structure Ordered (k : Nat) (S : Nat → List Nat) (O : Nat → Nat) : Prop where
  lt : ∀ j, j < k → O j < k
  all : ∀ a, a < k → ∃ j, j < k ∧ O j = a
  srt : ∀ i j, i ≤ j → j < k → slt (S (O j)) (S (O i)) = false

set_option maxHeartbeats 2000000 in
theorem sort_many (bq bp bb bo gp np pc gb k bc ao : Nat) (Ps : Nat → ByteArray) (Bt : Nat → Nat) (w : World) (h : PM w bp bb bo gp np pc gb k bc ao Ps Bt (fun i => i)) (hfz : ∀ i, i < k → w.frozen? ⟨ao, i, none⟩ = false)
    (hq : w.cell? ⟨bq, 0, none⟩ = some (.func (.func 26) #[] #[.pointer (some ⟨bp, 0, none⟩), .pointer (some ⟨bb, 0, none⟩), .pointer (some ⟨bo, 0, none⟩)])) (hk2 : 2 ≤ k) (hk3 : k ≤ 65536)
    (hne : ao ≠ bp ∧ ao ≠ bb ∧ ao ≠ bo ∧ ao ≠ bq ∧ ao ≠ gp ∧ ao ≠ gb) :
    Calls Yba.prog 27 #[.iface 27 (.slice (some ⟨ao, 0, none⟩) k k), .func (.func 28) #[] #[.pointer (some ⟨bq, 0, none⟩)]] w fun e w' =>
      e = .returned (.tuple #[]) ∧ ∃ O, Ordered k (fun a => bts (Ps (Bt a))) O ∧ Keeps (fun j => j = ao) w w' ∧ Arr w' ao k (fun j => .int .i64 (O j : Int)) := by
  haveI : Inhabited (Fin k) := ⟨⟨0, by omega⟩⟩
  obtain ⟨enc, henc⟩ : ∃ enc : Fin k → Value, enc = fun x => .int .i64 (x.val : Int) := ⟨_, rfl⟩
  obtain ⟨d, hd⟩ : ∃ d : Array (Fin k), d = Array.ofFn (fun x : Fin k => x) := ⟨_, rfl⟩
  have hds : d.size = k := by rw [hd]; simp
  have hdj : ∀ j (hj : j < k), d[j]! = ⟨j, hj⟩ := by
    intro j hj
    rw [hd, getElem!_pos _ _ (by simp; exact hj)]
    simp
  have hblk : ao < w.heap.size := World.block_lt_of_cell? w ⟨ao, 0, none⟩ (h.oc 0 (by omega))
  have hH : Holds enc w ao 0 d := by
    intro j hj
    rw [hds] at hj
    rw [hdj j hj, henc, Nat.zero_add]
    exact ⟨h.oc j hj, hfz j hj⟩
  obtain ⟨lt, hlt⟩ : ∃ lt : Fin k → Fin k → Bool, lt = fun x y => slt (bts (Ps (Bt x.val))) (bts (Ps (Bt y.val))) := ⟨_, rfl⟩
  have hO : SWO lt := by
    rw [hlt]
    exact ⟨fun x => slt_irrefl _, fun x y z => slt_trans _ _ _, fun x y z => slt_ntrans _ _ _⟩
  have hless : LessReads Yba.prog 28 #[.pointer (some ⟨bq, 0, none⟩)] enc lt ao 0 d.size w := by
    intro m os dk hs i j hi hj
    rw [hds] at hi hj hs
    have e : sortWorld enc w ao 0 m dk os = putRow enc (grow (Sort.ahead w m) os) ao 0 dk := by
      unfold sortWorld; rw [putRow_grow _ (Sort.ahead w m) _ ao 0 _ hblk]
    have hHg : Holds enc (grow (Sort.ahead w m) os) ao 0 d := holds_grow _ _ _ ao 0 d hblk (holds_ahead _ _ _ _ _ _ hH)
    have hoth : ∀ (a : Addr) (v : Value), a.block ≠ ao → w.cell? a = some v → (sortWorld enc w ao 0 m dk os).cell? a = some v := by
      intro a v ha hv
      rw [e, cell?_putRow_other _ _ ao 0 dk _ (Or.inl ha), cell?_grow (Sort.ahead w m) os a (World.block_lt_of_cell? w a hv)]
      exact hv
    have hrow : ∀ t, t < k → (sortWorld enc w ao 0 m dk os).cell? ⟨ao, t, none⟩ = some (.int .i64 ((dk[t]!).val : Int)) := by
      intro t ht
      have h3 := cell?_putRow enc (grow (Sort.ahead w m) os) ao 0 d dk hHg (by omega) t (by omega)
      rw [e]
      rw [henc] at h3 ⊢
      simpa using h3
    have hPM : PM (sortWorld enc w ao 0 m dk os) bp bb bo gp np pc gb k bc ao Ps Bt (fun t => (dk[t]!).val) :=
      ⟨fun h0 => hoth _ _ (by exact hne.1.symm) (h.p h0), fun h0 i hi => hoth _ _ (by exact hne.2.2.2.2.1.symm) (h.pc h0 i hi), fun h0 => hoth _ _ (by exact hne.2.1.symm) (h.b h0), fun i hi => hoth _ _ (by exact hne.2.2.2.2.2.symm) (h.bc i hi),
        hoth _ _ (by exact hne.2.2.1.symm) h.o, hrow, h.bl, fun i hi => (dk[i]!).isLt⟩
    have h4 := less_any bq bp bb bo gp np pc gb k bc ao Ps Bt (fun t => (dk[t]!).val) _ hPM (hoth _ _ (by exact hne.2.2.2.1.symm) hq) i j hi hj
    rw [hlt]
    exact h4
  have hS := Any.sort_Slice_sorted Yba.laysGg6 27 3 siT siE (by kernel_rfl) (by kernel_rfl) (by kernel_rfl) (by kernel_rfl) 2 (fun _ => by kernel_rfl) (by kernel_rfl) (fun _ => by kernel_rfl) enc (fun x => by rw [henc]; rfl) lt hO 28 _
    enter28 ao 0 k d (by omega) (by omega) 41 (by rw [siK _ (by omega)]; kernel_rfl) true
    (fun args W => run_callFunc_extern Yba.func41 (by kernel_rfl) (by kernel_rfl) (by kernel_rfl) (e := Extern.ReflectliteSwapper.swap true) (by kernel_rfl) args W) w hless hH hblk
  change Calls Yba.prog 27 _ _ _ at hS
  rw [hds] at hS
  refine hS.mono ?_
  rintro e w' ⟨rfl, d', m, os, hp, hso, rfl⟩
  have hd's : d'.size = k := by rw [hp.1, hds]
  refine ⟨rfl, fun j => (d'[j]!).val, ⟨fun j hj => (d'[j]!).isLt, fun a ha => ?_, fun i j hij hj => ?_⟩, ?_, fun j hj => ⟨?_, ?_⟩⟩
  · have hperm := hp.2.2
    have ex : ∀ (n : Nat) (D : Array (Fin k)), D.size = n → D.extract 0 n = D := by intro n D e; subst e; simp
    rw [ex _ d' hd's, ex _ d hds] at hperm
    have hm : (⟨a, ha⟩ : Fin k) ∈ d.toList := by rw [hd]; simp
    have hm' := hperm.mem_iff.2 hm
    obtain ⟨j, hj, e⟩ := List.getElem_of_mem hm'
    have hj' : j < d'.size := by simpa using hj
    refine ⟨j, by omega, ?_⟩
    rw [getElem!_pos d' j hj']
    have : d'[j] = ⟨a, ha⟩ := by simpa using e
    rw [this]
  · by_cases e : i = j
    · subst e; exact slt_irrefl _
    · have := hso i j (Nat.zero_le _) (by omega) hj
      rw [hlt] at this
      exact this
  · refine ⟨rfl, rfl, rfl, by simp, fun b hb hn => ?_⟩
    rw [heap_grow_old _ _ (by simpa using hb)]
    simp only [putRow, mapBlock, Array.getElem?_modify]
    rw [if_neg (fun e => hn e.symm)]
    rfl
  · have h3 := cell?_putRow enc (Sort.ahead w m) ao 0 d d' (holds_ahead _ _ _ _ _ _ hH) (by omega) j (by omega)
    rw [cell?_grow _ _ _ (by simpa using hblk)]
    rw [henc] at h3 ⊢
    simpa using h3
  · rw [frozen?_grow _ _ _ (by simpa using hblk)]
    simpa using hfz j hj

theorem sort_few (ao k : Nat) (h1 : k ≤ 1) (lf : Fn) (la lb : Array Value) (w : World) :
    Calls Yba.prog 27 #[.iface 27 (.slice (some ⟨ao, 0, none⟩) k k), .func lf la lb] w fun e w' => e = .returned (.tuple #[]) ∧ ∃ os, w' = grow w os := by
  have hK : Lib.swapperK k siE 2 = k + 1 := by
    rcases Nat.eq_zero_or_pos k with h | h
    · subst h; simp [Lib.swapperK]
    · obtain rfl : k = 1 := by omega
      simp [Lib.swapperK]
  have hS := Any.sort_Slice_tiny Yba.laysGg6 27 3 siT siE (by kernel_rfl) (by kernel_rfl) (by kernel_rfl) (by kernel_rfl) 2 (fun _ => by kernel_rfl) (some ⟨ao, 0, none⟩) k k h1 (37 + k) (by
    rw [hK]
    rcases Nat.eq_zero_or_pos k with h | h
    · subst h; kernel_rfl
    · obtain rfl : k = 1 := by omega
      kernel_rfl) lf la lb w
  exact hS

theorem sort_any (bq bp bb bo gp np pc gb k bc ao : Nat) (Ps : Nat → ByteArray) (Bt : Nat → Nat) (w : World) (h : PM w bp bb bo gp np pc gb k bc ao Ps Bt (fun i => i)) (hfz : ∀ i, i < k → w.frozen? ⟨ao, i, none⟩ = false)
    (hq : w.cell? ⟨bq, 0, none⟩ = some (.func (.func 26) #[] #[.pointer (some ⟨bp, 0, none⟩), .pointer (some ⟨bb, 0, none⟩), .pointer (some ⟨bo, 0, none⟩)])) (hk3 : k ≤ 65536)
    (hne : ao ≠ bp ∧ ao ≠ bb ∧ ao ≠ bo ∧ ao ≠ bq) (hne2 : 0 < k → ao ≠ gp ∧ ao ≠ gb) :
    Calls Yba.prog 27 #[.iface 27 (.slice (some ⟨ao, 0, none⟩) k k), .func (.func 28) #[] #[.pointer (some ⟨bq, 0, none⟩)]] w fun e w' =>
      e = .returned (.tuple #[]) ∧ ∃ O, Ordered k (fun a => bts (Ps (Bt a))) O ∧ Keeps (fun j => j = ao) w w' ∧ Arr w' ao k (fun j => .int .i64 (O j : Int)) := by
  by_cases hk2 : 2 ≤ k
  · exact sort_many bq bp bb bo gp np pc gb k bc ao Ps Bt w h hfz hq hk2 hk3 ⟨hne.1, hne.2.1, hne.2.2.1, hne.2.2.2, (hne2 (by omega)).1, (hne2 (by omega)).2⟩
  · refine (sort_few ao k (by omega) _ _ _ w).mono ?_
    rintro e w' ⟨rfl, os, rfl⟩
    refine ⟨rfl, fun j => j, ⟨fun j hj => hj, fun a ha => ⟨a, ha, rfl⟩, fun i j hij hj => ?_⟩, (keeps_grow w os).mono (fun _ _ h => h.elim), ?_⟩
    · obtain rfl : i = j := by omega
      exact slt_irrefl _
    · have ha : Arr w ao k (fun j => .int .i64 (j : Int)) := fun j hj => ⟨h.oc j hj, hfz j hj⟩
      exact ha.keep (keeps_grow w os) (fun h => h)
end Go.Proofs.Ybulkblzg
