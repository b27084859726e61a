/-
  THE WALK of FnIsOneOfSplitsOverConcatenation.
-/
import Derived.Test.Qxb6000578aStrWalks
namespace Go.Proofs.Qxb6000578a.St
open Go.RowKit

/-! ### the plain law -/
theorem memB_iff {f : ByteArray} {s : Nat → ByteArray} {n : Nat} : memB f s n = true ↔ ∃ j, j < n ∧ f = s j := by
  unfold memB
  rw [List.any_eq_true]
  constructor
  · rintro ⟨j, h1, h2⟩; exact ⟨j, by simpa using h1, by simpa using h2⟩
  · rintro ⟨j, h1, h2⟩; exact ⟨j, by simpa using h1, by simpa using h2⟩
theorem memB_list {f : ByteArray} {l : List ByteArray} : memB f (fun j => l.getD j ByteArray.empty) l.length = true ↔ f ∈ l := by
  rw [memB_iff]
  constructor
  · rintro ⟨j, h1, h2⟩
    rw [List.getD_eq_getElem?_getD, List.getElem?_eq_getElem h1] at h2
    simp at h2
    rw [h2]; exact List.getElem_mem h1
  · intro h
    obtain ⟨j, h1, h2⟩ := List.getElem_of_mem h
    exact ⟨j, h1, by rw [List.getD_eq_getElem?_getD, List.getElem?_eq_getElem h1]; simpa using h2.symm⟩
/-- the first k strings -/
def pre (s : Nat → ByteArray) (k : Nat) : List ByteArray := (List.range k).map s
theorem pre_len (s : Nat → ByteArray) (k : Nat) : (pre s k).length = k := by simp [pre]
theorem pre_succ (s : Nat → ByteArray) (k : Nat) : pre s (k + 1) = pre s k ++ [s k] := by simp [pre, List.range_succ]
theorem mem_pre {f : ByteArray} {s : Nat → ByteArray} {k : Nat} : f ∈ pre s k ↔ memB f s k = true := by
  rw [memB_iff]
  simp only [pre, List.mem_map, List.mem_range]
  constructor
  · rintro ⟨j, h1, h2⟩; exact ⟨j, h1, h2.symm⟩
  · rintro ⟨j, h1, h2⟩; exact ⟨j, h1, h2.symm⟩
theorem joined_law (f : ByteArray) (sa sb : Nat → ByteArray) (na nb : Nat) : memB f (fun j => (pre sa na ++ pre sb nb).getD j ByteArray.empty) (na + nb) = (memB f sa na || memB f sb nb) := by
  have h := memB_list (f := f) (l := pre sa na ++ pre sb nb)
  rw [List.length_append, pre_len, pre_len, List.mem_append, mem_pre, mem_pre] at h
  rw [Bool.eq_iff_iff, h]
  simp
theorem withF_law (f : ByteArray) (sa : Nat → ByteArray) (na : Nat) : memB f (fun j => (pre sa na ++ [f]).getD j ByteArray.empty) (na + 1) = true := by
  have h := memB_list (f := f) (l := pre sa na ++ [f])
  rw [List.length_append, pre_len] at h
  exact h.2 (by simp)

/-! ### zzBytes -/
set_option maxHeartbeats 1600000 in
set_option maxRecDepth 100000 in
theorem b17_yes (f : ByteArray) (a b : Option Addr) (na ca nb cb : Nat) (sa sb : Nat → ByteArray) (w : World) (hA : Sees w a na sa w.heap.size) (hB : Sees w b nb sb w.heap.size)
    (hT : f.size + na + tot sa na + nb + tot sb nb ≤ 1048576) :
    Calls Try.prog 17 #[.string f, .slice a na ca, .slice b nb cb] w fun e w' => e = .returned (.bool true) ∧ w = w' := by
  have HA := hide hA
  have HB := hide hB
  clear hA hB
  go_enter Try.func17, Try.ntmps17
  go_wp2
  go_loop [7, 8] (fun t i => ∃ k : Nat, k ≤ na ∧ i = .int .i64 k ∧ t = .int .i64 ((f.size + na + tot sa k : Nat) : Int)) (fun _ i => na - (intOf i).toNat)
  case atStart => exact ⟨0, Nat.zero_le _, rfl, by rw [tot_zero]; go_num⟩
  case round =>
    obtain ⟨k, hk, rfl, rfl⟩ := hrel
    have hm := tot_mono sa hk
    by_cases hkn : k < na
    · obtain ⟨b, off, rfl, hb, hc⟩ := HA.out (by omega)
      have hck := hc k hkn
      have hm2 := tot_mono sa (show k + 1 ≤ na by omega)
      have HT := hide (tot_succ sa k)
      rw [tot_succ] at hm2
      clear hc
      go_wp2
      go_round
      case rel => exact ⟨k + 1, by omega, by go_num, by rw [HT.out]; go_num⟩
      case measure => simp [intOf]; omega
    · obtain rfl : k = na := by omega
      go_wp2
      go_loop [7, 9] (fun t i => ∃ j : Nat, j ≤ nb ∧ i = .int .i64 j ∧ t = .int .i64 ((f.size + k + tot sa k + nb + tot sb j : Nat) : Int)) (fun _ i => nb - (intOf i).toNat)
      case atStart => exact ⟨0, Nat.zero_le _, rfl, by rw [tot_zero]; go_num⟩
      case round =>
        obtain ⟨j, hj, rfl, rfl⟩ := hrel
        have hm := tot_mono sb hj
        by_cases hjn : j < nb
        · obtain ⟨b, off, rfl, hb, hc⟩ := HB.out (by omega)
          have hck := hc j hjn
          have hm2 := tot_mono sb (show j + 1 ≤ nb by omega)
          have HT := hide (tot_succ sb j)
          rw [tot_succ] at hm2
          clear hc
          go_wp2
          go_round
          case rel => exact ⟨j + 1, by omega, by go_num, by rw [HT.out]; go_num⟩
          case measure => simp [intOf]; omega
        · go_wp2
          go_ret
          exact ⟨rfl, rfl⟩

set_option maxHeartbeats 1600000 in
set_option maxRecDepth 100000 in
theorem b17_no (f : ByteArray) (a b : Option Addr) (na ca nb cb : Nat) (sa sb : Nat → ByteArray) (w : World) (hA : Sees w a na sa w.heap.size) (hB : Sees w b nb sb w.heap.size)
    (hf : f.size ≤ maxLen) (hna : na ≤ maxLen) (hnb : nb ≤ maxLen) (hsa : ∀ j, j < na → (sa j).size ≤ maxLen) (hsb : ∀ j, j < nb → (sb j).size ≤ maxLen)
    (hT : ¬ f.size + na + tot sa na + nb + tot sb nb ≤ 1048576) :
    Calls Try.prog 17 #[.string f, .slice a na ca, .slice b nb cb] w fun e w' => e = .returned (.bool false) ∧ w = w' := by
  have HA := hide hA
  have HB := hide hB
  have HSA := hide hsa
  have HSB := hide hsb
  unfold maxLen at hf hna hnb
  clear hA hB hsa hsb
  by_cases t1 : 1048576 < f.size
  · go_enter Try.func17, Try.ntmps17
    go_wp2
    go_ret
    exact ⟨rfl, rfl⟩
  by_cases t2 : 1048576 < na
  · go_enter Try.func17, Try.ntmps17
    go_wp2
    go_ret
    exact ⟨rfl, rfl⟩
  by_cases t3 : 1048576 < f.size + na
  · go_enter Try.func17, Try.ntmps17
    go_wp2
    go_ret
    exact ⟨rfl, rfl⟩
  go_enter Try.func17, Try.ntmps17
  go_wp2
  go_loop [7, 8] (fun t i => ∃ k : Nat, k ≤ na ∧ i = .int .i64 k ∧ f.size + na + tot sa k ≤ 1048576 ∧ t = .int .i64 ((f.size + na + tot sa k : Nat) : Int)) (fun _ i => na - (intOf i).toNat)
  case atStart => exact ⟨0, Nat.zero_le _, rfl, by rw [tot_zero]; omega, by rw [tot_zero]; go_num⟩
  case round =>
    obtain ⟨k, hk, rfl, hle, rfl⟩ := hrel
    by_cases hkn : k < na
    · obtain ⟨b, off, rfl, hb, hc⟩ := HA.out (by omega)
      have hck := hc k hkn
      have hsz := HSA.out k hkn
      unfold maxLen at hsz
      have HT := hide (tot_succ sa k)
      clear hc
      by_cases t4 : 1048576 < (sa k).size
      · go_wp2
        go_ret
        exact ⟨rfl, rfl⟩
      by_cases t5 : 1048576 < f.size + na + tot sa k + (sa k).size
      · go_wp2
        go_ret
        exact ⟨rfl, rfl⟩
      go_wp2
      go_round
      case rel => exact ⟨k + 1, by omega, by go_num, by rw [HT.out]; omega, by rw [HT.out]; go_num⟩
      case measure => simp [intOf]; omega
    · obtain rfl : k = na := by omega
      by_cases t6 : 1048576 < nb
      · go_wp2
        go_ret
        exact ⟨rfl, rfl⟩
      by_cases t7 : 1048576 < f.size + k + tot sa k + nb
      · go_wp2
        go_ret
        exact ⟨rfl, rfl⟩
      go_wp2
      go_loop [7, 9] (fun t i => ∃ j : Nat, j ≤ nb ∧ i = .int .i64 j ∧ f.size + k + tot sa k + nb + tot sb j ≤ 1048576 ∧ t = .int .i64 ((f.size + k + tot sa k + nb + tot sb j : Nat) : Int)) (fun _ i => nb - (intOf i).toNat)
      case atStart => exact ⟨0, Nat.zero_le _, rfl, by rw [tot_zero]; omega, by rw [tot_zero]; go_num⟩
      case round =>
        obtain ⟨j, hj, rfl, hle2, rfl⟩ := hrel
        by_cases hjn : j < nb
        · obtain ⟨b, off, rfl, hb, hc⟩ := HB.out (by omega)
          have hck := hc j hjn
          have hsz := HSB.out j hjn
          unfold maxLen at hsz
          have HT := hide (tot_succ sb j)
          clear hc
          by_cases t4 : 1048576 < (sb j).size
          · go_wp2
            go_ret
            exact ⟨rfl, rfl⟩
          by_cases t5 : 1048576 < f.size + k + tot sa k + nb + tot sb j + (sb j).size
          · go_wp2
            go_ret
            exact ⟨rfl, rfl⟩
          go_wp2
          go_round
          case rel => exact ⟨j + 1, by omega, by go_num, by rw [HT.out]; omega, by rw [HT.out]; go_num⟩
          case measure => simp [intOf]; omega
        · obtain rfl : j = nb := by omega
          exfalso
          omega

/-! ### the law -/
/-- what an append of one string does to the relation -/
theorem rel_app {B n : Nat} {w wr w1 : World} {v v' : Value} {l l' : List ByteArray} {t : ByteArray} {o : Obj} (hown : wr.ownsRow B 32 1 v n (svals l)) (hb : Below B w wr) (hB : B ≤ wr.heap.size)
    (hown' : w1.ownsRow B 32 1 v' (n + 1) (svals l ++ [Value.string t])) (hgrow : (wr.alloc o).grownBy w1 v.ownBlock) (hl : l' = l ++ [t]) :
    w1.ownsRow B 32 1 v' (n + 1) (svals l') ∧ Below B w w1 := by
  subst hl
  refine ⟨by rw [svals_snoc]; exact hown', ?_⟩
  exact (hb.alloc hB o).grown hgrow (by simp; omega) (fun k hk => (hown.lt k hk).1)

theorem law_no (f : ByteArray) (a b : Option Addr) (na ca nb cb : Nat) (sa sb : Nat → ByteArray) (w : World) (hA : Sees w a na sa w.heap.size) (hB : Sees w b nb sb w.heap.size)
    (hf : f.size ≤ maxLen) (hna : na ≤ maxLen) (hnb : nb ≤ maxLen) (hsa : ∀ j, j < na → (sa j).size ≤ maxLen) (hsb : ∀ j, j < nb → (sb j).size ≤ maxLen)
    (hT : ¬ f.size + na + tot sa na + nb + tot sb nb ≤ 1048576) :
    Calls Try.prog 6 #[.string f, .slice a na ca, .slice b nb cb] w fun e w' => e = .returned (.bool true) ∧ Below w.heap.size w w' := by
  have C := hide (b17_no f a b na ca nb cb sa sb w hA hB hf hna hnb hsa hsb hT)
  clear hA hB hsa hsb
  go_enter Try.func6, Try.ntmps6
  go_wp2_with fail
  refine C.out.mono ?_
  rintro e w' ⟨rfl, rfl⟩
  go_wp2
  go_ret
  exact ⟨rfl, Below.refl _ _⟩

set_option maxHeartbeats 1600000 in
set_option maxRecDepth 100000 in
theorem law_yes (f : ByteArray) (a b : Option Addr) (na ca nb cb : Nat) (sa sb : Nat → ByteArray) (w : World) (hA : Sees w a na sa w.heap.size) (hB : Sees w b nb sb w.heap.size)
    (ha0 : a = none → na = 0 ∧ ca = 0) (hb0 : b = none → nb = 0 ∧ cb = 0)
    (hT : f.size + na + tot sa na + nb + tot sb nb ≤ 1048576) :
    Calls Try.prog 6 #[.string f, .slice a na ca, .slice b nb cb] w fun e w' => e = .returned (.bool true) ∧ Below w.heap.size w w' := by
  have C := hide (b17_yes f a b na ca nb cb sa sb w hA hB hT)
  by_cases t1 : 65536 < na
  · clear hA hB ha0 hb0
    go_enter Try.func6, Try.ntmps6
    go_wp2_with fail
    refine C.out.mono ?_
    rintro e w' ⟨rfl, rfl⟩
    go_wp2
    go_ret
    exact ⟨rfl, Below.refl _ _⟩
  by_cases t2 : 65536 < nb
  · clear hA hB ha0 hb0
    go_enter Try.func6, Try.ntmps6
    go_wp2_with fail
    refine C.out.mono ?_
    rintro e w' ⟨rfl, rfl⟩
    go_wp2
    go_ret
    exact ⟨rfl, Below.refl _ _⟩
  have C1 := hide (sb_any a na ca sa w hA (by omega) (by omega))
  have C2 := hide (sb_any b nb cb sb w hB (by omega) (by omega))
  by_cases t3 : 1048576 < f.size + (16 * na + tot sa na) + (16 * nb + tot sb nb)
  · clear hA hB ha0 hb0
    go_enter Try.func6, Try.ntmps6
    go_wp2_with fail
    refine C.out.mono ?_
    rintro e w' ⟨rfl, rfl⟩
    go_wp2_with fail
    refine C1.out.mono ?_
    rintro e w' ⟨rfl, rfl⟩
    go_wp2_with fail
    refine C2.out.mono ?_
    rintro e w' ⟨rfl, rfl⟩
    go_wp2
    go_ret
    exact ⟨rfl, Below.refl _ _⟩
  obtain ⟨i0, hi, hz0, hz1, hz2⟩ := info_parts info32
  have CA := hide (tf_any a na ca sa w hA ha0 (by omega))
  have HB := hide hB
  have HB0 := hide hb0
  clear hA hB ha0 hb0
  go_enter Try.func6, Try.ntmps6
  go_wp2_with fail
  refine C.out.mono ?_
  rintro e w' ⟨rfl, rfl⟩
  go_wp2_with fail
  refine C1.out.mono ?_
  rintro e w' ⟨rfl, rfl⟩
  go_wp2_with fail
  refine C2.out.mono ?_
  rintro e w' ⟨rfl, rfl⟩
  go_wp2_with fail
  refine CA.out.mono ?_
  rintro e w1 ⟨a1, c1, rfl, hA1, hb1⟩
  have HA1 := hide hA1
  have CB := hide (tf_any b nb cb sb w1 (HB.out.below hb1 hb1.size) HB0.out (by omega))
  clear hA1
  go_wp2_with fail
  refine CB.out.mono ?_
  rintro e w2 ⟨b2, c2, rfl, hB2, hb2⟩
  have HA2 := hide (HA1.out.below hb2 hb2.size)
  have HB2 := hide hB2
  have hbw : Below w.heap.size w w2 := hb1.trans (hb2.mono hb1.size)
  clear hB2 hb1 hb2 HA1 HB HB0 C C1 C2 CA CB
  go_wp2_with (at_make; refine wpList_make_own _ rfl _ _ 33 rfl w2.heap.size 32 i0 (.string ByteArray.empty) 1 Try.underlying33 hi hz0 hz1 _ _ _ (na + nb) rfl rfl (by omega) (by rw [hz2]; omega) (by unfold maxLen; omega) (Nat.le_refl _) ?_)
  intro w3 hown3 hgrow3
  have hb3 : Below w2.heap.size w2 w3 := (Below.refl _ _).grown hgrow3 (Nat.le_refl _) (fun k hk => by cases hk)
  clear hgrow3
  go_wp2
  go_loopw [10, 11] (fun v i wr => ∃ k : Nat, k ≤ na ∧ i = .int .i64 k ∧ wr.ownsRow w2.heap.size 32 1 v k (svals (pre sa k)) ∧ Below w2.heap.size w2 wr) (fun _ i _ => na - (intOf i).toNat)
  case atStart => exact ⟨0, Nat.zero_le _, rfl, hown3, hb3⟩
  case round =>
    clear hown3 hb3
    obtain ⟨k, hk, rfl, hown, hb⟩ := hrel
    have hsz := hb.size
    by_cases hkn : k < na
    · obtain ⟨bb, off, rfl, hbb, hc⟩ := (HA2.out.below hb hb.size) (by omega)
      have hck := hc k hkn
      clear hc
      go_wp2_with (at_builtin; refine wpList_append_own _ rfl _ _ 33 rfl w2.heap.size 32 i0 (.string ByteArray.empty) 1 16 Try.underlying33 hi hz0 hz1 hz2 rfl (by decide) _ _ _ rfl (hown.alloc _) ⟨wr.heap.size, 0, none⟩ 1 1 [.string (sa k)] rfl rfl (cell_one_new _ _ _) (by intro u hu; simp at hu; subst hu; rfl) (by unfold maxLen; omega) (by omega) (by simp; omega) ?_)
      intro v' w4 hown' hgrow _
      have R := hide (rel_app hown hb hsz hown' hgrow (pre_succ sa k))
      clear hown' hgrow hown
      go_wp2
      go_roundw
      case rel => exact ⟨k + 1, by omega, by go_num, R.out.1, R.out.2⟩
      case measure => simp [intOf]; omega
    · obtain rfl : k = na := by omega
      rename World => wa
      have hown1 : wa.ownsRow w2.heap.size 32 1 u10 (k + 0) (svals (pre sa k ++ pre sb 0)) := by simpa [pre] using hown
      clear hown
      go_wp2
      go_loopw [10, 12] (fun v i wr => ∃ j : Nat, j ≤ nb ∧ i = .int .i64 j ∧ wr.ownsRow w2.heap.size 32 1 v (k + j) (svals (pre sa k ++ pre sb j)) ∧ Below w2.heap.size w2 wr) (fun _ i _ => nb - (intOf i).toNat)
      case atStart => exact ⟨0, Nat.zero_le _, rfl, hown1, hb⟩
      case round =>
        clear hown1 hb hsz
        obtain ⟨j, hj, rfl, hown, hb⟩ := hrel
        have hsz := hb.size
        by_cases hjn : j < nb
        · obtain ⟨bb, off, rfl, hbb, hc⟩ := (HB2.out.below hb hb.size) (by omega)
          have hck := hc j hjn
          clear hc
          go_wp2_with (at_builtin; refine wpList_append_own _ rfl _ _ 33 rfl w2.heap.size 32 i0 (.string ByteArray.empty) 1 16 Try.underlying33 hi hz0 hz1 hz2 rfl (by decide) _ _ _ rfl (hown.alloc _) ⟨wr.heap.size, 0, none⟩ 1 1 [.string (sb j)] rfl rfl (cell_one_new _ _ _) (by intro u hu; simp at hu; subst hu; rfl) (by unfold maxLen; omega) (by omega) (by simp; omega) ?_)
          intro v' w4 hown' hgrow _
          have R := hide (rel_app hown hb hsz hown' hgrow (show pre sa k ++ pre sb (j + 1) = _ by rw [pre_succ, List.append_assoc]))
          clear hown' hgrow hown
          go_wp2
          go_roundw
          case rel => exact ⟨j + 1, by omega, by go_num, R.out.1, R.out.2⟩
          case measure => simp [intOf]; omega
        · obtain rfl : j = nb := by omega
          rename World => wb
          obtain ⟨aj, cj, hvj, hSj⟩ := own_sees (by rw [List.length_append, pre_len, pre_len]) hown
          have HJ := hide (joined_law f sa sb k j)
          generalize (fun i => (pre sa k ++ pre sb j).getD i ByteArray.empty) = sj at *
          have HSJ := hide hSj
          have HA3 := hide (HA2.out.below hb hb.size)
          have HB3 := hide (HB2.out.below hb hb.size)
          have hbw3 : Below w.heap.size w wb := hbw.trans (hb.mono hbw.size)
          clear hSj hown hb hsz HA2 HB2 hbw
          subst hvj
          go_wp2_with (at_make; refine wpList_make_own _ rfl _ _ 33 rfl wb.heap.size 32 i0 (.string ByteArray.empty) 1 Try.underlying33 hi hz0 hz1 _ _ _ (k + 1) rfl rfl (by omega) (by rw [hz2]; omega) (by unfold maxLen; omega) (Nat.le_refl _) ?_)
          intro w5 hown5 hgrow5
          have hb5 : Below wb.heap.size wb w5 := (Below.refl _ _).grown hgrow5 (Nat.le_refl _) (fun k hk => by cases hk)
          clear hgrow5
          go_wp2
          go_loopw [13, 14] (fun v i wr => ∃ m : Nat, m ≤ k ∧ i = .int .i64 m ∧ wr.ownsRow wb.heap.size 32 1 v m (svals (pre sa m)) ∧ Below wb.heap.size wb wr) (fun _ i _ => k - (intOf i).toNat)
          case atStart => exact ⟨0, Nat.zero_le _, rfl, hown5, hb5⟩
          case round =>
            clear hown5 hb5
            obtain ⟨m, hm, rfl, hown, hb⟩ := hrel
            have hsz := hb.size
            by_cases hmk : m < k
            · obtain ⟨bb, off, rfl, hbb, hc⟩ := (HA3.out.below hb hb.size) (by omega)
              have hck := hc m hmk
              clear hc
              go_wp2_with (at_builtin; refine wpList_append_own _ rfl _ _ 33 rfl wb.heap.size 32 i0 (.string ByteArray.empty) 1 16 Try.underlying33 hi hz0 hz1 hz2 rfl (by decide) _ _ _ rfl (hown.alloc _) ⟨wr.heap.size, 0, none⟩ 1 1 [.string (sa m)] rfl rfl (cell_one_new _ _ _) (by intro u hu; simp at hu; subst hu; rfl) (by unfold maxLen; omega) (by omega) (by simp; omega) ?_)
              intro v' w4 hown' hgrow _
              have R := hide (rel_app hown hb hsz hown' hgrow (pre_succ sa m))
              clear hown' hgrow hown
              go_wp2
              go_roundw
              case rel => exact ⟨m + 1, by omega, by go_num, R.out.1, R.out.2⟩
              case measure => simp [intOf]; omega
            · obtain rfl : m = k := by omega
              go_wp2_with (at_builtin; refine wpList_append_own _ rfl _ _ 33 rfl wb.heap.size 32 i0 (.string ByteArray.empty) 1 16 Try.underlying33 hi hz0 hz1 hz2 rfl (by decide) _ _ _ rfl (hown.alloc _) ⟨wr.heap.size, 0, none⟩ 1 1 [.string f] rfl rfl (cell_one_new _ _ _) (by intro u hu; simp at hu; subst hu; rfl) (by unfold maxLen; omega) (by omega) (by simp; omega) ?_)
              intro v' w6 hown' hgrow _
              have R := rel_app hown hb hsz hown' hgrow rfl
              clear hown' hgrow hown
              obtain ⟨aw, cw, hvw, hSw⟩ := own_sees (by rw [List.length_append, pre_len]; rfl) R.1
              have hmw := withF_law f sa m
              generalize (fun i => (pre sa m ++ [f]).getD i ByteArray.empty) = sw at *
              have C1 := hide (zone_any f aw (m + 1) cw sw w6 hSw (by omega))
              have C2 := hide (zone_any f aj (m + j) cj sj w6 (HSJ.out.below R.2 R.2.size) (by omega))
              have C3 := hide (zone_any f a1 m c1 sa w6 (HA3.out.below R.2 R.2.size) (by omega))
              have C4 := hide (zone_any f b2 j c2 sb w6 (HB3.out.below R.2 R.2.size) (by omega))
              have hfin : Below w.heap.size w w6 := hbw3.trans (R.2.mono hbw3.size)
              clear R hSw HSJ HA3 HB3 hb hsz hbw3
              subst hvw
              have hmj := HJ.out
              clear HJ
              go_wp2_with fail
              refine C1.out.mono ?_
              rintro e w' ⟨rfl, rfl⟩
              go_wp2_with fail
              refine C2.out.mono ?_
              rintro e w' ⟨rfl, rfl⟩
              go_wp2_with fail
              refine C3.out.mono ?_
              rintro e w' ⟨rfl, rfl⟩
              cases hma : memB f sa m
              · rw [hma] at hmj
                go_wp2_with fail
                refine C4.out.mono ?_
                rintro e w' ⟨rfl, rfl⟩
                go_wp2
                go_ret
                exact ⟨rfl, hfin⟩
              · rw [hma] at hmj
                go_wp2
                go_ret
                exact ⟨rfl, hfin⟩

end Go.Proofs.Qxb6000578a.St
