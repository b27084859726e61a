/-
  THE WALK of FnAlternativesLength.
-/
import Derived.Test.Qxb6000578aAlt
namespace Go.Proofs.Qxb6000578a.St
open Go.RowKit

theorem len_no (a : Option Addr) (n cap : Nat) (s : Nat → ByteArray) (w : World) (hs : Sees w a n s w.heap.size) (hn : n ≤ maxLen) (hz : ∀ j, j < n → (s j).size ≤ maxLen) (hT : ¬ n + tot s n ≤ 1048576) :
    Calls Try.prog 8 #[.slice a n cap] w fun e w' => e = .returned (.bool true) ∧ Below w.heap.size w w' := by
  have C := hide (b22_no a n cap s w hs hn hz hT)
  clear hs hz
  go_enter Try.func8, Try.ntmps8
  go_wp2_with fail
  refine C.out.mono ?_
  rintro e w' ⟨rfl, rfl⟩
  go_wp2
  go_ret
  exact ⟨rfl, Below.refl _ _⟩

set_option maxHeartbeats 1600000 in
set_option maxRecDepth 100000 in
theorem len_yes (a : Option Addr) (n cap : Nat) (s : Nat → ByteArray) (w : World) (hs : Sees w a n s w.heap.size) (h0 : a = none → n = 0 ∧ cap = 0) (hT : n + tot s n ≤ 1048576) :
    Calls Try.prog 8 #[.slice a n cap] w fun e w' => e = .returned (.bool true) ∧ Below w.heap.size w w' := by
  have C := hide (b22_yes a n cap s w hs hT)
  by_cases t1 : 1024 < n
  · clear hs h0
    go_enter Try.func8, Try.ntmps8
    go_wp2_with fail
    refine C.out.mono ?_
    rintro e w' ⟨rfl, rfl⟩
    go_wp2
    go_ret
    exact ⟨rfl, Below.refl _ _⟩
  have C1 := hide (sb_any a n cap s w hs (by omega) (by omega))
  by_cases t3 : 65536 < 16 * n + tot s n
  · clear hs h0
    go_enter Try.func8, Try.ntmps8
    go_wp2_with fail
    refine C.out.mono ?_
    rintro e w' ⟨rfl, rfl⟩
    go_wp2_with fail
    refine C1.out.mono ?_
    rintro e w' ⟨rfl, rfl⟩
    go_wp2
    go_ret
    exact ⟨rfl, Below.refl _ _⟩
  have CA := hide (tf_any a n cap s w hs h0 (by omega))
  clear hs h0
  go_enter Try.func8, Try.ntmps8
  go_wp2_with fail
  refine C.out.mono ?_
  rintro e w' ⟨rfl, rfl⟩
  go_wp2_with fail
  refine C1.out.mono ?_
  rintro e w' ⟨rfl, rfl⟩
  go_wp2_with fail
  refine CA.out.mono ?_
  rintro e w1 ⟨a1, c1, rfl, hA1, hb1⟩
  have HA1 := hide hA1
  have CB := hide (zalt_any a1 n c1 s w1 hA1 (by omega) (by omega))
  clear hA1
  go_wp2_with fail
  refine CB.out.mono ?_
  rintro e w' ⟨rfl, rfl⟩
  clear C C1 CA CB
  go_wp2
  go_loop [5, 6] (fun t i => ∃ k : Nat, k ≤ n ∧ i = .int .i64 k ∧ t = .int .i64 (tot s k : Nat)) (fun _ i => n - (intOf i).toNat)
  case atStart => exact ⟨0, Nat.zero_le _, rfl, rfl⟩
  case round =>
    obtain ⟨k, hk, rfl, rfl⟩ := hrel
    have hm := tot_mono s hk
    by_cases hkn : k < n
    · obtain ⟨b, off, rfl, hb, hc⟩ := HA1.out (by omega)
      have hck := hc k hkn
      have hm2 := tot_mono s (show k + 1 ≤ n by omega)
      have HT := hide (tot_succ s k)
      rw [tot_succ] at hm2
      clear hc
      go_wp2
      go_round
      case rel => exact ⟨k + 1, by omega, by go_num, by rw [HT.out]; go_num⟩
      case measure => simp [intOf]; omega
    · obtain rfl : k = n := by omega
      by_cases h2 : 2 ≤ k
      · have hfin : (((altB s k k).size : Int) == (tot s k : Int) + 2 * (k : Int)) = true := by
          rw [beq_iff_eq]
          have h := alt_size s k k (Nat.le_refl _)
          rw [if_neg (by omega), if_pos rfl] at h
          omega
        go_wp2
        go_ret
        exact ⟨rfl, hb1⟩
      · have hfin : (((altB s k k).size : Int) == (tot s k : Int)) = true := by
          rw [beq_iff_eq]
          have h := alt_size s k k (Nat.le_refl _)
          rw [if_pos (by omega)] at h
          omega
        go_wp2
        go_ret
        exact ⟨rfl, hb1⟩

end Go.Proofs.Qxb6000578a.St
