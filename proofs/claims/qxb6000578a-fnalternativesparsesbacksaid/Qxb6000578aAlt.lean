/-
  THE WALKS of 'alternatives', 'zzBytes' over one list; the law FnAlternativesLength.
-/
import Derived.Test.Qxb6000578aStrWalks
namespace Go.Proofs.Qxb6000578a.St
open Go.RowKit

/-- what 'alternatives' has written after k fates of n -/
def altB (s : Nat → ByteArray) (n : Nat) : Nat → ByteArray
  | 0 => ⟨#[]⟩
  | k + 1 => (if k = 0 then altB s n k else if k + 1 = n then altB s n k ++ ⟨#[32, 111, 114, 32]⟩ else altB s n k ++ ⟨#[44, 32]⟩) ++ s k

theorem alt_first (s : Nat → ByteArray) (n k : Nat) (h : k = 0) : altB s n (k + 1) = altB s n k ++ s k := by rw [altB, if_pos h]
theorem alt_last (s : Nat → ByteArray) (n k : Nat) (h : 0 < k) (e : k + 1 = n) : altB s n (k + 1) = altB s n k ++ ⟨#[32, 111, 114, 32]⟩ ++ s k := by rw [altB, if_neg (by omega), if_pos e]
theorem alt_mid (s : Nat → ByteArray) (n k : Nat) (h : 0 < k) (e : ¬ k + 1 = n) : altB s n (k + 1) = altB s n k ++ ⟨#[44, 32]⟩ ++ s k := by rw [altB, if_neg (by omega), if_neg e]

/-- its length -/
theorem alt_size (s : Nat → ByteArray) (n : Nat) : ∀ k, k ≤ n → (altB s n k).size = tot s k + (if k ≤ 1 then 0 else if k = n then 2 * n else 2 * (k - 1))
  | 0, _ => rfl
  | 1, _ => by
    have e0 : (altB s n 0).size = 0 := rfl
    rw [alt_first s n 0 rfl, ByteArray.size_append, tot_succ, tot_zero, e0]
    simp
  | k + 2, h => by
    have ih := alt_size s n (k + 1) (by omega)
    by_cases e : k + 1 + 1 = n
    · have e4 : (⟨#[32, 111, 114, 32]⟩ : ByteArray).size = 4 := rfl
      rw [alt_last s n (k + 1) (by omega) e, ByteArray.size_append, ByteArray.size_append, ih, tot_succ s (k + 1), e4]
      (repeat' split) <;> omega
    · have e2 : (⟨#[44, 32]⟩ : ByteArray).size = 2 := rfl
      rw [alt_mid s n (k + 1) (by omega) e, ByteArray.size_append, ByteArray.size_append, ih, tot_succ s (k + 1), e2]
      (repeat' split) <;> omega

theorem alt_bound (s : Nat → ByteArray) (n k : Nat) (h : k ≤ n) : (altB s n k).size ≤ tot s k + 2 * n := by
  rw [alt_size s n k h]
  split
  · omega
  · split <;> omega

set_option maxHeartbeats 400000 in
theorem alt_any (a : Option Addr) (n cap : Nat) (s : Nat → ByteArray) (w : World) (hs : Sees w a n s w.heap.size) (hn : n ≤ 1048576) (ht : tot s n ≤ 1048576) :
    Calls Try.prog 28 #[.slice a n cap] w fun e w' => e = .returned (.string (altB s n n)) ∧ w = w' := by
  have HS := hide hs
  clear hs
  go_enter Try.func28, Try.ntmps28
  go_wp2
  go_loop [3, 8] (fun t i => ∃ k : Nat, k ≤ n ∧ i = .int .i64 k ∧ t = .string (altB s n k)) (fun _ i => n - (intOf i).toNat)
  case atStart => exact ⟨0, Nat.zero_le _, rfl, rfl⟩
  case round =>
    obtain ⟨k, hk, rfl, rfl⟩ := hrel
    have hbd := alt_bound s n k hk
    have hm := tot_mono s hk
    by_cases hkn : k < n
    · obtain ⟨b, off, rfl, hb, hc⟩ := HS.out (by omega)
      have hck := hc k hkn
      have hm2 := tot_mono s (show k + 1 ≤ n by omega)
      rw [tot_succ] at hm2
      clear hc
      by_cases h0 : k = 0
      · have h0b : ((k : Int) == 0) = true := by rw [beq_iff_eq]; omega
        have HF := hide (alt_first s n k h0)
        clear h0
        go_wp2
        go_round
        case rel => exact ⟨k + 1, by omega, by go_num, by rw [HF.out]⟩
        case measure => simp [intOf]; omega
      · have h0b : ((k : Int) == 0) = false := by rw [beq_eq_false_iff_ne]; omega
        by_cases hl : k + 1 = n
        · have hlb : ((k : Int) == (n : Int) - 1) = true := by rw [beq_iff_eq]; omega
          have HF := hide (alt_last s n k (by omega) hl)
          have HL := hide hl
          clear hl
          go_wp2
          go_round
          case rel => exact ⟨k + 1, by omega, by go_num, by rw [HF.out]⟩
          case measure => simp [intOf]; omega
        · have hlb : ((k : Int) == (n : Int) - 1) = false := by rw [beq_eq_false_iff_ne]; omega
          have HF := hide (alt_mid s n k (by omega) hl)
          go_wp2
          go_round
          case rel => exact ⟨k + 1, by omega, by go_num, by rw [HF.out]⟩
          case measure => simp [intOf]; omega
    · obtain rfl : k = n := by omega
      go_wp2
      go_ret
      exact ⟨rfl, rfl⟩

set_option maxHeartbeats 400000 in
theorem zalt_any (a : Option Addr) (n cap : Nat) (s : Nat → ByteArray) (w : World) (hs : Sees w a n s w.heap.size) (hn : n ≤ 1048576) (ht : tot s n ≤ 1048576) :
    Calls Try.prog 23 #[.slice a n cap] w fun e w' => e = .returned (.string (altB s n n)) ∧ w = w' := by
  have C := hide (alt_any a n cap s w hs hn ht)
  clear hs
  go_enter Try.func23, Try.ntmps23
  go_wp2_with fail
  refine C.out.mono ?_
  rintro e w' ⟨rfl, rfl⟩
  go_wp2
  go_ret
  exact ⟨rfl, rfl⟩

set_option maxHeartbeats 1600000 in
theorem b22_yes (a : Option Addr) (n cap : Nat) (s : Nat → ByteArray) (w : World) (hs : Sees w a n s w.heap.size) (hT : n + tot s n ≤ 1048576) :
    Calls Try.prog 22 #[.slice a n cap] w fun e w' => e = .returned (.bool true) ∧ w = w' := by
  have HS := hide hs
  clear hs
  go_enter Try.func22, Try.ntmps22
  go_wp2
  go_loop [3, 4] (fun t i => ∃ k : Nat, k ≤ n ∧ i = .int .i64 k ∧ t = .int .i64 ((n + tot s k : Nat) : Int)) (fun _ i => n - (intOf i).toNat)
  case atStart => exact ⟨0, Nat.zero_le _, rfl, by rw [tot_zero]; go_num⟩
  case round =>
    obtain ⟨k, hk, rfl, rfl⟩ := hrel
    have hm := tot_mono s hk
    by_cases hkn : k < n
    · obtain ⟨b, off, rfl, hb, hc⟩ := HS.out (by omega)
      have hck := hc k hkn
      have hm2 := tot_mono s (show k + 1 ≤ n by omega)
      have HT := hide (tot_succ s k)
      rw [tot_succ] at hm2
      clear hc
      go_wp2
      go_round
      case rel => exact ⟨k + 1, by omega, by go_num, by rw [HT.out]; go_num⟩
      case measure => simp [intOf]; omega
    · go_wp2
      go_ret
      exact ⟨rfl, rfl⟩

set_option maxHeartbeats 1600000 in
theorem b22_no (a : Option Addr) (n cap : Nat) (s : Nat → ByteArray) (w : World) (hs : Sees w a n s w.heap.size) (hn : n ≤ maxLen) (hz : ∀ j, j < n → (s j).size ≤ maxLen) (hT : ¬ n + tot s n ≤ 1048576) :
    Calls Try.prog 22 #[.slice a n cap] w fun e w' => e = .returned (.bool false) ∧ w = w' := by
  have HS := hide hs
  have HZ := hide hz
  unfold maxLen at hn
  clear hs hz
  by_cases t2 : 1048576 < n
  · go_enter Try.func22, Try.ntmps22
    go_wp2
    go_ret
    exact ⟨rfl, rfl⟩
  go_enter Try.func22, Try.ntmps22
  go_wp2
  go_loop [3, 4] (fun t i => ∃ k : Nat, k ≤ n ∧ i = .int .i64 k ∧ n + tot s k ≤ 1048576 ∧ t = .int .i64 ((n + tot s k : Nat) : Int)) (fun _ i => n - (intOf i).toNat)
  case atStart => exact ⟨0, Nat.zero_le _, rfl, by rw [tot_zero]; omega, by rw [tot_zero]; go_num⟩
  case round =>
    obtain ⟨k, hk, rfl, hle, rfl⟩ := hrel
    by_cases hkn : k < n
    · obtain ⟨b, off, rfl, hb, hc⟩ := HS.out (by omega)
      have hck := hc k hkn
      have hsz := HZ.out k hkn
      unfold maxLen at hsz
      have HT := hide (tot_succ s k)
      clear hc
      by_cases t4 : 1048576 < (s k).size
      · go_wp2
        go_ret
        exact ⟨rfl, rfl⟩
      by_cases t5 : 1048576 < n + tot s k + (s k).size
      · go_wp2
        go_ret
        exact ⟨rfl, rfl⟩
      go_wp2
      go_round
      case rel => exact ⟨k + 1, by omega, by go_num, by rw [HT.out]; omega, by rw [HT.out]; go_num⟩
      case measure => simp [intOf]; omega
    · obtain rfl : k = n := by omega
      exfalso
      omega

set_option maxHeartbeats 1600000 in
theorem b24_yes (a : Option Addr) (n cap : Nat) (s : Nat → ByteArray) (w : World) (hs : Sees w a n s w.heap.size) (hT : n + tot s n ≤ 1048576) :
    Calls Try.prog 24 #[.slice a n cap] w fun e w' => e = .returned (.bool true) ∧ w = w' := by
  have HS := hide hs
  clear hs
  go_enter Try.func24, Try.ntmps24
  go_wp2
  go_loop [3, 4] (fun t i => ∃ k : Nat, k ≤ n ∧ i = .int .i64 k ∧ t = .int .i64 ((n + tot s k : Nat) : Int)) (fun _ i => n - (intOf i).toNat)
  case atStart => exact ⟨0, Nat.zero_le _, rfl, by rw [tot_zero]; go_num⟩
  case round =>
    obtain ⟨k, hk, rfl, rfl⟩ := hrel
    have hm := tot_mono s hk
    by_cases hkn : k < n
    · obtain ⟨b, off, rfl, hb, hc⟩ := HS.out (by omega)
      have hck := hc k hkn
      have hm2 := tot_mono s (show k + 1 ≤ n by omega)
      have HT := hide (tot_succ s k)
      rw [tot_succ] at hm2
      clear hc
      go_wp2
      go_round
      case rel => exact ⟨k + 1, by omega, by go_num, by rw [HT.out]; go_num⟩
      case measure => simp [intOf]; omega
    · go_wp2
      go_ret
      exact ⟨rfl, rfl⟩

set_option maxHeartbeats 1600000 in
theorem b24_no (a : Option Addr) (n cap : Nat) (s : Nat → ByteArray) (w : World) (hs : Sees w a n s w.heap.size) (hn : n ≤ maxLen) (hz : ∀ j, j < n → (s j).size ≤ maxLen) (hT : ¬ n + tot s n ≤ 1048576) :
    Calls Try.prog 24 #[.slice a n cap] w fun e w' => e = .returned (.bool false) ∧ w = w' := by
  have HS := hide hs
  have HZ := hide hz
  unfold maxLen at hn
  clear hs hz
  by_cases t2 : 1048576 < n
  · go_enter Try.func24, Try.ntmps24
    go_wp2
    go_ret
    exact ⟨rfl, rfl⟩
  go_enter Try.func24, Try.ntmps24
  go_wp2
  go_loop [3, 4] (fun t i => ∃ k : Nat, k ≤ n ∧ i = .int .i64 k ∧ n + tot s k ≤ 1048576 ∧ t = .int .i64 ((n + tot s k : Nat) : Int)) (fun _ i => n - (intOf i).toNat)
  case atStart => exact ⟨0, Nat.zero_le _, rfl, by rw [tot_zero]; omega, by rw [tot_zero]; go_num⟩
  case round =>
    obtain ⟨k, hk, rfl, hle, rfl⟩ := hrel
    by_cases hkn : k < n
    · obtain ⟨b, off, rfl, hb, hc⟩ := HS.out (by omega)
      have hck := hc k hkn
      have hsz := HZ.out k hkn
      unfold maxLen at hsz
      have HT := hide (tot_succ s k)
      clear hc
      by_cases t4 : 1048576 < (s k).size
      · go_wp2
        go_ret
        exact ⟨rfl, rfl⟩
      by_cases t5 : 1048576 < n + tot s k + (s k).size
      · go_wp2
        go_ret
        exact ⟨rfl, rfl⟩
      go_wp2
      go_round
      case rel => exact ⟨k + 1, by omega, by go_num, by rw [HT.out]; omega, by rw [HT.out]; go_num⟩
      case measure => simp [intOf]; omega
    · obtain rfl : k = n := by omega
      exfalso
      omega

end Go.Proofs.Qxb6000578a.St
