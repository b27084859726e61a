/-
  THE WALKS of 'mix', 'unmix' and what they call.
-/
import Derived.Test.Qxb6000387aRows
import Derived.Test.Qxb6000387aMixMath
import Derived.WalkKit
import Derived.ProofKit
import Derived.WalkSpells
import Derived.Outline
namespace Go.Proofs.Qxb6000387a.Mx
open Go.RowKit

theorem ret_u64 {a b : Int} (h : a = b) : Ending.returned (.int .u64 a) = .returned (.int .u64 b) := by rw [h]

set_option maxHeartbeats 400000 in
theorem mix_any (X : Nat) (hX : X < 18446744073709551616) (w : World) :
    Calls Try.prog 20 #[.int .u64 (X : Int)] w fun e w' => e = .returned (.int .u64 ((mixN X : Nat) : Int)) ∧ w = w' := by
  go_enter Try.func20, Try.ntmps20
  go_wp2
  go_ret
  exact ⟨ret_u64 (mix_eq X hX), rfl⟩

set_option maxHeartbeats 400000 in
theorem zmix_any (X : Nat) (hX : X < 18446744073709551616) (w : World) :
    Calls Try.prog 16 #[.int .u64 (X : Int)] w fun e w' => e = .returned (.int .u64 ((mixN X : Nat) : Int)) ∧ w = w' := by
  go_enter Try.func16, Try.ntmps16
  go_wp2_with fail
  refine (mix_any X hX _).mono ?_
  rintro e w' ⟨rfl, rfl⟩
  go_wp2
  go_ret
  exact ⟨rfl, rfl⟩

set_option maxHeartbeats 400000 in
theorem us31 (Y : Nat) (hY : Y < 18446744073709551616) (w : World) :
    Calls Try.prog 18 #[.int .u64 (Y : Int), .int .u64 31] w fun e w' => e = .returned (.int .u64 ((us 31 Y : Nat) : Int)) ∧ w = w' := by
  go_enter Try.func18, Try.ntmps18
  go_wp2
  refine wp_loop_rounds 3 ?_
  rw [rounds_succ]
  go_wp2
  rw [rounds_succ]
  go_wp2
  rw [rounds_succ]
  go_wp2
  go_ret
  exact ⟨ret_u64 (us_eq Y 2147483648 4611686018427387904 hY), rfl⟩

set_option maxHeartbeats 400000 in
theorem us27 (Y : Nat) (hY : Y < 18446744073709551616) (w : World) :
    Calls Try.prog 18 #[.int .u64 (Y : Int), .int .u64 27] w fun e w' => e = .returned (.int .u64 ((us 27 Y : Nat) : Int)) ∧ w = w' := by
  go_enter Try.func18, Try.ntmps18
  go_wp2
  refine wp_loop_rounds 3 ?_
  rw [rounds_succ]
  go_wp2
  rw [rounds_succ]
  go_wp2
  rw [rounds_succ]
  go_wp2
  go_ret
  exact ⟨ret_u64 (us_eq Y 134217728 18014398509481984 hY), rfl⟩

set_option maxHeartbeats 400000 in
theorem us30 (Y : Nat) (hY : Y < 18446744073709551616) (w : World) :
    Calls Try.prog 18 #[.int .u64 (Y : Int), .int .u64 30] w fun e w' => e = .returned (.int .u64 ((us 30 Y : Nat) : Int)) ∧ w = w' := by
  go_enter Try.func18, Try.ntmps18
  go_wp2
  refine wp_loop_rounds 3 ?_
  rw [rounds_succ]
  go_wp2
  rw [rounds_succ]
  go_wp2
  rw [rounds_succ]
  go_wp2
  go_ret
  exact ⟨ret_u64 (us_eq Y 1073741824 1152921504606846976 hY), rfl⟩

set_option maxHeartbeats 400000 in
theorem inv2 (w : World) :
    Calls Try.prog 19 #[.int .u64 10723151780598845931] w fun e w' => e = .returned (.int .u64 3573116690164977347) ∧ w = w' := by
  go_enter Try.func19, Try.ntmps19
  go_wp2
  refine wp_loop_rounds 6 ?_
  rw [rounds_succ]
  go_wp2
  rw [rounds_succ]
  go_wp2
  rw [rounds_succ]
  go_wp2
  rw [rounds_succ]
  go_wp2
  rw [rounds_succ]
  go_wp2
  rw [rounds_succ]
  go_wp2
  go_ret
  refine ⟨ret_u64 (b := 3573116690164977347) ?_, rfl⟩
  simp [IntKind.wrap_u64]

set_option maxHeartbeats 400000 in
theorem inv1 (w : World) :
    Calls Try.prog 19 #[.int .u64 13787848793156543929] w fun e w' => e = .returned (.int .u64 10871156337175269513) ∧ w = w' := by
  go_enter Try.func19, Try.ntmps19
  go_wp2
  refine wp_loop_rounds 6 ?_
  rw [rounds_succ]
  go_wp2
  rw [rounds_succ]
  go_wp2
  rw [rounds_succ]
  go_wp2
  rw [rounds_succ]
  go_wp2
  rw [rounds_succ]
  go_wp2
  rw [rounds_succ]
  go_wp2
  go_ret
  refine ⟨ret_u64 (b := 10871156337175269513) ?_, rfl⟩
  simp [IntKind.wrap_u64]

set_option maxHeartbeats 400000 in
theorem unmix_any (Z : Nat) (hZ : Z < 18446744073709551616) (w : World) :
    Calls Try.prog 15 #[.int .u64 (Z : Int)] w fun e w' => e = .returned (.int .u64 ((unmixN Z : Nat) : Int)) ∧ w = w' := by
  go_enter Try.func15, Try.ntmps15
  go_wp2_with fail
  refine (us31 Z hZ _).mono ?_
  rintro e w' ⟨rfl, rfl⟩
  go_wp2_with fail
  refine (inv2 _).mono ?_
  rintro e w' ⟨rfl, rfl⟩
  go_wp2_with fail
  rw [show IntKind.u64.wrap (((us 31 Z : Nat) : Int) * 3573116690164977347) = ((ml 3573116690164977347 (us 31 Z) : Nat) : Int) from ml_eq _ 3573116690164977347]
  refine (us27 (ml 3573116690164977347 (us 31 Z)) (ml_lt _ _) _).mono ?_
  rintro e w' ⟨rfl, rfl⟩
  go_wp2_with fail
  refine (inv1 _).mono ?_
  rintro e w' ⟨rfl, rfl⟩
  go_wp2_with fail
  rw [show IntKind.u64.wrap (((us 27 (ml 3573116690164977347 (us 31 Z)) : Nat) : Int) * 10871156337175269513) = ((ml 10871156337175269513 (us 27 (ml 3573116690164977347 (us 31 Z))) : Nat) : Int) from ml_eq _ 10871156337175269513]
  refine (us30 (ml 10871156337175269513 (us 27 (ml 3573116690164977347 (us 31 Z)))) (ml_lt _ _) _).mono ?_
  rintro e w' ⟨rfl, rfl⟩
  go_wp2
  go_ret
  exact ⟨rfl, rfl⟩

set_option maxHeartbeats 400000 in
theorem law6 (X : Nat) (hX : X < 18446744073709551616) (w : World) :
    Calls Try.prog 6 #[.int .u64 (X : Int)] w fun e w' => e = .returned (.bool true) ∧ w = w' := by
  have hm := unmix_mix X hX
  have he : (((unmixN (mixN X) : Nat) : Int) == (X : Int)) = true := by rw [hm]; simp
  clear hm
  go_enter Try.func6, Try.ntmps6
  go_wp2_with fail
  refine (zmix_any X hX _).mono ?_
  rintro e w' ⟨rfl, rfl⟩
  go_wp2_with fail
  refine (unmix_any (mixN X) (mixN_lt X) _).mono ?_
  rintro e w' ⟨rfl, rfl⟩
  go_wp2
  go_ret
  exact ⟨rfl, rfl⟩

set_option maxHeartbeats 400000 in
theorem law7 (X : Nat) (hX : X < 18446744073709551616) (w : World) :
    Calls Try.prog 7 #[.int .u64 (X : Int)] w fun e w' => e = .returned (.bool true) ∧ w = w' := by
  have hm := mix_unmix X hX
  have he : (((mixN (unmixN X) : Nat) : Int) == (X : Int)) = true := by rw [hm]; simp
  clear hm
  go_enter Try.func7, Try.ntmps7
  go_wp2_with fail
  refine (unmix_any X hX _).mono ?_
  rintro e w' ⟨rfl, rfl⟩
  go_wp2_with fail
  refine (zmix_any (unmixN X) (unmixN_lt X) _).mono ?_
  rintro e w' ⟨rfl, rfl⟩
  go_wp2
  go_ret
  exact ⟨rfl, rfl⟩

end Go.Proofs.Qxb6000387a.Mx
