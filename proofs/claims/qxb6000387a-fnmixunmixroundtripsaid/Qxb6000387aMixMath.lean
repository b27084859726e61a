/-
  THE PLAIN LAW of SplitMix64's finaliser and its inverse: natural numbers below 2^64.
-/
import Derived.Laws.Bits64
namespace Go.Proofs.Qxb6000387a.Mx

/-- x ^ x>>s -/
def sx (s X : Nat) : Nat := X ^^^ X / 2 ^ s
/-- y ^ y>>s ^ y>>2s -/
def us (s Y : Nat) : Nat := (Y ^^^ Y / 2 ^ s) ^^^ Y / 2 ^ (2 * s)
/-- x * c modulo 2^64 -/
def ml (C X : Nat) : Nat := X * C % 18446744073709551616

theorem sx_bit (s X j : Nat) : (sx s X).testBit j = (X.testBit j ^^ X.testBit (j + s)) := by
  unfold sx
  rw [Nat.testBit_xor, Nat.testBit_div_two_pow]
theorem us_bit (s Y j : Nat) : (us s Y).testBit j = ((Y.testBit j ^^ Y.testBit (j + s)) ^^ Y.testBit (j + 2 * s)) := by
  unfold us
  rw [Nat.testBit_xor, Nat.testBit_xor, Nat.testBit_div_two_pow, Nat.testBit_div_two_pow]
theorem high_bit {X j : Nat} (hX : X < 18446744073709551616) (hj : 64 ≤ j) : X.testBit j = false :=
  Nat.testBit_lt_two_pow (Nat.lt_of_lt_of_le (show X < 2 ^ 64 from hX) (Nat.pow_le_pow_right (by decide) hj))

theorem us_sx (s X : Nat) (hX : X < 18446744073709551616) (hs : 64 ≤ 3 * s) : us s (sx s X) = X := by
  apply Nat.eq_of_testBit_eq
  intro i
  have h3 : X.testBit (i + 2 * s + s) = false := high_bit hX (by omega)
  rw [us_bit, sx_bit, sx_bit, sx_bit, h3, show i + s + s = i + 2 * s by omega]
  cases X.testBit i <;> cases X.testBit (i + s) <;> cases X.testBit (i + 2 * s) <;> rfl
theorem sx_us (s Y : Nat) (hY : Y < 18446744073709551616) (hs : 64 ≤ 3 * s) : sx s (us s Y) = Y := by
  apply Nat.eq_of_testBit_eq
  intro i
  have h3 : Y.testBit (i + s + 2 * s) = false := high_bit hY (by omega)
  rw [sx_bit, us_bit, us_bit, h3, show i + s + s = i + 2 * s by omega]
  cases Y.testBit i <;> cases Y.testBit (i + s) <;> cases Y.testBit (i + 2 * s) <;> rfl
theorem div_lt {X s : Nat} (hX : X < 18446744073709551616) : X / s < 18446744073709551616 := Nat.lt_of_le_of_lt (Nat.div_le_self _ _) hX
theorem sx_lt (s X : Nat) (hX : X < 18446744073709551616) : sx s X < 18446744073709551616 :=
  Nat.xor_lt_two_pow (n := 64) hX (div_lt hX)
theorem us_lt (s Y : Nat) (hY : Y < 18446744073709551616) : us s Y < 18446744073709551616 :=
  Nat.xor_lt_two_pow (n := 64) (Nat.xor_lt_two_pow (n := 64) hY (div_lt hY)) (div_lt hY)
theorem ml_lt (C X : Nat) : ml C X < 18446744073709551616 := Nat.mod_lt _ (by decide)
theorem ml_ml (C D X : Nat) (hX : X < 18446744073709551616) (h : C * D % 18446744073709551616 = 1) : ml D (ml C X) = X := by
  unfold ml
  rw [Nat.mod_mul_mod, Nat.mul_assoc, Nat.mul_mod, h, Nat.mul_one, Nat.mod_mod, Nat.mod_eq_of_lt hX]

def mixN (X : Nat) : Nat := sx 31 (ml 10723151780598845931 (sx 27 (ml 13787848793156543929 (sx 30 X))))
def unmixN (Z : Nat) : Nat := us 30 (ml 10871156337175269513 (us 27 (ml 3573116690164977347 (us 31 Z))))

theorem mixN_lt (X : Nat) : mixN X < 18446744073709551616 := sx_lt _ _ (ml_lt _ _)
theorem unmixN_lt (X : Nat) : unmixN X < 18446744073709551616 := us_lt _ _ (ml_lt _ _)

theorem unmix_mix (X : Nat) (hX : X < 18446744073709551616) : unmixN (mixN X) = X := by
  unfold unmixN mixN
  rw [us_sx 31 _ (ml_lt _ _) (by omega), ml_ml 10723151780598845931 3573116690164977347 _ (sx_lt _ _ (ml_lt _ _)) (by decide), us_sx 27 _ (ml_lt _ _) (by omega),
    ml_ml 13787848793156543929 10871156337175269513 _ (sx_lt _ _ hX) (by decide), us_sx 30 _ hX (by omega)]
theorem mix_unmix (Z : Nat) (hZ : Z < 18446744073709551616) : mixN (unmixN Z) = Z := by
  unfold unmixN mixN
  rw [sx_us 30 _ (ml_lt _ _) (by omega), ml_ml 10871156337175269513 13787848793156543929 _ (us_lt _ _ (ml_lt _ _)) (by decide), sx_us 27 _ (ml_lt _ _) (by omega),
    ml_ml 3573116690164977347 10723151780598845931 _ (us_lt _ _ hZ) (by decide), sx_us 31 _ hZ (by omega)]

/-! ### as the walk spells it -/
theorem mix_eq (X : Nat) (hX : X < 18446744073709551616) :
    bits .xor .u64 (IntKind.u64.wrap (bits .xor .u64 (IntKind.u64.wrap (bits .xor .u64 (X : Int) ((X : Int) / 1073741824) * 13787848793156543929))
      (IntKind.u64.wrap (bits .xor .u64 (X : Int) ((X : Int) / 1073741824) * 13787848793156543929) / 134217728) * 10723151780598845931))
      (IntKind.u64.wrap (bits .xor .u64 (IntKind.u64.wrap (bits .xor .u64 (X : Int) ((X : Int) / 1073741824) * 13787848793156543929))
      (IntKind.u64.wrap (bits .xor .u64 (X : Int) ((X : Int) / 1073741824) * 13787848793156543929) / 134217728) * 10723151780598845931) / 2147483648) = ((mixN X : Nat) : Int) := by
  have h1 : IntKind.u64.wrap (bits .xor .u64 (X : Int) ((X : Int) / 1073741824) * 13787848793156543929) = ((ml 13787848793156543929 (sx 30 X) : Nat) : Int) := mixStep_u64 X 1073741824 13787848793156543929 hX
  rw [h1]
  generalize hA : ml 13787848793156543929 (sx 30 X) = A
  have hAl : A < 18446744073709551616 := by rw [← hA]; exact ml_lt _ _
  have h2 : IntKind.u64.wrap (bits .xor .u64 (A : Int) ((A : Int) / 134217728) * 10723151780598845931) = ((ml 10723151780598845931 (sx 27 A) : Nat) : Int) := mixStep_u64 A 134217728 10723151780598845931 hAl
  rw [h2]
  generalize hB : ml 10723151780598845931 (sx 27 A) = B
  have hBl : B < 18446744073709551616 := by rw [← hB]; exact ml_lt _ _
  have h3 : bits .xor .u64 (B : Int) ((B : Int) / 2147483648) = ((sx 31 B : Nat) : Int) := xorShift_u64 B 2147483648 hBl
  rw [h3]
  unfold mixN
  rw [hA, hB]

theorem us_eq (Y a b : Nat) (hY : Y < 18446744073709551616) : bits .xor .u64 (bits .xor .u64 (Y : Int) ((Y : Int) / (a : Int))) ((Y : Int) / (b : Int)) = (((Y ^^^ Y / a) ^^^ Y / b : Nat) : Int) := by
  rw [xorShift_u64 Y a hY, ← Int.natCast_ediv, bits_xor_u64_nat _ _ (Nat.xor_lt_two_pow (n := 64) hY (div_lt hY)) (div_lt hY)]

theorem ml_eq (Y C : Nat) : IntKind.u64.wrap ((Y : Int) * (C : Int)) = ((ml C Y : Nat) : Int) := by
  rw [IntKind.wrap_u64]
  unfold ml
  rw [Int.natCast_emod, Int.natCast_mul]
  rfl

end Go.Proofs.Qxb6000387a.Mx
