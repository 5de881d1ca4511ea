/- mix and unmix over the natural numbers below 2^64: plain mathematics, no Go in sight. -/
import Derived.Laws.Bits64
namespace Go.Proofs.Qxb6601581a.Mix
open Go

def xs (d x : Nat) : Nat := x ^^^ x / d
def uxs (d d2 x : Nat) : Nat := x ^^^ x / d ^^^ x / d2

def mixN (x : Nat) : Nat := xs 2147483648 (xs 134217728 (xs 1073741824 x * 13787848793156543929 % 18446744073709551616) * 10723151780598845931 % 18446744073709551616)
def unmixN (x : Nat) : Nat :=
  uxs 1073741824 1152921504606846976
    (uxs 134217728 18014398509481984
      (uxs 2147483648 4611686018427387904 x * 3573116690164977347 % 18446744073709551616) * 10871156337175269513 % 18446744073709551616)

/-- one Newton step modulo 2^64, as the walk spells it -/
def newton (a v : Int) : Int := IntKind.u64.wrap (v * IntKind.u64.wrap (2 - IntKind.u64.wrap (a * v)))
def inv : Nat → Int → Int
  | 0, a => a
  | k + 1, a => newton a (inv k a)
theorem inv1 : inv 5 13787848793156543929 = 10871156337175269513 := by decide +kernel
theorem inv2 : inv 5 10723151780598845931 = 3573116690164977347 := by decide +kernel

theorem xor_lt {a b : Nat} (ha : a < 18446744073709551616) (hb : b < 18446744073709551616) : a ^^^ b < 18446744073709551616 :=
  Nat.xor_lt_two_pow (n := 64) ha hb
theorem div_lt' {a : Nat} (d : Nat) (ha : a < 18446744073709551616) : a / d < 18446744073709551616 :=
  Nat.lt_of_le_of_lt (Nat.div_le_self _ _) ha
theorem xs_lt {x : Nat} (d : Nat) (h : x < 18446744073709551616) : xs d x < 18446744073709551616 := xor_lt h (div_lt' d h)
theorem uxs_lt {x : Nat} (d e : Nat) (h : x < 18446744073709551616) : uxs d e x < 18446744073709551616 :=
  xor_lt (xor_lt h (div_lt' d h)) (div_lt' e h)

theorem xor_div (a b s : Nat) : (a ^^^ b) / 2 ^ s = a / 2 ^ s ^^^ b / 2 ^ s := by
  rw [← Nat.shiftRight_eq_div_pow, ← Nat.shiftRight_eq_div_pow, ← Nat.shiftRight_eq_div_pow]
  exact Nat.shiftRight_xor_distrib

theorem cancel (a b c : Nat) : a ^^^ b ^^^ (b ^^^ c) ^^^ c = a := by
  rw [Nat.xor_assoc a b, ← Nat.xor_assoc b b c, Nat.xor_self, Nat.zero_xor, Nat.xor_assoc, Nat.xor_self, Nat.xor_zero]
theorem cancel' (a b c : Nat) : a ^^^ b ^^^ c ^^^ (b ^^^ c) = a := by
  rw [Nat.xor_assoc a b c, Nat.xor_assoc, Nat.xor_self, Nat.xor_zero]

theorem uxs_xs (s x : Nat) (h : x < 2 ^ (s + (s + s))) : uxs (2 ^ s) (2 ^ (s + s)) (xs (2 ^ s) x) = x := by
  unfold uxs xs
  have z : x / 2 ^ s / 2 ^ (s + s) = 0 := by
    rw [Nat.div_div_eq_div_mul, ← Nat.pow_add]; exact Nat.div_eq_of_lt h
  have y : x / 2 ^ s / 2 ^ s = x / 2 ^ (s + s) := by rw [Nat.div_div_eq_div_mul, ← Nat.pow_add]
  rw [xor_div, xor_div, z, y, Nat.xor_zero, cancel]

theorem xs_uxs (s x : Nat) (h : x < 2 ^ (s + (s + s))) : xs (2 ^ s) (uxs (2 ^ s) (2 ^ (s + s)) x) = x := by
  unfold uxs xs
  have z : x / 2 ^ (s + s) / 2 ^ s = 0 := by
    rw [Nat.div_div_eq_div_mul, ← Nat.pow_add, Nat.add_comm (s + s) s]; exact Nat.div_eq_of_lt h
  have y : x / 2 ^ s / 2 ^ s = x / 2 ^ (s + s) := by rw [Nat.div_div_eq_div_mul, ← Nat.pow_add]
  rw [xor_div, xor_div, z, y, Nat.xor_zero, cancel']

theorem u31 (x : Nat) (h : x < 18446744073709551616) : uxs 2147483648 4611686018427387904 (xs 2147483648 x) = x :=
  uxs_xs 31 x (Nat.lt_of_lt_of_le h (by decide))
theorem u27 (x : Nat) (h : x < 18446744073709551616) : uxs 134217728 18014398509481984 (xs 134217728 x) = x :=
  uxs_xs 27 x (Nat.lt_of_lt_of_le h (by decide))
theorem u30 (x : Nat) (h : x < 18446744073709551616) : uxs 1073741824 1152921504606846976 (xs 1073741824 x) = x :=
  uxs_xs 30 x (Nat.lt_of_lt_of_le h (by decide))
theorem v31 (x : Nat) (h : x < 18446744073709551616) : xs 2147483648 (uxs 2147483648 4611686018427387904 x) = x :=
  xs_uxs 31 x (Nat.lt_of_lt_of_le h (by decide))
theorem v27 (x : Nat) (h : x < 18446744073709551616) : xs 134217728 (uxs 134217728 18014398509481984 x) = x :=
  xs_uxs 27 x (Nat.lt_of_lt_of_le h (by decide))
theorem v30 (x : Nat) (h : x < 18446744073709551616) : xs 1073741824 (uxs 1073741824 1152921504606846976 x) = x :=
  xs_uxs 30 x (Nat.lt_of_lt_of_le h (by decide))

theorem mulInv (a c d : Nat) (ha : a < 18446744073709551616) (h : c * d % 18446744073709551616 = 1) :
    a * c % 18446744073709551616 * d % 18446744073709551616 = a := by
  rw [Nat.mod_mul_mod, Nat.mul_assoc, ← Nat.mul_mod_mod, h, Nat.mul_one, Nat.mod_eq_of_lt ha]

theorem modlt (a : Nat) : a % 18446744073709551616 < 18446744073709551616 := Nat.mod_lt _ (by decide)

theorem unmix_mix (x : Nat) (h : x < 18446744073709551616) : unmixN (mixN x) = x := by
  unfold unmixN mixN
  rw [u31 _ (modlt _), mulInv _ _ _ (xs_lt _ (modlt _)) (by decide +kernel), u27 _ (modlt _), mulInv _ _ _ (xs_lt _ h) (by decide +kernel), u30 _ h]
theorem mix_unmix (x : Nat) (h : x < 18446744073709551616) : mixN (unmixN x) = x := by
  unfold unmixN mixN
  rw [v30 _ (modlt _), mulInv _ _ _ (uxs_lt _ _ (modlt _)) (by decide +kernel), v27 _ (modlt _), mulInv _ _ _ (uxs_lt _ _ h) (by decide +kernel), v31 _ h]
theorem mixN_lt (x : Nat) : mixN x < 18446744073709551616 := xs_lt _ (modlt _)
theorem unmixN_lt (x : Nat) : unmixN x < 18446744073709551616 := uxs_lt _ _ (modlt _)

/-! ### the walk's spellings -/
theorem say_mix (X : Nat) (h : X < 18446744073709551616) :
    bits BinOp.xor IntKind.u64 (IntKind.u64.wrap (bits BinOp.xor IntKind.u64 (IntKind.u64.wrap (bits BinOp.xor IntKind.u64 (↑X) (↑X / 1073741824) * 13787848793156543929)) (IntKind.u64.wrap (bits BinOp.xor IntKind.u64 (↑X) (↑X / 1073741824) * 13787848793156543929) / 134217728) * 10723151780598845931)) (IntKind.u64.wrap (bits BinOp.xor IntKind.u64 (IntKind.u64.wrap (bits BinOp.xor IntKind.u64 (↑X) (↑X / 1073741824) * 13787848793156543929)) (IntKind.u64.wrap (bits BinOp.xor IntKind.u64 (↑X) (↑X / 1073741824) * 13787848793156543929) / 134217728) * 10723151780598845931) / 2147483648) = ((mixN X : Nat) : Int) := by
  have e1 : IntKind.u64.wrap (bits BinOp.xor IntKind.u64 (↑X) (↑X / 1073741824) * 13787848793156543929) = _ := mixStep_u64 X 1073741824 13787848793156543929 h
  rw [e1]
  have e2 := mixStep_u64 ((X ^^^ X / 1073741824) * 13787848793156543929 % 18446744073709551616) 134217728 10723151780598845931 (modlt _)
  rw [show ((134217728 : Nat) : Int) = 134217728 from rfl, show ((10723151780598845931 : Nat) : Int) = 10723151780598845931 from rfl] at e2
  rw [e2]
  exact xorShift_u64 _ 2147483648 (modlt _)

theorem say_uxs (X : Nat) (d e : Nat) (h : X < 18446744073709551616) :
    bits BinOp.xor IntKind.u64 (bits BinOp.xor IntKind.u64 (↑X) (↑X / (d : Int))) (↑X / (e : Int)) = ((uxs d e X : Nat) : Int) := by
  rw [xorShift_u64 X d h]
  exact bits_xor_u64_nat _ _ (xor_lt h (div_lt' d h)) (div_lt' e h)

theorem say_mul (X C : Nat) : IntKind.u64.wrap ((X : Int) * (C : Int)) = ((X * C % 18446744073709551616 : Nat) : Int) := by
  rw [IntKind.wrap_u64, Int.natCast_emod, Int.natCast_mul]; rfl

end Go.Proofs.Qxb6601581a.Mix
