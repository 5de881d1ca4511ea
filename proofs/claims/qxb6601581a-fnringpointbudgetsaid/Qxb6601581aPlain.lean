/- Plain mathematics for the seat's laws on point counts: no Go in sight. -/
import Derived.Laws.BitsAllLaws
namespace Go.Proofs.Qxb6601581a.Plain
open Go

theorem and32 (a : Int) (h0 : 0 ≤ a) (h1 : a < 18446744073709551616) : bits .and .u64 a 4294967295 = a % 4294967296 := by
  rw [u64_and a 4294967295 h0 h1 (by decide) (by decide)]
  have e : (4294967295 : Int).toNat = 4294967295 := by decide
  rw [e, nat_mask32]
  omega

theorem or32 (a b : Int) (h0 : 0 ≤ a) (h1 : a < 18446744073709551616) (h2 : a % 4294967296 = 0) (h3 : 0 ≤ b) (h4 : b < 4294967296) :
    bits .or .u64 a b = a + b := by
  rw [u64_or a b h0 h1 h3 (by omega), nat_join32 _ _ (by omega) (by omega)]
  omega

theorem wrapId (x : Int) (h0 : 0 ≤ x) (h1 : x < 18446744073709551616) : IntKind.u64.wrap x = x := by
  rw [IntKind.wrap_u64]; omega

/-- the schoolbook product by halves, where the whole product fits 64 bits -/
theorem halves (A1 A0 B1 B0 : Int) : (A1 * 4294967296 + A0) * (B1 * 4294967296 + B0) = A1 * B1 * 18446744073709551616 + (A0 * B1) * 4294967296 + (A1 * B0) * 4294967296 + A0 * B0 := by
  have e1 : A1 * 4294967296 * (B1 * 4294967296) = A1 * B1 * 18446744073709551616 := by
    rw [Int.mul_assoc, Int.mul_left_comm 4294967296 B1, ← Int.mul_assoc]; rfl
  have e2 : A0 * (B1 * 4294967296) = A0 * B1 * 4294967296 := by rw [Int.mul_assoc]
  have e3 : A1 * 4294967296 * B0 = A1 * B0 * 4294967296 := by rw [Int.mul_assoc, Int.mul_comm 4294967296 B0, ← Int.mul_assoc]
  rw [Int.add_mul, Int.mul_add, Int.mul_add, e1, e2, e3]
  omega

theorem mulLaw (a b : Int) (ha : 0 ≤ a) (ha' : a < 18446744073709551616) (hb : 0 ≤ b) (hb' : b < 18446744073709551616) (h : a * b < 18446744073709551616) :
    (IntKind.u64.wrap (IntKind.u64.wrap (IntKind.u64.wrap (IntKind.u64.wrap (a / 4294967296 * (b / 4294967296)) + IntKind.u64.wrap (bits BinOp.and IntKind.u64 a 4294967295 * (b / 4294967296)) / 4294967296) + IntKind.u64.wrap (a / 4294967296 * bits BinOp.and IntKind.u64 b 4294967295) / 4294967296) + IntKind.u64.wrap (IntKind.u64.wrap (IntKind.u64.wrap (bits BinOp.and IntKind.u64 a 4294967295 * bits BinOp.and IntKind.u64 b 4294967295) / 4294967296 + bits BinOp.and IntKind.u64 (IntKind.u64.wrap (bits BinOp.and IntKind.u64 a 4294967295 * (b / 4294967296))) 4294967295) + bits BinOp.and IntKind.u64 (IntKind.u64.wrap (a / 4294967296 * bits BinOp.and IntKind.u64 b 4294967295)) 4294967295) / 4294967296) = 0) ∧
    (bits BinOp.or IntKind.u64 (IntKind.u64.wrap (IntKind.u64.wrap (IntKind.u64.wrap (IntKind.u64.wrap (bits BinOp.and IntKind.u64 a 4294967295 * bits BinOp.and IntKind.u64 b 4294967295) / 4294967296 + bits BinOp.and IntKind.u64 (IntKind.u64.wrap (bits BinOp.and IntKind.u64 a 4294967295 * (b / 4294967296))) 4294967295) + bits BinOp.and IntKind.u64 (IntKind.u64.wrap (a / 4294967296 * bits BinOp.and IntKind.u64 b 4294967295)) 4294967295) * 4294967296)) (bits BinOp.and IntKind.u64 (IntKind.u64.wrap (bits BinOp.and IntKind.u64 a 4294967295 * bits BinOp.and IntKind.u64 b 4294967295)) 4294967295) = a * b) := by
  rw [and32 a ha ha', and32 b hb hb']
  have hA : a = a / 4294967296 * 4294967296 + a % 4294967296 := by omega
  have hB : b = b / 4294967296 * 4294967296 + b % 4294967296 := by omega
  have hA1 : 0 ≤ a / 4294967296 := by omega
  have hB1 : 0 ≤ b / 4294967296 := by omega
  have hA0 : 0 ≤ a % 4294967296 := by omega
  have hB0 : 0 ≤ b % 4294967296 := by omega
  have hp := halves (a / 4294967296) (a % 4294967296) (b / 4294967296) (b % 4294967296)
  rw [← hA, ← hB] at hp
  clear hA hB
  have n11 := Int.mul_nonneg hA1 hB1
  have n01 := Int.mul_nonneg hA0 hB1
  have n10 := Int.mul_nonneg hA1 hB0
  have n00 := Int.mul_nonneg hA0 hB0
  generalize a / 4294967296 * (b / 4294967296) = p11 at *
  generalize a % 4294967296 * (b / 4294967296) = p01 at *
  generalize a / 4294967296 * (b % 4294967296) = p10 at *
  generalize a % 4294967296 * (b % 4294967296) = p00 at *
  generalize a * b = ab at *
  clear hA1 hB1 hA0 hB0 ha ha' hb hb'
  rw [wrapId p11 n11 (by omega), wrapId p01 n01 (by omega), wrapId p10 n10 (by omega), wrapId p00 n00 (by omega)]
  rw [and32 p01 n01 (by omega), and32 p10 n10 (by omega), and32 p00 n00 (by omega)]
  rw [wrapId (p00 / 4294967296 + p01 % 4294967296) (by omega) (by omega)]
  rw [wrapId (p00 / 4294967296 + p01 % 4294967296 + p10 % 4294967296) (by omega) (by omega)]
  rw [wrapId (p11 + p01 / 4294967296) (by omega) (by omega), wrapId (p11 + p01 / 4294967296 + p10 / 4294967296) (by omega) (by omega)]
  rw [wrapId _ (by omega) (by omega)]
  rw [wrapId ((p00 / 4294967296 + p01 % 4294967296 + p10 % 4294967296) * 4294967296) (by omega) (by omega)]
  rw [or32 _ _ (by omega) (by omega) (by omega) (by omega) (by omega)]
  exact ⟨by omega, by omega⟩

/-- the effective weight -/
def effW (a : Int) : Int := if a = 0 then 1 else if 2147483647 < a then 2147483647 else a
theorem effW_bd (a : Int) (h : 0 ≤ a) : 1 ≤ effW a ∧ effW a ≤ 2147483647 := by
  unfold effW; split
  · omega
  · split <;> omega

/-- the point count -/
def pc (p t : Int) : Int := if 131072 < t then (if 1 ≤ p * 131072 / t then p * 131072 / t else 1) else p

end Go.Proofs.Qxb6601581a.Plain
