/- The budget law in plain numbers. -/
import Derived.Test.Qxb6601581aTotal
namespace Go.Proofs.Qxb6601581a.Budget
open Go.Proofs.Qxb6601581a.Plain Go.Proofs.Qxb6601581a.Total

/-- the sum of the first k scaled counts on a ring of T points -/
def sum (z : Nat → Int) (T : Int) : Nat → Int
  | 0 => 0
  | k + 1 => sum z T k + pc (100 * effW (z k)) T

theorem pc_bd (e t : Int) (h1 : 1 ≤ e) : 1 ≤ pc (100 * e) t ∧ pc (100 * e) t ≤ 100 * e := by
  unfold pc
  split
  · have h3 : 100 * e * 131072 / t ≤ 100 * e := by
      apply Int.ediv_le_of_le_mul (by omega)
      exact Int.mul_le_mul_of_nonneg_left (by omega) (by omega)
    generalize 100 * e * 131072 / t = q at *
    split <;> omega
  · omega

theorem sum_bd (z : Nat → Int) (T : Int) (n : Nat) (h : ∀ k, k < n → 0 ≤ z k) (k : Nat) (hk : k ≤ n) : 0 ≤ sum z T k ∧ sum z T k ≤ 214748364700 * k := by
  induction k with
  | zero => simp [sum]
  | succ k ih =>
    have := ih (by omega)
    have e := effW_bd (z k) (h k (by omega))
    have p := pc_bd (effW (z k)) T e.1
    simp only [sum]
    omega

theorem sum_all (z : Nat → Int) (T : Int) (hT : ¬ 131072 < T) (k : Nat) : sum z T k = tot z k := by
  induction k with
  | zero => rfl
  | succ k ih => simp only [sum, tot, ih, pc, if_neg hT]

theorem pc_le (e t : Int) (h1 : 1 ≤ e) (ht : 131072 < t) : pc (100 * e) t * t ≤ 100 * e * 131072 + t ∧ 100 * e * 131072 < (pc (100 * e) t + 1) * t := by
  have h4 := Int.ediv_mul_le (100 * e * 131072) (b := t) (by omega)
  have h5 := Int.lt_ediv_add_one_mul_self (100 * e * 131072) (b := t) (by omega)
  have h6 : 0 ≤ 100 * e * 131072 / t := Int.ediv_nonneg (by omega) (by omega)
  rw [pc, if_pos ht]
  split
  · rw [Int.add_mul] at *
    generalize 100 * e * 131072 / t * t = y at *
    omega
  · have h7 : 100 * e * 131072 / t = 0 := by
      generalize 100 * e * 131072 / t = q at *
      omega
    rw [h7] at h5
    omega

theorem sum_scaled (z : Nat → Int) (T : Int) (hT : 131072 < T) (n : Nat) (h : ∀ k, k < n → 0 ≤ z k) (k : Nat) (hk : k ≤ n) :
    sum z T k * T ≤ tot z k * 131072 + k * T ∧ tot z k * 131072 + k ≤ (sum z T k + k) * T := by
  induction k with
  | zero => simp [sum, tot]
  | succ k ih =>
    obtain ⟨i1, i2⟩ := ih (by omega)
    have e := effW_bd (z k) (h k (by omega))
    obtain ⟨p1, p2⟩ := pc_le (effW (z k)) T e.1 hT
    simp only [sum, tot]
    rw [Int.natCast_add, Int.add_mul, Int.add_mul, Int.add_mul]
    rw [show sum z T k + pc (100 * effW (z k)) T + ((k : Int) + ((1 : Nat) : Int)) = (sum z T k + k) + (pc (100 * effW (z k)) T + 1) from by omega, Int.add_mul]
    generalize sum z T k * T = x1 at *
    generalize (sum z T k + k) * T = x2 at *
    generalize pc (100 * effW (z k)) T * T = x3 at *
    generalize (pc (100 * effW (z k)) T + 1) * T = x4 at *
    generalize (k : Int) * T = x5 at *
    omega

theorem budget (z : Nat → Int) (n : Nat) (h : ∀ k, k < n → 0 ≤ z k) (hT : 131072 < tot z n) :
    sum z (tot z n) n ≤ 131072 + n ∧ 131072 < sum z (tot z n) n + n := by
  obtain ⟨i1, i2⟩ := sum_scaled z (tot z n) hT n h n (Nat.le_refl _)
  have hn : 0 < n := by
    cases n with
    | zero => simp [tot] at hT
    | succ n => omega
  constructor
  · have i3 : sum z (tot z n) n * tot z n ≤ (131072 + n) * tot z n := by
      rw [Int.add_mul, Int.mul_comm 131072]; exact i1
    exact Int.le_of_mul_le_mul_right i3 (by omega)
  · have i3 : 131072 * tot z n < (sum z (tot z n) n + n) * tot z n := by
      rw [Int.mul_comm 131072]; omega
    exact Int.lt_of_mul_lt_mul_right i3 (by omega)
end Go.Proofs.Qxb6601581a.Budget
