/- Digit runs and their values: plain mathematics, no Go in sight. -/
import Derived.Lib.Strings
namespace Go.Proofs.Qxb6603029a.Plain

/-- the byte at place k, as a number; 0 beyond the end -/
def byte (s : ByteArray) (k : Nat) : Int := if h : k < s.size then ((s[k]'h).toNat : Int) else 0

theorem byte_at (s : ByteArray) (k : Nat) (h : k < s.size) : byte s k = ((s[k]'h).toNat : Int) := by rw [byte, dif_pos h]
theorem byte_end (s : ByteArray) (k : Nat) (h : ¬ k < s.size) : byte s k = 0 := by rw [byte, dif_neg h]

def dg (s : ByteArray) (k : Nat) : Prop := 48 ≤ byte s k ∧ byte s k ≤ 57

/-- the digits of s from place a on end at place e -/
def IsRun (s : ByteArray) (a e : Nat) : Prop := a ≤ e ∧ e ≤ s.size ∧ (∀ k, a ≤ k → k < e → dg s k) ∧ ¬ dg s e

theorem IsRun.same {s : ByteArray} {a e e' : Nat} (h : IsRun s a e) (h' : IsRun s a e') : e = e' := by
  obtain ⟨h1, _, h2, h3⟩ := h
  obtain ⟨k1, _, k2, k3⟩ := h'
  rcases Nat.lt_trichotomy e e' with g | g | g
  · exact absurd (k2 e h1 g) h3
  · exact g
  · exact absurd (h2 e' k1 g) k3

theorem byte_extract (s : ByteArray) (a b k : Nat) (h : a + k < b) (hb : b ≤ s.size) : byte (s.extract a b) k = byte s (a + k) := by
  have h1 : k < (s.extract a b).size := by simp [ByteArray.size_extract]; omega
  rw [byte_at _ _ h1, byte_at _ _ (by omega)]
  simp [ByteArray.getElem_extract]

theorem isRun_extract {s : ByteArray} {a e : Nat} (ha : a ≤ s.size) (h : IsRun (s.extract a s.size) 0 e) : IsRun s a (a + e) := by
  obtain ⟨_, h1, h2, h3⟩ := h
  have hz : (s.extract a s.size).size = s.size - a := by simp [ByteArray.size_extract]
  rw [hz] at h1
  refine ⟨by omega, by omega, fun k hk hk' => ?_, fun hd => h3 ?_⟩
  · have := h2 (k - a) (by omega) (by omega)
    unfold dg at *
    rw [byte_extract _ _ _ _ (by omega) (Nat.le_refl _), show a + (k - a) = k by omega] at this
    exact this
  · by_cases g : a + e < s.size
    · unfold dg at *
      rw [byte_extract _ _ _ _ (by omega) (Nat.le_refl _)]
      exact hd
    · unfold dg at hd
      rw [byte_end _ _ g] at hd
      omega

/-- the value of the k digits from place a on -/
def val (s : ByteArray) (a : Nat) : Nat → Int
  | 0 => 0
  | k + 1 => val s a k * 10 + (byte s (a + k) - 48)

theorem val_split (s : ByteArray) (a m k : Nat) : val s a (m + k) = val s a m * 10 ^ k + val s (a + m) k := by
  induction k with
  | zero => simp [val]
  | succ k ih =>
    rw [← Nat.add_assoc]
    simp only [val]
    rw [ih, Int.pow_succ, Int.add_mul, Nat.add_assoc a m k, Int.mul_assoc]
    omega

theorem val_bd (s : ByteArray) (a n : Nat) (h : ∀ k, k < n → dg s (a + k)) (k : Nat) (hk : k ≤ n) : 0 ≤ val s a k ∧ val s a k < 10 ^ k := by
  induction k with
  | zero => simp [val]
  | succ k ih =>
    have := ih (by omega)
    have hd := h k (by omega)
    unfold dg at hd
    simp only [val]
    rw [Int.pow_succ]
    omega

theorem val_zero (s : ByteArray) (a n : Nat) (h : ∀ k, k < n → byte s (a + k) = 48) (k : Nat) (hk : k ≤ n) : val s a k = 0 := by
  induction k with
  | zero => simp [val]
  | succ k ih =>
    have := ih (by omega)
    have hd := h k (by omega)
    simp only [val]
    omega

theorem val_congr (s t : ByteArray) (a b : Nat) (n : Nat) (h : ∀ k, k < n → byte s (a + k) = byte t (b + k)) (k : Nat) (hk : k ≤ n) : val s a k = val t b k := by
  induction k with
  | zero => rfl
  | succ k ih =>
    simp only [val]
    rw [ih (by omega), h k (by omega)]

/-- a number held within a hundred million -/
def sat (x : Int) : Int := if x < 100000000 then x else 100000000

theorem sat_step (x d : Int) (hd : 0 ≤ d) : sat (sat x * 10 + d) = sat (x * 10 + d) := by
  by_cases h : x < 100000000
  · rw [show sat x = x from if_pos h]
  · rw [show sat x = 100000000 from if_neg h, show sat (100000000 * 10 + d) = 100000000 from if_neg (by omega), show sat (x * 10 + d) = 100000000 from if_neg (by omega)]

theorem sat_bd (x : Int) (hx : 0 ≤ x) : 0 ≤ sat x ∧ sat x ≤ 100000000 := by
  unfold sat; split <;> omega

theorem pow9 (k : Nat) (h : 9 ≤ k) : (1000000000 : Int) ≤ 10 ^ k := by
  obtain ⟨j, rfl⟩ := Nat.exists_eq_add_of_le h
  induction j with
  | zero => decide
  | succ j ih =>
    rw [← Nat.add_assoc, Int.pow_succ]
    have := ih (by omega)
    omega
theorem powLe9 (k : Nat) (h : k ≤ 9) : (10 : Int) ^ k ≤ 1000000000 := by
  have : ∀ k : Fin 10, (10 : Int) ^ k.val ≤ 1000000000 := by decide
  exact this ⟨k, by omega⟩

/-- ten or more significant digits exceed a hundred million -/
theorem val_big (s : ByteArray) (i n : Nat) (h : ∀ k, k < n → dg s k) (hi : i ≤ n) (hz : ∀ k, k < i → byte s k = 48) (h1 : byte s i ≠ 48) (hn : 9 < n - i) :
    sat (val s 0 n) = 100000000 := by
  have e : val s 0 n = val s 0 (i + (1 + (n - i - 1))) := by congr 1; omega
  rw [e, val_split, val_zero s 0 i (fun k hk => by rw [Nat.zero_add]; exact hz k hk) i (Nat.le_refl _), Nat.zero_add, val_split]
  have v1 : val s i 1 = byte s i - 48 := by simp [val]
  have d1 := h i (by omega)
  unfold dg at d1
  obtain ⟨v2, _⟩ := val_bd s (i + 1) (n - i - 1) (fun k hk => h _ (by omega)) (n - i - 1) (Nat.le_refl _)
  have p := pow9 (n - i - 1) (by omega)
  have q : 1 * 10 ^ (n - i - 1) ≤ (byte s i - 48) * 10 ^ (n - i - 1) := Int.mul_le_mul_of_nonneg_right (by omega) (by omega)
  rw [v1]
  unfold sat
  rw [if_neg]
  omega

/-- leading zeros add nothing -/
theorem val_sig (s : ByteArray) (i n : Nat) (hi : i ≤ n) (hz : ∀ k, k < i → byte s k = 48) : val s 0 n = val s i (n - i) := by
  have e : val s 0 n = val s 0 (i + (n - i)) := by congr 1; omega
  rw [e, val_split, val_zero s 0 i (fun k hk => by rw [Nat.zero_add]; exact hz k hk) i (Nat.le_refl _), Nat.zero_add]
  omega

end Go.Proofs.Qxb6603029a.Plain
