/- The contract of totalPoints over a row of endpoints. -/
import Derived.Test.Qxb6601581aRows
import Derived.WalkKit
import Derived.ProofKit
import Derived.Outline
import Derived.Below
import Derived.Test.Qxb6601581aPoints
namespace Go.Proofs.Qxb6601581a.Total
open Go.ChangeShapes Go.WideShapes Go.ChangeAt Go.RowKit
open Go.Proofs.Qxb6601581a.Plain Go.Proofs.Qxb6601581a.Points

/-- the sum of the first k unscaled counts -/
def tot (z : Nat → Int) : Nat → Int
  | 0 => 0
  | k + 1 => tot z k + 100 * effW (z k)
theorem tot_bd (z : Nat → Int) (n : Nat) (h : ∀ k, k < n → 0 ≤ z k) (k : Nat) (hk : k ≤ n) : 0 ≤ tot z k ∧ tot z k ≤ 214748364700 * k := by
  induction k with
  | zero => simp [tot]
  | succ k ih =>
    have := ih (by omega)
    have e := effW_bd (z k) (h k (by omega))
    simp only [tot]
    omega

theorem grown_trans {a b c : World} (h : Grown a b) (k : Grown b c) : Grown a c :=
  ⟨World.keptBut_trans h.1 k.1, fun x => (k.2.1 x).trans (h.2.1 x), Nat.le_trans h.2.2 k.2.2⟩

theorem total (b n cap : Nat) (z : Nat → Int) (w : World) (hb : b < w.heap.size) (hn' : n ≤ 1048576) (hz : ∀ k, k < n → 0 ≤ z k)
    (hc0 : ∀ k, k < n → ∃ s, w.cell? ⟨b, k * 2, none⟩ = some (.string s)) (hc1 : ∀ k, k < n → w.cell? ⟨b, k * 2 + 1, none⟩ = some (.int .u32 (z k))) :
    Calls Try.prog 20 #[.slice (some ⟨b, 0, none⟩) n cap] w fun e w' => e = .returned (.int .u64 (tot z n)) ∧ Below w.heap.size w w' ∧ Grown w w' := by
  go_enter Try.func20, Try.ntmps20
  go_wp2
  go_loopw [3, 8] (fun s i wr => ∃ k : Nat, k ≤ n ∧ i = .int .i64 k ∧ s = .int .u64 (tot z k) ∧ Below w.heap.size w wr ∧ Grown w wr) (fun _ i _ => n - (intOf i).toNat)
  case atStart => exact ⟨0, Nat.zero_le _, rfl, rfl, Below.refl _ _, Grown.refl _⟩
  case round =>
    obtain ⟨k, hk, rfl, rfl, hbel, hgr⟩ := hrel
    obtain ⟨t0, t1⟩ := tot_bd z n hz k (by omega)
    by_cases hlt : k < n
    · obtain ⟨s, c0⟩ := hc0 k hlt
      have c0' := (hbel.cell (p := ⟨b, k * 2, none⟩) hb).trans c0
      have c1' := (hbel.cell (p := ⟨b, k * 2 + 1, none⟩) hb).trans (hc1 k hlt)
      clear c0
      have z0 := hz k hlt
      obtain ⟨e1, e2⟩ := effW_bd (z k) z0
      have hb' := hbel.size
      go_wp2_with (go_at_call 25; refine (eff _ _ z0).mono ?_; rintro e w' ⟨rfl, rfl⟩)
      exact ⟨⟨k + 1, by omega, by go_num, rfl, hbel.alloc hb' _, hgr.alloc _ _⟩, by simp [intOf]; omega⟩
    · go_wp2
      go_ret
      exact ⟨ret_int (by rw [show k = n by omega]), hbel, hgr⟩

theorem zzTotal (b n cap : Nat) (z : Nat → Int) (w : World) (hb : b < w.heap.size) (hn' : n ≤ 1048576) (hz : ∀ k, k < n → 0 ≤ z k)
    (hc0 : ∀ k, k < n → ∃ s, w.cell? ⟨b, k * 2, none⟩ = some (.string s)) (hc1 : ∀ k, k < n → w.cell? ⟨b, k * 2 + 1, none⟩ = some (.int .u32 (z k))) :
    Calls Try.prog 12 #[.slice (some ⟨b, 0, none⟩) n cap] w fun e w' => e = .returned (.int .u64 (tot z n)) ∧ Below w.heap.size w w' ∧ Grown w w' := by
  go_enter Try.func12, Try.ntmps12
  go_wp2_with fail
  refine (total b n cap z w hb hn' hz hc0 hc1).mono ?_
  rintro e w' ⟨rfl, hbel⟩
  go_wp2
  go_ret
  exact ⟨rfl, hbel⟩
end Go.Proofs.Qxb6601581a.Total
