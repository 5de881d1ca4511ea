/- Contracts of the functions on the roads of the point-count laws. -/
import Derived.Test.Qxb6601581aRows
import Derived.Test.Qxb6601581aPlain
import Derived.WalkKit
import Derived.ProofKit
import Derived.Below
import Derived.Outline
namespace Go.Proofs.Qxb6601581a.Points
open Go.ChangeShapes Go.WideShapes Go.ChangeAt Go.RowKit
open Go.Proofs.Qxb6601581a.Plain

theorem ret_int {k : IntKind} {a b : Int} (h : a = b) : Ending.returned (.int k a) = .returned (.int k b) := by rw [h]

theorem hide {p : Prop} (h : p) : Hid p := h
theorem wrapDiv (p t : Int) (h1 : 1 ≤ p) (h2 : p ≤ 2147483647) (ht : 0 ≤ t) : wrap64 (100 * p * 131072 / t) = 100 * p * 131072 / t := by
  have h3 : 100 * p * 131072 / t ≤ 100 * p * 131072 := Int.ediv_le_self _ (by omega)
  have h4 : 0 ≤ 100 * p * 131072 / t := Int.ediv_nonneg (by omega) ht
  unfold wrap64
  generalize 100 * p * 131072 / t = q at *
  omega

theorem eff (a : Int) (w : World) (h0 : 0 ≤ a) :
    Calls Try.prog 25 #[.int .u32 a] w fun e w' => e = .returned (.int .u32 (effW a)) ∧ w' = w := by
  go_enter Try.func25, Try.ntmps25
  go_wp2
  · go_ret
    rename_i h
    exact ⟨ret_int (by simp at h; simp [effW, h]), rfl⟩
  · go_ret
    rename_i h h'
    exact ⟨ret_int (by simp at h; simp [effW, h, h']), rfl⟩
  · go_ret
    rename_i h h'
    exact ⟨ret_int (by simp at h; rw [effW, if_neg h, if_neg (by omega)]), rfl⟩

theorem pointCount (a t : Int) (w : World) (h0 : 0 ≤ a) (h2 : 0 ≤ t) :
    Calls Try.prog 21 #[.int .u32 a, .int .u64 t] w fun e w' => e = .returned (.int .i64 (pc (100 * effW a) t)) ∧ w' = w := by
  have hb := effW_bd a h0
  obtain ⟨hb1, hb2⟩ := hb
  by_cases ht : 131072 < t
  · go_enter Try.func21, Try.ntmps21
    go_wp2_with (go_at_call 25; refine (eff _ _ h0).mono ?_; rintro e w' ⟨rfl, rfl⟩)
    · go_ret
      exact ⟨ret_int (by rw [pc, if_pos ht, if_neg (by omega)]; unfold wrap64; omega), rfl⟩
    · go_ret
      exact ⟨ret_int (by rw [pc, if_pos ht, if_pos h]; exact wrapDiv _ _ hb1 hb2 (by omega)), rfl⟩
  · go_enter Try.func21, Try.ntmps21
    go_wp2_with (go_at_call 25; refine (eff _ _ h0).mono ?_; rintro e w' ⟨rfl, rfl⟩)
    go_ret
    exact ⟨ret_int (by rw [pc, if_neg (by omega)]), rfl⟩

theorem clamped (a : Int) (w : World) (h0 : 0 ≤ a) :
    Calls Try.prog 14 #[.int .u32 a] w fun e w' => e = .returned (.int .u64 (effW a)) ∧ w' = w := by
  by_cases c1 : 2147483647 < a
  · go_enter Try.func14, Try.ntmps14
    go_wp2
    go_ret
    exact ⟨ret_int (by rw [effW, if_neg (by omega), if_pos c1]), rfl⟩
  · by_cases c2 : 1 < a
    · go_enter Try.func14, Try.ntmps14
      go_wp2
      go_ret
      exact ⟨ret_int (by rw [effW, if_neg (by omega), if_neg (by omega)]), rfl⟩
    · go_enter Try.func14, Try.ntmps14
      go_wp2
      go_ret
      exact ⟨ret_int (by unfold effW; split <;> omega), rfl⟩

theorem mul (a b : Int) (w : World) (ha : 0 ≤ a) (ha' : a < 18446744073709551616) (hb : 0 ≤ b) (hb' : b < 18446744073709551616) (h : a * b < 18446744073709551616) :
    Calls Try.prog 15 #[.int .u64 a, .int .u64 b] w fun e w' => e = .returned (.tuple #[.int .u64 0, .int .u64 (a * b)]) ∧ w' = w := by
  have hm := hide (mulLaw a b ha ha' hb hb' h)
  clear h ha' hb'
  go_enter Try.func15, Try.ntmps15
  go_wp2
  go_ret2
  obtain ⟨h1, h2⟩ := hm.out
  refine ⟨?_, rfl⟩
  show Ending.returned (.tuple #[.int .u64 _, .int .u64 _]) = _
  rw [h1, h2]

theorem zzPointCount (a t : Int) (w : World) (h0 : 0 ≤ a) (h2 : 0 ≤ t) :
    Calls Try.prog 13 #[.int .u32 a, .int .u64 t] w fun e w' => e = .returned (.int .i64 (pc (100 * effW a) t)) ∧ w' = w := by
  go_enter Try.func13, Try.ntmps13
  go_wp2_with (go_at_call 21; refine (pointCount _ _ _ h0 h2).mono ?_; rintro e w' ⟨rfl, rfl⟩)
  go_ret
  exact ⟨rfl, rfl⟩

end Go.Proofs.Qxb6601581a.Points
