/- Contracts of the functions on the roads of the two laws on lanes. -/
import Derived.Test.Qxb6603911aRows
import Derived.WalkKit
import Derived.ProofKit
import Derived.Outline
import Derived.Below
import Derived.WalkSpells
import Derived.Deep.QuietTactic
import Derived.BigQuiet
import Derived.Deep.RegionWith
import Derived.Deep.OwnRows
namespace Go.Proofs.Qxb6603911a.Lanes
open Go.ChangeShapes Go.WideShapes Go.ChangeAt Go.RowKit

/-- nothing old has turned; there are at most new blocks -/
def Kept (w w' : World) : Prop := Below w.heap.size w w' ∧ Grown w w'
theorem grown_trans {a b c : World} (h : Grown a b) (k : Grown b c) : Grown a c :=
  ⟨World.keptBut_trans h.1 k.1, fun x => (k.2.1 x).trans (h.2.1 x), Nat.le_trans h.2.2 k.2.2⟩
theorem Kept.refl (w : World) : Kept w w := ⟨Below.refl _ _, Grown.refl _⟩
theorem Kept.trans {a b c : World} (h : Kept a b) (k : Kept b c) : Kept a c :=
  ⟨h.1.trans (k.1.mono h.2.2.2), grown_trans h.2 k.2⟩
theorem Kept.alloc {a b : World} (h : Kept a b) (c : Array Value) (t : TypeId) : Kept a (b.alloc (.cells c t)) :=
  ⟨h.1.alloc h.2.2.2 _, h.2.alloc _ _⟩
theorem Kept.drew {a b : World} (h : Kept a b) : Kept a b.drew := ⟨h.1.drew, h.2.drew⟩
theorem Kept.drewN {a b : World} (h : Kept a b) (n : Nat) : Kept a (b.drewN n) := by
  induction n with
  | zero => exact h
  | succ n ih => exact ih.drew
theorem Kept.size {a b : World} (h : Kept a b) : a.heap.size ≤ b.heap.size := h.2.2.2
theorem Kept.cell {a b : World} (h : Kept a b) {p : Addr} {v : Value} (hc : a.cell? p = some v) : b.cell? p = some v :=
  (h.1.cell (p := p) (block_lt_of_cell hc)).trans hc


theorem releases (k v : ByteArray) (w : World) :
    Calls Try.prog 12 #[.agg #[.string k, .string v]] w fun e w' => e = .returned (.agg #[.string k, .string ⟨#[]⟩]) ∧
      w' = (w.alloc (.cells #[.string k, .string v] 31)).alloc (.cells #[.string k, .string ⟨#[]⟩] 31) := by
  go_enter Try.func12, Try.ntmps12
  go_wp2
  exact bodyPost_ret (v := .agg #[.string k, .string ⟨#[]⟩]) (by simp [results, Try.results12, go_sem]) rfl ⟨rfl, rfl⟩

theorem after_no (s : Int) (k v : ByteArray) (w : World) (hs : (s == 0) = false) :
    Calls Try.prog 10 #[.int .i64 s, .agg #[.string k, .string v]] w fun e w' => e = .returned (.agg #[.string k, .string v]) ∧
      w' = (w.alloc (.cells #[.string k, .string v] 31)).alloc (.cells #[.string k, .string v] 31) := by
  go_enter Try.func10, Try.ntmps10
  go_wp2
  exact bodyPost_ret (v := .agg #[.string k, .string v]) (by simp [results, Try.results10, go_sem]) rfl ⟨rfl, rfl⟩

theorem after_set (k v : ByteArray) (w : World) :
    Calls Try.prog 10 #[.int .i64 0, .agg #[.string k, .string v]] w fun e w' => e = .returned (.agg #[.string k, .string ⟨#[]⟩]) ∧
      w' = (((w.alloc (.cells #[.string k, .string v] 31)).alloc (.cells #[.string k, .string ⟨#[]⟩] 31)).alloc (.cells #[.string k, .string v] 31)).alloc (.cells #[.string k, .string ⟨#[]⟩] 31) := by
  go_enter Try.func10, Try.ntmps10
  go_wp2_with (go_at_call 12; refine (releases k v _).mono ?_; rintro e w1 ⟨rfl, rfl⟩)
  exact bodyPost_ret (v := .agg #[.string k, .string ⟨#[]⟩]) (by simp [results, Try.results10, go_sem]) rfl ⟨rfl, rfl⟩

theorem zzAfter_no (s : Int) (k v : ByteArray) (w : World) (hs : (s == 0) = false) :
    Calls Try.prog 6 #[.int .i64 s, .string k, .string v] w fun e w' => e = .returned (.tuple #[.string k, .string v]) ∧ Kept w w' := by
  go_enter Try.func6, Try.ntmps6
  go_wp2_with (go_at_call 10; refine (after_no s k v _ hs).mono ?_; rintro e w1 ⟨rfl, rfl⟩)
  go_quiet (fail)
  go_wp2
  go_ret2
  exact ⟨rfl, ((((Kept.refl _).alloc _ _).alloc _ _).alloc _ _).drewN _⟩
theorem zzAfter_set (k v : ByteArray) (w : World) :
    Calls Try.prog 6 #[.int .i64 0, .string k, .string v] w fun e w' => e = .returned (.tuple #[.string k, .string ⟨#[]⟩]) ∧ Kept w w' := by
  go_enter Try.func6, Try.ntmps6
  go_wp2_with (go_at_call 10; refine (after_set k v _).mono ?_; rintro e w1 ⟨rfl, rfl⟩)
  go_quiet (fail)
  go_wp2
  go_ret2
  exact ⟨rfl, ((((((Kept.refl _).alloc _ _).alloc _ _).alloc _ _).alloc _ _).alloc _ _).drewN _⟩

theorem joins_one (s : Int) (k v : ByteArray) (w : World) (hs : (s == 2) = false) :
    Calls Try.prog 11 #[.int .i64 s, .agg #[.string k, .string v]] w fun e w' => ∃ b, e = .returned (.slice (some ⟨b, 0, none⟩) 1 1) ∧ Kept w w' ∧ b < w'.heap.size ∧
      w'.cell? ⟨b, 0, none⟩ = some (.string k) ∧ w'.cell? ⟨b, 1, none⟩ = some (.string v) := by
  go_enter Try.func11, Try.ntmps11
  go_wp2
  go_ret
  exact ⟨_, rfl, ((Kept.refl _).alloc _ _).alloc _ _, by simp, by simp [go_sem], by simp [go_sem]⟩
theorem joins_two (k v : ByteArray) (w : World) :
    Calls Try.prog 11 #[.int .i64 2, .agg #[.string k, .string v]] w fun e w' => ∃ b, e = .returned (.slice (some ⟨b, 0, none⟩) 2 2) ∧ Kept w w' ∧ b < w'.heap.size ∧
      w'.cell? ⟨b, 0, none⟩ = some (.string k) ∧ w'.cell? ⟨b, 1, none⟩ = some (.string v) ∧ w'.cell? ⟨b, 2, none⟩ = some (.string k) ∧ w'.cell? ⟨b, 3, none⟩ = some (.string ⟨#[]⟩) := by
  go_enter Try.func11, Try.ntmps11
  go_wp2
  go_region_with (go_at_call 12; refine (releases k v _).mono ?_; rintro e w1 ⟨rfl, rfl⟩)
  all_goals
    go_wp2
    go_ret
    refine ⟨_, rfl, ?_, by simp, by simp [go_sem], by simp [go_sem], by simp [go_sem], by simp [go_sem]⟩
    repeat (first | exact Kept.refl _ | apply Kept.drew | apply Kept.alloc)

theorem zzJoins_one (s : Int) (k v : ByteArray) (w : World) (hs : (s == 2) = false) :
    Calls Try.prog 7 #[.int .i64 s, .string k, .string v] w fun e w' => ∃ b c, e = .returned (.tuple #[.slice (some ⟨b, 0, none⟩) 1 1, .slice (some ⟨c, 0, none⟩) 1 1]) ∧ Kept w w' ∧
      w'.cell? ⟨b, 0, none⟩ = some (.string k) ∧ w'.cell? ⟨c, 0, none⟩ = some (.string v) := by
  have hmk : ∀ w : World, (Instr.makeSlice 25 (.int .i64 1) (.int .i64 1)).run Try.prog w = .ok (.slice (some ⟨w.heap.size, 0, none⟩) 1 1) (w.alloc (.cells #[.string ByteArray.empty] 9)) := fun _ => by kernel_rfl
  go_enter Try.func7, Try.ntmps7
  go_wp2_with fail
  refine (joins_one s k v _ hs).mono ?_
  rintro e w1 ⟨b, rfl, hk, hb, c0, c1⟩
  go_wp2
  refine wp_loop_rounds 2 ?_
  rw [rounds_succ]
  go_wp2
  rw [rounds_succ]
  go_wp2
  go_ret2
  exact ⟨_, _, rfl, (hk.alloc _ _).alloc _ _, by simp [go_sem], by simp [go_sem]⟩

theorem zzJoins_two (k v : ByteArray) (w : World) :
    Calls Try.prog 7 #[.int .i64 2, .string k, .string v] w fun e w' => ∃ b c, e = .returned (.tuple #[.slice (some ⟨b, 0, none⟩) 2 2, .slice (some ⟨c, 0, none⟩) 2 2]) ∧ Kept w w' ∧
      w'.cell? ⟨b, 0, none⟩ = some (.string k) ∧ w'.cell? ⟨c, 0, none⟩ = some (.string v) ∧ w'.cell? ⟨b, 1, none⟩ = some (.string k) ∧ w'.cell? ⟨c, 1, none⟩ = some (.string ⟨#[]⟩) := by
  have hmk : ∀ w : World, (Instr.makeSlice 25 (.int .i64 2) (.int .i64 2)).run Try.prog w = .ok (.slice (some ⟨w.heap.size, 0, none⟩) 2 2) (w.alloc (.cells #[.string ByteArray.empty, .string ByteArray.empty] 9)) := fun _ => by kernel_rfl
  go_enter Try.func7, Try.ntmps7
  go_wp2_with fail
  refine (joins_two k v _).mono ?_
  rintro e w1 ⟨b, rfl, hk, hb, c0, c1, c2, c3⟩
  go_wp2
  refine wp_loop_rounds 3 ?_
  rw [rounds_succ]
  go_wp2
  rw [rounds_succ]
  go_wp2
  rw [rounds_succ]
  go_wp2
  go_ret2
  exact ⟨_, _, rfl, (hk.alloc _ _).alloc _ _, by simp [go_sem], by simp [go_sem], by simp [go_sem], by simp [go_sem]⟩

/-! ### zzb1Contains -/
theorem contains_one_yes (b c : Nat) (k v : ByteArray) (w : World) (h0 : w.cell? ⟨b, 0, none⟩ = some (.string k)) (h1 : w.cell? ⟨c, 0, none⟩ = some (.string v)) :
    Calls Try.prog 8 #[.slice (some ⟨b, 0, none⟩) 1 1, .slice (some ⟨c, 0, none⟩) 1 1, .string k, .string v] w fun e w' => e = .returned (.bool true) ∧ w' = w := by
  go_enter Try.func8, Try.ntmps8
  go_wp2
  refine wp_loop_rounds 1 ?_
  rw [rounds_succ]
  go_wp2
  go_ret
  exact ⟨rfl, rfl⟩
theorem contains_one_no (b c : Nat) (k v : ByteArray) (w : World) (h0 : w.cell? ⟨b, 0, none⟩ = some (.string k)) (h1 : w.cell? ⟨c, 0, none⟩ = some (.string v)) (hv : v.toList.isEmpty = false) :
    Calls Try.prog 8 #[.slice (some ⟨b, 0, none⟩) 1 1, .slice (some ⟨c, 0, none⟩) 1 1, .string k, .string ⟨#[]⟩] w fun e w' => e = .returned (.bool false) ∧ w' = w := by
  go_enter Try.func8, Try.ntmps8
  go_wp2
  refine wp_loop_rounds 2 ?_
  rw [rounds_succ]
  go_wp2
  rw [rounds_succ]
  go_wp2
  go_ret
  exact ⟨rfl, rfl⟩
theorem contains_two_first (b c : Nat) (k v : ByteArray) (w : World) (h0 : w.cell? ⟨b, 0, none⟩ = some (.string k)) (h1 : w.cell? ⟨c, 0, none⟩ = some (.string v)) :
    Calls Try.prog 8 #[.slice (some ⟨b, 0, none⟩) 2 2, .slice (some ⟨c, 0, none⟩) 2 2, .string k, .string v] w fun e w' => e = .returned (.bool true) ∧ w' = w := by
  go_enter Try.func8, Try.ntmps8
  go_wp2
  refine wp_loop_rounds 1 ?_
  rw [rounds_succ]
  go_wp2
  go_ret
  exact ⟨rfl, rfl⟩
theorem contains_two_second (b c : Nat) (k v : ByteArray) (w : World) (h0 : w.cell? ⟨b, 0, none⟩ = some (.string k)) (h1 : w.cell? ⟨c, 0, none⟩ = some (.string v)) (h2 : w.cell? ⟨b, 1, none⟩ = some (.string k)) (h3 : w.cell? ⟨c, 1, none⟩ = some (.string ⟨#[]⟩)) :
    Calls Try.prog 8 #[.slice (some ⟨b, 0, none⟩) 2 2, .slice (some ⟨c, 0, none⟩) 2 2, .string k, .string ⟨#[]⟩] w fun e w' => e = .returned (.bool true) ∧ w' = w := by
  cases hv : v.toList.isEmpty
  · go_enter Try.func8, Try.ntmps8
    go_wp2
    refine wp_loop_rounds 2 ?_
    rw [rounds_succ]
    go_wp2
    rw [rounds_succ]
    go_wp2
    go_ret
    exact ⟨rfl, rfl⟩
  · go_enter Try.func8, Try.ntmps8
    go_wp2
    refine wp_loop_rounds 2 ?_
    rw [rounds_succ]
    go_wp2
    go_ret
    exact ⟨rfl, rfl⟩
end Go.Proofs.Qxb6603911a.Lanes
