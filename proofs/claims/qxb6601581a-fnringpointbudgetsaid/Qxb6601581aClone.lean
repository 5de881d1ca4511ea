/- The contracts of cloneU32 and endpointsOf. -/
import Derived.Test.Qxb6601581aRows
import Derived.WalkKit
import Derived.ProofKit
import Derived.Outline
import Derived.Below
import Derived.WalkSpells
import Derived.Deep.OwnRows
import Derived.Test.Qxb6601581aPoints
namespace Go.Proofs.Qxb6601581a.Clone
open Go.ChangeShapes Go.WideShapes Go.ChangeAt Go.RowKit
open Go.Proofs.Qxb6601581a.Plain Go.Proofs.Qxb6601581a.Points

theorem info29 : (Try.prog.info? 29).map (fun i => (i.zero, i.size, i.bytes)) = some (some (.int .u32 0), 1, 4) := by kernel_rfl
theorem info32 : (Try.prog.info? 32).map (fun i => (i.zero, i.size, i.bytes)) = some (some (.agg #[.string ByteArray.empty, .int .u32 0]), 2, 24) := by kernel_rfl

theorem make32 (n : Nat) (h : 4 * n ≤ 281474976710656) (w : World) :
    (Instr.makeSlice 22 (.int .i64 (n : Int)) (.int .i64 (n : Int))).run Try.prog w = .ok (.slice (some ⟨w.heap.size, 0, none⟩) n n) (w.alloc (.cells (madeCells #[.int .u32 0] n) 29)) :=
  run_make_row' 22 29 _ 4 Try.underlying22 info29 rfl .i64 .i64 n h (by omega) w

theorem makeEp (n : Nat) (h : 24 * n ≤ 281474976710656) (w : World) :
    (Instr.makeSlice 25 (.int .i64 (n : Int)) (.int .i64 (n : Int))).run Try.prog w = .ok (.slice (some ⟨w.heap.size, 0, none⟩) n n) (w.alloc (.cells (madeCells #[.string ByteArray.empty, .int .u32 0] (n * 2)) 32)) := by
  obtain ⟨i, hi, hzz⟩ := Option.map_eq_some_iff.1 info32
  simp only [Prod.mk.injEq] at hzz
  obtain ⟨hz, hs, hb⟩ := hzz
  have hr := run_make (P := Try.prog) w 25 32 i _ Try.underlying25 hi hz .i64 .i64 n n (by omega) (Int.le_refl _) (by rw [hb]; omega) (by omega)
  rw [hs] at hr
  exact hr

theorem set_upto {f : Nat → Value} {g : Nat → Value} {k : Nat} (h : ∀ j, j < k → f j = g j) (v : Value) (hv : v = g k) :
    ∀ j, j < k + 1 → (fun j => if j = k then v else f j) j = g j := by
  intro j hj
  show (if j = k then v else f j) = g j
  by_cases e : j = k
  · rw [if_pos e, e, hv]
  · rw [if_neg e]; exact h j (by omega)

theorem set_pair {f : Nat → Value} {z : Nat → Int} {k : Nat} (h : ∀ j, j < k → f (j * 2) = .string ByteArray.empty ∧ f (j * 2 + 1) = .int .u32 (z j)) :
    ∀ j, j < k + 1 → (fun i => if i = k * 2 + 1 then Value.int .u32 (z k) else (fun i => if i = k * 2 then Value.string { data := #[] } else f i) i) (j * 2) = .string ByteArray.empty ∧
      (fun i => if i = k * 2 + 1 then Value.int .u32 (z k) else (fun i => if i = k * 2 then Value.string { data := #[] } else f i) i) (j * 2 + 1) = .int .u32 (z j) := by
  intro j hj
  by_cases e : j = k
  · subst e
    simp only
    rw [if_neg (by omega)]
    exact ⟨if_pos trivial, if_pos trivial⟩
  · simp only
    rw [if_neg (by omega), if_neg (by omega), if_neg (by omega), if_neg (by omega)]
    exact h j (by omega)

theorem made_rowIs (w : World) (c : Array Value) (n : Nat) (t : TypeId) (hn : c.size = n) : ∃ f, (w.alloc (.cells c t)).rowIs w.heap.size t n f := by
  subst hn
  exact ⟨fun i => c[i]?.getD undef, World.rowIs_alloc w c t _ fun i hi => by simp [hi]⟩

set_option maxHeartbeats 400000 in
theorem clone_row (b off n cap : Nat) (z : Nat → Int) (w : World) (hb : b < w.heap.size) (hn : n ≤ 1048576)
    (hc : ∀ k, k < n → w.cell? ⟨b, off + k, none⟩ = some (.int .u32 (z k))) :
    Calls Try.prog 10 #[.slice (some ⟨b, off, none⟩) n cap] w fun e w' => e = .returned (.slice (some ⟨w.heap.size, 0, none⟩) n n) ∧ Below w.heap.size w w' ∧ w.heap.size < w'.heap.size ∧ ∀ k, k < n → w'.cell? ⟨w.heap.size, k, none⟩ = some (.int .u32 (z k)) := by
  have hmk := make32 n (by omega)
  have hnil := fun (w : World) => Lib.run_eql_slice_nil (P := Try.prog) w 22 29 (some ⟨b, off, none⟩) n cap 0 0 Try.underlying22
  go_enter Try.func10, Try.ntmps10
  go_wp2
  go_loopw [4] (fun i wr => ∃ (k : Nat) (f : Nat → Value), k ≤ n ∧ i = .int .i64 k ∧ wr.rowIs w.heap.size 29 n f ∧ (∀ j, j < k → f j = .int .u32 (z j)) ∧ Below w.heap.size w wr) (fun i _ => n - (intOf i).toNat)
  case atStart => exact ⟨0, _, Nat.zero_le _, rfl, World.rowIs_made _ _ _ _, fun j hj => by omega, (Below.refl _ _).alloc (Nat.le_refl _) _⟩
  case round =>
    obtain ⟨k, f, hk, rfl, hrow, hf, hbel⟩ := hrel
    by_cases hlt : k < n
    · have c0 := (hbel.cell (p := ⟨b, off + k, none⟩) hb).trans (hc k hlt)
      have c1 := hrow.cell hlt
      have c2 := hrow.frozen k
      clear hnil hmk
      go_wp2
      exact ⟨⟨k + 1, _, by omega, by go_num, hrow.set k _, set_upto hf _ rfl, hbel.setCell (Nat.le_refl _) _⟩, by simp [intOf]; omega⟩
    · go_wp2
      go_ret
      obtain rfl : k = n := by omega
      exact ⟨rfl, hbel, hrow.lt, fun j hj => by rw [hrow.cell hj, hf j hj]⟩

set_option maxHeartbeats 400000 in
theorem eps_row (b off n cap : Nat) (z : Nat → Int) (w : World) (hb : b < w.heap.size) (hn : n ≤ 1048576)
    (hc : ∀ k, k < n → w.cell? ⟨b, off + k, none⟩ = some (.int .u32 (z k))) :
    Calls Try.prog 11 #[.slice (some ⟨b, off, none⟩) n cap] w fun e w' => e = .returned (.slice (some ⟨w.heap.size, 0, none⟩) n n) ∧ Below w.heap.size w w' ∧ w.heap.size < w'.heap.size ∧
      ∀ k, k < n → w'.cell? ⟨w.heap.size, k * 2, none⟩ = some (.string ByteArray.empty) ∧ w'.cell? ⟨w.heap.size, k * 2 + 1, none⟩ = some (.int .u32 (z k)) := by
  have hmk := makeEp n (by omega)
  go_enter Try.func11, Try.ntmps11
  go_wp2
  go_loopw [4] (fun i wr => ∃ (k : Nat) (f : Nat → Value), k ≤ n ∧ i = .int .i64 k ∧ wr.rowIs w.heap.size 32 (n * 2) f ∧ (∀ j, j < k → f (j * 2) = .string ByteArray.empty ∧ f (j * 2 + 1) = .int .u32 (z j)) ∧ Below w.heap.size w wr) (fun i _ => n - (intOf i).toNat)
  case atStart =>
    obtain ⟨f, hf⟩ := made_rowIs w (madeCells #[.string ByteArray.empty, .int .u32 0] (n * 2)) (n * 2) 32 (size_madeCells _ _)
    exact ⟨0, f, Nat.zero_le _, rfl, hf, fun j hj => by omega, (Below.refl _ _).alloc (Nat.le_refl _) _⟩
  case round =>
    obtain ⟨k, f, hk, rfl, hrow, hf, hbel⟩ := hrel
    by_cases hlt : k < n
    · have c0 := (hbel.cell (p := ⟨b, off + k, none⟩) hb).trans (hc k hlt)
      have c1 := hrow.cell (i := k * 2) (by omega)
      have c2 := hrow.frozen (k * 2)
      have c3 := hrow.cell (i := k * 2 + 1) (by omega)
      have c4 := hrow.frozen (k * 2 + 1)
      clear hmk
      go_wp2
      exact ⟨⟨k + 1, _, by omega, by go_num, (hrow.set (k * 2) _).set (k * 2 + 1) _, set_pair hf, (hbel.setCell (Nat.le_refl _) _).setCell (Nat.le_refl _) _⟩, by simp [intOf]; omega⟩
    · go_wp2
      go_ret
      obtain rfl : k = n := by omega
      exact ⟨rfl, hbel, hrow.lt, fun j hj => by rw [hrow.cell (i := j * 2) (by omega), hrow.cell (i := j * 2 + 1) (by omega), (hf j hj).1, (hf j hj).2]; exact ⟨rfl, rfl⟩⟩

/-- what is known of the slice of weights: its first n elements are the numbers z -/
def Src (w : World) (a : Option Addr) (n : Nat) (z : Nat → Int) : Prop :=
  ∀ k, k < n → ∃ b off, a = some ⟨b, off, none⟩ ∧ b < w.heap.size ∧ w.cell? ⟨b, off + k, none⟩ = some (.int .u32 (z k))

theorem Src.row {w : World} {a : Option Addr} {n : Nat} {z : Nat → Int} (h : Src w a n z) (hn : 0 < n) :
    ∃ b off, a = some ⟨b, off, none⟩ ∧ b < w.heap.size ∧ ∀ k, k < n → w.cell? ⟨b, off + k, none⟩ = some (.int .u32 (z k)) := by
  obtain ⟨b, off, rfl, hb, _⟩ := h 0 hn
  refine ⟨b, off, rfl, hb, fun k hk => ?_⟩
  obtain ⟨b', off', e, _, hc⟩ := h k hk
  simp only [Option.some.injEq, Addr.mk.injEq] at e
  obtain ⟨rfl, rfl, _⟩ := e
  exact hc

theorem clone_any (a : Option Addr) (n cap : Nat) (z : Nat → Int) (w : World) (hn : n ≤ 1048576) (h : Src w a n z) (hnil : a = none → cap = 0) :
    Calls Try.prog 10 #[.slice a n cap] w fun e w' => ∃ a' cap', e = .returned (.slice a' n cap') ∧ Below w.heap.size w w' ∧ w.heap.size ≤ w'.heap.size ∧ Src w' a' n z := by
  by_cases h0 : 0 < n
  · obtain ⟨b, off, rfl, hb, hc⟩ := h.row h0
    refine (clone_row b off n cap z w hb hn hc).mono ?_
    rintro e w' ⟨rfl, hbel, hlt, hc'⟩
    exact ⟨_, _, rfl, hbel, Nat.le_of_lt hlt, fun k hk => ⟨w.heap.size, 0, rfl, hlt, by rw [Nat.zero_add]; exact hc' k hk⟩⟩
  · obtain rfl : n = 0 := by omega
    clear h h0 hn
    cases a with
    | none =>
      obtain rfl := hnil rfl
      clear hnil
      have hq : ∀ w : World, (binOp .eql 22 (.slice none 0 0) (.slice none 0 0)).run Try.prog w = .ok (.bool true) w := fun w => Lib.run_eql_slice_nil (P := Try.prog) w 22 29 none 0 0 0 0 Try.underlying22
      go_enter Try.func10, Try.ntmps10
      go_wp2
      go_ret
      exact ⟨none, 0, rfl, Below.refl _ _, Nat.le_refl _, fun k hk => by omega⟩
    | some x =>
      clear hnil
      have hmk : ∀ w : World, (Instr.makeSlice 22 (.int .i64 0) (.int .i64 0)).run Try.prog w = .ok (.slice (some ⟨w.heap.size, 0, none⟩) 0 0) (w.alloc (.cells (madeCells #[.int .u32 0] 0) 29)) := make32 0 (by omega)
      have hq := fun (w : World) => Lib.run_eql_slice_nil (P := Try.prog) w 22 29 (some x) 0 cap 0 0 Try.underlying22
      go_enter Try.func10, Try.ntmps10
      go_wp2
      refine wp_loop_rounds 1 ?_
      rw [rounds_succ]
      go_wp2
      go_ret
      exact ⟨_, _, rfl, (Below.refl _ _).alloc (Nat.le_refl _) _, by simp, fun k hk => by omega⟩

theorem eps_any (a : Option Addr) (n cap : Nat) (z : Nat → Int) (w : World) (hn : n ≤ 1048576) (h : Src w a n z) :
    Calls Try.prog 11 #[.slice a n cap] w fun e w' => e = .returned (.slice (some ⟨w.heap.size, 0, none⟩) n n) ∧ Below w.heap.size w w' ∧ w.heap.size < w'.heap.size ∧
      ∀ k, k < n → w'.cell? ⟨w.heap.size, k * 2, none⟩ = some (.string ByteArray.empty) ∧ w'.cell? ⟨w.heap.size, k * 2 + 1, none⟩ = some (.int .u32 (z k)) := by
  by_cases h0 : 0 < n
  · obtain ⟨b, off, rfl, hb, hc⟩ := h.row h0
    exact eps_row b off n cap z w hb hn hc
  · obtain rfl : n = 0 := by omega
    clear h h0 hn
    have hmk : ∀ w : World, (Instr.makeSlice 25 (.int .i64 0) (.int .i64 0)).run Try.prog w = .ok (.slice (some ⟨w.heap.size, 0, none⟩) 0 0) (w.alloc (.cells (madeCells #[.string ByteArray.empty, .int .u32 0] (0 * 2)) 32)) := makeEp 0 (by omega)
    go_enter Try.func11, Try.ntmps11
    go_wp2
    refine wp_loop_rounds 1 ?_
    rw [rounds_succ]
    go_wp2
    go_ret
    exact ⟨rfl, (Below.refl _ _).alloc (Nat.le_refl _) _, by simp, fun k hk => by omega⟩
end Go.Proofs.Qxb6601581a.Clone
