/-
  The frame of the kit's shell for this statement, its walk filled in.
-/
import Derived.Test.Qxb6601581aRows
import Derived.WalkKit
import Derived.ProofKit
import Derived.OpenShut
import Derived.ShutString
import Derived.ChangeOld
import Derived.Below
import Derived.Test.Qxb6601581aClone
import Derived.Test.Qxb6601581aBudget
namespace Go.Proofs.Qxb6601581a.fnRingPointBudget
open Go.ChangeShapes Go.WideShapes Go.ChangeAt Go.RowKit
open Go.ChangeMaps (open_string shut_string)
open Go.Proofs.Qxb6601581a.Plain Go.Proofs.Qxb6601581a.Points Go.Proofs.Qxb6601581a.Total Go.Proofs.Qxb6601581a.Clone
set_option linter.unusedVariables false

theorem own : ownKnob Try.prog.godebug = none := by kernel_rfl
theorem laidOut : laidOutB Try.prog = true := by kernel_rfl

/-- WHAT THE WALK IS TOLD OF A SLICE OF INTEGERS THAT CAME IN: it is nil; or it leads to a row of 'cap' cells, the numbers 'zs' (the first 'len' are its elements, the rest its spare room), each fitting its kind. -/
def IsRow (k : IntKind) (w : World) (a : Option Addr) (len cap : Nat) (zs : List Int) : Prop :=
  (a = none ∧ len = 0 ∧ cap = 0 ∧ zs = []) ∨
  ∃ x, a = some x ∧ len ≤ cap ∧ cap ≤ maxLen ∧ zs.length = cap ∧ (∀ i, i < zs.length → w.cell? (x.add i) = some (.int k (zs.getD i 0))) ∧ ∀ n ∈ zs, (Lit.int k n).wf = true

theorem src_of {w : World} {a : Option Addr} {len cap : Nat} {zs : List Int} (h : IsRow .u32 w a len cap zs) : Src w a len (fun k => zs.getD k 0) := by
  intro k hk
  rcases h with ⟨_, h, _⟩ | ⟨x, rfl, hl, _, hc, hcell, _⟩
  · omega
  · obtain ⟨b, off, rfl, hj⟩ := ints_at hcell (by omega)
    exact ⟨b, off, rfl, block_lt_of_cell (hj k (by omega)), hj k (by omega)⟩

theorem z_of {w : World} {a : Option Addr} {len cap : Nat} {zs : List Int} (h : IsRow .u32 w a len cap zs) : ∀ k, k < len → 0 ≤ (fun k => zs.getD k 0) k := by
  intro k hk
  rcases h with ⟨_, h, _⟩ | ⟨x, rfl, hl, _, hc, _, hw⟩
  · omega
  · have hm : zs.getD k 0 ∈ zs := by
      rw [List.getD_eq_getElem?_getD, List.getElem?_eq_getElem (by omega)]
      exact List.getElem_mem _
    exact (bounds_u32 (hw _ hm)).1

theorem walk_small (a0 : Option Addr) (n cap : Nat) (z : Nat → Int) (w : World) (hn : n ≤ 65536) (hsrc : Src w a0 n z) (hz : ∀ k, k < n → 0 ≤ z k) (hnil : a0 = none → cap = 0) :
    Calls Try.prog 6 #[.slice a0 n cap] w fun e w' => e = .returned (.bool true) ∧ Below w.heap.size w w' := by
  go_enter Try.func6, Try.ntmps6
  go_wp2_with (first | (go_at_call 16; go_in))
  refine (clone_any a0 n cap z w (by omega) hsrc hnil).mono ?_
  rintro e w1 ⟨a1, cap1, rfl, hb1, hs1, hsrc1⟩
  clear hsrc hnil
  go_wp2_with fail
  refine (eps_any a1 n cap1 z w1 (by omega) hsrc1).mono ?_
  rintro e w2 ⟨rfl, hb2, hs2, hc2⟩
  clear hsrc1
  go_wp2_with fail
  refine (zzTotal w1.heap.size n n z w2 hs2 (by omega) hz (fun k hk => ⟨_, (hc2 k hk).1⟩) (fun k hk => (hc2 k hk).2)).mono ?_
  rintro e w3 ⟨rfl, hb3, _⟩
  have hc3 : ∀ k, k < n → w3.cell? ⟨w1.heap.size, k * 2 + 1, none⟩ = some (.int .u32 (z k)) := fun k hk => (hb3.cell (p := ⟨w1.heap.size, k * 2 + 1, none⟩) hs2).trans (hc2 k hk).2
  have hbel : Below w.heap.size w w3 := (hb1.trans (hb2.mono hs1)).trans (hb3.mono (by omega))
  clear hc2 hb1 hb2 hb3
  obtain ⟨t0, t1⟩ := tot_bd z n hz n (Nat.le_refl _)
  go_wp2
  go_loop [6, 7] (fun s i => ∃ k : Nat, k ≤ n ∧ i = .int .i64 k ∧ s = .int .u64 (Budget.sum z (tot z n) k)) (fun _ i => n - (intOf i).toNat)
  case atStart => exact ⟨0, Nat.zero_le _, rfl, rfl⟩
  case round =>
    obtain ⟨k, hk, rfl, rfl⟩ := hrel
    obtain ⟨s0, s1⟩ := Budget.sum_bd z (tot z n) n hz k hk
    by_cases hlt : k < n
    · have c0 := hc3 k hlt
      have z0 := hz k hlt
      obtain ⟨e1, e2⟩ := effW_bd (z k) z0
      obtain ⟨p1, p2⟩ := Budget.pc_bd (effW (z k)) (tot z n) e1
      go_wp2_with (go_at_call 13; refine (zzPointCount _ _ _ z0 t0).mono ?_; rintro e w' ⟨rfl, rfl⟩)
      exact ⟨⟨k + 1, by omega, by go_num, rfl⟩, by simp [intOf]; omega⟩
    · obtain rfl : k = n := by omega
      by_cases hT : 131072 < tot z k
      · obtain ⟨q1, q2⟩ := Budget.budget z k hz hT
        go_wp2
        go_ret
        exact ⟨rfl, hbel⟩
      · have q : Hid (Budget.sum z (tot z k) k = tot z k) := Budget.sum_all z (tot z k) hT k
        go_wp2
        go_ret
        exact ⟨by show Ending.returned (.bool (Budget.sum z (tot z k) k == tot z k)) = _; rw [q.out]; simp, hbel⟩

/-! ### The walk: the Go text returns true -/
theorem walk (a0 : Option Addr) (len0 cap0 : Nat) (z0 : List Int) (w : World) (w0 : IsRow .u32 w a0 len0 cap0 z0) :
    Calls Try.prog 6 #[.slice a0 len0 cap0] w fun e w' => e = .returned (.bool true) ∧ Below w.heap.size w w' := by
  by_cases h1 : 1048576 < len0
  · have hm : len0 ≤ maxLen := by
      rcases w0 with ⟨_, h, _⟩ | ⟨x, _, h, h', _⟩ <;> omega
    clear w0
    unfold maxLen at hm
    go_enter Try.func6, Try.ntmps6
    go_wp2
    go_ret
    exact ⟨rfl, Below.refl _ _⟩
  · by_cases h2 : 65536 < len0
    · clear w0
      go_enter Try.func6, Try.ntmps6
      go_wp2
      go_ret
      exact ⟨rfl, Below.refl _ _⟩
    · have hsrc := src_of w0
      have hz := z_of w0
      have hnil : a0 = none → cap0 = 0 := by
        rcases w0 with ⟨_, _, h, _⟩ | ⟨x, h, _⟩
        · exact fun _ => h
        · rw [h]; exact fun h => by cases h
      clear w0
      exact walk_small a0 len0 cap0 _ w (by omega) hsrc hz hnil

/-! ### The row's step -/
set_option maxRecDepth 100000 in
theorem lifted (os : Os) (started : os.Started) (H : Type) (enc : TypeId × Value → H) :
    ReturnsInHanded {} Try.checked os 6 .any (Rows.fnRingPointBudgetSpec.pre6 enc Try.prog Try.f6 Rows.fnRingPointBudgetRow.domain false) (Rows.fnRingPointBudgetSpec.post enc Try.prog Try.f6 false true false false) := by
  refine returnsInHanded_of_change (C := Try.checked) own started (by kernel_rfl) Try.func6
    (ChangeSpec.witness6 (enc := enc) (C := Try.checked) false ⟨#[], #[.slice none 0 0], []⟩ 8 (by kernel_rfl) (by kernel_rfl) (by kernel_rfl) (by kernel_rfl)) ?_
  intro W base args ds gs before hval0 hW hcnd _
  have hval : ∀ (j : Nat) t v, Try.f6.params[j]? = some t → args[j]? = some v → Value.okWide Try.prog W .any base t v := hval0
  have hW' := hW
  obtain ⟨p, q, hA0, hV, rfl, hfz, hnd⟩ := hW
  have hA : DataW.TrodAll enc Try.prog W 0 (fun _ => true) true Try.f6.params.toList args.toList ds p := hA0
  rw [Try.params6] at hA hval
  obtain ⟨v0, vs0, d0, ds0, p0, q0, hargs, rfl, rfl, h0, r0⟩ := trodAll_cons hA
  obtain ⟨rfl, rfl, rfl⟩ := trodAll_nil r0
  obtain rfl : args = #[v0] := by cases args; simp_all
  obtain ⟨rfl, rfl⟩ := trodVars_none hV
  obtain ⟨a0, len0, cap0, rfl⟩ := okWide_slice Try.underlying22 (hval 0 22 v0 rfl rfl)
  have k0 := h0
  have lt0 : ∀ x ∈ p0, x.block < W.heap.size := by obtain ⟨m, hm⟩ := k0; exact DataW.trod_lt m _ _ _ hm
  obtain ⟨z0, w0⟩ : ∃ zs, IsRow .u32 W a0 len0 cap0 zs := by
    obtain ⟨fuel, hf⟩ := h0
    rcases open_ints Try.underlying22 Try.underlying29 (by kernel_rfl) hf with ⟨hcs, _⟩ | ⟨x, l, c, zs, hcs, _, hl, hm, hz, _, hcell, hwz⟩
    · simp [Value.cells] at hcs
      obtain ⟨rfl, rfl, rfl⟩ := hcs
      exact ⟨[], .inl ⟨rfl, rfl, rfl, rfl⟩⟩
    · simp [Value.cells] at hcs
      obtain ⟨rfl, rfl, rfl⟩ := hcs
      exact ⟨zs, .inr ⟨_, rfl, hl, hm, by simpa using hz, hcell, hwz⟩⟩
  clear hA0 hval0
  refine (walk a0 len0 cap0 z0 W w0).mono fun e W' ⟨he, bel⟩ => ?_
  subst he
  exact ⟨_, rfl, _, _, _, [], _, [], hW', trodAll_mk1 (shut_bool Try.underlying4 _), (trodAll_cons_mk (Below.trod laidOut (by kernel_rfl) (of_decide_eq_true (by kernel_rfl)) k0 bel lt0) trodAll_mk0), rfl, bel.frame _, fun h => by cases h⟩

theorem over : Rows.fnRingPointBudgetRow.holds Try.pinned (OpenSpec.ofChange Rows.fnRingPointBudgetSpec) :=
  OpenClaim.holds_of_wide 6 Try.f6 rfl rfl rfl rfl rfl rfl rfl ⟨rfl, rfl, rfl, rfl, rfl⟩ rfl rfl rfl rfl rfl (by kernel_rfl) Try.func6 (by kernel_rfl)
    (of_decide_eq_true (by kernel_rfl)) (by unfold Func.isWrapper; first | (rw [if_pos (by decide +kernel)]; kernel_rfl) | (rw [if_neg (by decide +kernel)]; exact ⟨rfl, rfl⟩))
    (fun os started H enc _ => lifted os started H enc)

/-- the statement -/
theorem proved : Rows.FnRingPointBudgetSaid := over
end Go.Proofs.Qxb6601581a.fnRingPointBudget
