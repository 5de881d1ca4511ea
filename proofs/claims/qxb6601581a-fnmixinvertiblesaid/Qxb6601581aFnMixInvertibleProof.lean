/-
  The frame of the kit's shell for this statement, its walk filled in.
-/
import Derived.Test.Qxb6601581aRows
import Derived.WalkKit
import Derived.ProofKit
import Derived.OpenShut
import Derived.ShutString
import Derived.Below
import Derived.Test.Qxb6601581aMix
namespace Go.Proofs.Qxb6601581a.fnMixInvertible
open Go.ChangeShapes Go.WideShapes Go.ChangeAt Go.RowKit
open Go.ChangeMaps (open_string shut_string)
open Go.Proofs.Qxb6601581a.Mix
set_option linter.unusedVariables false      -- a walk need not use every 'w<i>' (that an integer argument fits its kind)

theorem own : ownKnob Try.prog.godebug = none := by kernel_rfl

theorem ret_int {k : IntKind} {a b : Int} (h : a = b) : Ending.returned (.int k a) = .returned (.int k b) := by rw [h]

theorem mix_any (X : Nat) (w : World) (h : X < 18446744073709551616) :
    Calls Try.prog 24 #[.int .u64 X] w fun e w' => e = .returned (.int .u64 (mixN X : Nat)) ∧ w' = w := by
  have hX : Hid (X < 18446744073709551616) := h
  clear h
  go_enter Try.func24, Try.ntmps24
  go_wp2
  go_ret
  exact ⟨ret_int (say_mix X hX.out), rfl⟩

theorem zzmix_any (X : Nat) (w : World) (h : X < 18446744073709551616) :
    Calls Try.prog 18 #[.int .u64 X] w fun e w' => e = .returned (.int .u64 (mixN X : Nat)) ∧ w' = w := by
  have hX : Hid (X < 18446744073709551616) := h
  clear h
  go_enter Try.func18, Try.ntmps18
  go_wp2_with (go_at_call 24; refine (mix_any _ _ hX.out).mono ?_; rintro e w' ⟨rfl, rfl⟩)
  go_ret
  exact ⟨rfl, rfl⟩

theorem unx31 (X : Nat) (w : World) (h : X < 18446744073709551616) :
    Calls Try.prog 22 #[.int .u64 X, .int .u64 31] w fun e w' => e = .returned (.int .u64 (uxs 2147483648 4611686018427387904 X : Nat)) ∧ w' = w := by
  have hX : Hid (X < 18446744073709551616) := h
  clear h
  go_enter Try.func22, Try.ntmps22
  go_wp2
  refine wp_loop_rounds 3 ?_
  rw [rounds_succ]; go_wp2
  rw [rounds_succ]; go_wp2
  rw [rounds_succ]; go_wp2
  go_ret
  exact ⟨ret_int (say_uxs X 2147483648 4611686018427387904 hX.out), rfl⟩
theorem unx27 (X : Nat) (w : World) (h : X < 18446744073709551616) :
    Calls Try.prog 22 #[.int .u64 X, .int .u64 27] w fun e w' => e = .returned (.int .u64 (uxs 134217728 18014398509481984 X : Nat)) ∧ w' = w := by
  have hX : Hid (X < 18446744073709551616) := h
  clear h
  go_enter Try.func22, Try.ntmps22
  go_wp2
  refine wp_loop_rounds 3 ?_
  rw [rounds_succ]; go_wp2
  rw [rounds_succ]; go_wp2
  rw [rounds_succ]; go_wp2
  go_ret
  exact ⟨ret_int (say_uxs X 134217728 18014398509481984 hX.out), rfl⟩
theorem unx30 (X : Nat) (w : World) (h : X < 18446744073709551616) :
    Calls Try.prog 22 #[.int .u64 X, .int .u64 30] w fun e w' => e = .returned (.int .u64 (uxs 1073741824 1152921504606846976 X : Nat)) ∧ w' = w := by
  have hX : Hid (X < 18446744073709551616) := h
  clear h
  go_enter Try.func22, Try.ntmps22
  go_wp2
  refine wp_loop_rounds 3 ?_
  rw [rounds_succ]; go_wp2
  rw [rounds_succ]; go_wp2
  rw [rounds_succ]; go_wp2
  go_ret
  exact ⟨ret_int (say_uxs X 1073741824 1152921504606846976 hX.out), rfl⟩

theorem inv_any (a : Int) (w : World) :
    Calls Try.prog 23 #[.int .u64 a] w fun e w' => e = .returned (.int .u64 (inv 5 a)) ∧ w' = w := by
  go_enter Try.func23, Try.ntmps23
  go_wp2
  go_loop [3, 4] (fun n i => ∃ k : Nat, k ≤ 5 ∧ i = .int .i64 k ∧ n = .int .u64 (inv k a)) (fun _ i => 5 - (intOf i).toNat)
  case atStart => exact ⟨0, Nat.zero_le _, rfl, rfl⟩
  case round =>
    obtain ⟨k, hk, rfl, rfl⟩ := hrel
    by_cases hlt : k < 5
    · go_wp2
      go_round
      case rel => exact ⟨k + 1, by omega, by go_num, rfl⟩
      case measure => simp [intOf]; omega
    · go_wp2
      go_ret
      exact ⟨ret_int (by rw [show k = 5 by omega]), rfl⟩

theorem unmix_any (X : Nat) (w : World) (h : X < 18446744073709551616) :
    Calls Try.prog 17 #[.int .u64 X] w fun e w' => e = .returned (.int .u64 (unmixN X : Nat)) ∧ w' = w := by
  have hX : Hid (X < 18446744073709551616) := h
  clear h
  go_enter Try.func17, Try.ntmps17
  go_wp2_with fail
  refine (unx31 _ _ hX.out).mono ?_
  rintro e w' ⟨rfl, rfl⟩
  go_wp2_with fail
  refine (inv_any _ _).mono ?_
  rintro e w' ⟨rfl, rfl⟩
  rw [inv2]
  go_wp2_with fail
  rw [show IntKind.u64.wrap ((uxs 2147483648 4611686018427387904 X : Nat) * (3573116690164977347 : Int)) = _ from say_mul _ 3573116690164977347]
  refine (unx27 _ _ (modlt _)).mono ?_
  rintro e w' ⟨rfl, rfl⟩
  go_wp2_with fail
  refine (inv_any _ _).mono ?_
  rintro e w' ⟨rfl, rfl⟩
  rw [inv1]
  go_wp2_with fail
  rw [show IntKind.u64.wrap ((uxs 134217728 18014398509481984 (uxs 2147483648 4611686018427387904 X * 3573116690164977347 % 18446744073709551616) : Nat) * (10871156337175269513 : Int)) = _ from say_mul _ 10871156337175269513]
  refine (unx30 _ _ (modlt _)).mono ?_
  rintro e w' ⟨rfl, rfl⟩
  go_wp2
  go_ret
  exact ⟨rfl, rfl⟩

/-! ### The walk: the Go text returns true -/
theorem walk (a0 : Int) (w0 : (Lit.int .u64 a0).wf = true) (w : World) :
    Calls Try.prog 7 #[.int .u64 a0] w fun e w' => e = .returned (.bool true) ∧ Grown w w' := by
  obtain ⟨b0, b0'⟩ : 0 ≤ a0 ∧ a0 ≤ 18446744073709551615 := bounds_u64 w0
  clear w0
  obtain ⟨X, rfl⟩ := Int.eq_ofNat_of_zero_le b0
  have hX : Hid (X < 18446744073709551616) := by show _ < _; omega
  clear b0 b0'
  have e1 : Hid (unmixN (mixN X) = X) := unmix_mix X hX.out
  have e2 : Hid (mixN (unmixN X) = X) := mix_unmix X hX.out
  go_enter Try.func7, Try.ntmps7
  go_wp2_with fail
  refine (zzmix_any _ _ hX.out).mono ?_
  rintro e w' ⟨rfl, rfl⟩
  go_wp2_with fail
  refine (unmix_any _ _ (mixN_lt _)).mono ?_
  rintro e w' ⟨rfl, rfl⟩
  rw [e1.out]
  go_wp2_with fail
  refine (unmix_any _ _ hX.out).mono ?_
  rintro e w' ⟨rfl, rfl⟩
  go_wp2_with fail
  refine (zzmix_any _ _ (unmixN_lt _)).mono ?_
  rintro e w' ⟨rfl, rfl⟩
  rw [e2.out]
  go_wp2
  go_ret
  exact ⟨rfl, Grown.refl _⟩

/-! ### The row's step -/
set_option maxRecDepth 100000 in
theorem lifted (os : Os) (started : os.Started) (H : Type) (enc : TypeId × Value → H) :
    ReturnsInHanded {} Try.checked os 7 .any (Rows.fnMixInvertibleSpec.pre6 enc Try.prog Try.f7 Rows.fnMixInvertibleRow.domain false) (Rows.fnMixInvertibleSpec.post enc Try.prog Try.f7 false true false false) := by
  refine returnsInHanded_of_change (C := Try.checked) own started (by kernel_rfl) Try.func7
    (ChangeSpec.witness6 (enc := enc) (C := Try.checked) false ⟨#[], #[.int .u64 0], []⟩ 8 (by kernel_rfl) (by kernel_rfl) (by kernel_rfl) (by kernel_rfl)) ?_
  intro W base args ds gs before hval0 hW hcnd _
  have hval : ∀ (j : Nat) t v, Try.f7.params[j]? = some t → args[j]? = some v → Value.okWide Try.prog W .any base t v := hval0
  have hW' := hW
  obtain ⟨p, q, hA0, hV, rfl, hfz, hnd⟩ := hW
  have hA : DataW.TrodAll enc Try.prog W 0 (fun _ => true) true Try.f7.params.toList args.toList ds p := hA0
  rw [Try.params7] at hA hval
  obtain ⟨v0, vs0, d0, ds0, p0, q0, hargs, rfl, rfl, h0, r0⟩ := trodAll_cons hA
  obtain ⟨rfl, rfl, rfl⟩ := trodAll_nil r0
  obtain rfl : args = #[v0] := by cases args; simp_all
  obtain ⟨rfl, rfl⟩ := trodVars_none hV
  obtain ⟨a0, rfl, rfl, rfl, w0⟩ := open_int Try.underlying27 (hval 0 27 v0 rfl rfl) h0
  clear hA0 hval0
  simp only [List.append_nil] at hW'
  refine (walk a0 w0 W).mono fun e W' ⟨he, hg⟩ => ?_
  subst he
  exact ⟨_, rfl, post_of_same (pa := []) (pv := []) hW' (fun _ _ _ => (trodAll_cons_mk (shut_bool Try.underlying4 _) trodAll_mk0)) (fun sp _ => (trodAll_cons_mk (shut_int Try.underlying27 w0) trodAll_mk0)) (fun _ _ => rfl) rfl
    (hg.frame _) hg.2.1 (ok_one (by kernel_rfl) rfl (okWide_bool_mk Try.underlying4 _))⟩

theorem over : Rows.fnMixInvertibleRow.holds Try.pinned (OpenSpec.ofChange Rows.fnMixInvertibleSpec) :=
  OpenClaim.holds_of_wide 7 Try.f7 rfl rfl rfl rfl rfl rfl rfl ⟨rfl, rfl, rfl, rfl, rfl⟩ rfl rfl rfl rfl rfl (by kernel_rfl) Try.func7 (by kernel_rfl)
    (of_decide_eq_true (by kernel_rfl)) (by unfold Func.isWrapper; first | (rw [if_pos (by decide +kernel)]; kernel_rfl) | (rw [if_neg (by decide +kernel)]; exact ⟨rfl, rfl⟩))
    (fun os started H enc _ => lifted os started H enc)

/-- the statement -/
theorem proved : Rows.FnMixInvertibleSaid :=
  over
end Go.Proofs.Qxb6601581a.fnMixInvertible
