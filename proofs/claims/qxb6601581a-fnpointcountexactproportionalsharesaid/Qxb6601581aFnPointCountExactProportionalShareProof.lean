/-
  The frame of the kit's shell for this statement, its walk filled in.
-/
import Derived.Test.Qxb6601581aRows
import Derived.WalkKit
import Derived.ProofKit
import Derived.OpenShut
import Derived.ShutString
import Derived.Below
import Derived.Test.Qxb6601581aPoints
namespace Go.Proofs.Qxb6601581a.fnPointCountExactProportionalShare
open Go.ChangeShapes Go.WideShapes Go.ChangeAt Go.RowKit
open Go.ChangeMaps (open_string shut_string)
open Go.Proofs.Qxb6601581a.Plain Go.Proofs.Qxb6601581a.Points
set_option linter.unusedVariables false      -- a walk need not use every 'w<i>' (that an integer argument fits its kind)

theorem own : ownKnob Try.prog.godebug = none := by kernel_rfl

theorem pc_bd (e t : Int) (h1 : 1 ≤ e) (h2 : e ≤ 2147483647) (ht : 131072 < t) : 1 ≤ pc (100 * e) t ∧ pc (100 * e) t ≤ 214748364700 * 131072 := by
  have h3 : 100 * e * 131072 / t ≤ 100 * e * 131072 := Int.ediv_le_self _ (by omega)
  rw [pc, if_pos ht]
  generalize 100 * e * 131072 / t = q at *
  split <;> omega
theorem pc_one (p t : Int) (ht : 131072 < t) (hp : 0 ≤ p) (h : p * 131072 < t) : pc p t = 1 := by
  rw [pc, if_pos ht, Int.ediv_eq_zero_of_lt (by omega) h]
  rfl
theorem pc_all (p t : Int) (ht : ¬ 131072 < t) : pc p t = p := by rw [pc, if_neg ht]
theorem pc_mul (e t : Int) (h1 : 1 ≤ e) (h2 : e ≤ 2147483647) (ht : 131072 < t) (h : t ≤ 100 * e * 131072) :
    pc (100 * e) t * t ≤ 100 * e * 131072 ∧ 100 * e * 131072 < (pc (100 * e) t + 1) * t ∧ (pc (100 * e) t + 1) * t ≤ 200 * e * 131072 := by
  have h3 : 1 ≤ 100 * e * 131072 / t := by
    rw [Int.le_ediv_iff_mul_le (by omega)]; omega
  have h4 := Int.ediv_mul_le (100 * e * 131072) (b := t) (by omega)
  have h5 := Int.lt_ediv_add_one_mul_self (100 * e * 131072) (b := t) (by omega)
  rw [pc, if_pos ht, if_pos h3]
  generalize 100 * e * 131072 / t = q at *
  rw [Int.add_mul] at *
  generalize q * t = z at *
  omega

/-! ### The walk: the Go text returns true -/
theorem walk (a0 : Int) (a1 : Int) (w0 : (Lit.int .u32 a0).wf = true) (w1 : (Lit.int .u64 a1).wf = true) (w : World) :
    Calls Try.prog 4 #[.int .u32 a0, .int .u64 a1] w fun e w' => e = .returned (.bool true) ∧ Grown w w' := by
  obtain ⟨b0, b0'⟩ : 0 ≤ a0 ∧ a0 ≤ 4294967295 := bounds_u32 w0
  obtain ⟨b1, b1'⟩ : 0 ≤ a1 ∧ a1 ≤ 18446744073709551615 := bounds_u64 w1
  clear w0 w1
  have B1' : Hid (a1 ≤ 18446744073709551615) := b1'
  clear b1'
  obtain ⟨e1, e2⟩ := effW_bd a0 b0
  by_cases ht : 131072 < a1
  · obtain ⟨c1, c2⟩ := pc_bd (effW a0) a1 e1 e2 ht
    by_cases hq : 100 * effW a0 * 131072 < a1
    · have hc : Hid (pc (100 * effW a0) a1 = 1) := pc_one _ _ ht (by omega) hq
      go_enter Try.func4, Try.ntmps4
      go_wp2_with (first | (go_at_call 13; refine (zzPointCount _ _ _ b0 b1).mono ?_; rintro e w' ⟨rfl, rfl⟩) | (go_at_call 14; refine (clamped _ _ b0).mono ?_; rintro e w' ⟨rfl, rfl⟩))
      go_ret
      exact ⟨by show Ending.returned (.bool (pc _ _ == 1)) = _; rw [hc.out]; rfl, Grown.refl _⟩
    · obtain ⟨m1, m2, m3⟩ := pc_mul _ _ e1 e2 ht (Int.not_lt.mp hq)
      have M1 : Hid (pc (100 * effW a0) a1 * a1 < 18446744073709551616) := by show _ < _; omega
      have M2 : Hid ((pc (100 * effW a0) a1 + 1) * a1 < 18446744073709551616) := by show _ < _; omega
      go_enter Try.func4, Try.ntmps4
      go_wp2_with (first | (go_at_call 13; refine (zzPointCount _ _ _ b0 b1).mono ?_; rintro e w' ⟨rfl, rfl⟩) | (go_at_call 14; refine (clamped _ _ b0).mono ?_; rintro e w' ⟨rfl, rfl⟩))
      refine (mul _ _ _ (by omega) (by omega) b1 (by have := B1'.out; omega) M1.out).mono ?_
      rintro e w' ⟨rfl, rfl⟩
      go_wp2_with fail
      refine (mul _ _ _ (by omega) (by omega) b1 (by have := B1'.out; omega) M2.out).mono ?_
      rintro e w' ⟨rfl, rfl⟩
      go_wp2
      go_ret
      exact ⟨rfl, Grown.refl _⟩
  · have hc : Hid (pc (100 * effW a0) a1 = 100 * effW a0) := pc_all _ _ ht
    go_enter Try.func4, Try.ntmps4
    go_wp2_with (first | (go_at_call 13; refine (zzPointCount _ _ _ b0 b1).mono ?_; rintro e w' ⟨rfl, rfl⟩) | (go_at_call 14; refine (clamped _ _ b0).mono ?_; rintro e w' ⟨rfl, rfl⟩))
    go_ret
    exact ⟨by show Ending.returned (.bool (pc _ _ == 100 * effW a0)) = _; rw [hc.out]; simp, Grown.refl _⟩

/-! ### The row's step -/
set_option maxRecDepth 100000 in
theorem lifted (os : Os) (started : os.Started) (H : Type) (enc : TypeId × Value → H) :
    ReturnsInHanded {} Try.checked os 4 .any (Rows.fnPointCountExactProportionalShareSpec.pre6 enc Try.prog Try.f4 Rows.fnPointCountExactProportionalShareRow.domain false) (Rows.fnPointCountExactProportionalShareSpec.post enc Try.prog Try.f4 false true false false) := by
  refine returnsInHanded_of_change (C := Try.checked) own started (by kernel_rfl) Try.func4
    (ChangeSpec.witness6 (enc := enc) (C := Try.checked) false ⟨#[], #[.int .u32 0, .int .u64 0], []⟩ 8 (by kernel_rfl) (by kernel_rfl) (by kernel_rfl) (by kernel_rfl)) ?_
  intro W base args ds gs before hval0 hW hcnd _
  have hval : ∀ (j : Nat) t v, Try.f4.params[j]? = some t → args[j]? = some v → Value.okWide Try.prog W .any base t v := hval0
  have hW' := hW
  obtain ⟨p, q, hA0, hV, rfl, hfz, hnd⟩ := hW
  have hA : DataW.TrodAll enc Try.prog W 0 (fun _ => true) true Try.f4.params.toList args.toList ds p := hA0
  rw [Try.params4] at hA hval
  obtain ⟨v0, vs0, d0, ds0, p0, q0, hargs, rfl, rfl, h0, r0⟩ := trodAll_cons hA
  obtain ⟨v1, vs1, d1, ds1, p1, q1, rfl, rfl, rfl, h1, r1⟩ := trodAll_cons r0
  obtain ⟨rfl, rfl, rfl⟩ := trodAll_nil r1
  obtain rfl : args = #[v0, v1] := by cases args; simp_all
  obtain ⟨rfl, rfl⟩ := trodVars_none hV
  obtain ⟨a0, rfl, rfl, rfl, w0⟩ := open_int Try.underlying29 (hval 0 29 v0 rfl rfl) h0
  obtain ⟨a1, rfl, rfl, rfl, w1⟩ := open_int Try.underlying27 (hval 1 27 v1 rfl rfl) h1
  clear hA0 hval0
  simp only [List.append_nil] at hW'
  refine (walk a0 a1 w0 w1 W).mono fun e W' ⟨he, hg⟩ => ?_
  subst he
  exact ⟨_, rfl, post_of_same (pa := []) (pv := []) hW' (fun _ _ _ => (trodAll_cons_mk (shut_bool Try.underlying4 _) trodAll_mk0)) (fun sp _ => (trodAll_cons_mk (shut_int Try.underlying29 w0) (trodAll_cons_mk (shut_int Try.underlying27 w1) trodAll_mk0))) (fun _ _ => rfl) rfl
    (hg.frame _) hg.2.1 (ok_one (by kernel_rfl) rfl (okWide_bool_mk Try.underlying4 _))⟩

theorem over : Rows.fnPointCountExactProportionalShareRow.holds Try.pinned (OpenSpec.ofChange Rows.fnPointCountExactProportionalShareSpec) :=
  OpenClaim.holds_of_wide 4 Try.f4 rfl rfl rfl rfl rfl rfl rfl ⟨rfl, rfl, rfl, rfl, rfl⟩ rfl rfl rfl rfl rfl (by kernel_rfl) Try.func4 (by kernel_rfl)
    (of_decide_eq_true (by kernel_rfl)) (by unfold Func.isWrapper; first | (rw [if_pos (by decide +kernel)]; kernel_rfl) | (rw [if_neg (by decide +kernel)]; exact ⟨rfl, rfl⟩))
    (fun os started H enc _ => lifted os started H enc)

/-- the statement -/
theorem proved : Rows.FnPointCountExactProportionalShareSaid :=
  over
end Go.Proofs.Qxb6601581a.fnPointCountExactProportionalShare
