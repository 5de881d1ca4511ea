/-
  The frame of the kit's shell for this statement, its walk filled in.
-/
import Derived.Test.Qxb6601581aRows
import Derived.WalkKit
import Derived.ProofKit
import Derived.OpenShut
import Derived.ShutString
import Derived.Below
import Derived.Test.Qxb6601581aTotal
namespace Go.Proofs.Qxb6601581a.fnTotalPointsOfOneEndpointMatchesPointCount
open Go.ChangeShapes Go.WideShapes Go.ChangeAt Go.RowKit
open Go.ChangeMaps (open_string shut_string)
open Go.Proofs.Qxb6601581a.Plain Go.Proofs.Qxb6601581a.Points Go.Proofs.Qxb6601581a.Total
set_option linter.unusedVariables false      -- a walk need not use every 'w<i>' (that an integer argument fits its kind)

theorem own : ownKnob Try.prog.godebug = none := by kernel_rfl

/-! ### The walk: the Go text returns true -/
theorem walk (a0 : ByteArray) (a1 : Int) (a2 : Int) (w0 : a0.size ≤ maxLen) (w1 : (Lit.int .u32 a1).wf = true) (w2 : (Lit.int .u64 a2).wf = true) (w : World) :
    Calls Try.prog 8 #[.string a0, .int .u32 a1, .int .u64 a2] w fun e w' => e = .returned (.bool true) ∧ Grown w w' := by
  obtain ⟨b1, b1'⟩ : 0 ≤ a1 ∧ a1 ≤ 4294967295 := bounds_u32 w1
  obtain ⟨b2, b2'⟩ : 0 ≤ a2 ∧ a2 ≤ 18446744073709551615 := bounds_u64 w2
  unfold maxLen at w0
  clear w1 w2 b1' b2'
  by_cases hs : 1048576 < a0.size
  · go_enter Try.func8, Try.ntmps8
    go_wp2
    go_ret
    exact ⟨rfl, Grown.refl _⟩
  · by_cases ht : 131072 < a2
    · go_enter Try.func8, Try.ntmps8
      go_wp2
      go_ret
      exact ⟨rfl, Grown.refl _⟩
    · go_enter Try.func8, Try.ntmps8
      go_wp2_with (first | (go_at_call 19; go_in))
      have e1 : Hid (tot (fun _ => a1) 1 = pc (100 * effW a1) a2) := by
        show tot (fun _ => a1) 1 = pc (100 * effW a1) a2
        rw [pc, if_neg (by omega)]; simp [tot]
      obtain ⟨t1, t2⟩ := effW_bd a1 b1
      have hp : 0 ≤ pc (100 * effW a1) a2 ∧ pc (100 * effW a1) a2 ≤ 214748364700 := by rw [pc, if_neg (by omega)]; omega
      obtain ⟨p1, p2⟩ := hp
      refine (zzTotal w.heap.size 1 1 (fun _ => a1) _ (by simp) (by omega) (fun _ _ => b1) ?_ ?_).mono ?_
      · intro k hk
        obtain rfl : k = 0 := by omega
        exact ⟨a0, by simp⟩
      · intro k hk
        obtain rfl : k = 0 := by omega
        simp
      rintro e w' ⟨rfl, hbel, hgr⟩
      rw [e1.out]
      go_wp2_with fail
      refine (zzPointCount _ _ _ b1 b2).mono ?_
      rintro e w' ⟨rfl, rfl⟩
      go_wp2
      go_ret
      exact ⟨rfl, grown_trans ((Grown.refl _).alloc _ _) hgr⟩

/-! ### The row's step -/
set_option maxRecDepth 100000 in
theorem lifted (os : Os) (started : os.Started) (H : Type) (enc : TypeId × Value → H) :
    ReturnsInHanded {} Try.checked os 8 .any (Rows.fnTotalPointsOfOneEndpointMatchesPointCountSpec.pre6 enc Try.prog Try.f8 Rows.fnTotalPointsOfOneEndpointMatchesPointCountRow.domain false) (Rows.fnTotalPointsOfOneEndpointMatchesPointCountSpec.post enc Try.prog Try.f8 false true false false) := by
  refine returnsInHanded_of_change (C := Try.checked) own started (by kernel_rfl) Try.func8
    (ChangeSpec.witness6 (enc := enc) (C := Try.checked) false ⟨#[], #[.string ByteArray.empty, .int .u32 0, .int .u64 0], []⟩ 8 (by kernel_rfl) (by kernel_rfl) (by kernel_rfl) (by kernel_rfl)) ?_
  intro W base args ds gs before hval0 hW hcnd _
  have hval : ∀ (j : Nat) t v, Try.f8.params[j]? = some t → args[j]? = some v → Value.okWide Try.prog W .any base t v := hval0
  have hW' := hW
  obtain ⟨p, q, hA0, hV, rfl, hfz, hnd⟩ := hW
  have hA : DataW.TrodAll enc Try.prog W 0 (fun _ => true) true Try.f8.params.toList args.toList ds p := hA0
  rw [Try.params8] at hA hval
  obtain ⟨v0, vs0, d0, ds0, p0, q0, hargs, rfl, rfl, h0, r0⟩ := trodAll_cons hA
  obtain ⟨v1, vs1, d1, ds1, p1, q1, rfl, rfl, rfl, h1, r1⟩ := trodAll_cons r0
  obtain ⟨v2, vs2, d2, ds2, p2, q2, rfl, rfl, rfl, h2, r2⟩ := trodAll_cons r1
  obtain ⟨rfl, rfl, rfl⟩ := trodAll_nil r2
  obtain rfl : args = #[v0, v1, v2] := by cases args; simp_all
  obtain ⟨rfl, rfl⟩ := trodVars_none hV
  obtain ⟨a0, rfl, rfl, rfl, w0⟩ := open_string Try.underlying9 (hval 0 9 v0 rfl rfl) h0
  obtain ⟨a1, rfl, rfl, rfl, w1⟩ := open_int Try.underlying29 (hval 1 29 v1 rfl rfl) h1
  obtain ⟨a2, rfl, rfl, rfl, w2⟩ := open_int Try.underlying27 (hval 2 27 v2 rfl rfl) h2
  clear hA0 hval0
  simp only [List.append_nil] at hW'
  refine (walk a0 a1 a2 w0 w1 w2 W).mono fun e W' ⟨he, hg⟩ => ?_
  subst he
  exact ⟨_, rfl, post_of_same (pa := []) (pv := []) hW' (fun _ _ _ => (trodAll_cons_mk (shut_bool Try.underlying4 _) trodAll_mk0)) (fun sp _ => (trodAll_cons_mk (shut_string Try.underlying9 w0) (trodAll_cons_mk (shut_int Try.underlying29 w1) (trodAll_cons_mk (shut_int Try.underlying27 w2) trodAll_mk0)))) (fun _ _ => rfl) rfl
    (hg.frame _) hg.2.1 (ok_one (by kernel_rfl) rfl (okWide_bool_mk Try.underlying4 _))⟩

theorem over : Rows.fnTotalPointsOfOneEndpointMatchesPointCountRow.holds Try.pinned (OpenSpec.ofChange Rows.fnTotalPointsOfOneEndpointMatchesPointCountSpec) :=
  OpenClaim.holds_of_wide 8 Try.f8 rfl rfl rfl rfl rfl rfl rfl ⟨rfl, rfl, rfl, rfl, rfl⟩ rfl rfl rfl rfl rfl (by kernel_rfl) Try.func8 (by kernel_rfl)
    (of_decide_eq_true (by kernel_rfl)) (by unfold Func.isWrapper; first | (rw [if_pos (by decide +kernel)]; kernel_rfl) | (rw [if_neg (by decide +kernel)]; exact ⟨rfl, rfl⟩))
    (fun os started H enc _ => lifted os started H enc)

/-- the statement -/
theorem proved : Rows.FnTotalPointsOfOneEndpointMatchesPointCountSaid :=
  over
end Go.Proofs.Qxb6601581a.fnTotalPointsOfOneEndpointMatchesPointCount
