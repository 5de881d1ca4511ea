/-
  The frame of the kit's shell for this statement, its walk filled in.
-/
import Derived.Test.Qxb6603029aRows
import Derived.WalkKit
import Derived.ProofKit
import Derived.OpenShut
import Derived.ShutString
import Derived.Below
import Derived.Test.Qxb6603029aModel
namespace Go.Proofs.Qxb6603029a.fnParseExponentMatchesModel
open Go.ChangeShapes Go.WideShapes Go.ChangeAt Go.RowKit
open Go.ChangeMaps (open_string shut_string)
open Go.Proofs.Qxb6603029a.Plain Go.Proofs.Qxb6603029a.Walks Go.Proofs.Qxb6603029a.Parse Go.Proofs.Qxb6603029a.Model
set_option linter.unusedVariables false      -- a walk need not use every 'w<i>' (that an integer argument fits its kind)

theorem own : ownKnob Try.prog.godebug = none := by kernel_rfl

theorem parse_any (s : ByteArray) (w : World) (hs : s.size ≤ 1048576) :
    Calls Try.prog 13 #[.string s] w fun e w' => ∃ i, IsRun s (st s) i ∧ e = .returned (ans s i) ∧ Grown w w' := by
  by_cases h0 : 0 < s.size
  · cases h43 : ((s[0].toNat : Int) == 43)
    · cases h45 : ((s[0].toNat : Int) == 45)
      · exact parse_none s w hs h0 h43 h45
      · exact parse_minus s w hs h0 h43 h45
    · exact parse_plus s w hs h0 h43
  · exact parse_empty s w hs (by omega)

theorem model_any (s : ByteArray) (w : World) (hs : s.size ≤ 1048576) :
    Calls Try.prog 8 #[.string s] w fun e w' => ∃ i, IsRun s (st s) i ∧ e = .returned (ans s i) ∧ Grown w w' := by
  by_cases h0 : 0 < s.size
  · cases h45 : ((s[0].toNat : Int) == 45)
    · cases h43 : ((s[0].toNat : Int) == 43)
      · exact model_none s w hs h0 h43 h45
      · exact model_plus s w hs h0 h43 h45
    · exact model_minus s w hs h0 h45
  · exact model_empty s w (by omega)

def ansV (s : ByteArray) (i : Nat) : Int := if i = st s then 0 else sg s * sat (val s (st s) (i - st s))
def ansR (s : ByteArray) (i : Nat) : ByteArray := if i = st s then s.extract (st s) s.size else s.extract i s.size
def ansB (s : ByteArray) (i : Nat) : Bool := if i = st s then false else true
theorem ans_parts (s : ByteArray) (i : Nat) : ans s i = .tuple #[.int .i64 (ansV s i), .string (ansR s i), .bool (ansB s i)] := by
  unfold ans ansV ansR ansB
  split <;> rfl

theorem zzparse_any (s : ByteArray) (w : World) (hs : s.size ≤ 1048576) :
    Calls Try.prog 7 #[.string s] w fun e w' => ∃ i, IsRun s (st s) i ∧ e = .returned (ans s i) ∧ Grown w w' := by
  go_enter Try.func7, Try.ntmps7
  go_wp2_with fail
  refine (parse_any s _ hs).mono ?_
  rintro e w1 ⟨i, hi, rfl, hg1⟩
  rw [ans_parts]
  go_wp2
  go_ret3
  exact ⟨i, hi, congrArg Ending.returned (ans_parts s i).symm, hg1⟩

/-! ### The walk: the Go text returns true -/
theorem walk (a0 : ByteArray) (w0 : a0.size ≤ maxLen) (w : World) :
    Calls Try.prog 3 #[.string a0] w fun e w' => e = .returned (.bool true) ∧ Grown w w' := by
  unfold maxLen at w0
  by_cases hs : 1048576 < a0.size
  · go_enter Try.func3, Try.ntmps3
    go_wp2
    go_ret
    exact ⟨rfl, Grown.refl _⟩
  · have hs' : a0.size ≤ 1048576 := by omega
    clear hs w0
    go_enter Try.func3, Try.ntmps3
    go_wp2_with (first | (go_at_call 6; go_in))
    refine (zzparse_any a0 _ hs').mono ?_
    rintro e w1 ⟨i, hi, rfl, hg1⟩
    have hA : ans a0 i = .tuple #[.int .i64 (ansV a0 i), .string (ansR a0 i), .bool (ansB a0 i)] := ans_parts a0 i
    rw [hA]
    have HA : Hid (ans a0 i = .tuple #[.int .i64 (ansV a0 i), .string (ansR a0 i), .bool (ansB a0 i)]) := hA
    clear hA
    go_wp2_with fail
    refine (model_any a0 _ hs').mono ?_
    rintro e w2 ⟨i', hi', rfl, hg2⟩
    obtain rfl := hi.same hi'
    rw [HA.out]
    generalize ansV a0 i = v
    generalize ansR a0 i = r
    generalize ansB a0 i = b
    go_wp2
    go_ret
    exact ⟨rfl, grown_trans hg1 hg2⟩

/-! ### The row's step -/
set_option maxRecDepth 100000 in
theorem lifted (os : Os) (started : os.Started) (H : Type) (enc : TypeId × Value → H) :
    ReturnsInHanded {} Try.checked os 3 .any (Rows.fnParseExponentMatchesModelSpec.pre6 enc Try.prog Try.f3 Rows.fnParseExponentMatchesModelRow.domain false) (Rows.fnParseExponentMatchesModelSpec.post enc Try.prog Try.f3 false true false false) := by
  refine returnsInHanded_of_change (C := Try.checked) own started (by kernel_rfl) Try.func3
    (ChangeSpec.witness6 (enc := enc) (C := Try.checked) false ⟨#[], #[.string ByteArray.empty], []⟩ 8 (by kernel_rfl) (by kernel_rfl) (by kernel_rfl) (by kernel_rfl)) ?_
  intro W base args ds gs before hval0 hW hcnd _
  have hval : ∀ (j : Nat) t v, Try.f3.params[j]? = some t → args[j]? = some v → Value.okWide Try.prog W .any base t v := hval0
  have hW' := hW
  obtain ⟨p, q, hA0, hV, rfl, hfz, hnd⟩ := hW
  have hA : DataW.TrodAll enc Try.prog W 0 (fun _ => true) true Try.f3.params.toList args.toList ds p := hA0
  rw [Try.params3] at hA hval
  obtain ⟨v0, vs0, d0, ds0, p0, q0, hargs, rfl, rfl, h0, r0⟩ := trodAll_cons hA
  obtain ⟨rfl, rfl, rfl⟩ := trodAll_nil r0
  obtain rfl : args = #[v0] := by cases args; simp_all
  obtain ⟨rfl, rfl⟩ := trodVars_none hV
  obtain ⟨a0, rfl, rfl, rfl, w0⟩ := open_string Try.underlying9 (hval 0 9 v0 rfl rfl) h0
  clear hA0 hval0
  simp only [List.append_nil] at hW'
  refine (walk a0 w0 W).mono fun e W' ⟨he, hg⟩ => ?_
  subst he
  exact ⟨_, rfl, post_of_same (pa := []) (pv := []) hW' (fun _ _ _ => (trodAll_cons_mk (shut_bool Try.underlying4 _) trodAll_mk0)) (fun sp _ => (trodAll_cons_mk (shut_string Try.underlying9 w0) trodAll_mk0)) (fun _ _ => rfl) rfl
    (hg.frame _) hg.2.1 (ok_one (by kernel_rfl) rfl (okWide_bool_mk Try.underlying4 _))⟩

theorem over : Rows.fnParseExponentMatchesModelRow.holds Try.pinned (OpenSpec.ofChange Rows.fnParseExponentMatchesModelSpec) :=
  OpenClaim.holds_of_wide 3 Try.f3 rfl rfl rfl rfl rfl rfl rfl ⟨rfl, rfl, rfl, rfl, rfl⟩ rfl rfl rfl rfl rfl (by kernel_rfl) Try.func3 (by kernel_rfl)
    (of_decide_eq_true (by kernel_rfl)) (by unfold Func.isWrapper; first | (rw [if_pos (by decide +kernel)]; kernel_rfl) | (rw [if_neg (by decide +kernel)]; exact ⟨rfl, rfl⟩))
    (fun os started H enc _ => lifted os started H enc)

/-- the statement -/
theorem proved : Rows.FnParseExponentMatchesModelSaid :=
  over
end Go.Proofs.Qxb6603029a.fnParseExponentMatchesModel
