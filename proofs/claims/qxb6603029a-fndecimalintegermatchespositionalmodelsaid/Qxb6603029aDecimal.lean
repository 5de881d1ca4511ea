/- The law FnDecimalIntegerMatchesPositionalModel, walked, way by way. -/
import Derived.Test.Qxb6603029aInteger
import Derived.OwnWalk
namespace Go.Proofs.Qxb6603029a.Decimal
open Go.ChangeShapes Go.WideShapes Go.ChangeAt Go.RowKit
open Go.Proofs.Qxb6603029a.Plain Go.Proofs.Qxb6603029a.Walks Go.Proofs.Qxb6603029a.Parse Go.Proofs.Qxb6603029a.Model Go.Proofs.Qxb6603029a.Integer
set_option linter.unusedVariables false

/-- the inputs of which the law speaks -/
def InRange (s : ByteArray) (x sh mx : Int) : Prop :=
  s.size ≤ 1048576 ∧ -536870912 ≤ x ∧ x ≤ 536870912 ∧ -536870912 ≤ sh ∧ sh ≤ 536870912 ∧ -536870912 ≤ mx ∧ mx ≤ 65536

set_option maxHeartbeats 1000000 in
theorem main_out (ng : Bool) (s : ByteArray) (x sh mx : Int) (w : World) (hl : s.size ≤ 9223372036854775807) (h : ¬ InRange s x sh mx) :
    Calls Try.prog 4 #[.bool ng, .string s, .int .i64 x, .int .i64 sh, .int .i64 mx] w fun e w' => e = .returned (.bool true) ∧ Below w.heap.size w w' := by
  unfold InRange at h
  by_cases h0 : 1048576 < s.size
  · clear h
    go_enter Try.func4, Try.ntmps4
    go_wp2
    go_ret
    exact ⟨rfl, Below.refl _ _⟩
  by_cases h1 : x < -536870912
  · clear h
    go_enter Try.func4, Try.ntmps4
    go_wp2
    go_ret
    exact ⟨rfl, Below.refl _ _⟩
  by_cases h2 : 536870912 < x
  · clear h
    go_enter Try.func4, Try.ntmps4
    go_wp2
    go_ret
    exact ⟨rfl, Below.refl _ _⟩
  by_cases h3 : sh < -536870912
  · clear h
    go_enter Try.func4, Try.ntmps4
    go_wp2
    go_ret
    exact ⟨rfl, Below.refl _ _⟩
  by_cases h4 : 536870912 < sh
  · clear h
    go_enter Try.func4, Try.ntmps4
    go_wp2
    go_ret
    exact ⟨rfl, Below.refl _ _⟩
  by_cases h5 : mx < -536870912
  · clear h
    go_enter Try.func4, Try.ntmps4
    go_wp2
    go_ret
    exact ⟨rfl, Below.refl _ _⟩
  have h6 : 65536 < mx := by
    by_cases h6 : 65536 < mx
    · exact h6
    · exact absurd ⟨by omega, by omega, by omega, by omega, by omega, by omega, by omega⟩ h
  clear h
  go_enter Try.func4, Try.ntmps4
  go_wp2
  go_ret
  exact ⟨rfl, Below.refl _ _⟩

set_option maxHeartbeats 400000 in
theorem main_zero (ng : Bool) (s : ByteArray) (x sh mx : Int) (w : World) (h : InRange s x sh mx) (h0 : s.size = 0) :
    Calls Try.prog 4 #[.bool ng, .string s, .int .i64 x, .int .i64 sh, .int .i64 mx] w fun e w' => e = .returned (.bool true) ∧ Below w.heap.size w w' := by
  have he := toList_empty h0
  have H0 : Hid (s.size = 0) := h0
  clear h0
  obtain ⟨g0, g1, g2, g3, g4, g5, g6⟩ := h
  go_enter Try.func4, Try.ntmps4
  go_wp2_with (first | (go_at_call 9; go_in))
  refine (canonical s _ g0).mono ?_
  rintro e w1 ⟨⟨b, rfl⟩, rfl⟩
  cases b
  · go_wp2
    go_ret
    exact ⟨rfl, Below.refl _ _⟩
  · go_wp2_with fail
    refine (zz_of ng s x sh mx _ _ _ (fun w => int_zero ng s x sh mx w H0.out)).mono ?_
    rintro e w2 ⟨rfl, hb⟩
    go_wp2
    go_ret
    exact ⟨rfl, hb⟩

set_option maxHeartbeats 400000 in
theorem main_no (ng : Bool) (s : ByteArray) (x sh mx : Int) (w : World) (h : InRange s x sh mx) (h0 : 0 < s.size) (hn : x + sh < 0 ∨ mx - (x + sh) < s.size) :
    Calls Try.prog 4 #[.bool ng, .string s, .int .i64 x, .int .i64 sh, .int .i64 mx] w fun e w' => e = .returned (.bool true) ∧ Below w.heap.size w w' := by
  have he := toList_not h0
  obtain ⟨g0, g1, g2, g3, g4, g5, g6⟩ := h
  have HN : Hid (x + sh < 0 ∨ mx - (x + sh) < s.size) := hn
  clear hn
  go_enter Try.func4, Try.ntmps4
  go_wp2_with (first | (go_at_call 9; go_in))
  refine (canonical s _ g0).mono ?_
  rintro e w1 ⟨⟨b, rfl⟩, rfl⟩
  cases b
  · go_wp2
    go_ret
    exact ⟨rfl, Below.refl _ _⟩
  · go_wp2_with fail
    refine (zz_of ng s x sh mx _ _ _ (fun w => int_no ng s x sh mx w h0 g0 g1 g2 g3 g4 g5 g6 HN.out)).mono ?_
    rintro e w2 ⟨rfl, hb⟩
    by_cases h1 : x + sh < 0
    · go_wp2
      go_ret
      exact ⟨rfl, hb⟩
    · have h2 : mx ≤ x + sh + s.size - 1 := by have := HN.out; omega
      go_wp2
      go_ret
      exact ⟨rfl, hb⟩
end Go.Proofs.Qxb6603029a.Decimal
