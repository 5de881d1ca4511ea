/- Contracts on the road of FnDecimalIntegerMatchesPositionalModel: flagsB1Canonical, (decimal).integer. -/
import Derived.Test.Qxb6603029aModel
import Derived.Test.Qxb6603029aRepeat
import Derived.Deep.RegionWith
namespace Go.Proofs.Qxb6603029a.Integer
open Go.ChangeShapes Go.WideShapes Go.ChangeAt Go.RowKit
open Go.Proofs.Qxb6603029a.Plain Go.Proofs.Qxb6603029a.Walks Go.Proofs.Qxb6603029a.Parse Go.Proofs.Qxb6603029a.Model
set_option linter.unusedVariables false

/-- the call returns a bool -/
def IsB (e : Ending) : Prop := ∃ b : Bool, e = .returned (.bool b)

theorem canonical (s : ByteArray) (w : World) (hs : s.size ≤ 1048576) :
    Calls Try.prog 10 #[.string s] w fun e w' => IsB e ∧ w' = w := by
  by_cases h0 : 0 < s.size
  · have he := toList_not h0
    cases h1 : ((s[0].toNat : Int) == 48)
    · cases h2 : ((s[s.size - 1].toNat : Int) == 48)
      · have e1 : ((s.size : Int) - 1).toNat = s.size - 1 := by omega
        go_enter Try.func10, Try.ntmps10
        go_wp2_with fail
        go_loop [3] (fun i => ∃ k : Nat, k ≤ s.size ∧ i = .int .i64 k) (fun i => s.size - (intOf i).toNat)
        case atStart => exact ⟨0, Nat.zero_le _, rfl⟩
        case round =>
          obtain ⟨k, hk, rfl⟩ := hrel
          clear h1 h2 he
          by_cases hlt : k < s.size
          · by_cases hdg : dg s k
            · obtain ⟨d1, d2⟩ := dg_at hlt hdg
              go_wp2_with (go_at_call 14; refine (digit_yes _ _ d1 d2).mono ?_; rintro e w' ⟨rfl, rfl⟩)
              exact ⟨⟨k + 1, by omega, by go_num⟩, by simp [intOf]; omega⟩
            · have hno := not_dg_of hlt hdg
              clear hdg
              go_wp2_with (go_at_call 14; refine (digit_no _ _ hno).mono ?_; rintro e w' ⟨rfl, rfl⟩)
              go_ret
              exact ⟨⟨_, rfl⟩, rfl⟩
          · go_wp2
            go_ret
            exact ⟨⟨_, rfl⟩, rfl⟩
      · have e1 : ((s.size : Int) - 1).toNat = s.size - 1 := by omega
        go_enter Try.func10, Try.ntmps10
        go_wp2
        go_ret
        exact ⟨⟨_, rfl⟩, rfl⟩
    · go_enter Try.func10, Try.ntmps10
      go_wp2
      go_ret
      exact ⟨⟨_, rfl⟩, rfl⟩
  · have he := toList_empty (show s.size = 0 by omega)
    go_enter Try.func10, Try.ntmps10
    go_wp2
    go_ret
    exact ⟨⟨_, rfl⟩, rfl⟩

/-- z zeros -/
def zer (z : Nat) : ByteArray := ⟨(List.replicate z 48).toArray⟩
theorem zer_size (z : Nat) : (zer z).size = z := by simp [zer, ByteArray.size]
theorem repeatL_zero (z : Nat) : Lib.repeatL [48] z = List.replicate z 48 := by
  induction z with
  | zero => rfl
  | succ z ih => simp [Lib.repeatL, ih, List.replicate_succ]
theorem repeat0 (z : Nat) (w : World) (h : z ≤ 65536) :
    Calls Try.prog 18 #[.string ⟨#[48]⟩, .int .i64 z] w fun e w' => e = .returned (.string (zer z)) ∧ Below w.heap.size w w' := by
  refine (Rep.strings_Repeat ⟨#[48]⟩ z w (by omega) (by show 1 * z ≤ _; omega)).mono ?_
  rintro e w' ⟨rfl, hb⟩
  exact ⟨by rw [zer, ← repeatL_zero], hb⟩

/-- (decimal).integer: the value 0 -/
theorem int_zero (ng : Bool) (s : ByteArray) (x sh mx : Int) (w : World) (h : s.size = 0) :
    Calls Try.prog 16 #[.agg #[.bool ng, .string s, .int .i64 x], .int .i64 sh, .int .i64 mx] w fun e w' => e = .returned (.tuple #[.string ⟨#[48]⟩, .bool true]) ∧ Below w.heap.size w w' := by
  have he := toList_empty h
  clear h
  go_enter Try.func16, Try.ntmps16
  go_wp2
  go_ret2
  exact ⟨rfl, (Below.refl _ _).alloc (Nat.le_refl _) _⟩

/-- (decimal).integer refuses -/
theorem int_no (ng : Bool) (s : ByteArray) (x sh mx : Int) (w : World) (h0 : 0 < s.size) (hs : s.size ≤ 1048576)
    (hx1 : -536870912 ≤ x) (hx2 : x ≤ 536870912) (hs1 : -536870912 ≤ sh) (hs2 : sh ≤ 536870912) (hm1 : -536870912 ≤ mx) (hm2 : mx ≤ 65536)
    (h : x + sh < 0 ∨ mx - (x + sh) < s.size) :
    Calls Try.prog 16 #[.agg #[.bool ng, .string s, .int .i64 x], .int .i64 sh, .int .i64 mx] w fun e w' => e = .returned (.tuple #[.string ⟨#[]⟩, .bool false]) ∧ Below w.heap.size w w' := by
  have he := toList_not h0
  by_cases h1 : x + sh < 0
  · clear h
    go_enter Try.func16, Try.ntmps16
    go_wp2
    go_ret2
    exact ⟨rfl, (Below.refl _ _).alloc (Nat.le_refl _) _⟩
  · have h2 : mx - (x + sh) < s.size := by omega
    clear h
    go_enter Try.func16, Try.ntmps16
    go_wp2
    go_ret2
    exact ⟨rfl, (Below.refl _ _).alloc (Nat.le_refl _) _⟩

/-- what (decimal).integer writes -/
def out (ng : Bool) (s : ByteArray) (z : Nat) : ByteArray := if ng then ⟨#[45]⟩ ++ (s ++ zer z) else s ++ zer z

set_option maxHeartbeats 400000 in
theorem int_pos (s : ByteArray) (x sh mx : Int) (z : Nat) (w : World) (h0 : 0 < s.size) (hs : s.size ≤ 1048576)
    (hx1 : -536870912 ≤ x) (hx2 : x ≤ 536870912) (hs1 : -536870912 ≤ sh) (hs2 : sh ≤ 536870912) (hm1 : -536870912 ≤ mx) (hm2 : mx ≤ 65536)
    (hz : x + sh = z) (h : s.size ≤ mx - z) :
    Calls Try.prog 16 #[.agg #[.bool false, .string s, .int .i64 x], .int .i64 sh, .int .i64 mx] w fun e w' => e = .returned (.tuple #[.string (out false s z), .bool true]) ∧ Below w.heap.size w w' := by
  have he := toList_not h0
  have hz' : z ≤ 65536 := by omega
  have hzs : (zer z).size ≤ 65536 := by rw [zer_size]; exact hz'
  go_enter Try.func16, Try.ntmps16
  go_wp2
  go_region_with (go_at_call 18; refine (repeat0 z _ hz').mono ?_; rintro e w1 ⟨rfl, hb1⟩; have c0 : w1.cell? ⟨w.heap.size, 0, none⟩ = some (.bool false) := (hb1.cell (p := ⟨w.heap.size, 0, none⟩) (by simp)).trans (by simp); have c1 : w1.cell? ⟨w.heap.size, 1, none⟩ = some (.string s) := (hb1.cell (p := ⟨w.heap.size, 1, none⟩) (by simp)).trans (by simp))
  all_goals
    go_wp2
    go_ret2
    exact ⟨rfl, (((Below.refl _ _).alloc (Nat.le_refl _) _).drew).trans (hb1.mono (by simp))⟩

set_option maxHeartbeats 400000 in
theorem int_neg (s : ByteArray) (x sh mx : Int) (z : Nat) (w : World) (h0 : 0 < s.size) (hs : s.size ≤ 1048576)
    (hx1 : -536870912 ≤ x) (hx2 : x ≤ 536870912) (hs1 : -536870912 ≤ sh) (hs2 : sh ≤ 536870912) (hm1 : -536870912 ≤ mx) (hm2 : mx ≤ 65536)
    (hz : x + sh = z) (h : s.size ≤ mx - z) :
    Calls Try.prog 16 #[.agg #[.bool true, .string s, .int .i64 x], .int .i64 sh, .int .i64 mx] w fun e w' => e = .returned (.tuple #[.string (out true s z), .bool true]) ∧ Below w.heap.size w w' := by
  have he := toList_not h0
  have hz' : z ≤ 65536 := by omega
  have hzs : (zer z).size ≤ 65536 := by rw [zer_size]; exact hz'
  have hsz : (s ++ zer z).size ≤ 2000000 := by rw [ByteArray.size_append]; omega
  go_enter Try.func16, Try.ntmps16
  go_wp2
  go_region_with (go_at_call 18; refine (repeat0 z _ hz').mono ?_; rintro e w1 ⟨rfl, hb1⟩; have c0 : w1.cell? ⟨w.heap.size, 0, none⟩ = some (.bool true) := (hb1.cell (p := ⟨w.heap.size, 0, none⟩) (by simp)).trans (by simp); have c1 : w1.cell? ⟨w.heap.size, 1, none⟩ = some (.string s) := (hb1.cell (p := ⟨w.heap.size, 1, none⟩) (by simp)).trans (by simp))
  all_goals
    go_wp2
    go_ret2
    exact ⟨rfl, (((Below.refl _ _).alloc (Nat.le_refl _) _).drew).trans (hb1.mono (by simp))⟩

/-- ZZDecimalInteger is (decimal).integer -/
theorem zz_of (ng : Bool) (s : ByteArray) (x sh mx : Int) (w : World) (r : ByteArray) (ok : Bool)
    (H : ∀ w : World, Calls Try.prog 16 #[.agg #[.bool ng, .string s, .int .i64 x], .int .i64 sh, .int .i64 mx] w fun e w' => e = .returned (.tuple #[.string r, .bool ok]) ∧ Below w.heap.size w w') :
    Calls Try.prog 11 #[.bool ng, .string s, .int .i64 x, .int .i64 sh, .int .i64 mx] w fun e w' => e = .returned (.tuple #[.string r, .bool ok]) ∧ Below w.heap.size w w' := by
  have K : Hid (∀ w : World, Calls Try.prog 16 #[.agg #[.bool ng, .string s, .int .i64 x], .int .i64 sh, .int .i64 mx] w fun e w' => e = .returned (.tuple #[.string r, .bool ok]) ∧ Below w.heap.size w w') := H
  clear H
  go_enter Try.func11, Try.ntmps11
  go_wp2_with fail
  refine (K.out _).mono ?_
  rintro e w1 ⟨rfl, hb⟩
  go_wp2
  go_ret2
  exact ⟨rfl, hb⟩
end Go.Proofs.Qxb6603029a.Integer
