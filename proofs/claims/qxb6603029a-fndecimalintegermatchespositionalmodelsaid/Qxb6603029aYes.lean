/- FnDecimalIntegerMatchesPositionalModel, the way on which an integer is written. -/
import Derived.Test.Qxb6603029aDecimal
import Derived.Deep.OwnRows
import Derived.Laws.IdiomStrings
namespace Go.Proofs.Qxb6603029a.Yes
open Go.ChangeShapes Go.WideShapes Go.ChangeAt Go.RowKit
open Go.Proofs.Qxb6603029a.Plain Go.Proofs.Qxb6603029a.Walks Go.Proofs.Qxb6603029a.Parse Go.Proofs.Qxb6603029a.Model Go.Proofs.Qxb6603029a.Integer Go.Proofs.Qxb6603029a.Decimal
set_option linter.unusedVariables false

theorem info5 : (Try.prog.info? 5).map (fun i => (i.zero, i.size, i.bytes)) = some (some (.int .u8 0), 1, 1) := by kernel_rfl

theorem makeB (C : Int) (n : Nat) (hC : C = n) (h : n ≤ 281474976710656) (w : World) :
    (Instr.makeSlice 28 (.int .i64 0) (.int .i64 C)).run Try.prog w = .ok (.slice (some ⟨w.heap.size, 0, none⟩) 0 n) (w.alloc (.cells (madeCells #[.int .u8 0] n) 5)) := by
  subst hC
  obtain ⟨i, hi, hzz⟩ := Option.map_eq_some_iff.1 info5
  simp only [Prod.mk.injEq] at hzz
  obtain ⟨hz, hs, hb⟩ := hzz
  have hr := run_make (P := Try.prog) w 28 5 i _ Try.underlying28 hi hz .i64 .i64 0 n (by omega) (by omega) (by rw [hb]; omega) (by omega)
  rw [hs, Nat.mul_one] at hr
  exact hr

/-- the bytes of what is written -/
def outL (ng : Bool) (s : ByteArray) (z : Nat) : List UInt8 := (if ng then [45] else []) ++ (s.data.toList ++ List.replicate z 48)
theorem sz (s : ByteArray) : s.data.toList.length = s.size := rfl
theorem outL_pos (s : ByteArray) (z : Nat) : (outL false s z).length = z + s.size := by
  show (([] : List UInt8) ++ (s.data.toList ++ List.replicate z 48)).length = _
  rw [List.nil_append, List.length_append, List.length_replicate, sz]; omega
theorem outL_neg (s : ByteArray) (z : Nat) : (outL true s z).length = 1 + (z + s.size) := by
  show (([45] : List UInt8) ++ (s.data.toList ++ List.replicate z 48)).length = _
  rw [List.length_append, List.length_append, List.length_replicate, sz, List.length_singleton]; omega
theorem out_eq (ng : Bool) (s : ByteArray) (z : Nat) : out ng s z = ⟨(outL ng s z).toArray⟩ := by
  apply ByteArray.ext
  cases ng
  · simp [out, outL, zer, ByteArray.data_append]
  · simp [out, outL, zer, ByteArray.data_append]

/-- the j-th byte that is written -/
def lb (l : List UInt8) (j : Nat) : Int := ((l.getD j 0).toNat : Int)

theorem lb_cons (a : UInt8) (l : List UInt8) (k : Nat) : lb ([a] ++ l) (1 + k) = lb l k := by
  unfold lb; rw [Nat.add_comm 1 k]; rfl
theorem lb_digit0 (s : ByteArray) (z k : Nat) (h : k < s.size) : lb (s.data.toList ++ List.replicate z 48) k = (s[k].toNat : Int) := by
  have h' : k < s.data.toList.length := h
  have e : s.data.toList[k] = s[k] := rfl
  unfold lb
  rw [List.getD_eq_getElem?_getD, List.getElem?_append_left h', List.getElem?_eq_getElem h', e]
  rfl
theorem lb_digit (s : ByteArray) (z k : Nat) (h : k < s.size) : lb (outL false s z) k = (s[k].toNat : Int) ∧ lb (outL true s z) (1 + k) = (s[k].toNat : Int) :=
  ⟨lb_digit0 s z k h, (lb_cons _ _ _).trans (lb_digit0 s z k h)⟩
theorem lb_zero0 (s : ByteArray) (z k : Nat) (h : ¬ k < s.size) (h' : k < z + s.size) : lb (s.data.toList ++ List.replicate z 48) k = 48 := by
  have g : s.data.toList.length ≤ k := by rw [sz]; omega
  have g' : k - s.data.toList.length < z := by rw [sz]; omega
  unfold lb
  rw [List.getD_eq_getElem?_getD, List.getElem?_append_right g, List.getElem?_replicate, if_pos g']
  rfl
theorem lb_zero (s : ByteArray) (z k : Nat) (h : ¬ k < s.size) (h' : k < z + s.size) : lb (outL false s z) k = 48 ∧ lb (outL true s z) (1 + k) = 48 :=
  ⟨lb_zero0 s z k h h', (lb_cons _ _ _).trans (lb_zero0 s z k h h')⟩
theorem lb_minus (s : ByteArray) (z : Nat) : lb (outL true s z) 0 = 45 := rfl

theorem step_row {f : Nat → Value} {l : List UInt8} {k : Nat} {b : Int} (h : ∀ j, j < k → f j = .int .u8 (lb l j)) (hb : lb l k = b) :
    ∀ j, j < k + 1 → (fun j => if j = k then Value.int .u8 b else f j) j = .int .u8 (lb l j) := by
  intro j hj
  show (if j = k then Value.int .u8 b else f j) = _
  by_cases e : j = k
  · rw [if_pos e, e, hb]
  · rw [if_neg e]; exact h j (by omega)

theorem below_step {a w : World} {k : Nat} {u : Value} {o : Obj} (h : Below a.heap.size a w) : Below a.heap.size a ((w.setCell ⟨a.heap.size, k, none⟩ u).alloc o) :=
  have g := h.setCell (p := ⟨a.heap.size, k, none⟩) (Nat.le_refl _) u
  g.alloc g.size o

/-- string(want), where the row holds all bytes -/
theorem conv_row (ng : Bool) (s : ByteArray) (z g n cap : Nat) (f : Nat → Value) (w : World) (hn : n = (outL ng s z).length) (hc : n ≤ cap) (hrow : w.rowIs g 5 cap f) (hf : ∀ j, j < n → f j = .int .u8 (lb (outL ng s z) j)) :
    (convert 28 9 (.slice (some ⟨g, 0, none⟩) n cap)).run Try.prog w = .ok (.string (out ng s z)) w := by
  rw [out_eq]
  subst hn
  refine run_convert_bytes_back w 28 9 5 ⟨g, 0, none⟩ cap (outL ng s z) Try.underlying28 Try.underlying5 Try.underlying9 (fun j hj => ?_)
  rw [Addr.add_lit, Nat.zero_add, hrow.cell (i := j) (by omega), hf j hj]
  simp [lb, List.getElem?_eq_getElem hj]

theorem made_minus (w : World) (n : Nat) : (w.alloc (.cells ((madeCells #[.int .u8 0] n).setIfInBounds 0 (.int .u8 45)) 5)).rowIs w.heap.size 5 n (fun j => if j = 0 then .int .u8 45 else .int .u8 0) := by
  have h := (World.rowIs_made w (.int .u8 0) n 5).set 0 (.int .u8 45)
  rw [World.setCell_alloc_at _ _ _ _ _ rfl] at h
  exact h
theorem first_row (s : ByteArray) (z : Nat) : ∀ j, j < 1 + 0 → (fun j => if j = 0 then Value.int .u8 45 else .int .u8 0) j = .int .u8 (lb (outL true s z) j) := by
  intro j hj
  obtain rfl : j = 0 := by omega
  rfl
theorem made_row (w : World) (n : Nat) : (w.alloc (.cells (madeCells #[.int .u8 0] n) 5)).rowIs w.heap.size 5 n (fun _ => .int .u8 0) := World.rowIs_made w _ n 5

set_option maxHeartbeats 1000000 in
theorem main_pos (s : ByteArray) (x sh mx : Int) (z : Nat) (w : World) (h : InRange s x sh mx) (h0 : 0 < s.size) (hz : x + sh = z) (hy : s.size ≤ mx - z) :
    Calls Try.prog 4 #[.bool false, .string s, .int .i64 x, .int .i64 sh, .int .i64 mx] w fun e w' => e = .returned (.bool true) ∧ Below w.heap.size w w' := by
  have he := toList_not h0
  obtain ⟨g0, g1, g2, g3, g4, g5, g6⟩ := h
  have hz' : z ≤ 65536 := by omega
  go_enter Try.func4, Try.ntmps4
  go_wp2_with (first | (go_at_call 9; go_in))
  refine (canonical s _ g0).mono ?_
  rintro e w1 ⟨⟨b, rfl⟩, rfl⟩
  cases b
  · go_wp2
    go_ret
    exact ⟨rfl, Below.refl _ _⟩
  · go_wp2_with fail
    refine (zz_of false s x sh mx _ _ _ (fun w => int_pos s x sh mx z w h0 g0 g1 g2 g3 g4 g5 g6 hz hy)).mono ?_
    rintro e w2 ⟨rfl, hb⟩
    have hmk := makeB ((z : Int) + s.size) (z + s.size) (by omega) (by omega)
    have hrow0 := made_row w2 (z + s.size)
    go_wp2
    clear hmk
    go_loopw [16, 17] (fun v p wr => ∃ (k : Nat) (f : Nat → Value), k ≤ z + s.size ∧ p = .int .i64 ((z : Int) + s.size - 1 - k) ∧ v = .slice (some ⟨w2.heap.size, 0, none⟩) k (z + s.size) ∧ wr.rowIs w2.heap.size 5 (z + s.size) f ∧ (∀ j, j < k → f j = .int .u8 (lb (outL false s z) j)) ∧ Below w2.heap.size w2 wr) (fun _ p _ => ((intOf p) + 1).toNat)
    case atStart => exact ⟨0, _, Nat.zero_le _, by go_num, rfl, made_row w2 _, fun j hj => by omega, (Below.refl _ _).alloc (Nat.le_refl _) _⟩
    case round =>
      obtain ⟨k, f, hk, rfl, rfl, hrow, hf, hnx⟩ := hrel
      have hlt := hrow.lt
      by_cases hkn : k < s.size
      · have e1 : ((z : Int) + s.size - 1 - ((z : Int) + s.size - 1 - k)).toNat = k := by omega
        have c1 := hrow.cell (i := k) (by omega)
        have c2 := hrow.frozen k
        have B : Hid (lb (outL false s z) k = (s[k].toNat : Int)) := (lb_digit s z k hkn).1
        go_wp2
        exact ⟨⟨k + 1, _, by omega, by go_num, rfl, (hrow.set _ _).alloc _, step_row hf B.out, below_step hnx⟩, by simp [intOf]; omega⟩
      · by_cases hkz : k < z + s.size
        · have c1 := hrow.cell (i := k) (by omega)
          have c2 := hrow.frozen k
          have B : Hid (lb (outL false s z) k = 48) := (lb_zero s z k hkn hkz).1
          go_wp2
          exact ⟨⟨k + 1, _, by omega, by go_num, rfl, (hrow.set _ _).alloc _, step_row hf B.out, below_step hnx⟩, by simp [intOf]; omega⟩
        · have hcv := conv_row false s z w2.heap.size k (z + s.size) f wr (by rw [outL_pos]; omega) (by omega) hrow hf
          go_wp2
          go_ret
          exact ⟨rfl, hb.trans (hnx.mono hb.size)⟩

set_option maxHeartbeats 1000000 in
theorem main_neg (s : ByteArray) (x sh mx : Int) (z : Nat) (w : World) (h : InRange s x sh mx) (h0 : 0 < s.size) (hz : x + sh = z) (hy : s.size ≤ mx - z) :
    Calls Try.prog 4 #[.bool true, .string s, .int .i64 x, .int .i64 sh, .int .i64 mx] w fun e w' => e = .returned (.bool true) ∧ Below w.heap.size w w' := by
  have he := toList_not h0
  obtain ⟨g0, g1, g2, g3, g4, g5, g6⟩ := h
  have hz' : z ≤ 65536 := by omega
  go_enter Try.func4, Try.ntmps4
  go_wp2_with (first | (go_at_call 9; go_in))
  refine (canonical s _ g0).mono ?_
  rintro e w1 ⟨⟨b, rfl⟩, rfl⟩
  cases b
  · go_wp2
    go_ret
    exact ⟨rfl, Below.refl _ _⟩
  · go_wp2_with fail
    refine (zz_of true s x sh mx _ _ _ (fun w => int_neg s x sh mx z w h0 g0 g1 g2 g3 g4 g5 g6 hz hy)).mono ?_
    rintro e w2 ⟨rfl, hb⟩
    have hmk := makeB ((z : Int) + s.size + 1) (z + s.size + 1) (by omega) (by omega)
    have hrow0 := made_row w2 (z + s.size + 1)
    have c1 : (madeCells #[Value.int .u8 0] (z + s.size + 1))[0]? = some (.int .u8 0) := by simp [madeCells]
    clear hrow0
    go_wp2
    clear hmk
    go_loopw [16, 17] (fun v p wr => ∃ (k : Nat) (f : Nat → Value), k ≤ z + s.size ∧ p = .int .i64 ((z : Int) + s.size - 1 - k) ∧ v = .slice (some ⟨w2.heap.size, 0, none⟩) (1 + k) (z + s.size + 1) ∧ wr.rowIs w2.heap.size 5 (z + s.size + 1) f ∧ (∀ j, j < (1 + k) → f j = .int .u8 (lb (outL true s z) j)) ∧ Below w2.heap.size w2 wr) (fun _ p _ => ((intOf p) + 1).toNat)
    case atStart => exact ⟨0, _, Nat.zero_le _, by go_num, rfl, (made_minus w2 _).alloc _, first_row s z, ((Below.refl _ _).alloc (Nat.le_refl _) _).alloc (by simp) _⟩
    case round =>
      obtain ⟨k, f, hk, rfl, rfl, hrow, hf, hnx⟩ := hrel
      have hlt := hrow.lt
      by_cases hkn : k < s.size
      · have e1 : ((z : Int) + s.size - 1 - ((z : Int) + s.size - 1 - k)).toNat = k := by omega
        have c1 := hrow.cell (i := (1 + k)) (by omega)
        have c2 := hrow.frozen (1 + k)
        have B : Hid (lb (outL true s z) (1 + k) = (s[k].toNat : Int)) := (lb_digit s z k hkn).2
        go_wp2
        exact ⟨⟨k + 1, _, by omega, by go_num, rfl, (hrow.set _ _).alloc _, step_row hf B.out, below_step hnx⟩, by simp [intOf]; omega⟩
      · by_cases hkz : k < z + s.size
        · have c1 := hrow.cell (i := (1 + k)) (by omega)
          have c2 := hrow.frozen (1 + k)
          have B : Hid (lb (outL true s z) (1 + k) = 48) := (lb_zero s z k hkn hkz).2
          go_wp2
          exact ⟨⟨k + 1, _, by omega, by go_num, rfl, (hrow.set _ _).alloc _, step_row hf B.out, below_step hnx⟩, by simp [intOf]; omega⟩
        · have hcv := conv_row true s z w2.heap.size (1 + k) (z + s.size + 1) f wr (by rw [outL_neg]; omega) (by omega) hrow hf
          go_wp2
          go_ret
          exact ⟨rfl, hb.trans (hnx.mono hb.size)⟩

end Go.Proofs.Qxb6603029a.Yes
