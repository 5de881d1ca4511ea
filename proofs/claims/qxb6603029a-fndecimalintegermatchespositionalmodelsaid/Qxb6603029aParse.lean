/- Contracts of parseExponent and of its model. -/
import Derived.Test.Qxb6603029aWalks
namespace Go.Proofs.Qxb6603029a.Parse
open Go.ChangeShapes Go.WideShapes Go.ChangeAt Go.RowKit
open Go.Proofs.Qxb6603029a.Plain Go.Proofs.Qxb6603029a.Walks

def st (s : ByteArray) : Nat := if byte s 0 = 43 ∨ byte s 0 = 45 then 1 else 0
def sg (s : ByteArray) : Int := if byte s 0 = 45 then -1 else 1
/-- the answer of parseExponent where the digits end at place i -/
def ans (s : ByteArray) (i : Nat) : Value :=
  if i = st s then .tuple #[.int .i64 0, .string (s.extract (st s) s.size), .bool false]
  else .tuple #[.int .i64 (sg s * sat (val s (st s) (i - st s))), .string (s.extract i s.size), .bool true]

theorem toList_isEmpty (s : ByteArray) : s.toList.isEmpty = decide (s.size = 0) := by
  rw [Lib.toList_data]
  rw [Bool.eq_iff_iff]
  simp [← Array.length_toList, ByteArray.size]
theorem toList_empty {s : ByteArray} (h : s.size = 0) : s.toList.isEmpty = true := by rw [toList_isEmpty]; simp [h]
theorem toList_not {s : ByteArray} (h : 0 < s.size) : s.toList.isEmpty = false := by rw [toList_isEmpty]; exact decide_eq_false (by omega)

theorem run_dg {t ds : ByteArray} {i : Nat} (e : ds = t.extract 0 i) (h : IsRun t 0 i) : ds.size = i ∧ (∀ j, j < ds.size → dg ds j) ∧ val ds 0 i = val t 0 i := by
  obtain ⟨_, h1, h2, _⟩ := h
  have hz : ds.size = i := by rw [e, ByteArray.size_extract]; omega
  refine ⟨hz, fun j hj => ?_, ?_⟩
  · have := h2 j (Nat.zero_le _) (by omega)
    unfold dg at *
    rw [e, byte_extract t 0 i j (by omega) h1, Nat.zero_add]
    exact this
  · refine val_congr _ _ _ _ i (fun j hj => ?_) _ (Nat.le_refl _)
    rw [e, Nat.zero_add, byte_extract t 0 i j (by omega) h1, Nat.zero_add]

theorem sat_next (x d : Int) (hd : 0 ≤ d) : (if 100000000 < sat x * 10 + d then 100000000 else sat x * 10 + d) = sat (x * 10 + d) := by
  rw [← sat_step x d hd]
  generalize sat x * 10 + d = y
  unfold sat
  split <;> split <;> omega

theorem byte0 {s : ByteArray} (h : 0 < s.size) : byte s 0 = (s[0].toNat : Int) := byte_at s 0 h

theorem st_none {s : ByteArray} (h : 0 < s.size) (h43 : ((s[0].toNat : Int) == 43) = false) (h45 : ((s[0].toNat : Int) == 45) = false) : st s = 0 ∧ sg s = 1 := by
  simp at h43 h45
  unfold st sg
  rw [byte0 h, if_neg (by omega), if_neg (by omega)]
  exact ⟨rfl, rfl⟩
theorem st_empty {s : ByteArray} (h : s.size = 0) : st s = 0 ∧ sg s = 1 := by
  unfold st sg
  rw [byte_end s 0 (by omega), if_neg (by omega), if_neg (by omega)]
  exact ⟨rfl, rfl⟩
theorem st_plus {s : ByteArray} (h : 0 < s.size) (h43 : ((s[0].toNat : Int) == 43) = true) : st s = 1 ∧ sg s = 1 := by
  simp at h43
  unfold st sg
  rw [byte0 h, if_pos (by omega), if_neg (by omega)]
  exact ⟨rfl, rfl⟩
theorem st_minus {s : ByteArray} (h : 0 < s.size) (h45 : ((s[0].toNat : Int) == 45) = true) : st s = 1 ∧ sg s = -1 := by
  simp at h45
  unfold st sg
  rw [byte0 h, if_pos (by omega), if_pos (by omega)]
  exact ⟨rfl, rfl⟩

/-- what is parsed behind the sign -/
theorem of_tail {s t : ByteArray} {a i : Nat} (ha : st s = a) (hs : a ≤ s.size) (e : t = s.extract a s.size) (h : IsRun t 0 i) :
    IsRun s (st s) (a + i) ∧ t.extract i t.size = s.extract (a + i) s.size ∧ val t 0 i = val s a i := by
  have hz : t.size = s.size - a := by rw [e, ByteArray.size_extract]; omega
  have h1 := h.2.1
  refine ⟨?_, ?_, ?_⟩
  · rw [ha]; subst e; exact isRun_extract hs h
  · rw [hz]; subst e; rw [ByteArray.extract_extract]; congr 1; omega
  · refine val_congr _ _ _ _ i (fun j hj => ?_) _ (Nat.le_refl _)
    rw [e, Nat.zero_add, byte_extract s a s.size j (by omega) (Nat.le_refl _)]

theorem ans_no {s t : ByteArray} {a i : Nat} (ha : st s = a) (e : t = s.extract a s.size) (hi : i = 0) :
    Value.tuple #[.int .i64 0, .string t, .bool false] = ans s (a + i) := by
  unfold ans
  rw [if_pos (by omega), ha, e]
theorem ans_yes {s t : ByteArray} {a i : Nat} {g v : Int} (ha : st s = a) (hg : sg s = g) (hi : ¬ i = 0) (e : t = s.extract (a + i) s.size) (hv : v = g * sat (val s a i)) :
    Value.tuple #[.int .i64 v, .string t, .bool true] = ans s (a + i) := by
  unfold ans
  rw [if_neg (by omega), ha, hg, e, hv, show a + i - a = i by omega]

theorem parse_none (s : ByteArray) (w : World) (hs : s.size ≤ 1048576) (h0 : 0 < s.size) (h43 : ((s[0].toNat : Int) == 43) = false) (h45 : ((s[0].toNat : Int) == 45) = false) :
    Calls Try.prog 13 #[.string s] w fun e w' => ∃ i, IsRun s (st s) i ∧ e = .returned (ans s i) ∧ Grown w w' := by
  have he := toList_not h0
  obtain ⟨hst, hsg⟩ := st_none h0 h43 h45
  have ST : Hid (st s = 0) := hst
  have SG : Hid (sg s = 1) := hsg
  clear hst hsg
  go_enter Try.func13, Try.ntmps13
  go_wp2_with fail
  have T : Hid (s = s.extract 0 s.size) := ByteArray.extract_zero_size.symm
  refine (leading s w hs).mono ?_
  rintro e w1 ⟨i, hrun, rfl, hg⟩
  obtain ⟨ds, hds⟩ : ∃ d, d = s.extract 0 i := ⟨_, rfl⟩
  rw [← hds]
  obtain ⟨hz, hd, hv⟩ := run_dg hds hrun
  obtain ⟨k1, k2, k3⟩ := of_tail ST.out (by omega) T.out hrun
  have Z : Hid (ds.size = i) := hz
  have V : Hid (val ds 0 i = val s 0 i) := hv.trans k3
  have K2 : Hid (s.extract i s.size = s.extract (0 + i) s.size) := k2
  clear hds hz hv k2 k3
  by_cases hi : i = 0
  · have hem : ds.toList.isEmpty = true := toList_empty (by rw [Z.out, hi])
    have HI : Hid (i = 0) := hi
    clear hi
    go_wp2
    go_ret3
    exact ⟨_, k1, congrArg Ending.returned (ans_no ST.out T.out HI.out), hg⟩
  · have hem : ds.toList.isEmpty = false := toList_not (by rw [Z.out]; omega)
    go_wp2_with fail
    go_loopw [2] (fun x w' => ∃ pos : Nat, w' = w1.iter ds pos ∧ pos ≤ ds.size ∧ x = .int .i64 (sat (val ds 0 pos))) (fun _ w' => ds.size - w'.iterPos w1.heap.size)
    case atStart => exact ⟨0, rfl, Nat.zero_le _, rfl⟩
    case round =>
      obtain ⟨pos, rfl, hpl, rfl⟩ := hrel
      obtain ⟨v0, _⟩ := val_bd ds 0 ds.size (fun j hj => by rw [Nat.zero_add]; exact hd j hj) pos hpl
      obtain ⟨s0, s1⟩ := sat_bd _ v0
      by_cases hp : pos < ds.size
      · obtain ⟨d1, d2⟩ := dg_at hp (hd pos hp)
        have hnx : ∀ ty, (Instr.next (.pointer (some ⟨w1.heap.size, 0, none⟩)) true ty).run Try.prog (w1.iter ds pos) = _ := fun ty => run_next_ascii w1 ds pos ty hp (by omega)
        have E : Hid (val ds 0 (pos + 1) = val ds 0 pos * 10 + ((ds[pos].toNat : Int) - 48)) := by show _ = _; rw [val, Nat.zero_add, byte_at ds pos hp]
        go_wp2
        exact ⟨⟨pos + 1, rfl, by omega, by rw [E.out, sat_next _ _ (by omega)]⟩, by simp; omega⟩
      · have hnx : ∀ ty, (Instr.next (.pointer (some ⟨w1.heap.size, 0, none⟩)) true ty).run Try.prog (w1.iter ds pos) = _ := fun ty => run_next_end w1 ds pos ty hp
        have P : Hid (pos = i) := by show pos = i; have := Z.out; omega
        go_wp2
        go_ret3
        exact ⟨_, k1, congrArg Ending.returned (ans_yes ST.out SG.out hi K2.out (by rw [P.out, V.out]; omega)), grown_trans hg (grown_iter _ _ _)⟩

theorem parse_empty (s : ByteArray) (w : World) (hs : s.size ≤ 1048576) (h0 : s.size = 0) :
    Calls Try.prog 13 #[.string s] w fun e w' => ∃ i, IsRun s (st s) i ∧ e = .returned (ans s i) ∧ Grown w w' := by
  have he := toList_empty h0
  have H0 : Hid (s.size = 0) := h0
  obtain ⟨hst, hsg⟩ := st_empty h0
  have ST : Hid (st s = 0) := hst
  have SG : Hid (sg s = 1) := hsg
  clear hst hsg h0
  go_enter Try.func13, Try.ntmps13
  go_wp2_with fail
  have T : Hid (s = s.extract 0 s.size) := ByteArray.extract_zero_size.symm
  refine (leading s w hs).mono ?_
  rintro e w1 ⟨i, hrun, rfl, hg⟩
  obtain ⟨ds, hds⟩ : ∃ d, d = s.extract 0 i := ⟨_, rfl⟩
  rw [← hds]
  obtain ⟨hz, hd, hv⟩ := run_dg hds hrun
  obtain ⟨k1, k2, k3⟩ := of_tail ST.out (by omega) T.out hrun
  have Z : Hid (ds.size = i) := hz
  have V : Hid (val ds 0 i = val s 0 i) := hv.trans k3
  have K2 : Hid (s.extract i s.size = s.extract (0 + i) s.size) := k2
  clear hds hz hv k2 k3
  by_cases hi : i = 0
  · have hem : ds.toList.isEmpty = true := toList_empty (by rw [Z.out, hi])
    have HI : Hid (i = 0) := hi
    clear hi
    go_wp2
    go_ret3
    exact ⟨_, k1, congrArg Ending.returned (ans_no ST.out T.out HI.out), hg⟩
  · have hem : ds.toList.isEmpty = false := toList_not (by rw [Z.out]; omega)
    go_wp2_with fail
    go_loopw [2] (fun x w' => ∃ pos : Nat, w' = w1.iter ds pos ∧ pos ≤ ds.size ∧ x = .int .i64 (sat (val ds 0 pos))) (fun _ w' => ds.size - w'.iterPos w1.heap.size)
    case atStart => exact ⟨0, rfl, Nat.zero_le _, rfl⟩
    case round =>
      obtain ⟨pos, rfl, hpl, rfl⟩ := hrel
      obtain ⟨v0, _⟩ := val_bd ds 0 ds.size (fun j hj => by rw [Nat.zero_add]; exact hd j hj) pos hpl
      obtain ⟨s0, s1⟩ := sat_bd _ v0
      by_cases hp : pos < ds.size
      · obtain ⟨d1, d2⟩ := dg_at hp (hd pos hp)
        have hnx : ∀ ty, (Instr.next (.pointer (some ⟨w1.heap.size, 0, none⟩)) true ty).run Try.prog (w1.iter ds pos) = _ := fun ty => run_next_ascii w1 ds pos ty hp (by omega)
        have E : Hid (val ds 0 (pos + 1) = val ds 0 pos * 10 + ((ds[pos].toNat : Int) - 48)) := by show _ = _; rw [val, Nat.zero_add, byte_at ds pos hp]
        go_wp2
        exact ⟨⟨pos + 1, rfl, by omega, by rw [E.out, sat_next _ _ (by omega)]⟩, by simp; omega⟩
      · have hnx : ∀ ty, (Instr.next (.pointer (some ⟨w1.heap.size, 0, none⟩)) true ty).run Try.prog (w1.iter ds pos) = _ := fun ty => run_next_end w1 ds pos ty hp
        have P : Hid (pos = i) := by show pos = i; have := Z.out; omega
        go_wp2
        go_ret3
        exact ⟨_, k1, congrArg Ending.returned (ans_yes ST.out SG.out hi K2.out (by rw [P.out, V.out]; omega)), grown_trans hg (grown_iter _ _ _)⟩

theorem parse_plus (s : ByteArray) (w : World) (hs : s.size ≤ 1048576) (h0 : 0 < s.size) (h43 : ((s[0].toNat : Int) == 43) = true) :
    Calls Try.prog 13 #[.string s] w fun e w' => ∃ i, IsRun s (st s) i ∧ e = .returned (ans s i) ∧ Grown w w' := by
  have he := toList_not h0
  obtain ⟨hst, hsg⟩ := st_plus h0 h43
  have ST : Hid (st s = 1) := hst
  have SG : Hid (sg s = 1) := hsg
  clear hst hsg
  go_enter Try.func13, Try.ntmps13
  go_wp2_with fail
  obtain ⟨t, ht0⟩ : ∃ t, t = s.extract 1 s.size := ⟨_, rfl⟩
  rw [← ht0]
  have T : Hid (t = s.extract 1 s.size) := ht0
  have ht : t.size ≤ 1048576 := by rw [ht0, ByteArray.size_extract]; omega
  clear ht0
  refine (leading t w ht).mono ?_
  rintro e w1 ⟨i, hrun, rfl, hg⟩
  obtain ⟨ds, hds⟩ : ∃ d, d = t.extract 0 i := ⟨_, rfl⟩
  rw [← hds]
  obtain ⟨hz, hd, hv⟩ := run_dg hds hrun
  obtain ⟨k1, k2, k3⟩ := of_tail ST.out (by omega) T.out hrun
  have Z : Hid (ds.size = i) := hz
  have V : Hid (val ds 0 i = val s 1 i) := hv.trans k3
  have K2 : Hid (t.extract i t.size = s.extract (1 + i) s.size) := k2
  clear hds hz hv k2 k3
  by_cases hi : i = 0
  · have hem : ds.toList.isEmpty = true := toList_empty (by rw [Z.out, hi])
    have HI : Hid (i = 0) := hi
    clear hi
    go_wp2
    go_ret3
    exact ⟨_, k1, congrArg Ending.returned (ans_no ST.out T.out HI.out), hg⟩
  · have hem : ds.toList.isEmpty = false := toList_not (by rw [Z.out]; omega)
    go_wp2_with fail
    go_loopw [2] (fun x w' => ∃ pos : Nat, w' = w1.iter ds pos ∧ pos ≤ ds.size ∧ x = .int .i64 (sat (val ds 0 pos))) (fun _ w' => ds.size - w'.iterPos w1.heap.size)
    case atStart => exact ⟨0, rfl, Nat.zero_le _, rfl⟩
    case round =>
      obtain ⟨pos, rfl, hpl, rfl⟩ := hrel
      obtain ⟨v0, _⟩ := val_bd ds 0 ds.size (fun j hj => by rw [Nat.zero_add]; exact hd j hj) pos hpl
      obtain ⟨s0, s1⟩ := sat_bd _ v0
      by_cases hp : pos < ds.size
      · obtain ⟨d1, d2⟩ := dg_at hp (hd pos hp)
        have hnx : ∀ ty, (Instr.next (.pointer (some ⟨w1.heap.size, 0, none⟩)) true ty).run Try.prog (w1.iter ds pos) = _ := fun ty => run_next_ascii w1 ds pos ty hp (by omega)
        have E : Hid (val ds 0 (pos + 1) = val ds 0 pos * 10 + ((ds[pos].toNat : Int) - 48)) := by show _ = _; rw [val, Nat.zero_add, byte_at ds pos hp]
        go_wp2
        exact ⟨⟨pos + 1, rfl, by omega, by rw [E.out, sat_next _ _ (by omega)]⟩, by simp; omega⟩
      · have hnx : ∀ ty, (Instr.next (.pointer (some ⟨w1.heap.size, 0, none⟩)) true ty).run Try.prog (w1.iter ds pos) = _ := fun ty => run_next_end w1 ds pos ty hp
        have P : Hid (pos = i) := by show pos = i; have := Z.out; omega
        go_wp2
        go_ret3
        exact ⟨_, k1, congrArg Ending.returned (ans_yes ST.out SG.out hi K2.out (by rw [P.out, V.out]; omega)), grown_trans hg (grown_iter _ _ _)⟩

theorem parse_minus (s : ByteArray) (w : World) (hs : s.size ≤ 1048576) (h0 : 0 < s.size) (h43 : ((s[0].toNat : Int) == 43) = false) (h45 : ((s[0].toNat : Int) == 45) = true) :
    Calls Try.prog 13 #[.string s] w fun e w' => ∃ i, IsRun s (st s) i ∧ e = .returned (ans s i) ∧ Grown w w' := by
  have he := toList_not h0
  obtain ⟨hst, hsg⟩ := st_minus h0 h45
  have ST : Hid (st s = 1) := hst
  have SG : Hid (sg s = -1) := hsg
  clear hst hsg
  go_enter Try.func13, Try.ntmps13
  go_wp2_with fail
  obtain ⟨t, ht0⟩ : ∃ t, t = s.extract 1 s.size := ⟨_, rfl⟩
  rw [← ht0]
  have T : Hid (t = s.extract 1 s.size) := ht0
  have ht : t.size ≤ 1048576 := by rw [ht0, ByteArray.size_extract]; omega
  clear ht0
  refine (leading t w ht).mono ?_
  rintro e w1 ⟨i, hrun, rfl, hg⟩
  obtain ⟨ds, hds⟩ : ∃ d, d = t.extract 0 i := ⟨_, rfl⟩
  rw [← hds]
  obtain ⟨hz, hd, hv⟩ := run_dg hds hrun
  obtain ⟨k1, k2, k3⟩ := of_tail ST.out (by omega) T.out hrun
  have Z : Hid (ds.size = i) := hz
  have V : Hid (val ds 0 i = val s 1 i) := hv.trans k3
  have K2 : Hid (t.extract i t.size = s.extract (1 + i) s.size) := k2
  clear hds hz hv k2 k3
  by_cases hi : i = 0
  · have hem : ds.toList.isEmpty = true := toList_empty (by rw [Z.out, hi])
    have HI : Hid (i = 0) := hi
    clear hi
    go_wp2
    go_ret3
    exact ⟨_, k1, congrArg Ending.returned (ans_no ST.out T.out HI.out), hg⟩
  · have hem : ds.toList.isEmpty = false := toList_not (by rw [Z.out]; omega)
    go_wp2_with fail
    go_loopw [2] (fun x w' => ∃ pos : Nat, w' = w1.iter ds pos ∧ pos ≤ ds.size ∧ x = .int .i64 (sat (val ds 0 pos))) (fun _ w' => ds.size - w'.iterPos w1.heap.size)
    case atStart => exact ⟨0, rfl, Nat.zero_le _, rfl⟩
    case round =>
      obtain ⟨pos, rfl, hpl, rfl⟩ := hrel
      obtain ⟨v0, _⟩ := val_bd ds 0 ds.size (fun j hj => by rw [Nat.zero_add]; exact hd j hj) pos hpl
      obtain ⟨s0, s1⟩ := sat_bd _ v0
      by_cases hp : pos < ds.size
      · obtain ⟨d1, d2⟩ := dg_at hp (hd pos hp)
        have hnx : ∀ ty, (Instr.next (.pointer (some ⟨w1.heap.size, 0, none⟩)) true ty).run Try.prog (w1.iter ds pos) = _ := fun ty => run_next_ascii w1 ds pos ty hp (by omega)
        have E : Hid (val ds 0 (pos + 1) = val ds 0 pos * 10 + ((ds[pos].toNat : Int) - 48)) := by show _ = _; rw [val, Nat.zero_add, byte_at ds pos hp]
        go_wp2
        exact ⟨⟨pos + 1, rfl, by omega, by rw [E.out, sat_next _ _ (by omega)]⟩, by simp; omega⟩
      · have hnx : ∀ ty, (Instr.next (.pointer (some ⟨w1.heap.size, 0, none⟩)) true ty).run Try.prog (w1.iter ds pos) = _ := fun ty => run_next_end w1 ds pos ty hp
        have P : Hid (pos = i) := by show pos = i; have := Z.out; omega
        go_wp2
        go_ret3
        exact ⟨_, k1, congrArg Ending.returned (ans_yes ST.out SG.out hi K2.out (by rw [P.out, V.out]; omega)), grown_trans hg (grown_iter _ _ _)⟩

end Go.Proofs.Qxb6603029a.Parse
