/- Contracts of the model of parseExponent. -/
import Derived.Test.Qxb6603029aParse
namespace Go.Proofs.Qxb6603029a.Model
open Go.ChangeShapes Go.WideShapes Go.ChangeAt Go.RowKit
open Go.Proofs.Qxb6603029a.Plain Go.Proofs.Qxb6603029a.Walks Go.Proofs.Qxb6603029a.Parse

theorem digit_yes (c : Int) (w : World) (h1 : 48 ≤ c) (h2 : c ≤ 57) :
    Calls Try.prog 14 #[.int .u8 c] w fun e w' => e = .returned (.bool true) ∧ w' = w := by
  go_enter Try.func14, Try.ntmps14
  go_wp2
  go_ret
  exact ⟨rfl, rfl⟩
theorem digit_no (c : Int) (w : World) (h : ¬ (48 ≤ c ∧ c ≤ 57)) :
    Calls Try.prog 14 #[.int .u8 c] w fun e w' => e = .returned (.bool false) ∧ w' = w := by
  by_cases h1 : 48 ≤ c
  · have h2 : ¬ c ≤ 57 := fun h2 => h ⟨h1, h2⟩
    clear h
    go_enter Try.func14, Try.ntmps14
    go_wp2
    go_ret
    exact ⟨rfl, rfl⟩
  · clear h
    go_enter Try.func14, Try.ntmps14
    go_wp2
    go_ret
    exact ⟨rfl, rfl⟩

/-- the digits that the model cuts out -/
theorem of_cut {s ds : ByteArray} {a i : Nat} (e : ds = s.extract a i) (h : IsRun s a i) : ds.size = i - a ∧ (∀ j, j < ds.size → dg ds j) ∧ val ds 0 ds.size = val s a (i - a) := by
  obtain ⟨h0, h1, h2, _⟩ := h
  have hz : ds.size = i - a := by rw [e, ByteArray.size_extract]; omega
  refine ⟨hz, fun j hj => ?_, ?_⟩
  · have := h2 (a + j) (by omega) (by omega)
    unfold dg at *
    rw [e, byte_extract s a i j (by omega) h1]
    exact this
  · rw [hz]
    refine val_congr _ _ _ _ (i - a) (fun j hj => ?_) _ (Nat.le_refl _)
    rw [e, Nat.zero_add, byte_extract s a i j (by omega) h1]

theorem not_dg_of {s : ByteArray} {k : Nat} (h : k < s.size) (hn : ¬ dg s k) : ¬ (48 ≤ (s[k].toNat : Int) ∧ (s[k].toNat : Int) ≤ 57) := by
  unfold dg at hn; rw [byte_at s k h] at hn; exact hn

theorem ans_no' {s : ByteArray} {a i : Nat} (ha : st s = a) (hi : i = a) :
    Value.tuple #[.int .i64 0, .string (s.extract a s.size), .bool false] = ans s i := by
  unfold ans
  rw [if_pos (by omega), ha]
theorem ans_no0 {s : ByteArray} {i : Nat} (ha : st s = 0) (hi : i = 0) :
    Value.tuple #[.int .i64 0, .string s, .bool false] = ans s i := by
  unfold ans
  rw [if_pos (by omega), ha, ByteArray.extract_zero_size]
theorem ans_yes' {s : ByteArray} {a i : Nat} {g v : Int} (ha : st s = a) (hg : sg s = g) (hi : ¬ i = a) (hv : v = g * sat (val s a (i - a))) :
    Value.tuple #[.int .i64 v, .string (s.extract i s.size), .bool true] = ans s i := by
  unfold ans
  rw [if_neg (by omega), ha, hg, hv]

theorem model_none (s : ByteArray) (w : World) (hs : s.size ≤ 1048576) (h0 : 0 < s.size) (h43 : ((s[0].toNat : Int) == 43) = false) (h45 : ((s[0].toNat : Int) == 45) = false) :
    Calls Try.prog 8 #[.string s] w fun e w' => ∃ i, IsRun s (st s) i ∧ e = .returned (ans s i) ∧ Grown w w' := by
  obtain ⟨hst, hsg⟩ := st_none h0 h43 h45
  have ST : Hid (st s = 0) := hst
  have SG : Hid (sg s = 1) := hsg
  clear hst hsg
  go_enter Try.func8, Try.ntmps8
  go_wp2_with fail
  go_loop [7] (fun i => ∃ k : Nat, 0 ≤ k ∧ k ≤ s.size ∧ i = .int .i64 k ∧ ∀ j, 0 ≤ j → j < k → dg s j) (fun i => s.size - (intOf i).toNat)
  case atStart => exact ⟨0, Nat.le_refl _, by omega, rfl, fun j _ hj => by omega⟩
  case round =>
    obtain ⟨k, hk0, hk, rfl, hd⟩ := hrel
    by_cases hlt : k < s.size
    · by_cases hdg : dg s k
      · obtain ⟨d1, d2⟩ := dg_at hlt hdg
        go_wp2_with (go_at_call 14; refine (digit_yes _ _ d1 d2).mono ?_; rintro e w' ⟨rfl, rfl⟩)
        exact ⟨⟨k + 1, by omega, by omega, by go_num, upto hd hdg⟩, by simp [intOf]; omega⟩
      · have hrun : IsRun s 0 k := ⟨hk0, hk, hd, hdg⟩
        have hno := not_dg_of hlt hdg
        clear hdg
        have hR : Hid (IsRun s 0 k) := hrun
        clear hrun hd
        by_cases hi : k = 0
        · have HI : Hid (k = 0) := hi
          have hq : ((k : Int) == 0) = true := by rw [hi]; rfl
          clear hi
          go_wp2_with (go_at_call 14; refine (digit_no _ _ hno).mono ?_; rintro e w' ⟨rfl, rfl⟩)
          go_quiet (fail)
          go_wp2
          go_ret3
          exact ⟨k, ST.out.symm ▸ hR.out, congrArg Ending.returned (ans_no0 ST.out HI.out), grown_drewN (Grown.refl _) _⟩
        · have hq : ((k : Int) == 0) = false := by simp; omega
          go_wp2_with (go_at_call 14; refine (digit_no _ _ hno).mono ?_; rintro e w' ⟨rfl, rfl⟩)
          obtain ⟨ds, hds⟩ : ∃ d, d = s.extract 0 k := ⟨_, rfl⟩
          rw [← hds]
          obtain ⟨hz, hd', hv⟩ := of_cut hds hR.out
          have V : Hid (val ds 0 ds.size = val s 0 (k - 0)) := hv
          have hz' : ds.size ≤ 1048576 := by omega
          clear hds hz hv
          refine (clamped ds _ hz' hd').mono ?_
          rintro e w1 ⟨rfl, hg⟩
          obtain ⟨v0, _⟩ := val_bd ds 0 ds.size (fun j hj => by rw [Nat.zero_add]; exact hd' j hj) ds.size (Nat.le_refl _)
          obtain ⟨s0, s1⟩ := sat_bd _ v0
          go_wp2
          go_quiet (fail)
          go_wp2
          go_ret3
          exact ⟨k, ST.out.symm ▸ hR.out, congrArg Ending.returned (ans_yes' ST.out SG.out hi (by rw [V.out]; omega)), grown_drewN hg _⟩
    · have hrun : IsRun s 0 k := ⟨hk0, hk, hd, not_dg_end hlt⟩
      have hR : Hid (IsRun s 0 k) := hrun
      clear hrun hd
      by_cases hi : k = 0
      · have HI : Hid (k = 0) := hi
        have hq : ((k : Int) == 0) = true := by rw [hi]; rfl
        clear hi
        go_wp2
        go_quiet (fail)
        go_wp2
        go_ret3
        exact ⟨k, ST.out.symm ▸ hR.out, congrArg Ending.returned (ans_no0 ST.out HI.out), grown_drewN (Grown.refl _) _⟩
      · have hq : ((k : Int) == 0) = false := by simp; omega
        go_wp2_with fail
        obtain ⟨ds, hds⟩ : ∃ d, d = s.extract 0 k := ⟨_, rfl⟩
        rw [← hds]
        obtain ⟨hz, hd', hv⟩ := of_cut hds hR.out
        have V : Hid (val ds 0 ds.size = val s 0 (k - 0)) := hv
        have hz' : ds.size ≤ 1048576 := by omega
        clear hds hz hv
        refine (clamped ds _ hz' hd').mono ?_
        rintro e w1 ⟨rfl, hg⟩
        obtain ⟨v0, _⟩ := val_bd ds 0 ds.size (fun j hj => by rw [Nat.zero_add]; exact hd' j hj) ds.size (Nat.le_refl _)
        obtain ⟨s0, s1⟩ := sat_bd _ v0
        go_wp2
        go_quiet (fail)
        go_wp2
        go_ret3
        exact ⟨k, ST.out.symm ▸ hR.out, congrArg Ending.returned (ans_yes' ST.out SG.out hi (by rw [V.out]; omega)), grown_drewN hg _⟩

theorem model_empty (s : ByteArray) (w : World) (h0 : s.size = 0) :
    Calls Try.prog 8 #[.string s] w fun e w' => ∃ i, IsRun s (st s) i ∧ e = .returned (ans s i) ∧ Grown w w' := by
  obtain ⟨hst, _⟩ := st_empty h0
  have ST : Hid (st s = 0) := hst
  have R : Hid (IsRun s 0 0) := ⟨Nat.le_refl _, Nat.zero_le _, fun k _ hk => by omega, not_dg_end (by omega)⟩
  have E : Hid (s = ByteArray.empty) := ByteArray.size_eq_zero_iff.1 h0
  clear hst
  go_enter Try.func8, Try.ntmps8
  go_wp2_with fail
  refine wp_loop_rounds 1 ?_
  rw [rounds_succ]
  go_wp2
  go_quiet (fail)
  go_wp2
  go_ret3
  exact ⟨0, ST.out.symm ▸ R.out, congrArg Ending.returned (by rw [← ans_no0 ST.out rfl, E.out]; rfl), grown_drewN (Grown.refl _) _⟩

theorem model_plus (s : ByteArray) (w : World) (hs : s.size ≤ 1048576) (h0 : 0 < s.size) (h43 : ((s[0].toNat : Int) == 43) = true) (h45 : ((s[0].toNat : Int) == 45) = false) :
    Calls Try.prog 8 #[.string s] w fun e w' => ∃ i, IsRun s (st s) i ∧ e = .returned (ans s i) ∧ Grown w w' := by
  obtain ⟨hst, hsg⟩ := st_plus h0 h43
  have ST : Hid (st s = 1) := hst
  have SG : Hid (sg s = 1) := hsg
  clear hst hsg
  go_enter Try.func8, Try.ntmps8
  go_wp2_with fail
  go_loop [7] (fun i => ∃ k : Nat, 1 ≤ k ∧ k ≤ s.size ∧ i = .int .i64 k ∧ ∀ j, 1 ≤ j → j < k → dg s j) (fun i => s.size - (intOf i).toNat)
  case atStart => exact ⟨1, Nat.le_refl _, by omega, rfl, fun j _ hj => by omega⟩
  case round =>
    obtain ⟨k, hk0, hk, rfl, hd⟩ := hrel
    by_cases hlt : k < s.size
    · by_cases hdg : dg s k
      · obtain ⟨d1, d2⟩ := dg_at hlt hdg
        go_wp2_with (go_at_call 14; refine (digit_yes _ _ d1 d2).mono ?_; rintro e w' ⟨rfl, rfl⟩)
        exact ⟨⟨k + 1, by omega, by omega, by go_num, upto hd hdg⟩, by simp [intOf]; omega⟩
      · have hrun : IsRun s 1 k := ⟨hk0, hk, hd, hdg⟩
        have hno := not_dg_of hlt hdg
        clear hdg
        have hR : Hid (IsRun s 1 k) := hrun
        clear hrun hd
        by_cases hi : k = 1
        · have HI : Hid (k = 1) := hi
          have hq : ((k : Int) == 1) = true := by rw [hi]; rfl
          clear hi
          go_wp2_with (go_at_call 14; refine (digit_no _ _ hno).mono ?_; rintro e w' ⟨rfl, rfl⟩)
          go_quiet (fail)
          go_wp2
          go_ret3
          exact ⟨k, ST.out.symm ▸ hR.out, congrArg Ending.returned (ans_no' ST.out HI.out), grown_drewN (Grown.refl _) _⟩
        · have hq : ((k : Int) == 1) = false := by simp; omega
          go_wp2_with (go_at_call 14; refine (digit_no _ _ hno).mono ?_; rintro e w' ⟨rfl, rfl⟩)
          obtain ⟨ds, hds⟩ : ∃ d, d = s.extract 1 k := ⟨_, rfl⟩
          rw [← hds]
          obtain ⟨hz, hd', hv⟩ := of_cut hds hR.out
          have V : Hid (val ds 0 ds.size = val s 1 (k - 1)) := hv
          have hz' : ds.size ≤ 1048576 := by omega
          clear hds hz hv
          refine (clamped ds _ hz' hd').mono ?_
          rintro e w1 ⟨rfl, hg⟩
          obtain ⟨v0, _⟩ := val_bd ds 0 ds.size (fun j hj => by rw [Nat.zero_add]; exact hd' j hj) ds.size (Nat.le_refl _)
          obtain ⟨s0, s1⟩ := sat_bd _ v0
          go_wp2
          go_quiet (fail)
          go_wp2
          go_ret3
          exact ⟨k, ST.out.symm ▸ hR.out, congrArg Ending.returned (ans_yes' ST.out SG.out hi (by rw [V.out]; omega)), grown_drewN hg _⟩
    · have hrun : IsRun s 1 k := ⟨hk0, hk, hd, not_dg_end hlt⟩
      have hR : Hid (IsRun s 1 k) := hrun
      clear hrun hd
      by_cases hi : k = 1
      · have HI : Hid (k = 1) := hi
        have hq : ((k : Int) == 1) = true := by rw [hi]; rfl
        clear hi
        go_wp2
        go_quiet (fail)
        go_wp2
        go_ret3
        exact ⟨k, ST.out.symm ▸ hR.out, congrArg Ending.returned (ans_no' ST.out HI.out), grown_drewN (Grown.refl _) _⟩
      · have hq : ((k : Int) == 1) = false := by simp; omega
        go_wp2_with fail
        obtain ⟨ds, hds⟩ : ∃ d, d = s.extract 1 k := ⟨_, rfl⟩
        rw [← hds]
        obtain ⟨hz, hd', hv⟩ := of_cut hds hR.out
        have V : Hid (val ds 0 ds.size = val s 1 (k - 1)) := hv
        have hz' : ds.size ≤ 1048576 := by omega
        clear hds hz hv
        refine (clamped ds _ hz' hd').mono ?_
        rintro e w1 ⟨rfl, hg⟩
        obtain ⟨v0, _⟩ := val_bd ds 0 ds.size (fun j hj => by rw [Nat.zero_add]; exact hd' j hj) ds.size (Nat.le_refl _)
        obtain ⟨s0, s1⟩ := sat_bd _ v0
        go_wp2
        go_quiet (fail)
        go_wp2
        go_ret3
        exact ⟨k, ST.out.symm ▸ hR.out, congrArg Ending.returned (ans_yes' ST.out SG.out hi (by rw [V.out]; omega)), grown_drewN hg _⟩

theorem model_minus (s : ByteArray) (w : World) (hs : s.size ≤ 1048576) (h0 : 0 < s.size) (h45 : ((s[0].toNat : Int) == 45) = true) :
    Calls Try.prog 8 #[.string s] w fun e w' => ∃ i, IsRun s (st s) i ∧ e = .returned (ans s i) ∧ Grown w w' := by
  obtain ⟨hst, hsg⟩ := st_minus h0 h45
  have ST : Hid (st s = 1) := hst
  have SG : Hid (sg s = -1) := hsg
  clear hst hsg
  go_enter Try.func8, Try.ntmps8
  go_wp2_with fail
  go_loop [7] (fun i => ∃ k : Nat, 1 ≤ k ∧ k ≤ s.size ∧ i = .int .i64 k ∧ ∀ j, 1 ≤ j → j < k → dg s j) (fun i => s.size - (intOf i).toNat)
  case atStart => exact ⟨1, Nat.le_refl _, by omega, rfl, fun j _ hj => by omega⟩
  case round =>
    obtain ⟨k, hk0, hk, rfl, hd⟩ := hrel
    by_cases hlt : k < s.size
    · by_cases hdg : dg s k
      · obtain ⟨d1, d2⟩ := dg_at hlt hdg
        go_wp2_with (go_at_call 14; refine (digit_yes _ _ d1 d2).mono ?_; rintro e w' ⟨rfl, rfl⟩)
        exact ⟨⟨k + 1, by omega, by omega, by go_num, upto hd hdg⟩, by simp [intOf]; omega⟩
      · have hrun : IsRun s 1 k := ⟨hk0, hk, hd, hdg⟩
        have hno := not_dg_of hlt hdg
        clear hdg
        have hR : Hid (IsRun s 1 k) := hrun
        clear hrun hd
        by_cases hi : k = 1
        · have HI : Hid (k = 1) := hi
          have hq : ((k : Int) == 1) = true := by rw [hi]; rfl
          clear hi
          go_wp2_with (go_at_call 14; refine (digit_no _ _ hno).mono ?_; rintro e w' ⟨rfl, rfl⟩)
          go_quiet (fail)
          go_wp2
          go_ret3
          exact ⟨k, ST.out.symm ▸ hR.out, congrArg Ending.returned (ans_no' ST.out HI.out), grown_drewN (Grown.refl _) _⟩
        · have hq : ((k : Int) == 1) = false := by simp; omega
          go_wp2_with (go_at_call 14; refine (digit_no _ _ hno).mono ?_; rintro e w' ⟨rfl, rfl⟩)
          obtain ⟨ds, hds⟩ : ∃ d, d = s.extract 1 k := ⟨_, rfl⟩
          rw [← hds]
          obtain ⟨hz, hd', hv⟩ := of_cut hds hR.out
          have V : Hid (val ds 0 ds.size = val s 1 (k - 1)) := hv
          have hz' : ds.size ≤ 1048576 := by omega
          clear hds hz hv
          refine (clamped ds _ hz' hd').mono ?_
          rintro e w1 ⟨rfl, hg⟩
          obtain ⟨v0, _⟩ := val_bd ds 0 ds.size (fun j hj => by rw [Nat.zero_add]; exact hd' j hj) ds.size (Nat.le_refl _)
          obtain ⟨s0, s1⟩ := sat_bd _ v0
          go_wp2
          go_quiet (fail)
          go_wp2
          go_ret3
          exact ⟨k, ST.out.symm ▸ hR.out, congrArg Ending.returned (ans_yes' ST.out SG.out hi (by rw [V.out]; omega)), grown_drewN hg _⟩
    · have hrun : IsRun s 1 k := ⟨hk0, hk, hd, not_dg_end hlt⟩
      have hR : Hid (IsRun s 1 k) := hrun
      clear hrun hd
      by_cases hi : k = 1
      · have HI : Hid (k = 1) := hi
        have hq : ((k : Int) == 1) = true := by rw [hi]; rfl
        clear hi
        go_wp2
        go_quiet (fail)
        go_wp2
        go_ret3
        exact ⟨k, ST.out.symm ▸ hR.out, congrArg Ending.returned (ans_no' ST.out HI.out), grown_drewN (Grown.refl _) _⟩
      · have hq : ((k : Int) == 1) = false := by simp; omega
        go_wp2_with fail
        obtain ⟨ds, hds⟩ : ∃ d, d = s.extract 1 k := ⟨_, rfl⟩
        rw [← hds]
        obtain ⟨hz, hd', hv⟩ := of_cut hds hR.out
        have V : Hid (val ds 0 ds.size = val s 1 (k - 1)) := hv
        have hz' : ds.size ≤ 1048576 := by omega
        clear hds hz hv
        refine (clamped ds _ hz' hd').mono ?_
        rintro e w1 ⟨rfl, hg⟩
        obtain ⟨v0, _⟩ := val_bd ds 0 ds.size (fun j hj => by rw [Nat.zero_add]; exact hd' j hj) ds.size (Nat.le_refl _)
        obtain ⟨s0, s1⟩ := sat_bd _ v0
        go_wp2
        go_quiet (fail)
        go_wp2
        go_ret3
        exact ⟨k, ST.out.symm ▸ hR.out, congrArg Ending.returned (ans_yes' ST.out SG.out hi (by rw [V.out]; omega)), grown_drewN hg _⟩

end Go.Proofs.Qxb6603029a.Model
