/- Contracts of the functions on the road of FnParseExponentMatchesModel. -/
import Derived.Test.Qxb6603029aRows
import Derived.WalkKit
import Derived.ProofKit
import Derived.Outline
import Derived.Below
import Derived.WalkSpells
import Derived.Deep.QuietTactic
import Derived.BigQuiet
import Derived.Test.Qxb6603029aPlain
namespace Go.Proofs.Qxb6603029a.Walks
open Go.ChangeShapes Go.WideShapes Go.ChangeAt Go.RowKit
open Go.Proofs.Qxb6603029a.Plain

theorem ret_int {k : IntKind} {a b : Int} (h : a = b) : Ending.returned (.int k a) = .returned (.int k b) := by rw [h]

theorem grown_trans {a b c : World} (h : Grown a b) (k : Grown b c) : Grown a c :=
  ⟨World.keptBut_trans h.1 k.1, fun x => (k.2.1 x).trans (h.2.1 x), Nat.le_trans h.2.2 k.2.2⟩
theorem grown_drewN {a b : World} (h : Grown a b) (n : Nat) : Grown a (b.drewN n) := by
  induction n with
  | zero => exact h
  | succ n ih => exact ih.drew
theorem frozen_iter (w : World) (s : ByteArray) (pos : Nat) (a : Addr) : (w.iter s pos).frozen? a = w.frozen? a := by
  by_cases h : a.block = w.heap.size
  · have e1 : (w.iter s pos).heap[a.block]? = some (.stringIter s pos) := by rw [h]; exact World.iter_heap w s pos
    have e2 : w.heap[a.block]? = none := by rw [h]; simp
    simp [World.frozen?, e1, e2]
  · exact World.frozen?_alloc_old _ _ _ h
theorem grown_iter (w : World) (s : ByteArray) (pos : Nat) : Grown w (w.iter s pos) :=
  ⟨World.keptBut_alloc w _ _, frozen_iter w s pos, (World.iter_extends w s pos).size⟩

theorem dg_of {s : ByteArray} {k : Nat} (h : k < s.size) (h1 : 48 ≤ (s[k].toNat : Int)) (h2 : (s[k].toNat : Int) ≤ 57) : dg s k := by
  unfold dg; rw [byte_at s k h]; exact ⟨h1, h2⟩
theorem not_dg_lo {s : ByteArray} {k : Nat} (h : k < s.size) (h1 : (s[k].toNat : Int) < 48) : ¬ dg s k := by
  unfold dg; rw [byte_at s k h]; omega
theorem not_dg_hi {s : ByteArray} {k : Nat} (h : k < s.size) (h1 : 57 < (s[k].toNat : Int)) : ¬ dg s k := by
  unfold dg; rw [byte_at s k h]; omega
theorem not_dg_end {s : ByteArray} {k : Nat} (h : ¬ k < s.size) : ¬ dg s k := by
  unfold dg; rw [byte_end s k h]; omega
theorem upto {p : Nat → Prop} {a k : Nat} (h : ∀ j, a ≤ j → j < k → p j) (hk : p k) : ∀ j, a ≤ j → j < k + 1 → p j := by
  intro j ha hj
  by_cases e : j = k
  · subst e; exact hk
  · exact h j ha (by omega)

theorem leading (s : ByteArray) (w : World) (hs : s.size ≤ 1048576) :
    Calls Try.prog 17 #[.string s] w fun e w' => ∃ i, IsRun s 0 i ∧ e = .returned (.tuple #[.string (s.extract 0 i), .string (s.extract i s.size)]) ∧ Grown w w' := by
  go_enter Try.func17, Try.ntmps17
  go_wp2
  go_loop [4] (fun i => ∃ k : Nat, k ≤ s.size ∧ i = .int .i64 k ∧ ∀ j, 0 ≤ j → j < k → dg s j) (fun i => s.size - (intOf i).toNat)
  case atStart => exact ⟨0, Nat.zero_le _, rfl, fun j _ hj => by omega⟩
  case round =>
    obtain ⟨k, hk, rfl, hd⟩ := hrel
    by_cases hlt : k < s.size
    · go_wp2
      · exact ⟨⟨k + 1, by omega, by go_num, upto hd (dg_of hlt ‹_› ‹_›)⟩, by simp [intOf]; omega⟩
      · go_quiet (fail)
        go_wp2
        go_ret2
        exact ⟨k, ⟨Nat.zero_le _, hk, hd, not_dg_hi hlt ‹_›⟩, rfl, grown_drewN (Grown.refl _) _⟩
      · go_quiet (fail)
        go_wp2
        go_ret2
        exact ⟨k, ⟨Nat.zero_le _, hk, hd, not_dg_lo hlt ‹_›⟩, rfl, grown_drewN (Grown.refl _) _⟩
    · go_wp2
      go_quiet (fail)
      go_wp2
      go_ret2
      exact ⟨k, ⟨Nat.zero_le _, hk, hd, not_dg_end hlt⟩, rfl, grown_drewN (Grown.refl _) _⟩

theorem zeros_upto {s : ByteArray} {k : Nat} (h : ∀ j, j < k → byte s j = 48) (hk : k < s.size) (h1 : ((s[k].toNat : Int) == 48) = true) : ∀ j, j < k + 1 → byte s j = 48 := by
  intro j hj
  by_cases e : j = k
  · subst e; rw [byte_at s j hk]; simpa using h1
  · exact h j (by omega)
theorem ne_48 {s : ByteArray} {k : Nat} (hk : k < s.size) (h1 : ((s[k].toNat : Int) == 48) = false) : byte s k ≠ 48 := by
  rw [byte_at s k hk]; simpa using h1
theorem sig_dg {s sig : ByteArray} {k : Nat} (e : sig = s.extract k s.size) (hk : k ≤ s.size) (hd : ∀ j, j < s.size → dg s j) : ∀ j, j < sig.size → dg sig j := by
  intro j hj
  have hz : sig.size = s.size - k := by rw [e, ByteArray.size_extract]; omega
  have := hd (k + j) (by omega)
  unfold dg at *
  rw [e, byte_extract s k s.size j (by omega) (Nat.le_refl _)]
  exact this
theorem sig_val {s sig : ByteArray} {k : Nat} (e : sig = s.extract k s.size) (hk : k ≤ s.size) : val s k (s.size - k) = val sig 0 sig.size := by
  have hz : sig.size = s.size - k := by rw [e, ByteArray.size_extract]; omega
  rw [hz]
  refine val_congr _ _ _ _ (s.size - k) (fun j hj => ?_) _ (Nat.le_refl _)
  rw [e, Nat.zero_add, byte_extract s k s.size j (by omega) (Nat.le_refl _)]

theorem dg_at {s : ByteArray} {k : Nat} (h : k < s.size) (hd : dg s k) : 48 ≤ (s[k].toNat : Int) ∧ (s[k].toNat : Int) ≤ 57 := by
  unfold dg at hd; rw [byte_at s k h] at hd; exact hd
theorem val_bd9 (s : ByteArray) (hd : ∀ j, j < s.size → dg s j) (h9 : s.size ≤ 9) (k : Nat) (hk : k ≤ s.size) : 0 ≤ val s 0 k ∧ val s 0 k ≤ 1000000000 := by
  obtain ⟨h1, h2⟩ := val_bd s 0 s.size (fun j hj => by rw [Nat.zero_add]; exact hd j hj) k hk
  have := powLe9 k (by omega)
  omega
theorem sat_of_le (x : Int) (h : x ≤ 100000000) : sat x = x := by
  unfold sat; split <;> omega

/-- flagsB1Clamped of a run of digits -/
theorem clamped (s : ByteArray) (w : World) (hs : s.size ≤ 1048576) (hd : ∀ k, k < s.size → dg s k) :
    Calls Try.prog 15 #[.string s] w fun e w' => e = .returned (.int .i64 (sat (val s 0 s.size))) ∧ Grown w w' := by
  go_enter Try.func15, Try.ntmps15
  go_wp2
  go_loop [3] (fun i => ∃ k : Nat, k ≤ s.size ∧ i = .int .i64 k ∧ ∀ j, j < k → byte s j = 48) (fun i => s.size - (intOf i).toNat)
  case atStart => exact ⟨0, Nat.zero_le _, rfl, fun j hj => by omega⟩
  case round =>
    obtain ⟨k, hk, rfl, hz⟩ := hrel
    by_cases hlt : k < s.size
    · go_wp2
      · exact ⟨⟨k + 1, by omega, by go_num, zeros_upto hz hlt ‹_›⟩, by simp [intOf]; omega⟩
      · go_ret
        exact ⟨ret_int (val_big s k s.size hd hk hz (ne_48 hlt ‹_›) (by omega)).symm, Grown.refl _⟩
      · have F : Hid (val s 0 s.size = val s k (s.size - k)) := val_sig s k s.size hk hz
        obtain ⟨sig, hsig⟩ : ∃ t, t = s.extract k s.size := ⟨_, rfl⟩
        have hz9 : sig.size ≤ 9 := by rw [hsig, ByteArray.size_extract]; omega
        have S : Hid (sig.size = s.size - k) := by show _ = _; rw [hsig, ByteArray.size_extract]; omega
        have hd' : ∀ j, j < sig.size → dg sig j := sig_dg hsig hk hd
        have V : Hid (val s k (s.size - k) = val sig 0 sig.size) := sig_val hsig hk
        rw [← hsig]
        clear hsig hd hz
        go_loop [5, 6] (fun v j => ∃ m : Nat, m ≤ sig.size ∧ j = .int .i64 m ∧ v = .int .i64 (val sig 0 m)) (fun _ j => sig.size - (intOf j).toNat)
        case atStart => exact ⟨0, Nat.zero_le _, rfl, rfl⟩
        case round =>
          obtain ⟨m, hm, rfl, rfl⟩ := hrel
          obtain ⟨v0, v1⟩ := val_bd9 sig hd' hz9 m hm
          by_cases hml : m < sig.size
          · obtain ⟨d1, d2⟩ := dg_at hml (hd' m hml)
            have E : Hid (val sig 0 (m + 1) = val sig 0 m * 10 + ((sig[m].toNat : Int) - 48)) := by show _ = _; rw [val, Nat.zero_add, byte_at sig m hml]
            clear hd'
            go_wp2
            exact ⟨⟨m + 1, by omega, by go_num, by rw [E.out]⟩, by simp [intOf]; omega⟩
          · obtain rfl : m = sig.size := by omega
            go_wp2
            · go_ret
              exact ⟨ret_int (by rw [F.out, V.out]; unfold sat; rw [if_neg (by omega)]), Grown.refl _⟩
            · go_ret
              exact ⟨ret_int (by rw [F.out, V.out]; exact (sat_of_le _ (by omega)).symm), Grown.refl _⟩
    · have F : Hid (val s 0 s.size = 0) := val_zero s 0 s.size (fun j hj => by rw [Nat.zero_add]; exact hz j (by omega)) s.size (Nat.le_refl _)
      go_wp2
      refine wp_loop_rounds 1 ?_
      rw [rounds_succ]
      go_wp2
      go_ret
      exact ⟨ret_int (by rw [F.out]; rfl), Grown.refl _⟩
end Go.Proofs.Qxb6603029a.Walks
