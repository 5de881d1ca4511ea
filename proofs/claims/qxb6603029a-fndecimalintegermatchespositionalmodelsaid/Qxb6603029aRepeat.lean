/- strings.Repeat: the shelf's contract, laid at this program in plain words. -/
import Derived.Shelf.Strings.Repeat
import Derived.Test.Qxb6603029aProg
namespace Go.Proofs.Qxb6603029a.Rep
open Go.Shelf
def lays105_ren : Go.Shelf.Ren := ⟨fun | 105 => 18 | 212 => 19 | 99 => 20 | 165 => 21 | 166 => 22 | 170 => 23 | 169 => 24 | 263 => 25 | 264 => 26 | 206 => 27 | 240 => 28 | 241 => 29 | 276 => 30 | 277 => 31 | n => n, fun | 9 => 9 | 3 => 3 | 4 => 4 | 20 => 20 | 0 => 0 | 46 => 37 | 109 => 38 | 5 => 5 | 72 => 43 | 76 => 47 | 51 => 51 | 146 => 52 | 53 => 54 | 148 => 55 | 70 => 41 | 37 => 28 | 75 => 46 | 127 => 57 | 164 => 58 | 80 => 50 | n => n, fun | n => n⟩
theorem lays105 : Go.Proofs.Lays.n105 Try.prog lays105_ren := {
  mixed := by kernel_rfl
  f99 := Try.func20.trans (congrArg some (by kernel_rfl))
  f105 := Try.func18.trans (congrArg some (by kernel_rfl))
  f165 := Try.func21.trans (congrArg some (by kernel_rfl))
  f166 := Try.func22.trans (congrArg some (by kernel_rfl))
  f169 := Try.func24.trans (congrArg some (by kernel_rfl))
  f170 := Try.func23.trans (congrArg some (by kernel_rfl))
  f206 := Try.func27.trans (congrArg some (by kernel_rfl))
  f212 := Try.func19.trans (congrArg some (by kernel_rfl))
  f240 := Try.func28.trans (congrArg some (by kernel_rfl))
  f241 := Try.func29.trans (congrArg some (by kernel_rfl))
  f263 := Try.func25.trans (congrArg some (by kernel_rfl))
  f264 := Try.func26.trans (congrArg some (by kernel_rfl))
  f276 := Try.func30.trans (congrArg some (by kernel_rfl))
  f277 := Try.func31.trans (congrArg some (by kernel_rfl))
  t0 := Try.underlying0
  a0 := Try.isAgg0
  z0 := Try.sizeOf0
  v0 := Try.zeroValue0
  t3 := Try.underlying3
  a3 := Try.isAgg3
  z3 := Try.sizeOf3
  v3 := Try.zeroValue3
  t4 := Try.underlying4
  a4 := Try.isAgg4
  z4 := Try.sizeOf4
  v4 := Try.zeroValue4
  t5 := Try.underlying5
  a5 := Try.isAgg5
  z5 := Try.sizeOf5
  v5 := Try.zeroValue5
  t9 := Try.underlying9
  a9 := Try.isAgg9
  z9 := Try.sizeOf9
  v9 := Try.zeroValue9
  t20 := Try.underlying20
  a20 := Try.isAgg20
  z20 := Try.sizeOf20
  v20 := Try.zeroValue20
  t37 := Try.underlying28
  a37 := Try.isAgg28
  z37 := Try.sizeOf28
  v37 := Try.zeroValue28
  t46 := Try.underlying37
  a46 := Try.isAgg37
  z46 := Try.sizeOf37
  v46 := Try.zeroValue37
  t51 := Try.underlying51
  a51 := Try.isAgg51
  z51 := Try.sizeOf51
  v51 := Try.zeroValue51
  t53 := Try.underlying54
  a53 := Try.isAgg54
  z53 := Try.sizeOf54
  v53 := Try.zeroValue54
  t70 := Try.underlying41
  a70 := Try.isAgg41
  z70 := Try.sizeOf41
  v70 := Try.zeroValue41
  t72 := Try.underlying43
  a72 := Try.isAgg43
  z72 := Try.sizeOf43
  v72 := Try.zeroValue43
  t75 := Try.underlying46
  a75 := Try.isAgg46
  z75 := Try.sizeOf46
  v75 := Try.zeroValue46
  t76 := Try.underlying47
  a76 := Try.isAgg47
  z76 := Try.sizeOf47
  v76 := Try.zeroValue47
  t109 := Try.underlying38
  a109 := Try.isAgg38
  z109 := Try.sizeOf38
  v109 := Try.zeroValue38
  t127 := Try.underlying57
  a127 := Try.isAgg57
  z127 := Try.sizeOf57
  v127 := Try.zeroValue57
  t146 := Try.underlying52
  a146 := Try.isAgg52
  z146 := Try.sizeOf52
  v146 := Try.zeroValue52
  t148 := Try.underlying55
  a148 := Try.isAgg55
  z148 := Try.sizeOf55
  v148 := Try.zeroValue55
  t164 := Try.underlying58
  a164 := Try.isAgg58
  z164 := Try.sizeOf58
  v164 := Try.zeroValue58 }
theorem Builder_Extra_105 : Builder.Extra Try.prog lays105_ren := {
  sizeBuilder := by kernel_rfl
  liesBuilder := by kernel_rfl
  t5 := Try.underlying5
  a5 := Try.isAgg5
  z5 := Try.sizeOf5
  v5 := Try.zeroValue5
  infoByte := by kernel_rfl
  cellsByte := by kernel_rfl
  sizeByte := by kernel_rfl
  neB5 := by decide }
open Go.RowKit Go.Lib in
/-- strings.Repeat at this program: count copies of s. -/
theorem strings_Repeat (s : ByteArray) (c : Nat) (w : World) (hc : c ≤ 9223372036854775807) (hlen : s.size * c ≤ 140737488355328) :
    Calls Try.prog 18 #[.string s, .int .i64 c] w fun e w' => e = .returned (.string ⟨(Lib.repeatL s.data.toList c).toArray⟩) ∧ Below w.heap.size w w' := Any.strings_Repeat lays105 Builder_Extra_105 s c w hc hlen
end Go.Proofs.Qxb6603029a.Rep
