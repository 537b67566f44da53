/-
  DERIVED. strings.Repeat off the shelf, laid at this dump, in plain words, by the kit.
-/
import Derived.Shelf.Strings.Repeat
import Derived.Test.Qxb6601144aProg
namespace Go.Proofs
open Go.Shelf
def Try.lays105_ren : Go.Shelf.Ren := ⟨fun | 105 => 25 | 212 => 26 | 99 => 27 | 165 => 28 | 166 => 29 | 170 => 30 | 169 => 31 | 263 => 32 | 264 => 33 | 206 => 34 | 240 => 35 | 241 => 36 | 276 => 37 | 277 => 38 | n => n, fun | 9 => 9 | 3 => 3 | 4 => 4 | 20 => 20 | 0 => 0 | 46 => 43 | 109 => 44 | 5 => 5 | 72 => 49 | 76 => 53 | 51 => 56 | 146 => 57 | 53 => 59 | 148 => 60 | 70 => 47 | 37 => 40 | 75 => 52 | 127 => 62 | 164 => 63 | 80 => 41 | n => n, fun | n => n⟩
theorem Try.lays105 : Go.Proofs.Lays.n105 Try.prog Try.lays105_ren := {
  mixed := by kernel_rfl
  f99 := Try.func27.trans (congrArg some (by kernel_rfl))
  f105 := Try.func25.trans (congrArg some (by kernel_rfl))
  f165 := Try.func28.trans (congrArg some (by kernel_rfl))
  f166 := Try.func29.trans (congrArg some (by kernel_rfl))
  f169 := Try.func31.trans (congrArg some (by kernel_rfl))
  f170 := Try.func30.trans (congrArg some (by kernel_rfl))
  f206 := Try.func34.trans (congrArg some (by kernel_rfl))
  f212 := Try.func26.trans (congrArg some (by kernel_rfl))
  f240 := Try.func35.trans (congrArg some (by kernel_rfl))
  f241 := Try.func36.trans (congrArg some (by kernel_rfl))
  f263 := Try.func32.trans (congrArg some (by kernel_rfl))
  f264 := Try.func33.trans (congrArg some (by kernel_rfl))
  f276 := Try.func37.trans (congrArg some (by kernel_rfl))
  f277 := Try.func38.trans (congrArg some (by kernel_rfl))
  t0 := Try.underlying0
  a0 := Try.isAgg0
  z0 := Try.sizeOf0
  v0 := Try.zeroValue0
  t3 := Try.underlying3
  a3 := Try.isAgg3
  z3 := Try.sizeOf3
  v3 := Try.zeroValue3
  t4 := Try.underlying4
  a4 := Try.isAgg4
  z4 := Try.sizeOf4
  v4 := Try.zeroValue4
  t5 := Try.underlying5
  a5 := Try.isAgg5
  z5 := Try.sizeOf5
  v5 := Try.zeroValue5
  t9 := Try.underlying9
  a9 := Try.isAgg9
  z9 := Try.sizeOf9
  v9 := Try.zeroValue9
  t20 := Try.underlying20
  a20 := Try.isAgg20
  z20 := Try.sizeOf20
  v20 := Try.zeroValue20
  t37 := Try.underlying40
  a37 := Try.isAgg40
  z37 := Try.sizeOf40
  v37 := Try.zeroValue40
  t46 := Try.underlying43
  a46 := Try.isAgg43
  z46 := Try.sizeOf43
  v46 := Try.zeroValue43
  t51 := Try.underlying56
  a51 := Try.isAgg56
  z51 := Try.sizeOf56
  v51 := Try.zeroValue56
  t53 := Try.underlying59
  a53 := Try.isAgg59
  z53 := Try.sizeOf59
  v53 := Try.zeroValue59
  t70 := Try.underlying47
  a70 := Try.isAgg47
  z70 := Try.sizeOf47
  v70 := Try.zeroValue47
  t72 := Try.underlying49
  a72 := Try.isAgg49
  z72 := Try.sizeOf49
  v72 := Try.zeroValue49
  t75 := Try.underlying52
  a75 := Try.isAgg52
  z75 := Try.sizeOf52
  v75 := Try.zeroValue52
  t76 := Try.underlying53
  a76 := Try.isAgg53
  z76 := Try.sizeOf53
  v76 := Try.zeroValue53
  t109 := Try.underlying44
  a109 := Try.isAgg44
  z109 := Try.sizeOf44
  v109 := Try.zeroValue44
  t127 := Try.underlying62
  a127 := Try.isAgg62
  z127 := Try.sizeOf62
  v127 := Try.zeroValue62
  t146 := Try.underlying57
  a146 := Try.isAgg57
  z146 := Try.sizeOf57
  v146 := Try.zeroValue57
  t148 := Try.underlying60
  a148 := Try.isAgg60
  z148 := Try.sizeOf60
  v148 := Try.zeroValue60
  t164 := Try.underlying63
  a164 := Try.isAgg63
  z164 := Try.sizeOf63
  v164 := Try.zeroValue63 }
theorem Try.Builder_Extra_105 : Builder.Extra Try.prog Try.lays105_ren := {
  sizeBuilder := by kernel_rfl
  liesBuilder := by kernel_rfl
  t5 := Try.underlying5
  a5 := Try.isAgg5
  z5 := Try.sizeOf5
  v5 := Try.zeroValue5
  infoByte := by kernel_rfl
  cellsByte := by kernel_rfl
  sizeByte := by kernel_rfl
  neB5 := by decide }
open Go.RowKit Go.Lib in
/-- **strings.Repeat: count ≥ 0, the result within one allocation: count copies of s.** (LAID: no walk: one application.) -/
theorem Try.strings_Repeat (s : ByteArray) (c : Nat) (w : World) (hc : c ≤ 9223372036854775807) (hlen : s.size * c ≤ 140737488355328) :
    Calls Try.prog 25 #[.string s, .int .i64 c] w fun e w' => e = .returned (.string ⟨(Lib.repeatL s.data.toList c).toArray⟩) ∧ Below w.heap.size w w' := Any.strings_Repeat Try.lays105 Try.Builder_Extra_105 s c w hc hlen
end Go.Proofs
