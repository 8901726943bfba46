/-
  THE LIBRARY's CONTRACT FOR strings.Repeat AT THIS DUMP, in plain words: written by the kit's own tools (lay-shelf.mjs, lay-plain.mjs) for this program; cut to the one contract.
-/
import Derived.Shelf.Strings.Repeat
import Derived.Test.Qxb6000618aRows
namespace Go.Proofs.Qxb6000618a
open Go.Shelf
def Try.lays105_ren : Go.Shelf.Ren := ⟨fun | 105 => 32 | 212 => 34 | 99 => 30 | 165 => 35 | 166 => 36 | 170 => 37 | 169 => 38 | 263 => 39 | 264 => 40 | 206 => 33 | 240 => 41 | 241 => 42 | 276 => 43 | 277 => 44 | n => n, fun | 9 => 9 | 3 => 3 | 4 => 4 | 20 => 20 | 0 => 0 | 46 => 36 | 109 => 37 | 5 => 5 | 72 => 41 | 76 => 45 | 51 => 49 | 146 => 50 | 53 => 52 | 148 => 53 | 70 => 39 | 37 => 32 | 75 => 44 | 127 => 55 | 164 => 56 | 80 => 48 | n => n, fun | n => n⟩
theorem Try.lays105 : Go.Proofs.Lays.n105 Try.prog Try.lays105_ren := {
  mixed := by kernel_rfl
  f99 := Try.func30.trans (congrArg some (by kernel_rfl))
  f105 := Try.func32.trans (congrArg some (by kernel_rfl))
  f165 := Try.func35.trans (congrArg some (by kernel_rfl))
  f166 := Try.func36.trans (congrArg some (by kernel_rfl))
  f169 := Try.func38.trans (congrArg some (by kernel_rfl))
  f170 := Try.func37.trans (congrArg some (by kernel_rfl))
  f206 := Try.func33.trans (congrArg some (by kernel_rfl))
  f212 := Try.func34.trans (congrArg some (by kernel_rfl))
  f240 := Try.func41.trans (congrArg some (by kernel_rfl))
  f241 := Try.func42.trans (congrArg some (by kernel_rfl))
  f263 := Try.func39.trans (congrArg some (by kernel_rfl))
  f264 := Try.func40.trans (congrArg some (by kernel_rfl))
  f276 := Try.func43.trans (congrArg some (by kernel_rfl))
  f277 := Try.func44.trans (congrArg some (by kernel_rfl))
  t0 := Try.underlying0
  a0 := Try.isAgg0
  z0 := Try.sizeOf0
  v0 := Try.zeroValue0
  t3 := Try.underlying3
  a3 := Try.isAgg3
  z3 := Try.sizeOf3
  v3 := Try.zeroValue3
  t4 := Try.underlying4
  a4 := Try.isAgg4
  z4 := Try.sizeOf4
  v4 := Try.zeroValue4
  t5 := Try.underlying5
  a5 := Try.isAgg5
  z5 := Try.sizeOf5
  v5 := Try.zeroValue5
  t9 := Try.underlying9
  a9 := Try.isAgg9
  z9 := Try.sizeOf9
  v9 := Try.zeroValue9
  t20 := Try.underlying20
  a20 := Try.isAgg20
  z20 := Try.sizeOf20
  v20 := Try.zeroValue20
  t37 := Try.underlying32
  a37 := Try.isAgg32
  z37 := Try.sizeOf32
  v37 := Try.zeroValue32
  t46 := Try.underlying36
  a46 := Try.isAgg36
  z46 := Try.sizeOf36
  v46 := Try.zeroValue36
  t51 := Try.underlying49
  a51 := Try.isAgg49
  z51 := Try.sizeOf49
  v51 := Try.zeroValue49
  t53 := Try.underlying52
  a53 := Try.isAgg52
  z53 := Try.sizeOf52
  v53 := Try.zeroValue52
  t70 := Try.underlying39
  a70 := Try.isAgg39
  z70 := Try.sizeOf39
  v70 := Try.zeroValue39
  t72 := Try.underlying41
  a72 := Try.isAgg41
  z72 := Try.sizeOf41
  v72 := Try.zeroValue41
  t75 := Try.underlying44
  a75 := Try.isAgg44
  z75 := Try.sizeOf44
  v75 := Try.zeroValue44
  t76 := Try.underlying45
  a76 := Try.isAgg45
  z76 := Try.sizeOf45
  v76 := Try.zeroValue45
  t109 := Try.underlying37
  a109 := Try.isAgg37
  z109 := Try.sizeOf37
  v109 := Try.zeroValue37
  t127 := Try.underlying55
  a127 := Try.isAgg55
  z127 := Try.sizeOf55
  v127 := Try.zeroValue55
  t146 := Try.underlying50
  a146 := Try.isAgg50
  z146 := Try.sizeOf50
  v146 := Try.zeroValue50
  t148 := Try.underlying53
  a148 := Try.isAgg53
  z148 := Try.sizeOf53
  v148 := Try.zeroValue53
  t164 := Try.underlying56
  a164 := Try.isAgg56
  z164 := Try.sizeOf56
  v164 := Try.zeroValue56 }
theorem Try.Builder_Extra_105 : Builder.Extra Try.prog Try.lays105_ren := {
  sizeBuilder := by kernel_rfl
  liesBuilder := by kernel_rfl
  t5 := Try.underlying5
  a5 := Try.isAgg5
  z5 := Try.sizeOf5
  v5 := Try.zeroValue5
  infoByte := by kernel_rfl
  cellsByte := by kernel_rfl
  sizeByte := by kernel_rfl
  neB5 := by decide }
open Go.RowKit Go.Lib in
/-- **strings.Repeat: count ≥ 0, the result within one allocation: count copies of s.** (LAID: no walk: one application.) -/
theorem Try.strings_Repeat (s : ByteArray) (c : Nat) (w : World) (hc : c ≤ 9223372036854775807) (hlen : s.size * c ≤ 140737488355328) :
    Calls Try.prog 32 #[.string s, .int .i64 c] w fun e w' => e = .returned (.string ⟨(Lib.repeatL s.data.toList c).toArray⟩) ∧ Below w.heap.size w w' := Any.strings_Repeat Try.lays105 Try.Builder_Extra_105 s c w hc hlen
end Go.Proofs.Qxb6000618a
