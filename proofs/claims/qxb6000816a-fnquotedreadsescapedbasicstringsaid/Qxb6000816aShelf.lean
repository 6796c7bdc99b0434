/- The shelf contracts of strings.Repeat and strings.HasPrefix at this program, as the kit writes them in plain words. -/
import Derived.Shelf.Strings.Prefix
import Derived.Shelf.Strings.Repeat
import Derived.Test.Qxb6000816aProg
namespace Go.Proofs
open Go.Shelf
def Try.lays105_ren : Go.Shelf.Ren := ⟨fun | 105 => 35 | 212 => 38 | 99 => 34 | 165 => 39 | 166 => 40 | 170 => 41 | 169 => 42 | 263 => 47 | 264 => 48 | 206 => 37 | 240 => 49 | 241 => 50 | 276 => 52 | 277 => 53 | n => n, fun | 9 => 9 | 3 => 3 | 4 => 4 | 20 => 20 | 0 => 0 | 46 => 45 | 109 => 46 | 5 => 5 | 72 => 50 | 76 => 54 | 51 => 62 | 146 => 63 | 53 => 65 | 148 => 66 | 70 => 48 | 37 => 38 | 75 => 53 | 127 => 68 | 164 => 69 | 80 => 57 | n => n, fun | n => n⟩
theorem Try.lays105 : Go.Proofs.Lays.n105 Try.prog Try.lays105_ren := {
  mixed := by kernel_rfl
  f99 := Try.func34.trans (congrArg some (by kernel_rfl))
  f105 := Try.func35.trans (congrArg some (by kernel_rfl))
  f165 := Try.func39.trans (congrArg some (by kernel_rfl))
  f166 := Try.func40.trans (congrArg some (by kernel_rfl))
  f169 := Try.func42.trans (congrArg some (by kernel_rfl))
  f170 := Try.func41.trans (congrArg some (by kernel_rfl))
  f206 := Try.func37.trans (congrArg some (by kernel_rfl))
  f212 := Try.func38.trans (congrArg some (by kernel_rfl))
  f240 := Try.func49.trans (congrArg some (by kernel_rfl))
  f241 := Try.func50.trans (congrArg some (by kernel_rfl))
  f263 := Try.func47.trans (congrArg some (by kernel_rfl))
  f264 := Try.func48.trans (congrArg some (by kernel_rfl))
  f276 := Try.func52.trans (congrArg some (by kernel_rfl))
  f277 := Try.func53.trans (congrArg some (by kernel_rfl))
  t0 := Try.underlying0
  a0 := Try.isAgg0
  z0 := Try.sizeOf0
  v0 := Try.zeroValue0
  t3 := Try.underlying3
  a3 := Try.isAgg3
  z3 := Try.sizeOf3
  v3 := Try.zeroValue3
  t4 := Try.underlying4
  a4 := Try.isAgg4
  z4 := Try.sizeOf4
  v4 := Try.zeroValue4
  t5 := Try.underlying5
  a5 := Try.isAgg5
  z5 := Try.sizeOf5
  v5 := Try.zeroValue5
  t9 := Try.underlying9
  a9 := Try.isAgg9
  z9 := Try.sizeOf9
  v9 := Try.zeroValue9
  t20 := Try.underlying20
  a20 := Try.isAgg20
  z20 := Try.sizeOf20
  v20 := Try.zeroValue20
  t37 := Try.underlying38
  a37 := Try.isAgg38
  z37 := Try.sizeOf38
  v37 := Try.zeroValue38
  t46 := Try.underlying45
  a46 := Try.isAgg45
  z46 := Try.sizeOf45
  v46 := Try.zeroValue45
  t51 := Try.underlying62
  a51 := Try.isAgg62
  z51 := Try.sizeOf62
  v51 := Try.zeroValue62
  t53 := Try.underlying65
  a53 := Try.isAgg65
  z53 := Try.sizeOf65
  v53 := Try.zeroValue65
  t70 := Try.underlying48
  a70 := Try.isAgg48
  z70 := Try.sizeOf48
  v70 := Try.zeroValue48
  t72 := Try.underlying50
  a72 := Try.isAgg50
  z72 := Try.sizeOf50
  v72 := Try.zeroValue50
  t75 := Try.underlying53
  a75 := Try.isAgg53
  z75 := Try.sizeOf53
  v75 := Try.zeroValue53
  t76 := Try.underlying54
  a76 := Try.isAgg54
  z76 := Try.sizeOf54
  v76 := Try.zeroValue54
  t109 := Try.underlying46
  a109 := Try.isAgg46
  z109 := Try.sizeOf46
  v109 := Try.zeroValue46
  t127 := Try.underlying68
  a127 := Try.isAgg68
  z127 := Try.sizeOf68
  v127 := Try.zeroValue68
  t146 := Try.underlying63
  a146 := Try.isAgg63
  z146 := Try.sizeOf63
  v146 := Try.zeroValue63
  t148 := Try.underlying66
  a148 := Try.isAgg66
  z148 := Try.sizeOf66
  v148 := Try.zeroValue66
  t164 := Try.underlying69
  a164 := Try.isAgg69
  z164 := Try.sizeOf69
  v164 := Try.zeroValue69 }
theorem Try.Builder_Extra_105 : Builder.Extra Try.prog Try.lays105_ren := {
  sizeBuilder := by kernel_rfl
  liesBuilder := by kernel_rfl
  t5 := Try.underlying5
  a5 := Try.isAgg5
  z5 := Try.sizeOf5
  v5 := Try.zeroValue5
  infoByte := by kernel_rfl
  cellsByte := by kernel_rfl
  sizeByte := by kernel_rfl
  neB5 := by decide }
open Go.RowKit Go.Lib in
/-- **strings.Repeat: count ≥ 0, the result within one allocation: count copies of s.** (LAID: no walk: one application.) -/
theorem Try.strings_Repeat (s : ByteArray) (c : Nat) (w : World) (hc : c ≤ 9223372036854775807) (hlen : s.size * c ≤ 140737488355328) :
    Calls Try.prog 35 #[.string s, .int .i64 c] w fun e w' => e = .returned (.string ⟨(Lib.repeatL s.data.toList c).toArray⟩) ∧ Below w.heap.size w w' := Any.strings_Repeat Try.lays105 Try.Builder_Extra_105 s c w hc hlen
def Try.lays99_ren : Go.Shelf.Ren := ⟨fun | 99 => 34 | 206 => 37 | n => n, fun | 9 => 9 | 4 => 4 | 3 => 3 | n => n, fun | n => n⟩
theorem Try.lays99 : Go.Proofs.Lays.n99 Try.prog Try.lays99_ren := {
  mixed := by kernel_rfl
  f99 := Try.func34.trans (congrArg some (by kernel_rfl))
  f206 := Try.func37.trans (congrArg some (by kernel_rfl))
  t3 := Try.underlying3
  a3 := Try.isAgg3
  z3 := Try.sizeOf3
  v3 := Try.zeroValue3
  t4 := Try.underlying4
  a4 := Try.isAgg4
  z4 := Try.sizeOf4
  v4 := Try.zeroValue4
  t9 := Try.underlying9
  a9 := Try.isAgg9
  z9 := Try.sizeOf9
  v9 := Try.zeroValue9 }
open Go.RowKit Go.Lib in
/-- strings.HasPrefix: "HasPrefix reports whether the string s begins with prefix.": IT RETURNS 'Lib.hasPrefix s prefix'; the world is as it was. (LAID: no walk: one application.) -/
theorem Try.strings_HasPrefix (s p : ByteArray) (w : World) :
    Calls Try.prog 34 #[.string s, .string p] w fun e w' => e = .returned (.bool (Lib.hasPrefix s.data.toList p.data.toList)) ∧ w' = w := Any.strings_HasPrefix Try.lays99 s p w
end Go.Proofs
