/-
  DERIVED: THE SHELF's CONTRACTS AT THIS DUMP, IN PLAIN WORDS (tools/lay-plain.mjs out of 'Qxb6601240aShelf.lean', which tools/lay-shelf.mjs wrote): THE SAME DECLARATIONS UNDER THE SAME NAMES: 'import', 'namespace', 'open', 'def', 'theorem' AND NOTHING ELSE: no command of the shelf's: FOR A HAND-IN. Each laying: the table of numbers ('.._ren') and one theorem, a field a fact of the dump's own or the kernel's comparison; each contract: ONE APPLICATION.
-/
import Derived.Shelf.Strings.Prefix
import Derived.Shelf.Strings.Repeat
import Derived.Test.Qxb6601240aProg
namespace Go.Proofs
open Go.Shelf
def Try.lays99_ren : Go.Shelf.Ren := ⟨fun | 99 => 22 | 206 => 24 | n => n, fun | 9 => 9 | 4 => 4 | 3 => 3 | n => n, fun | n => n⟩
theorem Try.lays99 : Go.Proofs.Lays.n99 Try.prog Try.lays99_ren := {
  mixed := by kernel_rfl
  f99 := Try.func22.trans (congrArg some (by kernel_rfl))
  f206 := Try.func24.trans (congrArg some (by kernel_rfl))
  t3 := Try.underlying3
  a3 := Try.isAgg3
  z3 := Try.sizeOf3
  v3 := Try.zeroValue3
  t4 := Try.underlying4
  a4 := Try.isAgg4
  z4 := Try.sizeOf4
  v4 := Try.zeroValue4
  t9 := Try.underlying9
  a9 := Try.isAgg9
  z9 := Try.sizeOf9
  v9 := Try.zeroValue9 }
open Go.RowKit Go.Lib in
/-- strings.HasPrefix: "HasPrefix reports whether the string s begins with prefix.": IT RETURNS 'Lib.hasPrefix s prefix'; the world is as it was. (LAID: no walk: one application.) -/
theorem Try.strings_HasPrefix (s p : ByteArray) (w : World) :
    Calls Try.prog 22 #[.string s, .string p] w fun e w' => e = .returned (.bool (Lib.hasPrefix s.data.toList p.data.toList)) ∧ w' = w := Any.strings_HasPrefix Try.lays99 s p w
def Try.lays105_ren : Go.Shelf.Ren := ⟨fun | 105 => 23 | 212 => 25 | 99 => 22 | 165 => 26 | 166 => 27 | 170 => 28 | 169 => 29 | 263 => 30 | 264 => 31 | 206 => 24 | 240 => 32 | 241 => 33 | 276 => 34 | 277 => 35 | n => n, fun | 9 => 9 | 3 => 3 | 4 => 4 | 20 => 20 | 0 => 0 | 46 => 37 | 109 => 38 | 5 => 5 | 72 => 43 | 76 => 47 | 51 => 51 | 146 => 52 | 53 => 54 | 148 => 55 | 70 => 40 | 37 => 41 | 75 => 46 | 127 => 57 | 164 => 58 | 80 => 50 | n => n, fun | n => n⟩
theorem Try.lays105 : Go.Proofs.Lays.n105 Try.prog Try.lays105_ren := {
  mixed := by kernel_rfl
  f99 := Try.func22.trans (congrArg some (by kernel_rfl))
  f105 := Try.func23.trans (congrArg some (by kernel_rfl))
  f165 := Try.func26.trans (congrArg some (by kernel_rfl))
  f166 := Try.func27.trans (congrArg some (by kernel_rfl))
  f169 := Try.func29.trans (congrArg some (by kernel_rfl))
  f170 := Try.func28.trans (congrArg some (by kernel_rfl))
  f206 := Try.func24.trans (congrArg some (by kernel_rfl))
  f212 := Try.func25.trans (congrArg some (by kernel_rfl))
  f240 := Try.func32.trans (congrArg some (by kernel_rfl))
  f241 := Try.func33.trans (congrArg some (by kernel_rfl))
  f263 := Try.func30.trans (congrArg some (by kernel_rfl))
  f264 := Try.func31.trans (congrArg some (by kernel_rfl))
  f276 := Try.func34.trans (congrArg some (by kernel_rfl))
  f277 := Try.func35.trans (congrArg some (by kernel_rfl))
  t0 := Try.underlying0
  a0 := Try.isAgg0
  z0 := Try.sizeOf0
  v0 := Try.zeroValue0
  t3 := Try.underlying3
  a3 := Try.isAgg3
  z3 := Try.sizeOf3
  v3 := Try.zeroValue3
  t4 := Try.underlying4
  a4 := Try.isAgg4
  z4 := Try.sizeOf4
  v4 := Try.zeroValue4
  t5 := Try.underlying5
  a5 := Try.isAgg5
  z5 := Try.sizeOf5
  v5 := Try.zeroValue5
  t9 := Try.underlying9
  a9 := Try.isAgg9
  z9 := Try.sizeOf9
  v9 := Try.zeroValue9
  t20 := Try.underlying20
  a20 := Try.isAgg20
  z20 := Try.sizeOf20
  v20 := Try.zeroValue20
  t37 := Try.underlying41
  a37 := Try.isAgg41
  z37 := Try.sizeOf41
  v37 := Try.zeroValue41
  t46 := Try.underlying37
  a46 := Try.isAgg37
  z46 := Try.sizeOf37
  v46 := Try.zeroValue37
  t51 := Try.underlying51
  a51 := Try.isAgg51
  z51 := Try.sizeOf51
  v51 := Try.zeroValue51
  t53 := Try.underlying54
  a53 := Try.isAgg54
  z53 := Try.sizeOf54
  v53 := Try.zeroValue54
  t70 := Try.underlying40
  a70 := Try.isAgg40
  z70 := Try.sizeOf40
  v70 := Try.zeroValue40
  t72 := Try.underlying43
  a72 := Try.isAgg43
  z72 := Try.sizeOf43
  v72 := Try.zeroValue43
  t75 := Try.underlying46
  a75 := Try.isAgg46
  z75 := Try.sizeOf46
  v75 := Try.zeroValue46
  t76 := Try.underlying47
  a76 := Try.isAgg47
  z76 := Try.sizeOf47
  v76 := Try.zeroValue47
  t109 := Try.underlying38
  a109 := Try.isAgg38
  z109 := Try.sizeOf38
  v109 := Try.zeroValue38
  t127 := Try.underlying57
  a127 := Try.isAgg57
  z127 := Try.sizeOf57
  v127 := Try.zeroValue57
  t146 := Try.underlying52
  a146 := Try.isAgg52
  z146 := Try.sizeOf52
  v146 := Try.zeroValue52
  t148 := Try.underlying55
  a148 := Try.isAgg55
  z148 := Try.sizeOf55
  v148 := Try.zeroValue55
  t164 := Try.underlying58
  a164 := Try.isAgg58
  z164 := Try.sizeOf58
  v164 := Try.zeroValue58 }
theorem Try.Builder_Extra_105 : Builder.Extra Try.prog Try.lays105_ren := {
  sizeBuilder := by kernel_rfl
  liesBuilder := by kernel_rfl
  t5 := Try.underlying5
  a5 := Try.isAgg5
  z5 := Try.sizeOf5
  v5 := Try.zeroValue5
  infoByte := by kernel_rfl
  cellsByte := by kernel_rfl
  sizeByte := by kernel_rfl
  neB5 := by decide }
open Go.RowKit Go.Lib in
/-- THE MAIN CASE: at least two copies of a string that is not empty. (LAID: no walk: one application.) -/
theorem Try.strings_Repeat_main (s : ByteArray) (c : Nat) (w : World) (hc2 : 2 ≤ c) (hc : c ≤ 9223372036854775807) (hlen : s.size * c ≤ 140737488355328) (h0 : 0 < s.size) :
    Calls Try.prog 23 #[.string s, .int .i64 c] w fun e w' => e = .returned (.string ⟨(Lib.repeatL s.data.toList c).toArray⟩) ∧ Below w.heap.size w w' := Any.strings_Repeat_main Try.lays105 Try.Builder_Extra_105 s c w hc2 hc hlen h0
end Go.Proofs
