/-
  DERIVED: THE SHELF's CONTRACTS AT THIS DUMP, IN PLAIN WORDS (tools/lay-plain.mjs out of 'Qxb6600579aShelf.lean', which tools/lay-shelf.mjs wrote): THE SAME DECLARATIONS UNDER THE SAME NAMES: 'import', 'namespace', 'open', 'def', 'theorem' AND NOTHING ELSE: no command of the shelf's: FOR A HAND-IN. Each laying: the table of numbers ('.._ren') and one theorem, a field a fact of the dump's own or the kernel's comparison; each contract: ONE APPLICATION.
-/
import Derived.Shelf.Strings.Prefix
import Derived.Shelf.Strings.Repeat
import Derived.Test.Qxb6600579aProg
namespace Go.Proofs
open Go.Shelf
def Try.lays99_ren : Go.Shelf.Ren := ⟨fun | 99 => 21 | 206 => 27 | n => n, fun | 9 => 9 | 4 => 4 | 3 => 3 | n => n, fun | n => n⟩
theorem Try.lays99 : Go.Proofs.Lays.n99 Try.prog Try.lays99_ren := {
  mixed := by kernel_rfl
  f99 := Try.func21.trans (congrArg some (by kernel_rfl))
  f206 := Try.func27.trans (congrArg some (by kernel_rfl))
  t3 := Try.underlying3
  a3 := Try.isAgg3
  z3 := Try.sizeOf3
  v3 := Try.zeroValue3
  t4 := Try.underlying4
  a4 := Try.isAgg4
  z4 := Try.sizeOf4
  v4 := Try.zeroValue4
  t9 := Try.underlying9
  a9 := Try.isAgg9
  z9 := Try.sizeOf9
  v9 := Try.zeroValue9 }
open Go.RowKit Go.Lib in
/-- strings.HasPrefix: "HasPrefix reports whether the string s begins with prefix.": IT RETURNS 'Lib.hasPrefix s prefix'; the world is as it was. (LAID: no walk: one application.) -/
theorem Try.strings_HasPrefix (s p : ByteArray) (w : World) :
    Calls Try.prog 21 #[.string s, .string p] w fun e w' => e = .returned (.bool (Lib.hasPrefix s.data.toList p.data.toList)) ∧ w' = w := Any.strings_HasPrefix Try.lays99 s p w
def Try.lays105_ren : Go.Shelf.Ren := ⟨fun | 105 => 22 | 212 => 28 | 99 => 21 | 165 => 29 | 166 => 30 | 170 => 31 | 169 => 32 | 263 => 37 | 264 => 38 | 206 => 27 | 240 => 39 | 241 => 40 | 276 => 42 | 277 => 43 | n => n, fun | 9 => 9 | 3 => 3 | 4 => 4 | 20 => 20 | 0 => 0 | 46 => 40 | 109 => 41 | 5 => 5 | 72 => 46 | 76 => 50 | 51 => 58 | 146 => 59 | 53 => 61 | 148 => 62 | 70 => 43 | 37 => 44 | 75 => 49 | 127 => 64 | 164 => 65 | 80 => 53 | n => n, fun | n => n⟩
theorem Try.lays105 : Go.Proofs.Lays.n105 Try.prog Try.lays105_ren := {
  mixed := by kernel_rfl
  f99 := Try.func21.trans (congrArg some (by kernel_rfl))
  f105 := Try.func22.trans (congrArg some (by kernel_rfl))
  f165 := Try.func29.trans (congrArg some (by kernel_rfl))
  f166 := Try.func30.trans (congrArg some (by kernel_rfl))
  f169 := Try.func32.trans (congrArg some (by kernel_rfl))
  f170 := Try.func31.trans (congrArg some (by kernel_rfl))
  f206 := Try.func27.trans (congrArg some (by kernel_rfl))
  f212 := Try.func28.trans (congrArg some (by kernel_rfl))
  f240 := Try.func39.trans (congrArg some (by kernel_rfl))
  f241 := Try.func40.trans (congrArg some (by kernel_rfl))
  f263 := Try.func37.trans (congrArg some (by kernel_rfl))
  f264 := Try.func38.trans (congrArg some (by kernel_rfl))
  f276 := Try.func42.trans (congrArg some (by kernel_rfl))
  f277 := Try.func43.trans (congrArg some (by kernel_rfl))
  t0 := Try.underlying0
  a0 := Try.isAgg0
  z0 := Try.sizeOf0
  v0 := Try.zeroValue0
  t3 := Try.underlying3
  a3 := Try.isAgg3
  z3 := Try.sizeOf3
  v3 := Try.zeroValue3
  t4 := Try.underlying4
  a4 := Try.isAgg4
  z4 := Try.sizeOf4
  v4 := Try.zeroValue4
  t5 := Try.underlying5
  a5 := Try.isAgg5
  z5 := Try.sizeOf5
  v5 := Try.zeroValue5
  t9 := Try.underlying9
  a9 := Try.isAgg9
  z9 := Try.sizeOf9
  v9 := Try.zeroValue9
  t20 := Try.underlying20
  a20 := Try.isAgg20
  z20 := Try.sizeOf20
  v20 := Try.zeroValue20
  t37 := Try.underlying44
  a37 := Try.isAgg44
  z37 := Try.sizeOf44
  v37 := Try.zeroValue44
  t46 := Try.underlying40
  a46 := Try.isAgg40
  z46 := Try.sizeOf40
  v46 := Try.zeroValue40
  t51 := Try.underlying58
  a51 := Try.isAgg58
  z51 := Try.sizeOf58
  v51 := Try.zeroValue58
  t53 := Try.underlying61
  a53 := Try.isAgg61
  z53 := Try.sizeOf61
  v53 := Try.zeroValue61
  t70 := Try.underlying43
  a70 := Try.isAgg43
  z70 := Try.sizeOf43
  v70 := Try.zeroValue43
  t72 := Try.underlying46
  a72 := Try.isAgg46
  z72 := Try.sizeOf46
  v72 := Try.zeroValue46
  t75 := Try.underlying49
  a75 := Try.isAgg49
  z75 := Try.sizeOf49
  v75 := Try.zeroValue49
  t76 := Try.underlying50
  a76 := Try.isAgg50
  z76 := Try.sizeOf50
  v76 := Try.zeroValue50
  t109 := Try.underlying41
  a109 := Try.isAgg41
  z109 := Try.sizeOf41
  v109 := Try.zeroValue41
  t127 := Try.underlying64
  a127 := Try.isAgg64
  z127 := Try.sizeOf64
  v127 := Try.zeroValue64
  t146 := Try.underlying59
  a146 := Try.isAgg59
  z146 := Try.sizeOf59
  v146 := Try.zeroValue59
  t148 := Try.underlying62
  a148 := Try.isAgg62
  z148 := Try.sizeOf62
  v148 := Try.zeroValue62
  t164 := Try.underlying65
  a164 := Try.isAgg65
  z164 := Try.sizeOf65
  v164 := Try.zeroValue65 }
theorem Try.Builder_Extra_105 : Builder.Extra Try.prog Try.lays105_ren := {
  sizeBuilder := by kernel_rfl
  liesBuilder := by kernel_rfl
  t5 := Try.underlying5
  a5 := Try.isAgg5
  z5 := Try.sizeOf5
  v5 := Try.zeroValue5
  infoByte := by kernel_rfl
  cellsByte := by kernel_rfl
  sizeByte := by kernel_rfl
  neB5 := by decide }
open Go.RowKit Go.Lib in
/-- **strings.Repeat: count ≥ 0, the result within one allocation: count copies of s.** (LAID: no walk: one application.) -/
theorem Try.strings_Repeat (s : ByteArray) (c : Nat) (w : World) (hc : c ≤ 9223372036854775807) (hlen : s.size * c ≤ 140737488355328) :
    Calls Try.prog 22 #[.string s, .int .i64 c] w fun e w' => e = .returned (.string ⟨(Lib.repeatL s.data.toList c).toArray⟩) ∧ Below w.heap.size w w' := Any.strings_Repeat Try.lays105 Try.Builder_Extra_105 s c w hc hlen
end Go.Proofs
