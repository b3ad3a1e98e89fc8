/-
  DERIVED: THE SHELF's CONTRACTS AT THIS DUMP, IN PLAIN WORDS (tools/lay-plain.mjs out of 'TryShelfR.lean', which tools/lay-shelf.mjs wrote): THE SAME DECLARATIONS UNDER THE SAME NAMES: 'import', 'namespace', 'open', 'def', 'theorem' AND NOTHING ELSE: no command of the shelf's: FOR A HAND-IN. Each laying: the table of numbers ('.._ren') and one theorem, a field a fact of the dump's own or the kernel's comparison; each contract: ONE APPLICATION.
-/
import Derived.Shelf.Strings.Builder1
import Derived.Shelf.Strings.Builder2
import Derived.Shelf.Strings.BuilderF
import Derived.Shelf.Strings.Prefix
import Derived.Shelf.Bits.Mul64
import Derived.Shelf.Strings.Repeat
import Derived.Test.Qxb6600142aProg
namespace Go.Proofs
open Go.Shelf
def Try.lays105_ren : Go.Shelf.Ren := ⟨fun | 105 => 9 | 212 => 10 | 99 => 11 | 165 => 12 | 166 => 13 | 170 => 14 | 169 => 15 | 263 => 16 | 264 => 17 | 206 => 18 | 240 => 19 | 241 => 20 | 276 => 21 | 277 => 22 | n => n, fun | 9 => 9 | 3 => 3 | 4 => 4 | 20 => 20 | 0 => 0 | 46 => 32 | 109 => 33 | 5 => 5 | 72 => 39 | 76 => 43 | 51 => 46 | 146 => 47 | 53 => 49 | 148 => 50 | 70 => 36 | 37 => 37 | 75 => 42 | 127 => 52 | 164 => 53 | 80 => 30 | n => n, fun | n => n⟩
theorem Try.lays105 : Go.Proofs.Lays.n105 Try.prog Try.lays105_ren := {
  mixed := by kernel_rfl
  f99 := Try.func11.trans (congrArg some (by kernel_rfl))
  f105 := Try.func9.trans (congrArg some (by kernel_rfl))
  f165 := Try.func12.trans (congrArg some (by kernel_rfl))
  f166 := Try.func13.trans (congrArg some (by kernel_rfl))
  f169 := Try.func15.trans (congrArg some (by kernel_rfl))
  f170 := Try.func14.trans (congrArg some (by kernel_rfl))
  f206 := Try.func18.trans (congrArg some (by kernel_rfl))
  f212 := Try.func10.trans (congrArg some (by kernel_rfl))
  f240 := Try.func19.trans (congrArg some (by kernel_rfl))
  f241 := Try.func20.trans (congrArg some (by kernel_rfl))
  f263 := Try.func16.trans (congrArg some (by kernel_rfl))
  f264 := Try.func17.trans (congrArg some (by kernel_rfl))
  f276 := Try.func21.trans (congrArg some (by kernel_rfl))
  f277 := Try.func22.trans (congrArg some (by kernel_rfl))
  t0 := Try.underlying0
  a0 := Try.isAgg0
  z0 := Try.sizeOf0
  v0 := Try.zeroValue0
  t3 := Try.underlying3
  a3 := Try.isAgg3
  z3 := Try.sizeOf3
  v3 := Try.zeroValue3
  t4 := Try.underlying4
  a4 := Try.isAgg4
  z4 := Try.sizeOf4
  v4 := Try.zeroValue4
  t5 := Try.underlying5
  a5 := Try.isAgg5
  z5 := Try.sizeOf5
  v5 := Try.zeroValue5
  t9 := Try.underlying9
  a9 := Try.isAgg9
  z9 := Try.sizeOf9
  v9 := Try.zeroValue9
  t20 := Try.underlying20
  a20 := Try.isAgg20
  z20 := Try.sizeOf20
  v20 := Try.zeroValue20
  t37 := Try.underlying37
  a37 := Try.isAgg37
  z37 := Try.sizeOf37
  v37 := Try.zeroValue37
  t46 := Try.underlying32
  a46 := Try.isAgg32
  z46 := Try.sizeOf32
  v46 := Try.zeroValue32
  t51 := Try.underlying46
  a51 := Try.isAgg46
  z51 := Try.sizeOf46
  v51 := Try.zeroValue46
  t53 := Try.underlying49
  a53 := Try.isAgg49
  z53 := Try.sizeOf49
  v53 := Try.zeroValue49
  t70 := Try.underlying36
  a70 := Try.isAgg36
  z70 := Try.sizeOf36
  v70 := Try.zeroValue36
  t72 := Try.underlying39
  a72 := Try.isAgg39
  z72 := Try.sizeOf39
  v72 := Try.zeroValue39
  t75 := Try.underlying42
  a75 := Try.isAgg42
  z75 := Try.sizeOf42
  v75 := Try.zeroValue42
  t76 := Try.underlying43
  a76 := Try.isAgg43
  z76 := Try.sizeOf43
  v76 := Try.zeroValue43
  t109 := Try.underlying33
  a109 := Try.isAgg33
  z109 := Try.sizeOf33
  v109 := Try.zeroValue33
  t127 := Try.underlying52
  a127 := Try.isAgg52
  z127 := Try.sizeOf52
  v127 := Try.zeroValue52
  t146 := Try.underlying47
  a146 := Try.isAgg47
  z146 := Try.sizeOf47
  v146 := Try.zeroValue47
  t148 := Try.underlying50
  a148 := Try.isAgg50
  z148 := Try.sizeOf50
  v148 := Try.zeroValue50
  t164 := Try.underlying53
  a164 := Try.isAgg53
  z164 := Try.sizeOf53
  v164 := Try.zeroValue53 }
theorem Try.Builder_Extra_105 : Builder.Extra Try.prog Try.lays105_ren := {
  sizeBuilder := by kernel_rfl
  liesBuilder := by kernel_rfl
  t5 := Try.underlying5
  a5 := Try.isAgg5
  z5 := Try.sizeOf5
  v5 := Try.zeroValue5
  infoByte := by kernel_rfl
  cellsByte := by kernel_rfl
  sizeByte := by kernel_rfl
  neB5 := by decide }
open Go.RowKit Go.Lib in
/-- **strings.Repeat: count ≥ 0, the result within one allocation: count copies of s.** (LAID: no walk: one application.) -/
theorem Try.strings_Repeat (s : ByteArray) (c : Nat) (w : World) (hc : c ≤ 9223372036854775807) (hlen : s.size * c ≤ 140737488355328) :
    Calls Try.prog 9 #[.string s, .int .i64 c] w fun e w' => e = .returned (.string ⟨(Lib.repeatL s.data.toList c).toArray⟩) ∧ Below w.heap.size w w' := Any.strings_Repeat Try.lays105 Try.Builder_Extra_105 s c w hc hlen
end Go.Proofs
