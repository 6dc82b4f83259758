/-
  DERIVED: THE SHELF's CONTRACTS AT THIS DUMP, IN PLAIN WORDS (tools/lay-plain.mjs out of 'TryRep.lean', which tools/lay-shelf.mjs wrote): THE SAME DECLARATIONS UNDER THE SAME NAMES: 'import', 'namespace', 'open', 'def', 'theorem' AND NOTHING ELSE: no command of the shelf's: FOR A HAND-IN. Each laying: the table of numbers ('.._ren') and one theorem, a field a fact of the dump's own or the kernel's comparison; each contract: ONE APPLICATION.
-/
import Derived.Shelf.Strings.Builder1
import Derived.Shelf.Strings.Builder2
import Derived.Shelf.Strings.BuilderF
import Derived.Shelf.Strings.Prefix
import Derived.Shelf.Bits.Mul64
import Derived.Shelf.Strings.Repeat
import Derived.Test.Qxb6617157aProg
namespace Go.Proofs
open Go.Shelf
def Try.lays105_ren : Go.Shelf.Ren := ⟨fun | 105 => 22 | 212 => 23 | 99 => 24 | 165 => 25 | 166 => 26 | 170 => 27 | 169 => 28 | 263 => 29 | 264 => 30 | 206 => 31 | 240 => 32 | 241 => 33 | 276 => 34 | 277 => 35 | n => n, fun | 9 => 9 | 3 => 3 | 4 => 4 | 20 => 20 | 0 => 0 | 46 => 34 | 109 => 35 | 5 => 5 | 72 => 40 | 76 => 44 | 51 => 48 | 146 => 49 | 53 => 22 | 148 => 51 | 70 => 38 | 37 => 31 | 75 => 43 | 127 => 53 | 164 => 54 | 80 => 47 | n => n, fun | n => n⟩
theorem Try.lays105 : Go.Proofs.Lays.n105 Try.prog Try.lays105_ren := {
  mixed := by kernel_rfl
  f99 := Try.func24.trans (congrArg some (by kernel_rfl))
  f105 := Try.func22.trans (congrArg some (by kernel_rfl))
  f165 := Try.func25.trans (congrArg some (by kernel_rfl))
  f166 := Try.func26.trans (congrArg some (by kernel_rfl))
  f169 := Try.func28.trans (congrArg some (by kernel_rfl))
  f170 := Try.func27.trans (congrArg some (by kernel_rfl))
  f206 := Try.func31.trans (congrArg some (by kernel_rfl))
  f212 := Try.func23.trans (congrArg some (by kernel_rfl))
  f240 := Try.func32.trans (congrArg some (by kernel_rfl))
  f241 := Try.func33.trans (congrArg some (by kernel_rfl))
  f263 := Try.func29.trans (congrArg some (by kernel_rfl))
  f264 := Try.func30.trans (congrArg some (by kernel_rfl))
  f276 := Try.func34.trans (congrArg some (by kernel_rfl))
  f277 := Try.func35.trans (congrArg some (by kernel_rfl))
  t0 := Try.underlying0
  a0 := Try.isAgg0
  z0 := Try.sizeOf0
  v0 := Try.zeroValue0
  t3 := Try.underlying3
  a3 := Try.isAgg3
  z3 := Try.sizeOf3
  v3 := Try.zeroValue3
  t4 := Try.underlying4
  a4 := Try.isAgg4
  z4 := Try.sizeOf4
  v4 := Try.zeroValue4
  t5 := Try.underlying5
  a5 := Try.isAgg5
  z5 := Try.sizeOf5
  v5 := Try.zeroValue5
  t9 := Try.underlying9
  a9 := Try.isAgg9
  z9 := Try.sizeOf9
  v9 := Try.zeroValue9
  t20 := Try.underlying20
  a20 := Try.isAgg20
  z20 := Try.sizeOf20
  v20 := Try.zeroValue20
  t37 := Try.underlying31
  a37 := Try.isAgg31
  z37 := Try.sizeOf31
  v37 := Try.zeroValue31
  t46 := Try.underlying34
  a46 := Try.isAgg34
  z46 := Try.sizeOf34
  v46 := Try.zeroValue34
  t51 := Try.underlying48
  a51 := Try.isAgg48
  z51 := Try.sizeOf48
  v51 := Try.zeroValue48
  t53 := Try.underlying22
  a53 := Try.isAgg22
  z53 := Try.sizeOf22
  v53 := Try.zeroValue22
  t70 := Try.underlying38
  a70 := Try.isAgg38
  z70 := Try.sizeOf38
  v70 := Try.zeroValue38
  t72 := Try.underlying40
  a72 := Try.isAgg40
  z72 := Try.sizeOf40
  v72 := Try.zeroValue40
  t75 := Try.underlying43
  a75 := Try.isAgg43
  z75 := Try.sizeOf43
  v75 := Try.zeroValue43
  t76 := Try.underlying44
  a76 := Try.isAgg44
  z76 := Try.sizeOf44
  v76 := Try.zeroValue44
  t109 := Try.underlying35
  a109 := Try.isAgg35
  z109 := Try.sizeOf35
  v109 := Try.zeroValue35
  t127 := Try.underlying53
  a127 := Try.isAgg53
  z127 := Try.sizeOf53
  v127 := Try.zeroValue53
  t146 := Try.underlying49
  a146 := Try.isAgg49
  z146 := Try.sizeOf49
  v146 := Try.zeroValue49
  t148 := Try.underlying51
  a148 := Try.isAgg51
  z148 := Try.sizeOf51
  v148 := Try.zeroValue51
  t164 := Try.underlying54
  a164 := Try.isAgg54
  z164 := Try.sizeOf54
  v164 := Try.zeroValue54 }
theorem Try.Builder_Extra_105 : Builder.Extra Try.prog Try.lays105_ren := {
  sizeBuilder := by kernel_rfl
  liesBuilder := by kernel_rfl
  t5 := Try.underlying5
  a5 := Try.isAgg5
  z5 := Try.sizeOf5
  v5 := Try.zeroValue5
  infoByte := by kernel_rfl
  cellsByte := by kernel_rfl
  sizeByte := by kernel_rfl
  neB5 := by decide }
open Go.RowKit Go.Lib in
/-- **strings.Repeat: count ≥ 0, the result within one allocation: count copies of s.** (LAID: no walk: one application.) -/
theorem Try.strings_Repeat (s : ByteArray) (c : Nat) (w : World) (hc : c ≤ 9223372036854775807) (hlen : s.size * c ≤ 140737488355328) :
    Calls Try.prog 22 #[.string s, .int .i64 c] w fun e w' => e = .returned (.string ⟨(Lib.repeatL s.data.toList c).toArray⟩) ∧ Below w.heap.size w w' := Any.strings_Repeat Try.lays105 Try.Builder_Extra_105 s c w hc hlen
end Go.Proofs
