/-
  DERIVED: THE SHELF's CONTRACTS AT THIS DUMP, IN PLAIN WORDS (tools/lay-plain.mjs out of 'Qxb6000961aShelf0.lean', which tools/lay-shelf.mjs wrote): THE SAME DECLARATIONS UNDER THE SAME NAMES: 'import', 'namespace', 'open', 'def', 'theorem' AND NOTHING ELSE: no command of the shelf's: FOR A HAND-IN. Each laying: the table of numbers ('.._ren') and one theorem, a field a fact of the dump's own or the kernel's comparison; each contract: ONE APPLICATION.
-/
import Derived.Shelf.Strings.Builder1
import Derived.Shelf.Strings.Builder2
import Derived.Shelf.Strings.BuilderF
import Derived.Shelf.Strings.Prefix
import Derived.Shelf.Bits.Mul64
import Derived.Shelf.Strings.Repeat
import Derived.Test.Qxb6000961aProg
namespace Go.Proofs
open Go.Shelf
def Try.lays105_ren : Go.Shelf.Ren := ⟨fun | 105 => 32 | 212 => 33 | 99 => 34 | 165 => 35 | 166 => 36 | 170 => 37 | 169 => 38 | 263 => 39 | 264 => 40 | 206 => 41 | 240 => 42 | 241 => 43 | 276 => 44 | 277 => 45 | n => n, fun | 9 => 9 | 3 => 3 | 4 => 4 | 20 => 20 | 0 => 0 | 46 => 35 | 109 => 45 | 5 => 5 | 72 => 51 | 76 => 55 | 51 => 59 | 146 => 60 | 53 => 34 | 148 => 41 | 70 => 48 | 37 => 49 | 75 => 54 | 127 => 63 | 164 => 64 | 80 => 58 | n => n, fun | n => n⟩
theorem Try.lays105 : Go.Proofs.Lays.n105 Try.prog Try.lays105_ren := {
  mixed := by kernel_rfl
  f99 := Try.func34.trans (congrArg some (by kernel_rfl))
  f105 := Try.func32.trans (congrArg some (by kernel_rfl))
  f165 := Try.func35.trans (congrArg some (by kernel_rfl))
  f166 := Try.func36.trans (congrArg some (by kernel_rfl))
  f169 := Try.func38.trans (congrArg some (by kernel_rfl))
  f170 := Try.func37.trans (congrArg some (by kernel_rfl))
  f206 := Try.func41.trans (congrArg some (by kernel_rfl))
  f212 := Try.func33.trans (congrArg some (by kernel_rfl))
  f240 := Try.func42.trans (congrArg some (by kernel_rfl))
  f241 := Try.func43.trans (congrArg some (by kernel_rfl))
  f263 := Try.func39.trans (congrArg some (by kernel_rfl))
  f264 := Try.func40.trans (congrArg some (by kernel_rfl))
  f276 := Try.func44.trans (congrArg some (by kernel_rfl))
  f277 := Try.func45.trans (congrArg some (by kernel_rfl))
  t0 := Try.underlying0
  a0 := Try.isAgg0
  z0 := Try.sizeOf0
  v0 := Try.zeroValue0
  t3 := Try.underlying3
  a3 := Try.isAgg3
  z3 := Try.sizeOf3
  v3 := Try.zeroValue3
  t4 := Try.underlying4
  a4 := Try.isAgg4
  z4 := Try.sizeOf4
  v4 := Try.zeroValue4
  t5 := Try.underlying5
  a5 := Try.isAgg5
  z5 := Try.sizeOf5
  v5 := Try.zeroValue5
  t9 := Try.underlying9
  a9 := Try.isAgg9
  z9 := Try.sizeOf9
  v9 := Try.zeroValue9
  t20 := Try.underlying20
  a20 := Try.isAgg20
  z20 := Try.sizeOf20
  v20 := Try.zeroValue20
  t37 := Try.underlying49
  a37 := Try.isAgg49
  z37 := Try.sizeOf49
  v37 := Try.zeroValue49
  t46 := Try.underlying35
  a46 := Try.isAgg35
  z46 := Try.sizeOf35
  v46 := Try.zeroValue35
  t51 := Try.underlying59
  a51 := Try.isAgg59
  z51 := Try.sizeOf59
  v51 := Try.zeroValue59
  t53 := Try.underlying34
  a53 := Try.isAgg34
  z53 := Try.sizeOf34
  v53 := Try.zeroValue34
  t70 := Try.underlying48
  a70 := Try.isAgg48
  z70 := Try.sizeOf48
  v70 := Try.zeroValue48
  t72 := Try.underlying51
  a72 := Try.isAgg51
  z72 := Try.sizeOf51
  v72 := Try.zeroValue51
  t75 := Try.underlying54
  a75 := Try.isAgg54
  z75 := Try.sizeOf54
  v75 := Try.zeroValue54
  t76 := Try.underlying55
  a76 := Try.isAgg55
  z76 := Try.sizeOf55
  v76 := Try.zeroValue55
  t109 := Try.underlying45
  a109 := Try.isAgg45
  z109 := Try.sizeOf45
  v109 := Try.zeroValue45
  t127 := Try.underlying63
  a127 := Try.isAgg63
  z127 := Try.sizeOf63
  v127 := Try.zeroValue63
  t146 := Try.underlying60
  a146 := Try.isAgg60
  z146 := Try.sizeOf60
  v146 := Try.zeroValue60
  t148 := Try.underlying41
  a148 := Try.isAgg41
  z148 := Try.sizeOf41
  v148 := Try.zeroValue41
  t164 := Try.underlying64
  a164 := Try.isAgg64
  z164 := Try.sizeOf64
  v164 := Try.zeroValue64 }
theorem Try.Builder_Extra_105 : Builder.Extra Try.prog Try.lays105_ren := {
  sizeBuilder := by kernel_rfl
  liesBuilder := by kernel_rfl
  t5 := Try.underlying5
  a5 := Try.isAgg5
  z5 := Try.sizeOf5
  v5 := Try.zeroValue5
  infoByte := by kernel_rfl
  cellsByte := by kernel_rfl
  sizeByte := by kernel_rfl
  neB5 := by decide }
open Go.RowKit Go.Lib in
/-- **strings.Repeat: count ≥ 0, the result within one allocation: count copies of s.** (LAID: no walk: one application.) -/
theorem Try.strings_Repeat (s : ByteArray) (c : Nat) (w : World) (hc : c ≤ 9223372036854775807) (hlen : s.size * c ≤ 140737488355328) :
    Calls Try.prog 32 #[.string s, .int .i64 c] w fun e w' => e = .returned (.string ⟨(Lib.repeatL s.data.toList c).toArray⟩) ∧ Below w.heap.size w w' := Any.strings_Repeat Try.lays105 Try.Builder_Extra_105 s c w hc hlen
end Go.Proofs
