/-
  DERIVED: THE SHELF's CONTRACTS AT THIS DUMP, IN PLAIN WORDS (tools/lay-plain.mjs out of 'YbaShelf.lean', which tools/lay-shelf.mjs wrote): THE SAME DECLARATIONS UNDER THE SAME NAMES: 'import', 'namespace', 'open', 'def', 'theorem' AND NOTHING ELSE: no command of the shelf's: FOR A HAND-IN. Each laying: the table of numbers ('.._ren') and one theorem, a field a fact of the dump's own or the kernel's comparison; each contract: ONE APPLICATION.
-/
import Derived.Shelf.Strings.Repeat
import Derived.Test.YbulkamgmProg
namespace Go.Proofs
open Go.Shelf
def Yba.lays105_ren : Go.Shelf.Ren := ⟨fun | 105 => 12 | 212 => 16 | 99 => 17 | 165 => 18 | 166 => 19 | 170 => 20 | 169 => 21 | 263 => 25 | 264 => 26 | 206 => 27 | 240 => 28 | 241 => 29 | 276 => 30 | 277 => 31 | n => n, fun | 9 => 9 | 3 => 3 | 4 => 4 | 20 => 20 | 0 => 0 | 46 => 28 | 109 => 61 | 5 => 5 | 72 => 66 | 76 => 70 | 51 => 24 | 146 => 77 | 53 => 53 | 148 => 79 | 70 => 64 | 37 => 32 | 75 => 69 | 127 => 81 | 164 => 82 | 80 => 73 | n => n, fun | n => n⟩
theorem Yba.lays105 : Go.Proofs.Lays.n105 Yba.prog Yba.lays105_ren := {
  mixed := by kernel_rfl
  f99 := Yba.func17.trans (congrArg some (by kernel_rfl))
  f105 := Yba.func12.trans (congrArg some (by kernel_rfl))
  f165 := Yba.func18.trans (congrArg some (by kernel_rfl))
  f166 := Yba.func19.trans (congrArg some (by kernel_rfl))
  f169 := Yba.func21.trans (congrArg some (by kernel_rfl))
  f170 := Yba.func20.trans (congrArg some (by kernel_rfl))
  f206 := Yba.func27.trans (congrArg some (by kernel_rfl))
  f212 := Yba.func16.trans (congrArg some (by kernel_rfl))
  f240 := Yba.func28.trans (congrArg some (by kernel_rfl))
  f241 := Yba.func29.trans (congrArg some (by kernel_rfl))
  f263 := Yba.func25.trans (congrArg some (by kernel_rfl))
  f264 := Yba.func26.trans (congrArg some (by kernel_rfl))
  f276 := Yba.func30.trans (congrArg some (by kernel_rfl))
  f277 := Yba.func31.trans (congrArg some (by kernel_rfl))
  t0 := Yba.underlying0
  a0 := Yba.isAgg0
  z0 := Yba.sizeOf0
  v0 := Yba.zeroValue0
  t3 := Yba.underlying3
  a3 := Yba.isAgg3
  z3 := Yba.sizeOf3
  v3 := Yba.zeroValue3
  t4 := Yba.underlying4
  a4 := Yba.isAgg4
  z4 := Yba.sizeOf4
  v4 := Yba.zeroValue4
  t5 := Yba.underlying5
  a5 := Yba.isAgg5
  z5 := Yba.sizeOf5
  v5 := Yba.zeroValue5
  t9 := Yba.underlying9
  a9 := Yba.isAgg9
  z9 := Yba.sizeOf9
  v9 := Yba.zeroValue9
  t20 := Yba.underlying20
  a20 := Yba.isAgg20
  z20 := Yba.sizeOf20
  v20 := Yba.zeroValue20
  t37 := Yba.underlying32
  a37 := Yba.isAgg32
  z37 := Yba.sizeOf32
  v37 := Yba.zeroValue32
  t46 := Yba.underlying28
  a46 := Yba.isAgg28
  z46 := Yba.sizeOf28
  v46 := Yba.zeroValue28
  t51 := Yba.underlying24
  a51 := Yba.isAgg24
  z51 := Yba.sizeOf24
  v51 := Yba.zeroValue24
  t53 := Yba.underlying53
  a53 := Yba.isAgg53
  z53 := Yba.sizeOf53
  v53 := Yba.zeroValue53
  t70 := Yba.underlying64
  a70 := Yba.isAgg64
  z70 := Yba.sizeOf64
  v70 := Yba.zeroValue64
  t72 := Yba.underlying66
  a72 := Yba.isAgg66
  z72 := Yba.sizeOf66
  v72 := Yba.zeroValue66
  t75 := Yba.underlying69
  a75 := Yba.isAgg69
  z75 := Yba.sizeOf69
  v75 := Yba.zeroValue69
  t76 := Yba.underlying70
  a76 := Yba.isAgg70
  z76 := Yba.sizeOf70
  v76 := Yba.zeroValue70
  t109 := Yba.underlying61
  a109 := Yba.isAgg61
  z109 := Yba.sizeOf61
  v109 := Yba.zeroValue61
  t127 := Yba.underlying81
  a127 := Yba.isAgg81
  z127 := Yba.sizeOf81
  v127 := Yba.zeroValue81
  t146 := Yba.underlying77
  a146 := Yba.isAgg77
  z146 := Yba.sizeOf77
  v146 := Yba.zeroValue77
  t148 := Yba.underlying79
  a148 := Yba.isAgg79
  z148 := Yba.sizeOf79
  v148 := Yba.zeroValue79
  t164 := Yba.underlying82
  a164 := Yba.isAgg82
  z164 := Yba.sizeOf82
  v164 := Yba.zeroValue82 }
theorem Yba.Builder_Extra_105 : Builder.Extra Yba.prog Yba.lays105_ren := {
  sizeBuilder := by kernel_rfl
  liesBuilder := by kernel_rfl
  t5 := Yba.underlying5
  a5 := Yba.isAgg5
  z5 := Yba.sizeOf5
  v5 := Yba.zeroValue5
  infoByte := by kernel_rfl
  cellsByte := by kernel_rfl
  sizeByte := by kernel_rfl
  neB5 := by decide }
open Go.RowKit Go.Lib in
/-- **strings.Repeat: count ≥ 0, the result within one allocation: count copies of s.** (LAID: no walk: one application.) -/
theorem Yba.strings_Repeat (s : ByteArray) (c : Nat) (w : World) (hc : c ≤ 9223372036854775807) (hlen : s.size * c ≤ 140737488355328) :
    Calls Yba.prog 12 #[.string s, .int .i64 c] w fun e w' => e = .returned (.string ⟨(Lib.repeatL s.data.toList c).toArray⟩) ∧ Below w.heap.size w w' := Any.strings_Repeat Yba.lays105 Yba.Builder_Extra_105 s c w hc hlen
end Go.Proofs
