/-
  DERIVED: THE SHELF's CONTRACTS AT THIS DUMP, IN PLAIN WORDS (tools/lay-plain.mjs out of 'YbaShelf.lean', which tools/lay-shelf.mjs wrote): THE SAME DECLARATIONS UNDER THE SAME NAMES: 'import', 'namespace', 'open', 'def', 'theorem' AND NOTHING ELSE: no command of the shelf's: FOR A HAND-IN. Each laying: the table of numbers ('.._ren') and one theorem, a field a fact of the dump's own or the kernel's comparison; each contract: ONE APPLICATION.
-/
import Derived.Shelf.Small.Wraps
import Derived.Shelf.Strings.Prefix
import Derived.Test.YbulkacrqhuProg
namespace Go.Proofs
open Go.Shelf
def Yba.lays211_ren : Go.Shelf.Ren := ⟨fun | 211 => 9 | 207 => 10 | n => n, fun | 9 => 9 | 4 => 4 | 3 => 3 | n => n, fun | n => n⟩
theorem Yba.lays211 : Go.Proofs.Lays.n211 Yba.prog Yba.lays211_ren := {
  mixed := by kernel_rfl
  f207 := Yba.func10.trans (congrArg some (by kernel_rfl))
  f211 := Yba.func9.trans (congrArg some (by kernel_rfl))
  t3 := Yba.underlying3
  a3 := Yba.isAgg3
  z3 := Yba.sizeOf3
  v3 := Yba.zeroValue3
  t4 := Yba.underlying4
  a4 := Yba.isAgg4
  z4 := Yba.sizeOf4
  v4 := Yba.zeroValue4
  t9 := Yba.underlying9
  a9 := Yba.isAgg9
  z9 := Yba.sizeOf9
  v9 := Yba.zeroValue9 }
open Go.RowKit in
/-- internal/stringslite.CutSuffix (what strings.CutSuffix calls). (LAID: no walk: one application.) -/
theorem Yba.stringslite_CutSuffix (s p : ByteArray) (w : World) (hs : s.size ≤ 9223372036854775807) :
    Calls Yba.prog 9 #[.string s, .string p] w fun e w' => e = .returned (.tuple #[.string ⟨(Lib.trimSuffix s.data.toList p.data.toList).toArray⟩, .bool (Lib.hasSuffix s.data.toList p.data.toList)]) ∧ w' = w := Any.stringslite_CutSuffix Yba.lays211 s p w hs
def Yba.lays104_ren : Go.Shelf.Ren := ⟨fun | 104 => 7 | 211 => 9 | 207 => 10 | n => n, fun | 9 => 9 | 4 => 4 | 24 => 27 | 3 => 3 | n => n, fun | n => n⟩
theorem Yba.lays104 : Go.Proofs.Lays.n104 Yba.prog Yba.lays104_ren := {
  mixed := by kernel_rfl
  f104 := Yba.func7.trans (congrArg some (by kernel_rfl))
  f207 := Yba.func10.trans (congrArg some (by kernel_rfl))
  f211 := Yba.func9.trans (congrArg some (by kernel_rfl))
  t3 := Yba.underlying3
  a3 := Yba.isAgg3
  z3 := Yba.sizeOf3
  v3 := Yba.zeroValue3
  t4 := Yba.underlying4
  a4 := Yba.isAgg4
  z4 := Yba.sizeOf4
  v4 := Yba.zeroValue4
  t9 := Yba.underlying9
  a9 := Yba.isAgg9
  z9 := Yba.sizeOf9
  v9 := Yba.zeroValue9
  t24 := Yba.underlying27
  a24 := Yba.isAgg27
  z24 := Yba.sizeOf27
  v24 := Yba.zeroValue27 }
open Go.RowKit in
/-- strings.CutSuffix: "CutSuffix returns s without the provided ending suffix string and reports whether it found the suffix. If s doesn't end with suffix, CutSuffix returns s, false. If suffix is the empty string, CutSuffix returns s, true.": IT RETURNS '(Lib.trimSuffix s p, Lib.hasSuffix s p)'; the world is as it was. (LAID: no walk: one application.) -/
theorem Yba.strings_CutSuffix (s p : ByteArray) (w : World) (hs : s.size ≤ 9223372036854775807) :
    Calls Yba.prog 7 #[.string s, .string p] w fun e w' => e = .returned (.tuple #[.string ⟨(Lib.trimSuffix s.data.toList p.data.toList).toArray⟩, .bool (Lib.hasSuffix s.data.toList p.data.toList)]) ∧ w' = w := Any.strings_CutSuffix Yba.lays104 s p w hs
def Yba.lays207_ren : Go.Shelf.Ren := ⟨fun | 207 => 10 | n => n, fun | 9 => 9 | 4 => 4 | 3 => 3 | n => n, fun | n => n⟩
theorem Yba.lays207 : Go.Proofs.Lays.n207 Yba.prog Yba.lays207_ren := {
  mixed := by kernel_rfl
  f207 := Yba.func10.trans (congrArg some (by kernel_rfl))
  t3 := Yba.underlying3
  a3 := Yba.isAgg3
  z3 := Yba.sizeOf3
  v3 := Yba.zeroValue3
  t4 := Yba.underlying4
  a4 := Yba.isAgg4
  z4 := Yba.sizeOf4
  v4 := Yba.zeroValue4
  t9 := Yba.underlying9
  a9 := Yba.isAgg9
  z9 := Yba.sizeOf9
  v9 := Yba.zeroValue9 }
open Go.RowKit Go.Lib in
/-- internal/stringslite.HasSuffix (what strings.HasSuffix calls). (LAID: no walk: one application.) -/
theorem Yba.stringslite_HasSuffix (s p : ByteArray) (w : World) (hs : s.size ≤ 9223372036854775807) :
    Calls Yba.prog 10 #[.string s, .string p] w fun e w' => e = .returned (.bool (Lib.hasSuffix s.data.toList p.data.toList)) ∧ w' = w := Any.stringslite_HasSuffix Yba.lays207 s p w hs
def Yba.lays100_ren : Go.Shelf.Ren := ⟨fun | 100 => 8 | 207 => 10 | n => n, fun | 9 => 9 | 4 => 4 | 3 => 3 | n => n, fun | n => n⟩
theorem Yba.lays100 : Go.Proofs.Lays.n100 Yba.prog Yba.lays100_ren := {
  mixed := by kernel_rfl
  f100 := Yba.func8.trans (congrArg some (by kernel_rfl))
  f207 := Yba.func10.trans (congrArg some (by kernel_rfl))
  t3 := Yba.underlying3
  a3 := Yba.isAgg3
  z3 := Yba.sizeOf3
  v3 := Yba.zeroValue3
  t4 := Yba.underlying4
  a4 := Yba.isAgg4
  z4 := Yba.sizeOf4
  v4 := Yba.zeroValue4
  t9 := Yba.underlying9
  a9 := Yba.isAgg9
  z9 := Yba.sizeOf9
  v9 := Yba.zeroValue9 }
open Go.RowKit Go.Lib in
/-- strings.HasSuffix: "HasSuffix reports whether the string s ends with suffix.": IT RETURNS 'Lib.hasSuffix s suffix'; the world is as it was. ('hs': no Go string is longer: a caller has it of every string that it was handed.) (LAID: no walk: one application.) -/
theorem Yba.strings_HasSuffix (s p : ByteArray) (w : World) (hs : s.size ≤ 9223372036854775807) :
    Calls Yba.prog 8 #[.string s, .string p] w fun e w' => e = .returned (.bool (Lib.hasSuffix s.data.toList p.data.toList)) ∧ w' = w := Any.strings_HasSuffix Yba.lays100 s p w hs
end Go.Proofs
