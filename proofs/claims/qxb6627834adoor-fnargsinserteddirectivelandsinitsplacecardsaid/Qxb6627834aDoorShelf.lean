/-
  The shelf's contracts at this dump, in plain words: written by the kit's own tool (lay-shelf, lay-plain) for this program.
-/
import Derived.Shelf.Small.Wraps
import Derived.Shelf.Strings.Prefix
import Derived.Shelf.Strings.Fields
import Derived.Shelf.Unicode.Latin
import Derived.Shelf.Unicode.Is16White
import Derived.Shelf.Unicode.IsSpaceAny
import Derived.Shelf.Unicode.Is16WhiteD
import Derived.Shelf.Unicode.IsSpaceAnyD
import Derived.Shelf.Strings.FieldsAny
import Derived.Shelf.Strings.FieldsFuncAny
import Derived.Shelf.Unicode.Is16Any
import Derived.Shelf.Unicode.Is32Any
import Derived.Shelf.Unicode.ExclAny
import Derived.Test.Qxb6627834aDoorProg
namespace Go.Proofs
open Go.Shelf
def Tryd.lays210_ren : Go.Shelf.Ren := ⟨fun | 210 => 21 | 206 => 22 | n => n, fun | 9 => 9 | 4 => 4 | 3 => 3 | n => n, fun | n => n⟩
theorem Tryd.lays210 : Go.Proofs.Lays.n210 Tryd.prog Tryd.lays210_ren := {
  mixed := by kernel_rfl
  f206 := Tryd.func22.trans (congrArg some (by kernel_rfl))
  f210 := Tryd.func21.trans (congrArg some (by kernel_rfl))
  t3 := Tryd.underlying3
  a3 := Tryd.isAgg3
  z3 := Tryd.sizeOf3
  v3 := Tryd.zeroValue3
  t4 := Tryd.underlying4
  a4 := Tryd.isAgg4
  z4 := Tryd.sizeOf4
  v4 := Tryd.zeroValue4
  t9 := Tryd.underlying9
  a9 := Tryd.isAgg9
  z9 := Tryd.sizeOf9
  v9 := Tryd.zeroValue9 }
open Go.RowKit in
/-- internal/stringslite.CutPrefix (what strings.CutPrefix calls). (LAID: no walk: one application.) -/
theorem Tryd.stringslite_CutPrefix (s p : ByteArray) (w : World) :
    Calls Tryd.prog 21 #[.string s, .string p] w fun e w' => e = .returned (.tuple #[.string ⟨(Lib.trimPrefix s.data.toList p.data.toList).toArray⟩, .bool (Lib.hasPrefix s.data.toList p.data.toList)]) ∧ w' = w := Any.stringslite_CutPrefix Tryd.lays210 s p w
def Tryd.lays103_ren : Go.Shelf.Ren := ⟨fun | 103 => 17 | 210 => 21 | 206 => 22 | n => n, fun | 9 => 9 | 4 => 4 | 24 => 29 | 3 => 3 | n => n, fun | n => n⟩
theorem Tryd.lays103 : Go.Proofs.Lays.n103 Tryd.prog Tryd.lays103_ren := {
  mixed := by kernel_rfl
  f103 := Tryd.func17.trans (congrArg some (by kernel_rfl))
  f206 := Tryd.func22.trans (congrArg some (by kernel_rfl))
  f210 := Tryd.func21.trans (congrArg some (by kernel_rfl))
  t3 := Tryd.underlying3
  a3 := Tryd.isAgg3
  z3 := Tryd.sizeOf3
  v3 := Tryd.zeroValue3
  t4 := Tryd.underlying4
  a4 := Tryd.isAgg4
  z4 := Tryd.sizeOf4
  v4 := Tryd.zeroValue4
  t9 := Tryd.underlying9
  a9 := Tryd.isAgg9
  z9 := Tryd.sizeOf9
  v9 := Tryd.zeroValue9
  t24 := Tryd.underlying29
  a24 := Tryd.isAgg29
  z24 := Tryd.sizeOf29
  v24 := Tryd.zeroValue29 }
open Go.RowKit in
/-- strings.CutPrefix: "CutPrefix returns s without the provided leading prefix string and reports whether it found the prefix. If s doesn't start with prefix, CutPrefix returns s, false. If prefix is the empty string, CutPrefix returns s, true.": IT RETURNS '(Lib.trimPrefix s p, Lib.hasPrefix s p)'; the world is as it was. (LAID: no walk: one application.) -/
theorem Tryd.strings_CutPrefix (s p : ByteArray) (w : World) :
    Calls Tryd.prog 17 #[.string s, .string p] w fun e w' => e = .returned (.tuple #[.string ⟨(Lib.trimPrefix s.data.toList p.data.toList).toArray⟩, .bool (Lib.hasPrefix s.data.toList p.data.toList)]) ∧ w' = w := Any.strings_CutPrefix Tryd.lays103 s p w
def Tryd.lays206_ren : Go.Shelf.Ren := ⟨fun | 206 => 22 | n => n, fun | 9 => 9 | 4 => 4 | 3 => 3 | n => n, fun | n => n⟩
theorem Tryd.lays206 : Go.Proofs.Lays.n206 Tryd.prog Tryd.lays206_ren := {
  mixed := by kernel_rfl
  f206 := Tryd.func22.trans (congrArg some (by kernel_rfl))
  t3 := Tryd.underlying3
  a3 := Tryd.isAgg3
  z3 := Tryd.sizeOf3
  v3 := Tryd.zeroValue3
  t4 := Tryd.underlying4
  a4 := Tryd.isAgg4
  z4 := Tryd.sizeOf4
  v4 := Tryd.zeroValue4
  t9 := Tryd.underlying9
  a9 := Tryd.isAgg9
  z9 := Tryd.sizeOf9
  v9 := Tryd.zeroValue9 }
open Go.RowKit Go.Lib in
/-- internal/stringslite.HasPrefix (what strings.HasPrefix calls). (LAID: no walk: one application.) -/
theorem Tryd.stringslite_HasPrefix (s p : ByteArray) (w : World) :
    Calls Tryd.prog 22 #[.string s, .string p] w fun e w' => e = .returned (.bool (Lib.hasPrefix s.data.toList p.data.toList)) ∧ w' = w := Any.stringslite_HasPrefix Tryd.lays206 s p w
def Tryd.lays99_ren : Go.Shelf.Ren := ⟨fun | 99 => 18 | 206 => 22 | n => n, fun | 9 => 9 | 4 => 4 | 3 => 3 | n => n, fun | n => n⟩
theorem Tryd.lays99 : Go.Proofs.Lays.n99 Tryd.prog Tryd.lays99_ren := {
  mixed := by kernel_rfl
  f99 := Tryd.func18.trans (congrArg some (by kernel_rfl))
  f206 := Tryd.func22.trans (congrArg some (by kernel_rfl))
  t3 := Tryd.underlying3
  a3 := Tryd.isAgg3
  z3 := Tryd.sizeOf3
  v3 := Tryd.zeroValue3
  t4 := Tryd.underlying4
  a4 := Tryd.isAgg4
  z4 := Tryd.sizeOf4
  v4 := Tryd.zeroValue4
  t9 := Tryd.underlying9
  a9 := Tryd.isAgg9
  z9 := Tryd.sizeOf9
  v9 := Tryd.zeroValue9 }
open Go.RowKit Go.Lib in
/-- strings.HasPrefix: "HasPrefix reports whether the string s begins with prefix.": IT RETURNS 'Lib.hasPrefix s prefix'; the world is as it was. (LAID: no walk: one application.) -/
theorem Tryd.strings_HasPrefix (s p : ByteArray) (w : World) :
    Calls Tryd.prog 18 #[.string s, .string p] w fun e w' => e = .returned (.bool (Lib.hasPrefix s.data.toList p.data.toList)) ∧ w' = w := Any.strings_HasPrefix Tryd.lays99 s p w
def Tryd.lays157_ren : Go.Shelf.Ren := ⟨fun | 157 => 16 | 229 => 19 | 199 => 20 | 261 => 23 | 311 => 24 | 312 => 25 | n => n, fun | 9 => 9 | 31 => 22 | 3 => 3 | 5 => 5 | 4 => 4 | 119 => 44 | 0 => 0 | 40 => 46 | 152 => 47 | 21 => 21 | 154 => 49 | 51 => 50 | 141 => 52 | 196 => 56 | 193 => 53 | 198 => 59 | 49 => 57 | 194 => 54 | 201 => 62 | 226 => 64 | 46 => 65 | 227 => 66 | n => n, fun | 0 => 0 | 6 => 1 | n => n⟩
theorem Tryd.lays157 : Go.Proofs.Lays.n157 Tryd.prog Tryd.lays157_ren := {
  mixed := by kernel_rfl
  f157 := Tryd.func16.trans (congrArg some (by kernel_rfl))
  f199 := Tryd.func20.trans (congrArg some (by kernel_rfl))
  f229 := Tryd.func19.trans (congrArg some (by kernel_rfl))
  f261 := Tryd.func23.trans (congrArg some (by kernel_rfl))
  f311 := Tryd.func24.trans (congrArg some (by kernel_rfl))
  f312 := Tryd.func25.trans (congrArg some (by kernel_rfl))
  t0 := Tryd.underlying0
  a0 := Tryd.isAgg0
  z0 := Tryd.sizeOf0
  v0 := Tryd.zeroValue0
  t3 := Tryd.underlying3
  a3 := Tryd.isAgg3
  z3 := Tryd.sizeOf3
  v3 := Tryd.zeroValue3
  t4 := Tryd.underlying4
  a4 := Tryd.isAgg4
  z4 := Tryd.sizeOf4
  v4 := Tryd.zeroValue4
  t5 := Tryd.underlying5
  a5 := Tryd.isAgg5
  z5 := Tryd.sizeOf5
  v5 := Tryd.zeroValue5
  t9 := Tryd.underlying9
  a9 := Tryd.isAgg9
  z9 := Tryd.sizeOf9
  v9 := Tryd.zeroValue9
  t21 := Tryd.underlying21
  a21 := Tryd.isAgg21
  z21 := Tryd.sizeOf21
  v21 := Tryd.zeroValue21
  t31 := Tryd.underlying22
  a31 := Tryd.isAgg22
  z31 := Tryd.sizeOf22
  v31 := Tryd.zeroValue22
  t40 := Tryd.underlying46
  a40 := Tryd.isAgg46
  z40 := Tryd.sizeOf46
  v40 := Tryd.zeroValue46
  t46 := Tryd.underlying65
  a46 := Tryd.isAgg65
  z46 := Tryd.sizeOf65
  v46 := Tryd.zeroValue65
  t49 := Tryd.underlying57
  a49 := Tryd.isAgg57
  z49 := Tryd.sizeOf57
  v49 := Tryd.zeroValue57
  t51 := Tryd.underlying50
  a51 := Tryd.isAgg50
  z51 := Tryd.sizeOf50
  v51 := Tryd.zeroValue50
  t119 := Tryd.underlying44
  a119 := Tryd.isAgg44
  z119 := Tryd.sizeOf44
  t141 := Tryd.underlying52
  a141 := Tryd.isAgg52
  z141 := Tryd.sizeOf52
  v141 := Tryd.zeroValue52
  t152 := Tryd.underlying47
  a152 := Tryd.isAgg47
  z152 := Tryd.sizeOf47
  v152 := Tryd.zeroValue47
  t154 := Tryd.underlying49
  a154 := Tryd.isAgg49
  z154 := Tryd.sizeOf49
  v154 := Tryd.zeroValue49
  t193 := Tryd.underlying53
  a193 := Tryd.isAgg53
  z193 := Tryd.sizeOf53
  v193 := Tryd.zeroValue53
  t194 := Tryd.underlying54
  a194 := Tryd.isAgg54
  z194 := Tryd.sizeOf54
  v194 := Tryd.zeroValue54
  t196 := Tryd.underlying56
  a196 := Tryd.isAgg56
  z196 := Tryd.sizeOf56
  v196 := Tryd.zeroValue56
  t198 := Tryd.underlying59
  a198 := Tryd.isAgg59
  z198 := Tryd.sizeOf59
  v198 := Tryd.zeroValue59
  t201 := Tryd.underlying62
  a201 := Tryd.isAgg62
  z201 := Tryd.sizeOf62
  v201 := Tryd.zeroValue62
  t226 := Tryd.underlying64
  a226 := Tryd.isAgg64
  z226 := Tryd.sizeOf64
  v226 := Tryd.zeroValue64
  t227 := Tryd.underlying66
  a227 := Tryd.isAgg66
  z227 := Tryd.sizeOf66
  v227 := Tryd.zeroValue66
  g0 := by kernel_rfl
  g6 := by kernel_rfl }
open Go.RowKit Go.Lib in
/-- strings.Fields, the table by 'Lib.TabIs' (as strings.TrimSpace's contract). 'hg': the table's number, by its name: at a dump 'by kernel_rfl'. (LAID: no walk: one application.) -/
theorem Tryd.strings_Fields (s : ByteArray) (w : World) (hs : s.size < 4294967281) (hascii : ∀ (j : Nat) b, s.data.toList[j]? = some b → b.toNat < 128) (htab : Lib.TabIs Tryd.prog w "strings.asciiSpace" .u8 Lib.asciiSpaceTab) :
    Calls Tryd.prog 16 #[.string s] w fun e w' =>
      e = .returned (.slice (some ⟨w.heap.size, 0, none⟩) (Lib.fields s.data.toList).length (Lib.fields s.data.toList).length) ∧ w' = w.alloc (.cells ((Lib.fields s.data.toList).map fun l => Value.string ⟨l.toArray⟩).toArray 9) := Any.strings_Fields Tryd.lays157 (by kernel_rfl) (by kernel_rfl) s w hs hascii htab
def Tryd.lays199_ren : Go.Shelf.Ren := ⟨fun | 199 => 20 | 261 => 23 | 311 => 24 | 312 => 25 | n => n, fun | 21 => 21 | 4 => 4 | 51 => 50 | 141 => 52 | 0 => 0 | 196 => 56 | 193 => 53 | 3 => 3 | 198 => 59 | 49 => 57 | 194 => 54 | 201 => 62 | 226 => 64 | 46 => 65 | 227 => 66 | n => n, fun | 6 => 1 | n => n⟩
theorem Tryd.lays199 : Go.Proofs.Lays.n199 Tryd.prog Tryd.lays199_ren := {
  mixed := by kernel_rfl
  f199 := Tryd.func20.trans (congrArg some (by kernel_rfl))
  f261 := Tryd.func23.trans (congrArg some (by kernel_rfl))
  f311 := Tryd.func24.trans (congrArg some (by kernel_rfl))
  f312 := Tryd.func25.trans (congrArg some (by kernel_rfl))
  t0 := Tryd.underlying0
  a0 := Tryd.isAgg0
  z0 := Tryd.sizeOf0
  v0 := Tryd.zeroValue0
  t3 := Tryd.underlying3
  a3 := Tryd.isAgg3
  z3 := Tryd.sizeOf3
  v3 := Tryd.zeroValue3
  t4 := Tryd.underlying4
  a4 := Tryd.isAgg4
  z4 := Tryd.sizeOf4
  v4 := Tryd.zeroValue4
  t21 := Tryd.underlying21
  a21 := Tryd.isAgg21
  z21 := Tryd.sizeOf21
  v21 := Tryd.zeroValue21
  t46 := Tryd.underlying65
  a46 := Tryd.isAgg65
  z46 := Tryd.sizeOf65
  v46 := Tryd.zeroValue65
  t49 := Tryd.underlying57
  a49 := Tryd.isAgg57
  z49 := Tryd.sizeOf57
  v49 := Tryd.zeroValue57
  t51 := Tryd.underlying50
  a51 := Tryd.isAgg50
  z51 := Tryd.sizeOf50
  v51 := Tryd.zeroValue50
  t141 := Tryd.underlying52
  a141 := Tryd.isAgg52
  z141 := Tryd.sizeOf52
  v141 := Tryd.zeroValue52
  t193 := Tryd.underlying53
  a193 := Tryd.isAgg53
  z193 := Tryd.sizeOf53
  v193 := Tryd.zeroValue53
  t194 := Tryd.underlying54
  a194 := Tryd.isAgg54
  z194 := Tryd.sizeOf54
  v194 := Tryd.zeroValue54
  t196 := Tryd.underlying56
  a196 := Tryd.isAgg56
  z196 := Tryd.sizeOf56
  v196 := Tryd.zeroValue56
  t198 := Tryd.underlying59
  a198 := Tryd.isAgg59
  z198 := Tryd.sizeOf59
  v198 := Tryd.zeroValue59
  t201 := Tryd.underlying62
  a201 := Tryd.isAgg62
  z201 := Tryd.sizeOf62
  v201 := Tryd.zeroValue62
  t226 := Tryd.underlying64
  a226 := Tryd.isAgg64
  z226 := Tryd.sizeOf64
  v226 := Tryd.zeroValue64
  t227 := Tryd.underlying66
  a227 := Tryd.isAgg66
  z227 := Tryd.sizeOf66
  v227 := Tryd.zeroValue66
  g6 := by kernel_rfl }
open Go.RowKit Go.Lib in
theorem Tryd.unicode_IsSpace (r : Int) (w : World) (h0 : 0 ≤ r) (h : r ≤ 255) :
    Calls Tryd.prog 20 #[.int .i32 r] w fun e w' => e = .returned (.bool (Lib.isSpaceL r)) ∧ w' = w := Any.unicode_IsSpace Tryd.lays199 r w h0 h
def Tryd.lays311_ren : Go.Shelf.Ren := ⟨fun | 311 => 24 | n => n, fun | 193 => 53 | 49 => 57 | 4 => 4 | 3 => 3 | 0 => 0 | 226 => 64 | 198 => 59 | 46 => 65 | n => n, fun | n => n⟩
theorem Tryd.lays311 : Go.Proofs.Lays.n311 Tryd.prog Tryd.lays311_ren := {
  mixed := by kernel_rfl
  f311 := Tryd.func24.trans (congrArg some (by kernel_rfl))
  t0 := Tryd.underlying0
  a0 := Tryd.isAgg0
  z0 := Tryd.sizeOf0
  v0 := Tryd.zeroValue0
  t3 := Tryd.underlying3
  a3 := Tryd.isAgg3
  z3 := Tryd.sizeOf3
  v3 := Tryd.zeroValue3
  t4 := Tryd.underlying4
  a4 := Tryd.isAgg4
  z4 := Tryd.sizeOf4
  v4 := Tryd.zeroValue4
  t46 := Tryd.underlying65
  a46 := Tryd.isAgg65
  z46 := Tryd.sizeOf65
  v46 := Tryd.zeroValue65
  t49 := Tryd.underlying57
  a49 := Tryd.isAgg57
  z49 := Tryd.sizeOf57
  v49 := Tryd.zeroValue57
  t193 := Tryd.underlying53
  a193 := Tryd.isAgg53
  z193 := Tryd.sizeOf53
  v193 := Tryd.zeroValue53
  t198 := Tryd.underlying59
  a198 := Tryd.isAgg59
  z198 := Tryd.sizeOf59
  v198 := Tryd.zeroValue59
  t226 := Tryd.underlying64
  a226 := Tryd.isAgg64
  z226 := Tryd.sizeOf64
  v226 := Tryd.zeroValue64 }
open Go.RowKit Go.Lib in
theorem Tryd.unicode_is16_white (R oR : Nat) (z : Nat) (w : World) (hz : z < 65536) (hz0 : 255 < z) (c6 : w.cell? ⟨R, oR + 6, none⟩ = some (.int .u16 160)) (c7 : w.cell? ⟨R, oR + 7, none⟩ = some (.int .u16 5760)) (c8 : w.cell? ⟨R, oR + 8, none⟩ = some (.int .u16 5600)) (c9 : w.cell? ⟨R, oR + 9, none⟩ = some (.int .u16 8192)) (c10 : w.cell? ⟨R, oR + 10, none⟩ = some (.int .u16 8202)) (c11 : w.cell? ⟨R, oR + 11, none⟩ = some (.int .u16 1)) (c12 : w.cell? ⟨R, oR + 12, none⟩ = some (.int .u16 8232)) (c13 : w.cell? ⟨R, oR + 13, none⟩ = some (.int .u16 8233)) (c14 : w.cell? ⟨R, oR + 14, none⟩ = some (.int .u16 1)) (c15 : w.cell? ⟨R, oR + 15, none⟩ = some (.int .u16 8239)) (c16 : w.cell? ⟨R, oR + 16, none⟩ = some (.int .u16 8287)) (c17 : w.cell? ⟨R, oR + 17, none⟩ = some (.int .u16 48)) (c18 : w.cell? ⟨R, oR + 18, none⟩ = some (.int .u16 12288)) (c19 : w.cell? ⟨R, oR + 19, none⟩ = some (.int .u16 12288)) (c20 : w.cell? ⟨R, oR + 20, none⟩ = some (.int .u16 1)) :
    Calls Tryd.prog 24 #[.slice (some ⟨R, oR + 6, none⟩) 5 5, .int .u16 z] w fun e w' => e = .returned (.bool (Lib.isSpaceR z)) ∧ Below w.heap.size w w' := Any.unicode_is16_white Tryd.lays311 R oR z w hz hz0 c6 c7 c8 c9 c10 c11 c12 c13 c14 c15 c16 c17 c18 c19 c20
def Tryd.lays261_ren : Go.Shelf.Ren := ⟨fun | 261 => 23 | 311 => 24 | 312 => 25 | n => n, fun | 141 => 52 | 21 => 21 | 4 => 4 | 0 => 0 | 196 => 56 | 193 => 53 | 3 => 3 | 51 => 50 | 198 => 59 | 49 => 57 | 194 => 54 | 201 => 62 | 226 => 64 | 46 => 65 | 227 => 66 | n => n, fun | n => n⟩
theorem Tryd.lays261 : Go.Proofs.Lays.n261 Tryd.prog Tryd.lays261_ren := {
  mixed := by kernel_rfl
  f261 := Tryd.func23.trans (congrArg some (by kernel_rfl))
  f311 := Tryd.func24.trans (congrArg some (by kernel_rfl))
  f312 := Tryd.func25.trans (congrArg some (by kernel_rfl))
  t0 := Tryd.underlying0
  a0 := Tryd.isAgg0
  z0 := Tryd.sizeOf0
  v0 := Tryd.zeroValue0
  t3 := Tryd.underlying3
  a3 := Tryd.isAgg3
  z3 := Tryd.sizeOf3
  v3 := Tryd.zeroValue3
  t4 := Tryd.underlying4
  a4 := Tryd.isAgg4
  z4 := Tryd.sizeOf4
  v4 := Tryd.zeroValue4
  t21 := Tryd.underlying21
  a21 := Tryd.isAgg21
  z21 := Tryd.sizeOf21
  v21 := Tryd.zeroValue21
  t46 := Tryd.underlying65
  a46 := Tryd.isAgg65
  z46 := Tryd.sizeOf65
  v46 := Tryd.zeroValue65
  t49 := Tryd.underlying57
  a49 := Tryd.isAgg57
  z49 := Tryd.sizeOf57
  v49 := Tryd.zeroValue57
  t51 := Tryd.underlying50
  a51 := Tryd.isAgg50
  z51 := Tryd.sizeOf50
  v51 := Tryd.zeroValue50
  t141 := Tryd.underlying52
  a141 := Tryd.isAgg52
  z141 := Tryd.sizeOf52
  v141 := Tryd.zeroValue52
  t193 := Tryd.underlying53
  a193 := Tryd.isAgg53
  z193 := Tryd.sizeOf53
  v193 := Tryd.zeroValue53
  t194 := Tryd.underlying54
  a194 := Tryd.isAgg54
  z194 := Tryd.sizeOf54
  v194 := Tryd.zeroValue54
  t196 := Tryd.underlying56
  a196 := Tryd.isAgg56
  z196 := Tryd.sizeOf56
  v196 := Tryd.zeroValue56
  t198 := Tryd.underlying59
  a198 := Tryd.isAgg59
  z198 := Tryd.sizeOf59
  v198 := Tryd.zeroValue59
  t201 := Tryd.underlying62
  a201 := Tryd.isAgg62
  z201 := Tryd.sizeOf62
  v201 := Tryd.zeroValue62
  t226 := Tryd.underlying64
  a226 := Tryd.isAgg64
  z226 := Tryd.sizeOf64
  v226 := Tryd.zeroValue64
  t227 := Tryd.underlying66
  a227 := Tryd.isAgg66
  z227 := Tryd.sizeOf66
  v227 := Tryd.zeroValue66 }
open Go.RowKit Go.Lib in
/-- unicode.isExcludingLatin(White_Space, r), r beyond U+00FF or negative. (LAID: no walk: one application.) -/
theorem Tryd.unicode_isExcludingLatin_white (T oT R oR : Nat) (r : Int) (w : World) (hlo : -2147483648 ≤ r) (hhi : r ≤ 2147483647) (hr : r < 0 ∨ 255 < r) (h2 : w.cell? ⟨T, oT, none⟩ = some (.slice (some ⟨R, oR, none⟩) 7 7)) (h3 : w.cell? ⟨T, oT + 1, none⟩ = some (.slice none 0 0)) (h4 : w.cell? ⟨T, oT + 2, none⟩ = some (.int .i64 2)) (h5 : ∀ i, i < 21 → w.cell? ⟨R, oR + i, none⟩ = some (.int .u16 (whiteT.getD i 0))) :
    Calls Tryd.prog 23 #[.pointer (some ⟨T, oT, none⟩), .int .i32 r] w fun e w' => e = .returned (.bool (Lib.isSpaceZ r)) ∧ Below w.heap.size w w' := Any.unicode_isExcludingLatin_white Tryd.lays261 T oT R oR r w hlo hhi hr h2 h3 h4 h5
open Go.RowKit Go.Lib in
/-- **unicode.IsSpace AT EVERY int32.** (LAID: no walk: one application.) -/
theorem Tryd.unicode_IsSpace_any (r : Int) (w : World) (hlo : -2147483648 ≤ r) (hhi : r ≤ 2147483647) (hW : Lib.WhiteTab 1 w) :
    Calls Tryd.prog 20 #[.int .i32 r] w fun e w' => e = .returned (.bool (Lib.isSpaceZ r)) ∧ Below w.heap.size w w' := Any.unicode_IsSpace_any Tryd.lays199 r w hlo hhi hW
open Go.RowKit Go.Lib in
theorem Tryd.unicode_is16_white_d (R oR : Nat) (z : Nat) (w : World) (hz : z < 65536) (hz0 : 255 < z) (c6 : w.cell? ⟨R, oR + 6, none⟩ = some (.int .u16 160)) (c7 : w.cell? ⟨R, oR + 7, none⟩ = some (.int .u16 5760)) (c8 : w.cell? ⟨R, oR + 8, none⟩ = some (.int .u16 5600)) (c9 : w.cell? ⟨R, oR + 9, none⟩ = some (.int .u16 8192)) (c10 : w.cell? ⟨R, oR + 10, none⟩ = some (.int .u16 8202)) (c11 : w.cell? ⟨R, oR + 11, none⟩ = some (.int .u16 1)) (c12 : w.cell? ⟨R, oR + 12, none⟩ = some (.int .u16 8232)) (c13 : w.cell? ⟨R, oR + 13, none⟩ = some (.int .u16 8233)) (c14 : w.cell? ⟨R, oR + 14, none⟩ = some (.int .u16 1)) (c15 : w.cell? ⟨R, oR + 15, none⟩ = some (.int .u16 8239)) (c16 : w.cell? ⟨R, oR + 16, none⟩ = some (.int .u16 8287)) (c17 : w.cell? ⟨R, oR + 17, none⟩ = some (.int .u16 48)) (c18 : w.cell? ⟨R, oR + 18, none⟩ = some (.int .u16 12288)) (c19 : w.cell? ⟨R, oR + 19, none⟩ = some (.int .u16 12288)) (c20 : w.cell? ⟨R, oR + 20, none⟩ = some (.int .u16 1)) :
    Calls Tryd.prog 24 #[.slice (some ⟨R, oR + 6, none⟩) 5 5, .int .u16 z] w fun e w' => e = .returned (.bool (Lib.isSpaceR z)) ∧ ∃ q, w' = w.drewN q := Any.unicode_is16_white_d Tryd.lays311 R oR z w hz hz0 c6 c7 c8 c9 c10 c11 c12 c13 c14 c15 c16 c17 c18 c19 c20
open Go.RowKit Go.Lib in
/-- unicode.isExcludingLatin(White_Space, r), r beyond U+00FF or negative. (LAID: no walk: one application.) -/
theorem Tryd.unicode_isExcludingLatin_white_d (T oT R oR : Nat) (r : Int) (w : World) (hlo : -2147483648 ≤ r) (hhi : r ≤ 2147483647) (hr : r < 0 ∨ 255 < r) (h2 : w.cell? ⟨T, oT, none⟩ = some (.slice (some ⟨R, oR, none⟩) 7 7)) (h3 : w.cell? ⟨T, oT + 1, none⟩ = some (.slice none 0 0)) (h4 : w.cell? ⟨T, oT + 2, none⟩ = some (.int .i64 2)) (h5 : ∀ i, i < 21 → w.cell? ⟨R, oR + i, none⟩ = some (.int .u16 (whiteT.getD i 0))) :
    Calls Tryd.prog 23 #[.pointer (some ⟨T, oT, none⟩), .int .i32 r] w fun e w' => e = .returned (.bool (Lib.isSpaceZ r)) ∧ ∃ q, w' = w.drewN q := Any.unicode_isExcludingLatin_white_d Tryd.lays261 T oT R oR r w hlo hhi hr h2 h3 h4 h5
open Go.RowKit Go.Lib in
/-- **unicode.IsSpace AT EVERY int32.** (LAID: no walk: one application.) -/
theorem Tryd.unicode_IsSpace_any_d (r : Int) (w : World) (hlo : -2147483648 ≤ r) (hhi : r ≤ 2147483647) (hW : Lib.WhiteTab 1 w) :
    Calls Tryd.prog 20 #[.int .i32 r] w fun e w' => e = .returned (.bool (Lib.isSpaceZ r)) ∧ ∃ q, w' = w.drewN q := Any.unicode_IsSpace_any_d Tryd.lays199 r w hlo hhi hW
open Go.RowKit Go.Lib in
theorem Tryd.strings_Fields_beyond (s : ByteArray) (w : World) (hs : s.size < 4294967281) (hhigh : ∃ (j : Nat) (b : UInt8), s.data.toList[j]? = some b ∧ 128 ≤ b.toNat) (hT : ∀ c : Nat, c < 256 → w.cell? ⟨0, c, none⟩ = some (.int .u8 (if Lib.isSp (UInt8.ofNat c) then 1 else 0))) (hW : Lib.WhiteTab 1 w) :
    Calls Tryd.prog 16 #[.string s] w fun e w' => ∃ A, e = .returned (.slice (some ⟨A, 0, none⟩) (Lib.goFieldsP Lib.isSpaceR s).length (Lib.goFieldsP Lib.isSpaceR s).length) ∧ w.heap.size ≤ A ∧
      w'.ownsRow w.heap.size 9 1 (.slice (some ⟨A, 0, none⟩) (Lib.goFieldsP Lib.isSpaceR s).length (Lib.goFieldsP Lib.isSpaceR s).length) (Lib.goFieldsP Lib.isSpaceR s).length ((Lib.goFieldsP Lib.isSpaceR s).map Value.string) ∧ Below w.heap.size w w' := Any.strings_Fields_beyond Tryd.lays157 (by kernel_rfl) (by kernel_rfl) s w hs hhigh hT hW
open Go.RowKit Go.Lib in
/-- **strings.Fields AT EVERY STRING, VALID UTF-8 OR NOT.** (LAID: no walk: one application.) -/
theorem Tryd.strings_Fields_any (s : ByteArray) (w : World) (hs : s.size < 4294967281) (htab : Lib.TabIs Tryd.prog w "strings.asciiSpace" .u8 Lib.asciiSpaceTab) (hW : Lib.WhiteTab 1 w) :
    Calls Tryd.prog 16 #[.string s] w fun e w' => ∃ A, e = .returned (.slice (some ⟨A, 0, none⟩) (Lib.fieldsD s.data.toList).length (Lib.fieldsD s.data.toList).length) ∧ w.heap.size ≤ A ∧
      w'.ownsRow w.heap.size 9 1 (.slice (some ⟨A, 0, none⟩) (Lib.fieldsD s.data.toList).length (Lib.fieldsD s.data.toList).length) (Lib.fieldsD s.data.toList).length ((Lib.fieldsD s.data.toList).map fun x => Value.string ⟨x.toArray⟩) ∧ Below w.heap.size w w' := Any.strings_Fields_any Tryd.lays157 (by kernel_rfl) (by kernel_rfl) (by kernel_rfl) s w hs htab hW
def Tryd.lays229_ren : Go.Shelf.Ren := ⟨fun | 229 => 19 | n => n, fun | 9 => 9 | 40 => 46 | 31 => 22 | 152 => 47 | 3 => 3 | 0 => 0 | 4 => 4 | 21 => 21 | 154 => 49 | n => n, fun | n => n⟩
theorem Tryd.lays229 : Go.Proofs.Lays.n229 Tryd.prog Tryd.lays229_ren := {
  mixed := by kernel_rfl
  f229 := Tryd.func19.trans (congrArg some (by kernel_rfl))
  t0 := Tryd.underlying0
  a0 := Tryd.isAgg0
  z0 := Tryd.sizeOf0
  v0 := Tryd.zeroValue0
  t3 := Tryd.underlying3
  a3 := Tryd.isAgg3
  z3 := Tryd.sizeOf3
  v3 := Tryd.zeroValue3
  t4 := Tryd.underlying4
  a4 := Tryd.isAgg4
  z4 := Tryd.sizeOf4
  v4 := Tryd.zeroValue4
  t9 := Tryd.underlying9
  a9 := Tryd.isAgg9
  z9 := Tryd.sizeOf9
  v9 := Tryd.zeroValue9
  t21 := Tryd.underlying21
  a21 := Tryd.isAgg21
  z21 := Tryd.sizeOf21
  v21 := Tryd.zeroValue21
  t31 := Tryd.underlying22
  a31 := Tryd.isAgg22
  z31 := Tryd.sizeOf22
  v31 := Tryd.zeroValue22
  t40 := Tryd.underlying46
  a40 := Tryd.isAgg46
  z40 := Tryd.sizeOf46
  v40 := Tryd.zeroValue46
  t152 := Tryd.underlying47
  a152 := Tryd.isAgg47
  z152 := Tryd.sizeOf47
  v152 := Tryd.zeroValue47
  t154 := Tryd.underlying49
  a154 := Tryd.isAgg49
  z154 := Tryd.sizeOf49
  v154 := Tryd.zeroValue49 }
open Go.RowKit Go.Lib in
theorem Tryd.strings_FieldsFunc_runes (g : Nat) (lb : Array Value) (eg : ∀ args w, (callFunc g args).run Tryd.prog w = .ok (.enter g args) w) (p : Nat → Bool) (s : ByteArray) (w : World) (hs : s.size ≤ 4294967296) (hp : PredAtRunes Tryd.prog g lb p w) :
    Calls Tryd.prog 19 #[.string s, .func (.func g) #[] lb] w fun e w' => ∃ A, e = .returned (.slice (some ⟨A, 0, none⟩) (Lib.goFieldsP p s).length (Lib.goFieldsP p s).length) ∧ w.heap.size ≤ A ∧
      w'.ownsRow w.heap.size 9 1 (.slice (some ⟨A, 0, none⟩) (Lib.goFieldsP p s).length (Lib.goFieldsP p s).length) (Lib.goFieldsP p s).length ((Lib.goFieldsP p s).map Value.string) ∧ Below w.heap.size w w' := Any.strings_FieldsFunc_runes Tryd.lays229 g lb eg p s w hs hp (by kernel_rfl) (by kernel_rfl)
open Go.RowKit Go.Lib in
/-- .. over a hand of the authors' house's premise as it stands. (LAID: no walk: one application.) -/
theorem Tryd.strings_FieldsFunc (g : Nat) (lb : Array Value) (eg : ∀ args w, (callFunc g args).run Tryd.prog w = .ok (.enter g args) w) (p : Nat → Bool) (s : ByteArray) (w : World) (hs : s.size ≤ 4294967296) (hp : PredAt Tryd.prog g lb encR p w) :
    Calls Tryd.prog 19 #[.string s, .func (.func g) #[] lb] w fun e w' => ∃ A, e = .returned (.slice (some ⟨A, 0, none⟩) (Lib.goFieldsP p s).length (Lib.goFieldsP p s).length) ∧ w.heap.size ≤ A ∧
      w'.ownsRow w.heap.size 9 1 (.slice (some ⟨A, 0, none⟩) (Lib.goFieldsP p s).length (Lib.goFieldsP p s).length) (Lib.goFieldsP p s).length ((Lib.goFieldsP p s).map Value.string) ∧ Below w.heap.size w w' := Any.strings_FieldsFunc Tryd.lays229 g lb eg p s w hs hp (by kernel_rfl) (by kernel_rfl)
open Go.RowKit Go.Lib in
theorem Tryd.unicode_is16_any (T : Array Rg) (R oR cap : Nat) (z : Nat) (w : World) (hz : z < 65536) (hT : RgTab .u16 R oR T w) (hok : RgOk 65536 T) (hn : T.size ≤ 1000000000) :
    Calls Tryd.prog 24 #[.slice (some ⟨R, oR, none⟩) T.size cap, .int .u16 z] w fun e w' => e = .returned (.bool (is16Go T z)) ∧ ∃ q, w' = w.drewN q := Any.unicode_is16_any Tryd.lays311 T R oR cap z w hz hT hok hn
def Tryd.lays312_ren : Go.Shelf.Ren := ⟨fun | 312 => 25 | n => n, fun | 194 => 54 | 51 => 50 | 4 => 4 | 3 => 3 | 0 => 0 | 227 => 66 | 201 => 62 | 46 => 65 | n => n, fun | n => n⟩
theorem Tryd.lays312 : Go.Proofs.Lays.n312 Tryd.prog Tryd.lays312_ren := {
  mixed := by kernel_rfl
  f312 := Tryd.func25.trans (congrArg some (by kernel_rfl))
  t0 := Tryd.underlying0
  a0 := Tryd.isAgg0
  z0 := Tryd.sizeOf0
  v0 := Tryd.zeroValue0
  t3 := Tryd.underlying3
  a3 := Tryd.isAgg3
  z3 := Tryd.sizeOf3
  v3 := Tryd.zeroValue3
  t4 := Tryd.underlying4
  a4 := Tryd.isAgg4
  z4 := Tryd.sizeOf4
  v4 := Tryd.zeroValue4
  t46 := Tryd.underlying65
  a46 := Tryd.isAgg65
  z46 := Tryd.sizeOf65
  v46 := Tryd.zeroValue65
  t51 := Tryd.underlying50
  a51 := Tryd.isAgg50
  z51 := Tryd.sizeOf50
  v51 := Tryd.zeroValue50
  t194 := Tryd.underlying54
  a194 := Tryd.isAgg54
  z194 := Tryd.sizeOf54
  v194 := Tryd.zeroValue54
  t201 := Tryd.underlying62
  a201 := Tryd.isAgg62
  z201 := Tryd.sizeOf62
  v201 := Tryd.zeroValue62
  t227 := Tryd.underlying66
  a227 := Tryd.isAgg66
  z227 := Tryd.sizeOf66
  v227 := Tryd.zeroValue66 }
open Go.RowKit Go.Lib in
theorem Tryd.unicode_is32_any (T : Array Rg) (R oR cap : Nat) (z : Nat) (w : World) (hz : z < 4294967296) (hT : RgTab .u32 R oR T w) (hok : RgOk 4294967296 T) (hn : T.size ≤ 1000000000) :
    Calls Tryd.prog 25 #[.slice (some ⟨R, oR, none⟩) T.size cap, .int .u32 z] w fun e w' => e = .returned (.bool (is32Go T z)) ∧ Below w.heap.size w w' := Any.unicode_is32_any Tryd.lays312 T R oR cap z w hz hT hok hn
open Go.RowKit Go.Lib in
theorem Tryd.unicode_isExcludingLatin_any (Tb oT : Nat) (T : RTab) (r : Int) (w : World) (hlo : -2147483648 ≤ r) (hhi : r ≤ 2147483647) (hA : RTabAt Tb oT T w) (hok : RTabOk T) :
    Calls Tryd.prog 23 #[.pointer (some ⟨Tb, oT, none⟩), .int .i32 r] w fun e w' => e = .returned (.bool (exclGo T r)) ∧ Below w.heap.size w w' := Any.unicode_isExcludingLatin_any Tryd.lays261 Tb oT T r w hlo hhi hA hok
end Go.Proofs
