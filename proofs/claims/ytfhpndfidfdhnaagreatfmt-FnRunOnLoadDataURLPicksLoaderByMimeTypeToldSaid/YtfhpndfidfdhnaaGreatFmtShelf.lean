/- Three contracts of Go's library at this translation: strings.HasPrefix, strings.HasSuffix, strings.IndexByte. Written by the kit's lay-plain program. -/
import Derived.Shelf.Strings.Prefix
import Derived.Shelf.Small.Strs
import Derived.Test.YtfhpndfidfdhnaaGreatFmtProg
namespace Go.Proofs
open Go.Shelf
def Tryz.lays137_ren : Go.Shelf.Ren := ⟨fun | 137 => 31 | 217 => 44 | 266 => 66 | n => n, fun | 9 => 9 | 5 => 5 | 3 => 3 | n => n, fun | n => n⟩
theorem Tryz.lays137 : Go.Proofs.Lays.n137 Tryz.prog Tryz.lays137_ren := {
  mixed := by kernel_rfl
  f137 := Tryz.func31.trans (congrArg some (by kernel_rfl))
  f217 := Tryz.func44.trans (congrArg some (by kernel_rfl))
  f266 := Tryz.func66.trans (congrArg some (by kernel_rfl))
  t3 := Tryz.underlying3
  a3 := Tryz.isAgg3
  z3 := Tryz.sizeOf3
  v3 := Tryz.zeroValue3
  t5 := Tryz.underlying5
  a5 := Tryz.isAgg5
  z5 := Tryz.sizeOf5
  v5 := Tryz.zeroValue5
  t9 := Tryz.underlying9
  a9 := Tryz.isAgg9
  z9 := Tryz.sizeOf9
  v9 := Tryz.zeroValue9 }
def Tryz.lays99_ren : Go.Shelf.Ren := ⟨fun | 99 => 30 | 206 => 43 | n => n, fun | 9 => 9 | 4 => 4 | 3 => 3 | n => n, fun | n => n⟩
theorem Tryz.lays99 : Go.Proofs.Lays.n99 Tryz.prog Tryz.lays99_ren := {
  mixed := by kernel_rfl
  f99 := Tryz.func30.trans (congrArg some (by kernel_rfl))
  f206 := Tryz.func43.trans (congrArg some (by kernel_rfl))
  t3 := Tryz.underlying3
  a3 := Tryz.isAgg3
  z3 := Tryz.sizeOf3
  v3 := Tryz.zeroValue3
  t4 := Tryz.underlying4
  a4 := Tryz.isAgg4
  z4 := Tryz.sizeOf4
  v4 := Tryz.zeroValue4
  t9 := Tryz.underlying9
  a9 := Tryz.isAgg9
  z9 := Tryz.sizeOf9
  v9 := Tryz.zeroValue9 }
def Tryz.lays100_ren : Go.Shelf.Ren := ⟨fun | 100 => 32 | 207 => 45 | n => n, fun | 9 => 9 | 4 => 4 | 3 => 3 | n => n, fun | n => n⟩
theorem Tryz.lays100 : Go.Proofs.Lays.n100 Tryz.prog Tryz.lays100_ren := {
  mixed := by kernel_rfl
  f100 := Tryz.func32.trans (congrArg some (by kernel_rfl))
  f207 := Tryz.func45.trans (congrArg some (by kernel_rfl))
  t3 := Tryz.underlying3
  a3 := Tryz.isAgg3
  z3 := Tryz.sizeOf3
  v3 := Tryz.zeroValue3
  t4 := Tryz.underlying4
  a4 := Tryz.isAgg4
  z4 := Tryz.sizeOf4
  v4 := Tryz.zeroValue4
  t9 := Tryz.underlying9
  a9 := Tryz.isAgg9
  z9 := Tryz.sizeOf9
  v9 := Tryz.zeroValue9 }
theorem Tryz.strings_IndexByte (s : ByteArray) (c : Int) (w : World) :
    Calls Tryz.prog 31 #[.string s, .int .u8 c] w fun e w' => e = .returned (.int .i64 (Lib.indexByte s.data.toList c.toNat.toUInt8)) ∧ w' = w := Any.strings_IndexByte Tryz.lays137 s c w
theorem Tryz.strings_HasPrefix (s p : ByteArray) (w : World) :
    Calls Tryz.prog 30 #[.string s, .string p] w fun e w' => e = .returned (.bool (Lib.hasPrefix s.data.toList p.data.toList)) ∧ w' = w := Any.strings_HasPrefix Tryz.lays99 s p w
theorem Tryz.strings_HasSuffix (s p : ByteArray) (w : World) (hs : s.size ≤ 9223372036854775807) :
    Calls Tryz.prog 32 #[.string s, .string p] w fun e w' => e = .returned (.bool (Lib.hasSuffix s.data.toList p.data.toList)) ∧ w' = w := Any.strings_HasSuffix Tryz.lays100 s p w hs
end Go.Proofs
