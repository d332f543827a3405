/- Contracts of the data URL's functions: its parts, its type, its data. -/
import Derived.Test.YtfhpndfidfdhnaaGreatFmtShelf
import Derived.Test.YtfhpndfidfdhnaaGreatFmtText
import Derived.Test.YtfhpndfidfdhnaaGreatFmtWalkA
import Derived.WalkKit
import Derived.WalkLawsBesides
import Derived.WalkSpells
import Derived.Lib.Hide
import Derived.Outline
import Derived.Handy
import Derived.Deep.DeepFit
namespace Go.Proofs.YtfhpndfidfdhnaaGreatFmt
open Go.RowKit

set_option maxRecDepth 100000 in
set_option maxHeartbeats 1000000 in
theorem mime_css (d x : Value) (w : World) :
    Calls Tryz.prog 20 #[.agg #[.string (B css), d, x]] w fun e w' => e = .returned (.int .u8 1) ∧ w.alloc (.cells #[.string (B css), d, x] 100) = w' := by
  have q0 : (css == [116, 101, 120, 116, 47, 99, 115, 115]) = true := by decide
  have q1 : (css == [116, 101, 120, 116, 47, 106, 97, 118, 97, 115, 99, 114, 105, 112, 116]) = false := by decide
  have q2 : (css == [97, 112, 112, 108, 105, 99, 97, 116, 105, 111, 110, 47, 106, 115, 111, 110]) = false := by decide
  go_enter Tryz.func20, Tryz.ntmps20
  go_wp2_with fail
  refine (Tryz.strings_IndexByte _ _ _).mono ?_
  rintro e w' ⟨rfl, rfl⟩
  rw [show Lib.indexByte (B css).data.toList (59 : Int).toNat.toUInt8 = -1 by decide]
  go_wp2
  go_ret
  exact ⟨rfl, rfl⟩

set_option maxRecDepth 100000 in
set_option maxHeartbeats 1000000 in
theorem mime_css_chr (d x : Value) (w : World) :
    Calls Tryz.prog 20 #[.agg #[.string (B (css ++ chr)), d, x]] w fun e w' => e = .returned (.int .u8 1) ∧ w.alloc (.cells #[.string (B (css ++ chr)), d, x] 100) = w' := by
  have q0 : (css == [116, 101, 120, 116, 47, 99, 115, 115]) = true := by decide
  have q1 : (css == [116, 101, 120, 116, 47, 106, 97, 118, 97, 115, 99, 114, 105, 112, 116]) = false := by decide
  have q2 : (css == [97, 112, 112, 108, 105, 99, 97, 116, 105, 111, 110, 47, 106, 115, 111, 110]) = false := by decide
  have hx : (B (css ++ chr)).extract 0 8 = B css := ext_list (by rw [Lib.extract_data]; decide)
  have hs : (B (css ++ chr)).size = 22 := by decide
  go_enter Tryz.func20, Tryz.ntmps20
  go_wp2_with fail
  refine (Tryz.strings_IndexByte _ _ _).mono ?_
  rintro e w' ⟨rfl, rfl⟩
  rw [show Lib.indexByte (B (css ++ chr)).data.toList (59 : Int).toNat.toUInt8 = 8 by decide]
  go_wp2
  go_ret
  exact ⟨rfl, rfl⟩

set_option maxRecDepth 100000 in
set_option maxHeartbeats 1000000 in
theorem mime_js (d x : Value) (w : World) :
    Calls Tryz.prog 20 #[.agg #[.string (B js), d, x]] w fun e w' => e = .returned (.int .u8 2) ∧ w.alloc (.cells #[.string (B js), d, x] 100) = w' := by
  have q0 : (js == [116, 101, 120, 116, 47, 99, 115, 115]) = false := by decide
  have q1 : (js == [116, 101, 120, 116, 47, 106, 97, 118, 97, 115, 99, 114, 105, 112, 116]) = true := by decide
  have q2 : (js == [97, 112, 112, 108, 105, 99, 97, 116, 105, 111, 110, 47, 106, 115, 111, 110]) = false := by decide
  go_enter Tryz.func20, Tryz.ntmps20
  go_wp2_with fail
  refine (Tryz.strings_IndexByte _ _ _).mono ?_
  rintro e w' ⟨rfl, rfl⟩
  rw [show Lib.indexByte (B js).data.toList (59 : Int).toNat.toUInt8 = -1 by decide]
  go_wp2
  go_ret
  exact ⟨rfl, rfl⟩

set_option maxRecDepth 100000 in
set_option maxHeartbeats 1000000 in
theorem mime_js_chr (d x : Value) (w : World) :
    Calls Tryz.prog 20 #[.agg #[.string (B (js ++ chr)), d, x]] w fun e w' => e = .returned (.int .u8 2) ∧ w.alloc (.cells #[.string (B (js ++ chr)), d, x] 100) = w' := by
  have q0 : (js == [116, 101, 120, 116, 47, 99, 115, 115]) = false := by decide
  have q1 : (js == [116, 101, 120, 116, 47, 106, 97, 118, 97, 115, 99, 114, 105, 112, 116]) = true := by decide
  have q2 : (js == [97, 112, 112, 108, 105, 99, 97, 116, 105, 111, 110, 47, 106, 115, 111, 110]) = false := by decide
  have hx : (B (js ++ chr)).extract 0 15 = B js := ext_list (by rw [Lib.extract_data]; decide)
  have hs : (B (js ++ chr)).size = 29 := by decide
  go_enter Tryz.func20, Tryz.ntmps20
  go_wp2_with fail
  refine (Tryz.strings_IndexByte _ _ _).mono ?_
  rintro e w' ⟨rfl, rfl⟩
  rw [show Lib.indexByte (B (js ++ chr)).data.toList (59 : Int).toNat.toUInt8 = 15 by decide]
  go_wp2
  go_ret
  exact ⟨rfl, rfl⟩

set_option maxRecDepth 100000 in
set_option maxHeartbeats 1000000 in
theorem mime_json (d x : Value) (w : World) :
    Calls Tryz.prog 20 #[.agg #[.string (B json), d, x]] w fun e w' => e = .returned (.int .u8 3) ∧ w.alloc (.cells #[.string (B json), d, x] 100) = w' := by
  have q0 : (json == [116, 101, 120, 116, 47, 99, 115, 115]) = false := by decide
  have q1 : (json == [116, 101, 120, 116, 47, 106, 97, 118, 97, 115, 99, 114, 105, 112, 116]) = false := by decide
  have q2 : (json == [97, 112, 112, 108, 105, 99, 97, 116, 105, 111, 110, 47, 106, 115, 111, 110]) = true := by decide
  go_enter Tryz.func20, Tryz.ntmps20
  go_wp2_with fail
  refine (Tryz.strings_IndexByte _ _ _).mono ?_
  rintro e w' ⟨rfl, rfl⟩
  rw [show Lib.indexByte (B json).data.toList (59 : Int).toNat.toUInt8 = -1 by decide]
  go_wp2
  go_ret
  exact ⟨rfl, rfl⟩

set_option maxRecDepth 100000 in
set_option maxHeartbeats 1000000 in
theorem mime_json_chr (d x : Value) (w : World) :
    Calls Tryz.prog 20 #[.agg #[.string (B (json ++ chr)), d, x]] w fun e w' => e = .returned (.int .u8 3) ∧ w.alloc (.cells #[.string (B (json ++ chr)), d, x] 100) = w' := by
  have q0 : (json == [116, 101, 120, 116, 47, 99, 115, 115]) = false := by decide
  have q1 : (json == [116, 101, 120, 116, 47, 106, 97, 118, 97, 115, 99, 114, 105, 112, 116]) = false := by decide
  have q2 : (json == [97, 112, 112, 108, 105, 99, 97, 116, 105, 111, 110, 47, 106, 115, 111, 110]) = true := by decide
  have hx : (B (json ++ chr)).extract 0 16 = B json := ext_list (by rw [Lib.extract_data]; decide)
  have hs : (B (json ++ chr)).size = 30 := by decide
  go_enter Tryz.func20, Tryz.ntmps20
  go_wp2_with fail
  refine (Tryz.strings_IndexByte _ _ _).mono ?_
  rintro e w' ⟨rfl, rfl⟩
  rw [show Lib.indexByte (B (json ++ chr)).data.toList (59 : Int).toNat.toUInt8 = 16 by decide]
  go_wp2
  go_ret
  exact ⟨rfl, rfl⟩

end Go.Proofs.YtfhpndfidfdhnaaGreatFmt
