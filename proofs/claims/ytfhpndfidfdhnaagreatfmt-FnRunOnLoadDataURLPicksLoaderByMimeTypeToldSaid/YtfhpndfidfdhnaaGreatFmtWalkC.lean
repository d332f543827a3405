/- Contracts of the data URL's functions: its parts, its data. -/
import Derived.Test.YtfhpndfidfdhnaaGreatFmtWalkB
import Derived.WalkKit
import Derived.WalkLawsBesides
import Derived.WalkSpells
import Derived.Lib.Hide
import Derived.Outline
import Derived.Handy
import Derived.Deep.DeepFit
namespace Go.Proofs.YtfhpndfidfdhnaaGreatFmt
open Go.RowKit

theorem pre_whole (m p : List UInt8) (w : World) :
    Calls Tryz.prog 30 #[.string (B (whole m p)), .string ⟨#[100, 97, 116, 97, 58]⟩] w fun e w' => e = .returned (.bool true) ∧ w = w' := by
  refine (Tryz.strings_HasPrefix _ _ _).mono ?_
  rintro e w' ⟨rfl, rfl⟩
  exact ⟨congrArg (fun b => Ending.returned (.bool b)) (hasPrefix_whole m p), rfl⟩

theorem comma_whole (m p : List UInt8) (w : World) (hm : (44 : UInt8) ∉ m) :
    Calls Tryz.prog 31 #[.string (B (whole m p)), .int .u8 44] w fun e w' => e = .returned (.int .i64 ((5 + m.length : Nat) : Int)) ∧ w = w' := by
  refine (Tryz.strings_IndexByte _ _ _).mono ?_
  rintro e w' ⟨rfl, rfl⟩
  have h : Lib.indexByte (B (whole m p)).data.toList (44 : Int).toNat.toUInt8 = ((5 + m.length : Nat) : Int) := by
    rw [show (44 : Int).toNat.toUInt8 = 44 from rfl]
    exact (indexByte_whole m p hm).trans (by omega)
  exact ⟨by rw [h], rfl⟩

theorem suf_no (m : List UInt8) (w : World) (hl : m.length ≤ 30) (h : Lib.hasSuffix m [59, 98, 97, 115, 101, 54, 52] = false) :
    Calls Tryz.prog 32 #[.string (B m), .string ⟨#[59, 98, 97, 115, 101, 54, 52]⟩] w fun e w' => e = .returned (.bool false) ∧ w = w' := by
  refine (Tryz.strings_HasSuffix _ _ _ ?_).mono ?_
  · rw [Lib.size_eq]
    exact Nat.le_trans hl (by decide)
  · rintro e w' ⟨rfl, rfl⟩
    exact ⟨congrArg (fun b => Ending.returned (.bool b)) h, rfl⟩

set_option maxRecDepth 100000 in
set_option maxHeartbeats 1000000 in
theorem parse (m p : List UInt8) (w : World) (hm : (44 : UInt8) ∉ m) (hl : m.length ≤ 30) (hp : p.length ≤ 1048576) (hsuf : Lib.hasSuffix m [59, 98, 97, 115, 101, 54, 52] = false) :
    Calls Tryz.prog 18 #[.string (B (whole m p))] w fun e w' => e = .returned (.tuple #[.agg #[.string (B m), .string (B p), .bool false], .bool true]) ∧ w.alloc (.cells #[.string (B m), .string (B p), .bool false] 100) = w' := by
  have hsz := whole_length m p
  have hsz1 : (whole m p).length ≤ 9223372036854775807 := by omega
  have hsz2 : 6 + m.length + p.length ≤ (whole m p).length := by omega
  have hmid := mid m p
  have hrest : (B (whole m p)).extract (5 + m.length + 1) (whole m p).length = B p := rest m p
  clear hsz
  have Hm := Lib.hid hm
  have Hsuf := Lib.hid hsuf
  clear hm hsuf
  go_enter Tryz.func18, Tryz.ntmps18
  go_wp2_with fail
  refine (pre_whole m p _).mono ?_
  rintro e w' ⟨rfl, rfl⟩
  go_wp2_with fail
  refine (comma_whole m p _ Hm.out).mono ?_
  rintro e w' ⟨rfl, rfl⟩
  go_wp2_with fail
  refine (suf_no m _ hl Hsuf.out).mono ?_
  rintro e w' ⟨rfl, rfl⟩
  go_wp2
  exact bodyPost_ret (v := .tuple #[.agg #[.string (B m), .string (B p), .bool false], .bool true]) (by simp [results, Tryz.results18, go_sem]) rfl ⟨rfl, rfl⟩

/-- No '%' in the text. -/
def NoPct (s : ByteArray) : Prop := ∀ i (hi : i < s.size), ((s[i].toNat : Int) == 37) = false

theorem path_plain (s : ByteArray) (w : World) (hs : s.size ≤ 9223372036854775807) (h : NoPct s) :
    Calls Tryz.prog 36 #[.string s] w fun e w' => e = .returned (.tuple #[.string s, .nilIface]) ∧ w = w' := by
  go_enter Tryz.func36, Tryz.ntmps36
  go_wp2_with fail
  refine (unescape_plain s _ hs h).mono ?_
  rintro e w' ⟨rfl, rfl⟩
  go_wp2
  go_ret2
  exact ⟨rfl, rfl⟩

theorem data_plain (m : Value) (s : ByteArray) (w : World) (hs : s.size ≤ 9223372036854775807) (h : NoPct s) :
    Calls Tryz.prog 19 #[.agg #[m, .string s, .bool false]] w fun e w' => e = .returned (.tuple #[.string s, .nilIface]) ∧ w.alloc (.cells #[m, .string s, .bool false] 100) = w' := by
  go_enter Tryz.func19, Tryz.ntmps19
  go_wp2_with fail
  refine (path_plain s _ hs h).mono ?_
  rintro e w' ⟨rfl, rfl⟩
  go_wp2
  go_ret2
  exact ⟨rfl, rfl⟩

end Go.Proofs.YtfhpndfidfdhnaaGreatFmt
