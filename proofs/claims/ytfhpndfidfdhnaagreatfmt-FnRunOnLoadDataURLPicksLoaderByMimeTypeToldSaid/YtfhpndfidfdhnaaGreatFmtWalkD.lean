/- Contracts of runOnLoadPlugins without plugins at a data URL, and of the law. -/
import Derived.Test.YtfhpndfidfdhnaaGreatFmtWalkC
import Derived.WalkKit
import Derived.WalkLawsBesides
import Derived.WalkSpells
import Derived.Lib.Hide
import Derived.Outline
import Derived.Handy
import Derived.Deep.DeepFit
namespace Go.Proofs.YtfhpndfidfdhnaaGreatFmt
open Go.RowKit

set_option maxRecDepth 100000 in
theorem enabled (x0 x1 x2 x3 : Value) (w : World) : Calls Tryz.prog 13 #[.agg #[x0, x1, x2, x3, .int .u8 0]] w fun e w' => e = .returned (.bool false) ∧ w.alloc (.cells #[x0, x1, x2, x3, .int .u8 0] 32) = w' := by
  go_enter Tryz.func13, Tryz.ntmps13
  go_wp2
  go_ret
  exact ⟨rfl, rfl⟩

/-- The cells of a tracker without a source. -/
abbrev trk : Array Value := #[.string ⟨#[]⟩, .string ⟨#[]⟩, .string ⟨#[]⟩, .int .i32 0, .int .i32 0, .int .i32 0, .int .i32 0, .bool false, .bool false, .bool false]

set_option maxRecDepth 100000 in
theorem tracker (w : World) : Calls Tryz.prog 8 #[.pointer none] w fun e w' => e = .returned (.agg trk) ∧ w.alloc (.cells trk 62) = w' := by
  go_enter Tryz.func8, Tryz.ntmps8
  go_wp2
  exact bodyPost_ret (v := .agg trk) (by simp [results, Tryz.results8, go_sem]) rfl ⟨rfl, rfl⟩

/-- What the walk asks of a media type. -/
structure Mime (m : List UInt8) (mt : Int) : Prop where
  comma : (44 : UInt8) ∉ m
  len : m.length ≤ 30
  suf : Lib.hasSuffix m [59, 98, 97, 115, 101, 54, 52] = false
  dec : ∀ (d x : Value) (w : World), Calls Tryz.prog 20 #[.agg #[.string (B m), d, x]] w fun e w' => e = .returned (.int .u8 mt) ∧ w.alloc (.cells #[.string (B m), d, x] 100) = w'

set_option maxRecDepth 100000 in
set_option maxHeartbeats 2000000 in
theorem run (m p : List UInt8) (w : World) (code mt : Int) (hp : p.length ≤ 1048576) (hn : NoPct (B p)) (hm : Mime m mt) (hc : (mt = 1 ∧ code = 4) ∨ (mt = 2 ∧ code = 10) ∨ (mt = 3 ∧ code = 11)) :
    Calls Tryz.prog 7 #[.slice none 0 0, .nilIface, .pointer none, .agg #[.nilFunc, .nilFunc, .nilFunc, .nilFunc, .int .i8 0, .map none], .pointer (some ⟨w.heap.size, 0, none⟩), .pointer none,
      .agg #[.int .i32 0, .int .i32 0], .nilIface, .bool false, .int .u8 0]
      (w.alloc (.cells #[.string ⟨#[]⟩, .string ⟨#[]⟩, .string ⟨#[]⟩, .string ⟨#[]⟩, .string (B (whole m p)), .string ⟨#[100, 97, 116, 97, 117, 114, 108]⟩, .string ⟨#[]⟩, .string ⟨#[]⟩, .int .u8 0, .int .u32 0] 37))
      fun e w' => e = .returned (.tuple #[.agg #[.nilIface, .string ⟨#[]⟩, .string ⟨#[]⟩, .int .u8 code], .bool true]) ∧ Below w.heap.size w w' ∧ w'.cell? ⟨w.heap.size, 3, none⟩ = some (.string (B p)) := by
  have Hn := Lib.hid hn
  have Hm := Lib.hid hm
  have Hps : Hid ((B p).size ≤ 9223372036854775807) := by
    show (B p).size ≤ 9223372036854775807
    rw [Lib.size_eq]
    exact Nat.le_trans hp (by decide)
  clear hn hm
  rcases hc with ⟨rfl, rfl⟩ | ⟨rfl, rfl⟩ | ⟨rfl, rfl⟩
  · go_enter Tryz.func7, Tryz.ntmps7
    go_wp2_with fail
    refine (tracker _).mono ?_
    rintro e w' ⟨rfl, rfl⟩
    go_wp2_with fail
    refine wp_loop_rounds 1 ?_
    rw [rounds_succ]
    go_wp2_with fail
    refine (enabled _ _ _ _ _).mono ?_
    rintro e w' ⟨rfl, rfl⟩
    go_wp2_with fail
    refine (parse m p _ Hm.out.comma Hm.out.len hp Hm.out.suf).mono ?_
    rintro e w' ⟨rfl, rfl⟩
    go_wp2_with fail
    refine (data_plain _ _ _ Hps.out Hn.out).mono ?_
    rintro e w' ⟨rfl, rfl⟩
    go_wp2_with fail
    refine (Hm.out.dec _ _ _).mono ?_
    rintro e w' ⟨rfl, rfl⟩
    go_wp2
    refine bodyPost_ret (v := .tuple #[.agg #[.nilIface, .string ⟨#[]⟩, .string ⟨#[]⟩, .int .u8 4], .bool true]) (by simp [results, Tryz.results7, go_sem]) rfl ⟨rfl, ?_, ?_⟩
    · go_grown
    · go_cell
  · go_enter Tryz.func7, Tryz.ntmps7
    go_wp2_with fail
    refine (tracker _).mono ?_
    rintro e w' ⟨rfl, rfl⟩
    go_wp2_with fail
    refine wp_loop_rounds 1 ?_
    rw [rounds_succ]
    go_wp2_with fail
    refine (enabled _ _ _ _ _).mono ?_
    rintro e w' ⟨rfl, rfl⟩
    go_wp2_with fail
    refine (parse m p _ Hm.out.comma Hm.out.len hp Hm.out.suf).mono ?_
    rintro e w' ⟨rfl, rfl⟩
    go_wp2_with fail
    refine (data_plain _ _ _ Hps.out Hn.out).mono ?_
    rintro e w' ⟨rfl, rfl⟩
    go_wp2_with fail
    refine (Hm.out.dec _ _ _).mono ?_
    rintro e w' ⟨rfl, rfl⟩
    go_wp2
    refine bodyPost_ret (v := .tuple #[.agg #[.nilIface, .string ⟨#[]⟩, .string ⟨#[]⟩, .int .u8 10], .bool true]) (by simp [results, Tryz.results7, go_sem]) rfl ⟨rfl, ?_, ?_⟩
    · go_grown
    · go_cell
  · go_enter Tryz.func7, Tryz.ntmps7
    go_wp2_with fail
    refine (tracker _).mono ?_
    rintro e w' ⟨rfl, rfl⟩
    go_wp2_with fail
    refine wp_loop_rounds 1 ?_
    rw [rounds_succ]
    go_wp2_with fail
    refine (enabled _ _ _ _ _).mono ?_
    rintro e w' ⟨rfl, rfl⟩
    go_wp2_with fail
    refine (parse m p _ Hm.out.comma Hm.out.len hp Hm.out.suf).mono ?_
    rintro e w' ⟨rfl, rfl⟩
    go_wp2_with fail
    refine (data_plain _ _ _ Hps.out Hn.out).mono ?_
    rintro e w' ⟨rfl, rfl⟩
    go_wp2_with fail
    refine (Hm.out.dec _ _ _).mono ?_
    rintro e w' ⟨rfl, rfl⟩
    go_wp2
    refine bodyPost_ret (v := .tuple #[.agg #[.nilIface, .string ⟨#[]⟩, .string ⟨#[]⟩, .int .u8 11], .bool true]) (by simp [results, Tryz.results7, go_sem]) rfl ⟨rfl, ?_, ?_⟩
    · go_grown
    · go_cell

end Go.Proofs.YtfhpndfidfdhnaaGreatFmt
