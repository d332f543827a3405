/- Contracts of ParseFloat, from atof64exact up to strconv's own, at a decimal integer's text. -/
import Derived.Test.YtpkgpeoleidglaaGreatFmtWalkA
import Derived.WalkKit
import Derived.WalkMore
import Derived.WalkLawsBesides
import Derived.WalkSpells
import Derived.Lib.Hide
import Derived.Outline
import Derived.Handy
namespace Go.Proofs.YtpkgpeoleidglaaGreatFmt
open Go.RowKit

/-- What ParseFloat reads of the package's variables. -/
structure Vars (w : World) : Prop where
  opt : w.cell? ⟨9, 0, none⟩ = some (.bool true)
  bits : w.cell? ⟨10, 0, none⟩ = some (.int .u64 52)

theorem neg_f64 (x : Nat) (w : World) : Sem.run Tryz.prog (Op.unary UnOp.neg (Value.float FloatKind.f64 x)) w = .ok (.float .f64 (Op.negFloat FloatKind.f64 x)) w := by
  simp [Op.unary, go_sem]

set_option maxRecDepth 100000 in
set_option maxHeartbeats 1000000 in
theorem exact64 (m : Int) (neg : Bool) (w : World) (h : Vars w) (h0 : 0 ≤ m) (h1 : m < 4503599627370496) :
    Calls Tryz.prog 50 #[.int .u64 m, .int .i64 0, .bool neg] w fun e w' => (∃ f, e = .returned (.tuple #[.float .f64 f, .bool true])) ∧ w = w' := by
  obtain ⟨_, hb⟩ := h
  cases neg
  · go_enter Tryz.func50, Tryz.ntmps50
    go_wp2_with fail
    go_ret2
    exact ⟨⟨_, rfl⟩, rfl⟩
  · go_enter Tryz.func50, Tryz.ntmps50
    go_wp2_with fail
    rw [neg_f64]
    go_wp2_with fail
    go_ret2
    exact ⟨⟨_, rfl⟩, rfl⟩

@[go_sem] theorem call49 (n : Int) (w : World) : (callFunc 49 #[.int .u64 n]).run Tryz.prog w = .ok (.value (.float .f64 n.toNat)) w := by
  rw [run_callFunc_extern Tryz.func49 (by kernel_rfl) (by kernel_rfl) (by kernel_rfl) (e := Extern.MathFloatBits.float64frombits) (by kernel_rfl)]
  rfl

theorem special_any (s : ByteArray) (n : Nat) (w : World) (h : IntText s n) :
    Calls Tryz.prog 39 #[.string s] w fun e w' => e = .returned (.tuple #[.float .f64 0, .int .i64 0, .bool false]) ∧ w = w' := by
  rcases h.sign with h1 | ⟨h1, _⟩
  · subst h1; exact special_plain s w h
  · subst h1; exact special_neg s w h

theorem read_any (s : ByteArray) (n : Nat) (w : World) (h : IntText s n) :
    Calls Tryz.prog 40 #[.string s] w fun e w' => (∃ (m : Int) (neg : Bool), e = .returned (.tuple #[.int .u64 m, .int .i64 0, .bool neg, .bool false, .bool false, .int .i64 s.size, .bool true]) ∧ 0 ≤ m ∧ m < 4503599627370496) ∧ w = w' := by
  rcases h.sign with h1 | ⟨h1, _⟩
  · subst h1
    exact (read_plain s w h).mono fun _ _ ⟨⟨m, he, hm⟩, hw⟩ => ⟨⟨m, false, he, hm⟩, hw⟩
  · subst h1
    exact (read_neg s w h).mono fun _ _ ⟨⟨m, he, hm⟩, hw⟩ => ⟨⟨m, true, he, hm⟩, hw⟩

set_option maxRecDepth 100000 in
set_option maxHeartbeats 2000000 in
theorem atof64 (s : ByteArray) (n : Nat) (w : World) (hv : Vars w) (h : IntText s n) :
    Calls Tryz.prog 35 #[.string s] w fun e w' => (∃ f, e = .returned (.tuple #[.float .f64 f, .int .i64 s.size, .nilIface])) ∧ w = w' := by
  have H := Lib.hid h
  have HV := Lib.hid hv
  have l1 : s.size ≤ 11 := by
    have := h.hi
    rcases h.sign with h1 | ⟨h1, _⟩ <;> omega
  have ho := hv.opt
  clear h hv
  go_enter Tryz.func35, Tryz.ntmps35
  go_wp2_with fail
  refine (special_any s n _ H.out).mono ?_
  rintro e w' ⟨rfl, rfl⟩
  go_wp2_with fail
  refine (read_any s n _ H.out).mono ?_
  rintro e w' ⟨⟨m, neg, rfl, hm0, hm1⟩, rfl⟩
  go_wp2_with fail
  refine (bool2 neg _).mono ?_
  rintro e w' ⟨rfl, rfl⟩
  go_wp2_with fail
  all_goals first
    | (refine (exact64 m _ _ HV.out hm0 hm1).mono ?_
       rintro e w' ⟨⟨f, rfl⟩, rfl⟩
       go_wp2
       exact bodyPost_ret (v := .tuple #[.float .f64 f, .int .i64 s.size, .nilIface]) (by simp [results, Tryz.results35, go_sem]) rfl ⟨⟨_, rfl⟩, rfl⟩)
    | exact bodyPost_ret (by simp [results, Tryz.results35, go_sem]; rfl) rfl ⟨⟨_, rfl⟩, rfl⟩

theorem prefix64 (s : ByteArray) (n : Nat) (w : World) (hv : Vars w) (h : IntText s n) :
    Calls Tryz.prog 29 #[.string s, .int .i64 64] w fun e w' => (∃ f, e = .returned (.tuple #[.float .f64 f, .int .i64 s.size, .nilIface])) ∧ w = w' := by
  have H := Lib.hid h
  have HV := Lib.hid hv
  clear h hv
  go_enter Tryz.func29, Tryz.ntmps29
  go_wp2_with fail
  refine (atof64 s n _ HV.out H.out).mono ?_
  rintro e w' ⟨⟨f, rfl⟩, rfl⟩
  go_wp2
  exact bodyPost_ret (v := .tuple #[.float .f64 f, .int .i64 s.size, .nilIface]) (by simp [results, Tryz.results29, go_sem]) rfl ⟨⟨_, rfl⟩, rfl⟩

theorem inner64 (s : ByteArray) (n : Nat) (w : World) (hv : Vars w) (h : IntText s n) :
    Calls Tryz.prog 23 #[.string s, .int .i64 64] w fun e w' => (∃ f, e = .returned (.tuple #[.float .f64 f, .nilIface])) ∧ w = w' := by
  have H := Lib.hid h
  have HV := Lib.hid hv
  have l1 : s.size ≤ 11 := by
    have := h.hi
    rcases h.sign with h1 | ⟨h1, _⟩ <;> omega
  clear h hv
  go_enter Tryz.func23, Tryz.ntmps23
  go_wp2_with fail
  refine (prefix64 s n _ HV.out H.out).mono ?_
  rintro e w' ⟨⟨f, rfl⟩, rfl⟩
  go_wp2
  go_ret2
  exact ⟨⟨_, rfl⟩, rfl⟩

theorem parse64 (s : ByteArray) (n : Nat) (w : World) (hv : Vars w) (h : IntText s n) :
    Calls Tryz.prog 15 #[.string s, .int .i64 64] w fun e w' => (∃ f, e = .returned (.tuple #[.float .f64 f, .nilIface])) ∧ w = w' := by
  have H := Lib.hid h
  have HV := Lib.hid hv
  clear h hv
  go_enter Tryz.func15, Tryz.ntmps15
  go_wp2_with fail
  refine (inner64 s n _ HV.out H.out).mono ?_
  rintro e w' ⟨⟨f, rfl⟩, rfl⟩
  go_wp2
  go_ret2
  exact ⟨⟨_, rfl⟩, rfl⟩

set_option maxRecDepth 100000 in
set_option maxHeartbeats 2000000 in
theorem fold_var (w : World) :
    Calls Tryz.prog 14 #[.string ⟨#[118, 97, 114]⟩, .string ⟨#[118, 97, 114]⟩] w fun e w' => e = .returned (.bool true) ∧ w = w' := by
  have q : bits .or .u8 118 118 = 118 ∧ bits .or .u8 97 97 = 97 ∧ bits .or .u8 114 114 = 114 := by decide
  obtain ⟨q1, q2, q3⟩ := q
  go_enter Tryz.func14, Tryz.ntmps14
  go_wp2_with fail
  apply wp_scope_straight
  go_wp2_with fail
  refine wp_loop_rounds 4 ?_
  rw [rounds_succ]
  go_wp2_with fail
  rw [rounds_succ]
  go_wp2_with fail
  rw [rounds_succ]
  go_wp2_with fail
  rw [rounds_succ]
  go_wp2_with fail
  simp only [Exit.noGoto_ret]
  go_ret
  exact ⟨rfl, rfl⟩
end Go.Proofs.YtpkgpeoleidglaaGreatFmt
