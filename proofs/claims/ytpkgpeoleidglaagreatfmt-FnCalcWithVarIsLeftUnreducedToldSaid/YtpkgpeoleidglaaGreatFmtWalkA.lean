/- Contracts of the small functions of internal/strconv at a decimal integer's text. -/
import Derived.Test.YtpkgpeoleidglaaGreatFmtProg
import Derived.Test.YtpkgpeoleidglaaGreatFmtNum
import Derived.WalkKit
import Derived.WalkMore
import Derived.WalkLawsBesides
import Derived.WalkSpells
import Derived.Lib.Hide
import Derived.Handy
import Derived.Outline
namespace Go.Proofs.YtpkgpeoleidglaaGreatFmt
open Go.RowKit

abbrev B (l : List UInt8) : ByteArray := ⟨l.toArray⟩
/-- The bytes are digits from the place n on. -/
def DigFrom (s : ByteArray) (n : Nat) : Prop := ∀ i (hi : i < s.size), n ≤ i → 48 ≤ s[i].toNat ∧ s[i].toNat ≤ 57
/-- A decimal integer's text: a sign or none, then one to ten digits. -/
structure IntText (s : ByteArray) (n : Nat) : Prop where
  sign : (n = 0) ∨ (n = 1 ∧ ∃ h : 0 < s.size, (s[0]'h).toNat = 45)
  lo : n < s.size
  hi : s.size ≤ n + 10
  dig : DigFrom s n
  lead : s.size ≤ n + 2 ∨ ∃ h : n < s.size, (s[n]'h).toNat ≠ 48

theorem bool2 (b : Bool) (w : World) :
    Calls Tryz.prog 48 #[.bool b] w fun e w' => e = .returned (.int .u64 (if b then 1 else 0)) ∧ w = w' := by
  cases b
  · go_enter Tryz.func48, Tryz.ntmps48
    go_wp2
    go_ret
    exact ⟨rfl, rfl⟩
  · go_enter Tryz.func48, Tryz.ntmps48
    go_wp2
    go_ret
    exact ⟨rfl, rfl⟩

theorem lower (c : Int) (w : World) :
    Calls Tryz.prog 56 #[.int .u8 c] w fun e w' => e = .returned (.int .u8 (bits .or .u8 c 32)) ∧ w = w' := by
  go_enter Tryz.func56, Tryz.ntmps56
  go_wp2
  go_ret
  exact ⟨rfl, rfl⟩

set_option maxRecDepth 100000 in
set_option maxHeartbeats 1000000 in
theorem pre_no (s : ByteArray) (w : World) (h0 : 0 < s.size) (_ : s.size ≤ 11) (d0 : 48 ≤ s[0].toNat) (d1 : s[0].toNat ≤ 57) :
    Calls Tryz.prog 53 #[.string s, .string ⟨#[105, 110, 102, 105, 110, 105, 116, 121]⟩] w fun e w' => e = .returned (.int .i64 0) ∧ w = w' := by
  have q : (((s[0].toNat : Nat) : Int) != (((⟨#[105, 110, 102, 105, 110, 105, 116, 121]⟩ : ByteArray)[0]'(by decide)).toNat : Int)) = true := by
    rw [show (((⟨#[105, 110, 102, 105, 110, 105, 116, 121]⟩ : ByteArray)[0]'(by decide)).toNat : Int) = 105 from rfl, bne_iff_ne]
    omega
  go_enter Tryz.func53, Tryz.ntmps53
  go_wp2_with fail
  · refine wp_loop_rounds 1 ?_
    rw [rounds_succ]
    go_wp2
    go_ret
    exact ⟨rfl, rfl⟩
  · refine wp_loop_rounds 1 ?_
    rw [rounds_succ]
    go_wp2
    go_ret
    exact ⟨rfl, rfl⟩

set_option maxRecDepth 100000 in
set_option maxHeartbeats 1000000 in
theorem special_plain (s : ByteArray) (w : World) (h : IntText s 0) :
    Calls Tryz.prog 39 #[.string s] w fun e w' => e = .returned (.tuple #[.float .f64 0, .int .i64 0, .bool false]) ∧ w = w' := by
  obtain ⟨_, l0, l1, hd, _⟩ := h
  have d := hd 0 l0 (Nat.zero_le _)
  clear hd
  go_enter Tryz.func39, Tryz.ntmps39
  go_wp2_with fail
  exact bodyPost_ret (v := .tuple #[.float .f64 0, .int .i64 0, .bool false]) (by simp [results, Tryz.results39, go_sem]) rfl ⟨rfl, rfl⟩

set_option maxRecDepth 100000 in
set_option maxHeartbeats 1000000 in
theorem special_neg (s : ByteArray) (w : World) (h : IntText s 1) :
    Calls Tryz.prog 39 #[.string s] w fun e w' => e = .returned (.tuple #[.float .f64 0, .int .i64 0, .bool false]) ∧ w = w' := by
  obtain ⟨hs, l0, l1, hd, _⟩ := h
  have d := hd 1 l0 (Nat.le_refl _)
  obtain ⟨_, hz⟩ : ∃ h0 : 0 < s.size, (s[0]'h0).toNat = 45 := by
    rcases hs with h1 | ⟨_, h1⟩
    · omega
    · exact h1
  clear hs hd
  have e1 : (s.extract 1 s.size).size = s.size - 1 := by simp [ByteArray.size_extract]
  have e2 : ∃ h : 0 < (s.extract 1 s.size).size, ((s.extract 1 s.size)[0]'h).toNat = s[1].toNat := ⟨by omega, by simp [ByteArray.getElem_extract]⟩
  obtain ⟨e3, e4⟩ := e2
  have HP := Lib.hid (pre_no (s.extract 1 s.size) w e3 (by omega) (by omega) (by omega))
  clear e1 e3 e4
  go_enter Tryz.func39, Tryz.ntmps39
  go_wp2_with fail
  refine HP.out.mono ?_
  rintro e w' ⟨rfl, rfl⟩
  go_wp2
  exact bodyPost_ret (v := .tuple #[.float .f64 0, .int .i64 0, .bool false]) (by simp [results, Tryz.results39, go_sem]) rfl ⟨rfl, rfl⟩
set_option maxRecDepth 100000 in
set_option maxHeartbeats 4000000 in
theorem read_plain (s : ByteArray) (w : World) (h : IntText s 0) :
    Calls Tryz.prog 40 #[.string s] w fun e w' => (∃ m : Int, e = .returned (.tuple #[.int .u64 m, .int .i64 0, .bool false, .bool false, .bool false, .int .i64 s.size, .bool true]) ∧ 0 ≤ m ∧ m < 4503599627370496) ∧ w = w' := by
  obtain ⟨hs, l0, l1, hd, hl⟩ := h
  have d := hd 0 l0 (Nat.le_refl _)
  have hl' : s.size ≤ 2 ∨ (s[0]'l0).toNat ≠ 48 := by
    rcases hl with h | ⟨_, h⟩
    · exact Or.inl (by omega)
    · exact Or.inr h
  clear hs
  have hne : ¬s = ByteArray.empty := by
    rintro rfl
    exact absurd l0 (by decide)
  have H := Lib.hid hd
  clear hd hl
  go_enter Tryz.func40, Tryz.ntmps40
  go_wp2_with fail
  apply wp_scope_straight
  go_wp2_with fail
  all_goals
    apply wp_label
    go_wp2_with fail
    go_loop [2, 5, 7, 9, 13, 14, 15, 16, 17] (fun m tr i un sd sg nd nm dp => ∃ (j t m' : Nat) (p : Int) (b : Bool), j ≤ s.size ∧ t ≤ j ∧ m' < 10 ^ j ∧ -20 ≤ p + j ∧ p ≤ 0 ∧ (b = true ∨ j = 0) ∧ m = .int .u64 m' ∧ tr = .bool false ∧ i = .int .i64 ((j : Nat) : Int) ∧ un = .bool false ∧ sd = .bool false ∧ sg = .bool b ∧ nd = .int .i64 t ∧ nm = .int .i64 t ∧ dp = .int .i64 p) (fun _ _ i _ _ _ _ _ _ => s.size - (intOf i).toNat)
    case atStart => exact ⟨0, 0, 0, 0, false, by omega, Nat.le_refl _, by decide, by decide, by decide, Or.inr rfl, rfl, rfl, rfl, rfl, rfl, rfl, rfl, rfl, rfl⟩
    case round =>
      obtain ⟨j, t, m, p, b, hj, ht, hm, hp1, hp2, hb, rfl, rfl, rfl, rfl, rfl, rfl, rfl, rfl, rfl⟩ := hrel
      have hb2 := Lib.hid hb
      clear hb
      by_cases hlt : j < s.size
      · have dd := H.out j hlt (by omega)
        have hm2 : m * 10 + 9 < 10 ^ (j + 1) ∧ m < 10000000000 := by
          have h1 : 10 ^ j ≤ 10 ^ 10 := Nat.pow_le_pow_right (by decide) (by omega)
          rw [Nat.pow_succ]
          omega
        obtain ⟨hm3, hm4⟩ := hm2
        go_wp2_with fail
        all_goals first
          | exact ⟨⟨j + 1, t, m, p - 1, true, by omega, by omega, by omega, by omega, by omega, Or.inl rfl, rfl, rfl, by go_num, rfl, rfl, rfl, rfl, rfl, rfl⟩, by simp [intOf]; omega⟩
          | exact ⟨⟨j + 1, t + 1, m * 10, p, true, by omega, by omega, by omega, by omega, by omega, Or.inl rfl, by go_num, rfl, by go_num, rfl, rfl, rfl, by go_num, by go_num, rfl⟩, by simp [intOf]; omega⟩
          | exact ⟨⟨j + 1, t + 1, m * 10 + (s[j].toNat - 48), p, true, by omega, by omega, by omega, by omega, by omega, Or.inl rfl, by congr 1; omega, rfl, by go_num, rfl, rfl, rfl, by go_num, by go_num, rfl⟩, by simp [intOf]; omega⟩
      · have hj1 : ((j : Nat) : Int) = s.size := by omega
        have hb3 : b = true := by
          rcases hb2.out with h | h
          · exact h
          · omega
        have hm2 : m < 4503599627370496 := by
          have h1 : 10 ^ j ≤ 10 ^ 10 := Nat.pow_le_pow_right (by decide) (by omega)
          omega
        subst hb3
        go_wp2_with fail
        all_goals
          refine bodyPost_ret (v := .tuple #[.int .u64 m, .int .i64 0, .bool false, .bool false, .bool false, .int .i64 s.size, .bool true]) ?_ rfl ⟨⟨m, rfl, by omega, by omega⟩, rfl⟩
          simp [results, Tryz.results40, go_sem]
          try omega

set_option maxRecDepth 100000 in
set_option maxHeartbeats 4000000 in
theorem read_neg (s : ByteArray) (w : World) (h : IntText s 1) :
    Calls Tryz.prog 40 #[.string s] w fun e w' => (∃ m : Int, e = .returned (.tuple #[.int .u64 m, .int .i64 0, .bool true, .bool false, .bool false, .int .i64 s.size, .bool true]) ∧ 0 ≤ m ∧ m < 4503599627370496) ∧ w = w' := by
  obtain ⟨hs, l0, l1, hd, hl⟩ := h
  have d := hd 1 l0 (Nat.le_refl _)
  have hl' : s.size ≤ 3 ∨ (s[1]'l0).toNat ≠ 48 := by
    rcases hl with h | ⟨_, h⟩
    · exact Or.inl (by omega)
    · exact Or.inr h
  obtain ⟨hpos, hz⟩ : ∃ h0 : 0 < s.size, (s[0]'h0).toNat = 45 := by
    rcases hs with h1 | ⟨_, h1⟩
    · omega
    · exact h1
  clear hs
  have hne : ¬s = ByteArray.empty := by
    rintro rfl
    exact absurd l0 (by decide)
  have H := Lib.hid hd
  clear hd hl
  go_enter Tryz.func40, Tryz.ntmps40
  go_wp2_with fail
  apply wp_scope_straight
  go_wp2_with fail
  all_goals
    apply wp_label
    go_wp2_with fail
    go_loop [2, 5, 7, 9, 13, 14, 15, 16, 17] (fun m tr i un sd sg nd nm dp => ∃ (j t m' : Nat) (p : Int) (b : Bool), 1 + j ≤ s.size ∧ t ≤ j ∧ m' < 10 ^ j ∧ -20 ≤ p + j ∧ p ≤ 0 ∧ (b = true ∨ j = 0) ∧ m = .int .u64 m' ∧ tr = .bool false ∧ i = .int .i64 ((1 + j : Nat) : Int) ∧ un = .bool false ∧ sd = .bool false ∧ sg = .bool b ∧ nd = .int .i64 t ∧ nm = .int .i64 t ∧ dp = .int .i64 p) (fun _ _ i _ _ _ _ _ _ => s.size - (intOf i).toNat)
    case atStart => exact ⟨0, 0, 0, 0, false, by omega, Nat.le_refl _, by decide, by decide, by decide, Or.inr rfl, rfl, rfl, rfl, rfl, rfl, rfl, rfl, rfl, rfl⟩
    case round =>
      obtain ⟨j, t, m, p, b, hj, ht, hm, hp1, hp2, hb, rfl, rfl, rfl, rfl, rfl, rfl, rfl, rfl, rfl⟩ := hrel
      have hb2 := Lib.hid hb
      clear hb
      by_cases hlt : 1 + j < s.size
      · have dd := H.out (1 + j) hlt (by omega)
        have hm2 : m * 10 + 9 < 10 ^ (j + 1) ∧ m < 10000000000 := by
          have h1 : 10 ^ j ≤ 10 ^ 10 := Nat.pow_le_pow_right (by decide) (by omega)
          rw [Nat.pow_succ]
          omega
        obtain ⟨hm3, hm4⟩ := hm2
        go_wp2_with fail
        all_goals first
          | exact ⟨⟨j + 1, t, m, p - 1, true, by omega, by omega, by omega, by omega, by omega, Or.inl rfl, rfl, rfl, by go_num, rfl, rfl, rfl, rfl, rfl, rfl⟩, by simp [intOf]; omega⟩
          | exact ⟨⟨j + 1, t + 1, m * 10, p, true, by omega, by omega, by omega, by omega, by omega, Or.inl rfl, by go_num, rfl, by go_num, rfl, rfl, rfl, by go_num, by go_num, rfl⟩, by simp [intOf]; omega⟩
          | exact ⟨⟨j + 1, t + 1, m * 10 + (s[1 + j].toNat - 48), p, true, by omega, by omega, by omega, by omega, by omega, Or.inl rfl, by congr 1; omega, rfl, by go_num, rfl, rfl, rfl, by go_num, by go_num, rfl⟩, by simp [intOf]; omega⟩
      · have hj1 : ((1 + j : Nat) : Int) = s.size := by omega
        have hb3 : b = true := by
          rcases hb2.out with h | h
          · exact h
          · omega
        have hm2 : m < 4503599627370496 := by
          have h1 : 10 ^ j ≤ 10 ^ 10 := Nat.pow_le_pow_right (by decide) (by omega)
          omega
        subst hb3
        go_wp2_with fail
        all_goals
          refine bodyPost_ret (v := .tuple #[.int .u64 m, .int .i64 0, .bool true, .bool false, .bool false, .int .i64 s.size, .bool true]) ?_ rfl ⟨⟨m, rfl, by omega, by omega⟩, rfl⟩
          simp [results, Tryz.results40, go_sem]
          try omega

end Go.Proofs.YtpkgpeoleidglaaGreatFmt
