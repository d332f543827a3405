/- Contracts of the small functions: the length guard, the search for a byte, net/url's unescape at a text without '%'. -/
import Derived.Test.YtfhpndfidfdhnaaGreatFmtProg
import Derived.WalkKit
import Derived.WalkLawsBesides
import Derived.WalkSpells
import Derived.Lib.Hide
import Derived.Handy
namespace Go.Proofs.YtfhpndfidfdhnaaGreatFmt
open Go.RowKit

theorem bytes_ok (k : Int) (s : ByteArray) (w : World) (hs : s.size ≤ 1048576) :
    Calls Tryz.prog 4 #[.int .u8 k, .string s] w fun e w' => e = .returned (.bool true) ∧ w = w' := by
  go_enter Tryz.func4, Tryz.ntmps4
  go_wp2
  go_ret
  exact ⟨rfl, rfl⟩

theorem bytes_no (k : Int) (s : ByteArray) (w : World) (hs : 1048576 < s.size) (h2 : s.size ≤ 9223372036854775807) :
    Calls Tryz.prog 4 #[.int .u8 k, .string s] w fun e w' => e = .returned (.bool false) ∧ w = w' := by
  go_enter Tryz.func4, Tryz.ntmps4
  go_wp2
  go_ret
  exact ⟨rfl, rfl⟩

set_option maxHeartbeats 400000 in
theorem has_no (s : ByteArray) (w : World) (hs : s.size ≤ 9223372036854775807) (h : ∀ i (hi : i < s.size), ((s[i].toNat : Int) == 37) = false) :
    Calls Tryz.prog 5 #[.string s, .int .u8 37] w fun e w' => e = .returned (.bool false) ∧ w = w' := by
  have H := Lib.hid h
  clear h
  go_enter Tryz.func5, Tryz.ntmps5
  go_wp2
  go_loop [5] (fun i => ∃ k : Nat, k ≤ s.size ∧ i = .int .i64 k) (fun i => s.size - (intOf i).toNat)
  case atStart => exact ⟨0, Nat.zero_le _, rfl⟩
  case round =>
    obtain ⟨k, hk, rfl⟩ := hrel
    by_cases hlt : k < s.size
    · have hne := H.out k hlt
      go_wp2
      go_round
      case rel => exact ⟨k + 1, by omega, by go_num⟩
      case measure => simp [intOf]; omega
    · go_wp2
      go_ret
      exact ⟨rfl, rfl⟩

set_option maxHeartbeats 400000 in
theorem has_yes (s : ByteArray) (w : World) (hs : s.size ≤ 9223372036854775807) (j : Nat) (hj : j < s.size) (h : ((s[j].toNat : Int) == 37) = true) :
    Calls Tryz.prog 5 #[.string s, .int .u8 37] w fun e w' => e = .returned (.bool true) ∧ w = w' := by
  have H := Lib.hid h
  clear h
  go_enter Tryz.func5, Tryz.ntmps5
  go_wp2
  go_loop [5] (fun i => ∃ k : Nat, k ≤ j ∧ i = .int .i64 k) (fun i => s.size - (intOf i).toNat)
  case atStart => exact ⟨0, Nat.zero_le _, rfl⟩
  case round =>
    obtain ⟨k, hk, rfl⟩ := hrel
    have hlt : k < s.size := by omega
    cases hc : ((s[k].toNat : Int) == 37) with
    | true =>
      go_wp2
      go_ret
      exact ⟨rfl, rfl⟩
    | false =>
      have hkj : k < j := by
        rcases Nat.lt_or_ge k j with h1 | h1
        · exact h1
        · exfalso
          obtain rfl : k = j := by omega
          rw [H.out] at hc
          cases hc
      go_wp2
      go_round
      case rel => exact ⟨k + 1, by omega, by go_num⟩
      case measure => simp [intOf]; omega

set_option maxRecDepth 100000 in
set_option maxHeartbeats 1000000 in
theorem unescape_plain (s : ByteArray) (w : World) (hs : s.size ≤ 9223372036854775807) (h : ∀ i (hi : i < s.size), ((s[i].toNat : Int) == 37) = false) :
    Calls Tryz.prog 51 #[.string s, .int .u8 2] w fun e w' => e = .returned (.tuple #[.string s, .nilIface]) ∧ w = w' := by
  have H := Lib.hid h
  clear h
  go_enter Tryz.func51, Tryz.ntmps51
  go_wp2
  go_loop [0, 6, 7, 8] (fun sv n hp i => ∃ k : Nat, k ≤ s.size ∧ sv = .string s ∧ n = .int .i64 0 ∧ hp = .bool false ∧ i = .int .i64 k) (fun _ _ _ i => s.size - (intOf i).toNat)
  case atStart => exact ⟨0, Nat.zero_le _, rfl, rfl, rfl, rfl⟩
  case round =>
    obtain ⟨k, hk, rfl, rfl, rfl, rfl⟩ := hrel
    by_cases hlt : k < s.size
    · have hne := H.out k hlt
      cases hc : ((s[k].toNat : Int) == 43) with
      | true =>
        go_wp2
        go_round
        case rel => exact ⟨k + 1, by omega, rfl, rfl, rfl, by go_num⟩
        case measure => simp [intOf]; omega
      | false =>
        go_wp2
        go_round
        case rel => exact ⟨k + 1, by omega, rfl, rfl, rfl, by go_num⟩
        case measure => simp [intOf]; omega
    · go_wp2
      go_ret2
      exact ⟨rfl, rfl⟩

end Go.Proofs.YtfhpndfidfdhnaaGreatFmt
