/- The law's walk: for every kind and payload she returns true. -/
import Derived.Test.YtfhpndfidfdhnaaGreatFmtWalkD
import Derived.WalkKit
import Derived.WalkLawsBesides
import Derived.WalkSpells
import Derived.Lib.Hide
import Derived.Outline
import Derived.Handy
import Derived.Deep.DeepFit
import Derived.Deep.QuietTactic
import Derived.BigQuiet
namespace Go.Proofs.YtfhpndfidfdhnaaGreatFmt
open Go.RowKit

set_option maxRecDepth 100000 in
set_option maxHeartbeats 1000000 in
theorem zz (m p : List UInt8) (w : World) (code mt : Int) (hp : p.length ≤ 1048576) (hn : NoPct (B p)) (hm : Mime m mt) (hc : (mt = 1 ∧ code = 4) ∨ (mt = 2 ∧ code = 10) ∨ (mt = 3 ∧ code = 11)) :
    Calls Tryz.prog 6 #[.string (B (whole m p)), .string ⟨#[100, 97, 116, 97, 117, 114, 108]⟩, .string ⟨#[]⟩] w fun e w' => e = .returned (.tuple #[.int .u8 code, .string ⟨#[]⟩, .string ⟨#[]⟩, .string (B p), .bool true]) ∧ Below w.heap.size w w' := by
  have HR := Lib.hid (run m p w code mt hp hn hm hc)
  clear hn hm hc
  go_enter Tryz.func6, Tryz.ntmps6
  go_wp2_with fail
  refine HR.out.mono ?_
  rintro e w1 ⟨rfl, hb, hcell⟩
  have hlt : w.heap.size < w1.heap.size := World.block_lt_of_cell? w1 _ hcell
  go_wp2_with fail
  go_quiet (fail)
  go_wp2
  refine bodyPost_ret (v := .tuple #[.int .u8 code, .string ⟨#[]⟩, .string ⟨#[]⟩, .string (B p), .bool true]) (by simp [results, Tryz.results6, go_sem]) rfl ⟨rfl, ?_⟩
  exact below_drewN (hb.alloc (Nat.le_of_lt hlt) _) nq

theorem mime_a : Mime css 1 := by
  obtain ⟨a, b, c⟩ := nosuf css (Or.inl rfl)
  exact ⟨b, c, a, mime_css⟩
theorem mime_b : Mime js 2 := by
  obtain ⟨a, b, c⟩ := nosuf js (Or.inr (Or.inl rfl))
  exact ⟨b, c, a, mime_js⟩
theorem mime_c : Mime json 3 := by
  obtain ⟨a, b, c⟩ := nosuf json (Or.inr (Or.inr (Or.inl rfl)))
  exact ⟨b, c, a, mime_json⟩
theorem mime_d : Mime (css ++ chr) 1 := by
  obtain ⟨a, b, c⟩ := nosuf (css ++ chr) (Or.inr (Or.inr (Or.inr (Or.inl rfl))))
  exact ⟨b, c, a, mime_css_chr⟩
theorem mime_e : Mime (js ++ chr) 2 := by
  obtain ⟨a, b, c⟩ := nosuf (js ++ chr) (Or.inr (Or.inr (Or.inr (Or.inr (Or.inl rfl)))))
  exact ⟨b, c, a, mime_js_chr⟩
theorem mime_f : Mime (json ++ chr) 3 := by
  obtain ⟨a, b, c⟩ := nosuf (json ++ chr) (Or.inr (Or.inr (Or.inr (Or.inr (Or.inr rfl)))))
  exact ⟨b, c, a, mime_json_chr⟩

/-- A payload of more than a mebibyte: the law says nothing, and answers true. -/
theorem law_long (k : Int) (s : ByteArray) (w : World) (hs : 1048576 < s.size) (h2 : s.size ≤ 9223372036854775807) :
    Calls Tryz.prog 3 #[.int .u8 k, .string s] w fun e w' => e = .returned (.bool true) ∧ w = w' := by
  go_enter Tryz.func3, Tryz.ntmps3
  go_wp2_with fail
  refine (bytes_no k s _ hs h2).mono ?_
  rintro e w' ⟨rfl, rfl⟩
  go_wp2
  go_ret
  exact ⟨rfl, rfl⟩

/-- A payload with a '%': likewise. -/
theorem law_pct (k : Int) (s : ByteArray) (w : World) (hs : s.size ≤ 1048576) (j : Nat) (hj : j < s.size) (h : ((s[j].toNat : Int) == 37) = true) :
    Calls Tryz.prog 3 #[.int .u8 k, .string s] w fun e w' => e = .returned (.bool true) ∧ w = w' := by
  have H := Lib.hid h
  clear h
  go_enter Tryz.func3, Tryz.ntmps3
  go_wp2_with fail
  refine (bytes_ok k s _ hs).mono ?_
  rintro e w' ⟨rfl, rfl⟩
  go_wp2_with fail
  refine (has_yes s _ (by omega) j hj H.out).mono ?_
  rintro e w' ⟨rfl, rfl⟩
  go_wp2
  go_ret
  exact ⟨rfl, rfl⟩

theorem join_a (p : List UInt8) : (⟨#[100, 97, 116, 97, 58]⟩ ++ ⟨#[116, 101, 120, 116, 47, 99, 115, 115]⟩ ++ ⟨#[44]⟩ ++ B p : ByteArray) = B (whole css p) := by
  apply ext_list
  simp [whole, pre, css]

set_option maxRecDepth 100000 in
set_option maxHeartbeats 1000000 in
theorem law_a (k : Int) (p : List UInt8) (w : World) (h0 : 0 ≤ k) (h1 : k ≤ 255) (hk : k % 3 = 0) (hq : k / 3 % 2 = 0) (hp : p.length ≤ 1048576) (hn : NoPct (B p)) :
    Calls Tryz.prog 3 #[.int .u8 k, .string (B p)] w fun e w' => e = .returned (.bool true) ∧ Below w.heap.size w w' := by
  have HZ := Lib.hid (zz css p w 4 1 hp hn mime_a (Or.inl ⟨rfl, rfl⟩))
  have Hn := Lib.hid hn
  have hsz : (B p).size ≤ 1048576 := by rw [Lib.size_eq]; exact hp
  clear hn
  go_enter Tryz.func3, Tryz.ntmps3
  go_wp2_with fail
  refine (bytes_ok k (B p) _ hsz).mono ?_
  rintro e w' ⟨rfl, rfl⟩
  go_wp2_with fail
  refine (has_no (B p) _ (by omega) Hn.out).mono ?_
  rintro e w' ⟨rfl, rfl⟩
  go_wp2_with fail
  rw [join_a p]
  refine HZ.out.mono ?_
  rintro e w1 ⟨rfl, hb⟩
  go_wp2
  go_ret
  exact ⟨rfl, hb⟩

theorem join_b (p : List UInt8) : (⟨#[100, 97, 116, 97, 58]⟩ ++ ⟨#[116, 101, 120, 116, 47, 106, 97, 118, 97, 115, 99, 114, 105, 112, 116]⟩ ++ ⟨#[44]⟩ ++ B p : ByteArray) = B (whole js p) := by
  apply ext_list
  simp [whole, pre, js]

set_option maxRecDepth 100000 in
set_option maxHeartbeats 1000000 in
theorem law_b (k : Int) (p : List UInt8) (w : World) (h0 : 0 ≤ k) (h1 : k ≤ 255) (hk : k % 3 = 1) (hq : k / 3 % 2 = 0) (hp : p.length ≤ 1048576) (hn : NoPct (B p)) :
    Calls Tryz.prog 3 #[.int .u8 k, .string (B p)] w fun e w' => e = .returned (.bool true) ∧ Below w.heap.size w w' := by
  have HZ := Lib.hid (zz js p w 10 2 hp hn mime_b (Or.inr (Or.inl ⟨rfl, rfl⟩)))
  have Hn := Lib.hid hn
  have hsz : (B p).size ≤ 1048576 := by rw [Lib.size_eq]; exact hp
  clear hn
  go_enter Tryz.func3, Tryz.ntmps3
  go_wp2_with fail
  refine (bytes_ok k (B p) _ hsz).mono ?_
  rintro e w' ⟨rfl, rfl⟩
  go_wp2_with fail
  refine (has_no (B p) _ (by omega) Hn.out).mono ?_
  rintro e w' ⟨rfl, rfl⟩
  go_wp2_with fail
  rw [join_b p]
  refine HZ.out.mono ?_
  rintro e w1 ⟨rfl, hb⟩
  go_wp2
  go_ret
  exact ⟨rfl, hb⟩

theorem join_c (p : List UInt8) : (⟨#[100, 97, 116, 97, 58]⟩ ++ ⟨#[97, 112, 112, 108, 105, 99, 97, 116, 105, 111, 110, 47, 106, 115, 111, 110]⟩ ++ ⟨#[44]⟩ ++ B p : ByteArray) = B (whole json p) := by
  apply ext_list
  simp [whole, pre, json]

set_option maxRecDepth 100000 in
set_option maxHeartbeats 1000000 in
theorem law_c (k : Int) (p : List UInt8) (w : World) (h0 : 0 ≤ k) (h1 : k ≤ 255) (hk : k % 3 = 2) (hq : k / 3 % 2 = 0) (hp : p.length ≤ 1048576) (hn : NoPct (B p)) :
    Calls Tryz.prog 3 #[.int .u8 k, .string (B p)] w fun e w' => e = .returned (.bool true) ∧ Below w.heap.size w w' := by
  have HZ := Lib.hid (zz json p w 11 3 hp hn mime_c (Or.inr (Or.inr ⟨rfl, rfl⟩)))
  have Hn := Lib.hid hn
  have hsz : (B p).size ≤ 1048576 := by rw [Lib.size_eq]; exact hp
  clear hn
  go_enter Tryz.func3, Tryz.ntmps3
  go_wp2_with fail
  refine (bytes_ok k (B p) _ hsz).mono ?_
  rintro e w' ⟨rfl, rfl⟩
  go_wp2_with fail
  refine (has_no (B p) _ (by omega) Hn.out).mono ?_
  rintro e w' ⟨rfl, rfl⟩
  go_wp2_with fail
  rw [join_c p]
  refine HZ.out.mono ?_
  rintro e w1 ⟨rfl, hb⟩
  go_wp2
  go_ret
  exact ⟨rfl, hb⟩

theorem join_d (p : List UInt8) : (⟨#[100, 97, 116, 97, 58]⟩ ++ (⟨#[116, 101, 120, 116, 47, 99, 115, 115]⟩ ++ ⟨#[59, 99, 104, 97, 114, 115, 101, 116, 61, 117, 116, 102, 45, 56]⟩) ++ ⟨#[44]⟩ ++ B p : ByteArray) = B (whole (css ++ chr) p) := by
  apply ext_list
  simp [whole, pre, css, chr]

set_option maxRecDepth 100000 in
set_option maxHeartbeats 1000000 in
theorem law_d (k : Int) (p : List UInt8) (w : World) (h0 : 0 ≤ k) (h1 : k ≤ 255) (hk : k % 3 = 0) (hq : k / 3 % 2 = 1) (hp : p.length ≤ 1048576) (hn : NoPct (B p)) :
    Calls Tryz.prog 3 #[.int .u8 k, .string (B p)] w fun e w' => e = .returned (.bool true) ∧ Below w.heap.size w w' := by
  have HZ := Lib.hid (zz (css ++ chr) p w 4 1 hp hn mime_d (Or.inl ⟨rfl, rfl⟩))
  have Hn := Lib.hid hn
  have hsz : (B p).size ≤ 1048576 := by rw [Lib.size_eq]; exact hp
  clear hn
  go_enter Tryz.func3, Tryz.ntmps3
  go_wp2_with fail
  refine (bytes_ok k (B p) _ hsz).mono ?_
  rintro e w' ⟨rfl, rfl⟩
  go_wp2_with fail
  refine (has_no (B p) _ (by omega) Hn.out).mono ?_
  rintro e w' ⟨rfl, rfl⟩
  go_wp2_with fail
  rw [join_d p]
  refine HZ.out.mono ?_
  rintro e w1 ⟨rfl, hb⟩
  go_wp2
  go_ret
  exact ⟨rfl, hb⟩

theorem join_e (p : List UInt8) : (⟨#[100, 97, 116, 97, 58]⟩ ++ (⟨#[116, 101, 120, 116, 47, 106, 97, 118, 97, 115, 99, 114, 105, 112, 116]⟩ ++ ⟨#[59, 99, 104, 97, 114, 115, 101, 116, 61, 117, 116, 102, 45, 56]⟩) ++ ⟨#[44]⟩ ++ B p : ByteArray) = B (whole (js ++ chr) p) := by
  apply ext_list
  simp [whole, pre, js, chr]

set_option maxRecDepth 100000 in
set_option maxHeartbeats 1000000 in
theorem law_e (k : Int) (p : List UInt8) (w : World) (h0 : 0 ≤ k) (h1 : k ≤ 255) (hk : k % 3 = 1) (hq : k / 3 % 2 = 1) (hp : p.length ≤ 1048576) (hn : NoPct (B p)) :
    Calls Tryz.prog 3 #[.int .u8 k, .string (B p)] w fun e w' => e = .returned (.bool true) ∧ Below w.heap.size w w' := by
  have HZ := Lib.hid (zz (js ++ chr) p w 10 2 hp hn mime_e (Or.inr (Or.inl ⟨rfl, rfl⟩)))
  have Hn := Lib.hid hn
  have hsz : (B p).size ≤ 1048576 := by rw [Lib.size_eq]; exact hp
  clear hn
  go_enter Tryz.func3, Tryz.ntmps3
  go_wp2_with fail
  refine (bytes_ok k (B p) _ hsz).mono ?_
  rintro e w' ⟨rfl, rfl⟩
  go_wp2_with fail
  refine (has_no (B p) _ (by omega) Hn.out).mono ?_
  rintro e w' ⟨rfl, rfl⟩
  go_wp2_with fail
  rw [join_e p]
  refine HZ.out.mono ?_
  rintro e w1 ⟨rfl, hb⟩
  go_wp2
  go_ret
  exact ⟨rfl, hb⟩

theorem join_f (p : List UInt8) : (⟨#[100, 97, 116, 97, 58]⟩ ++ (⟨#[97, 112, 112, 108, 105, 99, 97, 116, 105, 111, 110, 47, 106, 115, 111, 110]⟩ ++ ⟨#[59, 99, 104, 97, 114, 115, 101, 116, 61, 117, 116, 102, 45, 56]⟩) ++ ⟨#[44]⟩ ++ B p : ByteArray) = B (whole (json ++ chr) p) := by
  apply ext_list
  simp [whole, pre, json, chr]

set_option maxRecDepth 100000 in
set_option maxHeartbeats 1000000 in
theorem law_f (k : Int) (p : List UInt8) (w : World) (h0 : 0 ≤ k) (h1 : k ≤ 255) (hk : k % 3 = 2) (hq : k / 3 % 2 = 1) (hp : p.length ≤ 1048576) (hn : NoPct (B p)) :
    Calls Tryz.prog 3 #[.int .u8 k, .string (B p)] w fun e w' => e = .returned (.bool true) ∧ Below w.heap.size w w' := by
  have HZ := Lib.hid (zz (json ++ chr) p w 11 3 hp hn mime_f (Or.inr (Or.inr ⟨rfl, rfl⟩)))
  have Hn := Lib.hid hn
  have hsz : (B p).size ≤ 1048576 := by rw [Lib.size_eq]; exact hp
  clear hn
  go_enter Tryz.func3, Tryz.ntmps3
  go_wp2_with fail
  refine (bytes_ok k (B p) _ hsz).mono ?_
  rintro e w' ⟨rfl, rfl⟩
  go_wp2_with fail
  refine (has_no (B p) _ (by omega) Hn.out).mono ?_
  rintro e w' ⟨rfl, rfl⟩
  go_wp2_with fail
  rw [join_f p]
  refine HZ.out.mono ?_
  rintro e w1 ⟨rfl, hb⟩
  go_wp2
  go_ret
  exact ⟨rfl, hb⟩

end Go.Proofs.YtfhpndfidfdhnaaGreatFmt
