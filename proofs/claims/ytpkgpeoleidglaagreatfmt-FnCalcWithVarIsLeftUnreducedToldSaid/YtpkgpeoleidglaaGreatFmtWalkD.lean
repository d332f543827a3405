/- Contract of the copy of the numbers. -/
import Derived.Test.YtpkgpeoleidglaaGreatFmtProg
import Derived.WalkKit
import Derived.WalkMore
import Derived.WalkLawsBesides
import Derived.WalkSpells
import Derived.Lib.Hide
import Derived.Outline
import Derived.Handy
import Derived.Laws.NewBlocks
import Derived.Laws.MakeOwn
namespace Go.Proofs.YtpkgpeoleidglaaGreatFmt
open Go.RowKit

/-- Cell i behind the address a holds an int32, for each i below n. -/
def Nums (w : World) (a : Addr) (n : Nat) : Prop := ∀ i, i < n → ∃ x : Int, w.cell? (a.add i) = some (.int .i32 x) ∧ -2147483648 ≤ x ∧ x ≤ 2147483647

theorem eq_some (a : Addr) (n cap : Nat) (w : World) : (binOp BinOp.eql 22 (Value.slice (some a) n cap) (Value.slice none 0 0)).run Tryz.prog w = .ok (.bool false) w := by kernel_rfl
theorem eq_none (w : World) : (binOp BinOp.eql 22 (Value.slice none 0 0) (Value.slice none 0 0)).run Tryz.prog w = .ok (.bool true) w := by kernel_rfl

set_option maxRecDepth 100000 in
theorem clone_nil (w : World) :
    Calls Tryz.prog 6 #[.slice none 0 0] w fun e w' => e = .returned (.slice none 0 0) ∧ w = w' := by
  have he := eq_none
  go_enter Tryz.func6, Tryz.ntmps6
  go_wp2
  go_ret
  exact ⟨rfl, rfl⟩

theorem make_nums (n : Nat) (hn : n ≤ 1048576) (w : World) : (Instr.makeSlice 22 (.int .i64 (n : Int)) (.int .i64 (n : Int))).run Tryz.prog w = .ok (.slice (some ⟨w.heap.size, 0, none⟩) n n) (w.alloc (.cells (madeCells #[.int .i32 0] n) 21)) := by
  have := run_makeSlice (P := Tryz.prog) w 22 21 Tryz.t21 (.int .i32 0) Tryz.underlying22 (by kernel_rfl) (by kernel_rfl) .i64 .i64 n n (by omega) (Int.le_refl _) (by show (n : Int).toNat * 1 ≤ _; omega) (by show ((4 : Nat) : Int) * n ≤ _; omega) (by omega)
  simpa [show Tryz.t21.size = 1 from rfl, Value.cells] using this

/-- All cells of c are int32. -/
def All32 (c : Array Value) (n : Nat) : Prop := ∀ i, i < n → ∃ x : Int, c[i]? = some (.int .i32 x) ∧ -2147483648 ≤ x ∧ x ≤ 2147483647
theorem all_made (n : Nat) : All32 (madeCells #[.int .i32 0] n) n := by
  intro i hi
  refine ⟨0, ?_, by decide, by decide⟩
  simp [madeCells, hi, Nat.mod_one]
theorem all_set (c : Array Value) (n k : Nat) (x : Int) (h : All32 c n) (h0 : -2147483648 ≤ x) (h1 : x ≤ 2147483647) (hk : k < c.size) : All32 (c.setIfInBounds k (.int .i32 x)) n := by
  intro i hi
  by_cases e : k = i
  · subst e
    exact ⟨x, by simp [hk], h0, h1⟩
  · obtain ⟨y, hy, hb⟩ := h i hi
    exact ⟨y, by rw [Array.getElem?_setIfInBounds_ne e]; exact hy, hb⟩
theorem nums_of (c : Array Value) (n : Nat) (w : World) (h : All32 c n) : Nums (w.alloc (.cells c 21)) ⟨w.heap.size, 0, none⟩ n := by
  intro i hi
  obtain ⟨x, hx, hb⟩ := h i hi
  refine ⟨x, ?_, hb⟩
  have ha : (⟨w.heap.size, 0, none⟩ : Addr).add i = ⟨w.heap.size, i, none⟩ := by unfold Addr.add; split <;> simp_all
  rw [ha]
  simp [go_sem, hx]
theorem old_cell (w : World) (o : Obj) (a : Addr) (v : Value) (h : w.cell? a = some v) : (w.alloc o).cell? a = some v := by
  have hlt := World.block_lt_of_cell? w a h
  rw [← h]
  exact (Below.alloc (Below.refl w.heap.size w) (Nat.le_refl _) o).cell hlt

set_option maxRecDepth 100000 in
set_option maxHeartbeats 2000000 in
theorem clone_some (a : Addr) (n cap : Nat) (w : World) (h : Nums w a n) (hn : n ≤ 1048576) :
    Calls Tryz.prog 6 #[.slice (some a) n cap] w fun e w' => e = .returned (.slice (some ⟨w.heap.size, 0, none⟩) n n) ∧ Below w.heap.size w w' ∧ Nums w' ⟨w.heap.size, 0, none⟩ n ∧ w.heap.size < w'.heap.size := by
  have H := Lib.hid h
  have he := eq_some a n cap
  clear h
  have hm := make_nums n hn
  go_enter Tryz.func6, Tryz.ntmps6
  go_wp2_with fail
  go_loopw [4] (fun i wl => ∃ (k : Nat) (c : Array Value), k ≤ n ∧ i = .int .i64 k ∧ c.size = n ∧ Hid (All32 c n) ∧ wl = w.alloc (.cells c 21)) (fun i _ => n - (intOf i).toNat)
  case atStart => exact ⟨0, _, Nat.zero_le _, rfl, size_madeCells _ _, Lib.hid (all_made n), rfl⟩
  case round =>
    obtain ⟨k, c, hk, rfl, hsz, hall, rfl⟩ := hrel
    by_cases hlt : k < n
    · obtain ⟨x, hx, hx0, hx1⟩ := H.out k hlt
      have hr := old_cell w (.cells c 21) _ _ hx
      obtain ⟨y, hy, _⟩ := hall.out k hlt
      go_wp2_with fail
      exact ⟨⟨k + 1, _, by omega, rfl, by simpa using hsz, Lib.hid (all_set c n k x hall.out hx0 hx1 (by omega)), rfl⟩, by simp [intOf]; omega⟩
    · go_wp2_with fail
      go_ret
      exact ⟨rfl, by go_grown, nums_of c n w hall.out, by simp⟩
end Go.Proofs.YtpkgpeoleidglaaGreatFmt
