/- Contracts of the reduction of a calc() token with a var() among its tokens, and of the fresh parser. -/
import Derived.Test.YtpkgpeoleidglaaGreatFmtWalkE
import Derived.WalkKit
import Derived.WalkMore
import Derived.WalkLawsBesides
import Derived.WalkSpells
import Derived.Lib.Hide
import Derived.Outline
import Derived.Handy
import Derived.Laws.NewBlocks
namespace Go.Proofs.YtpkgpeoleidglaaGreatFmt
open Go.RowKit

/-- The calc() token over the children at the block ob. -/
def calcT (ob : Nat) (x : Int) : Value := .agg #[.pointer (some ⟨ob, 0, none⟩), .string ⟨#[99, 97, 108, 99]⟩, .int .i32 0, .int .u32 0, .int .u16 0, .int .u8 27, .int .u8 x]

theorem Toks.up {w w' : World} {g pos N : Nat} (h : Toks w g pos) (hb : Below N w w') (hg : g < N) : Toks w' g pos where
  plain := fun k hk => by
    obtain ⟨vs, hv, ht⟩ := h.plain k hk
    exact ⟨vs, hv, ht.up hb hg⟩
  stop := by
    obtain ⟨a, ht⟩ := h.stop
    exact ⟨a, ht.up hb hg⟩

set_option maxRecDepth 100000 in
set_option maxHeartbeats 2000000 in
theorem reduce (p : Option Addr) (ob g n pos cap : Nat) (x : Int) (w : World) (hn : n ≤ 1048576) (hv : Vars w) (hg : g < w.heap.size) (ho : ob < w.heap.size) (h10 : 10 < w.heap.size) (hpos : pos < n) (h : Toks w g pos)
    (hc : w.cell? ⟨ob, 0, none⟩ = some (.slice (some ⟨g, 0, none⟩) n cap)) :
    Calls Tryz.prog 12 #[.pointer p, calcT ob x] w fun e w' => e = .returned (calcT ob x) ∧ Below w.heap.size w w' := by
  have H := Lib.hid h
  have HV := Lib.hid hv
  clear h hv
  unfold calcT
  go_enter Tryz.func12, Tryz.ntmps12
  go_wp2_with fail
  have hb : Below w.heap.size w ((w.alloc (.cells #[.pointer (some ⟨ob, 0, none⟩), .string ⟨#[99, 97, 108, 99]⟩, .int .i32 0, .int .u32 0, .int .u16 0, .int .u8 27, .int .u8 x] 34)).alloc (.cells #[.pointer none, .string ⟨#[]⟩, .int .i32 0, .int .u32 0, .int .u16 0, .int .u8 0, .int .u8 0] 34)) := by go_grown
  refine (parse g n pos cap _ hn (HV.out.up hb h10) (by simp; omega) (by simp; omega) hpos (H.out.up hb hg)).mono ?_
  rintro e w' ⟨rfl, hw⟩
  have t0 : w'.cell? ⟨w.heap.size, 0, none⟩ = some (.pointer (some ⟨ob, 0, none⟩)) := by rw [hw.cell (by first | (simp; done) | (simp; omega))]; simp [go_sem]
  have t1 : w'.cell? ⟨w.heap.size, 1, none⟩ = some (.string ⟨#[99, 97, 108, 99]⟩) := by rw [hw.cell (by first | (simp; done) | (simp; omega))]; simp [go_sem]
  have t2 : w'.cell? ⟨w.heap.size, 2, none⟩ = some (.int .i32 0) := by rw [hw.cell (by first | (simp; done) | (simp; omega))]; simp [go_sem]
  have t3 : w'.cell? ⟨w.heap.size, 3, none⟩ = some (.int .u32 0) := by rw [hw.cell (by first | (simp; done) | (simp; omega))]; simp [go_sem]
  have t4 : w'.cell? ⟨w.heap.size, 4, none⟩ = some (.int .u16 0) := by rw [hw.cell (by first | (simp; done) | (simp; omega))]; simp [go_sem]
  have t5 : w'.cell? ⟨w.heap.size, 5, none⟩ = some (.int .u8 27) := by rw [hw.cell (by first | (simp; done) | (simp; omega))]; simp [go_sem]
  have t6 : w'.cell? ⟨w.heap.size, 6, none⟩ = some (.int .u8 x) := by rw [hw.cell (by first | (simp; done) | (simp; omega))]; simp [go_sem]
  have r0 : w'.cell? ⟨w.heap.size + 1, 0, none⟩ = some (.pointer none) := by rw [hw.cell (by first | (simp; done) | (simp; omega))]; simp [go_sem]
  have r1 : w'.cell? ⟨w.heap.size + 1, 1, none⟩ = some (.string ⟨#[]⟩) := by rw [hw.cell (by first | (simp; done) | (simp; omega))]; simp [go_sem]
  have r2 : w'.cell? ⟨w.heap.size + 1, 2, none⟩ = some (.int .i32 0) := by rw [hw.cell (by first | (simp; done) | (simp; omega))]; simp [go_sem]
  have r3 : w'.cell? ⟨w.heap.size + 1, 3, none⟩ = some (.int .u32 0) := by rw [hw.cell (by first | (simp; done) | (simp; omega))]; simp [go_sem]
  have r4 : w'.cell? ⟨w.heap.size + 1, 4, none⟩ = some (.int .u16 0) := by rw [hw.cell (by first | (simp; done) | (simp; omega))]; simp [go_sem]
  have r5 : w'.cell? ⟨w.heap.size + 1, 5, none⟩ = some (.int .u8 0) := by rw [hw.cell (by first | (simp; done) | (simp; omega))]; simp [go_sem]
  have r6 : w'.cell? ⟨w.heap.size + 1, 6, none⟩ = some (.int .u8 0) := by rw [hw.cell (by first | (simp; done) | (simp; omega))]; simp [go_sem]
  have f0 : w'.frozen? ⟨w.heap.size + 1, 0, none⟩ = false := by rw [hw.frozen (by first | (simp; done) | (simp; omega))]; simp [go_sem]
  have f1 : w'.frozen? ⟨w.heap.size + 1, 1, none⟩ = false := by rw [hw.frozen (by first | (simp; done) | (simp; omega))]; simp [go_sem]
  have f2 : w'.frozen? ⟨w.heap.size + 1, 2, none⟩ = false := by rw [hw.frozen (by first | (simp; done) | (simp; omega))]; simp [go_sem]
  have f3 : w'.frozen? ⟨w.heap.size + 1, 3, none⟩ = false := by rw [hw.frozen (by first | (simp; done) | (simp; omega))]; simp [go_sem]
  have f4 : w'.frozen? ⟨w.heap.size + 1, 4, none⟩ = false := by rw [hw.frozen (by first | (simp; done) | (simp; omega))]; simp [go_sem]
  have f5 : w'.frozen? ⟨w.heap.size + 1, 5, none⟩ = false := by rw [hw.frozen (by first | (simp; done) | (simp; omega))]; simp [go_sem]
  have f6 : w'.frozen? ⟨w.heap.size + 1, 6, none⟩ = false := by rw [hw.frozen (by first | (simp; done) | (simp; omega))]; simp [go_sem]
  have hbel : Below w.heap.size w w' := hb.trans (hw.mono (by simp; omega))
  clear hb hw
  go_wp2_with fail
  refine bodyPost_ret (v := .agg #[.pointer (some ⟨ob, 0, none⟩), .string ⟨#[99, 97, 108, 99]⟩, .int .i32 0, .int .u32 0, .int .u16 0, .int .u8 27, .int .u8 x]) (by simp [results, Tryz.results12, go_sem, r0, r1, r2, r3, r4, r5, r6]) rfl ⟨rfl, ?_⟩
  go_grown

set_option maxRecDepth 100000 in
set_option maxHeartbeats 2000000 in
theorem zreduce (p : Option Addr) (ob g n pos cap : Nat) (x : Int) (w : World) (hn : n ≤ 1048576) (hv : Vars w) (hg : g < w.heap.size) (ho : ob < w.heap.size) (h10 : 10 < w.heap.size) (hpos : pos < n) (h : Toks w g pos)
    (hc : w.cell? ⟨ob, 0, none⟩ = some (.slice (some ⟨g, 0, none⟩) n cap)) :
    Calls Tryz.prog 9 #[.pointer p, calcT ob x] w fun e w' => e = .returned (calcT ob x) ∧ Below w.heap.size w w' := by
  have H := Lib.hid h
  have HV := Lib.hid hv
  clear h hv
  unfold calcT
  go_enter Tryz.func9, Tryz.ntmps9
  go_wp2_with fail
  have hb : Below w.heap.size w ((w.alloc (.cells #[.pointer (some ⟨ob, 0, none⟩), .string ⟨#[99, 97, 108, 99]⟩, .int .i32 0, .int .u32 0, .int .u16 0, .int .u8 27, .int .u8 x] 34)).alloc (.cells #[.pointer none, .string ⟨#[]⟩, .int .i32 0, .int .u32 0, .int .u16 0, .int .u8 0, .int .u8 0] 34)) := by go_grown
  refine (reduce p ob g n pos cap x _ hn (HV.out.up hb h10) (by simp; omega) (by simp; omega) (by simp; omega) hpos (H.out.up hb hg) (by rw [hb.cell ho]; exact hc)).mono ?_
  rintro e w' ⟨rfl, hw⟩
  simp only [calcT]
  have t0 : w'.cell? ⟨w.heap.size, 0, none⟩ = some (.pointer (some ⟨ob, 0, none⟩)) := by rw [hw.cell (by first | (simp; done) | (simp; omega))]; simp [go_sem]
  have t1 : w'.cell? ⟨w.heap.size, 1, none⟩ = some (.string ⟨#[99, 97, 108, 99]⟩) := by rw [hw.cell (by first | (simp; done) | (simp; omega))]; simp [go_sem]
  have t2 : w'.cell? ⟨w.heap.size, 2, none⟩ = some (.int .i32 0) := by rw [hw.cell (by first | (simp; done) | (simp; omega))]; simp [go_sem]
  have t3 : w'.cell? ⟨w.heap.size, 3, none⟩ = some (.int .u32 0) := by rw [hw.cell (by first | (simp; done) | (simp; omega))]; simp [go_sem]
  have t4 : w'.cell? ⟨w.heap.size, 4, none⟩ = some (.int .u16 0) := by rw [hw.cell (by first | (simp; done) | (simp; omega))]; simp [go_sem]
  have t5 : w'.cell? ⟨w.heap.size, 5, none⟩ = some (.int .u8 27) := by rw [hw.cell (by first | (simp; done) | (simp; omega))]; simp [go_sem]
  have t6 : w'.cell? ⟨w.heap.size, 6, none⟩ = some (.int .u8 x) := by rw [hw.cell (by first | (simp; done) | (simp; omega))]; simp [go_sem]
  have r0 : w'.cell? ⟨w.heap.size + 1, 0, none⟩ = some (.pointer none) := by rw [hw.cell (by first | (simp; done) | (simp; omega))]; simp [go_sem]
  have r1 : w'.cell? ⟨w.heap.size + 1, 1, none⟩ = some (.string ⟨#[]⟩) := by rw [hw.cell (by first | (simp; done) | (simp; omega))]; simp [go_sem]
  have r2 : w'.cell? ⟨w.heap.size + 1, 2, none⟩ = some (.int .i32 0) := by rw [hw.cell (by first | (simp; done) | (simp; omega))]; simp [go_sem]
  have r3 : w'.cell? ⟨w.heap.size + 1, 3, none⟩ = some (.int .u32 0) := by rw [hw.cell (by first | (simp; done) | (simp; omega))]; simp [go_sem]
  have r4 : w'.cell? ⟨w.heap.size + 1, 4, none⟩ = some (.int .u16 0) := by rw [hw.cell (by first | (simp; done) | (simp; omega))]; simp [go_sem]
  have r5 : w'.cell? ⟨w.heap.size + 1, 5, none⟩ = some (.int .u8 0) := by rw [hw.cell (by first | (simp; done) | (simp; omega))]; simp [go_sem]
  have r6 : w'.cell? ⟨w.heap.size + 1, 6, none⟩ = some (.int .u8 0) := by rw [hw.cell (by first | (simp; done) | (simp; omega))]; simp [go_sem]
  have f0 : w'.frozen? ⟨w.heap.size + 1, 0, none⟩ = false := by rw [hw.frozen (by first | (simp; done) | (simp; omega))]; simp [go_sem]
  have f1 : w'.frozen? ⟨w.heap.size + 1, 1, none⟩ = false := by rw [hw.frozen (by first | (simp; done) | (simp; omega))]; simp [go_sem]
  have f2 : w'.frozen? ⟨w.heap.size + 1, 2, none⟩ = false := by rw [hw.frozen (by first | (simp; done) | (simp; omega))]; simp [go_sem]
  have f3 : w'.frozen? ⟨w.heap.size + 1, 3, none⟩ = false := by rw [hw.frozen (by first | (simp; done) | (simp; omega))]; simp [go_sem]
  have f4 : w'.frozen? ⟨w.heap.size + 1, 4, none⟩ = false := by rw [hw.frozen (by first | (simp; done) | (simp; omega))]; simp [go_sem]
  have f5 : w'.frozen? ⟨w.heap.size + 1, 5, none⟩ = false := by rw [hw.frozen (by first | (simp; done) | (simp; omega))]; simp [go_sem]
  have f6 : w'.frozen? ⟨w.heap.size + 1, 6, none⟩ = false := by rw [hw.frozen (by first | (simp; done) | (simp; omega))]; simp [go_sem]
  have hbel : Below w.heap.size w w' := hb.trans (hw.mono (by simp; omega))
  clear hb hw
  go_wp2_with fail
  refine bodyPost_ret (v := .agg #[.pointer (some ⟨ob, 0, none⟩), .string ⟨#[99, 97, 108, 99]⟩, .int .i32 0, .int .u32 0, .int .u16 0, .int .u8 27, .int .u8 x]) (by simp [results, Tryz.results9, go_sem, r0, r1, r2, r3, r4, r5, r6]) rfl ⟨rfl, ?_⟩
  go_grown

set_option maxRecDepth 100000 in
set_option maxHeartbeats 2000000 in
theorem parser (b : Bool) (w : World) :
    Calls Tryz.prog 8 #[.bool b] w fun e w' => (∃ a, e = .returned (.pointer a)) ∧ Below w.heap.size w w' ∧ w.heap.size ≤ w'.heap.size := by
  go_enter Tryz.func8, Tryz.ntmps8
  go_wp2_with fail
  go_ret
  exact ⟨⟨_, rfl⟩, by go_grown, by simp⟩
end Go.Proofs.YtpkgpeoleidglaaGreatFmt
