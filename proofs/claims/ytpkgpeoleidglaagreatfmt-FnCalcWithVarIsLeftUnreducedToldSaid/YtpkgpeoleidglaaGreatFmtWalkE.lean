/- Contract of the parse of the calc() terms: at a var() among the tokens it gives nil. -/
import Derived.Test.YtpkgpeoleidglaaGreatFmtWalkB
import Derived.WalkKit
import Derived.WalkMore
import Derived.WalkLawsBesides
import Derived.WalkSpells
import Derived.Lib.Hide
import Derived.Outline
import Derived.Handy
import Derived.Laws.NewBlocks
import Derived.Laws.MakeOwn
import Derived.StillTailTactics
import Derived.Deep.QuietTactic
import Derived.BigQuiet
namespace Go.Proofs.YtpkgpeoleidglaaGreatFmt
open Go.RowKit

theorem make_terms (n : Nat) (hn : n ≤ 1048576) (w : World) : (Instr.makeSlice 93 (.int .i64 (n : Int)) (.int .i64 (n : Int))).run Tryz.prog w = .ok (.slice (some ⟨w.heap.size, 0, none⟩) n n) (w.alloc (.cells (madeCells #[.nilIface, .int .i32 0] (n * 2)) 110)) := by
  have := run_makeSlice (P := Tryz.prog) w 93 110 Tryz.t110 (.agg #[.nilIface, .int .i32 0]) Tryz.underlying93 (by kernel_rfl) (by kernel_rfl) .i64 .i64 n n (by omega) (Int.le_refl _) (by show (n : Int).toNat * 2 ≤ _; omega) (by show ((24 : Nat) : Int) * n ≤ _; omega) (by omega)
  simpa [show Tryz.t110.size = 2 from rfl, Value.cells] using this

theorem still_of_quiet_op {P : Program} {o : Oper} {a : Act} {w : World} {K K' : Act → Prop} (hk : ∀ a, K a → K' a) (h : o.quiet P a (fun x => x = w) K) : o.still P a w K' := by
  obtain ⟨v, hv, hn⟩ := h
  have hq := hv w rfl
  unfold Oper.quietAt at hq
  unfold Oper.still
  generalize (execOp a.eval o).run P w = r at hq
  match r, hq with
  | .ok (.value u) w', ⟨h1, h2⟩ => exact ⟨h1, by rw [h2]; exact hk _ hn⟩
  | .ok .skip w', ⟨h1, h2⟩ => exact ⟨h1, by rw [← h2]; exact hk _ hn⟩
  | .ok (.enter f args) w', ⟨h1, h2⟩ => exact ⟨h1, v, h2, hk _ hn⟩

/-- A lexical walk in one world serves where the tail of the region writes. -/
theorem still_of_quiet {P : Program} {ops : Array Oper} {w : World} {Q : Act → Prop} : ∀ (l : List Oper) (a : Act), wpQuiet P ops (fun x => x = w) Q l a → wpStill P ops w Q l a
  | [], _, h => h
  | o :: rest, a, h => by
    unfold wpQuiet at h
    unfold wpStill
    split
    · rename_i hw
      rw [if_pos hw] at h
      exact still_of_quiet_op (fun a => still_of_quiet rest a) h
    · rename_i hw
      rw [if_neg hw] at h
      exact still_of_quiet rest _ h

/-- The cells of the three kinds of token. -/
def plusV : List Value := [.pointer none, .string ⟨#[43]⟩, .int .i32 0, .int .u32 0, .int .u16 0, .int .u8 23, .int .u8 3]
def numV (s : ByteArray) : List Value := [.pointer none, .string s, .int .i32 0, .int .u32 0, .int .u16 0, .int .u8 30, .int .u8 0]
def varV (a : Addr) : List Value := [.pointer (some a), .string ⟨#[118, 97, 114]⟩, .int .i32 0, .int .u32 0, .int .u16 0, .int .u8 27, .int .u8 0]
/-- The token k of the block g has the cells vs. -/
def TokAt (w : World) (g k : Nat) (vs : List Value) : Prop := vs.length = 7 ∧ ∀ f, f < 7 → w.cell? ⟨g, k * 7 + f, none⟩ = vs[f]?
def Plain (vs : List Value) : Prop := vs = plusV ∨ ∃ s n, IntText s n ∧ vs = numV s
structure Toks (w : World) (g pos : Nat) : Prop where
  plain : ∀ k, k < pos → ∃ vs, Plain vs ∧ TokAt w g k vs
  stop : ∃ a, TokAt w g pos (varV a)

/-- The block of the terms. -/
structure Terms (w : World) (N n : Nat) (wr : World) : Prop where
  below : Below N w wr
  lt : N < wr.heap.size
  blk : ∃ c, wr.heap[N]? = some (.cells c 110 (0, 0)) ∧ c.size = n * 2

theorem Vars.up {w w' : World} {N : Nat} (h : Vars w) (hb : Below N w w') (hN : 10 < N) : Vars w' :=
  ⟨by rw [hb.cell (p := ⟨9, 0, none⟩) (by show 9 < N; omega)]; exact h.opt, by rw [hb.cell (p := ⟨10, 0, none⟩) hN]; exact h.bits⟩

theorem Terms.step {w W2 : World} {N n i : Nat} {c : Array Value} {v : Value} {o : Obj} (hb : Below N w W2) (hs : N < W2.heap.size) (hc : W2.heap[N]? = some (.cells c 110 (0, 0))) (hz : c.size = n * 2) :
    Terms w N n ((W2.setCell ⟨N, i, none⟩ v).alloc o) where
  below := (hb.setCell (Nat.le_refl N) v).alloc (by simp; omega) o
  lt := by simp; omega
  blk := ⟨c.setIfInBounds i v, by
    rw [Below.heap_alloc _ _ _ (by simpa using hs)]
    exact heap_setCell_same W2 N i c 110 v hc, by simpa using hz⟩

theorem TokAt.up {w w' : World} {g k : Nat} {vs : List Value} {N : Nat} (h : TokAt w g k vs) (hb : Below N w w') (hg : g < N) : TokAt w' g k vs :=
  ⟨h.1, fun f hf => by rw [hb.cell (p := ⟨g, k * 7 + f, none⟩) hg]; exact h.2 f hf⟩

theorem TokAt.cells {w : World} {g k : Nat} {v0 v1 v2 v3 v4 v5 v6 : Value} (h : TokAt w g k [v0, v1, v2, v3, v4, v5, v6]) :
    w.cell? ⟨g, k * 7, none⟩ = some v0 ∧ w.cell? ⟨g, k * 7 + 1, none⟩ = some v1 ∧ w.cell? ⟨g, k * 7 + 2, none⟩ = some v2 ∧ w.cell? ⟨g, k * 7 + 3, none⟩ = some v3 ∧ w.cell? ⟨g, k * 7 + 4, none⟩ = some v4 ∧ w.cell? ⟨g, k * 7 + 5, none⟩ = some v5 ∧ w.cell? ⟨g, k * 7 + 6, none⟩ = some v6 :=
  ⟨h.2 0 (by decide), h.2 1 (by decide), h.2 2 (by decide), h.2 3 (by decide), h.2 4 (by decide), h.2 5 (by decide), h.2 6 (by decide)⟩

set_option maxRecDepth 100000 in
set_option maxHeartbeats 2000000 in
theorem parse (g n pos cap : Nat) (w : World) (hn : n ≤ 1048576) (hv : Vars w) (hg : g < w.heap.size) (h10 : 10 < w.heap.size) (hpos : pos < n) (h : Toks w g pos) :
    Calls Tryz.prog 13 #[.slice (some ⟨g, 0, none⟩) n cap] w fun e w' => e = .returned .nilIface ∧ Below w.heap.size w w' := by
  have hm := make_terms n hn
  have H := Lib.hid h
  have HV := Lib.hid hv
  clear h hv
  go_enter Tryz.func13, Tryz.ntmps13
  go_wp2_with fail
  go_loopw [37] (fun i wl => ∃ k : Nat, k ≤ pos ∧ i = .int .i64 k ∧ Hid (Terms w w.heap.size n wl)) (fun i _ => n - (intOf i).toNat)
  case atStart => exact ⟨0, Nat.zero_le _, rfl, Lib.hid ⟨(Below.refl _ _).alloc (Nat.le_refl _) _, by simp, _, Array.getElem?_push_size, size_madeCells _ _⟩⟩
  case round =>
    obtain ⟨k, hk, rfl, hT⟩ := hrel
    obtain ⟨c, hc, hsz⟩ := hT.out.blk
    by_cases hlt : k < pos
    · obtain ⟨vs, hvs, htok⟩ := H.out.plain k hlt
      rcases hvs with rfl | ⟨s, m, hs, rfl⟩
      · obtain ⟨c0, c1, c2, c3, c4, c5, c6⟩ := (htok.up hT.out.below hg).cells
        have q1 : bits .and .u8 3 1 = 1 := by decide
        have q2 : bits .and .u8 3 2 = 2 := by decide
        by_cases k0 : k = 0
        · subst k0
          go_wp2_with fail
          refine wp_region_still_tail 53 (by kernel_rfl) (by kernel_rfl) ?_
          simp only [List.take_succ_cons, List.take_zero, List.drop_succ_cons, List.drop_zero]
          change wpStill _ _ (World.drew _) (fun a' => wpList _ _ _ _ a' (World.drew _)) _ _
          obtain ⟨W2, hW2⟩ : ∃ W2, W2 = (wr.alloc (.cells #[.pointer none, .string ⟨#[43]⟩, .int .i32 0, .int .u32 0, .int .u16 0, .int .u8 23, .int .u8 3] 34)).drew := ⟨_, rfl⟩
          have d0 : W2.cell? ⟨wr.heap.size, 0, none⟩ = some (.pointer none) := by rw [hW2]; simp [go_sem]
          have d1 : W2.cell? ⟨wr.heap.size, 1, none⟩ = some (.string ⟨#[43]⟩) := by rw [hW2]; simp [go_sem]
          have d2 : W2.cell? ⟨wr.heap.size, 2, none⟩ = some (.int .i32 0) := by rw [hW2]; simp [go_sem]
          have d3 : W2.cell? ⟨wr.heap.size, 3, none⟩ = some (.int .u32 0) := by rw [hW2]; simp [go_sem]
          have d4 : W2.cell? ⟨wr.heap.size, 4, none⟩ = some (.int .u16 0) := by rw [hW2]; simp [go_sem]
          have d5 : W2.cell? ⟨wr.heap.size, 5, none⟩ = some (.int .u8 23) := by rw [hW2]; simp [go_sem]
          have d6 : W2.cell? ⟨wr.heap.size, 6, none⟩ = some (.int .u8 3) := by rw [hW2]; simp [go_sem]
          have hN := hT.out.lt
          have hs2 : w.heap.size < W2.heap.size := by rw [hW2]; simp; omega
          have hb2 : W2.heap[w.heap.size]? = some (.cells c 110 (0, 0)) := by
            rw [hW2]
            show (wr.alloc _).heap[w.heap.size]? = _
            rw [Below.heap_alloc _ _ _ hN, hc]
          obtain ⟨x, hx⟩ : ∃ x, c[0]? = some x := ⟨_, Array.getElem?_eq_getElem (by omega)⟩
          have e1 : W2.cell? ⟨w.heap.size, 0, none⟩ = some x := by simp [World.cell?, hb2, hx]
          have e2 : W2.frozen? ⟨w.heap.size, 0, none⟩ = false := frozen_of_row W2 _ _ _ _ hb2
          have hbel : Below w.heap.size w W2 := by rw [hW2]; exact (hT.out.below.alloc (by omega) _).drew
          rw [← hW2]
          refine still_of_quiet _ _ ?_
          repeat (go_big_quiet_step (fail))
          refine wpQuiet_nil ?_
          clear hW2
          go_wp2_with fail
          exact ⟨⟨1, by omega, rfl, Lib.hid (Terms.step hbel hs2 hb2 hsz)⟩, by simp [intOf]; omega⟩
        · have hk1 : (0 : Int) < (k : Int) := by omega
          have hk2 : (k : Int) + 1 < (n : Int) := by omega
          go_wp2_with fail
          refine wp_region_still_tail 53 (by kernel_rfl) (by kernel_rfl) ?_
          simp only [List.take_succ_cons, List.take_zero, List.drop_succ_cons, List.drop_zero]
          change wpStill _ _ (World.drew _) (fun a' => wpList _ _ _ _ a' (World.drew _)) _ _
          obtain ⟨W2, hW2⟩ : ∃ W2, W2 = (wr.alloc (.cells #[.pointer none, .string ⟨#[43]⟩, .int .i32 0, .int .u32 0, .int .u16 0, .int .u8 23, .int .u8 3] 34)).drew := ⟨_, rfl⟩
          have d0 : W2.cell? ⟨wr.heap.size, 0, none⟩ = some (.pointer none) := by rw [hW2]; simp [go_sem]
          have d1 : W2.cell? ⟨wr.heap.size, 1, none⟩ = some (.string ⟨#[43]⟩) := by rw [hW2]; simp [go_sem]
          have d2 : W2.cell? ⟨wr.heap.size, 2, none⟩ = some (.int .i32 0) := by rw [hW2]; simp [go_sem]
          have d3 : W2.cell? ⟨wr.heap.size, 3, none⟩ = some (.int .u32 0) := by rw [hW2]; simp [go_sem]
          have d4 : W2.cell? ⟨wr.heap.size, 4, none⟩ = some (.int .u16 0) := by rw [hW2]; simp [go_sem]
          have d5 : W2.cell? ⟨wr.heap.size, 5, none⟩ = some (.int .u8 23) := by rw [hW2]; simp [go_sem]
          have d6 : W2.cell? ⟨wr.heap.size, 6, none⟩ = some (.int .u8 3) := by rw [hW2]; simp [go_sem]
          have hN := hT.out.lt
          have hs2 : w.heap.size < W2.heap.size := by rw [hW2]; simp; omega
          have hb2 : W2.heap[w.heap.size]? = some (.cells c 110 (0, 0)) := by
            rw [hW2]
            show (wr.alloc _).heap[w.heap.size]? = _
            rw [Below.heap_alloc _ _ _ hN, hc]
          obtain ⟨x, hx⟩ : ∃ x, c[k * 2]? = some x := ⟨_, Array.getElem?_eq_getElem (by omega)⟩
          have e1 : W2.cell? ⟨w.heap.size, k * 2, none⟩ = some x := by simp [World.cell?, hb2, hx]
          have e2 : W2.frozen? ⟨w.heap.size, k * 2, none⟩ = false := frozen_of_row W2 _ _ _ _ hb2
          have hbel : Below w.heap.size w W2 := by rw [hW2]; exact (hT.out.below.alloc (by omega) _).drew
          rw [← hW2]
          have hkN : 0 < k := by omega
          have hkM : k + 1 < n := by omega
          refine still_of_quiet _ _ ?_
          repeat (go_big_quiet_step (fail))
          refine wpQuiet_nil ?_
          clear hW2
          go_wp2_with fail
          exact ⟨⟨k + 1, by omega, rfl, Lib.hid (Terms.step hbel hs2 hb2 hsz)⟩, by simp [intOf]; omega⟩
      · obtain ⟨c0, c1, c2, c3, c4, c5, c6⟩ := (htok.up hT.out.below hg).cells
        have HS := Lib.hid hs
        clear hs
        go_wp2_with fail
        refine (parse64 s m _ ((HV.out.up hT.out.below h10).up (N := wr.heap.size) ((Below.refl _ _).alloc (Nat.le_refl _) _) (by have := hT.out.lt; omega)) HS.out).mono ?_
        rintro e w' ⟨⟨f, rfl⟩, rfl⟩
        obtain ⟨W2, hW2⟩ : ∃ W2, W2 = wr.alloc (.cells #[.pointer none, .string s, .int .i32 0, .int .u32 0, .int .u16 0, .int .u8 30, .int .u8 0] 34) := ⟨_, rfl⟩
        have d2 : W2.cell? ⟨wr.heap.size, 2, none⟩ = some (.int .i32 0) := by rw [hW2]; simp [go_sem]
        have hN := hT.out.lt
        have hs2 : w.heap.size < W2.heap.size := by rw [hW2]; simp; omega
        have hb2 : W2.heap[w.heap.size]? = some (.cells c 110 (0, 0)) := by
          rw [hW2]
          show (wr.alloc _).heap[w.heap.size]? = _
          rw [Below.heap_alloc _ _ _ hN, hc]
        obtain ⟨x, hx⟩ : ∃ x, c[k * 2]? = some x := ⟨_, Array.getElem?_eq_getElem (by omega)⟩
        have e1 : W2.cell? ⟨w.heap.size, k * 2, none⟩ = some x := by simp [World.cell?, hb2, hx]
        have e2 : W2.frozen? ⟨w.heap.size, k * 2, none⟩ = false := frozen_of_row W2 _ _ _ _ hb2
        have hbel : Below w.heap.size w W2 := by rw [hW2]; exact hT.out.below.alloc (by omega) _
        rw [← hW2]
        clear hW2
        go_wp2_with fail
        exact ⟨⟨k + 1, by omega, rfl, Lib.hid (Terms.step hbel hs2 hb2 hsz)⟩, by simp [intOf]; omega⟩
    · obtain rfl : k = pos := by omega
      obtain ⟨a, htok⟩ := H.out.stop
      obtain ⟨c0, c1, c2, c3, c4, c5, c6⟩ := (htok.up hT.out.below hg).cells
      go_wp2_with fail
      refine (fold_var _).mono ?_
      rintro e w' ⟨rfl, rfl⟩
      have hbel := hT.out.below.alloc (Nat.le_of_lt hT.out.lt) (.cells #[.pointer (some a), .string ⟨#[118, 97, 114]⟩, .int .i32 0, .int .u32 0, .int .u16 0, .int .u8 27, .int .u8 0] 34)
      go_wp2_with fail
      go_ret
      exact ⟨rfl, hbel⟩
end Go.Proofs.YtpkgpeoleidglaaGreatFmt
