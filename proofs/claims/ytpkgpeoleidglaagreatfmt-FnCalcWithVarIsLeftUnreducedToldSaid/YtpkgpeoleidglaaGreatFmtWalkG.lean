/- The law's walk: whatever the numbers and the place of the var() token, the law answers true. -/
import Derived.Test.YtpkgpeoleidglaaGreatFmtWalkC
import Derived.Test.YtpkgpeoleidglaaGreatFmtWalkD
import Derived.Test.YtpkgpeoleidglaaGreatFmtWalkF
import Derived.Test.YtpkgpeoleidglaaGreatFmtStep
import Derived.WalkKit
import Derived.WalkMore
import Derived.WalkLawsBesides
import Derived.WalkSpells
import Derived.Lib.Hide
import Derived.Outline
import Derived.Handy
import Derived.Laws.NewBlocks
import Derived.OwnWalk
import Derived.Maps.AppendAt
import Derived.LaidEqlPtr
namespace Go.Proofs.YtpkgpeoleidglaaGreatFmt
open Go.RowKit

theorem law_long (xa : Option Addr) (n cap : Nat) (v x : Int) (b : Bool) (w : World) (hn : 1048576 < n) :
    Calls Tryz.prog 3 #[.slice xa n cap, .int .i64 v, .int .u8 x, .bool b] w fun e w' => e = .returned (.bool true) ∧ w = w' := by
  go_enter Tryz.func3, Tryz.ntmps3
  go_wp2_with fail
  refine (bytes_no _ _ _ _ _ _ _ hn).mono ?_
  rintro e w' ⟨rfl, rfl⟩
  go_wp2
  go_ret
  exact ⟨rfl, rfl⟩

theorem law_mid (xa : Option Addr) (n cap : Nat) (v x : Int) (b : Bool) (w : World) (hn : n ≤ 1048576) (hm : 65536 < n) :
    Calls Tryz.prog 3 #[.slice xa n cap, .int .i64 v, .int .u8 x, .bool b] w fun e w' => e = .returned (.bool true) ∧ w = w' := by
  go_enter Tryz.func3, Tryz.ntmps3
  go_wp2_with fail
  refine (bytes_ok _ _ _ _ _ _ _ hn).mono ?_
  rintro e w' ⟨rfl, rfl⟩
  go_wp2
  go_ret
  exact ⟨rfl, rfl⟩

/-- The argument's slice: nil, or n numbers behind an address. -/
def Arg (w : World) (xa : Option Addr) (n cap : Nat) : Prop := (xa = none ∧ n = 0 ∧ cap = 0) ∨ ∃ a, xa = some a ∧ Nums w a n
/-- The copy: nothing is read of it, or n numbers at the head of a block. -/
def Copy (w : World) (ra : Option Addr) (n : Nat) : Prop := n = 0 ∨ ∃ g, ra = some ⟨g, 0, none⟩ ∧ g < w.heap.size ∧ Nums w ⟨g, 0, none⟩ n

theorem clone (xa : Option Addr) (n cap : Nat) (w : World) (h : Arg w xa n cap) (hn : n ≤ 1048576) :
    Calls Tryz.prog 6 #[.slice xa n cap] w fun e w' => ∃ ra cp, e = .returned (.slice ra n cp) ∧ Below w.heap.size w w' ∧ Copy w' ra n := by
  rcases h with ⟨rfl, rfl, rfl⟩ | ⟨a, rfl, hN⟩
  · refine (clone_nil w).mono ?_
    rintro e w' ⟨rfl, rfl⟩
    exact ⟨none, 0, rfl, Below.refl _ _, Or.inl rfl⟩
  · refine (clone_some a n cap w hN hn).mono ?_
    rintro e w' ⟨rfl, hb, hN', hlt⟩
    exact ⟨_, _, rfl, hb, Or.inr ⟨_, rfl, hlt, hN'⟩⟩

theorem own_below {w w' : World} {B e size n : Nat} {v : Value} {xs : List Value} (h : w.ownsRow B e size v n xs) (hb : Below w.heap.size w w') : w'.ownsRow B e size v n xs := by
  refine ⟨h.1, ?_⟩
  rcases h.2 with hn | ⟨g, cap, cur, rfl, hg, hgg, rest⟩
  · exact .inl hn
  · exact .inr ⟨g, cap, cur, rfl, hg, by rw [hb.block g (Array.getElem?_eq_some_iff.1 hgg).1]; exact hgg, rest⟩

theorem Nums.up {w w' : World} {g n N : Nat} (h : Nums w ⟨g, 0, none⟩ n) (hb : Below N w w') (hg : g < N) : Nums w' ⟨g, 0, none⟩ n := by
  intro i hi
  obtain ⟨x, hx, hb2⟩ := h i hi
  refine ⟨x, ?_, hb2⟩
  have ha : (⟨g, 0, none⟩ : Addr).add i = ⟨g, i, none⟩ := by unfold Addr.add; split <;> simp_all
  rw [ha] at hx ⊢
  rw [hb.cell (p := ⟨g, i, none⟩) hg]
  exact hx

theorem cells7 (w : World) (v0 v1 v2 v3 v4 v5 v6 : Value) : ∀ j u, [v0, v1, v2, v3, v4, v5, v6][j]? = some u → (w.alloc (.cells #[v0, v1, v2, v3, v4, v5, v6] 34)).cell? ((⟨w.heap.size, 0, none⟩ : Addr).add j) = some u := by
  intro j u hj
  have ha : (⟨w.heap.size, 0, none⟩ : Addr).add j = ⟨w.heap.size, j, none⟩ := by unfold Addr.add; split <;> simp_all
  rw [ha]
  match j, hj with
  | 0, hj => simpa [go_sem] using hj
  | 1, hj => simpa [go_sem] using hj
  | 2, hj => simpa [go_sem] using hj
  | 3, hj => simpa [go_sem] using hj
  | 4, hj => simpa [go_sem] using hj
  | 5, hj => simpa [go_sem] using hj
  | 6, hj => simpa [go_sem] using hj
  | k + 7, hj => simp at hj

theorem i34 : ∃ i, Tryz.prog.info? 34 = some i ∧ i.zero = some (.agg #[.pointer none, .string ⟨#[]⟩, .int .i32 0, .int .u32 0, .int .u16 0, .int .u8 0, .int .u8 0]) ∧ i.size = 7 ∧ i.bytes = 40 :=
  ⟨Tryz.t34, by kernel_rfl, by kernel_rfl, by kernel_rfl, by kernel_rfl⟩

theorem own_lt {w : World} {g n cap e size B : Nat} {xs : List Value} (h : w.ownsRow B e size (.slice (some ⟨g, 0, none⟩) n cap) n xs) : g < w.heap.size := by
  rcases h.2 with ⟨hn, _⟩ | ⟨g', _, _, hv, _, hgg, _⟩
  · cases hn
  · cases hv
    exact (Array.getElem?_eq_some_iff.1 hgg).1
theorem one_plus : ∀ u ∈ plusV, u.oneCell' = true := by
  intro u hu
  simp only [plusV, List.mem_cons, List.mem_nil_iff, or_false] at hu
  rcases hu with rfl | rfl | rfl | rfl | rfl | rfl | rfl <;> rfl
theorem one_num (s : ByteArray) : ∀ u ∈ numV s, u.oneCell' = true := by
  intro u hu
  simp only [numV, List.mem_cons, List.mem_nil_iff, or_false] at hu
  rcases hu with rfl | rfl | rfl | rfl | rfl | rfl | rfl <;> rfl
theorem one_var (a : Addr) : ∀ u ∈ varV a, u.oneCell' = true := by
  intro u hu
  simp only [varV, List.mem_cons, List.mem_nil_iff, or_false] at hu
  rcases hu with rfl | rfl | rfl | rfl | rfl | rfl | rfl <;> rfl

def AllPlain (ts : List (List Value)) : Prop := ∀ vs ∈ ts, Plain vs

theorem own_snoc {w : World} {B e size c : Nat} {v : Value} {ts : List (List Value)} {vs : List Value} (h : w.ownsRow B e size v c (ts.flatten ++ vs)) : w.ownsRow B e size v c (ts ++ [vs]).flatten := by
  have e1 : (ts ++ [vs]).flatten = ts.flatten ++ vs := by simp
  rw [e1]; exact h
theorem tmod_range (v : Int) (c : Nat) : ∃ P : Nat, P ≤ c ∧ (v.tmod ((c : Int) + 1) = (P : Int) ∨ (v.tmod ((c : Int) + 1) = (P : Int) - ((c : Int) + 1) ∧ (P : Int) - ((c : Int) + 1) < 0)) := by
  have h1 : (v.tmod ((c : Int) + 1)).natAbs = v.natAbs % (c + 1) := by
    rw [Int.natAbs_tmod]
    rfl
  have h2 : v.natAbs % (c + 1) < c + 1 := Nat.mod_lt _ (by omega)
  rcases Int.lt_or_le (v.tmod ((c : Int) + 1)) 0 with h | h
  · exact ⟨(v.tmod ((c : Int) + 1) + ((c : Int) + 1)).toNat, by omega, Or.inr ⟨by omega, by omega⟩⟩
  · exact ⟨(v.tmod ((c : Int) + 1)).toNat, by omega, Or.inl (by omega)⟩

theorem plain_add {ts : List (List Value)} {vs : List Value} (h : AllPlain ts) (hv : Plain vs) : AllPlain (ts ++ [vs]) := by
  intro u hu
  rcases List.mem_append.1 hu with hu | hu
  · exact h u hu
  · rw [List.mem_singleton.1 hu]; exact hv

theorem plain_seven {vs : List Value} (h : Plain vs) : (∃ a0 a1 a2 a3 a4 a5 a6, vs = [a0, a1, a2, a3, a4, a5, a6]) ∧ ∀ u ∈ vs, u.oneCell' = true := by
  rcases h with rfl | ⟨s, m, _, rfl⟩
  · exact ⟨⟨_, _, _, _, _, _, _, rfl⟩, one_plus⟩
  · exact ⟨⟨_, _, _, _, _, _, _, rfl⟩, one_num s⟩
theorem flat_at : ∀ (ts : List (List Value)) (J f : Nat), (∀ vs ∈ ts, vs.length = 7) → f < 7 → ∀ hJ : J < ts.length, ts.flatten[J * 7 + f]? = (ts[J])[f]?
  | [], _, _, _, _, hJ => absurd hJ (by simp)
  | vs :: ts, 0, f, h, hf, _ => by
    have := h vs (by simp)
    rw [List.flatten_cons, List.getElem?_append_left (by omega)]
    simp
  | vs :: ts, J + 1, f, h, hf, hJ => by
    have h7 := h vs (by simp)
    rw [List.flatten_cons, List.getElem?_append_right (by omega)]
    have := flat_at ts J f (fun u hu => h u (by simp [hu])) hf (by simpa using hJ)
    rw [show (J + 1) * 7 + f - vs.length = J * 7 + f by omega, this]
    simp

/-- The second loop's state: V the variable 'out', G its array. -/
structure OutB (w : World) (B N V G c : Nat) (c2 : Nat) (os : List (List Value)) (wl : World) : Prop where
  below : Below N w wl
  size : V < wl.heap.size
  var : wl.heap[V]? = some (.cells #[.slice (some ⟨G, 0, none⟩) c2 (c + 1)] 26 (0, 0))
  own : wl.ownsRow B 34 7 (.slice (some ⟨G, 0, none⟩) c2 (c + 1)) c2 os.flatten
  len : os.length = c2

/-- The second loop's relation: inner is the address of the var() token's children. -/
structure Out (w : World) (B N V G P c : Nat) (inner : Addr) (J c2 : Nat) (os : List (List Value)) (wl : World) : Prop where
  base : OutB w B N V G c c2 os wl
  le : J ≤ P → c2 = J ∧ AllPlain os
  gt : P < J → c2 = min J c + 1 ∧ ∃ a b, os = a ++ [varV inner] ++ b ∧ a.length = P ∧ AllPlain a

theorem OutB.varAt {w wl wx w6 : World} {B N V G c c2 : Nat} {os : List (List Value)} (hO : OutB w B N V G c c2 os wl) (hx : Below wl.heap.size wl wx) (hg : wx.grownBy w6 (some G)) (hVG : V ≠ G) :
    w6.heap[V]? = some (.cells #[.slice (some ⟨G, 0, none⟩) c2 (c + 1)] 26 (0, 0)) := by
  have h1 := hO.size
  have h2 := hx.size
  rw [hg.block V (by omega) (by intro e; exact hVG (Option.some.inj e)), hx.block V h1]
  exact hO.var

theorem OutB.put {w wl wx w6 : World} {B N V G c c2 : Nat} {os : List (List Value)} {vs : List Value} (hO : OutB w B N V G c c2 os wl) (hx : Below wl.heap.size wl wx) (hg : wx.grownBy w6 (some G)) (hVG : V ≠ G) (hNV : N ≤ V) (hNG : N ≤ G)
    (hown : w6.ownsRow B 34 7 (.slice (some ⟨G, 0, none⟩) (c2 + 1) (c + 1)) (c2 + 1) (os.flatten ++ vs)) :
    OutB w B N V G c (c2 + 1) (os ++ [vs]) (w6.setCell ⟨V, 0, none⟩ (.slice (some ⟨G, 0, none⟩) (c2 + 1) (c + 1))) where
  below := by
    have h1 := hO.size
    have h2 := hx.size
    exact ((hO.below.trans (hx.mono (by omega))).grown hg (by omega) (by intro k e; cases e; exact hNG)).setCell hNV _
  size := by
    have h1 := hO.size
    have h2 := hx.size
    have h3 := hg.size
    simp
    omega
  var := by
    rw [heap_setCell_same w6 V 0 _ 26 _ (hO.varAt hx hg hVG)]
    rfl
  own := by
    refine own_snoc ⟨hown.1, ?_⟩
    rcases hown.2 with ⟨hn, _⟩ | ⟨g, cap, cur, hv, hB, hgg, rest⟩
    · cases hn
    · refine .inr ⟨g, cap, cur, hv, hB, ?_, rest⟩
      cases hv
      rw [heap_setCell_other _ _ _ _ (fun e => hVG e.symm)]
      exact hgg
  len := by have := hO.len; simp; omega

theorem plain7 {vs : List Value} (h : Plain vs) : vs.length = 7 := by
  rcases h with rfl | ⟨s, m, _, rfl⟩ <;> rfl

/-- What the tokens of 'out' are good for: plain ones ahead of the var() token. -/
theorem toks_of {w : World} {B G P n cap : Nat} {inner : Addr} {a b : List (List Value)} (hown : w.ownsRow B 34 7 (.slice (some ⟨G, 0, none⟩) n cap) n (a ++ [varV inner] ++ b).flatten) (ha : a.length = P) (hp : AllPlain a) : Toks w G P := by
  have h7 : ∀ vs ∈ a ++ [varV inner], vs.length = 7 := by
    intro vs hv
    rcases List.mem_append.1 hv with hv | hv
    · exact plain7 (hp vs hv)
    · rw [List.mem_singleton.1 hv]; rfl
  have hL : (a ++ [varV inner]).flatten.length = (P + 1) * 7 := by
    have : ∀ l : List (List Value), (∀ vs ∈ l, vs.length = 7) → l.flatten.length = l.length * 7 := by
      intro l
      induction l with
      | nil => intro _; rfl
      | cons x l ih =>
        intro h
        rw [List.flatten_cons, List.length_append, ih (fun u hu => h u (by simp [hu])), h x (by simp), List.length_cons]
        omega
    rw [this _ h7]; simp [ha]
  have hc : ∀ k f, k ≤ P → f < 7 → ∀ hk : k < (a ++ [varV inner]).length, w.cell? ⟨G, k * 7 + f, none⟩ = ((a ++ [varV inner])[k])[f]? := by
    intro k f hk hf hkl
    have e1 : (a ++ [varV inner] ++ b).flatten[k * 7 + f]? = ((a ++ [varV inner])[k])[f]? := by
      rw [List.flatten_append, List.getElem?_append_left (by rw [hL]; omega)]
      exact flat_at _ k f h7 hf hkl
    rw [← e1]
    exact hown.cellAt (k * 7 + f) (by have hl := hown.1; rw [List.flatten_append, List.length_append, hL] at hl; omega)
  constructor
  · intro k hk
    have hk2 : k < a.length := by omega
    refine ⟨a[k], hp _ (List.getElem_mem hk2), plain7 (hp _ (List.getElem_mem hk2)), fun f hf => ?_⟩
    rw [hc k f (by omega) hf (by simp; omega), List.getElem_append_left hk2]
  · refine ⟨inner, rfl, fun f hf => ?_⟩
    rw [hc P f (Nat.le_refl _) hf (by simp; omega), List.getElem_append_right (by omega)]
    simp [ha]

set_option maxRecDepth 100000 in
set_option maxHeartbeats 4000000 in
theorem law_main (xa : Option Addr) (n cap : Nat) (v x : Int) (b : Bool) (w : World) (hn : n ≤ 65536) (hv : Vars w) (h10 : 10 < w.heap.size) (hA : Arg w xa n cap) :
    Calls Tryz.prog 3 #[.slice xa n cap, .int .i64 v, .int .u8 x, .bool b] w fun e w' => e = .returned (.bool true) ∧ Below w.heap.size w w' := by
  have HV := Lib.hid hv
  have HA := Lib.hid hA
  clear hv hA
  obtain ⟨i0, hi, hz0, hz1, hz2⟩ := i34
  go_enter Tryz.func3, Tryz.ntmps3
  go_wp2_with fail
  refine (bytes_ok _ _ _ _ _ _ _ (by omega)).mono ?_
  rintro e w' ⟨rfl, rfl⟩
  go_wp2_with fail
  refine (clone xa n cap _ HA.out (by omega)).mono ?_
  rintro e w1 ⟨ra, cp, rfl, hb1, hC⟩
  have HC := Lib.hid hC
  have hs1 := hb1.size
  clear hC
  go_wp2_with (at_make; refine wpList_make_own _ rfl _ _ 26 rfl w.heap.size 34 i0 _ 7 Tryz.underlying26 hi hz0 hz1 _ _ _ (2 * n) rfl rfl (by omega) (by rw [hz2]; omega) (by unfold maxLen; omega) hs1 ?_)
  intro w2 hown2 hgrow2
  have hb2 : Below w.heap.size w w2 := hb1.grown hgrow2 hs1 (by simp)
  have hb3 : Below w1.heap.size w1 w2 := (Below.refl w1.heap.size w1).grown hgrow2 (Nat.le_refl _) (by simp)
  have hlt2 : w1.heap.size < w2.heap.size := own_lt hown2
  go_wp2_with fail
  go_loopw [10, 11] (fun ch i wl => ∃ (k c : Nat) (ts : List (List Value)), k ≤ n ∧ Hid (c = 2 * k - 1) ∧ Hid (c = ts.length) ∧ i = .int .i64 k ∧ ch = .slice (some ⟨w1.heap.size, 0, none⟩) c (2 * n) ∧ wl.ownsRow w.heap.size 34 7 (.slice (some ⟨w1.heap.size, 0, none⟩) c (2 * n)) c ts.flatten ∧ Hid (AllPlain ts) ∧ Below w1.heap.size w1 wl)
    (fun _ i _ => n - (intOf i).toNat)
  case atStart => exact ⟨0, 0, [], Nat.zero_le _, Lib.hid rfl, Lib.hid rfl, rfl, rfl, hown2, Lib.hid (by intro vs hvs; cases hvs), hb3⟩
  case round =>
    obtain ⟨k, c, ts, hk, hck, hct, rfl, rfl, hown, hpl, hbw⟩ := hrel
    by_cases hlt : k < n
    · obtain ⟨g, rfl, hg, hN⟩ : ∃ g, ra = some ⟨g, 0, none⟩ ∧ g < w1.heap.size ∧ Nums w1 ⟨g, 0, none⟩ n := by
        rcases HC.out with h | h
        · omega
        · exact h
      have HN := Lib.hid hN
      clear hN
      have hsw := hbw.size
      obtain ⟨y, hy, hy0, hy1⟩ := HN.out k hlt
      have hcy : ∀ u, Below w1.heap.size w1 u → u.cell? ⟨g, k, none⟩ = some (.int .i32 y) := fun u hu => by
        rw [hu.cell (p := ⟨g, k, none⟩) hg, ← hy]
        congr 1
        unfold Addr.add; split <;> simp_all
      have HCY := Lib.hid hcy
      clear hcy hy
      by_cases k0 : k = 0
      · subst k0
        have hr := HCY.out wr hbw
        go_wp2_with fail
        refine (itoa y _ hy0 hy1).mono ?_
        rintro e w5 ⟨⟨s, m, rfl, hs⟩, hb5, hs5⟩
        have HS := Lib.hid hs
        clear hs
        have hbw5 := hbw.trans (hb5.mono hsw)
        go_wp2_with (at_builtin; refine wpList_append_fits _ rfl (.tmp 52) (.tmp 60) 26 rfl w.heap.size 34 i0 7 Tryz.underlying26 hi hz1 w1.heap.size c (2 * n) ts.flatten rfl (own_below (own_below hown hb5) ((Below.refl _ _).alloc (Nat.le_refl _) _)) ⟨w5.heap.size, 0, none⟩ 1 1 (numV s) rfl rfl (cells7 _ _ _ _ _ _ _ _) (one_num s) (by have := hck.out; omega) ?_; intro w6 hown6 hgrow6; have hb6 := (hbw5.alloc (by have := hbw5.size; omega) (.cells (numV s).toArray 34)).grown hgrow6 (by have := hbw5.size; simp; omega) (by intro k h; cases h; exact Nat.le_refl _); have hown7 := own_snoc hown6; clear hown6 hgrow6)
        refine ⟨⟨1, c + 1, ts ++ [numV s], by omega, Lib.hid (by have := hck.out; omega), Lib.hid (by have := hct.out; simp; omega), rfl, rfl, by assumption, Lib.hid (plain_add hpl.out (Or.inr ⟨s, m, HS.out, rfl⟩)), by assumption⟩, by simp [intOf]; omega⟩
      · have hk1 : (0 : Int) < (k : Int) := by omega
        go_wp2_with (at_builtin; refine wpList_append_fits _ rfl (.tmp 47) (.tmp 50) 26 rfl w.heap.size 34 i0 7 Tryz.underlying26 hi hz1 w1.heap.size c (2 * n) ts.flatten rfl (own_below hown ((Below.refl _ _).alloc (Nat.le_refl _) _)) ⟨wr.heap.size, 0, none⟩ 1 1 plusV rfl rfl (cells7 _ _ _ _ _ _ _ _) one_plus (by have := hck.out; omega) ?_; intro w4 hown4 hgrow4; have hb4 := (hbw.alloc (by omega) (.cells plusV.toArray 34)).grown hgrow4 (by simp; omega) (by intro k h; cases h; exact Nat.le_refl _); have hr4 := HCY.out w4 hb4)
        refine (itoa y _ hy0 hy1).mono ?_
        rintro e w5 ⟨⟨s, m, rfl, hs⟩, hb5, hs5⟩
        have HS := Lib.hid hs
        clear hs
        have hs4 := hb4.size
        have hbw5 := hb4.trans (hb5.mono hs4)
        go_wp2_with (at_builtin; refine wpList_append_fits _ rfl (.tmp 52) (.tmp 60) 26 rfl w.heap.size 34 i0 7 Tryz.underlying26 hi hz1 w1.heap.size (c + 1) (2 * n) (ts ++ [plusV]).flatten rfl (own_below (own_below (own_snoc hown4) hb5) ((Below.refl _ _).alloc (Nat.le_refl _) _)) ⟨w5.heap.size, 0, none⟩ 1 1 (numV s) rfl rfl (cells7 _ _ _ _ _ _ _ _) (one_num s) (by have := hck.out; omega) ?_; intro w6 hown6 hgrow6; have hb6 := (hbw5.alloc (by have := hbw5.size; omega) (.cells (numV s).toArray 34)).grown hgrow6 (by have := hbw5.size; simp; omega) (by intro k h; cases h; exact Nat.le_refl _); have hown7 := own_snoc hown6; clear hown6 hgrow6)
        refine ⟨⟨k + 1, c + 1 + 1, ts ++ [plusV] ++ [numV s], by omega, Lib.hid (by have := hck.out; omega), Lib.hid (by have := hct.out; simp; omega), rfl, rfl, by assumption, Lib.hid (plain_add (plain_add hpl.out (Or.inl rfl)) (Or.inr ⟨s, m, HS.out, rfl⟩)), by assumption⟩, by simp [intOf]; omega⟩
    · obtain ⟨wc, rfl⟩ : ∃ wc, wc = wr := ⟨wr, rfl⟩
      have hcb : c ≤ 131072 := by have := hck.out; omega
      obtain ⟨P, hP, hmod⟩ := tmod_range v c
      have hsw := hbw.size
      rcases hmod with hmod | ⟨hmod, hneg⟩
      all_goals
        go_wp2_with (at_make; refine wpList_make_own _ rfl _ _ 26 rfl w1.heap.size 34 i0 _ 7 Tryz.underlying26 hi hz0 hz1 _ _ _ (c + 1) rfl rfl (by omega) (by rw [hz2]; omega) (by unfold maxLen; omega) (by simp; omega) ?_)
        intro w3 hown3 hgrow3
        have hl3 : wc.heap.size + 1 + 1 < w3.heap.size := own_lt hown3
        have hb33 : Below wc.heap.size wc w3 := by
          refine Below.grown ?_ hgrow3 ?_ ?_
          · go_grown
          · first | (simp; done) | (simp; omega)
          · intro k h; cases h
        go_wp2_with fail
        go_loopw [16] (fun j wl => ∃ (J c2 : Nat) (os : List (List Value)), J ≤ c + 1 ∧ j = .int .i64 J ∧ Hid (Out wc w1.heap.size wc.heap.size w3.heap.size (wc.heap.size + 1 + 1) P c ⟨wc.heap.size + 1, 0, none⟩ J c2 os wl)) (fun j _ => c + 1 - (intOf j).toNat)
        case atStart => exact ⟨0, 0, [], Nat.zero_le _, rfl, Lib.hid ⟨⟨hb33.alloc (by omega) _, by simp, Array.getElem?_push_size, hown3.alloc _, rfl⟩, fun _ => ⟨rfl, fun u hu => by cases hu⟩, fun h => absurd h (by omega)⟩⟩
        case round =>
          obtain ⟨J, c2, os, hJ, rfl, hO⟩ := hrel
          have v0 := hO.out.base.var
          have hVG : w3.heap.size ≠ wc.heap.size + 1 + 1 := by omega
          by_cases hlt : J ≤ c
          · by_cases hJP : J = P
            · subst hJP
              obtain ⟨hcJ, hap⟩ := hO.out.le (Nat.le_refl _)
              have HAP := Lib.hid hap
              have HCJ := Lib.hid hcJ
              clear hap hcJ
              have hJP1 : ((J : Int) == (J : Int)) = true := by simp
              have v1 : wr.cell? ⟨w3.heap.size, 0, none⟩ = some (.slice (some ⟨wc.heap.size + 1 + 1, 0, none⟩) c2 (c + 1)) := by simp [World.cell?, v0]
              have hVs : w3.heap.size < wr.heap.size := hO.out.base.size
              have hOwn := Lib.hid hO.out.base.own
              have HVAT := Lib.hid (fun wx w6 (hx : Below wr.heap.size wr wx) (hg : wx.grownBy w6 (some (wc.heap.size + 1 + 1))) => hO.out.base.varAt hx hg hVG)
              by_cases hJc : J < c
              · have hJcB : decide (J < c) = true := by simpa using hJc
                go_wp2_with (at_builtin; refine wpList_append_fits _ rfl (.tmp 86) (.tmp 88) 26 rfl w1.heap.size 34 i0 7 Tryz.underlying26 hi hz1 (wc.heap.size + 1 + 1) c2 (c + 1) os.flatten rfl (hOwn.out.alloc _) ⟨wr.heap.size, 0, none⟩ 1 1 (varV ⟨wc.heap.size + 1, 0, none⟩) rfl rfl (cells7 _ _ _ _ _ _ _ _) (one_var _) (by have := HCJ.out; omega) ?_; intro w6 hown6 hgrow6; have hv6 : w6.heap[w3.heap.size]? = some (.cells #[.slice (some ⟨wc.heap.size + 1 + 1, 0, none⟩) c2 (c + 1)] 26 (0, 0)) := HVAT.out _ _ ((Below.refl _ _).alloc (Nat.le_refl _) _) hgrow6; have hcv6 : w6.cell? ⟨w3.heap.size, 0, none⟩ = some (.slice (some ⟨wc.heap.size + 1 + 1, 0, none⟩) c2 (c + 1)) := (by simp [World.cell?, hv6]); have hfz6 : w6.frozen? ⟨w3.heap.size, 0, none⟩ = false := frozen_of_row w6 _ _ _ _ hv6)
                rename World => w6
                rename World.grownBy _ _ _ => hg6
                have hB7 := hO.out.base.put (wx := wr.alloc (.cells (varV ⟨wc.heap.size + 1, 0, none⟩).toArray 34)) (w6 := w6) ((Below.refl _ _).alloc (Nat.le_refl _) _) hg6 hVG (by omega) (by omega) (by assumption)
                clear hg6
                obtain ⟨w7, hw7⟩ : ∃ w7, w7 = w6.setCell ⟨w3.heap.size, 0, none⟩ (.slice (some ⟨wc.heap.size + 1 + 1, 0, none⟩) (c2 + 1) (c + 1)) := ⟨_, rfl⟩
                rw [← hw7] at hB7 ⊢
                clear hw7
                have hch := own_below hown hB7.below
                have hJl : J < ts.length := by have := hct.out; omega
                obtain ⟨⟨a0, a1, a2, a3, a4, a5, a6, hvs⟩, hone⟩ := plain_seven (hpl.out _ (List.getElem_mem hJl))
                have hfl := fun f hf => (hch.cellAt (J * 7 + f) (by omega)).trans (flat_at ts J f (fun u hu => plain7 (hpl.out u hu)) hf hJl)
                rw [hvs] at hfl hone
                have HGT : Hid (c2 + 1 + 1 = min (J + 1) c + 1 ∧ ∃ a b, os ++ [varV ⟨wc.heap.size + 1, 0, none⟩] ++ [[a0, a1, a2, a3, a4, a5, a6]] = a ++ [varV ⟨wc.heap.size + 1, 0, none⟩] ++ b ∧ a.length = J ∧ AllPlain a) := by
                  have e1 := HCJ.out
                  have e2 := hO.out.base.len
                  exact ⟨by omega, os, [[a0, a1, a2, a3, a4, a5, a6]], rfl, by omega, HAP.out⟩
                have k0 : w7.cell? ⟨w1.heap.size, J * 7, none⟩ = some a0 := hfl 0 (by decide)
                have k1 : w7.cell? ⟨w1.heap.size, J * 7 + 1, none⟩ = some a1 := hfl 1 (by decide)
                have k2 : w7.cell? ⟨w1.heap.size, J * 7 + 2, none⟩ = some a2 := hfl 2 (by decide)
                have k3 : w7.cell? ⟨w1.heap.size, J * 7 + 3, none⟩ = some a3 := hfl 3 (by decide)
                have k4 : w7.cell? ⟨w1.heap.size, J * 7 + 4, none⟩ = some a4 := hfl 4 (by decide)
                have k5 : w7.cell? ⟨w1.heap.size, J * 7 + 5, none⟩ = some a5 := hfl 5 (by decide)
                have k6 : w7.cell? ⟨w1.heap.size, J * 7 + 6, none⟩ = some a6 := hfl 6 (by decide)
                have HONE := Lib.hid hone
                clear hfl hone hvs
                have hVs7 : w3.heap.size < w7.heap.size := hB7.size
                have hCs : w1.heap.size < w7.heap.size := own_lt hch
                have v7 : w7.cell? ⟨w3.heap.size, 0, none⟩ = some (.slice (some ⟨wc.heap.size + 1 + 1, 0, none⟩) (c2 + 1) (c + 1)) := by simp [World.cell?, hB7.var]
                have hOwn7 := Lib.hid hB7.own
                have HVAT7 := Lib.hid (fun wx w6 (hx : Below w7.heap.size w7 wx) (hg : wx.grownBy w6 (some (wc.heap.size + 1 + 1))) => hB7.varAt hx hg hVG)
                have HC7 := Lib.hid (cells7 w7.drew a0 a1 a2 a3 a4 a5 a6)
                have HB7 := Lib.hid hB7
                clear hB7
                have hc2 : c2 + 1 + 1 ≤ c + 1 := by have := HCJ.out; omega
                go_region_law (refine step_append_fits rfl (.tmp 93) (.tmp 98) 26 rfl w1.heap.size 34 i0 7 Tryz.underlying26 hi hz1 (wc.heap.size + 1 + 1) (c2 + 1) (c + 1) (os ++ [varV ⟨wc.heap.size + 1, 0, none⟩]).flatten (by simp [Act.eval]) (hOwn7.out.drew.alloc _) ⟨w7.heap.size, 0, none⟩ 1 1 [a0, a1, a2, a3, a4, a5, a6] (by simp [Act.eval]) rfl HC7.out HONE.out hc2 ?_; intro w8 hown8 hgrow8; have hv8 : w8.heap[w3.heap.size]? = some (.cells #[.slice (some ⟨wc.heap.size + 1 + 1, 0, none⟩) (c2 + 1) (c + 1)] 26 (0, 0)) := HVAT7.out _ _ (((Below.refl _ _).drew).alloc (Nat.le_refl _) _) hgrow8; have hcv8 : w8.cell? ⟨w3.heap.size, 0, none⟩ = some (.slice (some ⟨wc.heap.size + 1 + 1, 0, none⟩) (c2 + 1) (c + 1)) := (by simp [World.cell?, hv8]); have hfz8 : w8.frozen? ⟨w3.heap.size, 0, none⟩ = false := frozen_of_row w8 _ _ _ _ hv8)
                all_goals go_wp2_with fail
                all_goals exact ⟨⟨J + 1, c2 + 1 + 1, os ++ [varV ⟨wc.heap.size + 1, 0, none⟩] ++ [[a0, a1, a2, a3, a4, a5, a6]], by omega, rfl, Lib.hid ⟨HB7.out.put (wx := w7.drew.alloc (.cells #[a0, a1, a2, a3, a4, a5, a6] 34)) (((Below.refl _ _).drew).alloc (Nat.le_refl _) _) (by assumption) hVG (by omega) (by omega) (by assumption), fun h => absurd h (by omega), fun _ => HGT.out⟩⟩, by simp [intOf]; omega⟩
              · have hJcE : J = c := by omega
                have HJE := Lib.hid hJcE
                have hJcB : decide (J < c) = false := by simpa using hJc
                have hcl : c2 + 1 ≤ c + 1 := by have := HCJ.out; omega
                have HGT : Hid (c2 + 1 = min (J + 1) c + 1 ∧ ∃ a b, os ++ [varV ⟨wc.heap.size + 1, 0, none⟩] = a ++ [varV ⟨wc.heap.size + 1, 0, none⟩] ++ b ∧ a.length = J ∧ AllPlain a) := by
                  have e1 := HCJ.out
                  have e2 := hO.out.base.len
                  exact ⟨by omega, os, [], by simp, by omega, HAP.out⟩
                clear hJcE
                go_wp2_with (at_builtin; refine wpList_append_fits _ rfl (.tmp 86) (.tmp 88) 26 rfl w1.heap.size 34 i0 7 Tryz.underlying26 hi hz1 (wc.heap.size + 1 + 1) c2 (c + 1) os.flatten rfl (hOwn.out.alloc _) ⟨wr.heap.size, 0, none⟩ 1 1 (varV ⟨wc.heap.size + 1, 0, none⟩) rfl rfl (cells7 _ _ _ _ _ _ _ _) (one_var _) hcl ?_; intro w6 hown6 hgrow6; have hv6 : w6.heap[w3.heap.size]? = some (.cells #[.slice (some ⟨wc.heap.size + 1 + 1, 0, none⟩) c2 (c + 1)] 26 (0, 0)) := HVAT.out _ _ ((Below.refl _ _).alloc (Nat.le_refl _) _) hgrow6; have hcv6 : w6.cell? ⟨w3.heap.size, 0, none⟩ = some (.slice (some ⟨wc.heap.size + 1 + 1, 0, none⟩) c2 (c + 1)) := (by simp [World.cell?, hv6]); have hfz6 : w6.frozen? ⟨w3.heap.size, 0, none⟩ = false := frozen_of_row w6 _ _ _ _ hv6)
                exact ⟨⟨J + 1, c2 + 1, os ++ [varV ⟨wc.heap.size + 1, 0, none⟩], by have := HJE.out; omega, rfl, Lib.hid ⟨hO.out.base.put (wx := wr.alloc (.cells (varV ⟨wc.heap.size + 1, 0, none⟩).toArray 34)) ((Below.refl _ _).alloc (Nat.le_refl _) _) (by assumption) hVG (by omega) (by omega) (by assumption), fun h => absurd h (by omega), fun _ => HGT.out⟩⟩, by have := HJE.out; simp [intOf]; omega⟩
            · have hJ1 : ((J : Int) == (P : Int)) = false := by simp; omega
              have v1 : wr.cell? ⟨w3.heap.size, 0, none⟩ = some (.slice (some ⟨wc.heap.size + 1 + 1, 0, none⟩) c2 (c + 1)) := by simp [World.cell?, v0]
              by_cases hJc : J < c
              · have hch := own_below hown hO.out.base.below
                have hJl : J < ts.length := by have := hct.out; omega
                obtain ⟨⟨a0, a1, a2, a3, a4, a5, a6, hvs⟩, hone⟩ := plain_seven (hpl.out _ (List.getElem_mem hJl))
                have hfl := fun f hf => (hch.cellAt (J * 7 + f) (by omega)).trans (flat_at ts J f (fun u hu => by obtain ⟨⟨_, _, _, _, _, _, _, e⟩, _⟩ := plain_seven (hpl.out u hu); rw [e]; rfl) hf hJl)
                have hpv := hpl.out _ (List.getElem_mem hJl)
                rw [hvs] at hfl hone hpv
                have HLE : Hid (J + 1 ≤ P → c2 + 1 = J + 1 ∧ AllPlain (os ++ [[a0, a1, a2, a3, a4, a5, a6]])) := fun h => by
                  obtain ⟨e, ha⟩ := hO.out.le (by omega)
                  exact ⟨by omega, plain_add ha hpv⟩
                have HGT : Hid (P < J + 1 → c2 + 1 = min (J + 1) c + 1 ∧ ∃ a b, os ++ [[a0, a1, a2, a3, a4, a5, a6]] = a ++ [varV ⟨wc.heap.size + 1, 0, none⟩] ++ b ∧ a.length = P ∧ AllPlain a) := fun h => by
                  obtain ⟨e, a, b, e2, e3, e4⟩ := hO.out.gt (by omega)
                  exact ⟨by omega, a, b ++ [[a0, a1, a2, a3, a4, a5, a6]], by rw [e2]; simp, e3, e4⟩
                clear hpv
                have k0 : wr.cell? ⟨w1.heap.size, J * 7, none⟩ = some a0 := hfl 0 (by decide)
                have k1 : wr.cell? ⟨w1.heap.size, J * 7 + 1, none⟩ = some a1 := hfl 1 (by decide)
                have k2 : wr.cell? ⟨w1.heap.size, J * 7 + 2, none⟩ = some a2 := hfl 2 (by decide)
                have k3 : wr.cell? ⟨w1.heap.size, J * 7 + 3, none⟩ = some a3 := hfl 3 (by decide)
                have k4 : wr.cell? ⟨w1.heap.size, J * 7 + 4, none⟩ = some a4 := hfl 4 (by decide)
                have k5 : wr.cell? ⟨w1.heap.size, J * 7 + 5, none⟩ = some a5 := hfl 5 (by decide)
                have k6 : wr.cell? ⟨w1.heap.size, J * 7 + 6, none⟩ = some a6 := hfl 6 (by decide)
                have HONE := Lib.hid hone
                clear hfl hone
                have hc2 : c2 ≤ c := by
                  rcases Nat.lt_or_ge P J with h | h
                  · have := (hO.out.gt h).1; omega
                  · have := (hO.out.le h).1; omega
                have hVs : w3.heap.size < wr.heap.size := hO.out.base.size
                have hCs : w1.heap.size < wr.heap.size := own_lt hch
                have hOwn := Lib.hid hO.out.base.own
                have HVAT := Lib.hid (fun wx w6 (hx : Below wr.heap.size wr wx) (hg : wx.grownBy w6 (some (wc.heap.size + 1 + 1))) => hO.out.base.varAt hx hg hVG)
                have HC7 := Lib.hid (cells7 wr.drew a0 a1 a2 a3 a4 a5 a6)
                go_wp2_with fail
                go_region_law (refine step_append_fits rfl (.tmp 93) (.tmp 98) 26 rfl w1.heap.size 34 i0 7 Tryz.underlying26 hi hz1 (wc.heap.size + 1 + 1) c2 (c + 1) os.flatten (by simp [Act.eval]) (hOwn.out.drew.alloc _) ⟨wr.heap.size, 0, none⟩ 1 1 [a0, a1, a2, a3, a4, a5, a6] (by simp [Act.eval]) rfl HC7.out HONE.out (by omega) ?_; intro w6 hown6 hgrow6; have hv6 : w6.heap[w3.heap.size]? = some (.cells #[.slice (some ⟨wc.heap.size + 1 + 1, 0, none⟩) c2 (c + 1)] 26 (0, 0)) := HVAT.out _ _ (((Below.refl _ _).drew).alloc (Nat.le_refl _) _) hgrow6; have hcv6 : w6.cell? ⟨w3.heap.size, 0, none⟩ = some (.slice (some ⟨wc.heap.size + 1 + 1, 0, none⟩) c2 (c + 1)) := (by simp [World.cell?, hv6]); have hfz6 : w6.frozen? ⟨w3.heap.size, 0, none⟩ = false := frozen_of_row w6 _ _ _ _ hv6)
                all_goals go_wp2_with fail
                all_goals exact ⟨⟨J + 1, c2 + 1, os ++ [[a0, a1, a2, a3, a4, a5, a6]], by omega, rfl, Lib.hid ⟨hO.out.base.put (wx := wr.drew.alloc (.cells #[a0, a1, a2, a3, a4, a5, a6] 34)) (((Below.refl _ _).drew).alloc (Nat.le_refl _) _) (by assumption) hVG (by omega) (by omega) (by assumption), HLE.out, HGT.out⟩⟩, by simp [intOf]; omega⟩
              · have hJc2 : J = c := by omega
                have HOUT : Hid (Out wc w1.heap.size wc.heap.size w3.heap.size (wc.heap.size + 1 + 1) P c ⟨wc.heap.size + 1, 0, none⟩ (J + 1) c2 os wr) :=
                  ⟨hO.out.base, fun h => absurd h (by omega), fun h => by
                    obtain ⟨e, r⟩ := hO.out.gt (by omega)
                    exact ⟨by omega, r⟩⟩
                subst hJc2
                go_wp2_with fail
                exact ⟨⟨_, c2, os, Nat.le_refl _, rfl, HOUT⟩, by simp [intOf]⟩
          · have hbe := hO.out.base.below
            have hce : Below w.heap.size w wr := (hb1.trans (hbw.mono hs1)).trans (hbe.mono (by omega))
            obtain ⟨ec, ⟨pa, pb, eos, hpa, hpp⟩⟩ := hO.out.gt (by omega)
            have hc2 : c2 = c + 1 := by omega
            subst hc2
            have HT := Lib.hid (toks_of (eos ▸ hO.out.base.own) hpa hpp)
            have hVs := hO.out.base.size
            clear ec eos hpa
            have v1 : wr.cell? ⟨w3.heap.size, 0, none⟩ = some (.slice (some ⟨wc.heap.size + 1 + 1, 0, none⟩) (c + 1) (c + 1)) := by simp [World.cell?, v0]
            go_wp2_with fail
            refine (parser _ _).mono ?_
            rintro e w4 ⟨⟨pp, rfl⟩, hb4, hs4⟩
            have t0 : w4.cell? ⟨wr.heap.size, 0, none⟩ = some (.pointer (some ⟨w3.heap.size, 0, none⟩)) := by rw [hb4.cell (by first | (simp; done) | (simp; omega))]; simp [go_sem]
            have t1 : w4.cell? ⟨wr.heap.size, 1, none⟩ = some (.string ⟨#[99, 97, 108, 99]⟩) := by rw [hb4.cell (by first | (simp; done) | (simp; omega))]; simp [go_sem]
            have t2 : w4.cell? ⟨wr.heap.size, 2, none⟩ = some (.int .i32 0) := by rw [hb4.cell (by first | (simp; done) | (simp; omega))]; simp [go_sem]
            have t3 : w4.cell? ⟨wr.heap.size, 3, none⟩ = some (.int .u32 0) := by rw [hb4.cell (by first | (simp; done) | (simp; omega))]; simp [go_sem]
            have t4 : w4.cell? ⟨wr.heap.size, 4, none⟩ = some (.int .u16 0) := by rw [hb4.cell (by first | (simp; done) | (simp; omega))]; simp [go_sem]
            have t5 : w4.cell? ⟨wr.heap.size, 5, none⟩ = some (.int .u8 27) := by rw [hb4.cell (by first | (simp; done) | (simp; omega))]; simp [go_sem]
            have t6 : w4.cell? ⟨wr.heap.size, 6, none⟩ = some (.int .u8 x) := by rw [hb4.cell (by first | (simp; done) | (simp; omega))]; simp [go_sem]
            have hsz4 : wr.heap.size + 1 ≤ w4.heap.size := by simpa using hs4
            have hb4r : Below wr.heap.size wr w4 := ((Below.refl _ _).alloc (Nat.le_refl _) _).trans (hb4.mono (by simp))
            have HB4 := Lib.hid hb4r
            clear hb4 hs4 hb4r
            go_wp2_with fail
            refine (zreduce _ w3.heap.size (wc.heap.size + 1 + 1) (c + 1) P (c + 1) x _ (by omega) (HV.out.up (hce.trans (HB4.out.mono (by omega))) h10) (by omega) (by omega) (by omega) (by omega) (HT.out.up HB4.out (by omega)) (by rw [HB4.out.cell (by first | (simp; done) | (simp; omega))]; exact v1)).mono ?_
            rintro e w5 ⟨rfl, hb5⟩
            simp only [calcT]
            have t0 : w5.cell? ⟨wr.heap.size, 0, none⟩ = some (.pointer (some ⟨w3.heap.size, 0, none⟩)) := by rw [hb5.cell (by first | (simp; done) | (simp; omega))]; first | exact t0 | simp [t0, go_sem]
            have t1 : w5.cell? ⟨wr.heap.size, 1, none⟩ = some (.string ⟨#[99, 97, 108, 99]⟩) := by rw [hb5.cell (by first | (simp; done) | (simp; omega))]; first | exact t1 | simp [t1, go_sem]
            have t2 : w5.cell? ⟨wr.heap.size, 2, none⟩ = some (.int .i32 0) := by rw [hb5.cell (by first | (simp; done) | (simp; omega))]; first | exact t2 | simp [t2, go_sem]
            have t3 : w5.cell? ⟨wr.heap.size, 3, none⟩ = some (.int .u32 0) := by rw [hb5.cell (by first | (simp; done) | (simp; omega))]; first | exact t3 | simp [t3, go_sem]
            have t4 : w5.cell? ⟨wr.heap.size, 4, none⟩ = some (.int .u16 0) := by rw [hb5.cell (by first | (simp; done) | (simp; omega))]; first | exact t4 | simp [t4, go_sem]
            have t5 : w5.cell? ⟨wr.heap.size, 5, none⟩ = some (.int .u8 27) := by rw [hb5.cell (by first | (simp; done) | (simp; omega))]; first | exact t5 | simp [t5, go_sem]
            have t6 : w5.cell? ⟨wr.heap.size, 6, none⟩ = some (.int .u8 x) := by rw [hb5.cell (by first | (simp; done) | (simp; omega))]; first | exact t6 | simp [t6, go_sem]
            have hs5 := hb5.size
            have hlt5 : wr.heap.size < w5.heap.size := by omega
            have z0 : ∀ o, (w5.alloc o).cell? ⟨wr.heap.size, 0, none⟩ = some (.pointer (some ⟨w3.heap.size, 0, none⟩)) := fun o => (((Below.refl w5.heap.size w5).alloc (Nat.le_refl _) o).cell (p := ⟨wr.heap.size, 0, none⟩) hlt5).trans t0
            have z1 : ∀ o, (w5.alloc o).cell? ⟨wr.heap.size, 1, none⟩ = some (.string ⟨#[99, 97, 108, 99]⟩) := fun o => (((Below.refl w5.heap.size w5).alloc (Nat.le_refl _) o).cell (p := ⟨wr.heap.size, 1, none⟩) hlt5).trans t1
            have z2 : ∀ o, (w5.alloc o).cell? ⟨wr.heap.size, 2, none⟩ = some (.int .i32 0) := fun o => (((Below.refl w5.heap.size w5).alloc (Nat.le_refl _) o).cell (p := ⟨wr.heap.size, 2, none⟩) hlt5).trans t2
            have z3 : ∀ o, (w5.alloc o).cell? ⟨wr.heap.size, 3, none⟩ = some (.int .u32 0) := fun o => (((Below.refl w5.heap.size w5).alloc (Nat.le_refl _) o).cell (p := ⟨wr.heap.size, 3, none⟩) hlt5).trans t3
            have z4 : ∀ o, (w5.alloc o).cell? ⟨wr.heap.size, 4, none⟩ = some (.int .u16 0) := fun o => (((Below.refl w5.heap.size w5).alloc (Nat.le_refl _) o).cell (p := ⟨wr.heap.size, 4, none⟩) hlt5).trans t4
            have z5 : ∀ o, (w5.alloc o).cell? ⟨wr.heap.size, 5, none⟩ = some (.int .u8 27) := fun o => (((Below.refl w5.heap.size w5).alloc (Nat.le_refl _) o).cell (p := ⟨wr.heap.size, 5, none⟩) hlt5).trans t5
            have z6 : ∀ o, (w5.alloc o).cell? ⟨wr.heap.size, 6, none⟩ = some (.int .u8 x) := fun o => (((Below.refl w5.heap.size w5).alloc (Nat.le_refl _) o).cell (p := ⟨wr.heap.size, 6, none⟩) hlt5).trans t6
            have hpe : ∀ W : World, (binOp .eql 28 (.pointer (some ⟨w3.heap.size, 0, none⟩)) (.pointer (some ⟨w3.heap.size, 0, none⟩))).run Tryz.prog W = .ok (.bool true) W := fun W => run_eql_ptr_same W _ Tryz.underlying28 (j := Tryz.t26) (by kernel_rfl)
            go_wp2_with fail
            go_ret
            exact ⟨rfl, ((hce.trans (HB4.out.mono (by omega))).trans (hb5.mono (by omega))).alloc (by omega) _⟩
end Go.Proofs.YtpkgpeoleidglaaGreatFmt
