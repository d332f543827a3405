/- For every list of int32 numbers, every place, every whitespace byte and either answer on minifying, called on loaded variables as the program's own text lays them (tied), the law n011_183.FnCalcWithVarIsLeftUnreduced returns true and leaves its four arguments as they read; conditions: the variables listed on the row hold what the row lists (four of Go's own tables pinned by name), and fmt's text is told by the card's own Lean function (no arm of the walk asks for it). -/
import Derived.Test.YtpkgpeoleidglaaGreatFmtWalkG
import Derived.Test.YtpkgpeoleidglaaGreatFmtRows
import Derived.Test.YtpkgpeoleidglaaGreatFmtCards
import Derived.Test.YtpkgpeoleidglaaGreatFmtTie
import Derived.ProofKit
import Derived.Stop.Joined
import Derived.Stop.JoinedAt
import Derived.Stop.JoinedTold
import Derived.SevenTiedAt
import Derived.Lay
import Derived.LaidMore
import Derived.OpenVars
import Derived.SizedLaws
import Derived.OpenShut
import Derived.MakeChecks
import Derived.Carry
import Derived.Deep.Strs
namespace Go.Proofs.YtpkgpeoleidglaaGreatFmt
open Go.ChangeShapes Go.WideShapes Go.ChangeAt Go.RowKit
open Go.Extern.Stop Go.Stop Go.Extern

theorem own : ownKnob Tryz.prog.godebug = none := by kernel_rfl
theorem laidOut : laidOutB Tryz.pinned.checked.prog = true := by kernel_rfl
theorem laidOut' : laidOutB Tryz.prog = true := by kernel_rfl
theorem stops : Tryz.pinned.checked.prog.stops = ["fmt.Sprintf"] := by kernel_rfl
theorem stopKnobs : Tryz.pinned.checked.prog.stopKnobs = [] := by kernel_rfl
theorem quiet (os : Os) : Stop.quiet Tryz.pinned.checked.prog os := by
  intro k hk
  rw [stopKnobs] at hk
  cases hk

/-- Whatever the four arguments, the law answers true and nothing below the heap's old size has turned. -/
theorem law (xa : Option Addr) (n cap : Nat) (v x : Int) (b : Bool) (w : World) (hv : Vars w) (h10 : 10 < w.heap.size) (hA : Arg w xa n cap) :
    Calls Tryz.prog 3 #[.slice xa n cap, .int .i64 v, .int .u8 x, .bool b] w fun e w' => e = .returned (.bool true) ∧ Below w.heap.size w w' := by
  by_cases h1 : 1048576 < n
  · refine (law_long xa n cap v x b w h1).mono ?_
    rintro e w' ⟨he, rfl⟩
    exact ⟨he, Below.refl _ _⟩
  · by_cases h2 : 65536 < n
    · refine (law_mid xa n cap v x b w (by omega) h2).mono ?_
      rintro e w' ⟨he, rfl⟩
      exact ⟨he, Below.refl _ _⟩
    · exact law_main xa n cap v x b w (by omega) hv h10 hA

theorem u166 : ∃ f0 f1 f2, Tryz.prog.underlying 166 = some (.struct #[f0, f1, f2]) ∧ f0.offset = 0 ∧ Tryz.prog.cellsOf f0.type = 1 ∧ Tryz.prog.underlying f0.type = some (.int .u64) :=
  ⟨_, _, _, Tryz.underlying166, by kernel_rfl, by kernel_rfl, by kernel_rfl⟩

/-- What the walk needs of the listed variables. -/
theorem laid_vars {W : World} (h : laidMetH Tryz.prog Rows.fnCalcWithVarIsLeftUnreducedRow.laid W) : Vars W ∧ 10 < W.heap.size := by
  rw [MakeChecks.laidMetH_plain _ _ _ (by kernel_rfl)] at h
  obtain ⟨ps, hl, _, _⟩ := h
  obtain ⟨_, _, _, _, _, _, _, _, _, _, h1, _⟩ := hl
  obtain ⟨_, _, _, _, _, _, _, _, _, _, h2, _⟩ := h1
  obtain ⟨_, _, _, _, _, _, _, _, _, _, h3, _⟩ := h2
  obtain ⟨g, t, cs, fuel, p, q, hg, ht, hv, hd, h4, _⟩ := h3
  obtain ⟨g', t', cs', fuel', p', q', hg', ht', hv', hd', _, _⟩ := h4
  obtain rfl := Option.some.inj ((show Tryz.prog.globalNamed "internal/strconv.float64info" = some 10 by kernel_rfl).symm.trans hg)
  obtain rfl := Option.some.inj ((show (Tryz.prog.globals[10]?).map (·.type) = some 166 by kernel_rfl).symm.trans ht)
  obtain rfl := Option.some.inj ((show Tryz.prog.globalNamed "internal/strconv.optimize" = some 9 by kernel_rfl).symm.trans hg')
  obtain rfl := Option.some.inj ((show (Tryz.prog.globals[9]?).map (·.type) = some 4 by kernel_rfl).symm.trans ht')
  obtain ⟨f0, f1, f2, e1, e2, e3, e4⟩ := u166
  obtain ⟨y0, y1, y2, m, ex, _, hy, _, _⟩ := Go.Deep.trod_struct3 e1 hd
  rw [e2, e3] at hy
  obtain ⟨z, ez, ey, _⟩ := DataW.trod_int e4 hy
  obtain ⟨b, eb, exb⟩ := DataW.trod_bool Tryz.underlying4 hd'
  have k10 : W.cell? ⟨10, 0, none⟩ = cs[0]? := World.var?_cell hg hv 0
  have k9 : W.cell? ⟨9, 0, none⟩ = cs'[0]? := World.var?_cell hg' hv' 0
  have hz : z = 52 := by
    have h0 := (DataW.agg.inj (Prod.mk.inj ex).1)
    rw [ey] at h0
    have h00 := (List.cons.inj h0).1
    simpa using h00.symm
  have hb : b = true := by
    have h0 := (Prod.mk.inj exb).1
    have h00 : (DataW.lit (.bool true) : DataW Unit) = .lit (.bool b) := h0
    simpa using h00.symm
  subst hz hb
  have c0 : cs[0]? = some (.int .u64 52) := by
    have h0 : ((cs.toList.drop 0).take 1)[0]? = some (.int .u64 52) := by rw [ez]; rfl
    simpa using h0
  have c1 : cs'[0]? = some (.bool true) := by
    have h0 : cs'.toList[0]? = some (.bool true) := by rw [eb]; rfl
    simpa using h0
  refine ⟨⟨k9.trans c1, k10.trans c0⟩, ?_⟩
  have hk := k10.trans c0
  unfold World.cell? at hk
  by_cases hlt : 10 < W.heap.size
  · exact hlt
  · rw [Array.getElem?_eq_none (by show W.heap.size ≤ 10; omega)] at hk
    simp at hk

theorem laidShaped (os : Os) : ((World.laidAll Tryz.prog os Rows.fnCalcWithVarIsLeftUnreducedRow.laid).forCall (fun _ _ => 0) ⟨#[], #[.slice none 0 0, .int .i64 0, .int .u8 0, .bool false], []⟩).Shaped Tryz.prog :=
  World.shaped_of_ZipB (by kernel_rfl) (by kernel_rfl)
theorem laidStands (os : Os) : laidMetH Tryz.prog Rows.fnCalcWithVarIsLeftUnreducedRow.laid ((World.laidAll Tryz.prog os Rows.fnCalcWithVarIsLeftUnreducedRow.laid).forCall (fun _ _ => 0) ⟨#[], #[.slice none 0 0, .int .i64 0, .int .u8 0, .bool false], []⟩).memory := by
  rw [MakeChecks.laidMetH_plain _ _ _ (by kernel_rfl)]
  exact laidMet_laidAll _ (by kernel_rfl) (by kernel_rfl)
theorem laidRow (os : Os) {H : Type} (enc : TypeId × Value → H) :
    (OpenSpec.ofChange Rows.fnCalcWithVarIsLeftUnreducedSpec).preRow enc Tryz.prog Tryz.f3 Rows.fnCalcWithVarIsLeftUnreducedRow.domain false Rows.fnCalcWithVarIsLeftUnreducedRow.laid
      ((World.laidAll Tryz.prog os Rows.fnCalcWithVarIsLeftUnreducedRow.laid).forCall (fun _ _ => 0) ⟨#[], #[.slice none 0 0, .int .i64 0, .int .u8 0, .bool false], []⟩).memory #[.slice none 0 0, .int .i64 0, .int .u8 0, .bool false] :=
  OpenSpec.preRow_of_B rfl 8 (by kernel_rfl) (by kernel_rfl) (laidStands os)
theorem laidOk (os : Os) : Input.okWideB Tryz.prog ((World.laidAll Tryz.prog os Rows.fnCalcWithVarIsLeftUnreducedRow.laid).forCall (fun _ _ => 0) ⟨#[], #[.slice none 0 0, .int .i64 0, .int .u8 0, .bool false], []⟩) 3 ⟨#[], #[.slice none 0 0, .int .i64 0, .int .u8 0, .bool false], []⟩ = true := by kernel_rfl

set_option maxRecDepth 100000 in
set_option maxHeartbeats 4000000 in
theorem t_lifted (os : Os) (started : os.Started) (H : Type) (enc : TypeId × Value → H) :
    ReturnsInTold none {} Tryz.checked os 3 .any Input.okWide ((OpenSpec.ofChange Rows.fnCalcWithVarIsLeftUnreducedSpec).preRow enc Tryz.prog Tryz.f3 Rows.fnCalcWithVarIsLeftUnreducedRow.domain false Rows.fnCalcWithVarIsLeftUnreducedRow.laid)
      (fun F => ((OpenSpec.ofChange Rows.fnCalcWithVarIsLeftUnreducedSpec).at F).post enc Tryz.prog Tryz.f3 false true false false) (aloneAtReturn Tryz.prog) nothingAlways := by
  refine returnsInTold_of_row (C := Tryz.checked) (s := OpenSpec.ofChange Rows.fnCalcWithVarIsLeftUnreducedSpec) (by kernel_rfl) own started (by kernel_rfl) Tryz.func3
    (fun F => ⟨World.laidAll Tryz.prog os Rows.fnCalcWithVarIsLeftUnreducedRow.laid, F.over fun _ _ => 0, ⟨#[], #[.slice none 0 0, .int .i64 0, .int .u8 0, .bool false], []⟩, World.laidAll_os _ _ _, laidShaped os,
      (Input.okWide_of_okWideB (base := 0) (laidOk os)).1, (Input.okWide_of_okWideB (laidOk os)).2, laidRow os enc, by
        simp only [Assume.holds]
        exact ⟨by simp, by simp, by simp, by simp, by simp⟩, F.over_answers _⟩) ?_
  intro F W base args ds gs before _ _ hval0 hW _ _ _ hL _
  have hval : ∀ (j : Nat) t v, Tryz.f3.params[j]? = some t → args[j]? = some v → Value.okWide Tryz.prog W .any base t v := hval0
  obtain ⟨hvars, h10⟩ := laid_vars hL
  have hW' := hW
  obtain ⟨p, q, hA0, hV, rfl, _, _⟩ := hW
  have hA : DataW.TrodAll enc Tryz.prog W 0 (fun _ => true) true Tryz.f3.params.toList args.toList ds p := hA0
  rw [Tryz.params3] at hA hval
  obtain ⟨v0, v1, v2, v3, d0, d1, d2, d3, p0, p1, p2, p3, rfl, rfl, rfl, h0, h1, h2, h3⟩ := trodAll_four hA
  obtain ⟨x1, rfl, rfl, rfl, w1⟩ := open_int Tryz.underlying3 (hval 1 3 v1 rfl rfl) h1
  obtain ⟨x2, rfl, rfl, rfl, w2⟩ := open_int Tryz.underlying5 (hval 2 5 v2 rfl rfl) h2
  obtain ⟨x3, rfl, rfl, rfl⟩ := open_bool Tryz.underlying4 (hval 3 4 v3 rfl rfl) h3
  obtain ⟨a0, len, cap, rfl⟩ := okWide_slice Tryz.underlying22 (hval 0 22 v0 rfl rfl)
  have h0k := h0
  obtain ⟨fuel0, hf⟩ := h0
  have hArg : Arg W a0 len cap := by
    rcases open_ints Tryz.underlying22 Tryz.underlying21 (by kernel_rfl) hf with ⟨hn, _⟩ | ⟨a, l2, c2, zs, hs, _, hle, _, hzl, _, hcell, hwf⟩
    · cases hn
      exact Or.inl ⟨rfl, rfl, rfl⟩
    · cases hs
      refine Or.inr ⟨a, rfl, fun i hi => ?_⟩
      have hi2 : i < zs.length := by rw [hzl]; split <;> omega
      refine ⟨zs.getD i 0, hcell i hi2, ?_⟩
      have hm : zs.getD i 0 ∈ zs := by
        rw [List.getD, List.getElem?_eq_getElem hi2]
        exact List.getElem_mem hi2
      have := hwf _ hm
      simpa [Lit.wf, IntKind.min, IntKind.max, IntKind.signed, IntKind.bits] using this
  have hlt : ∀ y ∈ p0, y.block < W.heap.size := fun y hy => hW'.lt y (by simp [hy])
  clear hA0 hval0 hf
  match gs, hV, hW' with
  | [], hV, hW' =>
    refine (law a0 len cap x1 x2 x3 W hvars h10 hArg).mono fun e W' ⟨he, hb⟩ => ?_
    subst he
    exact ⟨_, rfl, _, _, _, [], _, q, hW', trodAll_mk1 (shut_bool Tryz.underlying4 _),
      trodAll_mk4 (Below.trod laidOut' (by kernel_rfl) (of_decide_eq_true (by kernel_rfl)) h0k hb hlt) (shut_int Tryz.underlying3 w1) (shut_int Tryz.underlying5 w2) (shut_bool Tryz.underlying4 x3), hb.trodVars laidOut (by kernel_rfl) hV, hb.frame _, fun h => by cases h⟩
  | _ :: _, hV, _ => exact absurd hV (by intro h; exact h.elim)

theorem t_holds : Rows.FnCalcWithVarIsLeftUnreducedToldSaid :=
  Claim7.holds_of_told_tied_any_at .later 3 Tryz.f3 "fmt.Sprintf" [] [] _ _ _ _ _ (by kernel_rfl) rfl rfl rfl laidOut (by kernel_rfl) rfl ⟨rfl, rfl, rfl, rfl, rfl, rfl, rfl⟩ rfl rfl (by kernel_rfl) (by kernel_rfl) Tryz.func3 (by kernel_rfl)
    (of_decide_eq_true (by kernel_rfl)) (by unfold Func.isWrapper; first | (rw [if_pos (by decide +kernel)]; kernel_rfl) | (rw [if_neg (by decide +kernel)]; exact ⟨rfl, rfl⟩)) stops.symm rfl stopKnobs.symm (by kernel_rfl)
    (by kernel_rfl) (by kernel_rfl) (by kernel_rfl) (by kernel_rfl) (by kernel_rfl) (by kernel_rfl) (by kernel_rfl) (by kernel_rfl) (by kernel_rfl) rfl (by kernel_rfl) rfl rfl
    rfl rfl
    rfl (by kernel_rfl) (by kernel_rfl) (by kernel_rfl) (by decide) (by kernel_rfl) fnCalcWithVarIsLeftUnreduced_row_tie
    (OpenClaim.moreEntering_of (by kernel_rfl) (by kernel_rfl) (by kernel_rfl) (by kernel_rfl) (by kernel_rfl) (by kernel_rfl) (by kernel_rfl) (by kernel_rfl) (by kernel_rfl) (by kernel_rfl))
    ⟨_, WideRow.started_initial, quiet _⟩
    (fun os started _ H enc _ => t_lifted os started H enc)
#print axioms t_holds
end Go.Proofs.YtpkgpeoleidglaaGreatFmt
