/- For every kind byte and every text, called on loaded variables as the program's own text lays them (tied), the law n011_193.FnRunOnLoadDataURLPicksLoaderByMimeType returns true and leaves both arguments and the variable matchSize as they read; conditions: the variables listed on the row hold what the row lists, and fmt's text is told by the card's own Lean function (no arm that asks for it is entered). -/
import Derived.Test.YtfhpndfidfdhnaaGreatFmtWalkE
import Derived.Test.YtfhpndfidfdhnaaGreatFmtRows
import Derived.Test.YtfhpndfidfdhnaaGreatFmtCards
import Derived.Test.YtfhpndfidfdhnaaGreatFmtTie
import Derived.ProofKit
import Derived.Stop.Joined
import Derived.Stop.JoinedAt
import Derived.Stop.JoinedTold
import Derived.SevenTiedAt
import Derived.Lay
import Derived.LaidMore
import Derived.OpenVars
import Derived.SizedLaws
import Derived.OpenShut
import Derived.MakeChecks
namespace Go.Proofs.YtfhpndfidfdhnaaGreatFmt
open Go.ChangeShapes Go.WideShapes Go.ChangeAt Go.RowKit
open Go.ChangeMaps (open_string shut_string)
open Go.Extern.Stop Go.Stop Go.Extern

theorem own : ownKnob Tryz.prog.godebug = none := by kernel_rfl
theorem laidOut : laidOutB Tryz.pinned.checked.prog = true := by kernel_rfl
theorem stops : Tryz.pinned.checked.prog.stops = ["fmt.Sprintf", "fmt.errorf"] := by kernel_rfl
theorem stopKnobs : Tryz.pinned.checked.prog.stopKnobs = [] := by kernel_rfl
theorem quiet (os : Os) : Stop.quiet Tryz.pinned.checked.prog os := by
  intro k hk
  rw [stopKnobs] at hk
  cases hk

/-- Whatever the two arguments, the law answers true and nothing below the heap's old size has turned. -/
theorem law (k : Int) (s : ByteArray) (w : World) (h0 : 0 ≤ k) (h1 : k ≤ 255) (h2 : s.size ≤ 9223372036854775807) :
    Calls Tryz.prog 3 #[.int .u8 k, .string s] w fun e w' => e = .returned (.bool true) ∧ Below w.heap.size w w' := by
  by_cases hl : 1048576 < s.size
  · refine (law_long k s w hl h2).mono ?_
    rintro e w' ⟨he, rfl⟩
    exact ⟨he, Below.refl _ _⟩
  · by_cases hp : ∃ (j : Nat) (hj : j < s.size), ((s[j].toNat : Int) == 37) = true
    · obtain ⟨j, hj, h⟩ := hp
      refine (law_pct k s w (by omega) j hj h).mono ?_
      rintro e w' ⟨he, rfl⟩
      exact ⟨he, Below.refl _ _⟩
    · have hB : B s.data.toList = s := by cases s; simp [B]
      have hn : NoPct (B s.data.toList) := by
        rw [hB]
        intro i hi
        cases hc : ((s[i].toNat : Int) == 37) with
        | false => rfl
        | true => exact absurd ⟨i, hi, hc⟩ hp
      have hsz : s.data.toList.length ≤ 1048576 := by
        have : s.data.toList.length = s.size := (Lib.size_eq s).symm
        omega
      have h3 : k % 3 = 0 ∨ k % 3 = 1 ∨ k % 3 = 2 := by omega
      have h4 : k / 3 % 2 = 0 ∨ k / 3 % 2 = 1 := by omega
      rw [← hB]
      rcases h3 with h3 | h3 | h3 <;> rcases h4 with h4 | h4
      · exact law_a k _ w h0 h1 h3 h4 hsz hn
      · exact law_d k _ w h0 h1 h3 h4 hsz hn
      · exact law_b k _ w h0 h1 h3 h4 hsz hn
      · exact law_e k _ w h0 h1 h3 h4 hsz hn
      · exact law_c k _ w h0 h1 h3 h4 hsz hn
      · exact law_f k _ w h0 h1 h3 h4 hsz hn

theorem laidShaped (os : Os) : ((World.laidAll Tryz.prog os Rows.fnRunOnLoadDataURLPicksLoaderByMimeTypeRow.laid).forCall (fun _ _ => 0) ⟨#[], #[.int .u8 0, .string ⟨#[]⟩], []⟩).Shaped Tryz.prog :=
  World.shaped_of_ZipB (by kernel_rfl) (by kernel_rfl)
theorem laidStands (os : Os) : laidMetH Tryz.prog Rows.fnRunOnLoadDataURLPicksLoaderByMimeTypeRow.laid ((World.laidAll Tryz.prog os Rows.fnRunOnLoadDataURLPicksLoaderByMimeTypeRow.laid).forCall (fun _ _ => 0) ⟨#[], #[.int .u8 0, .string ⟨#[]⟩], []⟩).memory := by
  rw [MakeChecks.laidMetH_plain _ _ _ (by kernel_rfl)]
  exact laidMet_laidAll _ (by kernel_rfl) (by kernel_rfl)
theorem laidRow (os : Os) {H : Type} (enc : TypeId × Value → H) :
    (OpenSpec.ofChange Rows.fnRunOnLoadDataURLPicksLoaderByMimeTypeSpec).preRow enc Tryz.prog Tryz.f3 Rows.fnRunOnLoadDataURLPicksLoaderByMimeTypeRow.domain false Rows.fnRunOnLoadDataURLPicksLoaderByMimeTypeRow.laid
      ((World.laidAll Tryz.prog os Rows.fnRunOnLoadDataURLPicksLoaderByMimeTypeRow.laid).forCall (fun _ _ => 0) ⟨#[], #[.int .u8 0, .string ⟨#[]⟩], []⟩).memory #[.int .u8 0, .string ⟨#[]⟩] :=
  OpenSpec.preRow_of_B rfl 8 (by kernel_rfl) (by kernel_rfl) (laidStands os)
theorem laidOk (os : Os) : Input.okWideB Tryz.prog ((World.laidAll Tryz.prog os Rows.fnRunOnLoadDataURLPicksLoaderByMimeTypeRow.laid).forCall (fun _ _ => 0) ⟨#[], #[.int .u8 0, .string ⟨#[]⟩], []⟩) 3 ⟨#[], #[.int .u8 0, .string ⟨#[]⟩], []⟩ = true := by kernel_rfl

set_option maxRecDepth 100000 in
set_option maxHeartbeats 4000000 in
theorem t_lifted (os : Os) (started : os.Started) (H : Type) (enc : TypeId × Value → H) :
    ReturnsInTold none {} Tryz.checked os 3 .any Input.okWide ((OpenSpec.ofChange Rows.fnRunOnLoadDataURLPicksLoaderByMimeTypeSpec).preRow enc Tryz.prog Tryz.f3 Rows.fnRunOnLoadDataURLPicksLoaderByMimeTypeRow.domain false Rows.fnRunOnLoadDataURLPicksLoaderByMimeTypeRow.laid)
      (fun F => ((OpenSpec.ofChange Rows.fnRunOnLoadDataURLPicksLoaderByMimeTypeSpec).at F).post enc Tryz.prog Tryz.f3 false true false false) (aloneAtReturn Tryz.prog) nothingAlways := by
  refine returnsInTold_of_row (C := Tryz.checked) (s := OpenSpec.ofChange Rows.fnRunOnLoadDataURLPicksLoaderByMimeTypeSpec) (by kernel_rfl) own started (by kernel_rfl) Tryz.func3
    (fun F => ⟨World.laidAll Tryz.prog os Rows.fnRunOnLoadDataURLPicksLoaderByMimeTypeRow.laid, F.over fun _ _ => 0, ⟨#[], #[.int .u8 0, .string ⟨#[]⟩], []⟩, World.laidAll_os _ _ _, laidShaped os,
      (Input.okWide_of_okWideB (base := 0) (laidOk os)).1, (Input.okWide_of_okWideB (laidOk os)).2, laidRow os enc, by
        simp only [Assume.holds]
        exact ⟨by simp, by simp, by simp, by simp, by simp⟩, F.over_answers _⟩) ?_
  intro F W base args ds gs before _ _ hval0 hW _ _ _ _ _
  have hval : ∀ (j : Nat) t v, Tryz.f3.params[j]? = some t → args[j]? = some v → Value.okWide Tryz.prog W .any base t v := hval0
  have hW' := hW
  obtain ⟨p, q, hA0, hV, rfl, _, _⟩ := hW
  have hA : DataW.TrodAll enc Tryz.prog W 0 (fun _ => true) true Tryz.f3.params.toList args.toList ds p := hA0
  rw [Tryz.params3] at hA hval
  obtain ⟨v0, v1, d0, d1, p0, p1, rfl, rfl, rfl, h0, h1⟩ := trodAll_two hA
  obtain ⟨x, rfl, rfl, rfl, wx⟩ := open_int Tryz.underlying5 (hval 0 5 v0 rfl rfl) h0
  obtain ⟨s, rfl, rfl, rfl, ws⟩ := open_string Tryz.underlying9 (hval 1 9 v1 rfl rfl) h1
  have hx : 0 ≤ x ∧ x ≤ 255 := by simpa [Lit.wf, IntKind.min, IntKind.max, IntKind.signed, IntKind.bits] using wx
  have hs : s.size ≤ 9223372036854775807 := by simpa [maxLen] using ws
  clear hA0 hval0
  match gs, hV, hW' with
  | [g1], hV, hW' =>
    refine (law x s W hx.1 hx.2 hs).mono fun e W' ⟨he, hb⟩ => ?_
    subst he
    exact ⟨_, rfl, _, _, _, [], [], q, hW', trodAll_mk1 (shut_bool Tryz.underlying4 _), trodAll_mk2 (shut_int Tryz.underlying5 wx) (shut_string Tryz.underlying9 ws), hb.trodVars laidOut (by kernel_rfl) hV, hb.frame _, fun h => by cases h⟩
  | [], hV, _ => exact absurd hV (by intro h; exact h.elim)
  | _ :: _ :: _, hV, _ =>
    obtain ⟨_, _, _, _, _, _, _, _, _, _, h, _⟩ := hV
    exact h.elim

theorem t_holds : Rows.FnRunOnLoadDataURLPicksLoaderByMimeTypeToldSaid :=
  Claim7.holds_of_told_tied_any_at .later 3 Tryz.f3 "fmt.Sprintf" ["fmt.errorf"] [] _ _ _ _ _ (by kernel_rfl) rfl rfl rfl laidOut (by kernel_rfl) rfl ⟨rfl, rfl, rfl, rfl, rfl, rfl, rfl⟩ rfl rfl (by kernel_rfl) (by kernel_rfl) Tryz.func3 (by kernel_rfl)
    (of_decide_eq_true (by kernel_rfl)) (by unfold Func.isWrapper; first | (rw [if_pos (by decide +kernel)]; kernel_rfl) | (rw [if_neg (by decide +kernel)]; exact ⟨rfl, rfl⟩)) stops.symm rfl stopKnobs.symm (by kernel_rfl)
    (by kernel_rfl) (by kernel_rfl) (by kernel_rfl) (by kernel_rfl) (by kernel_rfl) (by kernel_rfl) (by kernel_rfl) (by kernel_rfl) (by kernel_rfl) rfl (by kernel_rfl) rfl rfl
    rfl rfl
    rfl (by kernel_rfl) (by kernel_rfl) (by kernel_rfl) (by decide) (by kernel_rfl) fnRunOnLoadDataURLPicksLoaderByMimeType_row_tie
    (OpenClaim.moreEntering_of (by kernel_rfl) (by kernel_rfl) (by kernel_rfl) (by kernel_rfl) (by kernel_rfl) (by kernel_rfl) (by kernel_rfl) (by kernel_rfl) (by kernel_rfl) (by kernel_rfl))
    ⟨_, WideRow.started_initial, quiet _⟩
    (fun os started _ H enc _ => t_lifted os started H enc)
#print axioms t_holds
end Go.Proofs.YtfhpndfidfdhnaaGreatFmt
