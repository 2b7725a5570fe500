import Derived.Test.Qxb6600369aFmtCards
import Derived.Test.Qxb6600369aFmtTie
import Derived.Test.Qxb6600369aFmtWorld
import Derived.Test.Qxb6600369aFmtOrder
import Derived.Stop.JoinedAt
import Derived.Stop.JoinedTold
namespace Go.Proofs.Qxb6600369aFmt
open Go.ChangeShapes Go.WideShapes Go.ChangeAt Go.RowKit
open Go.ChangeMaps (open_string shut_string)
open Go.Extern.Stop Go.Stop Go.Extern

theorem own : ownKnob Tryf.prog.godebug = none := by kernel_rfl
theorem laidOut : laidOutB Tryf.pinned.checked.prog = true := by kernel_rfl
theorem stopsAre : Tryf.pinned.checked.prog.stops = ["fmt.Sprintf"] := by kernel_rfl
theorem stopKnobs : Tryf.pinned.checked.prog.stopKnobs = [] := by kernel_rfl
theorem quiet (os : Os) : Stop.quiet Tryf.pinned.checked.prog os := by
  intro k hk
  rw [stopKnobs] at hk
  cases hk

namespace OrderCard
theorem witness_row (os : Os) {H : Type} (enc : TypeId × Value → H) :
    (OpenSpec.ofChange Rows.fnNumberOrderFollowsDigitsSpec).preRow enc Tryf.prog Tryf.f4 Rows.fnNumberOrderFollowsDigitsRow.domain false Rows.fnNumberOrderFollowsDigitsRow.laid
      ((worldOf Tryf.prog os).forCall (fun _ _ => 0) ⟨#[], #[.string ⟨#[]⟩, .string ⟨#[]⟩, .string ⟨#[]⟩, .int .i64 0], []⟩).memory #[.string ⟨#[]⟩, .string ⟨#[]⟩, .string ⟨#[]⟩, .int .i64 0] := by
  have hw : (DataW.whole enc Tryf.prog ((worldOf Tryf.prog os).forCall (fun _ _ => 0) ⟨#[], #[.string ⟨#[]⟩, .string ⟨#[]⟩, .string ⟨#[]⟩, .int .i64 0], []⟩).memory Tryf.f4.params.toList (OpenSpec.ofChange Rows.fnNumberOrderFollowsDigitsSpec).vars false #[Value.string ⟨#[]⟩, .string ⟨#[]⟩, .string ⟨#[]⟩, .int .i64 0].toList 8).map (fun x => (x.1, x.2.1)) =
      some ([.lit (.string []), .lit (.string []), .lit (.string []), .lit (.int .i64 0)], []) := by kernel_rfl
  obtain ⟨⟨x1, x2, x3⟩, hx, hx1⟩ := Option.map_eq_some_iff.1 hw
  simp only [Prod.mk.injEq] at hx1
  obtain ⟨rfl, rfl⟩ := hx1
  exact OpenSpec.preRow_of_cond 8 hx (by kernel_rfl) (fun k hk => by cases hk) (by kernel_rfl) (laid_met os _)

set_option maxRecDepth 100000 in
set_option maxHeartbeats 4000000 in
theorem lifted (os : Os) (started : os.Started) (H : Type) (enc : TypeId × Value → H) :
    ReturnsInTold none {} Tryf.checked os 4 .any Input.okWide ((OpenSpec.ofChange Rows.fnNumberOrderFollowsDigitsSpec).preRow enc Tryf.prog Tryf.f4 Rows.fnNumberOrderFollowsDigitsRow.domain false Rows.fnNumberOrderFollowsDigitsRow.laid)
      (fun F => ((OpenSpec.ofChange Rows.fnNumberOrderFollowsDigitsSpec).at F).post enc Tryf.prog Tryf.f4 false true false false) (aloneAtReturn Tryf.prog) nothingAlways := by
  refine returnsInTold_of_row (C := Tryf.checked) (s := OpenSpec.ofChange Rows.fnNumberOrderFollowsDigitsSpec) (by kernel_rfl) own started (by kernel_rfl) Tryf.func4
    (OpenSpec.witness_stopped_atRef (enc := enc) (C := Tryf.checked) false (worldOf Tryf.prog os) #[.string ⟨#[]⟩, .string ⟨#[]⟩, .string ⟨#[]⟩, .int .i64 0] rfl (by kernel_rfl) (by kernel_rfl) (by kernel_rfl) (witness_row os enc)) ?_
  intro F W base args ds gs before _ hF hval0 hW hcnd0 _ _ hL _
  have hval : ∀ (j : Nat) t v, Tryf.f4.params[j]? = some t → args[j]? = some v → Value.okWide Tryf.prog W .any base t v := hval0
  have hW' := hW
  obtain ⟨p, q, hA0, hV0, rfl, _, _⟩ := hW
  have hA : DataW.TrodAll enc Tryf.prog W 0 (fun _ => true) true Tryf.f4.params.toList args.toList ds p := hA0
  rw [Tryf.params4] at hA hval
  obtain ⟨v0, v1, v2, v3, d0, d1, d2, d3, p0, p1, p2, p3, rfl, rfl, rfl, h0, h1, h2, h3⟩ := trodAll_four hA
  obtain ⟨rfl, rfl⟩ := trodVars_none hV0
  obtain ⟨s0, rfl, rfl, rfl, ws0⟩ := open_string Tryf.underlying9 (hval 0 9 v0 rfl rfl) h0
  obtain ⟨s1, rfl, rfl, rfl, ws1⟩ := open_string Tryf.underlying9 (hval 1 9 v1 rfl rfl) h1
  obtain ⟨s2, rfl, rfl, rfl, ws2⟩ := open_string Tryf.underlying9 (hval 2 9 v2 rfl rfl) h2
  obtain ⟨x3, rfl, rfl, rfl, wx3⟩ := open_int Tryf.underlying3 (hval 3 3 v3 rfl rfl) h3
  clear hA0 hV0 hval0
  refine (law4 s0 s1 s2 x3 W ws0 ws1 ws2).mono ?_
  rintro e W' ⟨rfl, bel⟩
  refine ⟨_, rfl, _, _, _, [], [], [], hW', ?_, ?_, ?_, bel.frame _, fun h => by cases h⟩
  · exact trodAll_mk1 (shut_bool Tryf.underlying4 _)
  · exact trodAll_mk4 (shut_string Tryf.underlying9 ws0) (shut_string Tryf.underlying9 ws1) (shut_string Tryf.underlying9 ws2) (shut_int Tryf.underlying3 wx3)
  · rfl

theorem proved : Rows.FnNumberOrderFollowsDigitsToldSaid :=
  Claim7.holds_of_told_tied_any_at .later 4 Tryf.f4 "fmt.Sprintf" [] [] _ _ _ _ _ (by kernel_rfl) rfl rfl rfl laidOut (by kernel_rfl) rfl ⟨rfl, rfl, rfl, rfl, rfl, rfl, rfl⟩ rfl rfl (by kernel_rfl) (by kernel_rfl) Tryf.func4 (by kernel_rfl)
    (of_decide_eq_true (by kernel_rfl)) (by unfold Func.isWrapper; rw [if_neg (of_decide_eq_false (by kernel_rfl))]; exact ⟨rfl, rfl⟩) stopsAre.symm rfl stopKnobs.symm (by kernel_rfl)
    (by kernel_rfl) (by kernel_rfl) (by kernel_rfl) (by kernel_rfl) (by kernel_rfl) (by kernel_rfl) (by kernel_rfl) (by kernel_rfl) (by kernel_rfl) rfl (by kernel_rfl) rfl rfl
    rfl rfl
    rfl (by kernel_rfl) (by kernel_rfl) (by kernel_rfl) (by decide) (by kernel_rfl) fnNumberOrderFollowsDigits_row_tie
    (OpenClaim.moreEntering_of (by kernel_rfl) (by kernel_rfl) (by kernel_rfl) (by kernel_rfl) (by kernel_rfl) (by kernel_rfl) (by kernel_rfl) (by kernel_rfl) (by kernel_rfl) (by kernel_rfl))
    ⟨_, WideRow.started_initial, quiet _⟩
    (fun os started _ H enc _ => lifted os started H enc)
end OrderCard
theorem order_holds : Rows.FnNumberOrderFollowsDigitsToldSaid := OrderCard.proved
end Go.Proofs.Qxb6600369aFmt
