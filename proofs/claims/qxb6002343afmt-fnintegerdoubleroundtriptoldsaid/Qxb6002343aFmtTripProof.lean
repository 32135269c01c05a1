/- THE TOLD CARD OF FnIntegerDoubleRoundTrip. -/
import Derived.Test.Qxb6002343aFmtSeat
import Derived.Test.Qxb6002343aFmtTripA
namespace Go.Proofs.Qxb6002343aFmt
open Go.ChangeShapes Go.WideShapes Go.ChangeAt Go.RowKit Go.Kit
open Go.Extern.Stop Go.Stop Go.Extern
set_option linter.unusedVariables false

set_option maxRecDepth 100000 in
theorem trip_lifted (os : Os) (started : os.Started) (H : Type) (enc : TypeId × Value → H) :
    ReturnsInTold none {} Tryf.checked os 7 .any Input.okWide ((OpenSpec.ofChange Rows.fnIntegerDoubleRoundTripSpec).preRow enc Tryf.prog Tryf.f7 [] false []) (fun F => ((OpenSpec.ofChange Rows.fnIntegerDoubleRoundTripSpec).at F).post enc Tryf.prog Tryf.f7 false true false false) (aloneAtReturn Tryf.prog) nothingAlways := by
  refine returnsInTold_of_row (C := Tryf.checked) (s := OpenSpec.ofChange Rows.fnIntegerDoubleRoundTripSpec) (by kernel_rfl) seat_own started (by kernel_rfl) Tryf.func7
    (OpenSpec.witness_stopped (enc := enc) (C := Tryf.checked) false ⟨#[], #[.int .i64 0], []⟩ 8 (by kernel_rfl) (by kernel_rfl) (by kernel_rfl) (by kernel_rfl)) ?_
  intro F W base args ds gs before _ hF hval0 hW _ _ _ _ _
  have hval : ∀ (j : Nat) t v, Tryf.f7.params[j]? = some t → args[j]? = some v → Value.okWide Tryf.prog W .any base t v := hval0
  have hW' := hW
  obtain ⟨p, q, hA0, hV, rfl, hfz, hnd⟩ := hW
  have hA : DataW.TrodAll enc Tryf.prog W 0 (fun _ => true) true Tryf.f7.params.toList args.toList ds p := hA0
  rw [Tryf.params7] at hA hval
  obtain ⟨v0, d0, rfl, rfl, h0⟩ := trodAll_one hA
  obtain ⟨rfl, rfl⟩ := trodVars_none hV
  obtain ⟨i, rfl, rfl, rfl, wi⟩ := open_int Tryf.underlying2 (hval 0 2 v0 rfl rfl) h0
  clear hA0 hval0
  have hi : -9223372036854775808 ≤ i ∧ i < 9223372036854775808 := by
    have := wi
    simp [Lit.wf, IntKind.min, IntKind.max, IntKind.signed, IntKind.bits] at this
    omega
  refine (trip_any F.told i W hF hi.1 hi.2).mono fun r W' ⟨hr, hb⟩ => ?_
  subst hr
  refine ⟨_, rfl, _, _, _, [], [], [], hW', ?_, ?_, rfl, hb.frame _, fun h => by cases h⟩
  · exact trodAll_mk1 (shut_bool Tryf.underlying4 true)
  · exact trodAll_mk1 (shut_int Tryf.underlying2 wi)

theorem trip_holds : Rows.FnIntegerDoubleRoundTripToldSaid :=
  Claim7.holds_of_told_any 7 Tryf.f7 "fmt.errorf" [] [] _ _ _ (by kernel_rfl) rfl rfl rfl seat_laidOut (by kernel_rfl) rfl ⟨rfl, rfl, rfl, rfl, rfl, rfl, rfl⟩ rfl rfl (by kernel_rfl) (by kernel_rfl) Tryf.func7 (by kernel_rfl)
    (of_decide_eq_true (by kernel_rfl)) (of_decide_eq_true (by kernel_rfl)) seat_stops.symm rfl seat_stopKnobs.symm (by kernel_rfl)
    (by kernel_rfl) (by kernel_rfl) (by kernel_rfl) (by kernel_rfl) (by kernel_rfl) (by kernel_rfl) (by kernel_rfl) (by kernel_rfl) (by kernel_rfl) rfl (by kernel_rfl) rfl rfl
    rfl rfl
    rfl (by kernel_rfl) (by kernel_rfl) (by kernel_rfl) (by decide) (by kernel_rfl)
    (OpenClaim.moreEntering_of (by kernel_rfl) (by kernel_rfl) (by kernel_rfl) (by kernel_rfl) (by kernel_rfl) (by kernel_rfl) (by kernel_rfl) (by kernel_rfl) (by kernel_rfl) (by kernel_rfl))
    ⟨_, WideRow.started_initial, seat_quiet _⟩
    (fun os started _ H enc _ => trip_lifted os started H enc)

#print axioms trip_holds
end Go.Proofs.Qxb6002343aFmt
