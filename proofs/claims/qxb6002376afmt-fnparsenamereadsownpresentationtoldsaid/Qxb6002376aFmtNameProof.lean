/- THE TOLD CARD OF FnParseNameReadsOwnPresentation. -/
import Derived.Test.Qxb6002376aFmtSeat
import Derived.Test.Qxb6002376aFmtPnG
import Derived.Deep.Strs
namespace Go.Proofs.Qxb6002376aFmt
open Go.ChangeShapes Go.WideShapes Go.ChangeAt Go.RowKit Go.Kit
open Go.Extern.Stop Go.Stop Go.Extern
set_option linter.unusedVariables false

theorem cells9 : Tryf.prog.cellsOf 9 = 1 := by kernel_rfl

theorem name_any {H : Type} {enc : TypeId × Value → H} (F : Interp) (W : World) (v : Value) (x y : Bool) (d : DataW H) (p : List MemPlace) (hF : F.answers W.tape) (ao : Option Addr) (len cap : Nat) (hv : v = .slice ao len cap)
    (h0 : DataW.Trod enc Tryf.prog W 0 (fun _ => true) true 22 v d p) : Calls Tryf.prog 3 #[v, .bool x, .bool y] W (TrueEnd W) := by
  subst hv
  obtain ⟨fuel, hf⟩ := h0
  rcases Go.Deep.open_strs Tryf.underlying22 Tryf.underlying9 cells9 hf with ⟨hcs, hx⟩ | ⟨a, len', cap', m, S, hcs, _, hl, hm, hmm, hx, hcell⟩
  · simp [Value.cells] at hcs
    obtain ⟨rfl, rfl, rfl⟩ := hcs
    exact law_nil x y W
  · simp [Value.cells] at hcs
    obtain ⟨rfl, rfl, rfl⟩ := hcs
    simp only [if_true] at hmm
    rcases len with _ | n
    · exact law_zero a cap x y W
    · exact law_some F a n cap x y S W hF (by omega) (fun k hk => (hcell k (by omega)).2) (fun k hk => (hcell k (by omega)).1)

set_option maxRecDepth 100000 in
theorem name_lifted (os : Os) (started : os.Started) (H : Type) (enc : TypeId × Value → H) :
    ReturnsInTold none {} Tryf.checked os 3 .any Input.okWide ((OpenSpec.ofChange Rows.fnParseNameReadsOwnPresentationSpec).preRow enc Tryf.prog Tryf.f3 [] false []) (fun F => ((OpenSpec.ofChange Rows.fnParseNameReadsOwnPresentationSpec).at F).post enc Tryf.prog Tryf.f3 false true false false) (aloneAtReturn Tryf.prog) nothingAlways := by
  refine returnsInTold_of_row (C := Tryf.checked) (s := OpenSpec.ofChange Rows.fnParseNameReadsOwnPresentationSpec) (by kernel_rfl) seat_own started (by kernel_rfl) Tryf.func3
    (OpenSpec.witness_stopped (enc := enc) (C := Tryf.checked) false ⟨#[], #[.slice none 0 0, .bool false, .bool false], []⟩ 8 (by kernel_rfl) (by kernel_rfl) (by kernel_rfl) (by kernel_rfl)) ?_
  intro F W base args ds gs before _ hF hval0 hW _ _ _ _ _
  have hval : ∀ (j : Nat) t v, Tryf.f3.params[j]? = some t → args[j]? = some v → Value.okWide Tryf.prog W .any base t v := hval0
  have hW' := hW
  obtain ⟨p, q, hA0, hV, rfl, hfz, hnd⟩ := hW
  have hA : DataW.TrodAll enc Tryf.prog W 0 (fun _ => true) true Tryf.f3.params.toList args.toList ds p := hA0
  rw [Tryf.params3] at hA hval
  obtain ⟨v0, v1, v2, d0, d1, d2, p0, p1, p2, rfl, rfl, rfl, h0, h1, h2⟩ := trodAll_three hA
  obtain ⟨rfl, rfl⟩ := trodVars_none hV
  obtain ⟨a0, len, cap, hv0⟩ := okWide_slice Tryf.underlying22 (hval 0 22 v0 rfl rfl)
  obtain ⟨x, rfl, rfl, rfl⟩ := open_bool Tryf.underlying4 (hval 1 4 v1 rfl rfl) h1
  obtain ⟨y, rfl, rfl, rfl⟩ := open_bool Tryf.underlying4 (hval 2 4 v2 rfl rfl) h2
  clear hA0 hval0
  simp only [List.append_nil] at hW'
  have hlt : ∀ x ∈ p0, x.block < W.heap.size := fun x hx => by simpa using hW'.lt x hx
  refine (name_any F.told W v0 x y d0 p0 hF a0 len cap hv0 h0).mono fun r W' ⟨hr, hb⟩ => ?_
  subst hr
  refine ⟨_, rfl, _, _, _, [], p0 ++ ([] ++ []), [], hW', ?_, ?_, rfl, hb.frame _, fun h => by cases h⟩
  · exact trodAll_mk1 (shut_bool Tryf.underlying4 true)
  · exact trodAll_mk3 (Below.trod seat_laidOut (by kernel_rfl) (of_decide_eq_true (by kernel_rfl)) h0 hb hlt) (shut_bool Tryf.underlying4 x) (shut_bool Tryf.underlying4 y)

theorem name_holds : Rows.FnParseNameReadsOwnPresentationToldSaid :=
  Claim7.holds_of_told_any 3 Tryf.f3 "fmt.errorf" ["fmt.Sprintf"] [] _ _ _ (by kernel_rfl) rfl rfl rfl seat_laidOut (by kernel_rfl) rfl ⟨rfl, rfl, rfl, rfl, rfl, rfl, rfl⟩ rfl rfl (by kernel_rfl) (by kernel_rfl) Tryf.func3 (by kernel_rfl)
    (of_decide_eq_true (by kernel_rfl)) (of_decide_eq_true (by kernel_rfl)) seat_stops.symm rfl seat_stopKnobs.symm (by kernel_rfl)
    (by kernel_rfl) (by kernel_rfl) (by kernel_rfl) (by kernel_rfl) (by kernel_rfl) (by kernel_rfl) (by kernel_rfl) (by kernel_rfl) (by kernel_rfl) rfl (by kernel_rfl) rfl rfl
    rfl rfl
    rfl (by kernel_rfl) (by kernel_rfl) (by kernel_rfl) (by decide) (by kernel_rfl)
    (OpenClaim.moreEntering_of (by kernel_rfl) (by kernel_rfl) (by kernel_rfl) (by kernel_rfl) (by kernel_rfl) (by kernel_rfl) (by kernel_rfl) (by kernel_rfl) (by kernel_rfl) (by kernel_rfl))
    ⟨_, WideRow.started_initial, seat_quiet _⟩
    (fun os started _ H enc _ => name_lifted os started H enc)

#print axioms name_holds
end Go.Proofs.Qxb6002376aFmt
