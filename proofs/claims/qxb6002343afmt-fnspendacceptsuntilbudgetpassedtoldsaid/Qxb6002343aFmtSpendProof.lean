/- THE TOLD CARD OF FnSpendAcceptsUntilBudgetPassed. -/
import Derived.Test.Qxb6002343aFmtSeat
import Derived.Test.Qxb6002343aFmtSpendC
import Derived.Deep.Matrix
namespace Go.Proofs.Qxb6002343aFmt
open Go.ChangeShapes Go.WideShapes Go.ChangeAt Go.RowKit Go.Kit Go.Deep
open Go.Extern.Stop Go.Stop Go.Extern
set_option linter.unusedVariables false

theorem cells38 : Tryf.prog.cellsOf 38 = 1 := by kernel_rfl
theorem cells21 : Tryf.prog.cellsOf 21 = 1 := by kernel_rfl

/-- The law's walk, whatever the argument reads as. -/
theorem spend_any {H : Type} {enc : TypeId × Value → H} (F : Interp) (W : World) (v : Value) (d : DataW H) (p : List MemPlace) (hF : F.answers W.tape) (ao : Option Addr) (len cap : Nat) (hv : v = .slice ao len cap)
    (h0 : DataW.Trod enc Tryf.prog W 0 (fun _ => true) true 36 v d p) : Calls Tryf.prog 8 #[v] W (TrueEnd W) := by
  subst hv
  obtain ⟨fuel, hf⟩ := h0
  rcases open_int_rows Tryf.underlying36 Tryf.underlying38 Tryf.underlying21 cells38 cells21 hf with ⟨hcs, hx⟩ | ⟨a, len', cap', A, L, C, Z, hcs, hb, hl, hm, hx, hrows⟩
  · simp [Value.cells] at hcs
    obtain ⟨rfl, rfl, rfl⟩ := hcs
    exact spend_nil W
  · simp [Value.cells] at hcs
    obtain ⟨rfl, rfl, rfl⟩ := hcs
    refine spend_some F a len cap A L C (fun k j => (Z k).getD j 0) W hF (by omega) (fun k hk => ?_) (fun h0 => ?_) (fun k hk => (hrows k (by omega)).1) (fun k hk h0 => ?_) (fun k hk a' ha j hj => ?_)
    · have := hrows k (by omega)
      omega
    · have := World.block_lt_of_cell? W _ (hrows 0 (by omega)).1
      rwa [add_block] at this
    · have := hrows k (by omega)
      have h1 := this.2.2.2.2.2.1 h0
      omega
    · have := hrows k (by omega)
      exact (this.2.2.2.2.2.2 a' ha).2 j (by omega)

set_option maxRecDepth 100000 in
theorem spend_lifted (os : Os) (started : os.Started) (H : Type) (enc : TypeId × Value → H) :
    ReturnsInTold none {} Tryf.checked os 8 .any Input.okWide ((OpenSpec.ofChange Rows.fnSpendAcceptsUntilBudgetPassedSpec).preRow enc Tryf.prog Tryf.f8 [] false []) (fun F => ((OpenSpec.ofChange Rows.fnSpendAcceptsUntilBudgetPassedSpec).at F).post enc Tryf.prog Tryf.f8 false true false false) (aloneAtReturn Tryf.prog) nothingAlways := by
  refine returnsInTold_of_row (C := Tryf.checked) (s := OpenSpec.ofChange Rows.fnSpendAcceptsUntilBudgetPassedSpec) (by kernel_rfl) seat_own started (by kernel_rfl) Tryf.func8
    (OpenSpec.witness_stopped (enc := enc) (C := Tryf.checked) false ⟨#[], #[.slice none 0 0], []⟩ 8 (by kernel_rfl) (by kernel_rfl) (by kernel_rfl) (by kernel_rfl)) ?_
  intro F W base args ds gs before _ hF hval0 hW _ _ _ _ _
  have hval : ∀ (j : Nat) t v, Tryf.f8.params[j]? = some t → args[j]? = some v → Value.okWide Tryf.prog W .any base t v := hval0
  have hW' := hW
  obtain ⟨p, q, hA0, hV, rfl, hfz, hnd⟩ := hW
  have hA : DataW.TrodAll enc Tryf.prog W 0 (fun _ => true) true Tryf.f8.params.toList args.toList ds p := hA0
  rw [Tryf.params8] at hA hval
  obtain ⟨v0, d0, rfl, rfl, h0⟩ := trodAll_one hA
  obtain ⟨rfl, rfl⟩ := trodVars_none hV
  obtain ⟨a0, len, cap, hv0⟩ := okWide_slice Tryf.underlying36 (hval 0 36 v0 rfl rfl)
  clear hA0 hval0
  simp only [List.append_nil] at hW'
  have hlt : ∀ x ∈ p, x.block < W.heap.size := fun x hx => by simpa using hW'.lt x hx
  refine (spend_any F.told W v0 d0 p hF a0 len cap hv0 h0).mono fun r W' ⟨hr, hb⟩ => ?_
  subst hr
  refine ⟨_, rfl, _, _, _, [], p, [], hW', ?_, ?_, rfl, hb.frame _, fun h => by cases h⟩
  · exact trodAll_mk1 (shut_bool Tryf.underlying4 true)
  · exact trodAll_mk1 (Below.trod seat_laidOut (by kernel_rfl) (of_decide_eq_true (by kernel_rfl)) h0 hb hlt)

theorem spend_holds : Rows.FnSpendAcceptsUntilBudgetPassedToldSaid :=
  Claim7.holds_of_told_any 8 Tryf.f8 "fmt.errorf" [] [] _ _ _ (by kernel_rfl) rfl rfl rfl seat_laidOut (by kernel_rfl) rfl ⟨rfl, rfl, rfl, rfl, rfl, rfl, rfl⟩ rfl rfl (by kernel_rfl) (by kernel_rfl) Tryf.func8 (by kernel_rfl)
    (of_decide_eq_true (by kernel_rfl)) (of_decide_eq_true (by kernel_rfl)) seat_stops.symm rfl seat_stopKnobs.symm (by kernel_rfl)
    (by kernel_rfl) (by kernel_rfl) (by kernel_rfl) (by kernel_rfl) (by kernel_rfl) (by kernel_rfl) (by kernel_rfl) (by kernel_rfl) (by kernel_rfl) rfl (by kernel_rfl) rfl rfl
    rfl rfl
    rfl (by kernel_rfl) (by kernel_rfl) (by kernel_rfl) (by decide) (by kernel_rfl)
    (OpenClaim.moreEntering_of (by kernel_rfl) (by kernel_rfl) (by kernel_rfl) (by kernel_rfl) (by kernel_rfl) (by kernel_rfl) (by kernel_rfl) (by kernel_rfl) (by kernel_rfl) (by kernel_rfl))
    ⟨_, WideRow.started_initial, seat_quiet _⟩
    (fun os started _ H enc _ => spend_lifted os started H enc)

#print axioms spend_holds
end Go.Proofs.Qxb6002343aFmt
