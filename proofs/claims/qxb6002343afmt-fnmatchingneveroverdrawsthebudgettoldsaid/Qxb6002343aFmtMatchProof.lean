/- THE TOLD CARD OF FnMatchingNeverOverdrawsTheBudget. -/
import Derived.Test.Qxb6002343aFmtSeat
import Derived.Test.Qxb6002343aFmtMatchD
import Derived.Deep.Strs
namespace Go.Proofs.Qxb6002343aFmt
open Go.ChangeShapes Go.WideShapes Go.ChangeAt Go.RowKit Go.Kit Go.Deep
open Go.Extern.Stop Go.Stop Go.Extern
set_option linter.unusedVariables false

theorem cells9 : Tryf.prog.cellsOf 9 = 1 := by kernel_rfl

/-- The law's walk, whatever the slice reads as. -/
theorem match_any {H : Type} {enc : TypeId × Value → H} (F : Interp) (W : World) (x y : Int) (v : Value) (d : DataW H) (p : List MemPlace) (hF : F.answers W.tape) (ao : Option Addr) (len cap : Nat) (hv : v = .slice ao len cap)
    (h0 : DataW.Trod enc Tryf.prog W 0 (fun _ => true) true 47 v d p) : Calls Tryf.prog 10 #[.int .i64 x, .int .i64 y, v] W (TrueEnd W) := by
  subst hv
  obtain ⟨fuel, hf⟩ := h0
  rcases open_strs Tryf.underlying47 Tryf.underlying9 cells9 hf with ⟨hcs, hx⟩ | ⟨a, len', cap', m, S, hcs, hb, hl, hm, hmm, hx, hrows⟩
  · simp [Value.cells] at hcs
    obtain ⟨rfl, rfl, rfl⟩ := hcs
    exact match_nil x y W
  · simp [Value.cells] at hcs
    obtain ⟨rfl, rfl, rfl⟩ := hcs
    simp only [if_true] at hmm
    subst hmm
    refine match_some F x y a len m S W hF (by omega) (fun k hk => (hrows k (by omega)).2) (fun h0 => ?_) (fun k hk => (hrows k (by omega)).1)
    have := World.block_lt_of_cell? W _ (hrows 0 (by omega)).1
    rwa [add_block] at this

set_option maxRecDepth 100000 in
theorem match_lifted (os : Os) (started : os.Started) (H : Type) (enc : TypeId × Value → H) :
    ReturnsInTold none {} Tryf.checked os 10 .any Input.okWide ((OpenSpec.ofChange Rows.fnMatchingNeverOverdrawsTheBudgetSpec).preRow enc Tryf.prog Tryf.f10 [] false []) (fun F => ((OpenSpec.ofChange Rows.fnMatchingNeverOverdrawsTheBudgetSpec).at F).post enc Tryf.prog Tryf.f10 false true false false) (aloneAtReturn Tryf.prog) nothingAlways := by
  refine returnsInTold_of_row (C := Tryf.checked) (s := OpenSpec.ofChange Rows.fnMatchingNeverOverdrawsTheBudgetSpec) (by kernel_rfl) seat_own started (by kernel_rfl) Tryf.func10
    (OpenSpec.witness_stopped (enc := enc) (C := Tryf.checked) false ⟨#[], #[.int .i64 0, .int .i64 0, .slice none 0 0], []⟩ 8 (by kernel_rfl) (by kernel_rfl) (by kernel_rfl) (by kernel_rfl)) ?_
  intro F W base args ds gs before _ hF hval0 hW _ _ _ _ _
  have hval : ∀ (j : Nat) t v, Tryf.f10.params[j]? = some t → args[j]? = some v → Value.okWide Tryf.prog W .any base t v := hval0
  have hW' := hW
  obtain ⟨p, q, hA0, hV, rfl, hfz, hnd⟩ := hW
  have hA : DataW.TrodAll enc Tryf.prog W 0 (fun _ => true) true Tryf.f10.params.toList args.toList ds p := hA0
  rw [Tryf.params10] at hA hval
  obtain ⟨v0, v1, v2, d0, d1, d2, p0, p1, p2, rfl, rfl, rfl, h0, h1, h2⟩ := trodAll_three hA
  obtain ⟨rfl, rfl⟩ := trodVars_none hV
  obtain ⟨x, rfl, rfl, rfl, wx⟩ := open_int Tryf.underlying2 (hval 0 2 v0 rfl rfl) h0
  obtain ⟨y, rfl, rfl, rfl, wy⟩ := open_int Tryf.underlying3 (hval 1 3 v1 rfl rfl) h1
  obtain ⟨a0, len, cap, hv0⟩ := okWide_slice Tryf.underlying47 (hval 2 47 v2 rfl rfl)
  clear hA0 hval0
  simp only [List.append_nil, List.nil_append] at hW'
  have hlt : ∀ x ∈ p2, x.block < W.heap.size := fun x hx => by simpa using hW'.lt x hx
  refine (match_any F.told W x y v2 d2 p2 hF a0 len cap hv0 h2).mono fun r W' ⟨hr, hb⟩ => ?_
  subst hr
  refine ⟨_, rfl, _, _, _, [], [] ++ ([] ++ p2), [], hW', ?_, ?_, rfl, hb.frame _, fun h => by cases h⟩
  · exact trodAll_mk1 (shut_bool Tryf.underlying4 true)
  · exact trodAll_mk3 (shut_int Tryf.underlying2 wx) (shut_int Tryf.underlying3 wy) (Below.trod seat_laidOut (by kernel_rfl) (of_decide_eq_true (by kernel_rfl)) h2 hb hlt)

theorem match_holds : Rows.FnMatchingNeverOverdrawsTheBudgetToldSaid :=
  Claim7.holds_of_told_any 10 Tryf.f10 "fmt.errorf" [] [] _ _ _ (by kernel_rfl) rfl rfl rfl seat_laidOut (by kernel_rfl) rfl ⟨rfl, rfl, rfl, rfl, rfl, rfl, rfl⟩ rfl rfl (by kernel_rfl) (by kernel_rfl) Tryf.func10 (by kernel_rfl)
    (of_decide_eq_true (by kernel_rfl)) (of_decide_eq_true (by kernel_rfl)) seat_stops.symm rfl seat_stopKnobs.symm (by kernel_rfl)
    (by kernel_rfl) (by kernel_rfl) (by kernel_rfl) (by kernel_rfl) (by kernel_rfl) (by kernel_rfl) (by kernel_rfl) (by kernel_rfl) (by kernel_rfl) rfl (by kernel_rfl) rfl rfl
    rfl rfl
    rfl (by kernel_rfl) (by kernel_rfl) (by kernel_rfl) (by decide) (by kernel_rfl)
    (OpenClaim.moreEntering_of (by kernel_rfl) (by kernel_rfl) (by kernel_rfl) (by kernel_rfl) (by kernel_rfl) (by kernel_rfl) (by kernel_rfl) (by kernel_rfl) (by kernel_rfl) (by kernel_rfl))
    ⟨_, WideRow.started_initial, seat_quiet _⟩
    (fun os started _ H enc _ => match_lifted os started H enc)

#print axioms match_holds
end Go.Proofs.Qxb6002343aFmt
