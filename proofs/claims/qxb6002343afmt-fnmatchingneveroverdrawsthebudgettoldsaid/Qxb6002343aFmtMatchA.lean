import Derived.Test.Qxb6002343aFmtSpendC
import Derived.Deep.RegionWith
namespace Go.Proofs.Qxb6002343aFmt
open Go.RowKit Go.Extern.Stop Go.Stop Go.Extern
set_option linter.unusedVariables false
set_option linter.unusedSimpArgs false

/-- The budget (block b) and the pattern (block p) in w'; nothing below the budget has turned since w. -/
structure Bud (b p : Nat) (limit spent rl pieces : Int) (w w' : World) : Prop where
  bud : Row w' b 62 [.int .i64 limit, .int .i64 spent, .int .i64 rl, .int .i64 0]
  pat : Row w' p 60 [.pointer none, .int .i64 pieces]
  ne : b ≠ p
  lt : b ≤ p
  bel : Below b w w'

variable {b p : Nat} {limit spent rl pieces : Int} {w w' : World}

theorem Bud.cLimit (h : Bud b p limit spent rl pieces w w') : w'.cell? ⟨b, 0, none⟩ = some (.int .i64 limit) := by rw [h.bud.cell]; rfl
theorem Bud.cSpent (h : Bud b p limit spent rl pieces w w') : w'.cell? ⟨b, 1, none⟩ = some (.int .i64 spent) := by rw [h.bud.cell]; rfl
theorem Bud.cPieces (h : Bud b p limit spent rl pieces w w') : w'.cell? ⟨p, 1, none⟩ = some (.int .i64 pieces) := by rw [h.pat.cell]; rfl
theorem Bud.free (h : Bud b p limit spent rl pieces w w') : w'.frozen? ⟨b, 1, none⟩ = false := h.bud.frozen 1
theorem Bud.drewN (h : Bud b p limit spent rl pieces w w') (n : Nat) : Bud b p limit spent rl pieces w (w'.drewN n) := ⟨h.bud, h.pat, h.ne, h.lt, below_drewN h.bel n⟩
theorem Bud.alloc (h : Bud b p limit spent rl pieces w w') (o : Obj) : Bud b p limit spent rl pieces w (w'.alloc o) :=
  ⟨h.bud.alloc o, h.pat.alloc o, h.ne, h.lt, h.bel.alloc (by have := h.bud.lt; omega) o⟩
theorem Bud.below {w2 : World} (h : Bud b p limit spent rl pieces w w') (hb : Below w'.heap.size w' w2) : Bud b p limit spent rl pieces w w2 :=
  ⟨h.bud.below hb h.bud.lt, h.pat.below hb h.pat.lt, h.ne, h.lt, h.bel.trans (hb.mono (by have := h.bud.lt; omega))⟩
theorem Bud.set (h : Bud b p limit spent rl pieces w w') (s : Int) : Bud b p limit s rl pieces w (w'.setCell ⟨b, 1, none⟩ (.int .i64 s)) :=
  ⟨by have := h.bud.setSame 1 (.int .i64 s); simpa using this, h.pat.setOther _ _ (by have := h.ne; simp; omega), h.ne, h.lt, h.bel.setCell (Nat.le_refl _) _⟩

/-- A value comes back; the budget stands so. -/
def BudEnd (v : Value) (b p : Nat) (limit spent rl pieces : Int) (w : World) (r : Ending) (w' : World) : Prop :=
  r = .returned v ∧ Bud b p limit spent rl pieces w w'
def BudErr (b p : Nat) (limit spent rl pieces : Int) (w : World) (r : Ending) (w' : World) : Prop :=
  (∃ a, r = .returned (.iface 68 (.pointer (some a)))) ∧ Bud b p limit spent rl pieces w w'

/-- budget.spend -/
theorem bspend_yes {w0 : World} (c : Int) (w : World) (h : Bud b p limit spent rl pieces w0 w) (h0 : 0 ≤ limit) (h1 : limit ≤ 1000000000000) (h2 : 0 ≤ spent) (h3 : spent ≤ limit) (h4 : 0 ≤ c) (h5 : c ≤ limit - spent) :
    Calls Tryf.prog 31 #[.pointer (some ⟨b, 0, none⟩), .int .i64 c] w (BudEnd (.bool true) b p limit (spent + c) rl pieces w0) := by
  have e1 := h.cLimit
  have e2 := h.cSpent
  have e3 := h.free
  go_enter Tryf.func31, Tryf.ntmps31
  go_wp2
  go_quiet (fail)
  go_wp2
  go_ret
  exact ⟨rfl, by first | exact (h.drewN _).set _ | exact (h.set _).drewN _⟩

theorem bspend_no {w0 : World} (c : Int) (w : World) (h : Bud b p limit spent rl pieces w0 w) (h0 : 0 ≤ limit) (h1 : limit ≤ 1000000000000) (h2 : 0 ≤ spent) (h3 : spent ≤ limit) (h5 : limit - spent < c) :
    Calls Tryf.prog 31 #[.pointer (some ⟨b, 0, none⟩), .int .i64 c] w (BudEnd (.bool false) b p limit spent rl pieces w0) := by
  have e1 := h.cLimit
  have e2 := h.cSpent
  have e3 := h.free
  go_enter Tryf.func31, Tryf.ntmps31
  go_wp2
  go_quiet (fail)
  go_wp2
  go_ret
  exact ⟨rfl, h.drewN _⟩

/-- fmt.Errorf at the refusal's format. -/
theorem errorf_match (F : Interp) (g : Nat) (x y z : Int) (w : World) (hF : F.answers w.tape) (c0 : w.cell? ⟨g, 0, none⟩ = some (.iface 3 (.int .i64 x))) (c1 : w.cell? ⟨g, 1, none⟩ = some (.iface 3 (.int .i64 y))) (c2 : w.cell? ⟨g, 2, none⟩ = some (.iface 2 (.int .i64 z))) :
    Calls Tryf.prog 29 #[.string ⟨#[109, 97, 116, 99, 104, 105, 110, 103, 32, 97, 32, 112, 97, 116, 116, 101, 114, 110, 32, 111, 102, 32, 37, 100, 32, 112, 105, 101, 99, 101, 115, 32, 97, 103, 97, 105, 110, 115, 116, 32, 97, 32, 115, 116, 114, 105, 110, 103, 32, 111, 102, 32, 37, 100, 32, 98, 121, 116, 101, 115, 32, 119, 111, 117, 108, 100, 32, 116, 97, 107, 101, 32, 116, 104, 101, 32, 100, 101, 99, 105, 115, 105, 111, 110, 32, 112, 97, 115, 116, 32, 116, 104, 101, 32, 37, 100, 32, 115, 116, 101, 112, 115, 32, 105, 116, 32, 109, 97, 121, 32, 116, 97, 107, 101]⟩, .slice (some ⟨g, 0, none⟩) 3 3] w
      fun r w' => (∃ a, r = .returned (.iface 68 (.pointer (some a)))) ∧ Below w.heap.size w w' := by
  have hF' := answers_open hF
  go_enter Tryf.func29, Tryf.ntmps29
  go_wp2
  go_ret
  exact ⟨⟨_, rfl⟩, by repeat (first | exact Below.refl _ _ | exact Nat.le_refl _ | apply Below.drew | apply Below.alloc)⟩

end Go.Proofs.Qxb6002343aFmt
