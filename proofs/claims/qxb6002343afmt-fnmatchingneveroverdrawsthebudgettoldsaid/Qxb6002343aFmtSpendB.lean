import Derived.Test.Qxb6002343aFmtSpendA
namespace Go.Proofs.Qxb6002343aFmt
open Go.RowKit Go.Extern.Stop Go.Stop Go.Extern
set_option linter.unusedVariables false

/-- The parser's counter holds R; nothing below the parser has turned. -/
def Counts (P0 : Nat) (R : Int) (w w' : World) : Prop :=
  w'.cell? ⟨P0, 4, none⟩ = some (.int .i64 R) ∧ w'.frozen? ⟨P0, 4, none⟩ = false ∧ P0 < w'.heap.size ∧ Below P0 w w'

def SpendOk (P0 : Nat) (R : Int) (v : Value) (w : World) (r : Ending) (w' : World) : Prop :=
  r = .returned (.tuple #[v, .nilIface]) ∧ Counts P0 R w w'

def SpendErr (P0 : Nat) (R : Int) (w : World) (r : Ending) (w' : World) : Prop :=
  (∃ a, r = .returned (.tuple #[.slice none 0 0, .iface 68 (.pointer (some a))])) ∧ Counts P0 R w w'

theorem counts_set {P0 : Nat} {R R' : Int} {w : World} (hc : w.cell? ⟨P0, 4, none⟩ = some (.int .i64 R)) (hf : w.frozen? ⟨P0, 4, none⟩ = false) (hp : P0 < w.heap.size) :
    Counts P0 R' w (w.setCell ⟨P0, 4, none⟩ (.int .i64 R')) := by
  refine ⟨?_, ?_, ?_, (Below.refl P0 w).setCell (p := ⟨P0, 4, none⟩) (Nat.le_refl _) _⟩
  · exact World.cell?_setCell_same _ _ _ hc
  · simpa using hf
  · simpa using hp

theorem Counts.alloc {P0 : Nat} {R : Int} {w w' : World} (h : Counts P0 R w w') (o : Obj) : Counts P0 R w (w'.alloc o) := by
  obtain ⟨h1, h2, h3, h4⟩ := h
  have hb := (Below.refl w'.heap.size w').alloc (Nat.le_refl _) o
  exact ⟨(hb.cell (p := ⟨P0, 4, none⟩) h3).trans h1, (hb.frozen (p := ⟨P0, 4, none⟩) h3).trans h2, by simp; omega, h4.alloc (by omega) o⟩

theorem Counts.drew {P0 : Nat} {R : Int} {w w' : World} (h : Counts P0 R w w') : Counts P0 R w w'.drew := ⟨h.1, h.2.1, h.2.2.1, h.2.2.2.drew⟩

theorem parser_ok (P0 : Nat) (ao : Option Addr) (n c : Nat) (R : Int) (w : World) (hc : w.cell? ⟨P0, 4, none⟩ = some (.int .i64 R)) (hf : w.frozen? ⟨P0, 4, none⟩ = false) (hp : P0 < w.heap.size)
    (h0 : 0 ≤ R) (h1 : R ≤ 1000000000000) (hn : n ≤ 1048576) (hle : R + (n : Int) / 2 ≤ 65536) :
    Calls Tryf.prog 26 #[.pointer (some ⟨P0, 0, none⟩), .slice ao n c] w (SpendOk P0 (R + (n : Int) / 2) (.slice ao n c) w) := by
  go_enter Tryf.func26, Tryf.ntmps26
  go_wp2
  go_ret2
  exact ⟨rfl, counts_set hc hf hp⟩

theorem parser_err (F : Interp) (P0 : Nat) (ao : Option Addr) (n c : Nat) (R : Int) (w : World) (hF : F.answers w.tape) (hc : w.cell? ⟨P0, 4, none⟩ = some (.int .i64 R)) (hf : w.frozen? ⟨P0, 4, none⟩ = false) (hp : P0 < w.heap.size)
    (h0 : 0 ≤ R) (h1 : R ≤ 1000000000000) (hn : n ≤ 1048576) (hle : 65536 < R + (n : Int) / 2) :
    Calls Tryf.prog 26 #[.pointer (some ⟨P0, 0, none⟩), .slice ao n c] w (SpendErr P0 (R + (n : Int) / 2) w) := by
  have hF' := answers_open hF
  go_enter Tryf.func26, Tryf.ntmps26
  go_wp2
  go_ret2
  exact ⟨⟨_, rfl⟩, (((counts_set hc hf hp).alloc _).alloc _).drew⟩

theorem zzspend_ok (P0 : Nat) (ao : Option Addr) (n c : Nat) (R : Int) (w : World) (hc : w.cell? ⟨P0, 4, none⟩ = some (.int .i64 R)) (hf : w.frozen? ⟨P0, 4, none⟩ = false) (hp : P0 < w.heap.size)
    (h0 : 0 ≤ R) (h1 : R ≤ 1000000000000) (hn : n ≤ 1048576) (hle : R + (n : Int) / 2 ≤ 65536) :
    Calls Tryf.prog 16 #[.pointer (some ⟨P0, 0, none⟩), .slice ao n c] w (SpendOk P0 (R + (n : Int) / 2) (.slice ao n c) w) := by
  go_enter Tryf.func16, Tryf.ntmps16
  go_wp2_with fail
  refine (parser_ok P0 ao n c R w hc hf hp h0 h1 hn hle).mono ?_
  rintro e w' ⟨rfl, hq⟩
  go_wp2
  go_ret2
  exact ⟨rfl, hq⟩

theorem zzspend_err (F : Interp) (P0 : Nat) (ao : Option Addr) (n c : Nat) (R : Int) (w : World) (hF : F.answers w.tape) (hc : w.cell? ⟨P0, 4, none⟩ = some (.int .i64 R)) (hf : w.frozen? ⟨P0, 4, none⟩ = false) (hp : P0 < w.heap.size)
    (h0 : 0 ≤ R) (h1 : R ≤ 1000000000000) (hn : n ≤ 1048576) (hle : 65536 < R + (n : Int) / 2) :
    Calls Tryf.prog 16 #[.pointer (some ⟨P0, 0, none⟩), .slice ao n c] w (SpendErr P0 (R + (n : Int) / 2) w) := by
  go_enter Tryf.func16, Tryf.ntmps16
  go_wp2_with fail
  refine (parser_err F P0 ao n c R w hF hc hf hp h0 h1 hn hle).mono ?_
  rintro e w' ⟨⟨a, rfl⟩, hq⟩
  go_wp2
  go_ret2
  exact ⟨⟨_, rfl⟩, hq⟩

end Go.Proofs.Qxb6002343aFmt
