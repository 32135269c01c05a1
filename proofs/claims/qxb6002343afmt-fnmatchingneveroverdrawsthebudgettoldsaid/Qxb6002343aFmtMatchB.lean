import Derived.Test.Qxb6002343aFmtMatchA
namespace Go.Proofs.Qxb6002343aFmt
open Go.RowKit Go.Extern.Stop Go.Stop Go.Extern
set_option linter.unusedVariables false
set_option linter.unusedSimpArgs false

variable {b p : Nat} {limit spent rl pieces : Int} {w w' : World}

theorem quo_ok (n : Int) (h0 : 0 ≤ n) (h1 : n ≤ 1048576) (pieces : Int) (hp : pieces ≤ 1073741824) : pieces ≤ (9223372036854775807 : Int) / (n + 1) := by
  have h : (1073741824 : Int) ≤ 9223372036854775807 / (n + 1) := by
    apply Int.le_ediv_of_mul_le (by omega)
    omega
  omega

theorem xspend_yes {w0 : World} (s : ByteArray) (w : World) (h : Bud b p limit spent rl pieces w0 w) (h0 : 0 ≤ limit) (h1 : limit ≤ 1000000000000) (h2 : 0 ≤ spent) (h3 : spent ≤ limit)
    (hp0 : 0 ≤ pieces) (hp1 : pieces ≤ 1073741824) (hs : s.size ≤ 1048576) (c0 : 0 ≤ pieces * ((s.size : Int) + 1)) (c1 : pieces * ((s.size : Int) + 1) ≤ 1200000000000000) (h5 : pieces * ((s.size : Int) + 1) ≤ limit - spent) :
    Calls Tryf.prog 28 #[.pointer (some ⟨p, 0, none⟩), .pointer (some ⟨b, 0, none⟩), .string s] w (BudEnd .nilIface b p limit (spent + pieces * ((s.size : Int) + 1)) rl pieces w0) := by
  have e1 := h.cPieces
  have hq := quo_ok s.size (by omega) (by omega) pieces hp1
  go_enter Tryf.func28, Tryf.ntmps28
  go_wp2
  go_quiet (fail)
  go_wp2_with fail
  refine (bspend_yes _ _ (h.drewN nq) h0 h1 h2 h3 c0 h5).mono ?_
  rintro r w1 ⟨rfl, hb⟩
  go_wp2
  go_ret
  exact ⟨rfl, hb⟩

theorem xspend_no {w0 : World} (F : Interp) (s : ByteArray) (w : World) (hF : F.answers w0.tape) (h : Bud b p limit spent rl pieces w0 w) (h0 : 0 ≤ limit) (h1 : limit ≤ 1000000000000) (h2 : 0 ≤ spent) (h3 : spent ≤ limit)
    (hp0 : 0 ≤ pieces) (hp1 : pieces ≤ 1073741824) (hs : s.size ≤ 1048576) (c0 : 0 ≤ pieces * ((s.size : Int) + 1)) (c1 : pieces * ((s.size : Int) + 1) ≤ 1200000000000000) (h5 : limit - spent < pieces * ((s.size : Int) + 1)) :
    Calls Tryf.prog 28 #[.pointer (some ⟨p, 0, none⟩), .pointer (some ⟨b, 0, none⟩), .string s] w (BudErr b p limit spent rl pieces w0) := by
  have e1 := h.cPieces
  have hq := quo_ok s.size (by omega) (by omega) pieces hp1
  go_enter Tryf.func28, Tryf.ntmps28
  go_wp2
  go_quiet (fail)
  go_wp2_with fail
  refine (bspend_no _ _ (h.drewN nq) h0 h1 h2 h3 h5).mono ?_
  rintro r w1 ⟨rfl, hb⟩
  have e2 := hb.cPieces
  have e3 := hb.cLimit
  have hF1 : F.answers w1.tape := by rw [hb.bel.tape]; exact hF
  clear e1 h
  go_wp2
  go_region_with (go_at_call 29; refine (errorf_match F w1.heap.size pieces s.size limit _ ?_ ?_ ?_ ?_).mono ?_; exact hF1; (go_simp); (go_simp); (go_simp); rintro e w' ⟨⟨ae, rfl⟩, hb2⟩)
  all_goals
    go_wp2
    go_ret
    exact ⟨⟨_, rfl⟩, hb.below ((((Below.refl _ w1).alloc (Nat.le_refl _) _).drew).trans (hb2.mono (by simp)))⟩

end Go.Proofs.Qxb6002343aFmt
