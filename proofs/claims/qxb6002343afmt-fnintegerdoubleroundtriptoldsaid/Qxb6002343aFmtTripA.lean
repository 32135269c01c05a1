import Derived.Test.Qxb6002343aFmtDblC
import Derived.Test.Qxb6002343aFmtFlE
namespace Go.Proofs.Qxb6002343aFmt
open Go.RowKit Go.Extern.Stop Go.Stop Go.Extern
set_option linter.unusedVariables false
set_option linter.unusedSimpArgs false

theorem to_double (i : Int) (w : World) : Calls Tryf.prog 14 #[.int .i64 i] w fun r w' => r = .returned (.float .f64 (floatOfInt .f64 i)) ∧ w' = w := by
  go_enter Tryf.func14, Tryf.ntmps14
  go_wp2
  go_ret
  exact ⟨rfl, rfl⟩

theorem trip_exact (i : Int) (x : Nat) (w : World) (h14 : ∀ w, Calls Tryf.prog 14 #[.int .i64 i] w fun r w' => r = .returned (.float .f64 x) ∧ w' = w) (h12 : Calls Tryf.prog 12 #[.float .f64 x] w (IntEnd i w))
    (h1 : -9007199254740992 ≤ i) (h2 : i ≤ 9007199254740992) : Calls Tryf.prog 7 #[.int .i64 i] w (OkEnd w) := by
  go_enter Tryf.func7, Tryf.ntmps7
  go_wp2_with fail
  refine (h14 _).mono ?_
  rintro r w1 ⟨rfl, hw⟩
  obtain rfl : w = w1 := hw.symm
  clear hw
  go_wp2_with fail
  refine h12.mono ?_
  rintro r w1 ⟨rfl, hb⟩
  go_wp2
  go_ret
  exact ⟨rfl, hb⟩

theorem trip_refused (i : Int) (x : Nat) (w : World) (h14 : ∀ w, Calls Tryf.prog 14 #[.int .i64 i] w fun r w' => r = .returned (.float .f64 x) ∧ w' = w) (h12 : Calls Tryf.prog 12 #[.float .f64 x] w (IntErr w))
    (h1 : 9223372036854775296 ≤ i) : Calls Tryf.prog 7 #[.int .i64 i] w (OkEnd w) := by
  have h2 : 9007199254740992 < i := by omega
  have h3 : decide (i ≤ 9007199254740992) = false := by simp; omega
  go_enter Tryf.func7, Tryf.ntmps7
  go_wp2_with fail
  refine (h14 _).mono ?_
  rintro r w1 ⟨rfl, hw⟩
  obtain rfl : w = w1 := hw.symm
  clear hw
  go_wp2_with fail
  refine h12.mono ?_
  rintro r w1 ⟨⟨a, rfl⟩, hb⟩
  go_wp2
  go_ret
  exact ⟨rfl, hb⟩

theorem trip_near (i q : Int) (x : Nat) (w : World) (h14 : ∀ w, Calls Tryf.prog 14 #[.int .i64 i] w fun r w' => r = .returned (.float .f64 x) ∧ w' = w) (h12 : Calls Tryf.prog 12 #[.float .f64 x] w (IntEnd q w))
    (h1 : i < -9007199254740992 ∨ 9007199254740992 < i) (h2 : i < 9223372036854775296) (h3 : q - i ≤ 512) (h4 : -512 ≤ q - i) : Calls Tryf.prog 7 #[.int .i64 i] w (OkEnd w) := by
  rcases h1 with h1 | h1
  · have h5 : decide (-9007199254740992 ≤ i) = false := by simp; omega
    by_cases hn : q - i < 0
    · have h6 : decide (-(q - i) ≤ 512) = true := by rw [decide_eq_true_iff]; omega
      go_enter Tryf.func7, Tryf.ntmps7
      go_wp2_with fail
      refine (h14 _).mono ?_
      rintro r w1 ⟨rfl, hw⟩
      obtain rfl : w = w1 := hw.symm
      clear hw
      go_wp2_with fail
      refine h12.mono ?_
      rintro r w1 ⟨rfl, hb⟩
      go_wp2
      go_ret
      exact ⟨rfl, hb⟩
    · go_enter Tryf.func7, Tryf.ntmps7
      go_wp2_with fail
      refine (h14 _).mono ?_
      rintro r w1 ⟨rfl, hw⟩
      obtain rfl : w = w1 := hw.symm
      clear hw
      go_wp2_with fail
      refine h12.mono ?_
      rintro r w1 ⟨rfl, hb⟩
      go_wp2
      go_ret
      exact ⟨rfl, hb⟩
  · have h5 : decide (i ≤ 9007199254740992) = false := by simp; omega
    by_cases hn : q - i < 0
    · have h6 : decide (-(q - i) ≤ 512) = true := by rw [decide_eq_true_iff]; omega
      go_enter Tryf.func7, Tryf.ntmps7
      go_wp2_with fail
      refine (h14 _).mono ?_
      rintro r w1 ⟨rfl, hw⟩
      obtain rfl : w = w1 := hw.symm
      clear hw
      go_wp2_with fail
      refine h12.mono ?_
      rintro r w1 ⟨rfl, hb⟩
      go_wp2
      go_ret
      exact ⟨rfl, hb⟩
    · go_enter Tryf.func7, Tryf.ntmps7
      go_wp2_with fail
      refine (h14 _).mono ?_
      rintro r w1 ⟨rfl, hw⟩
      obtain rfl : w = w1 := hw.symm
      clear hw
      go_wp2_with fail
      refine h12.mono ?_
      rintro r w1 ⟨rfl, hb⟩
      go_wp2
      go_ret
      exact ⟨rfl, hb⟩

/-- doubleToInteger of a whole number's word. -/
theorem dti_whole_ok {x k R : Nat} {s : Bool} {l : Int} (h : Ieee.double.read x = .number s k l) (hR : Fl.av k l = R * Fl.U) (w : World) (h1 : -9223372036854775808 ≤ Fl.sv s R) (h2 : Fl.sv s R < 9223372036854775808) :
    Calls Tryf.prog 12 #[.float .f64 x] w (IntEnd (Fl.sv s R) w) := by
  have e : Fl.av k l / Fl.U = R := by rw [hR, Nat.mul_div_cancel _ Fl.U_pos]
  have := dti_num_ok h w (by rw [e]; exact h1) (by rw [e]; exact h2)
  rwa [e] at this

theorem dti_whole_err (F : Interp) {x k R : Nat} {s : Bool} {l : Int} (h : Ieee.double.read x = .number s k l) (hR : Fl.av k l = R * Fl.U) (w : World) (hF : F.answers w.tape) (h1 : Fl.sv s R < -9223372036854775808 ∨ 9223372036854775808 ≤ Fl.sv s R) :
    Calls Tryf.prog 12 #[.float .f64 x] w (IntErr w) := by
  have e : Fl.av k l / Fl.U = R := by rw [hR, Nat.mul_div_cancel _ Fl.U_pos]
  exact dti_num_err F h w hF (by rw [e]; exact h1)

/-- THE LAW's WALK, whatever the int64. -/
theorem trip_any (F : Interp) (i : Int) (w : World) (hF : F.answers w.tape) (hi0 : -9223372036854775808 ≤ i) (hi1 : i < 9223372036854775808) : Calls Tryf.prog 7 #[.int .i64 i] w (OkEnd w) := by
  have h14 := to_double i
  by_cases hz : i = 0
  · subst hz
    have e : Ieee.double.read (floatOfInt .f64 0) = .number false 0 (-1074) := Fl.read_zero
    have := dti_whole_ok (R := 0) e (by simp [Fl.av]) w (by simp [Fl.sv]) (by simp [Fl.sv])
    exact trip_exact 0 _ w h14 this (by omega) (by omega)
  · have hw : floatOfInt .f64 i = Ieee.double.nearest (decide (i < 0)) i.natAbs 0 := rfl
    obtain ⟨k, l, R, r1, r2, n1, n2, n3, n4, n5⟩ := Fl.round_read (decide (i < 0)) i.natAbs (by omega) (by omega)
    rw [← hw] at r1
    by_cases c1 : -9007199254740992 ≤ i ∧ i ≤ 9007199254740992
    · have hq : Fl.sv (decide (i < 0)) R = i := by
        have := n1 (by omega)
        by_cases hn : i < 0
        · simp [Fl.sv, hn]; omega
        · simp [Fl.sv, hn]; omega
      have := dti_whole_ok r1 r2 w (by omega) (by omega)
      rw [hq] at this
      exact trip_exact i _ w h14 this c1.1 c1.2
    · by_cases c2 : 9223372036854775296 ≤ i
      · have hR := n4 (by omega) (by omega)
        refine trip_refused i _ w h14 (dti_whole_err F r1 r2 w hF (Or.inr ?_)) c2
        have hn : ¬ i < 0 := by omega
        simp [Fl.sv, hn]; omega
      · by_cases hn : i < 0
        · have hs : Fl.sv (decide (i < 0)) R = -(R : Int) := by simp [Fl.sv, hn]
          have hb : R ≤ 9223372036854775808 ∧ R ≤ i.natAbs + 512 ∧ i.natAbs ≤ R + 512 := by
            by_cases h63 : i.natAbs = 9223372036854775808
            · have := n3 h63; omega
            · have a := n2 (by omega)
              by_cases h64 : i.natAbs < 9223372036854775296
              · have := n5 h64; omega
              · have := n4 (by omega) (by omega); omega
          have := dti_whole_ok r1 r2 w (by omega) (by omega)
          exact trip_near i _ _ w h14 this (by omega) (by omega) (by omega) (by omega)
        · have hs : Fl.sv (decide (i < 0)) R = (R : Int) := by simp [Fl.sv, hn]
          have a := n2 (by omega)
          have b := n5 (by omega)
          have := dti_whole_ok r1 r2 w (by omega) (by omega)
          exact trip_near i _ _ w h14 this (by omega) (by omega) (by omega) (by omega)

end Go.Proofs.Qxb6002343aFmt
