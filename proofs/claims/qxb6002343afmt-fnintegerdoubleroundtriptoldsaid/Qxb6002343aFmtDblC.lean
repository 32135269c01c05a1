import Derived.Test.Qxb6002343aFmtDblB
namespace Go.Proofs.Qxb6002343aFmt
open Go.RowKit Go.Extern.Stop Go.Stop Go.Extern
set_option linter.unusedVariables false
set_option linter.unusedSimpArgs false

def OkEnd (w : World) (r : Ending) (w' : World) : Prop := r = .returned (.bool true) ∧ Below w.heap.size w w'

theorem dbl_nan (x : Nat) (w : World) (h : Calls Tryf.prog 12 #[.float .f64 x] w (IntErr w)) (h1 : (FloatKind.f64.format.order x x != some .eq) = true) : Calls Tryf.prog 6 #[.float .f64 x] w (OkEnd w) := by
  go_enter Tryf.func6, Tryf.ntmps6
  go_wp2_with fail
  refine h.mono ?_
  rintro r w1 ⟨⟨a, rfl⟩, hb⟩
  go_wp2
  go_ret
  exact ⟨rfl, hb⟩

theorem dbl_high (x : Nat) (w : World) (h : Calls Tryf.prog 12 #[.float .f64 x] w (IntErr w)) (h1 : (FloatKind.f64.format.order x x != some .eq) = false)
    (h2 : (FloatKind.f64.format.order x 4890909195324358656 == some .gt || FloatKind.f64.format.order x 4890909195324358656 == some .eq) = true) : Calls Tryf.prog 6 #[.float .f64 x] w (OkEnd w) := by
  go_enter Tryf.func6, Tryf.ntmps6
  go_wp2_with fail
  refine h.mono ?_
  rintro r w1 ⟨⟨a, rfl⟩, hb⟩
  go_wp2
  go_ret
  exact ⟨rfl, hb⟩

theorem dbl_low (x : Nat) (w : World) (h : Calls Tryf.prog 12 #[.float .f64 x] w (IntErr w)) (h1 : (FloatKind.f64.format.order x x != some .eq) = false)
    (h2 : (FloatKind.f64.format.order x 4890909195324358656 == some .gt || FloatKind.f64.format.order x 4890909195324358656 == some .eq) = false)
    (h3 : (FloatKind.f64.format.order x 14114281232179134464 == some .lt) = true) : Calls Tryf.prog 6 #[.float .f64 x] w (OkEnd w) := by
  go_enter Tryf.func6, Tryf.ntmps6
  go_wp2_with fail
  refine h.mono ?_
  rintro r w1 ⟨⟨a, rfl⟩, hb⟩
  go_wp2
  go_ret
  exact ⟨rfl, hb⟩

theorem dbl_zero (x : Nat) (w : World) (h : Calls Tryf.prog 12 #[.float .f64 x] w (IntEnd 0 w)) (h1 : (FloatKind.f64.format.order x x != some .eq) = false)
    (h2 : (FloatKind.f64.format.order x 4890909195324358656 == some .gt || FloatKind.f64.format.order x 4890909195324358656 == some .eq) = false)
    (h3 : (FloatKind.f64.format.order x 14114281232179134464 == some .lt) = false)
    (h4 : (FloatKind.f64.format.order x 13830554455654793216 == some .gt) = true) (h5 : (FloatKind.f64.format.order x 4607182418800017408 == some .lt) = true) : Calls Tryf.prog 6 #[.float .f64 x] w (OkEnd w) := by
  go_enter Tryf.func6, Tryf.ntmps6
  go_wp2_with fail
  refine h.mono ?_
  rintro r w1 ⟨rfl, hb⟩
  go_wp2
  go_ret
  exact ⟨rfl, hb⟩

set_option maxHeartbeats 1000000 in
theorem dbl_some (x y a b z : Nat) (q : Int) (g : Bool) (w : World) (h : Calls Tryf.prog 12 #[.float .f64 x] w (IntEnd q w)) (h1 : (FloatKind.f64.format.order x x != some .eq) = false)
    (h2 : (FloatKind.f64.format.order x 4890909195324358656 == some .gt || FloatKind.f64.format.order x 4890909195324358656 == some .eq) = false)
    (h3 : (FloatKind.f64.format.order x 14114281232179134464 == some .lt) = false)
    (h4 : (q == 0) = false) (h5 : decide (0 < q) = g) (h6 : (FloatKind.f64.format.order x 0 == some .gt) = g)
    (h7 : floatOfInt .f64 q = y) (ha : ∀ w, Calls Tryf.prog 13 #[.float .f64 x] w fun r w' => r = .returned (.float .f64 a) ∧ w' = w) (hb : ∀ w, Calls Tryf.prog 13 #[.float .f64 y] w fun r w' => r = .returned (.float .f64 b) ∧ w' = w)
    (h8 : (FloatKind.f64.format.order b a == some .lt || FloatKind.f64.format.order b a == some .eq) = true) (h9 : floatBits .sub .f64 a b = some z) (h10 : (FloatKind.f64.format.order z 4607182418800017408 == some .lt) = true) :
    Calls Tryf.prog 6 #[.float .f64 x] w (OkEnd w) := by
  have hs : ∀ w, (binOp .sub 29 (.float .f64 a) (.float .f64 b)).run Tryf.prog w = .ok (.float .f64 z) w := fun w => run_float_arith w .sub 29 .f64 a b z h9
  clear h9
  go_enter Tryf.func6, Tryf.ntmps6
  go_wp2_with fail
  refine h.mono ?_
  rintro r w1 ⟨rfl, hbe⟩
  go_wp2_with fail
  refine (ha _).mono ?_
  rintro r w2 ⟨rfl, rfl⟩
  go_wp2_with fail
  refine (hb _).mono ?_
  rintro r w3 ⟨rfl, rfl⟩
  go_wp2
  go_ret
  exact ⟨rfl, hbe⟩

/-- absFloat of a number that is not nought: its magnitude. -/
theorem abs_any {x : Nat} {s : Bool} {m : Nat} {i : Int} (hx : x < 18446744073709551616) (h : Ieee.double.read x = .number s m i) (hp : 0 < Fl.av m i) :
    ∃ a, Ieee.double.read a = .number false m i ∧ ∀ w, Calls Tryf.prog 13 #[.float .f64 x] w fun r w' => r = .returned (.float .f64 a) ∧ w' = w := by
  have e := Fl.x_lt0 h hp
  cases s
  · exact ⟨x, h, fun w => abs_pos x w e⟩
  · exact ⟨_, Fl.read_neg hx h, fun w => abs_neg x w e⟩

theorem word_lt (s : Bool) (m : Nat) (i : Int) : wordOf s m i < 18446744073709551616 := by
  have := Ieee.double.write_lt (.number s (Fl.av m i / Fl.U) 0)
  exact this

/-- THE LAW's WALK, whatever the word. -/
theorem dbl_any (F : Interp) (x : Nat) (w : World) (hF : F.answers w.tape) (hx : x < 18446744073709551616) : Calls Tryf.prog 6 #[.float .f64 x] w (OkEnd w) := by
  cases h : Ieee.double.read x with
  | nan s t =>
    refine dbl_nan x w (dti_nan_err F h w hF) ?_
    show (Ieee.double.order x x != some .eq) = true
    rw [Fl.order_nan h]
    rfl
  | infinity s =>
    have e1 := Fl.order_inf h Fl.read_c63
    have e2 := Fl.order_inf h Fl.read_m63
    cases s
    · refine dbl_high x w (dti_inf_err F h w hF) (Fl.order_inf_self h) ?_
      show (Ieee.double.order _ _ == some .gt || Ieee.double.order _ _ == some .eq) = true
      rw [e1]; rfl
    · refine dbl_low x w (dti_inf_err F h w hF) (Fl.order_inf_self h) ?_ ?_
      · show (Ieee.double.order _ _ == some .gt || Ieee.double.order _ _ == some .eq) = false
        rw [e1]; rfl
      · show (Ieee.double.order _ _ == some .lt) = true
        rw [e2]; rfl
  | number s m i =>
    have g1 := Fl.x_ge h
    have g2 := Fl.x_lt h
    by_cases c1 : 9223372036854775808 ≤ Fl.sv s (Fl.av m i / Fl.U)
    · exact dbl_high x w (dti_num_err F h w hF (Or.inr c1)) (Fl.not_nan h) (g1.trans (decide_eq_true c1))
    by_cases c2 : Fl.sv s (Fl.av m i / Fl.U) < -9223372036854775808
    · exact dbl_low x w (dti_num_err F h w hF (Or.inl c2)) (Fl.not_nan h) (g1.trans (decide_eq_false c1)) (g2.trans (decide_eq_true c2))
    have hok := dti_num_ok h w (by omega) (by omega)
    by_cases c3 : Fl.av m i / Fl.U = 0
    · have e : Fl.sv s (Fl.av m i / Fl.U) = 0 := by rw [c3]; cases s <;> rfl
      rw [e] at hok
      obtain ⟨k1, k2⟩ := Fl.x_small h c3
      exact dbl_zero x w hok (Fl.not_nan h) (g1.trans (decide_eq_false c1)) (g2.trans (decide_eq_false c2)) k1 k2
    · have hq : 0 < Fl.av m i / Fl.U := Nat.pos_of_ne_zero c3
      have hp := Fl.pos_of_q hq
      obtain ⟨k, l, r1, r2, r3, r4, r5⟩ := Fl.trunc_read h
      have hpk : 0 < Fl.av k l := by rw [r3]; exact Nat.mul_pos hq Fl.U_pos
      obtain ⟨a, ha1, ha2⟩ := abs_any hx h hp
      obtain ⟨b, hb1, hb2⟩ := abs_any (word_lt s m i) r1 hpk
      have hz : ∃ z, Ieee.double.sub a b = some z ∧ (Ieee.double.order z 4607182418800017408 == some .lt) = true := by
        by_cases hi : 0 ≤ i
        · obtain ⟨rfl, rfl⟩ := r4 hi
          exact Fl.sub_same ha1 hb1
        · obtain ⟨e1, e2⟩ := r5 (by omega) hq
          exact Fl.sub_frac h ha1 hb1 (by omega) hq e1 e2
      obtain ⟨z, hz1, hz2⟩ := hz
      refine dbl_some x (wordOf s m i) a b z (Fl.sv s (Fl.av m i / Fl.U)) (!s) w hok (Fl.not_nan h) (g1.trans (decide_eq_false c1)) (g2.trans (decide_eq_false c2)) ?_ ?_ (Fl.x_gt0 h hp) (Fl.nearest_of_int s _ hq) ha2 hb2 ?_ hz1 hz2
      · rw [beq_eq_false_iff_ne]
        generalize Fl.av m i / Fl.U = q at hq
        cases s <;> simp [Fl.sv] <;> omega
      · generalize Fl.av m i / Fl.U = q at hq
        cases s <;> simp [Fl.sv] <;> omega
      · have := Fl.is_le (Fl.order_with hb1 ha1)
        refine this.trans (decide_eq_true ?_)
        rw [r3]
        have hd := (Fl.div_facts (Fl.av m i)).1
        generalize Fl.av m i / Fl.U * Fl.U = t at hd
        simp only [Fl.sv, Bool.false_eq_true, if_false]
        omega

end Go.Proofs.Qxb6002343aFmt
