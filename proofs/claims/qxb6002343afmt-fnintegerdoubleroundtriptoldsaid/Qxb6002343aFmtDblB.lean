import Derived.Test.Qxb6002343aFmtDblA
namespace Go.Proofs.Qxb6002343aFmt
open Go.RowKit Go.Extern.Stop Go.Stop Go.Extern
set_option linter.unusedVariables false
set_option linter.unusedSimpArgs false

/-- A float comes back, the world has at most drawn. -/
def FloatEnd (y : Nat) (w : World) (r : Ending) (w' : World) : Prop := r = .returned (.float .f64 y) ∧ (w' = w ∨ w' = w.drew)

theorem trunc_nan {x t : Nat} {s : Bool} (h : Ieee.double.read x = .nan s t) (w : World) :
    ∃ z u, Ieee.double.read z = .nan s u ∧ Calls Tryf.prog 30 #[.float .f64 x] w (FloatEnd z w) := by
  obtain ⟨z, w1, u, hr, hz, hw⟩ := run_trunc_nan h w
  refine ⟨z, u, hz, ?_⟩
  have hw2 : Hid (w1 = w ∨ w1 = w.drew) := hw
  clear hw
  go_enter Tryf.func30, Tryf.ntmps30
  go_wp2
  go_ret
  exact ⟨rfl, hw2.out⟩

/-- An integer and nil; or nought and an error. -/
def IntEnd (q : Int) (w : World) (r : Ending) (w' : World) : Prop := r = .returned (.tuple #[.int .i64 q, .nilIface]) ∧ Below w.heap.size w w'
def IntErr (w : World) (r : Ending) (w' : World) : Prop := (∃ a, r = .returned (.tuple #[.int .i64 0, .iface 68 (.pointer (some a))])) ∧ Below w.heap.size w w'

theorem below_of_drew {w w' : World} (h : w' = w ∨ w' = w.drew) : Below w.heap.size w w' := by
  rcases h with rfl | rfl
  · exact Below.refl _ _
  · exact (Below.refl _ _).drew

theorem dti_ok (x y : Nat) (q : Int) (w : World) (ht : Calls Tryf.prog 30 #[.float .f64 x] w (FloatEnd y w))
    (h1 : (FloatKind.f64.format.order y 14114281232179134464 == some .gt || FloatKind.f64.format.order y 14114281232179134464 == some .eq) = true)
    (h2 : (FloatKind.f64.format.order y 4890909195324358656 == some .lt) = true) (h3 : floatToIntVal .f64 y .i64 = some q) :
    Calls Tryf.prog 24 #[.float .f64 x] w (IntEnd q w) := by
  have hcv : ∀ w, (convert 29 2 (.float .f64 y)).run Tryf.prog w = .ok (.int .i64 q) w := fun w => run_convert_float_int w 29 2 .f64 .i64 y q (by rw [Tryf.underlying29]; rfl) Tryf.underlying2 h3
  clear h3
  go_enter Tryf.func24, Tryf.ntmps24
  go_wp2_with fail
  refine ht.mono ?_
  rintro r w1 ⟨rfl, hw⟩
  have hb := below_of_drew hw
  clear hw
  go_wp2
  go_ret2
  exact ⟨rfl, hb⟩

theorem dti_err (F : Interp) (x y : Nat) (w : World) (hF : F.answers w.tape) (ht : Calls Tryf.prog 30 #[.float .f64 x] w (FloatEnd y w))
    (h1 : (FloatKind.f64.format.order y 14114281232179134464 == some .gt || FloatKind.f64.format.order y 14114281232179134464 == some .eq) = false ∨
      (FloatKind.f64.format.order y 4890909195324358656 == some .lt) = false) :
    Calls Tryf.prog 24 #[.float .f64 x] w (IntErr w) := by
  have fin : ∀ w1 : World, (w1 = w ∨ w1 = w.drew) → F.answers w1.tape := fun w1 h => by rcases h with rfl | rfl <;> exact hF
  by_cases c1 : (FloatKind.f64.format.order y 14114281232179134464 == some .gt || FloatKind.f64.format.order y 14114281232179134464 == some .eq) = false
  · clear h1
    go_enter Tryf.func24, Tryf.ntmps24
    go_wp2_with fail
    refine ht.mono ?_
    rintro r w1 ⟨rfl, hw⟩
    have hF' := answers_open (fin w1 hw)
    have hb := below_of_drew hw
    clear hw
    go_wp2
    go_ret2
    exact ⟨⟨_, rfl⟩, ((hb.alloc hb.size _).alloc (by have := hb.size; simp; omega) _).drew⟩
  · have c2 : (FloatKind.f64.format.order y 4890909195324358656 == some .lt) = false := h1.resolve_left c1
    have c3 : (FloatKind.f64.format.order y 14114281232179134464 == some .gt || FloatKind.f64.format.order y 14114281232179134464 == some .eq) = true := eq_true_of_ne_false c1
    clear h1 c1
    go_enter Tryf.func24, Tryf.ntmps24
    go_wp2_with fail
    refine ht.mono ?_
    rintro r w1 ⟨rfl, hw⟩
    have hF' := answers_open (fin w1 hw)
    have hb := below_of_drew hw
    clear hw
    go_wp2
    go_ret2
    exact ⟨⟨_, rfl⟩, ((hb.alloc hb.size _).alloc (by have := hb.size; simp; omega) _).drew⟩

theorem zzdti_ok (x : Nat) (q : Int) (w : World) (h : Calls Tryf.prog 24 #[.float .f64 x] w (IntEnd q w)) : Calls Tryf.prog 12 #[.float .f64 x] w (IntEnd q w) := by
  go_enter Tryf.func12, Tryf.ntmps12
  go_wp2_with fail
  refine h.mono ?_
  rintro r w1 ⟨rfl, hb⟩
  go_wp2
  go_ret2
  exact ⟨rfl, hb⟩

theorem zzdti_err (x : Nat) (w : World) (h : Calls Tryf.prog 24 #[.float .f64 x] w (IntErr w)) : Calls Tryf.prog 12 #[.float .f64 x] w (IntErr w) := by
  go_enter Tryf.func12, Tryf.ntmps12
  go_wp2_with fail
  refine h.mono ?_
  rintro r w1 ⟨⟨a, rfl⟩, hb⟩
  go_wp2
  go_ret2
  exact ⟨⟨_, rfl⟩, hb⟩

/-- doubleToInteger of a finite word: its whole part, where int64 has it; else an error. -/
theorem int_range {q : Int} (h1 : -9223372036854775808 ≤ q) (h2 : q < 9223372036854775808) : IntKind.i64.min ≤ q ∧ q ≤ IntKind.i64.max := by
  simp [IntKind.min, IntKind.max, IntKind.signed, IntKind.bits]
  omega

theorem dti_num_ok {x : Nat} {s : Bool} {m : Nat} {i : Int} (h : Ieee.double.read x = .number s m i) (w : World)
    (h1 : -9223372036854775808 ≤ Fl.sv s (Fl.av m i / Fl.U)) (h2 : Fl.sv s (Fl.av m i / Fl.U) < 9223372036854775808) :
    Calls Tryf.prog 12 #[.float .f64 x] w (IntEnd (Fl.sv s (Fl.av m i / Fl.U)) w) := by
  obtain ⟨k, l, r1, r2, r3, r4, r5⟩ := Fl.trunc_read h
  refine zzdti_ok x _ w (dti_ok x (wordOf s m i) _ w ((trunc_num h w).mono fun r w' h => ⟨h.1, Or.inl h.2⟩) ?_ ?_ ?_)
  · exact (Fl.y_ge r1 r3).trans (decide_eq_true h1)
  · exact (Fl.y_lt r1 r3).trans (decide_eq_true h2)
  · have e : (FloatKind.f64.decode (wordOf s m i)).toInt .zero = some (Fl.sv s (Fl.av m i / Fl.U)) := Fl.y_toInt r1 r3
    unfold floatToIntVal
    rw [e]
    simp only
    rw [if_pos (int_range h1 h2)]

theorem dti_num_err (F : Interp) {x : Nat} {s : Bool} {m : Nat} {i : Int} (h : Ieee.double.read x = .number s m i) (w : World) (hF : F.answers w.tape)
    (h1 : Fl.sv s (Fl.av m i / Fl.U) < -9223372036854775808 ∨ 9223372036854775808 ≤ Fl.sv s (Fl.av m i / Fl.U)) :
    Calls Tryf.prog 12 #[.float .f64 x] w (IntErr w) := by
  obtain ⟨k, l, r1, r2, r3, r4, r5⟩ := Fl.trunc_read h
  refine zzdti_err x w (dti_err F x (wordOf s m i) w hF ((trunc_num h w).mono fun r w' h => ⟨h.1, Or.inl h.2⟩) ?_)
  rcases h1 with h1 | h1
  · exact Or.inl ((Fl.y_ge r1 r3).trans (decide_eq_false (by omega)))
  · exact Or.inr ((Fl.y_lt r1 r3).trans (decide_eq_false (by omega)))

theorem dti_inf_err (F : Interp) {x : Nat} {s : Bool} (h : Ieee.double.read x = .infinity s) (w : World) (hF : F.answers w.tape) :
    Calls Tryf.prog 12 #[.float .f64 x] w (IntErr w) := by
  refine zzdti_err x w (dti_err F x _ w hF ((trunc_inf h w).mono fun r w' h => ⟨h.1, Or.inl h.2⟩) ?_)
  have e1 := Fl.order_inf (Fl.read_inf s) Fl.read_m63
  have e2 := Fl.order_inf (Fl.read_inf s) Fl.read_c63
  cases s
  · refine Or.inr ?_
    show (Ieee.double.order _ _ == some .lt) = false
    rw [e2]; rfl
  · refine Or.inl ?_
    show (Ieee.double.order _ _ == some .gt || Ieee.double.order _ _ == some .eq) = false
    rw [e1]; rfl

theorem dti_nan_err (F : Interp) {x t : Nat} {s : Bool} (h : Ieee.double.read x = .nan s t) (w : World) (hF : F.answers w.tape) :
    Calls Tryf.prog 12 #[.float .f64 x] w (IntErr w) := by
  obtain ⟨z, u, hz, hc⟩ := trunc_nan h w
  refine zzdti_err x w (dti_err F x z w hF hc (Or.inl ?_))
  show (Ieee.double.order _ _ == some .gt || Ieee.double.order _ _ == some .eq) = false
  rw [Fl.order_nan hz]
  rfl

@[go_sem] theorem unary_neg_float (k : FloatKind) (b : Nat) : Op.unary .neg (.float k b) = pure (.float k (Op.negFloat k b)) := rfl

/-- absFloat -/
theorem abs_pos (x : Nat) (w : World) (h : (FloatKind.f64.format.order x 0 == some .lt) = false) : Calls Tryf.prog 13 #[.float .f64 x] w fun r w' => r = .returned (.float .f64 x) ∧ w' = w := by
  go_enter Tryf.func13, Tryf.ntmps13
  go_wp2
  go_ret
  exact ⟨rfl, rfl⟩

theorem abs_neg (x : Nat) (w : World) (h : (FloatKind.f64.format.order x 0 == some .lt) = true) : Calls Tryf.prog 13 #[.float .f64 x] w fun r w' => r = .returned (.float .f64 (Op.negFloat .f64 x)) ∧ w' = w := by
  go_enter Tryf.func13, Tryf.ntmps13
  go_wp2
  go_ret
  exact ⟨rfl, rfl⟩

end Go.Proofs.Qxb6002343aFmt
