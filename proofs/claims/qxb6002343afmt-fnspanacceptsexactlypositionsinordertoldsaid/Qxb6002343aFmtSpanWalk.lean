import Derived.Test.Qxb6002343aFmtFacts
import Derived.WalkKit
import Derived.WalkSpells
import Derived.WalkLawsBesides
namespace Go.Proofs.Qxb6002343aFmt
open Go.RowKit Go.Extern.Stop Go.Stop Go.Extern
set_option linter.unusedVariables false

theorem below2 (w : World) (o1 o2 : Obj) : Below w.heap.size w ((w.alloc o1).alloc o2).drew :=
  (((Below.refl _ w).alloc (Nat.le_refl _) o1).alloc (by simp) o2).drew

/-- The call ends with an error (two zeros ahead of it); nothing old has turned. -/
def SpanErr (w : World) (r : Ending) (w' : World) : Prop :=
  (∃ a, r = .returned (.tuple #[.int .i64 0, .int .i64 0, .iface 68 (.pointer (some a))])) ∧ Below w.heap.size w w'

theorem span_neg (F : Interp) (n b e : Int) (w : World) (hF : F.answers w.tape) (h : b < 0) :
    Calls Tryf.prog 23 #[.int .i64 n, .int .i64 b, .int .i64 e] w (SpanErr w) := by
  have hF' := answers_open hF
  go_enter Tryf.func23, Tryf.ntmps23
  go_wp2
  go_ret3
  exact ⟨⟨_, rfl⟩, below2 _ _ _⟩

theorem span_far (F : Interp) (n b e : Int) (w : World) (hF : F.answers w.tape) (h : 0 ≤ b) (h2 : n < b ∨ n < e) :
    Calls Tryf.prog 23 #[.int .i64 n, .int .i64 b, .int .i64 e] w (SpanErr w) := by
  have hF' := answers_open hF
  by_cases c : b < e
  · have h3 : n < e := by omega
    go_enter Tryf.func23, Tryf.ntmps23
    go_wp2
    go_ret3
    exact ⟨⟨_, rfl⟩, below2 _ _ _⟩
  · have h3 : n < b := by omega
    go_enter Tryf.func23, Tryf.ntmps23
    go_wp2
    go_ret3
    exact ⟨⟨_, rfl⟩, below2 _ _ _⟩

theorem span_back (F : Interp) (n b e : Int) (w : World) (hF : F.answers w.tape) (h : 0 ≤ b) (h2 : b ≤ n) (h4 : (e == -1) = false) (h5 : e < b) :
    Calls Tryf.prog 23 #[.int .i64 n, .int .i64 b, .int .i64 e] w (SpanErr w) := by
  have hF' := answers_open hF
  have c : ¬ b < e := by omega
  go_enter Tryf.func23, Tryf.ntmps23
  go_wp2
  go_ret3
  exact ⟨⟨_, rfl⟩, below2 _ _ _⟩

theorem span_open (n b e : Int) (w : World) (h : 0 ≤ b) (h2 : b ≤ n) (h4 : (e == -1) = true) :
    Calls Tryf.prog 23 #[.int .i64 n, .int .i64 b, .int .i64 e] w fun r w' => r = .returned (.tuple #[.int .i64 b, .int .i64 n, .nilIface]) ∧ w' = w := by
  have c : ¬ b < e := by have := beq_iff_eq.1 h4; omega
  go_enter Tryf.func23, Tryf.ntmps23
  go_wp2
  go_ret3
  exact ⟨rfl, rfl⟩

theorem span_ok (n b e : Int) (w : World) (h : 0 ≤ b) (h2 : b ≤ e) (h3 : e ≤ n) :
    Calls Tryf.prog 23 #[.int .i64 n, .int .i64 b, .int .i64 e] w fun r w' => r = .returned (.tuple #[.int .i64 b, .int .i64 e, .nilIface]) ∧ w' = w := by
  have h4 : (e == -1) = false := beq_eq_false_iff_ne.2 (by omega)
  by_cases c : b < e
  · go_enter Tryf.func23, Tryf.ntmps23
    go_wp2
    go_ret3
    exact ⟨rfl, rfl⟩
  · have hbn : b ≤ n := by omega
    go_enter Tryf.func23, Tryf.ntmps23
    go_wp2
    go_ret3
    exact ⟨rfl, rfl⟩

theorem zz_err (n b e : Int) (w : World) (hc : ∀ w0 : World, w0 = w → Calls Tryf.prog 23 #[.int .i64 n, .int .i64 b, .int .i64 e] w0 (SpanErr w0)) :
    Calls Tryf.prog 11 #[.int .i64 n, .int .i64 b, .int .i64 e] w (SpanErr w) := by
  go_enter Tryf.func11, Tryf.ntmps11
  go_wp2_with fail
  refine (hc _ rfl).mono ?_
  rintro r w' ⟨⟨a, rfl⟩, hb⟩
  go_wp2
  go_ret3
  exact ⟨⟨_, rfl⟩, hb⟩

theorem zz_ok (n b e x y : Int) (w : World) (hc : ∀ w0 : World, w0 = w → Calls Tryf.prog 23 #[.int .i64 n, .int .i64 b, .int .i64 e] w0 fun r w' => r = .returned (.tuple #[.int .i64 x, .int .i64 y, .nilIface]) ∧ w' = w0) :
    Calls Tryf.prog 11 #[.int .i64 n, .int .i64 b, .int .i64 e] w fun r w' => r = .returned (.tuple #[.int .i64 x, .int .i64 y, .nilIface]) ∧ w' = w := by
  go_enter Tryf.func11, Tryf.ntmps11
  go_wp2_with fail
  refine (hc _ rfl).mono ?_
  rintro r w' ⟨rfl, rfl⟩
  go_wp2
  go_ret3
  exact ⟨rfl, rfl⟩

/-- Not accepted: an error comes back, and the law says true. -/
theorem fn_err (n b e : Int) (w : World) (hacc : ¬ (0 ≤ b ∧ b ≤ (if e = -1 then n else e) ∧ (if e = -1 then n else e) ≤ n))
    (hc : ∀ w0 : World, w0 = w → Calls Tryf.prog 11 #[.int .i64 n, .int .i64 b, .int .i64 e] w0 (SpanErr w0)) :
    Calls Tryf.prog 3 #[.int .i64 n, .int .i64 b, .int .i64 e] w fun r w' => r = .returned (.bool true) ∧ Below w.heap.size w w' := by
  by_cases c1 : e = -1
  · have h4 : (e == -1) = true := beq_iff_eq.2 c1
    rw [if_pos c1] at hacc
    have Hc : Hid (e = -1) := c1
    clear c1
    by_cases c2 : 0 ≤ b
    · have c3 : ¬ b ≤ n := by omega
      clear hacc
      go_enter Tryf.func3, Tryf.ntmps3
      go_wp2_with fail
      refine (hc _ rfl).mono ?_
      rintro r w' ⟨⟨a, rfl⟩, hb⟩
      go_wp2
      go_ret
      exact ⟨rfl, hb⟩
    · clear hacc
      go_enter Tryf.func3, Tryf.ntmps3
      go_wp2_with fail
      refine (hc _ rfl).mono ?_
      rintro r w' ⟨⟨a, rfl⟩, hb⟩
      go_wp2
      go_ret
      exact ⟨rfl, hb⟩
  · have h4 : (e == -1) = false := beq_eq_false_iff_ne.2 c1
    rw [if_neg c1] at hacc
    clear c1
    by_cases c2 : 0 ≤ b
    · by_cases c3 : b ≤ e
      · have c5 : decide (e ≤ n) = false := by simp; omega
        clear hacc
        go_enter Tryf.func3, Tryf.ntmps3
        go_wp2_with fail
        refine (hc _ rfl).mono ?_
        rintro r w' ⟨⟨a, rfl⟩, hb⟩
        go_wp2
        go_ret
        exact ⟨rfl, hb⟩
      · clear hacc
        go_enter Tryf.func3, Tryf.ntmps3
        go_wp2_with fail
        refine (hc _ rfl).mono ?_
        rintro r w' ⟨⟨a, rfl⟩, hb⟩
        go_wp2
        go_ret
        exact ⟨rfl, hb⟩
    · clear hacc
      go_enter Tryf.func3, Tryf.ntmps3
      go_wp2_with fail
      refine (hc _ rfl).mono ?_
      rintro r w' ⟨⟨a, rfl⟩, hb⟩
      go_wp2
      go_ret
      exact ⟨rfl, hb⟩

theorem fn_open (n b e : Int) (w : World) (h : 0 ≤ b) (h2 : b ≤ n) (h4 : (e == -1) = true)
    (hc : ∀ w0 : World, w0 = w → Calls Tryf.prog 11 #[.int .i64 n, .int .i64 b, .int .i64 e] w0 fun r w' => r = .returned (.tuple #[.int .i64 b, .int .i64 n, .nilIface]) ∧ w' = w0) :
    Calls Tryf.prog 3 #[.int .i64 n, .int .i64 b, .int .i64 e] w fun r w' => r = .returned (.bool true) ∧ Below w.heap.size w w' := by
  go_enter Tryf.func3, Tryf.ntmps3
  go_wp2_with fail
  refine (hc _ rfl).mono ?_
  rintro r w' ⟨rfl, rfl⟩
  go_wp2
  go_ret
  exact ⟨rfl, Below.refl _ _⟩

theorem fn_ok (n b e : Int) (w : World) (h : 0 ≤ b) (h2 : b ≤ e) (h3 : e ≤ n)
    (hc : ∀ w0 : World, w0 = w → Calls Tryf.prog 11 #[.int .i64 n, .int .i64 b, .int .i64 e] w0 fun r w' => r = .returned (.tuple #[.int .i64 b, .int .i64 e, .nilIface]) ∧ w' = w0) :
    Calls Tryf.prog 3 #[.int .i64 n, .int .i64 b, .int .i64 e] w fun r w' => r = .returned (.bool true) ∧ Below w.heap.size w w' := by
  have h4 : (e == -1) = false := beq_eq_false_iff_ne.2 (by omega)
  go_enter Tryf.func3, Tryf.ntmps3
  go_wp2_with fail
  refine (hc _ rfl).mono ?_
  rintro r w' ⟨rfl, rfl⟩
  go_wp2
  go_ret
  exact ⟨rfl, Below.refl _ _⟩

/-- THE LAW's WALK: whatever the three numbers. -/
theorem fn_any (F : Interp) (n b e : Int) (w : World) (hF : F.answers w.tape) :
    Calls Tryf.prog 3 #[.int .i64 n, .int .i64 b, .int .i64 e] w fun r w' => r = .returned (.bool true) ∧ Below w.heap.size w w' := by
  by_cases c1 : 0 ≤ b
  · by_cases c2 : e = -1
    · by_cases c3 : b ≤ n
      · exact fn_open n b e w c1 c3 (beq_iff_eq.2 c2) fun w0 h0 => zz_ok n b e b n w0 fun w1 h1 => span_open n b e w1 c1 c3 (beq_iff_eq.2 c2)
      · refine fn_err n b e w (by rw [if_pos c2]; omega) fun w0 h0 => zz_err n b e w0 fun w1 h1 => span_far F n b e w1 (by rw [h1, h0]; exact hF) c1 (by omega)
    · by_cases c3 : b ≤ e
      · by_cases c4 : e ≤ n
        · exact fn_ok n b e w c1 c3 c4 fun w0 h0 => zz_ok n b e b e w0 fun w1 h1 => span_ok n b e w1 c1 c3 c4
        · refine fn_err n b e w (by rw [if_neg c2]; omega) fun w0 h0 => zz_err n b e w0 fun w1 h1 => span_far F n b e w1 (by rw [h1, h0]; exact hF) c1 (by omega)
      · by_cases c4 : b ≤ n
        · refine fn_err n b e w (by rw [if_neg c2]; omega) fun w0 h0 => zz_err n b e w0 fun w1 h1 => span_back F n b e w1 (by rw [h1, h0]; exact hF) c1 c4 (beq_eq_false_iff_ne.2 c2) (by omega)
        · refine fn_err n b e w (by rw [if_neg c2]; omega) fun w0 h0 => zz_err n b e w0 fun w1 h1 => span_far F n b e w1 (by rw [h1, h0]; exact hF) c1 (by omega)
  · refine fn_err n b e w (by omega) fun w0 h0 => zz_err n b e w0 fun w1 h1 => span_neg F n b e w1 (by rw [h1, h0]; exact hF) (by omega)

end Go.Proofs.Qxb6002343aFmt
