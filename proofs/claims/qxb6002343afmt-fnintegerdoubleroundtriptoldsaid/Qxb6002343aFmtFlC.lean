/- What the law asks of a float64, word by word. No program in sight. -/
import Derived.Test.Qxb6002343aFmtFlB
namespace Go.Proofs.Qxb6002343aFmt.Fl
open Ieee
set_option linter.unusedVariables false
set_option linter.unusedSimpArgs false

/-! ### Comparisons as Bools -/
theorem is_lt {o : Option Ordering} {a b : Int} (h : o = some (compare a b)) : (o == some .lt) = decide (a < b) := by
  subst h
  rw [compare_int]
  by_cases h1 : a < b
  · simp [h1]
  · by_cases h2 : a = b <;> simp [h1, h2] <;> rfl

theorem is_gt {o : Option Ordering} {a b : Int} (h : o = some (compare a b)) : (o == some .gt) = decide (b < a) := by
  subst h
  rw [compare_int]
  by_cases h1 : a < b
  · have : ¬ b < a := by omega
    simp [h1, this]
  · by_cases h2 : a = b
    · have : ¬ b < a := by omega
      simp [h1, h2, this]
    · have : b < a := by omega
      simp [h1, h2, this]

theorem is_eq {o : Option Ordering} {a b : Int} (h : o = some (compare a b)) : (o == some .eq) = decide (a = b) := by
  subst h
  rw [compare_int]
  by_cases h1 : a < b
  · have : ¬ a = b := by omega
    simp [h1, this]
  · by_cases h2 : a = b
    · simp [h1, h2]
    · simp [h1, h2]

theorem is_le {o : Option Ordering} {a b : Int} (h : o = some (compare a b)) : (o == some .lt || o == some .eq) = decide (a ≤ b) := by
  rw [is_lt h, is_eq h, Bool.eq_iff_iff]
  simp
  omega

theorem is_ge {o : Option Ordering} {a b : Int} (h : o = some (compare a b)) : (o == some .gt || o == some .eq) = decide (b ≤ a) := by
  rw [is_gt h, is_eq h, Bool.eq_iff_iff]
  simp
  omega

/-! ### The constants -/
theorem read_c63 : double.read 4890909195324358656 = .number false 4503599627370496 11 := rfl
theorem read_m63 : double.read 14114281232179134464 = .number true 4503599627370496 11 := rfl
theorem read_one : double.read 4607182418800017408 = .number false 4503599627370496 (-52) := rfl
theorem read_mone : double.read 13830554455654793216 = .number true 4503599627370496 (-52) := rfl
theorem read_zero : double.read 0 = .number false 0 (-1074) := rfl
theorem av_c63 : av 4503599627370496 11 = 9223372036854775808 * U := by
  rw [av_nonneg _ _ (by omega), show 4503599627370496 * 2 ^ (11 : Int).toNat = 9223372036854775808 by decide]
theorem av_one : av 4503599627370496 (-52) = U := by
  have h := av_neg 0 (-52) (by omega) (by omega)
  rw [show (2 : Nat) ^ (-(-52 : Int)).toNat = 4503599627370496 by decide] at h
  exact h.symm
theorem av_zero : av 0 (-1074) = 0 := by simp [av]

/-! ### A finite word x; q: its whole part -/
section
variable {x : Nat} {s : Bool} {m : Nat} {i : Int} (h : double.read x = .number s m i)

theorem order_with (h : double.read x = .number s m i) {c n : Nat} {t : Bool} {j : Int} (hc : double.read c = .number t n j) :
    double.order x c = some (compare (sv s (av m i)) (sv t (av n j))) := by
  unfold Format.order
  rw [h, hc]
  exact order_num _ _ _ _ _ _ (read_number h).1 (read_number hc).1

theorem not_nan (h : double.read x = .number s m i) : (double.order x x != some .eq) = false := by
  have := is_eq (order_with h h)
  simp only [bne, this]
  simp

/-- Where the magnitude is at least 2^53 there is no fraction. -/
theorem whole_above (h : double.read x = .number s m i) (hA : 9007199254740992 * U ≤ av m i) : av m i = av m i / U * U := by
  obtain ⟨g1, g2, g3, g4, g5, g6⟩ := read_number h
  by_cases hi : 0 ≤ i
  · rw [av_nonneg m i hi, Nat.mul_div_cancel _ U_pos]
  · exfalso
    have hU := av_neg m i (by omega) g1
    have h1 : av m i < 9007199254740992 * 2 ^ (i + 1074).toNat := Nat.mul_lt_mul_of_pos_right g3 (Nat.two_pow_pos _)
    have h2 : 2 ^ (i + 1074).toNat ≤ U := by
      rw [hU]
      exact Nat.le_mul_of_pos_left _ (Nat.two_pow_pos _)
    have h3 : 9007199254740992 * 2 ^ (i + 1074).toNat ≤ 9007199254740992 * U := Nat.mul_le_mul_left _ h2
    omega

theorem div_facts (A : Nat) : A / U * U ≤ A ∧ A < (A / U + 1) * U := by
  have h1 := Nat.div_add_mod A U
  have h2 := Nat.mod_lt A U_pos
  have h3 : U * (A / U) = A / U * U := Nat.mul_comm _ _
  have h4 : (A / U + 1) * U = A / U * U + U := by rw [Nat.add_mul, Nat.one_mul]
  omega

theorem le_of_mul {a b : Nat} (h : a * U ≤ b * U) : a ≤ b := Nat.le_of_mul_le_mul_right h U_pos
theorem mul_le {a b : Nat} (h : a ≤ b) : a * U ≤ b * U := Nat.mul_le_mul_right _ h

/-- 'd >= 2^63' -/
theorem x_ge (h : double.read x = .number s m i) : (double.order x 4890909195324358656 == some .gt || double.order x 4890909195324358656 == some .eq) = decide (9223372036854775808 ≤ sv s (av m i / U)) := by
  rw [is_ge (order_with h read_c63), av_c63, Bool.eq_iff_iff, decide_eq_true_iff, decide_eq_true_iff]
  obtain ⟨d1, d2⟩ := div_facts (av m i)
  generalize av m i / U = q at d1 d2 ⊢
  cases s
  · simp only [sv, Bool.false_eq_true, if_false]
    constructor
    · intro h1
      have h2 : 9223372036854775808 * U < (q + 1) * U := by omega
      have h3 : 9223372036854775808 < q + 1 := Nat.lt_of_mul_lt_mul_right h2
      omega
    · intro h1
      have h2 : 9223372036854775808 * U ≤ q * U := mul_le (by omega)
      omega
  · simp only [sv, if_true, Bool.false_eq_true, if_false]
    have := U_pos
    constructor <;> intro h1 <;> omega

/-- 'd < -2^63' -/
theorem x_lt (h : double.read x = .number s m i) : (double.order x 14114281232179134464 == some .lt) = decide (sv s (av m i / U) < -9223372036854775808) := by
  rw [is_lt (order_with h read_m63), av_c63, Bool.eq_iff_iff, decide_eq_true_iff, decide_eq_true_iff]
  obtain ⟨d1, d2⟩ := div_facts (av m i)
  have h5 : 9007199254740992 * U ≤ 9223372036854775808 * U := mul_le (by omega)
  have h6 : 9223372036854775808 * U < av m i → av m i = av m i / U * U := fun h2 => whole_above h (by omega)
  generalize av m i / U = q at d1 d2 h6 ⊢
  cases s
  · simp only [sv, Bool.false_eq_true, if_false, if_true]
    have := U_pos
    constructor <;> intro h1 <;> omega
  · simp only [sv, if_true]
    constructor
    · intro h1
      have h2 : 9223372036854775808 * U < av m i := by omega
      have h7 := h6 h2
      have h3 : 9223372036854775808 < q := by
        apply Nat.lt_of_mul_lt_mul_right (a := U)
        omega
      omega
    · intro h1
      have h2 : 9223372036854775808 * U < q * U := Nat.mul_lt_mul_of_pos_right (by omega) U_pos
      omega

/-- 'd > -1', 'd < 1', where the whole part is nought. -/
theorem x_small (h : double.read x = .number s m i) (hq : av m i / U = 0) : (double.order x 13830554455654793216 == some .gt) = true ∧ (double.order x 4607182418800017408 == some .lt) = true := by
  rw [is_gt (order_with h read_mone), is_lt (order_with h read_one), av_one, decide_eq_true_iff, decide_eq_true_iff]
  obtain ⟨d1, d2⟩ := div_facts (av m i)
  rw [hq] at d2
  have d3 : av m i < U := by omega
  cases s
  · simp only [sv, if_true, Bool.false_eq_true, if_false]; omega
  · simp only [sv, if_true, Bool.false_eq_true, if_false]; omega

theorem pos_of_q {m : Nat} {i : Int} (hq : 0 < av m i / U) : 0 < av m i := by
  obtain ⟨d1, d2⟩ := div_facts (av m i)
  have := mul_le (show 1 ≤ av m i / U by omega)
  have := U_pos
  omega

/-- 'd > 0', 'd < 0', of a number that is not nought. -/
theorem x_gt0 (h : double.read x = .number s m i) (hq : 0 < av m i) : (double.order x 0 == some .gt) = !s := by
  rw [is_gt (order_with h read_zero), av_zero]
  cases s
  · simp [sv]; omega
  · simp [sv]
theorem x_lt0 (h : double.read x = .number s m i) (hq : 0 < av m i) : (double.order x 0 == some .lt) = s := by
  rw [is_lt (order_with h read_zero), av_zero]
  cases s
  · simp [sv]
  · simp [sv]; omega
end

/-- The word of the whole part. -/
theorem y_ge {y k q : Nat} {s : Bool} {l : Int} (h : double.read y = .number s k l) (hk : av k l = q * U) :
    (double.order y 14114281232179134464 == some .gt || double.order y 14114281232179134464 == some .eq) = decide (-9223372036854775808 ≤ sv s q) := by
  rw [is_ge (order_with h read_m63), av_c63, hk, Bool.eq_iff_iff, decide_eq_true_iff, decide_eq_true_iff]
  cases s
  · simp only [sv, Bool.false_eq_true, if_false, if_true]
    constructor <;> intro h1 <;> omega
  · simp only [sv, if_true]
    constructor
    · intro h1
      have : q ≤ 9223372036854775808 := le_of_mul (by omega)
      omega
    · intro h1
      have := mul_le (show q ≤ 9223372036854775808 by omega)
      omega

theorem y_lt {y k q : Nat} {s : Bool} {l : Int} (h : double.read y = .number s k l) (hk : av k l = q * U) :
    (double.order y 4890909195324358656 == some .lt) = decide (sv s q < 9223372036854775808) := by
  rw [is_lt (order_with h read_c63), av_c63, hk, Bool.eq_iff_iff, decide_eq_true_iff, decide_eq_true_iff]
  cases s
  · simp only [sv, Bool.false_eq_true, if_false]
    constructor
    · intro h1
      have : q < 9223372036854775808 := Nat.lt_of_mul_lt_mul_right (a := U) (by omega)
      omega
    · intro h1
      have := Nat.mul_lt_mul_of_pos_right (show q < 9223372036854775808 by omega) U_pos
      omega
  · simp only [sv, if_true, Bool.false_eq_true, if_false]
    have := U_pos
    constructor <;> intro h1 <;> omega

theorem y_toInt {y k q : Nat} {s : Bool} {l : Int} (h : double.read y = .number s k l) (hk : av k l = q * U) : (double.read y).toInt .zero = some (sv s q) := by
  rw [h, toInt_num s k l (read_number h).1, hk, Nat.mul_div_cancel _ U_pos]

end Go.Proofs.Qxb6002343aFmt.Fl
