/- Signs, differences, infinities and NaNs of float64. No program in sight. -/
import Derived.Test.Qxb6002343aFmtFlC
import GoSem.Op.Unary
namespace Go.Proofs.Qxb6002343aFmt.Fl
open Ieee
set_option linter.unusedVariables false
set_option linter.unusedSimpArgs false

theorem xor_top (r : Nat) (h : r < 2 ^ 63) : (2 ^ 63 + r) ^^^ 2 ^ 63 = r := by
  have e := Nat.two_pow_add_eq_or_of_lt h 1
  rw [Nat.mul_one] at e
  rw [e, Nat.or_comm]
  apply Nat.eq_of_testBit_eq
  intro j
  rw [Nat.testBit_xor, Nat.testBit_or, Nat.testBit_two_pow]
  by_cases hj : 63 = j
  · subst hj
    rw [Nat.testBit_lt_two_pow h]
    simp
  · simp [hj]

theorem read_top {x : Nat} {m : Nat} {i : Int} (hx : x < 18446744073709551616) (h : double.read x = .number true m i) : double.read (x ^^^ 9223372036854775808) = .number false m i := by
  have h5 := (read_number h).2.2.2.2.1
  have hs : x / 9223372036854775808 % 2 = 1 := by simpa using h5.symm
  obtain ⟨r, hr, rfl⟩ : ∃ r, r < 9223372036854775808 ∧ x = 9223372036854775808 + r := ⟨x - 9223372036854775808, by omega, by omega⟩
  have e := xor_top r hr
  simp only [Nat.reducePow] at e
  rw [e]
  rw [read_def] at h ⊢
  have a1 : (9223372036854775808 + r) % 9223372036854775808 = r := by omega
  have a2 : r % 9223372036854775808 = r := by omega
  have a3 : (r / 9223372036854775808 % 2 == 1) = false := by
    have : r / 9223372036854775808 = 0 := by omega
    rw [this]; rfl
  rw [a1] at h
  rw [a2, a3]
  split at h
  · rename_i c
    injection h with e1 e2 e3
    rw [if_pos c, e2, e3]
  · rename_i c
    rw [if_neg c]
    split at h
    · rename_i c2
      injection h with e1 e2 e3
      rw [if_pos c2, e2, e3]
    · split at h <;> cases h

/-- 'absFloat': whichever way it goes. -/
theorem read_neg {x : Nat} {m : Nat} {i : Int} (hx : x < 18446744073709551616) (h : double.read x = .number true m i) : double.read (Op.negFloat .f64 x) = .number false m i := read_top hx h

theorem nearest_of_int (s : Bool) (q : Nat) (hq : 0 < q) : FloatKind.nearest .f64 (sv s q) = double.nearest s q 0 := by
  show double.nearest (decide (sv s q < 0)) (sv s q).natAbs 0 = _
  cases s
  · have h1 : decide (sv false q < 0) = false := by simp [sv]
    have h2 : (sv false q).natAbs = q := by simp [sv]
    rw [h1, h2]
  · have h1 : decide (sv true q < 0) = true := by simp [sv]; omega
    have h2 : (sv true q).natAbs = q := by simp [sv]
    rw [h1, h2]

theorem order_zero_one : (double.order 0 4607182418800017408 == some .lt) = true := by
  rw [is_lt (order_with read_zero read_one), av_zero, av_one]
  simp [sv]
  exact U_pos

/-- The difference to the whole part is less than one. -/
theorem sub_same {a b m : Nat} {i : Int} (ha : double.read a = .number false m i) (hb : double.read b = .number false m i) :
    ∃ z, double.sub a b = some z ∧ (double.order z 4607182418800017408 == some .lt) = true := by
  refine ⟨0, ?_, order_zero_one⟩
  unfold Format.sub
  rw [ha, hb]
  show some (double.write (.number (if signed false m (i - min i i).toNat + signed true m (i - min i i).toNat = 0 then false && true else _) (signed false m (i - min i i).toNat + signed true m (i - min i i).toNat).natAbs (min i i))) = _
  have e : signed false m (i - min i i).toNat + signed true m (i - min i i).toNat = 0 := by
    rw [signed_eq, signed_eq]; simp [sv]; omega
  rw [e, if_pos rfl]
  rfl

theorem sub_frac {x a b m k : Nat} {s : Bool} {i l : Int} (hx : double.read x = .number s m i) (ha : double.read a = .number false m i) (hb : double.read b = .number false k l) (hi : i < 0) (hq : 0 < av m i / U)
    (hk : k = av m i / U * 2 ^ (52 - (av m i / U).log2)) (hl : l = (av m i / U).log2 - 52) :
    ∃ z, double.sub a b = some z ∧ (double.order z 4607182418800017408 == some .lt) = true := by
  obtain ⟨g1, g2, g3, g4, g5, g6⟩ := read_number hx
  obtain ⟨j, rfl⟩ : ∃ j : Nat, i = -(j : Int) := ⟨(-i).toNat, by omega⟩
  have ej : (-(-(j : Int))).toNat = j := by omega
  have hqe : av m (-(j : Int)) / U = m / 2 ^ j := by
    rw [← cut_trunc s m _ g1, cut_zero_way, ej, show (-(j : Int)).toNat = 0 by omega]
    simp
  rw [hqe] at hq hk hl
  have hpj := Nat.two_pow_pos j
  have hm2 : 2 ^ j ≤ m := by
    rcases Nat.lt_or_ge m (2 ^ j) with h | h
    · rw [Nat.div_eq_of_lt h] at hq; omega
    · exact h
  have hj : j ≤ 52 := by
    rcases Nat.lt_or_ge 52 j with h | h
    · have : 2 ^ 53 ≤ 2 ^ j := Nat.pow_le_pow_right (by omega) h
      simp only [Nat.reducePow] at this
      omega
    · exact h
  have hm1 : 4503599627370496 ≤ m := by
    rcases Nat.lt_or_ge m 4503599627370496 with h | h
    · have := g4 h; omega
    · exact h
  -- the whole part has as many digits as it must
  have hlog : (m / 2 ^ j).log2 = 52 - j := by
    refine log2_eq hq ?_ ?_
    · rw [Nat.le_div_iff_mul_le hpj, ← Nat.pow_add, show 52 - j + j = 52 by omega]
      simpa using hm1
    · rw [Nat.div_lt_iff_lt_mul hpj, ← Nat.pow_add, show 52 - j + 1 + j = 53 by omega]
      simpa using g3
  rw [hlog] at hk hl
  have hl' : l = -(j : Int) := by omega
  have hk' : k = m / 2 ^ j * 2 ^ j := by rw [hk, show 52 - (52 - j) = j by omega]
  subst hl'
  have hdm := Nat.div_add_mod m (2 ^ j)
  have hmod := Nat.mod_lt m hpj
  have hkm : k + m % 2 ^ j = m := by rw [hk', Nat.mul_comm]; exact hdm
  obtain ⟨ρ, hρ⟩ : ∃ ρ, ρ = m % 2 ^ j := ⟨_, rfl⟩
  rw [← hρ] at hkm hmod
  clear hk hk' hdm hρ hq hqe
  have hsum : double.sub a b = some (double.nearest false ρ (-(j : Int))) := by
    unfold Format.sub
    rw [ha, hb]
    show some (double.write (.number (if signed false m (-(j : Int) - min (-(j : Int)) (-(j : Int))).toNat + signed true k (-(j : Int) - min (-(j : Int)) (-(j : Int))).toNat = 0 then false && true else decide (signed false m (-(j : Int) - min (-(j : Int)) (-(j : Int))).toNat + signed true k (-(j : Int) - min (-(j : Int)) (-(j : Int))).toNat < 0)) (signed false m (-(j : Int) - min (-(j : Int)) (-(j : Int))).toNat + signed true k (-(j : Int) - min (-(j : Int)) (-(j : Int))).toNat).natAbs (min (-(j : Int)) (-(j : Int))))) = _
    have e : signed false m (-(j : Int) - min (-(j : Int)) (-(j : Int))).toNat + signed true k (-(j : Int) - min (-(j : Int)) (-(j : Int))).toNat = (ρ : Int) := by
      rw [signed_eq, signed_eq, show (-(j : Int) - min (-(j : Int)) (-(j : Int))).toNat = 0 by omega]
      simp [sv]
      omega
    rw [e, show min (-(j : Int)) (-(j : Int)) = -(j : Int) by omega]
    have e2 : (if (ρ : Int) = 0 then false && true else decide ((ρ : Int) < 0)) = false := by
      split
      · rfl
      · simp
    rw [e2]
    rfl
  refine ⟨_, hsum, ?_⟩
  by_cases h0 : ρ = 0
  · subst h0
    exact order_zero_one
  · have hρ53 : ρ < 9007199254740992 := by omega
    have hr := nearest_small false ρ (-(j : Int)) (by omega) hρ53 (by omega) (by omega)
    rw [is_lt (order_with hr read_one), av_one, av_small ρ _ (by omega) hρ53 (by omega), decide_eq_true_iff]
    have : av ρ (-(j : Int)) < U := by
      by_cases hj0 : j = 0
      · subst hj0; simp at hmod; omega
      · rw [av_neg 0 (-(j : Int)) (by omega) (by omega), ej]
        exact Nat.mul_lt_mul_of_pos_right hmod (Nat.two_pow_pos _)
    simp only [sv, Bool.false_eq_true, if_false]
    omega

/-! ### Infinities and NaNs -/
theorem order_inf {x c n : Nat} {s t : Bool} {j : Int} (h : double.read x = .infinity s) (hc : double.read c = .number t n j) : double.order x c = some (if s then .lt else .gt) := by
  unfold Format.order
  rw [h, hc]
  rfl
theorem order_inf_self {x : Nat} {s : Bool} (h : double.read x = .infinity s) : (double.order x x != some .eq) = false := by
  unfold Format.order
  rw [h]
  cases s <;> rfl
theorem read_inf (s : Bool) : double.read (double.write (.infinity s)) = .infinity s := by cases s <;> rfl
theorem order_nan {x c t : Nat} {s : Bool} (h : double.read x = .nan s t) : double.order x c = none := by
  unfold Format.order
  rw [h]
  rfl
theorem read_quiet {x t : Nat} {s : Bool} (h : double.read x = .nan s t) : ∃ t', double.read (double.write (.nan s (double.quiet t))) = .nan s t' := by
  have ht : 0 < t ∧ t < 4503599627370496 := by
    rw [read_def] at h
    split at h
    · cases h
    · split at h
      · cases h
      · split at h
        · cases h
        · injection h with e1 e2
          omega
  have hq1 : double.quiet t < 4503599627370496 := by
    have : t ||| 2 ^ 51 < 2 ^ 52 := Nat.or_lt_two_pow (by simpa using ht.2) (by decide)
    simp only [Nat.reducePow] at this
    exact this
  have hq0 : 0 < double.quiet t := by
    have : t ≤ t ||| 2 ^ 51 := Nat.left_le_or
    show 0 < t ||| 2 ^ 51
    omega
  generalize double.quiet t = u at hq0 hq1 ⊢
  refine ⟨u, ?_⟩
  have ew : double.write (.nan s u) = if s then 9223372036854775808 + (9218868437227405312 + u) else 9218868437227405312 + u := by
    show double.word s (9218868437227405312 + u % 4503599627370496) = _
    rw [Nat.mod_eq_of_lt hq1, word_def]
  rw [ew, read_def]
  cases s
  · have a1 : (if false = true then 9223372036854775808 + (9218868437227405312 + u) else 9218868437227405312 + u) = 9218868437227405312 + u := rfl
    have a2 : (9218868437227405312 + u) % 9223372036854775808 = 9218868437227405312 + u := by omega
    have a3 : (9218868437227405312 + u) / 9223372036854775808 % 2 = 0 := by omega
    have a4 : 9218868437227405312 + u - 9218868437227405312 = u := by omega
    rw [a1, a2, a3, a4, if_neg (by omega), if_neg (by omega), if_neg (by omega)]
    rfl
  · have a1 : (if true = true then 9223372036854775808 + (9218868437227405312 + u) else 9218868437227405312 + u) = 9223372036854775808 + (9218868437227405312 + u) := rfl
    have a2 : (9223372036854775808 + (9218868437227405312 + u)) % 9223372036854775808 = 9218868437227405312 + u := by omega
    have a3 : (9223372036854775808 + (9218868437227405312 + u)) / 9223372036854775808 % 2 = 1 := by omega
    have a4 : 9218868437227405312 + u - 9218868437227405312 = u := by omega
    rw [a1, a2, a3, a4, if_neg (by omega), if_neg (by omega), if_neg (by omega)]
    rfl

end Go.Proofs.Qxb6002343aFmt.Fl
