/- Cutting a float64 toward zero. No program in sight. -/
import Derived.Test.Qxb6002343aFmtFlA
namespace Go.Proofs.Qxb6002343aFmt.Fl
open Ieee
set_option linter.unusedVariables false
set_option linter.unusedSimpArgs false

theorem cut_zero_way (s : Bool) (n d : Nat) : Toward.zero.cut s n d = n / 2 ^ d := by
  have e : Toward.zero.cut s n d = n / (1 <<< min d (n.log2 + 2)) := by simp [Toward.cut]
  rw [e, Nat.shiftLeft_eq, Nat.one_mul]
  by_cases h : d ≤ n.log2 + 2
  · rw [Nat.min_eq_left h]
  · rw [Nat.min_eq_right (by omega)]
    have h1 : n < 2 ^ (n.log2 + 1) := Nat.lt_log2_self
    have h2 : 2 ^ (n.log2 + 1) ≤ 2 ^ (n.log2 + 2) := Nat.pow_le_pow_right (by omega) (by omega)
    have h3 : 2 ^ (n.log2 + 2) ≤ 2 ^ d := Nat.pow_le_pow_right (by omega) (by omega)
    rw [Nat.div_eq_of_lt (by omega), Nat.div_eq_of_lt (by omega)]

theorem av_nonneg (m : Nat) (i : Int) (h : 0 ≤ i) : av m i = m * 2 ^ i.toNat * U := by
  unfold av U
  rw [Nat.mul_assoc, ← Nat.pow_add]
  congr 2
  rw [E_eq]
  omega

theorem av_neg (m : Nat) (i : Int) (h : i < 0) (h2 : -1074 ≤ i) : U = 2 ^ (-i).toNat * 2 ^ (i + 1074).toNat := by
  unfold U
  rw [← Nat.pow_add]
  congr 1
  rw [E_eq]
  omega

theorem cut_trunc (s : Bool) (m : Nat) (i : Int) (h : -1074 ≤ i) : Toward.zero.cut s (m <<< i.toNat) (-i).toNat = av m i / U := by
  rw [cut_zero_way, Nat.shiftLeft_eq]
  by_cases hi : 0 ≤ i
  · rw [av_nonneg m i hi, Nat.mul_div_cancel _ U_pos, show (-i).toNat = 0 by omega]
    simp
  · rw [av_neg m i (by omega) h, show i.toNat = 0 by omega]
    unfold av
    rw [Nat.mul_div_mul_right _ _ (Nat.two_pow_pos _)]
    simp

theorem integral_num (s : Bool) (m : Nat) (i : Int) (h : -1074 ≤ i) : (Datum.number s m i).integral .zero = .number s (av m i / U) 0 := by
  show Datum.number s (Toward.zero.cut s (m <<< i.toNat) (-i).toNat) 0 = _
  rw [cut_trunc s m i h]

theorem toInt_num (s : Bool) (m : Nat) (i : Int) (h : -1074 ≤ i) : (Datum.number s m i).toInt .zero = some (sv s (av m i / U)) := by
  unfold Datum.toInt
  rw [integral_num s m i h]
  show some (signed s (av m i / U) 0) = _
  rw [signed_eq]
  simp

theorem log2_eq {n k : Nat} (h0 : 0 < n) (h1 : 2 ^ k ≤ n) (h2 : n < 2 ^ (k + 1)) : n.log2 = k := by
  have a : n.log2 < k + 1 := (Nat.log2_lt (by omega)).2 h2
  have b : k ≤ n.log2 := (Nat.le_log2 (by omega)).2 h1
  omega

/-- A normal number with no fraction, written by its whole number. -/
theorem nearest_big (s : Bool) (m j : Nat) (h1 : 4503599627370496 ≤ m) (h2 : m < 9007199254740992) (hj : j ≤ 971) : double.read (double.nearest s (m * 2 ^ j) 0) = .number s m j := by
  have hpj := Nat.two_pow_pos j
  have hpos : 0 < m * 2 ^ j := Nat.mul_pos (by omega) hpj
  have hl : (m * 2 ^ j).log2 = 52 + j := by
    refine log2_eq hpos ?_ ?_
    · rw [Nat.pow_add]; exact Nat.mul_le_mul_right _ (by simpa using h1)
    · rw [show 52 + j + 1 = 53 + j by omega, Nat.pow_add]; exact Nat.mul_lt_mul_of_pos_right (by simpa using h2) hpj
  rw [nearest_pos s _ 0 hpos, hl]
  have em : max ((0 : Int) + ((52 + j : Nat) : Int) - 52) (-1074) = j := by omega
  rw [em]
  have e1 : ((0 : Int) - (j : Int)).toNat = 0 := by omega
  have e2 : ((j : Int) - 0).toNat = j := by omega
  have e3 : ((j : Int) - -1074).toNat = j + 1074 := by omega
  rw [e1, e2, e3, Nat.shiftLeft_zero]
  have ec : Toward.even.cut s (m * 2 ^ j) j = m := by
    unfold Toward.cut
    rw [hl, Nat.min_eq_left (by omega), Nat.shiftLeft_eq, Nat.one_mul]
    simp only
    rw [Nat.mul_div_cancel _ hpj, Nat.mul_mod_left]
    have hz : ¬ 2 ^ j < 2 * 0 := by omega
    have hz2 : (2 ^ j == 2 * 0) = false := by
      rw [beq_eq_false_iff_ne]; omega
    simp [hz2]
  have e4 : (-1074 : Int) + ((j + 1074 : Nat) : Int) = j := by omega
  rw [ec, Nat.min_eq_left (by omega), read_word s _ m h1 h2 (by omega), e4]

/-- What comes of cutting a finite word toward zero, written again. -/
theorem trunc_read {x : Nat} {s : Bool} {m : Nat} {i : Int} (h : double.read x = .number s m i) :
    ∃ (k : Nat) (l : Int), double.read (double.nearest s (av m i / U) 0) = .number s k l ∧ -1074 ≤ l ∧ av k l = av m i / U * U ∧ (0 ≤ i → k = m ∧ l = i) ∧
      (i < 0 → 0 < av m i / U → k = av m i / U * 2 ^ (52 - (av m i / U).log2) ∧ l = (av m i / U).log2 - 52) := by
  obtain ⟨g1, g2, g3, g4, g5, g6⟩ := read_number h
  by_cases hi : 0 ≤ i
  · have hm : 4503599627370496 ≤ m := by
      rcases Nat.lt_or_ge m 4503599627370496 with h | h
      · have := g4 h; omega
      · exact h
    have hq : av m i / U = m * 2 ^ i.toNat := by rw [av_nonneg m i hi, Nat.mul_div_cancel _ U_pos]
    refine ⟨m, i, ?_, g1, ?_, fun _ => ⟨rfl, rfl⟩, fun h => by omega⟩
    · rw [hq, nearest_big s m i.toNat hm g3 (by omega), show ((i.toNat : Nat) : Int) = i by omega]
    · rw [hq, av_nonneg m i hi]
  · have hq : av m i / U = m / 2 ^ (-i).toNat := by
      rw [← cut_trunc s m i g1, cut_zero_way, show i.toNat = 0 by omega]
      simp
    have hlt : av m i / U < 9007199254740992 := by
      rw [hq]
      exact Nat.lt_of_le_of_lt (Nat.div_le_self _ _) g3
    by_cases h0 : av m i / U = 0
    · rw [h0]
      refine ⟨0, -1074, ?_, by omega, by simp [av], fun h => absurd h hi, fun _ h => by omega⟩
      cases s <;> rfl
    · have hpos : 0 < av m i / U := Nat.pos_of_ne_zero h0
      refine ⟨_, _, nearest_small s (av m i / U) 0 hpos hlt (by omega) (by omega), by omega, ?_, fun h => absurd h hi, fun _ _ => ⟨rfl, by omega⟩⟩
      rw [av_small (av m i / U) 0 hpos hlt (by omega), av_nonneg _ 0 (by omega)]
      simp

end Go.Proofs.Qxb6002343aFmt.Fl
