/- An int64 as the nearest float64. No program in sight. -/
import Derived.Test.Qxb6002343aFmtFlD
namespace Go.Proofs.Qxb6002343aFmt.Fl
open Ieee
set_option linter.unusedVariables false
set_option linter.unusedSimpArgs false

/-- What the nearest word of n stands for. -/
def Near (n R : Nat) : Prop :=
  (n ≤ 9007199254740992 → R = n) ∧ (n < 9223372036854775808 → R ≤ n + 512 ∧ n ≤ R + 512) ∧ (n = 9223372036854775808 → R = n) ∧
    (n < 9223372036854775808 → 9223372036854775296 ≤ n → R = 9223372036854775808) ∧ (n < 9223372036854775296 → R < 9223372036854775808)

theorem cut_even (s : Bool) (n e : Nat) (he : e ≤ n.log2 + 2) : Toward.even.cut s n e = n / 2 ^ e + (decide (2 ^ e < 2 * (n % 2 ^ e)) || (2 ^ e == 2 * (n % 2 ^ e) && n / 2 ^ e % 2 == 1)).toNat := by
  unfold Toward.cut
  rw [Nat.min_eq_left he, Nat.shiftLeft_eq, Nat.one_mul]

theorem more_cases (b : Bool) : b.toNat = 0 ∧ b = false ∨ b.toNat = 1 ∧ b = true := by cases b <;> simp

/-- The rounded significand, at each place that an int64 can ask for. -/
theorem near_of (n e : Nat) (h1 : 1 ≤ e) (h2 : e ≤ 11) (lo : 2 ^ (52 + e) ≤ n) (hi : n < 2 ^ (52 + e + 1)) (h63 : n ≤ 9223372036854775808) (b : Bool)
    (hb : b = (decide (2 ^ e < 2 * (n % 2 ^ e)) || (2 ^ e == 2 * (n % 2 ^ e) && n / 2 ^ e % 2 == 1))) :
    4503599627370496 ≤ n / 2 ^ e + b.toNat ∧ n / 2 ^ e + b.toNat ≤ 9007199254740992 ∧ Near n ((n / 2 ^ e + b.toNat) * 2 ^ e) := by
  unfold Near
  have hb' : b = true ↔ (2 ^ e < 2 * (n % 2 ^ e) ∨ (2 ^ e = 2 * (n % 2 ^ e) ∧ n / 2 ^ e % 2 = 1)) := by
    rw [hb]; simp
  clear hb
  obtain rfl | rfl | rfl | rfl | rfl | rfl | rfl | rfl | rfl | rfl | rfl : e = 1 ∨ e = 2 ∨ e = 3 ∨ e = 4 ∨ e = 5 ∨ e = 6 ∨ e = 7 ∨ e = 8 ∨ e = 9 ∨ e = 10 ∨ e = 11 := by omega
  all_goals
    simp only [Nat.reducePow, Nat.reduceAdd] at lo hi hb' ⊢
    rcases more_cases b with ⟨t0, rfl⟩ | ⟨t0, rfl⟩
    · rw [t0]
      simp at hb'
      omega
    · rw [t0]
      simp at hb'
      omega

theorem round_read (s : Bool) (n : Nat) (h0 : 0 < n) (h63 : n ≤ 9223372036854775808) :
    ∃ (k : Nat) (l : Int) (R : Nat), double.read (double.nearest s n 0) = .number s k l ∧ av k l = R * U ∧ Near n R := by
  by_cases hs : n < 9007199254740992
  · refine ⟨_, _, n, nearest_small s n 0 h0 hs (by omega) (by omega), ?_, ?_⟩
    · rw [av_small n 0 h0 hs (by omega), av_nonneg _ 0 (by omega)]
      simp
    · unfold Near; omega
  · obtain ⟨l1, l2⟩ := log2_facts n h0
    have hlo : 53 ≤ n.log2 := (Nat.le_log2 (by omega)).2 (by simp only [Nat.reducePow]; omega)
    have hhi : n.log2 ≤ 63 := by
      have : n.log2 < 64 := (Nat.log2_lt (by omega)).2 (by simp only [Nat.reducePow]; omega)
      omega
    obtain ⟨e, he⟩ : ∃ e, n.log2 = 52 + e := ⟨n.log2 - 52, by omega⟩
    rw [he] at l1 l2
    obtain ⟨k1, k2, k3⟩ := near_of n e (by omega) (by omega) l1 l2 h63 _ rfl
    rw [← cut_even s n e (by omega)] at k1 k2 k3
    have hn : double.nearest s n 0 = double.word s ((e + 1074) * 4503599627370496 + Toward.even.cut s n e) := by
      rw [nearest_pos s n 0 h0, he]
      have em : max ((0 : Int) + ((52 + e : Nat) : Int) - 52) (-1074) = e := by omega
      rw [em, show ((0 : Int) - (e : Int)).toNat = 0 by omega, show ((e : Int) - 0).toNat = e by omega, show ((e : Int) - -1074).toNat = e + 1074 by omega, Nat.shiftLeft_zero]
      rw [Nat.min_eq_left (by omega)]
    rw [hn]
    generalize Toward.even.cut s n e = c at k1 k2 k3
    by_cases hc : c < 9007199254740992
    · refine ⟨c, e, c * 2 ^ e, ?_, ?_, k3⟩
      · rw [read_word s _ c k1 hc (by omega), show (-1074 : Int) + ((e + 1074 : Nat) : Int) = e by omega]
      · rw [av_nonneg _ _ (by omega), show ((e : Nat) : Int).toNat = e by omega]
    · have hc' : c = 9007199254740992 := by omega
      subst hc'
      refine ⟨4503599627370496, ((e + 1 : Nat) : Int), 9007199254740992 * 2 ^ e, ?_, ?_, k3⟩
      · rw [read_word_carry s _ (by omega), show (-1074 : Int) + ((e + 1074 + 1 : Nat) : Int) = ((e + 1 : Nat) : Int) by omega]
      · rw [av_nonneg _ _ (by omega), show (((e + 1 : Nat) : Int)).toNat = e + 1 by omega, Nat.pow_succ]
        congr 1
        omega

end Go.Proofs.Qxb6002343aFmt.Fl
