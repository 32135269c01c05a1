/- Plain arithmetic on the words of float64. No program in sight. -/
import Ieee.Arith
import GoSem.Core.Float
namespace Go.Proofs.Qxb6002343aFmt.Fl
open Ieee
set_option linter.unusedVariables false
set_option linter.unusedSimpArgs false

/-- The greatest whole number of steps: 2^1074 steps to the one. -/
def E : Nat := 1074
theorem E_eq : E = 1074 := rfl
def U : Nat := 2 ^ E
theorem U_pos : 0 < U := Nat.two_pow_pos E

/-- A number's magnitude in steps. -/
def av (m : Nat) (i : Int) : Nat := m * 2 ^ (i + 1074).toNat
/-- .. with its sign. -/
def sv (s : Bool) (n : Nat) : Int := if s then -(n : Int) else (n : Int)

theorem signed_eq (s : Bool) (m u : Nat) : signed s m u = sv s (m * 2 ^ u) := by
  unfold signed sv
  rw [Nat.shiftLeft_eq]

theorem sv_mul (s : Bool) (n c : Nat) : sv s (n * c) = sv s n * (c : Int) := by
  cases s
  · simp [sv]
  · simp [sv, Int.neg_mul]

theorem compare_int (a b : Int) : compare a b = if a < b then .lt else if a = b then .eq else .gt := rfl

theorem compare_scale (a b c : Int) (hc : 0 < c) : compare (a * c) (b * c) = compare a b := by
  rw [compare_int, compare_int]
  have h1 : (a * c < b * c) = (a < b) := propext ⟨fun h => Int.lt_of_mul_lt_mul_right h (by omega), fun h => Int.mul_lt_mul_of_pos_right h hc⟩
  have h2 : (a * c = b * c) = (a = b) := propext ⟨fun h => Int.eq_of_mul_eq_mul_right (by omega) h, fun h => by rw [h]⟩
  simp only [h1, h2]

/-- Two numbers compare as their steps do. -/
theorem order_num (s t : Bool) (m n : Nat) (i j : Int) (hi : -1074 ≤ i) (hj : -1074 ≤ j) :
    Datum.order (.number s m i) (.number t n j) = some (compare (sv s (av m i)) (sv t (av n j))) := by
  show some (compare (signed s m (i - min i j).toNat) (signed t n (j - min i j).toNat)) = _
  rw [signed_eq, signed_eq]
  have key : ∀ (z : Bool) (k : Nat) (e : Int), min i j ≤ e → sv z (av k e) = sv z (k * 2 ^ (e - min i j).toNat) * ((2 ^ (min i j + 1074).toNat : Nat) : Int) := by
    intro z k e he
    rw [← sv_mul]
    unfold av
    congr 1
    rw [Nat.mul_assoc, ← Nat.pow_add]
    congr 2
    have : -1074 ≤ min i j := by omega
    omega
  rw [key s m i (by omega), key t n j (by omega), compare_scale _ _ _ (Int.natCast_pos.2 (Nat.two_pow_pos _))]

/-! ### Words -/
theorem read_def (x : Nat) : double.read x =
    if x % 9223372036854775808 < 4503599627370496 then .number (x / 9223372036854775808 % 2 == 1) (x % 9223372036854775808) (-1074)
    else if x % 9223372036854775808 < 9218868437227405312 then .number (x / 9223372036854775808 % 2 == 1) (4503599627370496 + x % 9223372036854775808 % 4503599627370496) (-1074 + (x % 9223372036854775808 / 4503599627370496 - 1 : Nat))
    else if x % 9223372036854775808 = 9218868437227405312 then .infinity (x / 9223372036854775808 % 2 == 1)
    else .nan (x / 9223372036854775808 % 2 == 1) (x % 9223372036854775808 - 9218868437227405312) := rfl

theorem word_def (s : Bool) (r : Nat) : double.word s r = if s then 9223372036854775808 + r else r := rfl

/-- What a finite word stands for. -/
theorem read_number {x : Nat} {s : Bool} {m : Nat} {i : Int} (h : double.read x = .number s m i) :
    -1074 ≤ i ∧ i ≤ 971 ∧ m < 9007199254740992 ∧ (m < 4503599627370496 → i = -1074) ∧ s = (x / 9223372036854775808 % 2 == 1) ∧ (m = 0 → x % 9223372036854775808 = 0) := by
  rw [read_def] at h
  split at h
  · rename_i h1
    injection h with e1 e2 e3
    subst e1 e2 e3
    exact ⟨by omega, by omega, by omega, fun _ => rfl, rfl, fun h => h⟩
  · split at h
    · rename_i h1 h2
      injection h with e1 e2 e3
      subst e1 e2 e3
      refine ⟨by omega, by omega, by omega, by omega, rfl, by omega⟩
    · split at h <;> cases h

theorem read_word (s : Bool) (L k : Nat) (h1 : 4503599627370496 ≤ k) (h2 : k < 9007199254740992) (hL : L ≤ 2045) :
    double.read (double.word s (L * 4503599627370496 + k)) = .number s k (-1074 + L) := by
  have hr : L * 4503599627370496 + k < 9218868437227405312 := by omega
  have hs : double.word s (L * 4503599627370496 + k) % 9223372036854775808 = L * 4503599627370496 + k := by
    rw [word_def]; split <;> omega
  have hn : (double.word s (L * 4503599627370496 + k) / 9223372036854775808 % 2 == 1) = s := by
    rw [word_def]
    cases s
    · have : (L * 4503599627370496 + k) / 9223372036854775808 % 2 = 0 := by omega
      show ((L * 4503599627370496 + k) / 9223372036854775808 % 2 == 1) = false
      rw [this]; rfl
    · have : (9223372036854775808 + (L * 4503599627370496 + k)) / 9223372036854775808 % 2 = 1 := by omega
      show ((9223372036854775808 + (L * 4503599627370496 + k)) / 9223372036854775808 % 2 == 1) = true
      rw [this]; rfl
  have a1 : 4503599627370496 + (L * 4503599627370496 + k) % 4503599627370496 = k := by omega
  have a2 : (L * 4503599627370496 + k) / 4503599627370496 - 1 = L := by omega
  rw [read_def, hs, hn, if_neg (by omega), if_pos hr, a1, a2]

/-- The carry: one rung higher. -/
theorem read_word_carry (s : Bool) (L : Nat) (hL : L ≤ 2044) :
    double.read (double.word s (L * 4503599627370496 + 9007199254740992)) = .number s 4503599627370496 (-1074 + ((L + 1 : Nat) : Int)) := by
  have := read_word s (L + 1) 4503599627370496 (by omega) (by omega) (by omega)
  rw [← this, show L * 4503599627370496 + 9007199254740992 = (L + 1) * 4503599627370496 + 4503599627370496 by omega]

/-! ### Rounding what needs none -/
theorem log2_facts (n : Nat) (h : 0 < n) : 2 ^ n.log2 ≤ n ∧ n < 2 ^ (n.log2 + 1) := ⟨Nat.log2_self_le (by omega), Nat.lt_log2_self⟩

theorem nearest_pos (s : Bool) (n : Nat) (e : Int) (h : 0 < n) : double.nearest s n e =
    double.word s (min ((max (e + n.log2 - 52) (-1074) - (-1074)).toNat * 4503599627370496 + Toward.even.cut s (n <<< (e - max (e + n.log2 - 52) (-1074)).toNat) (max (e + n.log2 - 52) (-1074) - e).toNat) 9218868437227405312) := by
  unfold Format.nearest
  rw [if_neg (by omega)]
  rfl

theorem cut_zero (s : Bool) (n : Nat) : Toward.even.cut s n 0 = n := by
  simp [Toward.cut, Nat.mod_one]

/-- A number of at most 53 digits, its place not too low nor too high: it is written as it is. -/
theorem nearest_small (s : Bool) (n : Nat) (e : Int) (h0 : 0 < n) (h1 : n < 9007199254740992) (h2 : -1000 ≤ e) (h3 : e ≤ 900) :
    double.read (double.nearest s n e) = .number s (n * 2 ^ (52 - n.log2)) (e + n.log2 - 52) := by
  obtain ⟨l1, l2⟩ := log2_facts n h0
  have hl : n.log2 ≤ 52 := by
    have : n.log2 < 53 := (Nat.log2_lt (by omega)).2 (by simpa using h1)
    omega
  rw [nearest_pos s n e h0]
  have em : max (e + (n.log2 : Int) - 52) (-1074) = e + n.log2 - 52 := by omega
  rw [em]
  have e1 : (e - (e + (n.log2 : Int) - 52)).toNat = 52 - n.log2 := by omega
  have e2 : (e + (n.log2 : Int) - 52 - e).toNat = 0 := by omega
  rw [e1, e2, cut_zero, Nat.shiftLeft_eq]
  have hp : 2 ^ n.log2 * 2 ^ (52 - n.log2) = 4503599627370496 := by
    rw [← Nat.pow_add, show n.log2 + (52 - n.log2) = 52 by omega]
  have hp2 : 2 ^ (n.log2 + 1) * 2 ^ (52 - n.log2) = 9007199254740992 := by
    rw [← Nat.pow_add, show n.log2 + 1 + (52 - n.log2) = 53 by omega]
  have k1 : 4503599627370496 ≤ n * 2 ^ (52 - n.log2) := by
    rw [← hp]; exact Nat.mul_le_mul_right _ l1
  have k2 : n * 2 ^ (52 - n.log2) < 9007199254740992 := by
    rw [← hp2]; exact Nat.mul_lt_mul_of_pos_right l2 (Nat.two_pow_pos _)
  rw [Nat.min_eq_left (by omega)]
  have e3 : (e + (n.log2 : Int) - 52 - -1074).toNat = (e + (n.log2 : Int) - 52 + 1074).toNat := by omega
  have e4 : (-1074 : Int) + (((e + (n.log2 : Int) - 52 + 1074).toNat : Nat) : Int) = e + n.log2 - 52 := by omega
  rw [e3, read_word s _ _ k1 k2 (by omega), e4]

/-- Its steps. -/
theorem av_small (n : Nat) (e : Int) (h0 : 0 < n) (h1 : n < 9007199254740992) (h2 : -1000 ≤ e) :
    av (n * 2 ^ (52 - n.log2)) (e + n.log2 - 52) = av n e := by
  have hl : n.log2 ≤ 52 := by
    have : n.log2 < 53 := (Nat.log2_lt (by omega)).2 (by simpa using h1)
    omega
  unfold av
  rw [Nat.mul_assoc, ← Nat.pow_add]
  congr 2
  omega

end Go.Proofs.Qxb6002343aFmt.Fl
