import Derived.Test.Qxb6002403aFmtFacts
import Derived.Test.Qxb6002403aFmtKit
import Derived.WalkKit
import Derived.WalkSpells
import Derived.WalkLawsBesides
import Derived.BigQuiet
namespace Go.Proofs.Qxb6002403aFmt
open Go.RowKit Go.Extern.Stop Go.Stop Go.Extern
set_option linter.unusedVariables false
set_option linter.unusedSimpArgs false

def Tells (p : Prop) (w : World) (r : Ending) (w' : World) : Prop := (∃ t : Bool, r = .returned (.bool t) ∧ (t = true → p)) ∧ w' = w
def Short (len : Nat) : Prop := len ≤ 1048576
theorem info3 : (Tryf.prog.info? 3).map (fun i => (i.zero, i.size, i.bytes)) = some (some (.int .i64 0), 1, 8) := by kernel_rfl

theorem days_bytes (ao : Option Addr) (len cap : Nat) (w : World) (hlen : len ≤ maxLen) :
    Calls Tryf.prog 4 #[.slice ao len cap] w (Tells (Short len) w) := by
  unfold maxLen at hlen
  by_cases hb : len ≤ 1048576
  · go_enter Tryf.func4, Tryf.ntmps4
    go_wp2
    go_ret
    exact ⟨⟨true, rfl, fun _ => hb⟩, rfl⟩
  · go_enter Tryf.func4, Tryf.ntmps4
    go_wp2
    go_ret
    exact ⟨⟨false, rfl, fun h => by cases h⟩, rfl⟩

/-! ### the copy of the days -/
def Days (w : World) (B len k : Nat) (S : Nat → Int) (vs : List Value) : Prop :=
  Row w B 3 vs ∧ vs.length = len ∧ ∀ j, j < k → vs.getD j undef = .int .i64 (S j)

theorem Days.add {w : World} {B len k : Nat} {S : Nat → Int} {vs : List Value} (h : Days w B len k S vs) (hk : k < len) :
    Days (w.setCell ⟨B, k, none⟩ (.int .i64 (S k))) B len (k + 1) S (vs.set k (.int .i64 (S k))) := by
  obtain ⟨h1, h2, h3⟩ := h
  refine ⟨h1.setSame k _, by simpa using h2, fun j hj => ?_⟩
  rcases Nat.lt_or_ge j k with hjk | hjk
  · rw [← h3 j hjk]
    simp [List.getD, List.getElem?_set, show ¬ k = j by omega]
  · obtain rfl : j = k := by omega
    simp [List.getD, List.getElem?_set, show j < vs.length by omega]

def Copied (len : Nat) (S : Nat → Int) (w : World) (r : Ending) (w' : World) : Prop :=
  r = .returned (.slice (some ⟨w.heap.size, 0, none⟩) len len) ∧ (∀ j, j < len → w'.cell? ⟨w.heap.size, j, none⟩ = some (.int .i64 (S j))) ∧ w.heap.size < w'.heap.size ∧ Below w.heap.size w w'

theorem clone_some (a : Addr) (len cap : Nat) (S : Nat → Int) (w : World) (hb1 : len ≤ 1048576) (hc : ∀ k, k < len → w.cell? (a.add k) = some (.int .i64 (S k))) :
    Calls Tryf.prog 5 #[.slice (some a) len cap] w (Copied len S w) := by
  have hq1 : ∀ (w : World) (a : Option Addr) (n c : Nat), (binOp .eql 22 (.slice a n c) (.slice none 0 0)).run Tryf.prog w = .ok (.bool a.isNone) w := fun w a n c => Lib.run_eql_slice_nil w 22 3 a n c 0 0 Tryf.underlying22
  go_enter Tryf.func5, Tryf.ntmps5
  go_wp2_with (at_make; refine wpList_make_row _ rfl (.tmp 8) (.tmp 8) 22 rfl 3 _ 8 Tryf.underlying22 info3 rfl _ _ _ _ len rfl rfl rfl rfl (by omega) (by unfold maxLen; omega) ?_)
  intro w1 hrow hbel
  go_wp2
  obtain ⟨B, HB⟩ : ∃ B, B = w.heap.size := ⟨_, rfl⟩
  rw [← HB] at hrow hbel
  rw [← HB]
  have HB' : Hid (B = w.heap.size) := HB
  clear HB
  go_loopw [4] (fun i wr => ∃ (k : Nat) (vs : List Value), k ≤ len ∧ i = .int .i64 k ∧ Days wr B len k S vs ∧ Below B w wr) (fun i _ => len - (intOf i).toNat)
  case atStart => exact ⟨0, _, Nat.zero_le _, rfl, ⟨hrow, by simp, fun j hj => by omega⟩, hbel⟩
  case round =>
    obtain ⟨k, vs, hk, rfl, hcl, hbr⟩ := hrel
    by_cases hlt : k < len
    · have hck : wr.cell? (a.add k) = some (.int .i64 (S k)) := by
        rw [hbr.cell (by rw [HB'.out]; exact World.block_lt_of_cell? w _ (hc k hlt))]
        exact hc k hlt
      have hst : wr.cell? ⟨B, k, none⟩ = some (vs.getD k undef) := by
        have e2 := hcl.2.1
        rw [hcl.1.cell]
        simp [List.getD, show k < vs.length by omega]
      have hfz := hcl.1.frozen k
      have R := hcl.add hlt
      have hbq := hbr.setCell (p := ⟨B, k, none⟩) (Nat.le_refl _) (.int .i64 (S k))
      go_wp2
      go_roundw
      case rel => exact ⟨k + 1, _, by omega, by go_num, R, hbq⟩
      case measure => simp [intOf]; omega
    · have hkl : len = k := by omega
      subst hkl
      clear hc hrow hbel
      go_wp2
      go_ret
      have HB := HB'.out
      subst HB
      refine ⟨rfl, fun j hj => ?_, hcl.1.lt, hbr⟩
      have e2 := hcl.2.1
      rw [hcl.1.cell, ← hcl.2.2 j hj]
      simp [List.getD, show j < vs.length by omega]

theorem clone_nil (w : World) : Calls Tryf.prog 5 #[.slice none 0 0] w fun r w' => r = .returned (.slice none 0 0) ∧ w = w' := by
  have hq1 : ∀ (w : World) (a : Option Addr) (n c : Nat), (binOp .eql 22 (.slice a n c) (.slice none 0 0)).run Tryf.prog w = .ok (.bool a.isNone) w := fun w a n c => Lib.run_eql_slice_nil w 22 3 a n c 0 0 Tryf.underlying22
  go_enter Tryf.func5, Tryf.ntmps5
  go_wp2
  go_ret
  exact ⟨rfl, rfl⟩

/-! ### the check -/
/-- Neighbours in order, each at least 1, as far as k. -/
def Chain (S : Nat → Int) (k : Nat) : Prop := (∀ j, j < k → 1 ≤ S j) ∧ ∀ j, j + 1 < k → S j < S (j + 1)
theorem Chain.zero (S : Nat → Int) : Chain S 0 := ⟨fun j h => by omega, fun j h => by omega⟩
theorem Chain.first {S : Nat → Int} (h : 1 ≤ S 0) : Chain S 1 :=
  ⟨fun j hj => by
    obtain rfl : j = 0 := by omega
    exact h, fun j h => by omega⟩
theorem Chain.more {S : Nat → Int} {k : Nat} (h : Chain S (k + 1)) (h1 : 1 ≤ S (k + 1)) (h2 : S k < S (k + 1)) : Chain S (k + 2) :=
  ⟨fun j hj => by
    rcases Nat.lt_or_ge j (k + 1) with h3 | h3
    · exact h.1 j h3
    · obtain rfl : j = k + 1 := by omega
      exact h1, fun j hj => by
    rcases Nat.lt_or_ge j k with h3 | h3
    · exact h.2 j (by omega)
    · obtain rfl : j = k := by omega
      exact h2⟩

/-- Every pair in order, each at least 1. -/
def Up (S : Nat → Int) (len a : Nat) : Prop := ∀ j, j < a → 1 ≤ S j ∧ ∀ b, j < b → b < len → S j < S b
theorem Chain.lt {S : Nat → Int} {k : Nat} (h : Chain S k) (a d : Nat) (hb : a + d + 1 < k) : S a < S (a + d + 1) := by
  induction d with
  | zero => exact h.2 a hb
  | succ d ih =>
    have h1 := ih (by omega)
    have h2 := h.2 (a + d + 1) (by omega)
    exact Int.lt_trans h1 (by simpa [Nat.add_assoc, Nat.add_comm 1] using h2)
theorem up_iff {S : Nat → Int} {len : Nat} : Chain S len ↔ Up S len len := by
  constructor
  · intro h j hj
    refine ⟨h.1 j hj, fun b h1 h2 => ?_⟩
    obtain ⟨d, rfl⟩ : ∃ d, b = j + d + 1 := ⟨b - j - 1, by omega⟩
    exact h.lt j d h2
  · intro h
    exact ⟨fun j hj => (h j hj).1, fun j hj => (h j (by omega)).2 (j + 1) (by omega) hj⟩

def DaysOk (w : World) (r : Ending) (w' : World) : Prop := r = .returned .nilIface ∧ Below w.heap.size w w'
def DaysNo (w : World) (r : Ending) (w' : World) : Prop := (∃ a, r = .returned (.iface 30 (.pointer (some a)))) ∧ Below w.heap.size w w'
def DaysEnd (len : Nat) (S : Nat → Int) (w : World) (r : Ending) (w' : World) : Prop :=
  (0 < len ∧ Chain S len ∧ DaysOk w r w') ∨ (¬ (0 < len ∧ Chain S len) ∧ DaysNo w r w')

theorem check_none (F : Interp) (ao : Option Addr) (cap : Nat) (S : Nat → Int) (w : World) (hF : F.answers w.tape) : Calls Tryf.prog 7 #[.slice ao 0 cap] w (DaysEnd 0 S w) := by
  have hF' := answers_open hF
  go_enter Tryf.func7, Tryf.ntmps7
  go_wp2
  go_ret
  exact Or.inr ⟨by simp, ⟨_, rfl⟩, by repeat (first | exact Below.refl _ _ | exact Nat.le_refl _ | (simp; done) | apply Below.drew | apply Below.alloc)⟩

theorem check_some (F : Interp) (B len cap : Nat) (S : Nat → Int) (w : World) (hF : F.answers w.tape) (hl : 0 < len) (hb : len ≤ 4096)
    (hc : ∀ k, k < len → w.cell? ⟨B, k, none⟩ = some (.int .i64 (S k))) : Calls Tryf.prog 7 #[.slice (some ⟨B, 0, none⟩) len cap] w (DaysEnd len S w) := by
  have hF' := answers_open hF
  go_enter Tryf.func7, Tryf.ntmps7
  go_wp2
  go_loop [11] (fun i => ∃ (k : Nat), k ≤ len ∧ i = .int .i64 k ∧ Hid (Chain S k)) (fun i => len - (intOf i).toNat)
  case atStart => exact ⟨0, Nat.zero_le _, rfl, Chain.zero S⟩
  case round =>
    obtain ⟨k, hk, rfl, hch⟩ := hrel
    by_cases hlt : k < len
    · have hck := hc k hlt
      by_cases h1 : S k < 1
      · have hno : Hid (¬ Chain S len) := fun h => by have := h.1 k hlt; omega
        clear hc
        go_wp2
        go_ret
        exact Or.inr ⟨fun h => hno.out h.2, ⟨_, rfl⟩, by repeat (first | exact Below.refl _ _ | exact Nat.le_refl _ | (simp; done) | apply Below.drew | apply Below.alloc)⟩
      · rcases k with _ | m
        · have hn := Chain.first (S := S) (by omega)
          have Hn : Hid (Chain S 1) := hn
          clear hn hc
          go_wp2
          go_round
          case rel => exact ⟨1, by omega, by go_num, Hn⟩
          case measure => simp [intOf]; omega
        · have hcm := hc m (by omega)
          by_cases h2 : S (m + 1) ≤ S m
          · have hno : Hid (¬ Chain S len) := fun h => by have := h.2 m hlt; omega
            clear hc
            go_wp2
            go_ret
            exact Or.inr ⟨fun h => hno.out h.2, ⟨_, rfl⟩, by repeat (first | exact Below.refl _ _ | exact Nat.le_refl _ | (simp; done) | apply Below.drew | apply Below.alloc)⟩
          · have Hn : Hid (Chain S (m + 2)) := hch.out.more (by omega) (by omega)
            clear hc
            go_wp2
            go_round
            case rel => exact ⟨m + 2, by omega, by go_num, Hn⟩
            case measure => simp [intOf]; omega
    · have hkl : len = k := by omega
      subst hkl
      clear hc
      go_wp2
      go_ret
      exact Or.inl ⟨hl, hch.out, rfl, Below.refl _ _⟩

end Go.Proofs.Qxb6002403aFmt
