import Derived.Test.Qxb6002376aFmtFacts
import Derived.Test.Qxb6002376aFmtKit
import Derived.Test.Qxb6002376aFmtPlain
import Derived.WalkKit
import Derived.WalkSpells
import Derived.WalkLawsBesides
import Derived.BigQuiet
namespace Go.Proofs.Qxb6002376aFmt
open Go.RowKit Go.Extern.Stop Go.Stop Go.Extern
set_option linter.unusedVariables false
set_option linter.unusedSimpArgs false

theorem add_block (a : Addr) (k : Nat) : (a.add k).block = a.block := by unfold Addr.add; split <;> rfl
def Tells (p : Prop) (w : World) (r : Ending) (w' : World) : Prop := (∃ t : Bool, r = .returned (.bool t) ∧ (t = true → p)) ∧ w' = w
def SmallRows (len : Nat) (L : Nat → Nat) : Prop := len ≤ 1048576 ∧ ∀ k, k < len → L k ≤ 1048576
theorem info9 : (Tryf.prog.info? 9).map (fun i => (i.zero, i.size, i.bytes)) = some (some (.string ⟨#[]⟩), 1, 16) := by kernel_rfl
theorem info5 : (Tryf.prog.info? 5).map (fun i => (i.zero, i.size, i.bytes)) = some (some (.int .u8 0), 1, 1) := by kernel_rfl

/-! ### the bounds -/
theorem texts_bytes (x y : Bool) (a : Addr) (len cap : Nat) (S : Nat → ByteArray) (w : World) (hlen : len ≤ maxLen) (hL : ∀ k, k < len → (S k).size ≤ maxLen)
    (hc : ∀ k, k < len → w.cell? (a.add k) = some (.string (S k))) :
    Calls Tryf.prog 9 #[.slice (some a) len cap, .bool x, .bool y] w (Tells (SmallRows len (fun k => (S k).size)) w) := by
  unfold maxLen at hlen hL
  by_cases hb : len ≤ 1048576
  · go_enter Tryf.func9, Tryf.ntmps9
    go_wp2
    go_loop [7, 8] (fun z i => ∃ (k : Nat) (s : Int), k ≤ len ∧ i = .int .i64 k ∧ z = .int .i64 s ∧ 0 ≤ s ∧ s ≤ 1048576 ∧ ∀ j, j < k → (S j).size ≤ 1048576) (fun _ i => len - (intOf i).toNat)
    case atStart => exact ⟨0, len, by omega, rfl, rfl, by omega, by omega, by omega⟩
    case round =>
      obtain ⟨k, s, hk, rfl, rfl, hs0, hs1, hj⟩ := hrel
      by_cases hlt : k < len
      · have hck := hc k hlt
        have hLk := hL k hlt
        by_cases h1 : (S k).size ≤ 1048576
        · by_cases h2 : s + (S k).size ≤ 1048576
          · go_wp2
            go_round
            case rel => exact ⟨k + 1, s + (S k).size, by omega, by go_num, rfl, by omega, by omega, fun j hjk => by
              rcases Nat.lt_or_ge j k with h | h
              · exact hj j h
              · obtain rfl : j = k := by omega
                exact h1⟩
            case measure => simp [intOf]; omega
          · go_wp2
            go_ret
            exact ⟨⟨false, rfl, fun h => by cases h⟩, rfl⟩
        · go_wp2
          go_ret
          exact ⟨⟨false, rfl, fun h => by cases h⟩, rfl⟩
      · go_wp2
        go_ret
        exact ⟨⟨true, rfl, fun _ => ⟨hb, fun j h => hj j (by omega)⟩⟩, rfl⟩
  · go_enter Tryf.func9, Tryf.ntmps9
    go_wp2
    go_ret
    exact ⟨⟨false, rfl, fun h => by cases h⟩, rfl⟩

theorem texts_bytes_nil (x y : Bool) (w : World) :
    Calls Tryf.prog 9 #[.slice none 0 0, .bool x, .bool y] w fun r w' => r = .returned (.bool true) ∧ w = w' := by
  go_enter Tryf.func9, Tryf.ntmps9
  go_wp2
  refine wp_loop_rounds 1 ?_
  rw [rounds_succ]
  go_wp2
  go_ret
  exact ⟨rfl, rfl⟩

/-- The bytes of the first k strings. -/
def sumTo (S : Nat → ByteArray) : Nat → Nat
  | 0 => 0
  | k + 1 => sumTo S k + (S k).size

/-- The count of bytes: at most 65536 only where they are so few. -/
def Counted (len : Nat) (S : Nat → ByteArray) (w : World) (r : Ending) (w' : World) : Prop :=
  (∃ n : Int, r = .returned (.int .i64 n) ∧ (n ≤ 65536 → 8 * len + sumTo S len ≤ 65536)) ∧ w = w'

theorem count_bytes (a : Addr) (len cap : Nat) (S : Nat → ByteArray) (w : World) (hb1 : len ≤ 1048576) (hb2 : ∀ k, k < len → (S k).size ≤ 1048576)
    (hc : ∀ k, k < len → w.cell? (a.add k) = some (.string (S k))) :
    Calls Tryf.prog 10 #[.slice (some a) len cap] w (Counted len S w) := by
  go_enter Tryf.func10, Tryf.ntmps10
  go_wp2
  go_loop [3, 4] (fun z i => ∃ (k : Nat), k ≤ len ∧ i = .int .i64 k ∧ z = .int .i64 ((8 * len + sumTo S k : Nat) : Int) ∧ (0 < k → 8 * len + sumTo S k ≤ 1048576)) (fun _ i => len - (intOf i).toNat)
  case atStart => exact ⟨0, Nat.zero_le _, rfl, by simp [sumTo], by omega⟩
  case round =>
    obtain ⟨k, hk, rfl, rfl, hs⟩ := hrel
    have HS : Hid (0 < k → 8 * len + sumTo S k ≤ 1048576) := hs
    obtain ⟨m, Hm⟩ : ∃ m, m = 8 * len + sumTo S k := ⟨_, rfl⟩
    have hm : m ≤ 8388608 + 1048576 := by
      by_cases h0 : 0 < k
      · have := hs h0; omega
      · have : k = 0 := by omega
        subst this; simp [sumTo] at Hm; omega
    rw [← Hm]
    have HM : Hid (m = 8 * len + sumTo S k) := Hm
    clear Hm hs
    by_cases hlt : k < len
    · have hck := hc k hlt
      have hLk := hb2 k hlt
      have HM1 : Hid (8 * len + sumTo S (k + 1) = m + (S k).size) := by have := HM.out; show 8 * len + (sumTo S k + (S k).size) = _; omega
      by_cases h2 : (m : Int) + (S k).size ≤ 1048576
      · go_wp2
        go_round
        case rel => exact ⟨k + 1, by omega, by go_num, by rw [HM1.out]; go_num, fun _ => by rw [HM1.out]; omega⟩
        case measure => simp [intOf]; omega
      · go_wp2
        go_ret
        exact ⟨⟨_, rfl, fun h => by omega⟩, rfl⟩
    · have hkl : len = k := by omega
      subst hkl
      go_wp2
      go_ret
      exact ⟨⟨_, rfl, fun h => by have := HM.out; omega⟩, rfl⟩

theorem count_nil (w : World) : Calls Tryf.prog 10 #[.slice none 0 0] w fun r w' => r = .returned (.int .i64 0) ∧ w = w' := by
  go_enter Tryf.func10, Tryf.ntmps10
  go_wp2
  refine wp_loop_rounds 1 ?_
  rw [rounds_succ]
  go_wp2
  go_ret
  exact ⟨rfl, rfl⟩

/-! ### the copy of the labels -/
def Texts (w : World) (B len k : Nat) (S : Nat → ByteArray) (vs : List Value) : Prop :=
  Row w B 9 vs ∧ vs.length = len ∧ ∀ j, j < k → vs.getD j undef = .string (S j)

theorem Texts.add {w : World} {B len k : Nat} {S : Nat → ByteArray} {vs : List Value} (h : Texts w B len k S vs) (hk : k < len) :
    Texts (w.setCell ⟨B, k, none⟩ (.string (S k))) B len (k + 1) S (vs.set k (.string (S k))) := by
  obtain ⟨h1, h2, h3⟩ := h
  refine ⟨h1.setSame k _, by simpa using h2, fun j hj => ?_⟩
  rcases Nat.lt_or_ge j k with hjk | hjk
  · rw [← h3 j hjk]
    simp [List.getD, List.getElem?_set, show ¬ k = j by omega]
  · obtain rfl : j = k := by omega
    simp [List.getD, List.getElem?_set, show j < vs.length by omega]

/-- The copy stands in a new block. -/
def Copied (len : Nat) (S : Nat → ByteArray) (w : World) (r : Ending) (w' : World) : Prop :=
  r = .returned (.slice (some ⟨w.heap.size, 0, none⟩) len len) ∧ (∀ j, j < len → w'.cell? ⟨w.heap.size, j, none⟩ = some (.string (S j))) ∧ w.heap.size < w'.heap.size ∧ Below w.heap.size w w'

theorem clone_some (a : Addr) (len cap : Nat) (S : Nat → ByteArray) (w : World) (hb1 : len ≤ 1048576) (hc : ∀ k, k < len → w.cell? (a.add k) = some (.string (S k))) :
    Calls Tryf.prog 11 #[.slice (some a) len cap] w (Copied len S w) := by
  have hq1 : ∀ (w : World) (a : Option Addr) (n c : Nat), (binOp .eql 22 (.slice a n c) (.slice none 0 0)).run Tryf.prog w = .ok (.bool a.isNone) w := fun w a n c => Lib.run_eql_slice_nil w 22 9 a n c 0 0 Tryf.underlying22
  go_enter Tryf.func11, Tryf.ntmps11
  go_wp2_with (at_make; refine wpList_make_row _ rfl (.tmp 8) (.tmp 8) 22 rfl 9 _ 16 Tryf.underlying22 info9 rfl _ _ _ _ len rfl rfl rfl rfl (by omega) (by unfold maxLen; omega) ?_)
  intro w1 hrow hbel
  go_wp2
  obtain ⟨B, HB⟩ : ∃ B, B = w.heap.size := ⟨_, rfl⟩
  rw [← HB] at hrow hbel
  rw [← HB]
  have HB' : Hid (B = w.heap.size) := HB
  clear HB
  go_loopw [4] (fun i wr => ∃ (k : Nat) (vs : List Value), k ≤ len ∧ i = .int .i64 k ∧ Texts wr B len k S vs ∧ Below B w wr) (fun i _ => len - (intOf i).toNat)
  case atStart => exact ⟨0, _, Nat.zero_le _, rfl, ⟨hrow, by simp, fun j hj => by omega⟩, hbel⟩
  case round =>
    obtain ⟨k, vs, hk, rfl, hcl, hbr⟩ := hrel
    by_cases hlt : k < len
    · have hck : wr.cell? (a.add k) = some (.string (S k)) := by
        rw [hbr.cell (by rw [HB'.out]; exact World.block_lt_of_cell? w _ (hc k hlt))]
        exact hc k hlt
      have hst : wr.cell? ⟨B, k, none⟩ = some (vs.getD k undef) := by
        have e2 := hcl.2.1
        rw [hcl.1.cell]
        simp [List.getD, show k < vs.length by omega]
      have hfz := hcl.1.frozen k
      have R := hcl.add hlt
      have hbq := hbr.setCell (p := ⟨B, k, none⟩) (Nat.le_refl _) (.string (S k))
      go_wp2
      go_roundw
      case rel => exact ⟨k + 1, _, by omega, by go_num, R, hbq⟩
      case measure => simp [intOf]; omega
    · have hkl : len = k := by omega
      subst hkl
      clear hc hrow hbel
      go_wp2
      go_ret
      have HB := HB'.out
      subst HB
      refine ⟨rfl, fun j hj => ?_, hcl.1.lt, hbr⟩
      have e2 := hcl.2.1
      rw [hcl.1.cell, ← hcl.2.2 j hj]
      simp [List.getD, show j < vs.length by omega]

theorem clone_nil (w : World) : Calls Tryf.prog 11 #[.slice none 0 0] w fun r w' => r = .returned (.slice none 0 0) ∧ w = w' := by
  have hq1 : ∀ (w : World) (a : Option Addr) (n c : Nat), (binOp .eql 22 (.slice a n c) (.slice none 0 0)).run Tryf.prog w = .ok (.bool a.isNone) w := fun w a n c => Lib.run_eql_slice_nil w 22 9 a n c 0 0 Tryf.underlying22
  go_enter Tryf.func11, Tryf.ntmps11
  go_wp2
  go_ret
  exact ⟨rfl, rfl⟩

/-! ### bytes -/
theorem plain_call (n : Nat) (w : World) (hn : n < 256) : Calls Tryf.prog 28 #[.int .u8 n] w fun r w' => r = .returned (.bool (plainB n)) ∧ w = w' := by
  rcases (show (0 ≤ n ∧ n ≤ 44) ∨ (45 ≤ n ∧ n ≤ 45) ∨ (46 ≤ n ∧ n ≤ 47) ∨ (48 ≤ n ∧ n ≤ 57) ∨ (58 ≤ n ∧ n ≤ 64) ∨ (65 ≤ n ∧ n ≤ 90) ∨ (91 ≤ n ∧ n ≤ 96) ∨ (97 ≤ n ∧ n ≤ 122) ∨ (123 ≤ n ∧ n ≤ 255) from by omega) with h | h | h | h | h | h | h | h | h
  · have hp : plainB n = false := by simp [plainB]; omega
    rw [hp]
    clear hp
    have d0 : decide ((97 : Int) ≤ (n : Int)) = false := by simp; omega
    have d1 : decide ((n : Int) ≤ 122) = true := by simp; omega
    have d2 : decide ((65 : Int) ≤ (n : Int)) = false := by simp; omega
    have d3 : decide ((n : Int) ≤ 90) = true := by simp; omega
    have d4 : decide ((48 : Int) ≤ (n : Int)) = false := by simp; omega
    have d5 : decide ((n : Int) ≤ 57) = true := by simp; omega
    have d6 : ((n : Int) == 45) = false := by simp; omega
    clear h hn
    go_enter Tryf.func28, Tryf.ntmps28
    go_wp2
    go_ret
    exact ⟨rfl, rfl⟩
  · have hp : plainB n = true := by simp [plainB]; omega
    rw [hp]
    clear hp
    have d0 : decide ((97 : Int) ≤ (n : Int)) = false := by simp; omega
    have d1 : decide ((n : Int) ≤ 122) = true := by simp; omega
    have d2 : decide ((65 : Int) ≤ (n : Int)) = false := by simp; omega
    have d3 : decide ((n : Int) ≤ 90) = true := by simp; omega
    have d4 : decide ((48 : Int) ≤ (n : Int)) = false := by simp; omega
    have d5 : decide ((n : Int) ≤ 57) = true := by simp; omega
    have d6 : ((n : Int) == 45) = true := by simp; omega
    clear h hn
    go_enter Tryf.func28, Tryf.ntmps28
    go_wp2
    go_ret
    exact ⟨rfl, rfl⟩
  · have hp : plainB n = false := by simp [plainB]; omega
    rw [hp]
    clear hp
    have d0 : decide ((97 : Int) ≤ (n : Int)) = false := by simp; omega
    have d1 : decide ((n : Int) ≤ 122) = true := by simp; omega
    have d2 : decide ((65 : Int) ≤ (n : Int)) = false := by simp; omega
    have d3 : decide ((n : Int) ≤ 90) = true := by simp; omega
    have d4 : decide ((48 : Int) ≤ (n : Int)) = false := by simp; omega
    have d5 : decide ((n : Int) ≤ 57) = true := by simp; omega
    have d6 : ((n : Int) == 45) = false := by simp; omega
    clear h hn
    go_enter Tryf.func28, Tryf.ntmps28
    go_wp2
    go_ret
    exact ⟨rfl, rfl⟩
  · have hp : plainB n = true := by simp [plainB]; omega
    rw [hp]
    clear hp
    have d0 : decide ((97 : Int) ≤ (n : Int)) = false := by simp; omega
    have d1 : decide ((n : Int) ≤ 122) = true := by simp; omega
    have d2 : decide ((65 : Int) ≤ (n : Int)) = false := by simp; omega
    have d3 : decide ((n : Int) ≤ 90) = true := by simp; omega
    have d4 : decide ((48 : Int) ≤ (n : Int)) = true := by simp; omega
    have d5 : decide ((n : Int) ≤ 57) = true := by simp; omega
    have d6 : ((n : Int) == 45) = false := by simp; omega
    clear h hn
    go_enter Tryf.func28, Tryf.ntmps28
    go_wp2
    go_ret
    exact ⟨rfl, rfl⟩
  · have hp : plainB n = false := by simp [plainB]; omega
    rw [hp]
    clear hp
    have d0 : decide ((97 : Int) ≤ (n : Int)) = false := by simp; omega
    have d1 : decide ((n : Int) ≤ 122) = true := by simp; omega
    have d2 : decide ((65 : Int) ≤ (n : Int)) = false := by simp; omega
    have d3 : decide ((n : Int) ≤ 90) = true := by simp; omega
    have d4 : decide ((48 : Int) ≤ (n : Int)) = true := by simp; omega
    have d5 : decide ((n : Int) ≤ 57) = false := by simp; omega
    have d6 : ((n : Int) == 45) = false := by simp; omega
    clear h hn
    go_enter Tryf.func28, Tryf.ntmps28
    go_wp2
    go_ret
    exact ⟨rfl, rfl⟩
  · have hp : plainB n = true := by simp [plainB]; omega
    rw [hp]
    clear hp
    have d0 : decide ((97 : Int) ≤ (n : Int)) = false := by simp; omega
    have d1 : decide ((n : Int) ≤ 122) = true := by simp; omega
    have d2 : decide ((65 : Int) ≤ (n : Int)) = true := by simp; omega
    have d3 : decide ((n : Int) ≤ 90) = true := by simp; omega
    have d4 : decide ((48 : Int) ≤ (n : Int)) = true := by simp; omega
    have d5 : decide ((n : Int) ≤ 57) = false := by simp; omega
    have d6 : ((n : Int) == 45) = false := by simp; omega
    clear h hn
    go_enter Tryf.func28, Tryf.ntmps28
    go_wp2
    go_ret
    exact ⟨rfl, rfl⟩
  · have hp : plainB n = false := by simp [plainB]; omega
    rw [hp]
    clear hp
    have d0 : decide ((97 : Int) ≤ (n : Int)) = false := by simp; omega
    have d1 : decide ((n : Int) ≤ 122) = true := by simp; omega
    have d2 : decide ((65 : Int) ≤ (n : Int)) = true := by simp; omega
    have d3 : decide ((n : Int) ≤ 90) = false := by simp; omega
    have d4 : decide ((48 : Int) ≤ (n : Int)) = true := by simp; omega
    have d5 : decide ((n : Int) ≤ 57) = false := by simp; omega
    have d6 : ((n : Int) == 45) = false := by simp; omega
    clear h hn
    go_enter Tryf.func28, Tryf.ntmps28
    go_wp2
    go_ret
    exact ⟨rfl, rfl⟩
  · have hp : plainB n = true := by simp [plainB]; omega
    rw [hp]
    clear hp
    have d0 : decide ((97 : Int) ≤ (n : Int)) = true := by simp; omega
    have d1 : decide ((n : Int) ≤ 122) = true := by simp; omega
    have d2 : decide ((65 : Int) ≤ (n : Int)) = true := by simp; omega
    have d3 : decide ((n : Int) ≤ 90) = false := by simp; omega
    have d4 : decide ((48 : Int) ≤ (n : Int)) = true := by simp; omega
    have d5 : decide ((n : Int) ≤ 57) = false := by simp; omega
    have d6 : ((n : Int) == 45) = false := by simp; omega
    clear h hn
    go_enter Tryf.func28, Tryf.ntmps28
    go_wp2
    go_ret
    exact ⟨rfl, rfl⟩
  · have hp : plainB n = false := by simp [plainB]; omega
    rw [hp]
    clear hp
    have d0 : decide ((97 : Int) ≤ (n : Int)) = true := by simp; omega
    have d1 : decide ((n : Int) ≤ 122) = false := by simp; omega
    have d2 : decide ((65 : Int) ≤ (n : Int)) = true := by simp; omega
    have d3 : decide ((n : Int) ≤ 90) = false := by simp; omega
    have d4 : decide ((48 : Int) ≤ (n : Int)) = true := by simp; omega
    have d5 : decide ((n : Int) ≤ 57) = false := by simp; omega
    have d6 : ((n : Int) == 45) = false := by simp; omega
    clear h hn
    go_enter Tryf.func28, Tryf.ntmps28
    go_wp2
    go_ret
    exact ⟨rfl, rfl⟩

def ErrEnd (w : World) (r : Ending) (w' : World) : Prop := (∃ a, r = .returned (.iface 68 (.pointer (some a)))) ∧ Below w.heap.size w w'

theorem errorf_empty (F : Interp) (g : Nat) (s : ByteArray) (w : World) (hF : F.answers w.tape) (c0 : w.cell? ⟨g, 0, none⟩ = some (.iface 9 (.string s))) :
    Calls Tryf.prog 31 #[.string ⟨#[110, 97, 109, 101, 32, 37, 113, 32, 104, 97, 115, 32, 97, 110, 32, 101, 109, 112, 116, 121, 32, 108, 97, 98, 101, 108]⟩, .slice (some ⟨g, 0, none⟩) 1 1] w (ErrEnd w) := by
  have hF' := answers_open hF
  go_enter Tryf.func31, Tryf.ntmps31
  go_wp2
  go_ret
  exact ⟨⟨_, rfl⟩, by repeat (first | exact Below.refl _ _ | exact Nat.le_refl _ | apply Below.drew | apply Below.alloc)⟩

theorem errorf_label (F : Interp) (g : Nat) (s : ByteArray) (x : Int) (w : World) (hF : F.answers w.tape) (c0 : w.cell? ⟨g, 0, none⟩ = some (.iface 9 (.string s))) (c1 : w.cell? ⟨g, 1, none⟩ = some (.iface 3 (.int .i64 x))) :
    Calls Tryf.prog 31 #[.string ⟨#[110, 97, 109, 101, 32, 37, 113, 32, 104, 97, 115, 32, 97, 32, 108, 97, 98, 101, 108, 32, 108, 111, 110, 103, 101, 114, 32, 116, 104, 97, 110, 32, 37, 100, 32, 98, 121, 116, 101, 115]⟩, .slice (some ⟨g, 0, none⟩) 2 2] w (ErrEnd w) := by
  have hF' := answers_open hF
  go_enter Tryf.func31, Tryf.ntmps31
  go_wp2
  go_ret
  exact ⟨⟨_, rfl⟩, by repeat (first | exact Below.refl _ _ | exact Nat.le_refl _ | apply Below.drew | apply Below.alloc)⟩

theorem errorf_name (F : Interp) (g : Nat) (s : ByteArray) (x : Int) (w : World) (hF : F.answers w.tape) (c0 : w.cell? ⟨g, 0, none⟩ = some (.iface 9 (.string s))) (c1 : w.cell? ⟨g, 1, none⟩ = some (.iface 3 (.int .i64 x))) :
    Calls Tryf.prog 31 #[.string ⟨#[110, 97, 109, 101, 32, 37, 113, 32, 105, 115, 32, 108, 111, 110, 103, 101, 114, 32, 116, 104, 97, 110, 32, 37, 100, 32, 98, 121, 116, 101, 115]⟩, .slice (some ⟨g, 0, none⟩) 2 2] w (ErrEnd w) := by
  have hF' := answers_open hF
  go_enter Tryf.func31, Tryf.ntmps31
  go_wp2
  go_ret
  exact ⟨⟨_, rfl⟩, by repeat (first | exact Below.refl _ _ | exact Nat.le_refl _ | apply Below.drew | apply Below.alloc)⟩

end Go.Proofs.Qxb6002376aFmt
