import Derived.Test.Qxb6002343aFmtFacts
import Derived.WalkKit
import Derived.WalkSpells
import Derived.WalkLawsBesides
namespace Go.Proofs.Qxb6002343aFmt
open Go.RowKit Go.Extern.Stop Go.Stop Go.Extern
set_option linter.unusedVariables false

/-- A bool comes back; where it is true, p holds; the world stands. -/
def Tells (p : Prop) (w : World) (r : Ending) (w' : World) : Prop := (∃ t : Bool, r = .returned (.bool t) ∧ (t = true → p)) ∧ w' = w

def SmallRows (len : Nat) (L : Nat → Nat) : Prop := len ≤ 1048576 ∧ ∀ k, k < len → L k ≤ 1048576

/-- zzBytes of the sets: true only where the lengths are small. -/
theorem sets_bytes (a : Addr) (len cap : Nat) (A : Nat → Option Addr) (L C : Nat → Nat) (w : World) (hlen : len ≤ maxLen) (hL : ∀ k, k < len → L k ≤ maxLen)
    (hc : ∀ k, k < len → w.cell? (a.add k) = some (.slice (A k) (L k) (C k))) :
    Calls Tryf.prog 15 #[.slice (some a) len cap] w (Tells (SmallRows len L) w) := by
  unfold maxLen at hlen hL
  by_cases hb : len ≤ 1048576
  · go_enter Tryf.func15, Tryf.ntmps15
    go_wp2
    go_loop [3, 4] (fun z i => ∃ (k : Nat) (s : Int), k ≤ len ∧ i = .int .i64 k ∧ z = .int .i64 s ∧ 0 ≤ s ∧ s ≤ 1048576 ∧ ∀ j, j < k → L j ≤ 1048576) (fun _ i => len - (intOf i).toNat)
    case atStart => exact ⟨0, len, by omega, rfl, rfl, by omega, by omega, by omega⟩
    case round =>
      obtain ⟨k, s, hk, rfl, rfl, hs0, hs1, hj⟩ := hrel
      by_cases hlt : k < len
      · have hck := hc k hlt
        have hLk := hL k hlt
        by_cases h1 : L k ≤ 1048576
        · by_cases h2 : s + L k ≤ 1048576
          · go_wp2
            go_round
            case rel => exact ⟨k + 1, s + L k, by omega, by go_num, rfl, by omega, by omega, fun j hjk => by
              rcases Nat.lt_or_ge j k with h | h
              · exact hj j h
              · obtain rfl : j = k := by omega
                exact h1⟩
            case measure => simp [intOf]; omega
          · go_wp2
            go_ret
            exact ⟨⟨false, rfl, fun h => by cases h⟩, rfl⟩
        · go_wp2
          go_ret
          exact ⟨⟨false, rfl, fun h => by cases h⟩, rfl⟩
      · go_wp2
        go_ret
        exact ⟨⟨true, rfl, fun _ => ⟨hb, fun j h => hj j (by omega)⟩⟩, rfl⟩
  · go_enter Tryf.func15, Tryf.ntmps15
    go_wp2
    go_ret
    exact ⟨⟨false, rfl, fun h => by cases h⟩, rfl⟩

theorem sets_bytes_nil (w : World) :
    Calls Tryf.prog 15 #[.slice none 0 0] w fun r w' => r = .returned (.bool true) ∧ w' = w := by
  go_enter Tryf.func15, Tryf.ntmps15
  go_wp2
  refine wp_loop_rounds 1 ?_
  rw [rounds_succ]
  go_wp2
  go_ret
  exact ⟨rfl, rfl⟩

end Go.Proofs.Qxb6002343aFmt
