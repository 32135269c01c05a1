import Derived.Test.Qxb6002403aFmtDayA
namespace Go.Proofs.Qxb6002403aFmt
open Go.RowKit Go.Extern.Stop Go.Stop Go.Extern
set_option linter.unusedVariables false
set_option linter.unusedSimpArgs false

def TrueEnd (w : World) (r : Ending) (w' : World) : Prop := r = .returned (.bool true) ∧ Below w.heap.size w w'

theorem zzcheck {len : Nat} {S : Nat → Int} (v : Value) (w : World) (h : ∀ w0 : World, w0 = w → Calls Tryf.prog 7 #[v] w0 (DaysEnd len S w0)) : Calls Tryf.prog 6 #[v] w (DaysEnd len S w) := by
  go_enter Tryf.func6, Tryf.ntmps6
  go_wp2_with fail
  refine (h _ rfl).mono ?_
  rintro r w1 (⟨h1, h2, rfl, hb⟩ | ⟨h1, ⟨a, rfl⟩, hb⟩)
  · go_wp2
    go_ret
    exact Or.inl ⟨h1, h2, rfl, hb⟩
  · go_wp2
    go_ret
    exact Or.inr ⟨h1, ⟨_, rfl⟩, hb⟩

/-- The pairs of a seen as far as b. -/
def UpIn (S : Nat → Int) (len a b : Nat) : Prop := Up S len a ∧ 1 ≤ S a ∧ ∀ j, a < j → j < b → S a < S j

theorem UpIn.start {S : Nat → Int} {len a : Nat} : UpIn S len a (a + 1) ↔ (Up S len a ∧ 1 ≤ S a) :=
  ⟨fun h => ⟨h.1, h.2.1⟩, fun h => ⟨h.1, h.2, fun j h1 h2 => by omega⟩⟩
theorem UpIn.more {S : Nat → Int} {len a b : Nat} (hab : a < b) : UpIn S len a (b + 1) ↔ (UpIn S len a b ∧ S a < S b) := by
  constructor
  · rintro ⟨h1, h2, h3⟩
    exact ⟨⟨h1, h2, fun j h4 h5 => h3 j h4 (by omega)⟩, h3 b hab (by omega)⟩
  · rintro ⟨⟨h1, h2, h3⟩, h6⟩
    refine ⟨h1, h2, fun j h4 h5 => ?_⟩
    rcases Nat.lt_or_ge j b with h7 | h7
    · exact h3 j h4 h7
    · obtain rfl : j = b := by omega
      exact h6
theorem UpIn.done {S : Nat → Int} {len a : Nat} : UpIn S len a len ↔ Up S len (a + 1) := by
  constructor
  · rintro ⟨h1, h2, h3⟩ j hj
    rcases Nat.lt_or_ge j a with h7 | h7
    · exact h1 j h7
    · obtain rfl : j = a := by omega
      exact ⟨h2, h3⟩
  · intro h
    exact ⟨fun j hj => h j (by omega), (h a (by omega)).1, (h a (by omega)).2⟩

/-- The days lie in block B. -/
def Lie (S : Nat → Int) (B len : Nat) (w0 w : World) : Prop := (∀ j, j < len → w.cell? ⟨B, j, none⟩ = some (.int .i64 (S j))) ∧ B < w.heap.size ∧ Below B w0 w
theorem Lie.drewN {S : Nat → Int} {B len : Nat} {w0 w : World} (h : Lie S B len w0 w) (n : Nat) : Lie S B len w0 (w.drewN n) :=
  ⟨fun j hj => by simpa using h.1 j hj, by simpa using h.2.1, below_drewN h.2.2 n⟩

set_option maxHeartbeats 1000000 in
theorem days_some (F : Interp) (a : Addr) (len cap : Nat) (S : Nat → Int) (w : World) (hF : F.answers w.tape) (hlen : len ≤ maxLen) (hc : ∀ k, k < len → w.cell? (a.add k) = some (.int .i64 (S k))) :
    Calls Tryf.prog 3 #[.slice (some a) len cap] w (TrueEnd w) := by
  go_enter Tryf.func3, Tryf.ntmps3
  go_wp2_with fail
  refine (days_bytes (some a) len cap w hlen).mono ?_
  rintro r w' ⟨⟨t, rfl, ht⟩, hw'⟩
  obtain rfl : w = w' := hw'.symm
  clear hw'
  rcases t with _ | _
  · go_wp2
    go_ret
    exact ⟨rfl, Below.refl _ _⟩
  have hsm : len ≤ 1048576 := ht rfl
  clear ht hlen
  by_cases hs : len ≤ 4096
  case neg =>
    go_wp2
    go_ret
    exact ⟨rfl, Below.refl _ _⟩
  go_wp2_with fail
  refine (clone_some a len cap S w hsm hc).mono ?_
  rintro r w1 ⟨rfl, hcl, hlt0, hb1⟩
  obtain ⟨B, HB⟩ : ∃ B, B = w.heap.size := ⟨_, rfl⟩
  rw [← HB] at hcl hlt0 hb1
  rw [← HB]
  have HB' : Hid (B = w.heap.size) := HB
  have hl0 : Lie S B len w w1 := ⟨hcl, hlt0, hb1⟩
  clear HB hcl hlt0 hb1 hc
  have fin : ∀ (t : Bool) (w2 : World) , (t = true ↔ 0 < len ∧ Up S len len) → Lie S B len w w2 → Calls Tryf.prog 6 #[.slice (some ⟨B, 0, none⟩) len len] w2 (DaysEnd len S w2) := by
    intro t w2 h1 h2
    refine zzcheck _ _ fun w0 h0 => ?_
    subst h0
    have hF2 : F.answers w0.tape := by rw [h2.2.2.tape]; exact hF
    rcases Nat.eq_zero_or_pos len with h | h
    · subst h
      exact check_none F _ _ S _ hF2
    · exact check_some F B len len S _ hF2 h hs h2.1
  go_wp2
  go_loopw [3, 4] (fun t i wr => ∃ (b : Bool) (k : Nat), k ≤ len ∧ t = .bool b ∧ i = .int .i64 k ∧ Hid (b = true ↔ 0 < len ∧ Up S len k) ∧ Lie S B len w wr) (fun _ i _ => len - (intOf i).toNat)
  case atStart => exact ⟨_, 0, Nat.zero_le _, rfl, rfl, by show _ ↔ _; simp [Up], hl0⟩
  case round =>
    obtain ⟨t, k, hk, rfl, rfl, hup, hl⟩ := hrel
    by_cases hlt : k < len
    · have hck := hl.1 k hlt
      by_cases h1 : S k < 1
      · have h2 : Hid ((false = true) ↔ 0 < len ∧ UpIn S len k (k + 1)) := by show _ ↔ _; rw [UpIn.start]; simp; omega
        clear hup
        go_wp2
        go_loopw [3, 5] (fun t i wr => ∃ (b : Bool) (m : Nat), k < m ∧ m ≤ len ∧ t = .bool b ∧ i = .int .i64 m ∧ Hid (b = true ↔ 0 < len ∧ UpIn S len k m) ∧ Lie S B len w wr) (fun _ i _ => len - (intOf i).toNat)
        case atStart => exact ⟨_, k + 1, by omega, by omega, rfl, by go_num, h2, hl⟩
        clear h2 hl hck
        case round =>
          obtain ⟨b, m, hkm, hm, rfl, rfl, hin, hl⟩ := hrel
          by_cases hml : m < len
          · have hck := hl.1 k hlt
            have hcm := hl.1 m hml
            by_cases h3 : S m ≤ S k
            · have h4 : Hid ((false = true) ↔ 0 < len ∧ UpIn S len k (m + 1)) := by show _ ↔ _; rw [UpIn.more hkm]; exact ⟨fun h => absurd h (by simp), fun h => absurd h.2.2 (by omega)⟩
              clear hin
              go_wp2
              go_quiet (fail)
              have hl2 := hl.drewN nq
              clear hl
              go_wp2
              go_roundw
              case rel => exact ⟨_, m + 1, by omega, by omega, rfl, by go_num, h4, hl2⟩
              case measure => simp [intOf]; omega
            · have h4 : Hid ((b = true) ↔ 0 < len ∧ UpIn S len k (m + 1)) := by
                show _ ↔ _
                rw [UpIn.more hkm, hin.out]
                exact ⟨fun h => ⟨h.1, h.2, by omega⟩, fun h => ⟨h.1, h.2.1⟩⟩
              clear hin
              go_wp2
              go_quiet (fail)
              have hl2 := hl.drewN nq
              clear hl
              go_wp2
              go_roundw
              case rel => exact ⟨_, m + 1, by omega, by omega, rfl, by go_num, h4, hl2⟩
              case measure => simp [intOf]; omega
          · have hml' : len = m := by omega
            subst hml'
            have h4 : Hid ((b = true) ↔ 0 < len ∧ Up S len (k + 1)) := by
              show _ ↔ _
              rw [← UpIn.done, hin.out]
            clear hin
            go_wp2
            go_roundw
            case rel => exact ⟨_, k + 1, by omega, rfl, by go_num, h4, hl⟩
            case measure => simp [intOf]; omega
      · have h2 : Hid ((t = true) ↔ 0 < len ∧ UpIn S len k (k + 1)) := by
          show _ ↔ _
          rw [UpIn.start, hup.out]
          exact ⟨fun h => ⟨h.1, h.2, by omega⟩, fun h => ⟨h.1, h.2.1⟩⟩
        clear hup
        go_wp2
        go_loopw [3, 5] (fun t i wr => ∃ (b : Bool) (m : Nat), k < m ∧ m ≤ len ∧ t = .bool b ∧ i = .int .i64 m ∧ Hid (b = true ↔ 0 < len ∧ UpIn S len k m) ∧ Lie S B len w wr) (fun _ i _ => len - (intOf i).toNat)
        case atStart => exact ⟨_, k + 1, by omega, by omega, rfl, by go_num, h2, hl⟩
        clear h2 hl hck
        case round =>
          obtain ⟨b, m, hkm, hm, rfl, rfl, hin, hl⟩ := hrel
          by_cases hml : m < len
          · have hck := hl.1 k hlt
            have hcm := hl.1 m hml
            by_cases h3 : S m ≤ S k
            · have h4 : Hid ((false = true) ↔ 0 < len ∧ UpIn S len k (m + 1)) := by show _ ↔ _; rw [UpIn.more hkm]; exact ⟨fun h => absurd h (by simp), fun h => absurd h.2.2 (by omega)⟩
              clear hin
              go_wp2
              go_quiet (fail)
              have hl2 := hl.drewN nq
              clear hl
              go_wp2
              go_roundw
              case rel => exact ⟨_, m + 1, by omega, by omega, rfl, by go_num, h4, hl2⟩
              case measure => simp [intOf]; omega
            · have h4 : Hid ((b = true) ↔ 0 < len ∧ UpIn S len k (m + 1)) := by
                show _ ↔ _
                rw [UpIn.more hkm, hin.out]
                exact ⟨fun h => ⟨h.1, h.2, by omega⟩, fun h => ⟨h.1, h.2.1⟩⟩
              clear hin
              go_wp2
              go_quiet (fail)
              have hl2 := hl.drewN nq
              clear hl
              go_wp2
              go_roundw
              case rel => exact ⟨_, m + 1, by omega, by omega, rfl, by go_num, h4, hl2⟩
              case measure => simp [intOf]; omega
          · have hml' : len = m := by omega
            subst hml'
            have h4 : Hid ((b = true) ↔ 0 < len ∧ Up S len (k + 1)) := by
              show _ ↔ _
              rw [← UpIn.done, hin.out]
            clear hin
            go_wp2
            go_roundw
            case rel => exact ⟨_, k + 1, by omega, rfl, by go_num, h4, hl⟩
            case measure => simp [intOf]; omega
    · have hkl : len = k := by omega
      subst hkl
      have hup' := hup.out
      go_wp2_with fail
      refine (fin t wr hup' hl).mono ?_
      rintro r w2 (⟨h1, h2, rfl, hb⟩ | ⟨h1, ⟨ae, rfl⟩, hb⟩)
      · obtain rfl : t = true := hup'.2 ⟨h1, up_iff.1 h2⟩
        clear fin hup hup'
        go_wp2
        go_ret
        exact ⟨rfl, HB'.out ▸ hl.2.2.trans (hb.mono (by have := hl.2.1; omega))⟩
      · obtain rfl : t = false := by
          rcases t with _ | _
          · rfl
          · exact absurd (hup'.1 rfl) (by rw [← up_iff]; exact h1)
        clear fin hup hup'
        go_wp2
        go_ret
        exact ⟨rfl, HB'.out ▸ hl.2.2.trans (hb.mono (by have := hl.2.1; omega))⟩

theorem days_nil (F : Interp) (w : World) (hF : F.answers w.tape) : Calls Tryf.prog 3 #[.slice none 0 0] w (TrueEnd w) := by
  go_enter Tryf.func3, Tryf.ntmps3
  go_wp2_with fail
  refine (days_bytes none 0 0 w (by decide)).mono ?_
  rintro r w' ⟨⟨t, rfl, ht⟩, hw'⟩
  obtain rfl : w = w' := hw'.symm
  clear hw' ht
  rcases t with _ | _
  · go_wp2
    go_ret
    exact ⟨rfl, Below.refl _ _⟩
  go_wp2_with fail
  refine (clone_nil w).mono ?_
  rintro r w1 ⟨rfl, rfl⟩
  go_wp2
  refine wp_loop_rounds 1 ?_
  rw [rounds_succ]
  go_wp2_with fail
  refine (zzcheck (len := 0) (S := fun _ => 0) _ w fun w0 h0 => by subst h0; exact check_none F none 0 _ _ hF).mono ?_
  rintro r w2 (⟨h1, h2, rfl, hb⟩ | ⟨h1, ⟨ae, rfl⟩, hb⟩)
  · exact absurd h1 (by omega)
  · clear h1
    go_wp2
    go_ret
    exact ⟨rfl, hb⟩
end Go.Proofs.Qxb6002403aFmt
