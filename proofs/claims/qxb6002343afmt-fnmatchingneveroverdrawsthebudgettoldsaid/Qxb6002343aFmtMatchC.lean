import Derived.Test.Qxb6002343aFmtMatchB
namespace Go.Proofs.Qxb6002343aFmt
open Go.RowKit Go.Extern.Stop Go.Stop Go.Extern
set_option linter.unusedVariables false
set_option linter.unusedSimpArgs false

variable {b p : Nat} {limit spent rl pieces : Int} {w w' : World}

theorem zzx_yes {w0 : World} (s : ByteArray) (w : World) (h : Bud b p limit spent rl pieces w0 w) (h0 : 0 ≤ limit) (h1 : limit ≤ 1000000000000) (h2 : 0 ≤ spent) (h3 : spent ≤ limit)
    (hp0 : 0 ≤ pieces) (hp1 : pieces ≤ 1073741824) (hs : s.size ≤ 1048576) (c0 : 0 ≤ pieces * ((s.size : Int) + 1)) (c1 : pieces * ((s.size : Int) + 1) ≤ 1200000000000000) (h5 : pieces * ((s.size : Int) + 1) ≤ limit - spent) :
    Calls Tryf.prog 22 #[.pointer (some ⟨p, 0, none⟩), .pointer (some ⟨b, 0, none⟩), .string s] w (BudEnd .nilIface b p limit (spent + pieces * ((s.size : Int) + 1)) rl pieces w0) := by
  go_enter Tryf.func22, Tryf.ntmps22
  go_wp2_with fail
  refine (xspend_yes s w h h0 h1 h2 h3 hp0 hp1 hs c0 c1 h5).mono ?_
  rintro r w1 ⟨rfl, hb⟩
  go_wp2
  go_ret
  exact ⟨rfl, hb⟩

theorem zzx_no {w0 : World} (F : Interp) (s : ByteArray) (w : World) (hF : F.answers w0.tape) (h : Bud b p limit spent rl pieces w0 w) (h0 : 0 ≤ limit) (h1 : limit ≤ 1000000000000) (h2 : 0 ≤ spent) (h3 : spent ≤ limit)
    (hp0 : 0 ≤ pieces) (hp1 : pieces ≤ 1073741824) (hs : s.size ≤ 1048576) (c0 : 0 ≤ pieces * ((s.size : Int) + 1)) (c1 : pieces * ((s.size : Int) + 1) ≤ 1200000000000000) (h5 : limit - spent < pieces * ((s.size : Int) + 1)) :
    Calls Tryf.prog 22 #[.pointer (some ⟨p, 0, none⟩), .pointer (some ⟨b, 0, none⟩), .string s] w (BudErr b p limit spent rl pieces w0) := by
  go_enter Tryf.func22, Tryf.ntmps22
  go_wp2_with fail
  refine (xspend_no F s w hF h h0 h1 h2 h3 hp0 hp1 hs c0 c1 h5).mono ?_
  rintro r w1 ⟨⟨ae, rfl⟩, hb⟩
  go_wp2
  go_ret
  exact ⟨⟨_, rfl⟩, hb⟩

/-- What has been spent, read. -/
theorem zzspent {w0 : World} (w : World) (h : Bud b p limit spent rl pieces w0 w) :
    Calls Tryf.prog 21 #[.pointer (some ⟨b, 0, none⟩)] w fun r w' => r = .returned (.int .i64 spent) ∧ w = w' := by
  have e := h.cSpent
  go_enter Tryf.func21, Tryf.ntmps21
  go_wp2
  go_ret
  exact ⟨rfl, rfl⟩

/-- zzBytes of the texts. -/
theorem texts_bytes (x y : Int) (a : Addr) (len cap : Nat) (S : Nat → ByteArray) (w : World) (hlen : len ≤ maxLen) (hL : ∀ k, k < len → (S k).size ≤ maxLen)
    (hc : ∀ k, k < len → w.cell? (a.add k) = some (.string (S k))) :
    Calls Tryf.prog 17 #[.int .i64 x, .int .i64 y, .slice (some a) len cap] w (Tells (SmallRows len (fun k => (S k).size)) w) := by
  unfold maxLen at hlen hL
  by_cases hb : len ≤ 1048576
  · go_enter Tryf.func17, Tryf.ntmps17
    go_wp2
    go_loop [7, 8] (fun z i => ∃ (k : Nat) (s : Int), k ≤ len ∧ i = .int .i64 k ∧ z = .int .i64 s ∧ 0 ≤ s ∧ s ≤ 1048576 ∧ ∀ j, j < k → (S j).size ≤ 1048576) (fun _ i => len - (intOf i).toNat)
    case atStart => exact ⟨0, len, by omega, rfl, rfl, by omega, by omega, by omega⟩
    case round =>
      obtain ⟨k, s, hk, rfl, rfl, hs0, hs1, hj⟩ := hrel
      by_cases hlt : k < len
      · have hck := hc k hlt
        have hLk := hL k hlt
        by_cases h1 : (S k).size ≤ 1048576
        · by_cases h2 : s + (S k).size ≤ 1048576
          · go_wp2
            go_round
            case rel => exact ⟨k + 1, s + (S k).size, by omega, by go_num, rfl, by omega, by omega, fun j hjk => by
              rcases Nat.lt_or_ge j k with h | h
              · exact hj j h
              · obtain rfl : j = k := by omega
                exact h1⟩
            case measure => simp [intOf]; omega
          · go_wp2
            go_ret
            exact ⟨⟨false, rfl, fun h => by cases h⟩, rfl⟩
        · go_wp2
          go_ret
          exact ⟨⟨false, rfl, fun h => by cases h⟩, rfl⟩
      · go_wp2
        go_ret
        exact ⟨⟨true, rfl, fun _ => ⟨hb, fun j h => hj j (by omega)⟩⟩, rfl⟩
  · go_enter Tryf.func17, Tryf.ntmps17
    go_wp2
    go_ret
    exact ⟨⟨false, rfl, fun h => by cases h⟩, rfl⟩

theorem texts_bytes_nil (x y : Int) (w : World) :
    Calls Tryf.prog 17 #[.int .i64 x, .int .i64 y, .slice none 0 0] w fun r w' => r = .returned (.bool true) ∧ w = w' := by
  go_enter Tryf.func17, Tryf.ntmps17
  go_wp2
  refine wp_loop_rounds 1 ?_
  rw [rounds_succ]
  go_wp2
  go_ret
  exact ⟨rfl, rfl⟩

theorem cost_mono (pieces m l : Int) (h0 : 0 ≤ pieces) (h : m ≤ l) : pieces * (m + 1) ≤ pieces * (l + 1) := Int.mul_le_mul_of_nonneg_left (by omega) h0
theorem cost_bd (pieces l : Int) (h0 : 0 ≤ pieces) (h1 : pieces ≤ 1073741824) (hl0 : 0 ≤ l) (hl : l ≤ 1048576) : 0 ≤ pieces * (l + 1) ∧ pieces * (l + 1) ≤ 1200000000000000 := by
  constructor
  · exact Int.mul_nonneg h0 (by omega)
  · have h2 : pieces * (l + 1) ≤ 1073741824 * (l + 1) := Int.mul_le_mul_of_nonneg_right h1 (by omega)
    omega

end Go.Proofs.Qxb6002343aFmt
