import Derived.Test.Qxb6002369aFmtRoomA
namespace Go.Proofs.Qxb6002369aFmt
open Go.RowKit Go.Extern.Stop Go.Stop Go.Extern
set_option linter.unusedVariables false
set_option linter.unusedSimpArgs false

theorem info3 : (Tryf.prog.info? 3).map (fun i => (i.zero, i.size, i.bytes)) = some (some (.int .i64 0), 1, 8) := by kernel_rfl
theorem size3 : (Tryf.prog.info? 3).map (·.size) = some 1 := by kernel_rfl
theorem add_block (a : Addr) (k : Nat) : (a.add k).block = a.block := by unfold Addr.add; split <;> rfl
def TrueEnd (w : World) (r : Ending) (w' : World) : Prop := r = .returned (.bool true) ∧ Below w.heap.size w w'

set_option maxRecDepth 100000 in
set_option maxHeartbeats 2000000 in
theorem room_some (F : Interp) (x : Int) (a : Addr) (len cap : Nat) (Z : Nat → Int) (w : World) (hF : F.answers w.tape) (hlen : len ≤ maxLen)
    (hc : ∀ k, k < len → w.cell? (a.add k) = some (.int .i64 (Z k))) :
    Calls Tryf.prog 3 #[.int .i64 x, .slice (some a) len cap] w (TrueEnd w) := by
  have hq1 : ∀ (w : World) (a : Option Addr) (n c : Nat), (binOp .neq 22 (.slice a n c) (.slice none 0 0)).run Tryf.prog w = .ok (.bool (!a.isNone)) w := fun w a n c => run_neq_slice_nil_any w 22 3 a n c 0 0 Tryf.underlying22
  go_enter Tryf.func3, Tryf.ntmps3
  go_wp2_with fail
  refine (sizes_bytes x (some a) len cap w hlen).mono ?_
  rintro r w' ⟨⟨t, rfl, ht⟩, hw'⟩
  obtain rfl : w = w' := hw'.symm
  clear hw'
  cases t with
  | false =>
    go_wp2
    go_ret
    exact ⟨rfl, Below.refl _ _⟩
  | true =>
    have hb1 : len ≤ 1048576 := ht rfl
    clear ht
    by_cases hb3 : len ≤ 65536
    · by_cases hx0 : x < 0
      · go_wp2
        go_ret
        exact ⟨rfl, Below.refl _ _⟩
      by_cases hx1 : 268435456 < x
      · go_wp2
        go_ret
        exact ⟨rfl, Below.refl _ _⟩
      go_wp2
      go_loop [5] (fun i => ∃ k : Nat, k ≤ len ∧ i = .int .i64 k ∧ ∀ j, j < k → 0 ≤ Z j ∧ Z j ≤ 268435456) (fun i => len - (intOf i).toNat)
      case atStart => exact ⟨0, by omega, rfl, fun j hj => by omega⟩
      case round =>
        obtain ⟨k, hk, rfl, hz⟩ := hrel
        have HZ : Hid (∀ j, j < k → 0 ≤ Z j ∧ Z j ≤ 268435456) := hz
        clear hz
        by_cases hlt : k < len
        · have hck := hc k hlt
          by_cases h1 : Z k < 0
          · go_wp2
            go_ret
            exact ⟨rfl, Below.refl _ _⟩
          by_cases h2 : 268435456 < Z k
          · go_wp2
            go_ret
            exact ⟨rfl, Below.refl _ _⟩
          go_wp2
          go_round
          case rel => exact ⟨k + 1, by omega, by go_num, fun j hj => by
            rcases Nat.lt_or_ge j k with h | h
            · exact HZ.out j h
            · obtain rfl : j = k := by omega
              omega⟩
          case measure => simp [intOf]; omega
        · have hlen2 : ((List.range len).map (fun j => Value.int .i64 (Z j))).length = len := by simp
          go_wp2_with (at_make; refine wpList_make_row _ rfl (.tmp 48) (.tmp 48) 22 rfl 3 _ 8 Tryf.underlying22 info3 rfl _ _ _ _ len rfl rfl rfl rfl (by omega) (by unfold maxLen; omega) ?_)
          intro w1 hrow hbel
          go_wp2_with (with_reducible refine at_copy ?_; refine wpList_copy_row rfl (.tmp 50) (.tmp 51) 22 22 rfl 3 Tryf.underlying22 size3 _ len _ _ _ rfl rfl _ 3 hrow (by simp) ((List.range len).map (fun j => Value.int .i64 (Z j))) hlen2 ?hpos ?hone ?_)
          case hpos =>
            intro h0
            refine ⟨a, rfl, fun j v hj => ?_⟩
            have hjl : j < len := by
              have := (List.getElem?_eq_some_iff.1 hj).1
              simpa using this
            simp [hjl] at hj
            subst hj
            rw [hbel.cell (World.block_lt_of_cell? w _ (hc j hjl))]
            exact hc j hjl
          case hone =>
            intro v hv
            simp at hv
            obtain ⟨j, _, rfl⟩ := hv
            rfl
          intro w2 hrow2 hbel2
          obtain ⟨B, HB⟩ : ∃ B, B = w.heap.size := ⟨_, rfl⟩
          rw [← HB] at hrow2 hbel2 hbel
          rw [← HB]
          have hbw := hbel.trans hbel2
          have hZ : ∀ j, j < len → 0 ≤ Z j ∧ Z j ≤ 268435456 := fun j hj => HZ.out j (by omega)
          have HZ2 : Hid (∀ j, j < len → 0 ≤ Z j ∧ Z j ≤ 268435456) := hZ
          have hgl : ∀ j, j < len → w2.cell? ⟨B, j, none⟩ = some (.int .i64 (Z j)) := fun j hj => by
            rw [hrow2.cell]
            simp [hj]
          have hBl := hrow2.lt
          have HB' : Hid (B = w.heap.size) := HB
          clear HB hbel hbel2 hrow hrow2 hlen2 hc HZ hZ
          go_wp2_with fail
          refine (zznew x w2).mono ?_
          rintro r w3 ⟨rfl, hw3⟩
          have hroom := room_new w2 x
          rw [← hw3] at hroom
          clear hw3
          obtain ⟨b, Hb⟩ : ∃ b, b = w2.heap.size := ⟨_, rfl⟩
          rw [← Hb] at hroom hBl
          rw [← Hb]
          clear Hb
          go_wp2
          go_loopw [8, 9] (fun ac i wq => ∃ (k : Nat) (t : Int), k ≤ len ∧ i = .int .i64 k ∧ ac = .int .i64 t ∧ 0 ≤ t ∧ t ≤ x ∧ Room b x t w2 wq) (fun _ i _ => len - (intOf i).toNat)
          case atStart => exact ⟨0, 0, Nat.zero_le _, rfl, rfl, by omega, by omega, hroom⟩
          case round =>
            obtain ⟨k, t, hk, rfl, rfl, ht0, ht1, hrm⟩ := hrel
            by_cases hlt2 : k < len
            · have hcv : wr.cell? ⟨B, k, none⟩ = some (.int .i64 (Z k)) := by
                rw [hrm.bel.cell (p := ⟨B, k, none⟩) hBl]
                exact hgl k hlt2
              have hzk := HZ2.out k hlt2
              obtain ⟨z, HZk⟩ : ∃ z, z = Z k := ⟨_, rfl⟩
              rw [← HZk] at hcv hzk
              clear HZk
              have hfo : F.answers w2.tape := by rw [hbw.tape]; exact hF
              by_cases hfit : t + z ≤ x
              · go_wp2_with fail
                refine (zztake_yes z _ hrm (by omega) (by omega) ht0 ht1 hzk.1 (by omega)).mono ?_
                rintro r w5 ⟨rfl, hr5⟩
                clear hrm hcv
                go_wp2_with fail
                refine (zztaken _ hr5).mono ?_
                rintro r w6 ⟨rfl, rfl⟩
                go_wp2
                go_roundw
                case rel => exact ⟨k + 1, t + z, by omega, by go_num, rfl, by omega, by omega, hr5⟩
                case measure => simp [intOf]; omega
              · have hd : decide (t + z ≤ x) = false := by simp; omega
                go_wp2_with fail
                refine (zztake_no F z _ hfo hrm (by omega) (by omega) ht0 ht1 (by omega) (by omega)).mono ?_
                rintro r w5 ⟨⟨ae, rfl⟩, hr5⟩
                clear hrm hcv
                go_wp2_with fail
                refine (zztaken _ hr5).mono ?_
                rintro r w6 ⟨rfl, rfl⟩
                go_wp2
                go_roundw
                case rel => exact ⟨k + 1, t, by omega, by go_num, rfl, ht0, ht1, hr5⟩
                case measure => simp [intOf]; omega
            · go_wp2
              go_ret
              refine ⟨rfl, ?_⟩
              rw [← HB'.out]
              exact hbw.trans (hrm.bel.mono (by omega))
    · go_wp2
      go_ret
      exact ⟨rfl, Below.refl _ _⟩

set_option maxRecDepth 100000 in
set_option maxHeartbeats 1000000 in
theorem room_nil (x : Int) (w : World) : Calls Tryf.prog 3 #[.int .i64 x, .slice none 0 0] w (TrueEnd w) := by
  have hq1 : ∀ (w : World) (a : Option Addr) (n c : Nat), (binOp .neq 22 (.slice a n c) (.slice none 0 0)).run Tryf.prog w = .ok (.bool (!a.isNone)) w := fun w a n c => run_neq_slice_nil_any w 22 3 a n c 0 0 Tryf.underlying22
  go_enter Tryf.func3, Tryf.ntmps3
  go_wp2_with fail
  refine (sizes_bytes x none 0 0 w (by unfold maxLen; omega)).mono ?_
  rintro r w' ⟨⟨t, rfl, ht⟩, hw'⟩
  obtain rfl : w = w' := hw'.symm
  clear hw'
  cases t with
  | false =>
    go_wp2
    go_ret
    exact ⟨rfl, Below.refl _ _⟩
  | true =>
    clear ht
    by_cases hx0 : x < 0
    · go_wp2
      go_ret
      exact ⟨rfl, Below.refl _ _⟩
    by_cases hx1 : 268435456 < x
    · go_wp2
      go_ret
      exact ⟨rfl, Below.refl _ _⟩
    go_wp2
    refine wp_loop_rounds 1 ?_
    rw [rounds_succ]
    go_wp2_with fail
    refine (zznew x w).mono ?_
    rintro r w3 ⟨rfl, rfl⟩
    go_wp2
    refine wp_loop_rounds 1 ?_
    rw [rounds_succ]
    go_wp2
    go_ret
    exact ⟨rfl, (Below.refl _ _).alloc (Nat.le_refl _) _⟩

end Go.Proofs.Qxb6002369aFmt
