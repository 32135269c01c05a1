import Derived.Test.Qxb6002343aFmtMatchC
namespace Go.Proofs.Qxb6002343aFmt
open Go.RowKit Go.Extern.Stop Go.Stop Go.Extern
set_option linter.unusedVariables false
set_option linter.unusedSimpArgs false

theorem info9 : (Tryf.prog.info? 9).map (fun i => (i.zero, i.size, i.bytes)) = some (some (.string ⟨#[]⟩), 1, 16) := by kernel_rfl

/-- The copy of the texts after k rounds. -/
def Texts (w : World) (B len k : Nat) (S : Nat → ByteArray) (vs : List Value) : Prop :=
  Row w B 9 vs ∧ vs.length = len ∧ ∀ j, j < k → vs.getD j undef = .string (S j)

theorem Texts.add {w : World} {B len k : Nat} {S : Nat → ByteArray} {vs : List Value} (h : Texts w B len k S vs) (hk : k < len) :
    Texts (w.setCell ⟨B, k, none⟩ (.string (S k))) B len (k + 1) S (vs.set k (.string (S k))) := by
  obtain ⟨h1, h2, h3⟩ := h
  refine ⟨h1.setSame k _, by simpa using h2, fun j hj => ?_⟩
  rcases Nat.lt_or_ge j k with hjk | hjk
  · rw [← h3 j hjk]
    simp [List.getD, List.getElem?_set, show ¬ k = j by omega]
  · obtain rfl : j = k := by omega
    simp [List.getD, List.getElem?_set, show j < vs.length by omega]

theorem bud_new (w : World) (limit rl pieces : Int) :
    Bud w.heap.size (w.heap.size + 1) limit 0 rl pieces w ((w.alloc (.cells #[.int .i64 limit, .int .i64 0, .int .i64 rl, .int .i64 0] 62)).alloc (.cells #[.pointer none, .int .i64 pieces] 60)) := by
  have h1 : Row (w.alloc (.cells #[.int .i64 limit, .int .i64 0, .int .i64 rl, .int .i64 0] 62)) w.heap.size 62 [.int .i64 limit, .int .i64 0, .int .i64 rl, .int .i64 0] := heap_alloc_new w _
  have h2 : Row ((w.alloc (.cells #[.int .i64 limit, .int .i64 0, .int .i64 rl, .int .i64 0] 62)).alloc (.cells #[.pointer none, .int .i64 pieces] 60)) (w.heap.size + 1) 60 [.pointer none, .int .i64 pieces] := by
    have := heap_alloc_new (w.alloc (.cells #[.int .i64 limit, .int .i64 0, .int .i64 rl, .int .i64 0] 62)) (.cells #[.pointer none, .int .i64 pieces] 60)
    simpa [Row] using this
  exact ⟨h1.alloc _, h2, by omega, by omega, ((Below.refl _ _).alloc (Nat.le_refl _) _).alloc (by simp) _⟩

def NewBud (w : World) (r : Ending) (w' : World) : Prop :=
  r = .returned (.pointer (some ⟨w.heap.size, 0, none⟩)) ∧ ∃ limit rl : Int, w' = w.alloc (.cells #[.int .i64 limit, .int .i64 0, .int .i64 rl, .int .i64 0] 62) ∧ 0 ≤ limit ∧ limit ≤ 1000000000000

theorem new_budget (x : Int) (w : World) (h0 : 0 ≤ x) (h1 : x ≤ 1073741824) : Calls Tryf.prog 27 #[.int .i64 x] w (NewBud w) := by
  by_cases c1 : 33554432 < 32 * x
  · have c2 : 16777216 < 16 * x := by omega
    go_enter Tryf.func27, Tryf.ntmps27
    go_wp2
    go_ret
    exact ⟨rfl, _, _, rfl, by omega, by omega⟩
  · have c2 : ¬ 16777216 < 16 * x := by omega
    go_enter Tryf.func27, Tryf.ntmps27
    go_wp2
    go_ret
    exact ⟨rfl, _, _, rfl, by omega, by omega⟩

theorem zznew_budget (x : Int) (w : World) (h0 : 0 ≤ x) (h1 : x ≤ 1073741824) : Calls Tryf.prog 18 #[.int .i64 x] w (NewBud w) := by
  go_enter Tryf.func18, Tryf.ntmps18
  go_wp2_with fail
  refine (new_budget x w h0 h1).mono ?_
  rintro r w1 ⟨rfl, limit, rl, rfl, hl⟩
  go_wp2
  go_ret
  exact ⟨rfl, limit, rl, rfl, hl⟩

theorem zzlimit {b p : Nat} {limit spent rl pieces : Int} {w0 : World} (w : World) (h : Bud b p limit spent rl pieces w0 w) :
    Calls Tryf.prog 20 #[.pointer (some ⟨b, 0, none⟩)] w fun r w' => r = .returned (.int .i64 limit) ∧ w = w' := by
  have e := h.cLimit
  go_enter Tryf.func20, Tryf.ntmps20
  go_wp2
  go_ret
  exact ⟨rfl, rfl⟩

theorem zznew_pattern (y : Int) (w : World) : Calls Tryf.prog 19 #[.int .i64 y] w fun r w' => r = .returned (.pointer (some ⟨w.heap.size, 0, none⟩)) ∧ w' = w.alloc (.cells #[.pointer none, .int .i64 y] 60) := by
  go_enter Tryf.func19, Tryf.ntmps19
  go_wp2
  go_ret
  exact ⟨rfl, rfl⟩

set_option maxRecDepth 100000 in
set_option maxHeartbeats 2000000 in
theorem match_some (F : Interp) (x y : Int) (a : Addr) (len cap : Nat) (S : Nat → ByteArray) (w : World) (hF : F.answers w.tape) (hlen : len ≤ maxLen) (hL : ∀ k, k < len → (S k).size ≤ maxLen)
    (hab : 0 < len → a.block < w.heap.size)
    (hc : ∀ k, k < len → w.cell? (a.add k) = some (.string (S k))) :
    Calls Tryf.prog 10 #[.int .i64 x, .int .i64 y, .slice (some a) len cap] w (TrueEnd w) := by
  have hq1 : ∀ (w : World) (a : Option Addr) (n c : Nat), (binOp .neq 47 (.slice a n c) (.slice none 0 0)).run Tryf.prog w = .ok (.bool (!a.isNone)) w := fun w a n c => run_neq_slice_nil_any w 47 9 a n c 0 0 Tryf.underlying47
  go_enter Tryf.func10, Tryf.ntmps10
  go_wp2_with fail
  refine (texts_bytes x y a len cap S w hlen hL hc).mono ?_
  rintro r w' ⟨⟨t, rfl, ht⟩, hw'⟩
  obtain rfl : w = w' := hw'.symm
  clear hw'
  cases t with
  | false =>
    go_wp2
    go_ret
    exact ⟨rfl, Below.refl _ _⟩
  | true =>
    obtain ⟨hb1, hb2⟩ := ht rfl
    clear ht
    by_cases hb3 : len ≤ 1024
    · go_wp2
      go_loop [7, 8] (fun s i => ∃ (k : Nat) (z : Int), k ≤ len ∧ i = .int .i64 k ∧ s = .int .i64 z ∧ 0 ≤ z ∧ z ≤ 1048576) (fun _ i => len - (intOf i).toNat)
      case atStart => exact ⟨0, 8 * len, by omega, rfl, by go_num, by omega, by omega⟩
      case round =>
        obtain ⟨k, z, hk, rfl, rfl, hz0, hz1⟩ := hrel
        by_cases hlt : k < len
        · have hck := hc k hlt
          have hLk := hb2 k hlt
          by_cases h2 : z + (S k).size ≤ 1048576
          · go_wp2
            go_round
            case rel => exact ⟨k + 1, z + (S k).size, by omega, by go_num, rfl, by omega, by omega⟩
            case measure => simp [intOf]; omega
          · go_wp2
            go_ret
            exact ⟨rfl, Below.refl _ _⟩
        · by_cases hx0 : x < 0
          · go_wp2
            go_ret
            exact ⟨rfl, Below.refl _ _⟩
          by_cases hx1 : 1073741824 < x
          · go_wp2
            go_ret
            exact ⟨rfl, Below.refl _ _⟩
          by_cases hy0 : y < 0
          · go_wp2
            go_ret
            exact ⟨rfl, Below.refl _ _⟩
          by_cases hy1 : 1073741824 < y
          · go_wp2
            go_ret
            exact ⟨rfl, Below.refl _ _⟩
          go_wp2_with (at_make; refine wpList_make_row _ rfl (.tmp 68) (.tmp 68) 47 rfl 9 _ 16 Tryf.underlying47 info9 rfl _ _ _ _ len rfl rfl rfl rfl (by omega) (by unfold maxLen; omega) ?_)
          intro w1 hrow hbel
          go_wp2
          obtain ⟨B, HB⟩ : ∃ B, B = w.heap.size := ⟨_, rfl⟩
          rw [← HB] at hrow hbel
          rw [← HB]
          have HB' : Hid (B = w.heap.size) := HB
          clear HB
          go_loopw [10] (fun i wr => ∃ (k : Nat) (vs : List Value), k ≤ len ∧ i = .int .i64 k ∧ Texts wr B len k S vs ∧ Below B w wr) (fun i _ => len - (intOf i).toNat)
          case atStart => exact ⟨0, _, Nat.zero_le _, rfl, ⟨hrow, by simp, fun j hj => by omega⟩, hbel⟩
          case round =>
            obtain ⟨k, vs, hk, rfl, hcl, hbr⟩ := hrel
            by_cases hlt : k < len
            · have hck : wr.cell? (a.add k) = some (.string (S k)) := by
                rw [hbr.cell (by rw [add_block, HB'.out]; exact hab (by omega))]
                exact hc k hlt
              have hst : wr.cell? ⟨B, k, none⟩ = some (vs.getD k undef) := by
                have e2 := hcl.2.1
                rw [hcl.1.cell]
                simp [List.getD, show k < vs.length by omega]
              have hfz := hcl.1.frozen k
              have R := hcl.add hlt
              have hbq := hbr.setCell (p := ⟨B, k, none⟩) (Nat.le_refl _) (.string (S k))
              go_wp2
              go_roundw
              case rel => exact ⟨k + 1, _, by omega, by go_num, R, hbq⟩
              case measure => simp [intOf]; omega
            · have hkl : len = k := by omega
              subst hkl
              clear hc hrow hbel
              obtain ⟨wo, rfl⟩ : ∃ wo : World, wo = wr := ⟨_, rfl⟩
              go_wp2_with fail
              refine (zznew_budget x wo (by omega) (by omega)).mono ?_
              rintro r w2 ⟨rfl, limit, rl, rfl, hl0, hl1⟩
              go_wp2_with fail
              refine (zznew_pattern y _).mono ?_
              rintro r w3 ⟨rfl, rfl⟩
              have hbud := bud_new wo limit rl y
              obtain ⟨w3, HW3⟩ : ∃ w3, w3 = ((wo.alloc (.cells #[.int .i64 limit, .int .i64 0, .int .i64 rl, .int .i64 0] 62)).alloc (.cells #[.pointer none, .int .i64 y] 60)) := ⟨_, rfl⟩
              rw [← HW3] at hbud
              rw [← HW3]
              clear HW3
              obtain ⟨b, Hb⟩ : ∃ b, b = wo.heap.size := ⟨_, rfl⟩
              obtain ⟨p, Hp⟩ : ∃ p, p = wo.heap.size + 1 := ⟨_, rfl⟩
              have hBb : B < b := by have := hcl.1.lt; omega
              have ep : (wo.alloc (.cells #[.int .i64 limit, .int .i64 0, .int .i64 rl, .int .i64 0] 62)).heap.size = p := by rw [Hp]; simp
              rw [ep]
              rw [← Hp, ← Hb] at hbud
              rw [← Hb]
              clear Hb Hp ep
              go_wp2_with fail
              refine (zzlimit w3 hbud).mono ?_
              rintro r w4 ⟨rfl, rfl⟩
              go_wp2_with fail
              refine (zzspent w3 hbud).mono ?_
              rintro r w4 ⟨rfl, rfl⟩
              go_wp2
              have hgl : ∀ j, j < len → wo.cell? ⟨B, j, none⟩ = some (.string (S j)) := fun j hj => by
                have e2 := hcl.2.1
                rw [hcl.1.cell, ← hcl.2.2 j hj]
                simp [List.getD, show j < vs.length by omega]
              go_loopw [14, 15] (fun m i wq => ∃ (k : Nat) (sp mr : Int), k ≤ len ∧ i = .int .i64 k ∧ m = .int .i64 mr ∧ 0 ≤ sp ∧ sp ≤ limit ∧ Bud b p limit sp rl y wo wq ∧ (mr = -1 ∨ (0 ≤ mr ∧ mr ≤ 1048576 ∧ limit - sp < y * (mr + 1)))) (fun _ i _ => len - (intOf i).toNat)
              case atStart => exact ⟨0, 0, -1, Nat.zero_le _, rfl, rfl, by omega, by omega, hbud, Or.inl rfl⟩
              case round =>
                obtain ⟨k, sp, mr, hk, rfl, rfl, hs0, hs1, hbd, hmr⟩ := hrel
                by_cases hlt : k < len
                · have hcv : wr.cell? ⟨B, k, none⟩ = some (.string (S k)) := by
                    rw [hbd.bel.cell (p := ⟨B, k, none⟩) hBb]
                    exact hgl k hlt
                  have hLk := hb2 k hlt
                  obtain ⟨st, HS⟩ : ∃ st, st = S k := ⟨_, rfl⟩
                  rw [← HS] at hcv hLk
                  clear HS
                  have hcb := cost_bd y st.size (by omega) (by omega) (by omega) (by omega)
                  have hfo : F.answers wo.tape := by rw [hbr.tape]; exact hF
                  go_wp2_with fail
                  refine (zzspent _ hbd).mono ?_
                  rintro r w4 ⟨rfl, rfl⟩
                  go_wp2_with fail
                  by_cases hfit : y * ((st.size : Int) + 1) ≤ limit - sp
                  · refine (zzx_yes st _ hbd hl0 hl1 hs0 hs1 (by omega) (by omega) hLk hcb.1 hcb.2 hfit).mono ?_
                    rintro r w5 ⟨rfl, hb5⟩
                    clear hbd hcv
                    go_wp2_with fail
                    refine (zzspent _ hb5).mono ?_
                    rintro r w6 ⟨rfl, rfl⟩
                    have hsp : 0 ≤ sp + y * ((st.size : Int) + 1) ∧ sp + y * ((st.size : Int) + 1) ≤ limit := by omega
                    have hd2 : ((sp + y * ((st.size : Int) + 1)) != (sp + y * ((st.size : Int) + 1))) = false := by simp
                    rcases hmr with rfl | ⟨hm0, hm1, hm2⟩
                    · go_wp2
                      go_roundw
                      case rel => exact ⟨k + 1, _, -1, by omega, by go_num, rfl, hsp.1, hsp.2, hb5, Or.inl rfl⟩
                      case measure => simp [intOf]; omega
                    · have hlm : (st.size : Int) < mr := by
                        by_cases h : (st.size : Int) < mr
                        · exact h
                        · have := cost_mono y mr st.size (by omega) (by omega)
                          omega
                      have hm2' : Hid (limit - (sp + y * ((st.size : Int) + 1)) < y * (mr + 1)) := by unfold Hid; omega
                      clear hm2
                      go_wp2
                      go_roundw
                      case rel => exact ⟨k + 1, _, mr, by omega, by go_num, rfl, hsp.1, hsp.2, hb5, Or.inr ⟨hm0, hm1, hm2'.out⟩⟩
                      case measure => simp [intOf]; omega
                  · have hfit' : limit - sp < y * ((st.size : Int) + 1) := by omega
                    clear hfit
                    refine (zzx_no F st _ hfo hbd hl0 hl1 hs0 hs1 (by omega) (by omega) hLk hcb.1 hcb.2 hfit').mono ?_
                    rintro r w5 ⟨⟨ae, rfl⟩, hb5⟩
                    clear hbd hcv
                    go_wp2_with fail
                    refine (zzspent _ hb5).mono ?_
                    rintro r w6 ⟨rfl, rfl⟩
                    have Hm : Hid (mr = -1 ∨ (0 ≤ mr ∧ mr ≤ 1048576 ∧ limit - sp < y * (mr + 1))) := hmr
                    have hmr1 : -1 ≤ mr := by omega
                    clear hmr
                    by_cases hu : mr < 0
                    · go_wp2
                      go_roundw
                      case rel => exact ⟨k + 1, sp, st.size, by omega, by go_num, rfl, hs0, hs1, hb5, Or.inr ⟨by omega, by omega, hfit'⟩⟩
                      case measure => simp [intOf]; omega
                    · by_cases hu2 : (st.size : Int) < mr
                      · go_wp2
                        go_roundw
                        case rel => exact ⟨k + 1, sp, st.size, by omega, by go_num, rfl, hs0, hs1, hb5, Or.inr ⟨by omega, by omega, hfit'⟩⟩
                        case measure => simp [intOf]; omega
                      · go_wp2
                        go_roundw
                        case rel => exact ⟨k + 1, sp, mr, by omega, by go_num, rfl, hs0, hs1, hb5, Hm.out⟩
                        case measure => simp [intOf]; omega
                · go_wp2
                  go_ret
                  refine ⟨rfl, ?_⟩
                  rw [← HB'.out]
                  exact hbr.trans (hbd.bel.mono (by omega))
    · go_wp2
      go_ret
      exact ⟨rfl, Below.refl _ _⟩

set_option maxRecDepth 100000 in
set_option maxHeartbeats 1000000 in
theorem match_nil (x y : Int) (w : World) :
    Calls Tryf.prog 10 #[.int .i64 x, .int .i64 y, .slice none 0 0] w (TrueEnd w) := by
  have hq1 : ∀ (w : World) (a : Option Addr) (n c : Nat), (binOp .neq 47 (.slice a n c) (.slice none 0 0)).run Tryf.prog w = .ok (.bool (!a.isNone)) w := fun w a n c => run_neq_slice_nil_any w 47 9 a n c 0 0 Tryf.underlying47
  go_enter Tryf.func10, Tryf.ntmps10
  go_wp2_with fail
  refine (texts_bytes_nil x y w).mono ?_
  rintro r w' ⟨rfl, rfl⟩
  go_wp2
  refine wp_loop_rounds 1 ?_
  rw [rounds_succ]
  by_cases hx0 : x < 0
  · go_wp2
    go_ret
    exact ⟨rfl, Below.refl _ _⟩
  by_cases hx1 : 1073741824 < x
  · go_wp2
    go_ret
    exact ⟨rfl, Below.refl _ _⟩
  by_cases hy0 : y < 0
  · go_wp2
    go_ret
    exact ⟨rfl, Below.refl _ _⟩
  by_cases hy1 : 1073741824 < y
  · go_wp2
    go_ret
    exact ⟨rfl, Below.refl _ _⟩
  go_wp2_with fail
  refine (zznew_budget x w (by omega) (by omega)).mono ?_
  rintro r w2 ⟨rfl, limit, rl, rfl, hl0, hl1⟩
  go_wp2_with fail
  refine (zznew_pattern y _).mono ?_
  rintro r w3 ⟨rfl, rfl⟩
  have hbud := bud_new w limit rl y
  go_wp2_with fail
  refine (zzlimit _ hbud).mono ?_
  rintro r w4 ⟨rfl, rfl⟩
  go_wp2_with fail
  refine (zzspent _ hbud).mono ?_
  rintro r w4 ⟨rfl, rfl⟩
  go_wp2
  refine wp_loop_rounds 1 ?_
  rw [rounds_succ]
  go_wp2
  go_ret
  exact ⟨rfl, hbud.bel⟩

end Go.Proofs.Qxb6002343aFmt
