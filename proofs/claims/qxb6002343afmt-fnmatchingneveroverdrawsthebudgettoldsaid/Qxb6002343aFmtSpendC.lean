import Derived.Test.Qxb6002343aFmtSpendB
import Derived.Test.Qxb6002343aFmtKit
import Derived.BigQuiet
namespace Go.Proofs.Qxb6002343aFmt
open Go.RowKit Go.Extern.Stop Go.Stop Go.Extern
set_option linter.unusedVariables false
set_option linter.unusedSimpArgs false

theorem info38 : (Tryf.prog.info? 38).map (fun i => (i.zero, i.size, i.bytes)) = some (some (.slice none 0 0), 1, 24) := by kernel_rfl
theorem info21 : (Tryf.prog.info? 21).map (fun i => (i.zero, i.size, i.bytes)) = some (some (.int .i32 0), 1, 4) := by kernel_rfl
theorem size21 : (Tryf.prog.info? 21).map (·.size) = some 1 := by kernel_rfl

/-- An inner slice of the copy, from block lo on: nil, or a row of its own of n runes. -/
def Inner (w : World) (lo : Nat) (v : Value) (n : Nat) : Prop :=
  (v = .slice none 0 0 ∧ n = 0) ∨ ∃ (g : Nat) (zs : List Int), v = .slice (some ⟨g, 0, none⟩) n n ∧ lo ≤ g ∧ Row w g 21 (zs.map (Value.int .i32)) ∧ zs.length = n

/-- The copy's outer row after k rounds. -/
def Cloned (w : World) (B len k : Nat) (L : Nat → Nat) (vs : List Value) : Prop :=
  Row w B 38 vs ∧ vs.length = len ∧ (∀ j, j < k → Inner w (B + 1) (vs.getD j undef) (L j)) ∧ (∀ j, k ≤ j → j < len → vs.getD j undef = .slice none 0 0)

theorem Inner.below {w w' : World} {lo n : Nat} {v : Value} (h : Inner w lo v n) (hb : Below w.heap.size w w') : Inner w' lo v n := by
  rcases h with h | ⟨g, zs, h1, h2, h3, h4⟩
  · exact Or.inl h
  · exact Or.inr ⟨g, zs, h1, h2, h3.below hb h3.lt, h4⟩

theorem Inner.setOther {w : World} {lo n : Nat} {v : Value} (h : Inner w lo v n) (a : Addr) (u : Value) (ha : a.block < lo) : Inner (w.setCell a u) lo v n := by
  rcases h with h | ⟨g, zs, h1, h2, h3, h4⟩
  · exact Or.inl h
  · exact Or.inr ⟨g, zs, h1, h2, h3.setOther a u (by omega), h4⟩

theorem Cloned.skip {w : World} {B len k : Nat} {L : Nat → Nat} {vs : List Value} (h : Cloned w B len k L vs) (hk : k < len) (h0 : L k = 0) : Cloned w B len (k + 1) L vs := by
  obtain ⟨h1, h2, h3, h4⟩ := h
  refine ⟨h1, h2, fun j hj => ?_, fun j hj hl => h4 j (by omega) hl⟩
  rcases Nat.lt_or_ge j k with hjk | hjk
  · exact h3 j hjk
  · obtain rfl : j = k := by omega
    exact Or.inl ⟨h4 j (Nat.le_refl _) hk, h0⟩

theorem Cloned.add {w w3 : World} {B len k g : Nat} {L : Nat → Nat} {vs : List Value} (h : Cloned w B len k L vs) (hk : k < len) (hb : Below w.heap.size w w3) (zs : List Int) (hz : zs.length = L k) (hg : B + 1 ≤ g)
    (hr : Row w3 g 21 (zs.map (Value.int .i32))) :
    Cloned (w3.setCell ⟨B, k, none⟩ (.slice (some ⟨g, 0, none⟩) (L k) (L k))) B len (k + 1) L (vs.set k (.slice (some ⟨g, 0, none⟩) (L k) (L k))) := by
  obtain ⟨h1, h2, h3, h4⟩ := h
  refine ⟨(h1.below hb h1.lt).setSame k _, by simpa using h2, fun j hj => ?_, fun j hj hl => ?_⟩
  · rcases Nat.lt_or_ge j k with hjk | hjk
    · have e : (vs.set k (.slice (some ⟨g, 0, none⟩) (L k) (L k))).getD j undef = vs.getD j undef := by
        simp [List.getD, List.getElem?_set, show ¬ k = j by omega]
      rw [e]
      exact ((h3 j hjk).below hb).setOther _ _ (by simp)
    · obtain rfl : j = k := by omega
      have e : (vs.set j (.slice (some ⟨g, 0, none⟩) (L j) (L j))).getD j undef = .slice (some ⟨g, 0, none⟩) (L j) (L j) := by
        simp [List.getD, List.getElem?_set, show j < vs.length by omega]
      rw [e]
      exact Or.inr ⟨g, zs, rfl, hg, hr.setOther _ _ (by simp; omega), hz⟩
  · have e : (vs.set k (.slice (some ⟨g, 0, none⟩) (L k) (L k))).getD j undef = vs.getD j undef := by
      simp [List.getD, List.getElem?_set, show ¬ k = j by omega]
    rw [e]
    exact h4 j (by omega) hl

theorem add_block (a : Addr) (k : Nat) : (a.add k).block = a.block := by unfold Addr.add; split <;> rfl

/-- The ranges of the first k sets. -/
def RR (L : Nat → Nat) : Nat → Int
  | 0 => 0
  | k + 1 => RR L k + (L k : Int) / 2

theorem RR_bd (L : Nat → Nat) (len : Nat) (h : ∀ k, k < len → L k ≤ 1048576) : ∀ k, k ≤ len → 0 ≤ RR L k ∧ RR L k ≤ k * 1048576
  | 0, _ => by simp [RR]
  | k + 1, hk => by
    have ih := RR_bd L len h k (by omega)
    have h1 := h k (by omega)
    simp only [RR]
    omega

/-- One inner slice, however it was made: where it has an element, its row. -/
theorem Inner.view {w : World} {lo n : Nat} {v : Value} (h : Inner w lo v n) :
    ∃ ao, v = .slice ao n n ∧ ∀ j, j < n → ∃ g z, ao = some ⟨g, 0, none⟩ ∧ g < w.heap.size ∧ w.cell? ⟨g, j, none⟩ = some (.int .i32 z) := by
  rcases h with ⟨rfl, rfl⟩ | ⟨g, zs, rfl, h2, h3, h4⟩
  · exact ⟨none, rfl, fun j hj => by omega⟩
  · refine ⟨_, rfl, fun j hj => ⟨g, zs.getD j 0, rfl, h3.lt, ?_⟩⟩
    rw [h3.cell]
    simp [List.getD, show j < zs.length by omega]

theorem Counts.trans {P0 : Nat} {R R' : Int} {w w1 w2 : World} (h : Counts P0 R w w1) (k : Counts P0 R' w1 w2) : Counts P0 R' w w2 :=
  ⟨k.1, k.2.1, k.2.2.1, h.2.2.2.trans k.2.2.2⟩

theorem Counts.drewN {P0 : Nat} {R : Int} {w w' : World} (h : Counts P0 R w w') (n : Nat) : Counts P0 R w (w'.drewN n) := ⟨h.1, h.2.1, h.2.2.1, below_drewN h.2.2.2 n⟩

theorem counts_new (w : World) (x0 x1 x2 x3 x5 x6 x7 : Value) : Counts w.heap.size 0 w (w.alloc (.cells #[x0, x1, x2, x3, .int .i64 0, x5, x6, x7] 42)) := by
  have h : (w.alloc (.cells #[x0, x1, x2, x3, .int .i64 0, x5, x6, x7] 42)).heap[w.heap.size]? = some (.cells #[x0, x1, x2, x3, .int .i64 0, x5, x6, x7] 42 (0, 0)) := heap_alloc_new w _
  refine ⟨?_, frozen_of_row _ _ _ _ _ h, by simp, (Below.refl _ _).alloc (Nat.le_refl _) _⟩
  rw [cell_of_row _ _ 4 _ _ _ h]
  rfl

def TrueEnd (w : World) (r : Ending) (w' : World) : Prop := r = .returned (.bool true) ∧ Below w.heap.size w w'

set_option maxRecDepth 100000 in
set_option maxHeartbeats 1000000 in
theorem spend_some (F : Interp) (a : Addr) (len cap : Nat) (A : Nat → Option Addr) (L C : Nat → Nat) (Z : Nat → Nat → Int) (w : World) (hF : F.answers w.tape) (hlen : len ≤ maxLen) (hL : ∀ k, k < len → L k ≤ maxLen)
    (hab : 0 < len → a.block < w.heap.size)
    (hc : ∀ k, k < len → w.cell? (a.add k) = some (.slice (A k) (L k) (C k)))
    (hn : ∀ k, k < len → A k = none → L k = 0)
    (hi : ∀ k, k < len → ∀ a', A k = some a' → ∀ j, j < L k → w.cell? (a'.add j) = some (.int .i32 (Z k j))) :
    Calls Tryf.prog 8 #[.slice (some a) len cap] w (TrueEnd w) := by
  have hq1 : ∀ (w : World) (a : Option Addr) (n c : Nat), (binOp .neq 36 (.slice a n c) (.slice none 0 0)).run Tryf.prog w = .ok (.bool (!a.isNone)) w := fun w a n c => run_neq_slice_nil_any w 36 38 a n c 0 0 Tryf.underlying36
  have hq2 : ∀ (w : World) (a : Option Addr) (n c : Nat), (binOp .neq 38 (.slice a n c) (.slice none 0 0)).run Tryf.prog w = .ok (.bool (!a.isNone)) w := fun w a n c => run_neq_slice_nil_any w 38 21 a n c 0 0 Tryf.underlying38
  have hq3 : ∀ (w : World) (a : Option Addr) (n c : Nat), (binOp .eql 38 (.slice a n c) (.slice none 0 0)).run Tryf.prog w = .ok (.bool a.isNone) w := fun w a n c => Lib.run_eql_slice_nil w 38 21 a n c 0 0 Tryf.underlying38
  go_enter Tryf.func8, Tryf.ntmps8
  go_wp2_with fail
  refine (sets_bytes a len cap A L C w hlen hL hc).mono ?_
  rintro r w' ⟨⟨t, rfl, ht⟩, hw'⟩
  obtain rfl : w = w' := hw'.symm
  clear hw'
  cases t with
  | false =>
    go_wp2
    go_ret
    exact ⟨rfl, Below.refl _ _⟩
  | true =>
    obtain ⟨hb1, hb2⟩ := ht rfl
    clear ht
    by_cases hb3 : len ≤ 1024
    · go_wp2
      go_loop [3, 4] (fun s i => ∃ (k : Nat) (z : Int), k ≤ len ∧ i = .int .i64 k ∧ s = .int .i64 z ∧ 0 ≤ z ∧ z ≤ 1048576) (fun _ i => len - (intOf i).toNat)
      case atStart => exact ⟨0, 24 * len, by omega, rfl, by go_num, by omega, by omega⟩
      case round =>
        obtain ⟨k, z, hk, rfl, rfl, hz0, hz1⟩ := hrel
        by_cases hlt : k < len
        · have hck := hc k hlt
          have hLk := hb2 k hlt
          by_cases h2 : z + 4 * L k ≤ 1048576
          · go_wp2
            go_round
            case rel => exact ⟨k + 1, z + 4 * L k, by omega, by go_num, rfl, by omega, by omega⟩
            case measure => simp [intOf]; omega
          · go_wp2
            go_ret
            exact ⟨rfl, Below.refl _ _⟩
        · go_wp2_with (at_make; refine wpList_make_row _ rfl (.tmp 44) (.tmp 44) 36 rfl 38 _ 24 Tryf.underlying36 info38 rfl _ _ _ _ len rfl rfl rfl rfl (by omega) (by unfold maxLen; omega) ?_)
          intro w1 hrow hbel
          go_wp2
          obtain ⟨B, HB⟩ : ∃ B, B = w.heap.size := ⟨_, rfl⟩
          rw [← HB] at hrow hbel
          rw [← HB]
          have HB' : Hid (B = w.heap.size) := HB
          clear HB
          go_loopw [6, 7] (fun i c wr => ∃ (k : Nat) (vs : List Value), k ≤ len ∧ i = .int .i64 k ∧ Cloned wr B len k L vs ∧ Below B w wr) (fun i _ _ => len - (intOf i).toNat)
          case atStart => exact ⟨0, _, Nat.zero_le _, rfl, ⟨hrow, by simp, fun j hj => by omega, fun j _ hj => by simp [List.getD, hj]⟩, hbel⟩
          case round =>
            obtain ⟨k, vs, hk, rfl, hcl, hbr⟩ := hrel
            by_cases hlt : k < len
            · have hck : wr.cell? (a.add k) = some (.slice (A k) (L k) (C k)) := by
                rw [hbr.cell (by rw [add_block, HB'.out]; exact hab (by omega))]
                exact hc k hlt
              have hLk := hb2 k hlt
              cases hA : A k with
              | none =>
                have h0 := hn k hlt hA
                rw [hA, h0] at hck
                have R := hcl.skip hlt h0
                clear hA h0
                go_wp2
                go_roundw
                case rel => exact ⟨k + 1, vs, by omega, by go_num, R, hbr⟩
                case measure => simp [intOf]; omega
              | some a' =>
                rw [hA] at hck
                have hsrc : ∀ j, j < L k → wr.cell? (a'.add j) = some (.int .i32 (Z k j)) := fun j hj => by
                  have h9 := hi k hlt a' hA j hj
                  rw [hbr.cell (by rw [HB'.out]; exact World.block_lt_of_cell? w _ h9)]
                  exact h9
                clear hA
                go_wp2_with (at_make; refine wpList_make_row _ rfl (.tmp 61) (.tmp 61) 38 rfl 21 _ 4 Tryf.underlying38 info21 rfl _ _ _ _ (L k) rfl rfl rfl rfl (by omega) (by unfold maxLen; omega) ?_)
                intro w2 hrow2 hbel2
                have hck2 : w2.cell? (a.add k) = some (.slice (some a') (L k) (C k)) := by
                  rw [hbel2.cell (World.block_lt_of_cell? wr _ hck)]
                  exact hck
                have hlen2 : ((List.range (L k)).map (fun j => Value.int .i32 (Z k j))).length = L k := by simp
                go_wp2_with (with_reducible refine at_copy ?_; refine wpList_copy_row rfl (.tmp 63) (.tmp 67) 38 38 rfl 21 Tryf.underlying38 size21 _ (L k) _ _ _ rfl rfl _ 21 hrow2 (by simp) ((List.range (L k)).map (fun j => Value.int .i32 (Z k j))) hlen2 ?hpos ?hone ?_)
                case hpos =>
                  intro h0
                  refine ⟨a', rfl, fun j v hj => ?_⟩
                  have hjl : j < L k := by
                    have := (List.getElem?_eq_some_iff.1 hj).1
                    simpa using this
                  simp [hjl] at hj
                  subst hj
                  rw [hbel2.cell (World.block_lt_of_cell? wr _ (hsrc j hjl))]
                  exact hsrc j hjl
                case hone =>
                  intro v hv
                  simp at hv
                  obtain ⟨j, _, rfl⟩ := hv
                  rfl
                intro w3 hrow3 hbel3
                have hbel4 : Below wr.heap.size wr w3 := hbel2.trans hbel3
                have hsz := hcl.1.lt
                have hst : w3.cell? ⟨B, k, none⟩ = some (.slice none 0 0) := by
                  rw [hbel4.cell (p := ⟨B, k, none⟩) hsz, hcl.1.cell]
                  have e1 := hcl.2.2.2 k (Nat.le_refl _) hlt
                  have e2 := hcl.2.1
                  simp [List.getD, show k < vs.length by omega] at e1
                  simp [show k < vs.length by omega, e1]
                have hfz : w3.frozen? ⟨B, k, none⟩ = false := by
                  rw [hbel4.frozen (p := ⟨B, k, none⟩) hsz]
                  exact hcl.1.frozen k
                have R := hcl.add (g := wr.heap.size) hlt hbel4 ((List.range (L k)).map (Z k)) (by simp) (by omega) (by simpa [List.map_map, Function.comp_def] using hrow3)
                have hbq := (hbr.trans (hbel4.mono (by omega))).setCell (p := ⟨B, k, none⟩) (Nat.le_refl _) (.slice (some ⟨wr.heap.size, 0, none⟩) (L k) (L k))
                clear hrow3 hrow2 hsrc hbel2 hbel3 hck hck2 hlen2
                go_wp2
                go_roundw
                case rel => exact ⟨k + 1, _, by omega, by go_num, R, hbq⟩
                case measure => simp [intOf]; omega
            · have hkl : len = k := by omega
              subst hkl
              clear hc hn hi hrow hbel
              go_wp2
              obtain ⟨wo, rfl⟩ : ∃ wo : World, wo = wr := ⟨_, rfl⟩
              obtain ⟨P0, HP⟩ : ∃ P0, P0 = wo.heap.size := ⟨_, rfl⟩
              have hPB : B < P0 := by have := hcl.1.lt; omega
              rw [← HP]
              have HP' : Hid (P0 = wo.heap.size) := HP
              clear HP
              go_loopw [9, 10, 11] (fun rg rf i wq => ∃ k : Nat, k ≤ len ∧ i = .int .i64 k ∧ rg = .int .i64 (RR L k) ∧ rf = .bool (decide (65536 < RR L k)) ∧ Counts P0 (RR L k) wo wq) (fun _ _ i _ => len - (intOf i).toNat)
              case atStart =>
                refine ⟨0, Nat.zero_le _, rfl, rfl, rfl, ?_⟩
                have HP := HP'.out
                subst HP
                exact counts_new _ _ _ _ _ _ _ _
              case round =>
                obtain ⟨k, hk, rfl, rfl, rfl, hcn⟩ := hrel
                have hq := RR_bd L len hb2 k hk
                by_cases hlt : k < len
                · have hLk := hb2 k hlt
                  obtain ⟨ao, hv, hin⟩ := (hcl.2.2.1 k hlt).view
                  obtain ⟨q, HQ⟩ : ∃ q, q = RR L k := ⟨_, rfl⟩
                  have HQ1 : Hid (RR L (k + 1) = q + (L k : Int) / 2) := by rw [HQ]; rfl
                  rw [← HQ] at hq hcn
                  rw [← HQ]
                  clear HQ
                  obtain ⟨n, Hn⟩ : ∃ n, n = L k := ⟨_, rfl⟩
                  rw [← Hn] at hLk hv hin HQ1
                  clear Hn
                  have hcv : wr.cell? ⟨B, k, none⟩ = some (.slice ao n n) := by
                    rw [hcn.2.2.2.cell (p := ⟨B, k, none⟩) hPB, hcl.1.cell, ← hv]
                    have e2 := hcl.2.1
                    simp [List.getD, show k < vs.length by omega]
                  have hFr : F.answers wr.tape := by rw [hcn.2.2.2.tape, hbr.tape]; exact hF
                  by_cases hle : q + (n : Int) / 2 ≤ 65536
                  · have hd : decide (65536 < q) = false := by simp; omega
                    go_wp2_with fail
                    refine (zzspend_ok P0 ao n n q wr hcn.1 hcn.2.1 hcn.2.2.1 hq.1 (by omega) hLk hle).mono ?_
                    rintro r w4 ⟨rfl, hq4⟩
                    have hcn4 := hcn.trans hq4
                    clear hcn hq4 hcv hFr
                    obtain ⟨bn, Hbn⟩ : ∃ bn, ao.isNone = bn := ⟨_, rfl⟩
                    have Hin : Hid (∀ j, j < n → ∃ g z, ao = some ⟨g, 0, none⟩ ∧ g < wo.heap.size ∧ wo.cell? ⟨g, j, none⟩ = some (.int .i32 z)) := hin
                    clear hin
                    go_wp2
                    clear Hbn
                    go_loopw [15] (fun j wj => ∃ m : Nat, m ≤ n ∧ j = .int .i64 m ∧ Counts P0 (q + (n : Int) / 2) wo wj) (fun j _ => n - (intOf j).toNat)
                    case atStart => exact ⟨0, Nat.zero_le _, rfl, hcn4⟩
                    case round =>
                      obtain ⟨m, hm, rfl, hcj⟩ := hrel
                      by_cases hmn : m < n
                      · obtain ⟨g, zz, rfl, hg, hcell⟩ := Hin.out m hmn
                        have hcell2 : wr.cell? ⟨g, m, none⟩ = some (.int .i32 zz) := by
                          rw [hcj.2.2.2.cell (p := ⟨g, m, none⟩) (by rw [HP'.out]; exact hg)]
                          exact hcell
                        clear Hin hcell
                        go_wp2
                        go_quiet (fail)
                        go_wp2
                        go_roundw
                        case rel => exact ⟨m + 1, by omega, by go_num, hcj.drewN _⟩
                        case measure => simp [intOf]; omega
                      · go_wp2
                        go_roundw
                        case rel => exact ⟨k + 1, by omega, by go_num, by rw [HQ1.out], by rw [HQ1.out]; simp; omega, by rw [HQ1.out]; exact hcj⟩
                        case measure => simp [intOf]; omega
                  · have hle' : 65536 < q + (n : Int) / 2 := by omega
                    clear hle
                    go_wp2_with fail
                    refine (zzspend_err F P0 ao n n q wr hFr hcn.1 hcn.2.1 hcn.2.2.1 hq.1 (by omega) hLk hle').mono ?_
                    rintro r w4 ⟨⟨ae, rfl⟩, hq4⟩
                    have hcn4 := hcn.trans hq4
                    clear hcn hq4 hcv hFr hin
                    go_wp2
                    go_roundw
                    case rel => exact ⟨k + 1, by omega, by go_num, by rw [HQ1.out], by rw [HQ1.out]; simp; omega, by rw [HQ1.out]; exact hcn4⟩
                    case measure => simp [intOf]; omega
                · go_wp2
                  go_ret
                  refine ⟨rfl, ?_⟩
                  rw [← HB'.out]
                  exact hbr.trans (hcn.2.2.2.mono (by omega))
    · go_wp2
      go_ret
      exact ⟨rfl, Below.refl _ _⟩

set_option maxRecDepth 100000 in
theorem spend_nil (w : World) :
    Calls Tryf.prog 8 #[.slice none 0 0] w (TrueEnd w) := by
  have hq1 : ∀ (w : World) (a : Option Addr) (n c : Nat), (binOp .neq 36 (.slice a n c) (.slice none 0 0)).run Tryf.prog w = .ok (.bool (!a.isNone)) w := fun w a n c => run_neq_slice_nil_any w 36 38 a n c 0 0 Tryf.underlying36
  go_enter Tryf.func8, Tryf.ntmps8
  go_wp2_with fail
  refine (sets_bytes_nil w).mono ?_
  rintro r w' ⟨rfl, hw'⟩
  obtain rfl : w = w' := hw'.symm
  clear hw'
  go_wp2
  refine wp_loop_rounds 1 ?_
  rw [rounds_succ]
  go_wp2
  refine wp_loop_rounds 1 ?_
  rw [rounds_succ]
  go_wp2
  go_ret
  exact ⟨rfl, (Below.refl _ _).alloc (Nat.le_refl _) _⟩

end Go.Proofs.Qxb6002343aFmt
