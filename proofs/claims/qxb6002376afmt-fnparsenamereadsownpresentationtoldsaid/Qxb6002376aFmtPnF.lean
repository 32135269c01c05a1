import Derived.Test.Qxb6002376aFmtPnE
import Derived.Deep.RegionWith
namespace Go.Proofs.Qxb6002376aFmt
open Go.RowKit Go.Extern.Stop Go.Stop Go.Extern
set_option linter.unusedVariables false
set_option linter.unusedSimpArgs false

def TrueEnd (w : World) (r : Ending) (w' : World) : Prop := r = .returned (.bool true) ∧ Below w.heap.size w w'
/-- The labels' bytes. -/
def SB (S : Nat → ByteArray) (k : Nat) : Bytes := (S k).data.toList
theorem SB_len (S : Nat → ByteArray) (k : Nat) : (SB S k).length = (S k).size := Array.length_toList

theorem text_first (S : Nat → ByteArray) (dec : Bool) : text dec (toksTo (SB S) 1) = text dec (toksTo (SB S) 0) ++ escL dec (SB S 0) := by
  simp only [toksTo, text_append, text_some, Nat.lt_irrefl, if_false]
  rfl
theorem text_next (S : Nat → ByteArray) (dec : Bool) (k : Nat) : text dec (toksTo (SB S) (k + 2)) = (text dec (toksTo (SB S) (k + 1)) ++ [46]) ++ escL dec (SB S (k + 1)) := by
  rw [show toksTo (SB S) (k + 2) = toksTo (SB S) (k + 1) ++ ((if 0 < k + 1 then [none] else []) ++ (SB S (k + 1)).map some) from rfl, if_pos (Nat.succ_pos k), text_append, text_append, text_some, text_none, List.append_assoc]
theorem text_len (S : Nat → ByteArray) (dec : Bool) : ∀ k, (text dec (toksTo (SB S) k)).length ≤ 4 * sumTo S k + k
  | 0 => by simp [toksTo, text]
  | 1 => by
    have := escL_len dec (SB S 0)
    rw [SB_len] at this
    rw [text_first]
    simp only [toksTo, List.length_append, sumTo]
    simp [text]
    omega
  | k + 2 => by
    have h1 := text_len S dec (k + 1)
    have := escL_len dec (SB S (k + 1))
    rw [SB_len] at this
    rw [text_next]
    simp only [List.length_append, List.length_cons, List.length_nil]
    rw [show sumTo S (k + 2) = sumTo S (k + 1) + (S (k + 1)).size from rfl]
    omega
theorem sum_mono (S : Nat → ByteArray) (k : Nat) : ∀ d, sumTo S k ≤ sumTo S (k + d)
  | 0 => Nat.le_refl _
  | d + 1 => by
    have := sum_mono S k d
    rw [show sumTo S (k + (d + 1)) = sumTo S (k + d) + (S (k + d)).size from rfl]
    omega
theorem sum_le {S : Nat → ByteArray} {k len : Nat} (h : k ≤ len) : sumTo S k ≤ sumTo S len := by
  obtain ⟨d, rfl⟩ : ∃ d, len = k + d := ⟨len - k, by omega⟩
  exact sum_mono S k d
theorem size_le {S : Nat → ByteArray} {k len : Nat} (h : k < len) : (S k).size ≤ sumTo S len := by
  have h1 : sumTo S (k + 1) ≤ sumTo S len := sum_le h
  rw [show sumTo S (k + 1) = sumTo S k + (S k).size from rfl] at h1
  omega

/-- ParseName("."). -/
theorem parse_root (w : World) : Calls Tryf.prog 13 #[.string ⟨#[46]⟩] w (NameOk [] w) := by
  go_enter Tryf.func13, Tryf.ntmps13
  go_wp2
  exact bodyPost_ret (v := .tuple #[.agg #[.string ⟨#[]⟩], .nilIface]) (by simp [results, Tryf.results13, go_sem]) rfl ⟨⟨_, rfl, rfl⟩, ((Below.refl _ w).alloc (Nat.le_refl _) _).alloc (by simp) _⟩

theorem namewire (t : ByteArray) (w : World) : Calls Tryf.prog 14 #[.agg #[.string t]] w fun r w' => r = .returned (.string t) ∧ Below w.heap.size w w' := by
  go_enter Tryf.func14, Tryf.ntmps14
  go_wp2
  go_ret
  exact ⟨rfl, (Below.refl _ w).alloc (Nat.le_refl _) _⟩

theorem len1' (n : Nat) (h : n ≤ 63) : (#[.int .u8 (n : Int)] : Array Value) = (cells [UInt8.ofNat n]).toArray := by
  have e1 : ((UInt8.ofNat n).toNat : Int) = (n : Int) := by rw [UInt8.toNat_ofNat']; omega
  simp only [cells, List.map_cons, List.map_nil, e1]

set_option maxRecDepth 100000 in
set_option maxHeartbeats 2000000 in
theorem law_some (F : Interp) (a : Addr) (m cap : Nat) (dec tb : Bool) (S : Nat → ByteArray) (w : World) (hF : F.answers w.tape) (hlen : m + 1 ≤ maxLen) (hL : ∀ k, k < m + 1 → (S k).size ≤ maxLen)
    (hc : ∀ k, k < m + 1 → w.cell? (a.add k) = some (.string (S k))) :
    Calls Tryf.prog 3 #[.slice (some a) (m + 1) cap, .bool dec, .bool tb] w (TrueEnd w) := by
  go_enter Tryf.func3, Tryf.ntmps3
  go_wp2_with fail
  refine (texts_bytes dec tb a (m + 1) cap S w hlen hL hc).mono ?_
  rintro r w' ⟨⟨t, rfl, ht⟩, hw'⟩
  obtain rfl : w = w' := hw'.symm
  clear hw' hlen hL
  rcases t with _ | _
  · go_wp2
    go_ret
    exact ⟨rfl, Below.refl _ _⟩
  obtain ⟨hb1, hb2⟩ := ht rfl
  clear ht
  go_wp2_with fail
  refine (count_bytes a (m + 1) cap S w hb1 hb2 hc).mono ?_
  rintro r w' ⟨⟨cn, rfl, hcn⟩, rfl⟩
  by_cases hcs : cn ≤ 65536
  case neg =>
    clear hcn
    go_wp2
    go_ret
    exact ⟨rfl, Below.refl _ _⟩
  have HSum : Hid (8 * (m + 1) + sumTo S (m + 1) ≤ 65536) := hcn hcs
  have hm1 : m + 1 ≤ 8192 := by have := HSum.out; omega
  clear hcn
  have hcl := hc m (by omega)
  by_cases hlast : (S m).size = 0
  · go_wp2
    go_ret
    exact ⟨rfl, Below.refl _ _⟩
  go_wp2_with fail
  refine (clone_some a (m + 1) cap S w hb1 hc).mono ?_
  rintro r w1 ⟨rfl, hcell, hlt0, hbel⟩
  clear hc hb2 hcl hcs
  obtain ⟨B, HB⟩ : ∃ B, B = w.heap.size := ⟨_, rfl⟩
  rw [← HB] at hcell hlt0 hbel
  rw [← HB]
  have HB' : Hid (B = w.heap.size) := HB
  clear HB
  go_wp2
  go_loopw [7, 8] (fun d i wr => ∃ k : Nat, k ≤ m + 1 ∧ i = .int .i64 k ∧ Own wr (B + 1) d (text dec (toksTo (SB S) k)) ∧ Below (B + 1) w1 wr) (fun _ i _ => (m + 1) - (intOf i).toNat)
  case atStart => exact ⟨0, Nat.zero_le _, rfl, by simpa [toksTo, text] using Own.nil w1 (B + 1), Below.refl _ _⟩
  case round =>
    obtain ⟨k, hk, rfl, hown, hbr⟩ := hrel
    have hz : B + 1 ≤ wr.heap.size := by have := hbr.size; omega
    have htl := text_len S dec k
    have hsk : sumTo S k ≤ sumTo S (m + 1) := sum_le hk
    have htl2 : (text dec (toksTo (SB S) k)).length ≤ 300000 := by have := HSum.out; omega
    clear htl hsk
    by_cases hlt : k < m + 1
    · have hck : wr.cell? ⟨B, k, none⟩ = some (.string (S k)) := (hbr.cell (p := ⟨B, k, none⟩) (by simp)).trans (hcell k hlt)
      have hskz : (S k).size ≤ 65536 := by have := size_le (S := S) hlt; have := HSum.out; omega
      rcases k with _ | k
      · go_wp2_with fail
        refine (esc_call (B + 1) _ _ (S 0) dec wr hown hz hskz (by omega)).mono ?_
        rintro r w2 ⟨v2, rfl, hown2, hb2⟩
        have R : Own w2 (B + 1) v2 (text dec (toksTo (SB S) 1)) := by rw [text_first]; exact hown2
        clear hown2
        go_wp2
        go_roundw
        case rel => refine ⟨_, _, _, _, _, _, _, _, _, _, _, _, _, _, _, _, _, _, _, _, ?_, rfl⟩; exact ⟨1, by omega, by go_num, R, hbr.trans hb2⟩
        case measure => simp [intOf] <;> omega
      · obtain ⟨l1, Hl1⟩ : ∃ l1, l1 = text dec (toksTo (SB S) (k + 1)) := ⟨_, rfl⟩
        rw [← Hl1] at hown htl2
        have HL1 : Hid (l1 = text dec (toksTo (SB S) (k + 1))) := Hl1
        clear Hl1
        go_wp2_with (at_builtin; refine app_bytes _ rfl (.tmp 52) (.tmp 53) rfl (B + 1) _ l1 rfl (hown.alloc _) ⟨wr.heap.size, 0, none⟩ [46] 1 1 rfl rfl (cellN _ _ _ rfl) (by omega) (by simp; omega) ?_)
        intro v' w3 hown3 hg3
        have hb3 := (hown.alloc _).grown hg3 (by simp; omega) (hbr.alloc hz _)
        clear hg3 hown
        have hck3 : w3.cell? ⟨B, k + 1, none⟩ = some (.string (S (k + 1))) := (hb3.cell (p := ⟨B, k + 1, none⟩) (by simp)).trans (hcell (k + 1) hlt)
        have hz3 : B + 1 ≤ w3.heap.size := by have := hb3.size; omega
        go_wp2_with fail
        refine (esc_call (B + 1) _ _ (S (k + 1)) dec w3 hown3 hz3 hskz (by simp; omega)).mono ?_
        rintro r w2 ⟨v2, rfl, hown2, hb2⟩
        have R : Own w2 (B + 1) v2 (text dec (toksTo (SB S) (k + 2))) := by rw [text_next, ← HL1.out]; exact hown2
        clear hown2 hown3
        go_wp2
        go_roundw
        case rel => refine ⟨_, _, _, _, _, _, _, _, _, _, _, _, _, _, _, _, _, _, _, _, ?_, rfl⟩; exact ⟨k + 2, by omega, by go_num, R, hb3.trans hb2⟩
        case measure => simp [intOf] <;> omega
    · have hkl : k = m + 1 := by omega
      subst hkl
      have HCell : Hid (∀ j, j < m + 1 → wr.cell? ⟨B, j, none⟩ = some (.string (S j))) := fun j hj => (hbr.cell (p := ⟨B, j, none⟩) (by simp)).trans (hcell j hj)
      have HCell1 : Hid (∀ j, j < m + 1 → w1.cell? ⟨B, j, none⟩ = some (.string (S j))) := hcell
      clear hcell
      obtain ⟨ts, Hts⟩ : ∃ ts, ts = toksTo (SB S) (m + 1) ++ (if tb then [none] else []) := ⟨_, rfl⟩
      have HLast : Hid (SB S m ≠ []) := fun e => hlast (by rw [← SB_len, e]; rfl)
      have HPY : Hid (allGood (SB S) (m + 1) → (wireTo (SB S) (m + 1)).length + 1 ≤ 255 → parseT ts = some (wireTo (SB S) (m + 1))) := fun h1 h2 => by rw [Hts]; exact parse_yes (SB S) m HLast.out _ h1 h2
      have HPN : Hid (¬ (allGood (SB S) (m + 1) ∧ (wireTo (SB S) (m + 1)).length + 1 ≤ 255) → parseT ts = none) := fun h => by rw [Hts]; exact parse_no (SB S) m HLast.out _ h
      have HNE : Hid (text dec ts ≠ [] ∧ text dec ts ≠ [46]) := by
        cases e : SB S m with
        | nil => exact absurd e HLast.out
        | cons c l =>
          refine text_not_dot dec ts c ?_
          rw [Hts]
          simp [toksTo, e]
      cases tb with
      | false =>
        have hP : Own wr (B + 1) u7 (text dec ts) := by rw [Hts]; simpa using hown
        have hPl : (text dec ts).length ≤ 300001 := by rw [Hts]; simp; omega
        clear hown htl2 Hts
        have hbq : Below (B + 1) w1 wr := hbr
        have hzq : B + 1 ≤ wr.heap.size := hz
        clear hbr hz
        obtain ⟨wq, Hwq⟩ : ∃ wq, wq = wr := ⟨_, rfl⟩
        subst Hwq
        go_wp2
        go_loopw [9, 10, 11] (fun o v i wr => ∃ (k : Nat) (ok : Bool) (wl : Bytes), k ≤ m + 1 ∧ o = .bool ok ∧ i = .int .i64 k ∧ Own wr wq.heap.size v wl ∧ Hid (ok = true ↔ allGood (SB S) k) ∧ Hid (ok = true → wl = wireTo (SB S) k) ∧ wl.length ≤ sumTo S k + k ∧ Below wq.heap.size wq wr) (fun _ _ i _ => (m + 1) - (intOf i).toNat)
        case atStart => exact ⟨0, true, [], Nat.zero_le _, rfl, rfl, Own.nil _ _, by show _ ↔ _; simp [allGood], fun _ => rfl, by simp, Below.refl _ _⟩
        case round =>
          obtain ⟨k, ok, wl, hk, rfl, rfl, hw, hok, hwl, hwn, hb4⟩ := hrel
          have hz4 : wq.heap.size ≤ wr.heap.size := hb4.size
          have hwlm : wl.length ≤ 100000 := by have := HSum.out; have := sum_le (S := S) hk; omega
          by_cases hlt : k < m + 1
          · have hck4 : wr.cell? ⟨B, k, none⟩ = some (.string (S k)) := (hb4.cell (p := ⟨B, k, none⟩) (by simp; omega)).trans (HCell.out k hlt)
            have HSum1 : Hid (sumTo S (k + 1) = sumTo S k + (S k).size) := rfl
            have hskz : (S k).size ≤ 65536 := by have := size_le (S := S) hlt; have := HSum.out; omega
            by_cases hs0 : (S k).size = 0
            · have hbad : goodL (SB S k) = false := by simp [goodL, SB_len]; omega
              have hno : Hid ((false = true) ↔ allGood (SB S) (k + 1)) := by show _ ↔ _; rw [all_succ, hbad]; simp
              clear hbad
              go_wp2
              go_roundw
              case rel => exact ⟨k + 1, false, wl, by omega, rfl, by go_num, hw, hno, (fun h => by cases h), by rw [HSum1.out]; omega, hb4⟩
              case measure => simp [intOf] <;> omega
            · have e0 : (((S k).size : Int) == 0) = false := by rw [beq_eq_false_iff_ne]; omega
              by_cases hs1 : 63 < (S k).size
              · have hbad : goodL (SB S k) = false := by simp [goodL, SB_len]; omega
                have hno : Hid ((false = true) ↔ allGood (SB S) (k + 1)) := by show _ ↔ _; rw [all_succ, hbad]; simp
                clear hbad
                go_wp2
                go_roundw
                case rel => exact ⟨k + 1, false, wl, by omega, rfl, by go_num, hw, hno, (fun h => by cases h), by rw [HSum1.out]; omega, hb4⟩
                case measure => simp [intOf] <;> omega
              · have hgood : goodL (SB S k) = true := by simp [goodL, SB_len]; omega
                have hok1 : Hid ((ok = true) ↔ allGood (SB S) (k + 1)) := by show _ ↔ _; rw [all_succ, hgood, hok.out]; simp
                have hwl1 : Hid (ok = true → wl ++ (UInt8.ofNat (S k).size :: (S k).data.toList) = wireTo (SB S) (k + 1)) := fun h => by
                  rw [hwl.out h]
                  show _ = endL _ _
                  simp [endL, SB_len, SB]
                clear hok hwl hgood
                go_wp2_with (at_builtin; refine app_bytes _ rfl (.tmp 83) (.tmp 86) rfl wq.heap.size _ wl rfl (hw.alloc _) ⟨wr.heap.size, 0, none⟩ [UInt8.ofNat (S k).size] 1 1 rfl rfl (cellN _ _ _ (len1' _ (by omega))) (by omega) (by simp; omega) ?_)
                intro v5 w5 hown5 hg5
                have hb5 := (hw.alloc _).grown hg5 (by simp; omega) (hb4.alloc hz4 _)
                clear hg5 hw
                have hck5 : w5.cell? ⟨B, k, none⟩ = some (.string (S k)) := (hb5.cell (p := ⟨B, k, none⟩) (by simp; omega)).trans (HCell.out k hlt)
                have hz5 : wq.heap.size ≤ w5.heap.size := hb5.size
                go_wp2_with (at_builtin; refine app_str _ rfl (.tmp 88) (.tmp 92) rfl wq.heap.size _ (wl ++ [UInt8.ofNat (S k).size]) rfl hown5 (S k) rfl (by simp; omega) hz5 ?_)
                intro v6 w6 hown6 hg6
                have hb6 := hown5.grown hg6 hz5 hb5
                clear hg6 hown5
                have hwn6 : (wl ++ (UInt8.ofNat (S k).size :: (S k).data.toList)).length ≤ sumTo S (k + 1) + (k + 1) := by rw [HSum1.out, List.length_append, List.length_cons, show (S k).data.toList.length = (S k).size from Array.length_toList]; omega
                obtain ⟨l6, Hl6⟩ : ∃ l6, l6 = wl ++ (UInt8.ofNat (S k).size :: (S k).data.toList) := ⟨_, rfl⟩
                rw [← Hl6] at hown6 hwl1 hwn6
                have R6 : Hid (Own w6 wq.heap.size v6 l6) := hown6
                clear Hl6 hown6
                go_wp2
                go_roundw
                case rel => first | exact ⟨k + 1, ok, _, by omega, rfl, by go_num, R6.out, hok1, (fun h => hwl1.out h), hwn6, hb6⟩ | (refine ⟨_, _, _, _, _, _, _, _, _, _, _, _, _, _, _, _, _, _, _, _, _, _, _, _, _, _, _, _, _, _, _, _, ?_, rfl⟩; exact ⟨k + 1, ok, _, by omega, rfl, by go_num, R6.out, hok1, (fun h => hwl1.out h), hwn6, hb6⟩)
                case measure => simp [intOf] <;> omega
          · have hkl : k = m + 1 := by omega
            subst hkl
            have hP4 : Own wr (B + 1) u7 (text dec ts) := hP.below hb4
            have hconvP := hP4.asStr
            obtain ⟨ao, capw, hvw⟩ := hw.shape
            subst hvw
            have hconvW : Hid (∀ w9 : World, Below wr.heap.size wr w9 → (convert 26 9 (.slice ao wl.length capw)).run Tryf.prog w9 = .ok (.string ⟨wl.toArray⟩) w9) := fun w9 h9 => (hw.below h9).asStr
            have hF4 : F.answers wr.tape := by rw [hb4.tape, hbq.tape, hbel.tape]; exact hF
            have hcallP := parse_call F ⟨(text dec ts).toArray⟩ dec ts wr hF4 (by simp) (by simpa [ByteArray.size] using (by omega)) HNE.out.1 HNE.out.2
            have hbz : Below B w wr := (hbel.trans (hbq.mono (by omega))).trans (hb4.mono (by omega))
            clear hP hP4 hw hb4 hwn hF4
            by_cases hyes : ok = true ∧ wl.length + 1 ≤ 255
            · obtain ⟨hy1, hy2⟩ := hyes
              have hpt : parseT ts = some wl := by
                have e := hwl.out hy1
                rw [e]
                exact HPY.out (hok.out.1 hy1) (by rw [← e]; exact hy2)
              rw [hpt] at hcallP
              subst hy1
              clear hpt hok hwl
              have HC : Hid (Calls Tryf.prog 13 #[.string ⟨(text dec ts).toArray⟩] wr (NameOk wl wr)) := hcallP
              clear hcallP
              go_wp2_with fail
              refine HC.out.mono ?_
              rintro r w5 ⟨⟨t, rfl, htw⟩, hb5⟩
              have hte : (⟨wl.toArray⟩ : ByteArray) = t := by rw [← htw]
              have hconvT : Hid (∀ w9 : World, Below wr.heap.size wr w9 → (convert 26 9 (.slice ao wl.length capw)).run Tryf.prog w9 = .ok (.string t) w9) := fun w9 h9 => by rw [hconvW.out w9 h9, hte]
              clear hte hconvW htw
              go_wp2
              obtain ⟨w6, Hw6⟩ : ∃ w6, w6 = w5.alloc (.cells #[.string t] 29) := ⟨_, rfl⟩
              obtain ⟨g, Hg⟩ : ∃ g, g = w5.heap.size := ⟨_, rfl⟩
              have hc6 : w6.cell? ⟨g, 0, none⟩ = some (.string t) := by
                rw [Hw6, Hg]
                have hr : Row (w5.alloc (.cells #[.string t] 29)) w5.heap.size 29 [.string t] := heap_alloc_new w5 _
                rw [hr.cell]; rfl
              have hb6 : Below wr.heap.size wr w6 := by rw [Hw6]; exact hb5.alloc hb5.size _
              rw [← Hw6, ← Hg]
              clear Hw6 Hg hb5
              have hv1 := hconvT.out w6 hb6
              have hv2 := hconvT.out w6.drew hb6.drew
              go_region_with (go_at_call 14; refine (namewire t _).mono ?_; rintro r w7 ⟨rfl, hb7⟩; have hv3 := hconvT.out w7 (hb6.drew.trans (hb7.mono hb6.size)))
              all_goals
                go_wp2
                go_ret
                exact ⟨rfl, HB'.out ▸ hbz.trans ((hb6.drew.trans (hb7.mono hb6.size)).mono (by have := hbz.size; omega))⟩
            · have hpt : parseT ts = none := by
                refine HPN.out fun h => hyes ?_
                have h1 := hok.out.2 h.1
                exact ⟨h1, by rw [hwl.out h1]; exact h.2⟩
              rw [hpt] at hcallP
              have HC : Hid (Calls Tryf.prog 13 #[.string ⟨(text dec ts).toArray⟩] wr (NameErr wr)) := hcallP
              clear hcallP hpt hok hwl
              by_cases h255 : wl.length + 1 ≤ 255
              · obtain rfl : ok = false := by
                  cases ok with
                  | false => rfl
                  | true => exact absurd ⟨rfl, h255⟩ hyes
                clear hyes
                go_wp2_with fail
                refine HC.out.mono ?_
                rintro r w5 ⟨⟨ae, rfl⟩, hb5⟩
                go_wp2
                go_ret
                exact ⟨rfl, HB'.out ▸ (hbz.trans (hb5.mono (by omega))).alloc (by have := hb5.size; omega) _⟩
              · clear hyes
                go_wp2_with fail
                refine HC.out.mono ?_
                rintro r w5 ⟨⟨ae, rfl⟩, hb5⟩
                go_wp2
                go_ret
                exact ⟨rfl, HB'.out ▸ (hbz.trans (hb5.mono (by omega))).alloc (by have := hb5.size; omega) _⟩
      | true =>
        have HT2 : Hid (text dec ts = text dec (toksTo (SB S) (m + 1)) ++ [46]) := by show text dec ts = _; rw [Hts, if_pos rfl, text_append, text_none]
        clear Hts HCell
        obtain ⟨l1, Hl1⟩ : ∃ l1, l1 = text dec (toksTo (SB S) (m + 1)) := ⟨_, rfl⟩
        rw [← Hl1] at hown htl2 HT2
        clear Hl1
        go_wp2_with (at_builtin; refine app_bytes _ rfl (.tmp 63) (.tmp 64) rfl (B + 1) _ l1 rfl (hown.alloc _) ⟨wr.heap.size, 0, none⟩ [46] 1 1 rfl rfl (cellN _ _ _ rfl) (by omega) (by simp; omega) ?_)
        intro pv wq hown3 hg3
        have hbq : Below (B + 1) w1 wq := (hown.alloc _).grown hg3 (by simp; omega) (hbr.alloc hz _)
        have hP : Own wq (B + 1) pv (text dec ts) := by rw [HT2.out]; exact hown3
        have hPl : (text dec ts).length ≤ 300001 := by rw [HT2.out]; simp; omega
        have hzq : B + 1 ≤ wq.heap.size := by have := hbq.size; omega
        have HCell : Hid (∀ j, j < m + 1 → wq.cell? ⟨B, j, none⟩ = some (.string (S j))) := fun j hj => (hbq.cell (p := ⟨B, j, none⟩) (by simp)).trans (HCell1.out j hj)
        clear hg3 hown hown3 HT2 hbr hz htl2
        go_wp2
        go_loopw [9, 10, 11] (fun o v i wr => ∃ (k : Nat) (ok : Bool) (wl : Bytes), k ≤ m + 1 ∧ o = .bool ok ∧ i = .int .i64 k ∧ Own wr wq.heap.size v wl ∧ Hid (ok = true ↔ allGood (SB S) k) ∧ Hid (ok = true → wl = wireTo (SB S) k) ∧ wl.length ≤ sumTo S k + k ∧ Below wq.heap.size wq wr) (fun _ _ i _ => (m + 1) - (intOf i).toNat)
        case atStart => exact ⟨0, true, [], Nat.zero_le _, rfl, rfl, Own.nil _ _, by show _ ↔ _; simp [allGood], fun _ => rfl, by simp, Below.refl _ _⟩
        case round =>
          obtain ⟨k, ok, wl, hk, rfl, rfl, hw, hok, hwl, hwn, hb4⟩ := hrel
          have hz4 : wq.heap.size ≤ wr.heap.size := hb4.size
          have hwlm : wl.length ≤ 100000 := by have := HSum.out; have := sum_le (S := S) hk; omega
          by_cases hlt : k < m + 1
          · have hck4 : wr.cell? ⟨B, k, none⟩ = some (.string (S k)) := (hb4.cell (p := ⟨B, k, none⟩) (by simp; omega)).trans (HCell.out k hlt)
            have HSum1 : Hid (sumTo S (k + 1) = sumTo S k + (S k).size) := rfl
            have hskz : (S k).size ≤ 65536 := by have := size_le (S := S) hlt; have := HSum.out; omega
            by_cases hs0 : (S k).size = 0
            · have hbad : goodL (SB S k) = false := by simp [goodL, SB_len]; omega
              have hno : Hid ((false = true) ↔ allGood (SB S) (k + 1)) := by show _ ↔ _; rw [all_succ, hbad]; simp
              clear hbad
              go_wp2
              go_roundw
              case rel => exact ⟨k + 1, false, wl, by omega, rfl, by go_num, hw, hno, (fun h => by cases h), by rw [HSum1.out]; omega, hb4⟩
              case measure => simp [intOf] <;> omega
            · have e0 : (((S k).size : Int) == 0) = false := by rw [beq_eq_false_iff_ne]; omega
              by_cases hs1 : 63 < (S k).size
              · have hbad : goodL (SB S k) = false := by simp [goodL, SB_len]; omega
                have hno : Hid ((false = true) ↔ allGood (SB S) (k + 1)) := by show _ ↔ _; rw [all_succ, hbad]; simp
                clear hbad
                go_wp2
                go_roundw
                case rel => exact ⟨k + 1, false, wl, by omega, rfl, by go_num, hw, hno, (fun h => by cases h), by rw [HSum1.out]; omega, hb4⟩
                case measure => simp [intOf] <;> omega
              · have hgood : goodL (SB S k) = true := by simp [goodL, SB_len]; omega
                have hok1 : Hid ((ok = true) ↔ allGood (SB S) (k + 1)) := by show _ ↔ _; rw [all_succ, hgood, hok.out]; simp
                have hwl1 : Hid (ok = true → wl ++ (UInt8.ofNat (S k).size :: (S k).data.toList) = wireTo (SB S) (k + 1)) := fun h => by
                  rw [hwl.out h]
                  show _ = endL _ _
                  simp [endL, SB_len, SB]
                clear hok hwl hgood
                go_wp2_with (at_builtin; refine app_bytes _ rfl (.tmp 83) (.tmp 86) rfl wq.heap.size _ wl rfl (hw.alloc _) ⟨wr.heap.size, 0, none⟩ [UInt8.ofNat (S k).size] 1 1 rfl rfl (cellN _ _ _ (len1' _ (by omega))) (by omega) (by simp; omega) ?_)
                intro v5 w5 hown5 hg5
                have hb5 := (hw.alloc _).grown hg5 (by simp; omega) (hb4.alloc hz4 _)
                clear hg5 hw
                have hck5 : w5.cell? ⟨B, k, none⟩ = some (.string (S k)) := (hb5.cell (p := ⟨B, k, none⟩) (by simp; omega)).trans (HCell.out k hlt)
                have hz5 : wq.heap.size ≤ w5.heap.size := hb5.size
                go_wp2_with (at_builtin; refine app_str _ rfl (.tmp 88) (.tmp 92) rfl wq.heap.size _ (wl ++ [UInt8.ofNat (S k).size]) rfl hown5 (S k) rfl (by simp; omega) hz5 ?_)
                intro v6 w6 hown6 hg6
                have hb6 := hown5.grown hg6 hz5 hb5
                clear hg6 hown5
                have hwn6 : (wl ++ (UInt8.ofNat (S k).size :: (S k).data.toList)).length ≤ sumTo S (k + 1) + (k + 1) := by rw [HSum1.out, List.length_append, List.length_cons, show (S k).data.toList.length = (S k).size from Array.length_toList]; omega
                obtain ⟨l6, Hl6⟩ : ∃ l6, l6 = wl ++ (UInt8.ofNat (S k).size :: (S k).data.toList) := ⟨_, rfl⟩
                rw [← Hl6] at hown6 hwl1 hwn6
                have R6 : Hid (Own w6 wq.heap.size v6 l6) := hown6
                clear Hl6 hown6
                go_wp2
                go_roundw
                case rel => first | exact ⟨k + 1, ok, _, by omega, rfl, by go_num, R6.out, hok1, (fun h => hwl1.out h), hwn6, hb6⟩ | (refine ⟨_, _, _, _, _, _, _, _, _, _, _, _, _, _, _, _, _, _, _, _, _, _, _, _, _, _, _, _, _, _, _, _, ?_, rfl⟩; exact ⟨k + 1, ok, _, by omega, rfl, by go_num, R6.out, hok1, (fun h => hwl1.out h), hwn6, hb6⟩)
                case measure => simp [intOf] <;> omega
          · have hkl : k = m + 1 := by omega
            subst hkl
            have hP4 : Own wr (B + 1) pv (text dec ts) := hP.below hb4
            have hconvP := hP4.asStr
            obtain ⟨ao, capw, hvw⟩ := hw.shape
            subst hvw
            have hconvW : Hid (∀ w9 : World, Below wr.heap.size wr w9 → (convert 26 9 (.slice ao wl.length capw)).run Tryf.prog w9 = .ok (.string ⟨wl.toArray⟩) w9) := fun w9 h9 => (hw.below h9).asStr
            have hF4 : F.answers wr.tape := by rw [hb4.tape, hbq.tape, hbel.tape]; exact hF
            have hcallP := parse_call F ⟨(text dec ts).toArray⟩ dec ts wr hF4 (by simp) (by simpa [ByteArray.size] using (by omega)) HNE.out.1 HNE.out.2
            have hbz : Below B w wr := (hbel.trans (hbq.mono (by omega))).trans (hb4.mono (by omega))
            clear hP hP4 hw hb4 hwn hF4
            by_cases hyes : ok = true ∧ wl.length + 1 ≤ 255
            · obtain ⟨hy1, hy2⟩ := hyes
              have hpt : parseT ts = some wl := by
                have e := hwl.out hy1
                rw [e]
                exact HPY.out (hok.out.1 hy1) (by rw [← e]; exact hy2)
              rw [hpt] at hcallP
              subst hy1
              clear hpt hok hwl
              have HC : Hid (Calls Tryf.prog 13 #[.string ⟨(text dec ts).toArray⟩] wr (NameOk wl wr)) := hcallP
              clear hcallP
              go_wp2_with fail
              refine HC.out.mono ?_
              rintro r w5 ⟨⟨t, rfl, htw⟩, hb5⟩
              have hte : (⟨wl.toArray⟩ : ByteArray) = t := by rw [← htw]
              have hconvT : Hid (∀ w9 : World, Below wr.heap.size wr w9 → (convert 26 9 (.slice ao wl.length capw)).run Tryf.prog w9 = .ok (.string t) w9) := fun w9 h9 => by rw [hconvW.out w9 h9, hte]
              clear hte hconvW htw
              go_wp2
              obtain ⟨w6, Hw6⟩ : ∃ w6, w6 = w5.alloc (.cells #[.string t] 29) := ⟨_, rfl⟩
              obtain ⟨g, Hg⟩ : ∃ g, g = w5.heap.size := ⟨_, rfl⟩
              have hc6 : w6.cell? ⟨g, 0, none⟩ = some (.string t) := by
                rw [Hw6, Hg]
                have hr : Row (w5.alloc (.cells #[.string t] 29)) w5.heap.size 29 [.string t] := heap_alloc_new w5 _
                rw [hr.cell]; rfl
              have hb6 : Below wr.heap.size wr w6 := by rw [Hw6]; exact hb5.alloc hb5.size _
              rw [← Hw6, ← Hg]
              clear Hw6 Hg hb5
              have hv1 := hconvT.out w6 hb6
              have hv2 := hconvT.out w6.drew hb6.drew
              go_region_with (go_at_call 14; refine (namewire t _).mono ?_; rintro r w7 ⟨rfl, hb7⟩; have hv3 := hconvT.out w7 (hb6.drew.trans (hb7.mono hb6.size)))
              all_goals
                go_wp2
                go_ret
                exact ⟨rfl, HB'.out ▸ hbz.trans ((hb6.drew.trans (hb7.mono hb6.size)).mono (by have := hbz.size; omega))⟩
            · have hpt : parseT ts = none := by
                refine HPN.out fun h => hyes ?_
                have h1 := hok.out.2 h.1
                exact ⟨h1, by rw [hwl.out h1]; exact h.2⟩
              rw [hpt] at hcallP
              have HC : Hid (Calls Tryf.prog 13 #[.string ⟨(text dec ts).toArray⟩] wr (NameErr wr)) := hcallP
              clear hcallP hpt hok hwl
              by_cases h255 : wl.length + 1 ≤ 255
              · obtain rfl : ok = false := by
                  cases ok with
                  | false => rfl
                  | true => exact absurd ⟨rfl, h255⟩ hyes
                clear hyes
                go_wp2_with fail
                refine HC.out.mono ?_
                rintro r w5 ⟨⟨ae, rfl⟩, hb5⟩
                go_wp2
                go_ret
                exact ⟨rfl, HB'.out ▸ (hbz.trans (hb5.mono (by omega))).alloc (by have := hb5.size; omega) _⟩
              · clear hyes
                go_wp2_with fail
                refine HC.out.mono ?_
                rintro r w5 ⟨⟨ae, rfl⟩, hb5⟩
                go_wp2
                go_ret
                exact ⟨rfl, HB'.out ▸ (hbz.trans (hb5.mono (by omega))).alloc (by have := hb5.size; omega) _⟩

end Go.Proofs.Qxb6002376aFmt
