import Derived.Test.Qxb6002376aFmtPnD
namespace Go.Proofs.Qxb6002376aFmt
open Go.RowKit Go.Extern.Stop Go.Stop Go.Extern
set_option linter.unusedVariables false
set_option linter.unusedSimpArgs false

theorem plain_ne {n : Nat} (h : plainB n = true) (m : Nat) (hm : plainB m = false) : ((n : Int) == (m : Int)) = false := by
  rw [beq_eq_false_iff_ne]
  intro e
  have e' : n = m := by omega
  rw [e', hm] at h
  cases h

theorem dec_digits (c y1 y2 y3 : UInt8) (h1 : y1 = (dec4L c)[1]'(by simp [dec4L])) (h2 : y2 = (dec4L c)[2]'(by simp [dec4L])) (h3 : y3 = (dec4L c)[3]'(by simp [dec4L])) : ∃ x1 x2 x3 : Nat, x1 ≤ 2 ∧ x2 ≤ 9 ∧ x3 ≤ 9 ∧ 100 * x1 + 10 * x2 + x3 = c.toNat ∧ y1.toNat = 48 + x1 ∧ y2.toNat = 48 + x2 ∧ y3.toNat = 48 + x3 := by
  have hc : c.toNat < 256 := c.toNat_lt
  subst h1 h2 h3
  refine ⟨c.toNat / 100, c.toNat / 10 % 10, c.toNat % 10, by omega, by omega, by omega, by omega, ?_, ?_, ?_⟩
  · show (UInt8.ofNat (48 + c.toNat / 100)).toNat = _
    rw [UInt8.toNat_ofNat']; omega
  · show (UInt8.ofNat (48 + c.toNat / 10 % 10)).toNat = _
    rw [UInt8.toNat_ofNat']; omega
  · show (UInt8.ofNat (48 + c.toNat % 10)).toNat = _
    rw [UInt8.toNat_ofNat']; omega

theorem arr_dec (x1 x2 x3 : Nat) (c : UInt8) (h : 100 * x1 + 10 * x2 + x3 = c.toNat) :
    (#[.int .u8 ((48 + (x1 : Int) - 48) * 100 + (48 + (x2 : Int) - 48) * 10 + (48 + (x3 : Int) - 48))] : Array Value) = (cells [c]).toArray := by
  have e : (48 + (x1 : Int) - 48) * 100 + (48 + (x2 : Int) - 48) * 10 + (48 + (x3 : Int) - 48) = (c.toNat : Int) := by omega
  rw [e]
  rfl

theorem PSt.drewN {b : Nat} {s : ByteArray} {wv lv : Value} {wir lab : Bytes} {w0 w : World} (h : PSt b s wv lv wir lab w0 w) (n : Nat) : PSt b s wv lv wir lab w0 (w.drewN n) :=
  h.below (below_drewN (Below.refl _ _) n)

theorem digit_no (n : Nat) (w : World) (h : n < 48 ∨ 57 < n) : Calls Tryf.prog 32 #[.int .u8 n] w fun r w' => r = .returned (.bool false) ∧ w = w' := by
  rcases h with h | h
  · have d1 : decide ((48 : Int) ≤ (n : Int)) = false := by simp; omega
    go_enter Tryf.func32, Tryf.ntmps32
    go_wp2
    go_ret
    exact ⟨rfl, rfl⟩
  · have d1 : decide ((48 : Int) ≤ (n : Int)) = true := by simp; omega
    have d2 : decide ((n : Int) ≤ 57) = false := by simp; omega
    go_enter Tryf.func32, Tryf.ntmps32
    go_wp2
    go_ret
    exact ⟨rfl, rfl⟩

theorem fin_ok {b : Nat} {s : ByteArray} {wv lv : Value} {wir lab l : Bytes} {w w' : World} {ts : List Tok} (hst : PSt b s wv lv wir lab w w') (HB : b = w.heap.size) (hp : parseT ts = some l) :
    NameEnd (parseT ts) w (.returned (.tuple #[.agg #[.string ⟨l.toArray⟩], .nilIface])) (w'.setCell ⟨b + 1, 0, none⟩ (.string ⟨l.toArray⟩)) := by
  rw [hp]
  refine ⟨⟨_, rfl, by simp⟩, ?_⟩
  rw [← HB]
  exact hst.bel.setCell (by simp) _

theorem push_below {b : Nat} {s : ByteArray} {wv lv : Value} {wir lab : Bytes} {w0 w w1 : World} {ob : Obj} (h : PSt b s wv lv wir lab w0 w) (hg : (w.alloc ob).grownBy w1 lv.ownBlock) : Below (b + 4) w w1 := by
  have hsz := h.size
  exact (h.ol.alloc ob).grown hg (by simp; omega) ((Below.refl _ w).alloc hsz ob)

set_option maxRecDepth 100000 in
set_option maxHeartbeats 2000000 in
theorem parse_call (F : Interp) (s : ByteArray) (dec : Bool) (ts : List Tok) (w : World) (hF : F.answers w.tape) (hs : s.data.toList = text dec ts) (hsz : s.size ≤ 100000000) (hne : text dec ts ≠ []) (hnd : text dec ts ≠ [46]) :
    Calls Tryf.prog 13 #[.string s] w (NameEnd (parseT ts) w) := by
  have q1 : (s.toList == [46]) = false := by rw [ByteArray.toList_eq, hs, beq_eq_false_iff_ne]; exact hnd
  have q2 : s.toList.isEmpty = false := by rw [ByteArray.toList_eq, hs]; simpa using hne
  have HS : Hid (s.data.toList = text dec ts) := hs
  have hall : (text dec ts).length = s.size := by rw [← hs]; exact Array.length_toList
  have hfirst := pst_new s w
  clear hs hne hnd
  go_enter Tryf.func13, Tryf.ntmps13
  go_wp2
  obtain ⟨wa, HWA⟩ : ∃ wa, wa = ((((w.alloc (.cells #[.string s] 9)).alloc (.cells #[.string ⟨#[]⟩] 29)).alloc (.cells #[.slice none 0 0] 26)).alloc (.cells #[.slice none 0 0] 26)) := ⟨_, rfl⟩
  rw [← HWA] at hfirst
  rw [← HWA]
  clear HWA
  obtain ⟨b, Hb⟩ : ∃ b, b = w.heap.size := ⟨_, rfl⟩
  rw [show w.heap.size + 1 + 1 + 1 = b + 3 by omega, show w.heap.size + 1 + 1 = b + 2 by omega, show w.heap.size + 1 = b + 1 by omega, ← Hb]
  rw [← Hb] at hfirst
  have HB : Hid (b = w.heap.size) := Hb
  clear Hb
  go_loopw [6, 8] (fun d i wq => ∃ (n : Nat) (wv lv : Value) (wir lab : Bytes) (dt : Bool), n ≤ ts.length ∧ i = .int .i64 (pos dec ts n) ∧ d = .bool dt ∧ runTo ts n = some (wir, lab, dt) ∧ PSt b s wv lv wir lab w wq ∧ wir.length + lab.length ≤ n) (fun _ i _ => s.size - (intOf i).toNat)
  case atStart => exact ⟨0, _, _, [], [], false, Nat.zero_le _, by simp [pos, text], rfl, by simp [runTo], hfirst, by simp⟩
  case round =>
    obtain ⟨n, wv, lv, wir, lab, dt, hn, rfl, rfl, hrun, hst, hlen⟩ := hrel
    have HR : Hid (runTo ts n = some (wir, lab, dt)) := hrun
    clear hrun hfirst
    have hcS := hst.cS
    have hpn := pos_ge dec ts n hn
    obtain ⟨p, Hp⟩ : ∃ p, p = pos dec ts n := ⟨_, rfl⟩
    rw [← Hp] at hpn
    rw [← Hp]
    have HP : Hid (p = pos dec ts n) := Hp
    by_cases hlt : n < ts.length
    · have hp1 := pos_lt dec ts n hlt
      have hp2 := pos_succ dec ts n hlt
      rw [← Hp, hall] at hp1
      rw [← Hp] at hp2
      have hat := at_tok dec ts n
      clear Hp
      have hrs := runTo_succ ts n hlt
      rw [HR.out] at hrs
      cases ht : ts[n] with
      | none =>
        rw [ht] at hp1 hp2 hrs
        simp only [tokB, List.length_cons, List.length_nil] at hp1 hp2
        have hps : p < s.size := by omega
        have hb0 : s[p].toNat = 46 := by rw [at_byte s dec ts n 0 p HS.out hlt [46] (by rw [ht]; rfl) (by simp) (by rw [HP.out]; rfl) hps]; rfl
        have Hrs : Hid (runTo ts (n + 1) = stepO (some (wir, lab, dt)) none) := hrs
        have Hp2 : Hid (pos dec ts (n + 1) = p + (0 + 1)) := hp2
        clear hrs hp2 hat ht
        by_cases hg0 : lab.length = 0
        · have hnone : parseT ts = none := by
            refine runTo_none ts (n + 1) ?_
            rw [Hrs.out]
            have : goodL lab = false := by simp [goodL]; omega
            simp [stepO, this]
          have HNo : Hid (parseT ts = none) := hnone
          clear hnone
          go_wp2_with (go_at_call 30; refine (end_empty F _ ?_ hst hg0).mono ?_; exact hF; rintro e w' ⟨⟨ae, rfl⟩, hst2⟩; have cR := hst2.cR; have fR := hst2.res.frozen 0)
          have cR2 : (w'.setCell ⟨b + 1, 0, none⟩ (.string ⟨#[]⟩)).cell? ⟨b + 1, 0, none⟩ = some (.string ⟨#[]⟩) := World.cell?_setCell_same _ _ _ cR
          exact bodyPost_ret (v := .tuple #[.agg #[.string ⟨#[]⟩], .iface 68 (.pointer (some ae))]) (by simp [results, Tryf.results13, go_sem, cR2]) rfl (fin_err hst2 HB.out HNo.out ae _)
        · by_cases hg1 : lab.length ≤ 63
          · have Hrel : Hid (runTo ts (n + 1) = some (endL wir lab, [], true)) := by
              unfold Hid
              rw [Hrs.out]
              have : goodL lab = true := by simp [goodL]; omega
              simp [stepO, this]
            go_wp2_with (go_at_call 30; refine (end_ok _ hst (by omega) hg1 (by omega)).mono ?_; rintro e w' ⟨rfl, wv', lv', hst2⟩)
            go_roundw
            case rel => exact ⟨n + 1, wv', lv', _, [], true, by omega, by rw [Hp2.out]; go_num, rfl, Hrel.out, hst2, by simp [endL]; omega⟩
            case measure => simp [intOf]; omega
          · have hnone : parseT ts = none := by
              refine runTo_none ts (n + 1) ?_
              rw [Hrs.out]
              have : goodL lab = false := by simp [goodL]; omega
              simp [stepO, this]
            have HNo : Hid (parseT ts = none) := hnone
            clear hnone
            go_wp2_with (go_at_call 30; refine (end_long F _ ?_ hst (by omega) (by omega)).mono ?_; exact hF; rintro e w' ⟨⟨ae, rfl⟩, hst2⟩; have cR := hst2.cR; have fR := hst2.res.frozen 0)
            have cR2 : (w'.setCell ⟨b + 1, 0, none⟩ (.string ⟨#[]⟩)).cell? ⟨b + 1, 0, none⟩ = some (.string ⟨#[]⟩) := World.cell?_setCell_same _ _ _ cR
            exact bodyPost_ret (v := .tuple #[.agg #[.string ⟨#[]⟩], .iface 68 (.pointer (some ae))]) (by simp [results, Tryf.results13, go_sem, cR2]) rfl (fin_err hst2 HB.out HNo.out ae _)
      | some c =>
        rw [ht] at hp1 hp2 hrs
        have hcL := hst.cL
        have hfL := hst.lb.frozen 0
        cases hpl : plainB c.toNat with
        | true =>
          have hes : esc dec c = [c] := by unfold esc; rw [if_pos hpl]
          simp only [tokB, hes, List.length_cons, List.length_nil] at hp1 hp2
          have hps : p < s.size := by omega
          have hb0 : s[p] = c := by rw [at_byte s dec ts n 0 p HS.out hlt [c] (by rw [ht]; exact hes) (by simp) (by rw [HP.out]; rfl) hps]; rfl
          have h46 : ((s[p].toNat : Int) == 46) = false := by rw [hb0]; exact plain_ne hpl 46 (by decide)
          have h92 : ((s[p].toNat : Int) == 92) = false := by rw [hb0]; exact plain_ne hpl 92 (by decide)
          have Hrs : Hid (runTo ts (n + 1) = some (wir, lab ++ [c], false)) := hrs
          have Hp2 : Hid (pos dec ts (n + 1) = p + (0 + 1)) := hp2
          have Hb0 : Hid (s[p] = c) := hb0
          clear hrs hp2 hat ht hb0 hpl hes
          go_wp2_with (at_builtin; refine app_lies rfl (.tmp 127) (.tmp 129) rfl (b + 4) lv lab rfl (hst.ol.alloc _) ⟨wr.heap.size, 0, none⟩ [s[p]] 1 1 rfl rfl (cellN _ _ _ rfl) (by omega) (by omega) (by have := hst.size; simp; omega) ?_)
          intro g cap w1 ho1 hg1 hat1 hlt1
          have HPs := pst_push hst hg1 ho1 (by simpa using hat1)
          rw [Hb0.out] at HPs
          have hk1 := push_below hst hg1
          have c3 : w1.cell? ⟨b + 3, 0, none⟩ = some lv := (hk1.cell (p := ⟨b + 3, 0, none⟩) (by simp)).trans hcL
          have f3 : w1.frozen? ⟨b + 3, 0, none⟩ = false := (hk1.frozen (p := ⟨b + 3, 0, none⟩) (by simp)).trans hfL
          clear hat1 hg1 hlt1 hk1 ho1
          go_wp2
          go_roundw
          case rel => exact ⟨n + 1, wv, _, wir, lab ++ [c], false, by omega, by rw [Hp2.out]; go_num, rfl, Hrs.out, HPs, by simp; omega⟩
          case measure => simp [intOf]; omega
        | false =>
          cases dec with
          | true =>
            have hes : esc true c = dec4L c := esc_dec c hpl
            have hcb : c.toNat < 256 := c.toNat_lt
            simp only [tokB, hes, dec4L, List.length_cons, List.length_nil] at hp1 hp2
            have hps : p < s.size := by omega
            have hp3 : p + 3 < s.size := by omega
            have hp4 : p + 1 < s.size := by omega
            have hp5 : p + 2 < s.size := by omega
            have hb0 : s[p].toNat = 92 := by rw [at_byte s true ts n 0 p HS.out hlt (dec4L c) (by rw [ht]; exact hes) (by simp [dec4L]) (by rw [HP.out]; rfl) hps]; rfl
            obtain ⟨x1, x2, x3, hx1, hx2, hx3, hxc, Hc1, Hc2, Hc3⟩ := dec_digits c s[p + 1] s[p + 2] s[p + 3]
              (at_byte s true ts n 1 (p + 1) HS.out hlt (dec4L c) (by rw [ht]; exact hes) (by simp [dec4L]) (by rw [HP.out]) (by omega))
              (at_byte s true ts n 2 (p + 2) HS.out hlt (dec4L c) (by rw [ht]; exact hes) (by simp [dec4L]) (by rw [HP.out]) (by omega))
              (at_byte s true ts n 3 (p + 3) HS.out hlt (dec4L c) (by rw [ht]; exact hes) (by simp [dec4L]) (by rw [HP.out]) (by omega))
            have Hrs : Hid (runTo ts (n + 1) = some (wir, lab ++ [c], false)) := hrs
            have Hp2 : Hid (pos true ts (n + 1) = p + (0 + 1 + 1 + 1 + 1)) := hp2
            clear hrs hp2 hat ht hpl hes
            have d1 : decide ((48 : Int) + (x1 : Int) ≤ 57) = true := by simp; omega
            have d2 : decide ((48 : Int) + (x2 : Int) ≤ 57) = true := by simp; omega
            have d3 : decide ((48 : Int) + (x3 : Int) ≤ 57) = true := by simp; omega
            go_wp2
            go_quiet (fail)
            have hst2 := hst.drewN nq
            obtain ⟨wd, HW⟩ : ∃ wd, wd = wr.drewN nq := ⟨_, rfl⟩
            rw [← HW] at hst2
            rw [← HW]
            clear HW hst hcS hcL hfL
            have hst := hst2
            have hcS := hst.cS
            have hcL := hst.cL
            have hfL := hst.lb.frozen 0
            clear hst2
            go_wp2_with (at_builtin; refine app_lies rfl (.tmp 127) (.tmp 129) rfl (b + 4) lv lab rfl (hst.ol.alloc _) ⟨wd.heap.size, 0, none⟩ [c] 1 1 rfl rfl (cellN _ _ _ (arr_dec _ _ _ _ hxc)) (by omega) (by omega) (by have := hst.size; simp; omega) ?_)
            intro g cap w1 ho1 hg1 hat1 hlt1
            have HPs := pst_push hst hg1 ho1 (by simpa using hat1)
            have hk1 := push_below hst hg1
            have c3 : w1.cell? ⟨b + 3, 0, none⟩ = some lv := (hk1.cell (p := ⟨b + 3, 0, none⟩) (by simp)).trans hcL
            have f3 : w1.frozen? ⟨b + 3, 0, none⟩ = false := (hk1.frozen (p := ⟨b + 3, 0, none⟩) (by simp)).trans hfL
            clear hat1 hg1 hlt1 hk1 ho1
            go_wp2
            go_roundw
            case rel => exact ⟨n + 1, wv, _, wir, lab ++ [c], false, by omega, by rw [Hp2.out]; go_num, rfl, Hrs.out, HPs, by simp; omega⟩
            case measure => simp [intOf]; omega
          | false =>
            have hes : esc false c = [92, c] := by unfold esc; rw [if_neg (by rw [hpl]; simp), if_neg (by simp)]
            simp only [tokB, hes, List.length_cons, List.length_nil] at hp1 hp2
            have hps : p < s.size := by omega
            have hp4 : p + 1 < s.size := by omega
            have hb0 : s[p].toNat = 92 := by rw [at_byte s false ts n 0 p HS.out hlt [92, c] (by rw [ht]; exact hes) (by simp) (by rw [HP.out]; rfl) hps]; rfl
            have hb1 : s[p + 1] = c := by rw [at_byte s false ts n 1 (p + 1) HS.out hlt [92, c] (by rw [ht]; exact hes) (by simp) (by rw [HP.out]) hp4]; rfl
            have hnd : s[p + 1].toNat < 48 ∨ 57 < s[p + 1].toNat := by rw [hb1]; simp [plainB] at hpl; omega
            have Hb1 : Hid (s[p + 1] = c) := hb1
            have Hrs : Hid (runTo ts (n + 1) = some (wir, lab ++ [c], false)) := hrs
            have Hp2 : Hid (pos false ts (n + 1) = p + (0 + 1 + 1)) := hp2
            clear hrs hp2 hat ht hpl hes hb1
            by_cases hp3 : p + 3 < s.size
            · go_wp2_with (first | (go_at_call 32; refine (digit_no _ _ hnd).mono ?_; rintro r w' ⟨rfl, rfl⟩) | (at_builtin; refine app_lies rfl (.tmp 127) (.tmp 129) rfl (b + 4) lv lab rfl (hst.ol.alloc _) ⟨wr.heap.size, 0, none⟩ [s[p + 1]] 1 1 rfl rfl (cellN _ _ _ rfl) (by omega) (by omega) (by have := hst.size; simp; omega) ?_))
              intro g cap w1 ho1 hg1 hat1 hlt1
              have HPs := pst_push hst hg1 ho1 (by simpa using hat1)
              rw [Hb1.out] at HPs
              have hk1 := push_below hst hg1
              have c3 : w1.cell? ⟨b + 3, 0, none⟩ = some lv := (hk1.cell (p := ⟨b + 3, 0, none⟩) (by simp)).trans hcL
              have f3 : w1.frozen? ⟨b + 3, 0, none⟩ = false := (hk1.frozen (p := ⟨b + 3, 0, none⟩) (by simp)).trans hfL
              clear hat1 hg1 hlt1 hk1 ho1
              go_wp2
              go_roundw
              case rel => exact ⟨n + 1, wv, _, wir, lab ++ [c], false, by omega, by rw [Hp2.out]; go_num, rfl, Hrs.out, HPs, by simp; omega⟩
              case measure => simp [intOf]; omega
            · clear hnd
              go_wp2_with (at_builtin; refine app_lies rfl (.tmp 127) (.tmp 129) rfl (b + 4) lv lab rfl (hst.ol.alloc _) ⟨wr.heap.size, 0, none⟩ [s[p + 1]] 1 1 rfl rfl (cellN _ _ _ rfl) (by omega) (by omega) (by have := hst.size; simp; omega) ?_)
              intro g cap w1 ho1 hg1 hat1 hlt1
              have HPs := pst_push hst hg1 ho1 (by simpa using hat1)
              rw [Hb1.out] at HPs
              have hk1 := push_below hst hg1
              have c3 : w1.cell? ⟨b + 3, 0, none⟩ = some lv := (hk1.cell (p := ⟨b + 3, 0, none⟩) (by simp)).trans hcL
              have f3 : w1.frozen? ⟨b + 3, 0, none⟩ = false := (hk1.frozen (p := ⟨b + 3, 0, none⟩) (by simp)).trans hfL
              clear hat1 hg1 hlt1 hk1 ho1
              go_wp2
              go_roundw
              case rel => exact ⟨n + 1, wv, _, wir, lab ++ [c], false, by omega, by rw [Hp2.out]; go_num, rfl, Hrs.out, HPs, by simp; omega⟩
              case measure => simp [intOf]; omega
    · have hnl : ts.length = n := by omega
      have hps : s.size = p := by rw [HP.out, ← hnl, pos_all, hall]
      have hfin : parseT ts = finO (wir, lab, dt) := by unfold parseT; rw [hnl, HR.out]; rfl
      have HFI : Hid (parseT ts = finO (wir, lab, dt)) := hfin
      clear hfin hall Hp
      cases dt with
      | true =>
        obtain ⟨ao, capw, hvw⟩ := hst.ow.shape
        have cW := hst.cW
        have hconv := hst.ow.asStr
        have cS2 := hst.cS
        have cR := hst.cR
        have fR := hst.res.frozen 0
        rw [hvw] at cW hconv
        have HVW : Hid (wv = .slice ao (wir).length capw) := hvw
        clear hvw
        have hmx : (wir).length ≤ 200000000 := by omega
        obtain ⟨m, Hm⟩ : ∃ m, m = (wir).length := ⟨_, rfl⟩
        rw [← Hm] at cW hconv hmx
        have HM : Hid (m = (wir).length) := Hm
        clear Hm
        by_cases h255 : m + 1 ≤ 255
        · have hpt : Hid (parseT ts = some (wir)) := by
            unfold Hid; rw [HFI.out]; simp only [finO, if_true]; rw [if_pos (by rw [← HM.out]; exact h255)]
          go_wp2
          have cR2 : (wr.setCell ⟨b + 1, 0, none⟩ (.string ⟨(wir).toArray⟩)).cell? ⟨b + 1, 0, none⟩ = some (.string ⟨(wir).toArray⟩) := World.cell?_setCell_same _ _ _ cR
          exact bodyPost_ret (v := .tuple #[.agg #[.string ⟨(wir).toArray⟩], .nilIface]) (by simp [results, Tryf.results13, go_sem, cR2]) rfl (fin_ok hst HB.out hpt.out)
        · have hpt : Hid (parseT ts = none) := by
            unfold Hid; rw [HFI.out]; simp only [finO, if_true]; rw [if_neg (by rw [← HM.out]; exact h255)]
          have hF2 : F.answers wr.tape := by rw [hst.bel.tape]; exact hF
          have HST : Hid (PSt b s wv lv (wir) lab w wr) := hst
          go_wp2_with (go_at_call 31; refine (errorf_name F wr.heap.size s 255 _ ?_ ?_ ?_).mono ?_; exact hF2; (go_simp); (go_simp); rintro e w8 ⟨⟨ae, rfl⟩, hb8⟩; have hst8 := HST.out.below (((Below.refl _ wr).alloc (Nat.le_refl _) _).trans (hb8.mono (by simp))); have cR8 := hst8.cR; have fR8 := hst8.res.frozen 0)
          have cR2 : (w8.setCell ⟨b + 1, 0, none⟩ (.string ⟨#[]⟩)).cell? ⟨b + 1, 0, none⟩ = some (.string ⟨#[]⟩) := World.cell?_setCell_same _ _ _ cR8
          exact bodyPost_ret (v := .tuple #[.agg #[.string ⟨#[]⟩], .iface 68 (.pointer (some ae))]) (by simp [results, Tryf.results13, go_sem, cR2]) rfl (fin_err hst8 HB.out hpt.out ae _)
      | false =>
        by_cases hg0 : lab.length = 0
        · have HNo : Hid (parseT ts = none) := by
            have : goodL lab = false := by simp [goodL]; omega
            unfold Hid; rw [HFI.out]; simp [finO, this]
          go_wp2_with (go_at_call 30; refine (end_empty F _ ?_ hst hg0).mono ?_; exact hF; rintro e w' ⟨⟨ae, rfl⟩, hst2⟩; have cR := hst2.cR; have fR := hst2.res.frozen 0)
          have cR2 : (w'.setCell ⟨b + 1, 0, none⟩ (.string ⟨#[]⟩)).cell? ⟨b + 1, 0, none⟩ = some (.string ⟨#[]⟩) := World.cell?_setCell_same _ _ _ cR
          exact bodyPost_ret (v := .tuple #[.agg #[.string ⟨#[]⟩], .iface 68 (.pointer (some ae))]) (by simp [results, Tryf.results13, go_sem, cR2]) rfl (fin_err hst2 HB.out HNo.out ae _)
        · by_cases hg1 : lab.length ≤ 63
          · have hgood : Hid (goodL lab = true) := by show goodL lab = true; simp [goodL]; omega
            go_wp2_with fail
            refine (end_ok _ hst (by omega) hg1 (by omega)).mono ?_
            rintro e w' ⟨rfl, wv', lv', hst2⟩
            have hlw : (endL wir lab).length ≤ wir.length + lab.length + 1 := by simp [endL]; omega
            clear hst hcS
            obtain ⟨ao, capw, hvw⟩ := hst2.ow.shape
            have cW := hst2.cW
            have hconv := hst2.ow.asStr
            have cS2 := hst2.cS
            have cR := hst2.cR
            have fR := hst2.res.frozen 0
            rw [hvw] at cW hconv
            have HVW : Hid (wv' = .slice ao (endL wir lab).length capw) := hvw
            clear hvw
            have hmx : (endL wir lab).length ≤ 200000000 := by omega
            obtain ⟨m, Hm⟩ : ∃ m, m = (endL wir lab).length := ⟨_, rfl⟩
            rw [← Hm] at cW hconv hmx
            have HM : Hid (m = (endL wir lab).length) := Hm
            clear Hm
            by_cases h255 : m + 1 ≤ 255
            · have hpt : Hid (parseT ts = some (endL wir lab)) := by
                unfold Hid; rw [HFI.out]; simp only [finO, Bool.false_eq_true, if_false, hgood.out, if_true]; rw [if_pos (by rw [← HM.out]; exact h255)]
              go_wp2
              have cR2 : (w'.setCell ⟨b + 1, 0, none⟩ (.string ⟨(endL wir lab).toArray⟩)).cell? ⟨b + 1, 0, none⟩ = some (.string ⟨(endL wir lab).toArray⟩) := World.cell?_setCell_same _ _ _ cR
              exact bodyPost_ret (v := .tuple #[.agg #[.string ⟨(endL wir lab).toArray⟩], .nilIface]) (by simp [results, Tryf.results13, go_sem, cR2]) rfl (fin_ok hst2 HB.out hpt.out)
            · have hpt : Hid (parseT ts = none) := by
                unfold Hid; rw [HFI.out]; simp only [finO, Bool.false_eq_true, if_false, hgood.out, if_true]; rw [if_neg (by rw [← HM.out]; exact h255)]
              have hF2 : F.answers w'.tape := by rw [hst2.bel.tape]; exact hF
              have HST : Hid (PSt b s wv' lv' (endL wir lab) [] w w') := hst2
              go_wp2_with (go_at_call 31; refine (errorf_name F w'.heap.size s 255 _ ?_ ?_ ?_).mono ?_; exact hF2; (go_simp); (go_simp); rintro e w8 ⟨⟨ae, rfl⟩, hb8⟩; have hst8 := HST.out.below (((Below.refl _ w').alloc (Nat.le_refl _) _).trans (hb8.mono (by simp))); have cR8 := hst8.cR; have fR8 := hst8.res.frozen 0)
              have cR2 : (w8.setCell ⟨b + 1, 0, none⟩ (.string ⟨#[]⟩)).cell? ⟨b + 1, 0, none⟩ = some (.string ⟨#[]⟩) := World.cell?_setCell_same _ _ _ cR8
              exact bodyPost_ret (v := .tuple #[.agg #[.string ⟨#[]⟩], .iface 68 (.pointer (some ae))]) (by simp [results, Tryf.results13, go_sem, cR2]) rfl (fin_err hst8 HB.out hpt.out ae _)
          · have HNo : Hid (parseT ts = none) := by
              have : goodL lab = false := by simp [goodL]; omega
              unfold Hid; rw [HFI.out]; simp [finO, this]
            go_wp2_with (go_at_call 30; refine (end_long F _ ?_ hst (by omega) (by omega)).mono ?_; exact hF; rintro e w' ⟨⟨ae, rfl⟩, hst2⟩; have cR := hst2.cR; have fR := hst2.res.frozen 0)
            have cR2 : (w'.setCell ⟨b + 1, 0, none⟩ (.string ⟨#[]⟩)).cell? ⟨b + 1, 0, none⟩ = some (.string ⟨#[]⟩) := World.cell?_setCell_same _ _ _ cR
            exact bodyPost_ret (v := .tuple #[.agg #[.string ⟨#[]⟩], .iface 68 (.pointer (some ae))]) (by simp [results, Tryf.results13, go_sem, cR2]) rfl (fin_err hst2 HB.out HNo.out ae _)

end Go.Proofs.Qxb6002376aFmt
