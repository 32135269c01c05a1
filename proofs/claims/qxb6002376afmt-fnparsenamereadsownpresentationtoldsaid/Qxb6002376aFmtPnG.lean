import Derived.Test.Qxb6002376aFmtPnF
namespace Go.Proofs.Qxb6002376aFmt
open Go.RowKit Go.Extern.Stop Go.Stop Go.Extern
set_option linter.unusedVariables false
set_option linter.unusedSimpArgs false

set_option maxRecDepth 100000 in
set_option maxHeartbeats 2000000 in
theorem law_nil (dec tb : Bool) (w : World) : Calls Tryf.prog 3 #[.slice none 0 0, .bool dec, .bool tb] w (TrueEnd w) := by
  go_enter Tryf.func3, Tryf.ntmps3
  go_wp2_with fail
  refine (texts_bytes_nil dec tb w).mono ?_
  rintro r w' ⟨rfl, rfl⟩
  go_wp2_with fail
  refine (count_nil w).mono ?_
  rintro r w' ⟨rfl, rfl⟩
  go_wp2_with fail
  refine (clone_nil w).mono ?_
  rintro r w' ⟨rfl, rfl⟩
  go_wp2_with (at_builtin; refine app_bytes _ rfl (.tmp 41) (.tmp 42) rfl w.heap.size _ [] rfl ((Own.nil w _).alloc _) ⟨w.heap.size, 0, none⟩ [46] 1 1 rfl rfl (cellN _ _ _ rfl) (by simp) (by simp) ?_)
  intro pv w3 hown3 hg3
  have hb3 : Below w.heap.size w w3 := ((Own.nil w w.heap.size).alloc _).grown hg3 (by simp) ((Below.refl _ _).alloc (Nat.le_refl _) _)
  have hconvP : (convert 26 9 pv).run Tryf.prog w3 = .ok (.string ⟨#[46]⟩) w3 := hown3.asStr
  clear hg3 hown3
  go_wp2
  refine wp_loop_rounds 1 ?_
  rw [rounds_succ]
  go_wp2_with fail
  refine (parse_root w3).mono ?_
  rintro r w5 ⟨⟨t, rfl, htw⟩, hb5⟩
  obtain rfl : t = ⟨#[]⟩ := by
    cases t with
    | mk d => simp at htw; rw [htw]
  clear htw hconvP
  go_wp2
  obtain ⟨w6, Hw6⟩ : ∃ w6, w6 = w5.alloc (.cells #[.string ⟨#[]⟩] 29) := ⟨_, rfl⟩
  obtain ⟨g, Hg⟩ : ∃ g, g = w5.heap.size := ⟨_, rfl⟩
  have hc6 : w6.cell? ⟨g, 0, none⟩ = some (.string ⟨#[]⟩) := by
    rw [Hw6, Hg]
    have hr : Row (w5.alloc (.cells #[.string ⟨#[]⟩] 29)) w5.heap.size 29 [.string ⟨#[]⟩] := heap_alloc_new w5 _
    rw [hr.cell]; rfl
  have hb6 : Below w.heap.size w w6 := by rw [Hw6]; exact (hb3.trans (hb5.mono hb3.size)).alloc (Nat.le_trans hb3.size hb5.size) _
  rw [← Hw6, ← Hg]
  clear Hw6 Hg hb5 hb3
  have hv : ∀ w9 : World, (convert 26 9 (.slice none 0 0)).run Tryf.prog w9 = .ok (.string ⟨#[]⟩) w9 := fun w9 => (Own.nil w9 0).asStr
  go_region_with (go_at_call 14; refine (namewire ⟨#[]⟩ _).mono ?_; rintro r w7 ⟨rfl, hb7⟩)
  all_goals
    go_wp2
    go_ret
    exact ⟨rfl, hb6.drew.trans (hb7.mono hb6.size)⟩

set_option maxRecDepth 100000 in
set_option maxHeartbeats 2000000 in
theorem law_zero (a : Addr) (cap : Nat) (dec tb : Bool) (w : World) : Calls Tryf.prog 3 #[.slice (some a) 0 cap, .bool dec, .bool tb] w (TrueEnd w) := by
  go_enter Tryf.func3, Tryf.ntmps3
  go_wp2_with fail
  refine (texts_bytes dec tb a 0 cap (fun _ => ⟨#[]⟩) w (by decide) (fun k hk => by omega) (fun k hk => by omega)).mono ?_
  rintro r w' ⟨⟨t, rfl, ht⟩, hw'⟩
  obtain rfl : w = w' := hw'.symm
  clear hw' ht
  rcases t with _ | _
  · go_wp2
    go_ret
    exact ⟨rfl, Below.refl _ _⟩
  go_wp2_with fail
  refine (count_bytes a 0 cap (fun _ => ⟨#[]⟩) w (by decide) (fun k hk => by omega) (fun k hk => by omega)).mono ?_
  rintro r w' ⟨⟨cn, rfl, hcn⟩, rfl⟩
  clear hcn
  by_cases hcs : cn ≤ 65536
  case neg =>
    go_wp2
    go_ret
    exact ⟨rfl, Below.refl _ _⟩
  go_wp2_with fail
  refine (clone_some a 0 cap (fun _ => ⟨#[]⟩) w (by decide) (fun k hk => by omega)).mono ?_
  rintro r w1 ⟨rfl, hcell, hlt0, hbel⟩
  clear hcell hcs
  go_wp2_with (at_builtin; refine app_bytes _ rfl (.tmp 41) (.tmp 42) rfl w1.heap.size _ [] rfl ((Own.nil w1 _).alloc _) ⟨w1.heap.size, 0, none⟩ [46] 1 1 rfl rfl (cellN _ _ _ rfl) (by simp) (by simp) ?_)
  intro pv w3 hown3 hg3
  have hb3 : Below w1.heap.size w1 w3 := ((Own.nil w1 w1.heap.size).alloc _).grown hg3 (by simp) ((Below.refl _ _).alloc (Nat.le_refl _) _)
  have hconvP : (convert 26 9 pv).run Tryf.prog w3 = .ok (.string ⟨#[46]⟩) w3 := hown3.asStr
  clear hg3 hown3
  go_wp2
  refine wp_loop_rounds 1 ?_
  rw [rounds_succ]
  go_wp2_with fail
  refine (parse_root w3).mono ?_
  rintro r w5 ⟨⟨t, rfl, htw⟩, hb5⟩
  obtain rfl : t = ⟨#[]⟩ := by
    cases t with
    | mk d => simp at htw; rw [htw]
  clear htw hconvP
  go_wp2
  obtain ⟨w6, Hw6⟩ : ∃ w6, w6 = w5.alloc (.cells #[.string ⟨#[]⟩] 29) := ⟨_, rfl⟩
  obtain ⟨g, Hg⟩ : ∃ g, g = w5.heap.size := ⟨_, rfl⟩
  have hc6 : w6.cell? ⟨g, 0, none⟩ = some (.string ⟨#[]⟩) := by
    rw [Hw6, Hg]
    have hr : Row (w5.alloc (.cells #[.string ⟨#[]⟩] 29)) w5.heap.size 29 [.string ⟨#[]⟩] := heap_alloc_new w5 _
    rw [hr.cell]; rfl
  have hb6 : Below w1.heap.size w1 w6 := by rw [Hw6]; exact (hb3.trans (hb5.mono hb3.size)).alloc (Nat.le_trans hb3.size hb5.size) _
  rw [← Hw6, ← Hg]
  clear Hw6 Hg hb5 hb3
  have hv : ∀ w9 : World, (convert 26 9 (.slice none 0 0)).run Tryf.prog w9 = .ok (.string ⟨#[]⟩) w9 := fun w9 => (Own.nil w9 0).asStr
  go_region_with (go_at_call 14; refine (namewire ⟨#[]⟩ _).mono ?_; rintro r w7 ⟨rfl, hb7⟩)
  all_goals
    go_wp2
    go_ret
    exact ⟨rfl, hbel.trans ((hb6.drew.trans (hb7.mono hb6.size)).mono (by omega))⟩

end Go.Proofs.Qxb6002376aFmt
