import Derived.Test.Qxb6002369aFmtFacts
import Derived.Test.Qxb6002369aFmtKit
import Derived.WalkKit
import Derived.WalkSpells
import Derived.WalkLawsBesides
import Derived.BigQuiet
import Derived.Deep.RegionWith
namespace Go.Proofs.Qxb6002369aFmt
open Go.RowKit Go.Extern.Stop Go.Stop Go.Extern
set_option linter.unusedVariables false
set_option linter.unusedSimpArgs false

/-- The room lies in block b of w'; nothing below it has turned since w. -/
structure Room (b : Nat) (limit taken : Int) (w w' : World) : Prop where
  room : Row w' b 32 [.int .i64 limit, .int .i64 taken]
  bel : Below b w w'

theorem Room.cLimit {b : Nat} {limit taken : Int} {w w' : World} (h : Room b limit taken w w') : w'.cell? ⟨b, 0, none⟩ = some (.int .i64 limit) := by rw [h.room.cell]; rfl
theorem Room.cTaken {b : Nat} {limit taken : Int} {w w' : World} (h : Room b limit taken w w') : w'.cell? ⟨b, 1, none⟩ = some (.int .i64 taken) := by rw [h.room.cell]; rfl
theorem Room.free {b : Nat} {limit taken : Int} {w w' : World} (h : Room b limit taken w w') : w'.frozen? ⟨b, 1, none⟩ = false := h.room.frozen 1
theorem Room.drewN {b : Nat} {limit taken : Int} {w w' : World} (h : Room b limit taken w w') (n : Nat) : Room b limit taken w (w'.drewN n) := ⟨h.room, below_drewN h.bel n⟩
theorem Room.below {b : Nat} {limit taken : Int} {w w' w2 : World} (h : Room b limit taken w w') (hb : Below w'.heap.size w' w2) : Room b limit taken w w2 :=
  ⟨h.room.below hb h.room.lt, h.bel.trans (hb.mono (by have := h.room.lt; omega))⟩
theorem Room.set {b : Nat} {limit taken : Int} {w w' : World} (h : Room b limit taken w w') (s : Int) : Room b limit s w (w'.setCell ⟨b, 1, none⟩ (.int .i64 s)) :=
  ⟨by have := h.room.setSame 1 (.int .i64 s); simpa using this, h.bel.setCell (Nat.le_refl _) _⟩
theorem room_new (w : World) (limit : Int) : Room w.heap.size limit 0 w (w.alloc (.cells #[.int .i64 limit, .int .i64 0] 32)) :=
  ⟨heap_alloc_new w _, (Below.refl _ _).alloc (Nat.le_refl _) _⟩

def RoomEnd (v : Value) (b : Nat) (limit taken : Int) (w : World) (r : Ending) (w' : World) : Prop := r = .returned v ∧ Room b limit taken w w'
def RoomErr (b : Nat) (limit taken : Int) (w : World) (r : Ending) (w' : World) : Prop := (∃ a, r = .returned (.iface 38 (.pointer (some a)))) ∧ Room b limit taken w w'

theorem errorf_room (F : Interp) (g : Nat) (x y : Int) (w : World) (hF : F.answers w.tape) (c0 : w.cell? ⟨g, 0, none⟩ = some (.iface 3 (.int .i64 x))) (c1 : w.cell? ⟨g, 1, none⟩ = some (.iface 3 (.int .i64 y))) :
    Calls Tryf.prog 10 #[.string ⟨#[114, 101, 103, 117, 108, 97, 114, 32, 101, 120, 112, 114, 101, 115, 115, 105, 111, 110, 115, 32, 111, 102, 32, 115, 105, 122, 101, 32, 37, 100, 32, 105, 110, 32, 97, 108, 108, 44, 32, 112, 97, 115, 116, 32, 116, 104, 101, 32, 108, 105, 109, 105, 116, 32, 111, 102, 32, 37, 100]⟩, .slice (some ⟨g, 0, none⟩) 2 2] w
      fun r w' => (∃ a, r = .returned (.iface 38 (.pointer (some a)))) ∧ Below w.heap.size w w' := by
  have hF' := answers_open hF
  go_enter Tryf.func10, Tryf.ntmps10
  go_wp2
  go_ret
  exact ⟨⟨_, rfl⟩, by repeat (first | exact Below.refl _ _ | exact Nat.le_refl _ | apply Below.drew | apply Below.alloc)⟩

theorem take_yes {b : Nat} {limit taken : Int} {w0 : World} (c : Int) (w : World) (h : Room b limit taken w0 w) (h0 : 0 ≤ limit) (h1 : limit ≤ 1000000000000) (h2 : 0 ≤ taken) (h3 : taken ≤ limit) (h4 : 0 ≤ c) (h5 : c ≤ limit - taken) :
    Calls Tryf.prog 9 #[.pointer (some ⟨b, 0, none⟩), .int .i64 c] w (RoomEnd .nilIface b limit (taken + c) w0) := by
  have e1 := h.cLimit
  have e2 := h.cTaken
  have e3 := h.free
  go_enter Tryf.func9, Tryf.ntmps9
  go_wp2
  go_quiet (fail)
  go_wp2
  go_ret
  exact ⟨rfl, by first | exact (h.drewN _).set _ | exact (h.set _).drewN _⟩

set_option maxHeartbeats 1000000 in
theorem take_no {b : Nat} {limit taken : Int} {w0 : World} (F : Interp) (c : Int) (w : World) (hF : F.answers w0.tape) (h : Room b limit taken w0 w) (h0 : 0 ≤ limit) (h1 : limit ≤ 1000000000000) (h2 : 0 ≤ taken) (h3 : taken ≤ limit) (h4 : c ≤ 1000000000000) (h5 : limit - taken < c) :
    Calls Tryf.prog 9 #[.pointer (some ⟨b, 0, none⟩), .int .i64 c] w (RoomErr b limit taken w0) := by
  have e1 := h.cLimit
  have e2 := h.cTaken
  go_enter Tryf.func9, Tryf.ntmps9
  go_wp2
  go_quiet (fail)
  go_wp2
  have hF1 : F.answers w.tape := by rw [h.bel.tape]; exact hF
  have hb := h.drewN nq
  obtain ⟨w1, HW⟩ : ∃ w1, w1 = w.drewN nq := ⟨_, rfl⟩
  rw [← HW] at hb
  rw [← HW]
  have hF2 : F.answers w1.tape := by rw [hb.bel.tape]; exact hF
  clear HW e1 e2 h hF1
  have e1 := hb.cLimit
  have e2 := hb.cTaken
  go_region_with (go_at_call 10; refine (errorf_room F w1.heap.size (IntKind.i64.wrap (taken + c)) limit _ ?_ ?_ ?_).mono ?_; exact hF2; (go_simp); (go_simp); rintro e w' ⟨⟨ae, rfl⟩, hb2⟩)
  all_goals
    go_wp2
    go_ret
    exact ⟨⟨_, rfl⟩, hb.below ((((Below.refl _ w1).alloc (Nat.le_refl _) _).drew).trans (hb2.mono (by simp)))⟩

theorem zztake_yes {b : Nat} {limit taken : Int} {w0 : World} (c : Int) (w : World) (h : Room b limit taken w0 w) (h0 : 0 ≤ limit) (h1 : limit ≤ 1000000000000) (h2 : 0 ≤ taken) (h3 : taken ≤ limit) (h4 : 0 ≤ c) (h5 : c ≤ limit - taken) :
    Calls Tryf.prog 7 #[.pointer (some ⟨b, 0, none⟩), .int .i64 c] w (RoomEnd .nilIface b limit (taken + c) w0) := by
  go_enter Tryf.func7, Tryf.ntmps7
  go_wp2_with fail
  refine (take_yes c w h h0 h1 h2 h3 h4 h5).mono ?_
  rintro r w1 ⟨rfl, hb⟩
  go_wp2
  go_ret
  exact ⟨rfl, hb⟩

theorem zztake_no {b : Nat} {limit taken : Int} {w0 : World} (F : Interp) (c : Int) (w : World) (hF : F.answers w0.tape) (h : Room b limit taken w0 w) (h0 : 0 ≤ limit) (h1 : limit ≤ 1000000000000) (h2 : 0 ≤ taken) (h3 : taken ≤ limit) (h4 : c ≤ 1000000000000) (h5 : limit - taken < c) :
    Calls Tryf.prog 7 #[.pointer (some ⟨b, 0, none⟩), .int .i64 c] w (RoomErr b limit taken w0) := by
  go_enter Tryf.func7, Tryf.ntmps7
  go_wp2_with fail
  refine (take_no F c w hF h h0 h1 h2 h3 h4 h5).mono ?_
  rintro r w1 ⟨⟨ae, rfl⟩, hb⟩
  go_wp2
  go_ret
  exact ⟨⟨_, rfl⟩, hb⟩

theorem zztaken {b : Nat} {limit taken : Int} {w0 : World} (w : World) (h : Room b limit taken w0 w) : Calls Tryf.prog 8 #[.pointer (some ⟨b, 0, none⟩)] w fun r w' => r = .returned (.int .i64 taken) ∧ w = w' := by
  have e := h.cTaken
  go_enter Tryf.func8, Tryf.ntmps8
  go_wp2
  go_ret
  exact ⟨rfl, rfl⟩

theorem zznew (x : Int) (w : World) : Calls Tryf.prog 6 #[.int .i64 x] w fun r w' => r = .returned (.pointer (some ⟨w.heap.size, 0, none⟩)) ∧ w' = w.alloc (.cells #[.int .i64 x, .int .i64 0] 32) := by
  go_enter Tryf.func6, Tryf.ntmps6
  go_wp2
  go_ret
  exact ⟨rfl, rfl⟩

def Tells (p : Prop) (w : World) (r : Ending) (w' : World) : Prop := (∃ t : Bool, r = .returned (.bool t) ∧ (t = true → p)) ∧ w' = w
def Short (len : Nat) : Prop := len ≤ 1048576

theorem sizes_bytes (x : Int) (ao : Option Addr) (len cap : Nat) (w : World) (hlen : len ≤ maxLen) :
    Calls Tryf.prog 5 #[.int .i64 x, .slice ao len cap] w (Tells (Short len) w) := by
  unfold maxLen at hlen
  by_cases hb : len ≤ 1048576
  · go_enter Tryf.func5, Tryf.ntmps5
    go_wp2
    go_ret
    exact ⟨⟨true, rfl, fun _ => hb⟩, rfl⟩
  · go_enter Tryf.func5, Tryf.ntmps5
    go_wp2
    go_ret
    exact ⟨⟨false, rfl, fun h => by cases h⟩, rfl⟩

end Go.Proofs.Qxb6002369aFmt
