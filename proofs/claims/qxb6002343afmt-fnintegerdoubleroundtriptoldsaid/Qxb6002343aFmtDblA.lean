import Derived.Test.Qxb6002343aFmtFacts
import Derived.Test.Qxb6002343aFmtFlD
import Derived.WalkKit
import Derived.WalkSpells
import Derived.WalkLawsBesides
import Derived.Laws.FloatArith
import GoSem.Extern.MathFloor
namespace Go.Proofs.Qxb6002343aFmt
open Go.RowKit Go.Extern.Stop Go.Stop Go.Extern
set_option linter.unusedVariables false
set_option linter.unusedSimpArgs false

@[go_sem] theorem call34 (args : Array Value) (w : World) : (callFunc 34 args).run Tryf.prog w = ((MathFloor.toIntegral "math.archTrunc" .zero args).run Tryf.prog w).andThen fun v w' => .ok (.value v) w' :=
  run_callFunc_extern Tryf.func34 (by kernel_rfl) (by kernel_rfl) (by kernel_rfl) (by kernel_rfl) args w

theorem nan_core (q : Question) (x y : Nat) {s : Bool} {t u : Nat} (hx : Ieee.double.read x = .nan s t) (hy : Ieee.double.read y = .nan s u) (w : World) :
    ∃ z w' u, ((do let kept ← choose q; pure (.float .f64 (if kept == 1 then x else y))) : Sem Value).run Tryf.prog w = .ok (.float .f64 z) w' ∧ Ieee.double.read z = .nan s u ∧ (w' = w ∨ w' = w.drew) := by
  have hz : ∀ n : Nat, ∃ u, Ieee.double.read (if n == 1 then x else y) = .nan s u := fun n => by
    by_cases hn : n = 1
    · exact ⟨t, by simp [hn, hx]⟩
    · exact ⟨u, by simp [hn, hy]⟩
  by_cases hf : q.forced = true
  · obtain ⟨v, hv⟩ := hz 0
    exact ⟨_, w, v, by simp [hf], hv, Or.inl rfl⟩
  · obtain ⟨v, hv⟩ := hz (q.cut (w.tape w.drawn q))
    exact ⟨_, w.drew, v, by simp [hf], hv, Or.inr rfl⟩

theorem toIntegral_shape (x : Nat) : ∃ q : Question, MathFloor.toIntegral "math.archTrunc" .zero #[.float .f64 x] =
    (match FloatKind.f64.decode x with
    | .nan s t => if FloatKind.f64.format.quiet t = t then pure (.float .f64 x) else do
        let kept ← choose q
        pure (.float .f64 (if kept == 1 then x else FloatKind.f64.encode (.nan s (FloatKind.f64.format.quiet t))))
    | d => pure (.float .f64 (FloatKind.f64.encode (d.integral .zero)))) := ⟨_, rfl⟩

/-- The word of the whole part. -/
def wordOf (s : Bool) (m : Nat) (i : Int) : Nat := Ieee.double.nearest s (Fl.av m i / Fl.U) 0

theorem run_trunc_num {x : Nat} {s : Bool} {m : Nat} {i : Int} (h : Ieee.double.read x = .number s m i) (w : World) :
    (MathFloor.toIntegral "math.archTrunc" .zero #[.float .f64 x]).run Tryf.prog w = .ok (.float .f64 (wordOf s m i)) w := by
  have hd : FloatKind.f64.decode x = .number s m i := h
  have hi : (Ieee.Datum.number s m i).integral .zero = .number s (Fl.av m i / Fl.U) 0 := Fl.integral_num s m i (Fl.read_number h).1
  have he : FloatKind.f64.encode (.number s (Fl.av m i / Fl.U) 0) = wordOf s m i := rfl
  obtain ⟨q, hq⟩ := toIntegral_shape x
  rw [hq, hd]
  simp [hi, he]

theorem run_trunc_inf {x : Nat} {s : Bool} (h : Ieee.double.read x = .infinity s) (w : World) :
    (MathFloor.toIntegral "math.archTrunc" .zero #[.float .f64 x]).run Tryf.prog w = .ok (.float .f64 (Ieee.double.write (.infinity s))) w := by
  have hd : FloatKind.f64.decode x = .infinity s := h
  have hi : (Ieee.Datum.infinity s).integral .zero = .infinity s := rfl
  have he : FloatKind.f64.encode (.infinity s) = Ieee.double.write (.infinity s) := rfl
  obtain ⟨q, hq⟩ := toIntegral_shape x
  rw [hq, hd]
  simp [hi, he]

/-- Of a NaN some NaN comes back; the world has at most drawn. -/
theorem run_trunc_nan {x t : Nat} {s : Bool} (h : Ieee.double.read x = .nan s t) (w : World) :
    ∃ z w' u, (MathFloor.toIntegral "math.archTrunc" .zero #[.float .f64 x]).run Tryf.prog w = .ok (.float .f64 z) w' ∧ Ieee.double.read z = .nan s u ∧ (w' = w ∨ w' = w.drew) := by
  have hd : FloatKind.f64.decode x = .nan s t := h
  obtain ⟨t', ht'⟩ := Fl.read_quiet h
  by_cases hq : FloatKind.f64.format.quiet t = t
  · refine ⟨x, w, t, ?_, h, Or.inl rfl⟩
    obtain ⟨q, hs⟩ := toIntegral_shape x
    rw [hs, hd]
    simp [hq]
  · obtain ⟨q, hs⟩ := toIntegral_shape x
    rw [hs, hd]
    dsimp only
    rw [if_neg hq]
    exact nan_core q x _ h ht' w

theorem trunc_num {x : Nat} {s : Bool} {m : Nat} {i : Int} (h : Ieee.double.read x = .number s m i) (w : World) :
    Calls Tryf.prog 30 #[.float .f64 x] w fun r w' => r = .returned (.float .f64 (wordOf s m i)) ∧ w' = w := by
  have hr := fun w => run_trunc_num h w
  go_enter Tryf.func30, Tryf.ntmps30
  go_wp2
  go_ret
  exact ⟨rfl, rfl⟩

theorem trunc_inf {x : Nat} {s : Bool} (h : Ieee.double.read x = .infinity s) (w : World) :
    Calls Tryf.prog 30 #[.float .f64 x] w fun r w' => r = .returned (.float .f64 (Ieee.double.write (.infinity s))) ∧ w' = w := by
  have hr := fun w => run_trunc_inf h w
  go_enter Tryf.func30, Tryf.ntmps30
  go_wp2
  go_ret
  exact ⟨rfl, rfl⟩

end Go.Proofs.Qxb6002343aFmt
