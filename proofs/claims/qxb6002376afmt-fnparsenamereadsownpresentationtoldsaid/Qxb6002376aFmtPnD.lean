import Derived.Test.Qxb6002376aFmtPnC
import Derived.Laws.BytesArg
namespace Go.Proofs.Qxb6002376aFmt
open Go.RowKit Go.Extern.Stop Go.Stop Go.Extern
set_option linter.unusedVariables false
set_option linter.unusedSimpArgs false

/-- endLabel refuses; the reader stands as it stood. -/
def EndErr (b : Nat) (s : ByteArray) (wv lv : Value) (wir lab : Bytes) (w : World) (r : Ending) (w' : World) : Prop :=
  (∃ a, r = .returned (.iface 68 (.pointer (some a)))) ∧ PSt b s wv lv wir lab w w'

/-- The shape of a slice that the call owns. -/
theorem Own.shape {w : World} {base : Nat} {v : Value} {l : Bytes} (h : Own w base v l) : ∃ ao cap, v = .slice ao l.length cap := by
  rcases h.2 with ⟨hv, h0⟩ | ⟨g, cap, cur, hv, _⟩
  · exact ⟨none, 0, by rw [hv, h0]⟩
  · exact ⟨_, cap, hv⟩

theorem end_empty {b : Nat} {s : ByteArray} {wv lv : Value} {wir lab : Bytes} {w0 : World} (F : Interp) (w : World) (hF : F.answers w0.tape) (h : PSt b s wv lv wir lab w0 w) (h0 : lab.length = 0) :
    Calls Tryf.prog 30 #[.pointer (some ⟨b + 3, 0, none⟩), .pointer (some ⟨b, 0, none⟩), .pointer (some ⟨b + 2, 0, none⟩)] w (EndErr b s wv lv wir lab w0) := by
  obtain ⟨ao, cap, hv⟩ := h.ol.shape
  rw [h0] at hv
  subst hv
  have hL := h.cL
  have hS := h.cS
  have hF1 : F.answers w.tape := by rw [h.bel.tape]; exact hF
  have hP : Hid (PSt b s wv (.slice ao 0 cap) wir lab w0 w) := h
  clear h h0
  go_enter Tryf.func30, Tryf.ntmps30
  go_wp2_with (go_at_call 31; refine (errorf_empty F w.heap.size s _ ?_ ?_).mono ?_; exact hF1; (go_simp); rintro e w' ⟨⟨ae, rfl⟩, hb2⟩)
  go_ret
  exact ⟨⟨_, rfl⟩, hP.out.below (((Below.refl _ w).alloc (Nat.le_refl _) _).trans (hb2.mono (by simp)))⟩

theorem end_long {b : Nat} {s : ByteArray} {wv lv : Value} {wir lab : Bytes} {w0 : World} (F : Interp) (w : World) (hF : F.answers w0.tape) (h : PSt b s wv lv wir lab w0 w) (h0 : 63 < lab.length) (h1 : lab.length ≤ 1000000000) :
    Calls Tryf.prog 30 #[.pointer (some ⟨b + 3, 0, none⟩), .pointer (some ⟨b, 0, none⟩), .pointer (some ⟨b + 2, 0, none⟩)] w (EndErr b s wv lv wir lab w0) := by
  obtain ⟨ao, cap, hv⟩ := h.ol.shape
  subst hv
  have hL := h.cL
  have hS := h.cS
  have hF1 : F.answers w.tape := by rw [h.bel.tape]; exact hF
  have hP : Hid (PSt b s wv (.slice ao lab.length cap) wir lab w0 w) := h
  clear h
  have e0 : ((lab.length : Int) == 0) = false := by rw [beq_eq_false_iff_ne]; omega
  go_enter Tryf.func30, Tryf.ntmps30
  go_wp2_with (go_at_call 31; refine (errorf_label F w.heap.size s 63 _ ?_ ?_ ?_).mono ?_; exact hF1; (go_simp); (go_simp); rintro e w' ⟨⟨ae, rfl⟩, hb2⟩)
  go_ret
  exact ⟨⟨_, rfl⟩, hP.out.below (((Below.refl _ w).alloc (Nat.le_refl _) _).trans (hb2.mono (by simp)))⟩

/-- The closure's way, whichever. -/
theorem goodL_iff (l : Bytes) : goodL l = true ↔ 0 < l.length ∧ l.length ≤ 63 := by simp [goodL]

/-- What ParseName hands back. -/
def NameOk (wir : Bytes) (w : World) (r : Ending) (w' : World) : Prop :=
  (∃ t : ByteArray, r = .returned (.tuple #[.agg #[.string t], .nilIface]) ∧ t.data.toList = wir) ∧ Below w.heap.size w w'
def NameErr (w : World) (r : Ending) (w' : World) : Prop :=
  (∃ a, r = .returned (.tuple #[.agg #[.string ⟨#[]⟩], .iface 68 (.pointer (some a))])) ∧ Below w.heap.size w w'
def NameEnd (o : Option Bytes) (w : World) (r : Ending) (w' : World) : Prop :=
  match o with
  | some wir => NameOk wir w r w'
  | none => NameErr w r w'

theorem pst_new (s : ByteArray) (w : World) : PSt w.heap.size s (.slice none 0 0) (.slice none 0 0) [] [] w
    ((((w.alloc (.cells #[.string s] 9)).alloc (.cells #[.string ⟨#[]⟩] 29)).alloc (.cells #[.slice none 0 0] 26)).alloc (.cells #[.slice none 0 0] 26)) := by
  have r0 : Row (w.alloc (.cells #[.string s] 9)) w.heap.size 9 [.string s] := heap_alloc_new w _
  have r1 : Row ((w.alloc (.cells #[.string s] 9)).alloc (.cells #[.string ⟨#[]⟩] 29)) (w.heap.size + 1) 29 [.string ⟨#[]⟩] := by
    have := heap_alloc_new (w.alloc (.cells #[.string s] 9)) (.cells #[.string ⟨#[]⟩] 29)
    simpa [Row] using this
  have r2 : Row (((w.alloc (.cells #[.string s] 9)).alloc (.cells #[.string ⟨#[]⟩] 29)).alloc (.cells #[.slice none 0 0] 26)) (w.heap.size + 2) 26 [.slice none 0 0] := by
    have := heap_alloc_new ((w.alloc (.cells #[.string s] 9)).alloc (.cells #[.string ⟨#[]⟩] 29)) (.cells #[.slice none 0 0] 26)
    simpa [Row] using this
  have r3 : Row ((((w.alloc (.cells #[.string s] 9)).alloc (.cells #[.string ⟨#[]⟩] 29)).alloc (.cells #[.slice none 0 0] 26)).alloc (.cells #[.slice none 0 0] 26)) (w.heap.size + 3) 26 [.slice none 0 0] := by
    have := heap_alloc_new (((w.alloc (.cells #[.string s] 9)).alloc (.cells #[.string ⟨#[]⟩] 29)).alloc (.cells #[.slice none 0 0] 26)) (.cells #[.slice none 0 0] 26)
    simpa [Row] using this
  refine ⟨((r0.alloc _).alloc _).alloc _, (r1.alloc _).alloc _, r2.alloc _, r3, Own.nil _ _, Own.nil _ _, fun g e => by simp [Value.ownBlock] at e, ?_⟩
  exact ((((Below.refl _ w).alloc (Nat.le_refl _) _).alloc (by simp) _).alloc (by simp; omega) _).alloc (by simp; omega) _

/-- Behind 'label = append(label, c)'. -/
theorem pst_push {b g n cap : Nat} {s : ByteArray} {wv lv : Value} {wir lab lab2 : Bytes} {w0 w w1 : World} {ob : Obj} (h : PSt b s wv lv wir lab w0 w) (hg : (w.alloc ob).grownBy w1 lv.ownBlock)
    (ho : Own w1 (b + 4) (.slice (some ⟨g, 0, none⟩) n cap) lab2) (hat : lv.ownBlock = some g ∨ g = (w.alloc ob).heap.size) :
    PSt b s wv (.slice (some ⟨g, 0, none⟩) n cap) wir lab2 w0 (w1.setCell ⟨b + 3, 0, none⟩ (.slice (some ⟨g, 0, none⟩) n cap)) := by
  have hsz := h.size
  have hk : Below (b + 4) w w1 := (h.ol.alloc ob).grown hg (by simp; omega) ((Below.refl _ w).alloc hsz ob)
  have r0 := h.sb.below hk (by omega)
  have r1 := h.res.below hk (by omega)
  have r2 := h.wb.below hk (by omega)
  have r3 := h.lb.below hk (by omega)
  have hap : wv.ownBlock = none ∨ wv.ownBlock ≠ lv.ownBlock := by
    cases hv : wv.ownBlock with
    | none => exact Or.inl rfl
    | some k => exact Or.inr fun e => h.apart k hv e.symm
  refine ⟨r0.setOther _ _ (by simp), r1.setOther _ _ (by simp), r2.setOther _ _ (by simp), ?_, ?_, ?_, ?_, ?_⟩
  · have := r3.setSame 0 (.slice (some ⟨g, 0, none⟩) n cap)
    simpa using this
  · exact ownsRow_setCell_below ((h.ow.alloc ob).kept hg hap) (by simp) _
  · exact ownsRow_setCell_below ho (by simp) _
  · intro k e1 e2
    simp [Value.ownBlock] at e2
    subst e2
    rcases hat with e | e
    · exact h.apart g e1 e
    · have := World.ownsRow.lt h.ow g e1
      simp at e
      omega
  · exact (h.bel.trans (hk.mono (by omega))).setCell (by simp) _

theorem fin_err {b : Nat} {s : ByteArray} {wv lv : Value} {wir lab : Bytes} {w w' : World} {ts : List Tok} (hst : PSt b s wv lv wir lab w w') (HB : b = w.heap.size) (hp : parseT ts = none) (ae : Addr) (x : Value) :
    NameEnd (parseT ts) w (.returned (.tuple #[.agg #[.string ⟨#[]⟩], .iface 68 (.pointer (some ae))])) (w'.setCell ⟨b + 1, 0, none⟩ x) := by
  rw [hp]
  refine ⟨⟨ae, rfl⟩, ?_⟩
  rw [← HB]
  exact hst.bel.setCell (by simp) _

/-- The bytes that a slice holds, as a string. -/
theorem Own.asStr {w : World} {base : Nat} {v : Value} {l : Bytes} (h : Own w base v l) : (convert 26 9 v).run Tryf.prog w = .ok (.string ⟨l.toArray⟩) w := by
  rcases Nat.eq_zero_or_pos l.length with h0 | h0
  · have hl : l = [] := List.eq_nil_of_length_eq_zero h0
    subst hl
    obtain ⟨ao, cap, rfl⟩ := h.shape
    cases ao with
    | none => exact run_convert_bytes_nil w 26 5 Tryf.underlying26 Tryf.underlying5 _ _ 9 Tryf.underlying9
    | some a =>
      rcases h.2 with ⟨hv, _⟩ | ⟨g, cap', cur, hv, _⟩
      · simp at hv
      · simp only [Value.slice.injEq, Option.some.injEq, true_and] at hv
        obtain ⟨rfl, _, rfl⟩ := hv
        exact run_convert_bytes_arg w 26 5 Tryf.underlying26 Tryf.underlying5 g 0 0 cap [] rfl (fun i hi => by omega) 9 Tryf.underlying9
  · obtain ⟨g, cap, rfl, _, _, _⟩ := h.form h0
    have hc := World.ownsRow.cells h (g := g) rfl
    have e := run_convert_bytes_arg w 26 5 Tryf.underlying26 Tryf.underlying5 g 0 l.length cap (l.map fun b => (b.toNat : Int)) (by simp) (fun i hi => by
      have := hc i (.int .u8 (l[i]'hi).toNat) (by simp [cells, hi])
      rw [add_at] at this
      simpa [List.getD, hi] using this) 9 Tryf.underlying9
    rw [e]
    congr 2
    simp [strOfNums, List.map_map, Function.comp_def]

/-- A byte of the text, where a token's bytes lie. -/
theorem at_byte (s : ByteArray) (dec : Bool) (ts : List Tok) (n j q : Nat) (hs : s.data.toList = text dec ts) (h : n < ts.length) (l : Bytes) (hl : tokB dec ts[n] = l) (hj : j < l.length) (hq : q = pos dec ts n + j) (hqs : q < s.size) : s[q] = l[j] := by
  subst hl
  have h1 := at_tok dec ts n j h hj
  rw [← hs, ← hq] at h1
  have h2 : s.data.toList[q]? = some s[q] := List.getElem?_eq_getElem (by simpa using hqs)
  rw [h2] at h1
  exact Option.some.inj h1

end Go.Proofs.Qxb6002376aFmt
