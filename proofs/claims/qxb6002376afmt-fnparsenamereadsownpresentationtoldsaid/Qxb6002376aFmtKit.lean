/- Rows that the call itself has made, by their whole block. No program in sight. -/
import Derived.WalkKit
import Derived.Laws.CopyOwn
namespace Go.Proofs.Qxb6002376aFmt
open Go.RowKit
set_option linter.unusedVariables false

/-- Block g is a row of cells of type t, holding just xs; none is frozen. -/
def Row (w : World) (g : Nat) (t : TypeId) (xs : List Value) : Prop := w.heap[g]? = some (.cells xs.toArray t (0, 0))

theorem Row.lt {w : World} {g : Nat} {t : TypeId} {xs : List Value} (h : Row w g t xs) : g < w.heap.size := (Array.getElem?_eq_some_iff.1 h).1

theorem Row.cell {w : World} {g : Nat} {t : TypeId} {xs : List Value} (h : Row w g t xs) (j : Nat) : w.cell? ⟨g, j, none⟩ = xs[j]? := by
  rw [cell_of_row w g j xs.toArray t (0, 0) h]
  simp

theorem Row.frozen {w : World} {g : Nat} {t : TypeId} {xs : List Value} (h : Row w g t xs) (j : Nat) : w.frozen? ⟨g, j, none⟩ = false := frozen_of_row w g j _ t h

theorem Row.below {w w' : World} {g B : Nat} {t : TypeId} {xs : List Value} (h : Row w g t xs) (hb : Below B w w') (hg : g < B) : Row w' g t xs := by
  unfold Row
  rw [hb.block g hg]
  exact h

theorem Row.setSame {w : World} {g : Nat} {t : TypeId} {xs : List Value} (h : Row w g t xs) (j : Nat) (u : Value) : Row (w.setCell ⟨g, j, none⟩ u) g t (xs.set j u) := by
  unfold Row
  rw [heap_setCell_same w g j xs.toArray t u h]
  simp

theorem Row.setOther {w : World} {g : Nat} {t : TypeId} {xs : List Value} (h : Row w g t xs) (a : Addr) (u : Value) (hne : g ≠ a.block) : Row (w.setCell a u) g t xs := by
  unfold Row
  rw [Below.heap_setCell w a u g hne]
  exact h

theorem Row.alloc {w : World} {g : Nat} {t : TypeId} {xs : List Value} (h : Row w g t xs) (o : Obj) : Row (w.alloc o) g t xs := by
  unfold Row
  rw [Below.heap_alloc w o g h.lt]
  exact h

/-- 'make([]T, n)': a new row of n zeros. -/
theorem wpList_make_row {P : Program} (w : World) {ops : Array Oper} {rest : List Oper} {o : Oper} {a : Act} {Q : Exit → Act → World → Prop}
    (hg : o.guard = none) (l c : Operand) (t : TypeId) (hop : o.op = Op.makeSlice t l c)
    (e : TypeId) (z : Value) (bytes : Nat) (h1 : P.underlying t = some (.slice e)) (h2 : (P.info? e).map (fun i => (i.zero, i.size, i.bytes)) = some (some z, 1, bytes)) (hz : z.cells = #[z])
    (kl kc : IntKind) (L C : Int) (n : Nat) (hl : a.eval l = .int kl L) (hc : a.eval c = .int kc C) (hL : L = (n : Int)) (hC : C = (n : Int)) (b2 : bytes * n ≤ 281474976710656) (b3 : n ≤ maxLen)
    (hK : ∀ w', Row w' w.heap.size e (List.replicate n z) → Below w.heap.size w w' → wpList P ops Q rest (a.put o.dst (.slice (some ⟨w.heap.size, 0, none⟩) n n)) w') :
    wpList P ops Q (o :: rest) a w := by
  obtain ⟨i, hi, hz0, hz1, hz2⟩ := info_parts h2
  refine wpList_make_full w hg l c t hop w.heap.size e i z 1 h1 hi hz0 hz1 kl kc L C n hl hc hL hC (by rw [hz2]; exact b2) b3 (Nat.le_refl _) ?_
  intro w' hown hgrow
  refine hK w' ?_ ?_
  · rcases hown.2 with ⟨h', _⟩ | ⟨g', cap', cur, h', _, hg', _, _, hs, htake⟩
    · simp at h'
    · simp only [Value.slice.injEq, Option.some.injEq, Addr.mk.injEq, and_true, true_and] at h'
      obtain ⟨rfl, rfl⟩ := h'
      unfold Row
      rw [hg', ← toList_madeCells_one, ← hz]
      rw [Nat.mul_one] at htake hs
      rw [← htake, List.take_of_length_le (by rw [Array.length_toList]; omega)]
  · exact (Below.refl _ w).grown hgrow (Nat.le_refl _) (fun k hk => by cases hk)

/-- A GUARD FOR AN ARM: the next operation is a call of the builtin copy ('with_reducible refine at_copy ?_'). -/
theorem at_copy {P : Program} {w : World} {ops : Array Oper} {rest : List Oper} {a : Act} {Q : Exit → Act → World → Prop} {dst : Option Tmp} {args : Array Operand} {ts : Array TypeId} {ty : TypeId} {pos : String} {after : Array Edge} {g : Option (Nat × Bool)}
    (h : wpList P ops Q ({ dst := dst, op := Op.call { callee := Callee.builtin Builtin.copy, args := args, argTypes := ts }, type := ty, pos := pos, after := after, guard := g } :: rest) a w) :
    wpList P ops Q ({ dst := dst, op := Op.call { callee := Callee.builtin Builtin.copy, args := args, argTypes := ts }, type := ty, pos := pos, after := after, guard := g } :: rest) a w := h

/-- 'copy(dst, src)', dst a whole new row of n cells, src n cells. -/
theorem wpList_copy_row {P : Program} {w : World} {ops : Array Oper} {rest : List Oper} {o : Oper} {a : Act} {Q : Exit → Act → World → Prop} (hgd : o.guard = none) (d s : Operand) (dT sT : TypeId)
    (ho : o.op = .call { callee := .builtin .copy, args := #[d, s], argTypes := #[dT, sT] }) (elem : TypeId) (hu : P.underlying dT = some (.slice elem)) (hsz : (P.info? elem).map (·.size) = some 1)
    (sp : Option Addr) (n dCap sCap g : Nat) (hd : a.eval d = .slice (some ⟨g, 0, none⟩) n dCap) (hs : a.eval s = .slice sp n sCap)
    (cur : List Value) (t : TypeId) (hg : Row w g t cur) (hcl : cur.length = n) (cs : List Value) (hn : cs.length = n)
    (hpos : 0 < n → ∃ ad, sp = some ad ∧ ∀ j v, cs[j]? = some v → w.cell? (ad.add j) = some v)
    (h1 : ∀ v ∈ cs, v.oneCell' = true)
    (h : ∀ w', Row w' g t cs → Below g w w' → wpList P ops Q rest (a.put o.dst (goInt n)) w') :
    wpList P ops Q (o :: rest) a w := by
  refine wpList_copy_splice hgd d s dT sT ho elem hu hsz _ _ _ _ _ _ hd hs g 0 cur t hg cs (by rw [hn]; simp) (fun h0 => ⟨rfl, hpos (by omega)⟩) (by omega) h1 g w (Below.refl _ _) (Nat.le_refl _) ?_
  intro w' hrow hbel
  have e : splice cur 0 cs = cs := by
    unfold splice
    rw [List.drop_of_length_le (by omega)]
    simp
  have hrow' := hrow.out
  rw [e] at hrow'
  rw [hn]
  exact h w' hrow' hbel

end Go.Proofs.Qxb6002376aFmt
