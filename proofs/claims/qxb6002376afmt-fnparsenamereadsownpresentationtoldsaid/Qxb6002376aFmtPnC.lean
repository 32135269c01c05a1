import Derived.Test.Qxb6002376aFmtPnB
import Derived.Deep.AppendLies
import Derived.Deep.RegionLaw
namespace Go.Proofs.Qxb6002376aFmt
open Go.RowKit Go.Extern.Stop Go.Stop Go.Extern
set_option linter.unusedVariables false
set_option linter.unusedSimpArgs false

/-- What the reader holds: its text (block b), the result's cell, the wire form and the label, each in a variable of its own. -/
structure PSt (b : Nat) (s : ByteArray) (wv lv : Value) (wir lab : Bytes) (w wq : World) : Prop where
  sb : Row wq b 9 [.string s]
  res : Row wq (b + 1) 29 [.string ⟨#[]⟩]
  wb : Row wq (b + 2) 26 [wv]
  lb : Row wq (b + 3) 26 [lv]
  ow : Own wq (b + 4) wv wir
  ol : Own wq (b + 4) lv lab
  apart : ∀ g, wv.ownBlock = some g → lv.ownBlock = some g → False
  bel : Below b w wq

section
variable {b : Nat} {s : ByteArray} {wv lv : Value} {wir lab : Bytes} {w wq : World}
theorem PSt.cS (h : PSt b s wv lv wir lab w wq) : wq.cell? ⟨b, 0, none⟩ = some (.string s) := by rw [h.sb.cell]; rfl
theorem PSt.cR (h : PSt b s wv lv wir lab w wq) : wq.cell? ⟨b + 1, 0, none⟩ = some (.string ⟨#[]⟩) := by rw [h.res.cell]; rfl
theorem PSt.cW (h : PSt b s wv lv wir lab w wq) : wq.cell? ⟨b + 2, 0, none⟩ = some wv := by rw [h.wb.cell]; rfl
theorem PSt.cL (h : PSt b s wv lv wir lab w wq) : wq.cell? ⟨b + 3, 0, none⟩ = some lv := by rw [h.lb.cell]; rfl
theorem PSt.size (h : PSt b s wv lv wir lab w wq) : b + 4 ≤ wq.heap.size := by have := h.lb.lt; omega
theorem PSt.below {w2 : World} (h : PSt b s wv lv wir lab w wq) (hb : Below wq.heap.size wq w2) : PSt b s wv lv wir lab w w2 :=
  ⟨h.sb.below hb h.sb.lt, h.res.below hb h.res.lt, h.wb.below hb h.wb.lt, h.lb.below hb h.lb.lt, h.ow.below hb, h.ol.below hb, h.apart, h.bel.trans (hb.mono (by have := h.size; omega))⟩
end

section
variable {ops : Array Oper} {rest : List Oper} {o : Oper} {a : Act} {K : Act → World → Prop} {Q : Exit → Act → World → Prop} {E : Prop}
/-- 'append' of bytes, as one step of a region that draws its order; where the new slice lies. -/
theorem step_lies {w : World} (hg : o.guard = none) (s x : Operand) (hop : o.op = Op.call { callee := Callee.builtin Builtin.append, args := #[s, x], argTypes := #[26, 26] })
    (base : Nat) (v : Value) (l : Bytes) (hs : a.eval s = v) (hown : Own w base v l) (ad : Addr) (new : Bytes) (m c : Nat) (hx : a.eval x = .slice (some ad) m c) (hm : new.length = m)
    (hc : ∀ j u, (cells new)[j]? = some u → w.cell? (ad.add j) = some u) (h0 : 0 < m) (hsz : l.length + m ≤ 1000000000000) (hbase : base ≤ w.heap.size)
    (hK : ∀ g cap w', Own w' base (.slice (some ⟨g, 0, none⟩) (l.length + m) cap) (l ++ new) → w.grownBy w' v.ownBlock → (v.ownBlock = some g ∨ g = w.heap.size) → g < w'.heap.size → K (a.put o.dst (.slice (some ⟨g, 0, none⟩) (l.length + m) cap)) w') :
    if Region.wanted o (yielded ops a.tmps) = true then Oper.wp Tryf.prog o a w K Q else E := by
  obtain ⟨i, hi, hz0, hz1, hz2⟩ := info_parts info5
  refine step_append_lies w hg s x 26 hop base 5 i (.int .u8 0) 1 1 Tryf.underlying26 hi hz0 hz1 hz2 rfl (by decide) v l.length (cells l) hs hown ad m c (cells new) hx (by rw [cells_length]; omega) hc (cells_one new) h0 (by unfold maxLen; omega) (by omega) hbase _ rfl ?_
  intro g cap w' r1 r2 r3 r4
  refine hK g cap w' ?_ r2 r3 r4
  unfold Own
  rw [List.length_append, cells_append, hm]
  exact r1

/-- The same at a plain region's list. -/
theorem app_lies {w : World} (hg : o.guard = none) (s x : Operand) (hop : o.op = Op.call { callee := Callee.builtin Builtin.append, args := #[s, x], argTypes := #[26, 26] })
    (base : Nat) (v : Value) (l : Bytes) (hs : a.eval s = v) (hown : Own w base v l) (ad : Addr) (new : Bytes) (m c : Nat) (hx : a.eval x = .slice (some ad) m c) (hm : new.length = m)
    (hc : ∀ j u, (cells new)[j]? = some u → w.cell? (ad.add j) = some u) (h0 : 0 < m) (hsz : l.length + m ≤ 1000000000000) (hbase : base ≤ w.heap.size)
    (hK : ∀ g cap w', Own w' base (.slice (some ⟨g, 0, none⟩) (l.length + m) cap) (l ++ new) → w.grownBy w' v.ownBlock → (v.ownBlock = some g ∨ g = w.heap.size) → g < w'.heap.size → wpList Tryf.prog ops Q rest (a.put o.dst (.slice (some ⟨g, 0, none⟩) (l.length + m) cap)) w') :
    wpList Tryf.prog ops Q (o :: rest) a w := by
  obtain ⟨i, hi, hz0, hz1, hz2⟩ := info_parts info5
  refine wpList_append_lies w hg s x 26 hop base 5 i (.int .u8 0) 1 1 Tryf.underlying26 hi hz0 hz1 hz2 rfl (by decide) v l.length (cells l) hs hown ad m c (cells new) hx (by rw [cells_length]; omega) hc (cells_one new) h0 (by unfold maxLen; omega) (by omega) hbase _ rfl ?_
  intro g cap w' r1 r2 r3 r4
  refine hK g cap w' ?_ r2 r3 r4
  unfold Own
  rw [List.length_append, cells_append, hm]
  exact r1
end

/-- What the closure leaves. -/
theorem pst_end {b n gl capl g2 len2 cap2 : Nat} {s : ByteArray} {wv : Value} {wir lab wir2 : Bytes} {w0 w w2 : World} (h : PSt b s wv (.slice (some ⟨gl, 0, none⟩) n capl) wir lab w0 w)
    (hk : Below (b + 4) w w2) (hh : w2.heap[gl]? = w.heap[gl]?) (hgl : b + 4 ≤ gl) (ho : Own w2 (b + 4) (.slice (some ⟨g2, 0, none⟩) len2 cap2) wir2) (hne : g2 ≠ gl) :
    PSt b s (.slice (some ⟨g2, 0, none⟩) len2 cap2) (.slice (some ⟨gl, 0, none⟩) 0 capl) wir2 [] w0 ((w2.setCell ⟨b + 2, 0, none⟩ (.slice (some ⟨g2, 0, none⟩) len2 cap2)).setCell ⟨b + 3, 0, none⟩ (.slice (some ⟨gl, 0, none⟩) 0 capl)) := by
  have r0 := h.sb.below hk (by omega)
  have r1 := h.res.below hk (by omega)
  have r2 := h.wb.below hk (by omega)
  have r3 := h.lb.below hk (by omega)
  refine ⟨?_, ?_, ?_, ?_, ?_, ?_, ?_, ?_⟩
  · exact (r0.setOther _ _ (by simp)).setOther _ _ (by simp)
  · exact (r1.setOther _ _ (by simp)).setOther _ _ (by simp)
  · have := r2.setSame 0 (.slice (some ⟨g2, 0, none⟩) len2 cap2)
    exact (show Row _ _ _ _ by simpa using this).setOther _ _ (by simp)
  · have := (r3.setOther ⟨b + 2, 0, none⟩ (.slice (some ⟨g2, 0, none⟩) len2 cap2) (by simp)).setSame 0 (.slice (some ⟨gl, 0, none⟩) 0 capl)
    simpa using this
  · exact ownsRow_setCell_below (ownsRow_setCell_below ho (by simp) _) (by simp) _
  · rcases h.ol.2 with ⟨h', _⟩ | ⟨g', cap', cur, h', _, hg', _, hcm, hcs, _⟩
    · simp at h'
    · simp only [Value.slice.injEq, Option.some.injEq, Addr.mk.injEq, and_true, true_and] at h'
      obtain ⟨rfl, _, rfl⟩ := h'
      refine ⟨by simp [cells], .inr ⟨gl, capl, cur, rfl, hgl, ?_, Nat.zero_le _, hcm, hcs, by simp [cells]⟩⟩
      rw [Below.heap_setCell _ _ _ _ (by simp; omega), Below.heap_setCell _ _ _ _ (by simp; omega), hh]
      exact hg'
  · intro g e1 e2
    simp [Value.ownBlock] at e1 e2
    omega
  · exact ((h.bel.trans (hk.mono (by omega))).setCell (by simp) _).setCell (by simp) _

/-- Behind an append to the wire form: nothing below has turned, the label's row lies as it lay, apart from the new one. -/
structure Mid (b gl : Nat) (w w1 : World) (g1 : Nat) : Prop where
  bel : Below (b + 4) w w1
  row : w1.heap[gl]? = w.heap[gl]?
  ne : g1 ≠ gl

theorem mid1 {b gl g1 : Nat} {wv : Value} {wir : Bytes} {w w1 : World} {ob : Obj} (ow : Own w (b + 4) wv wir) (hs : b + 4 ≤ w.heap.size) (hgl : gl < w.heap.size) (hne : some gl ≠ wv.ownBlock) (hg : ((w.alloc ob).drew).grownBy w1 wv.ownBlock)
    (hat : wv.ownBlock = some g1 ∨ g1 = ((w.alloc ob).drew).heap.size) : Mid b gl w w1 g1 := by
  have ow2 : Own ((w.alloc ob).drew) (b + 4) wv wir := ow.alloc ob
  refine ⟨ow2.grown hg (by simp; omega) (((Below.refl _ w).alloc hs ob).drew), ?_, ?_⟩
  · rw [hg.block gl (by simp; omega) hne]
    exact Below.heap_alloc w ob gl hgl
  · rcases hat with h | h
    · intro e; subst e; exact hne h.symm
    · simp at h; omega

theorem mid2 {b gl g1 g2 n c : Nat} {l : Bytes} {w w1 w2 : World} (m : Mid b gl w w1 g1) (ow : Own w1 (b + 4) (.slice (some ⟨g1, 0, none⟩) n c) l) (hs : b + 4 ≤ w.heap.size) (hgl : gl < w.heap.size)
    (hg : w1.grownBy w2 (Value.ownBlock (.slice (some ⟨g1, 0, none⟩) n c))) (hat : Value.ownBlock (.slice (some ⟨g1, 0, none⟩) n c) = some g2 ∨ g2 = w1.heap.size) : Mid b gl w w2 g2 := by
  have h1 := m.bel.size
  have h2 := m.ne
  refine ⟨ow.grown hg (by omega) m.bel, ?_, ?_⟩
  · rw [hg.block gl (by omega) (by simp [Value.ownBlock]; omega), m.row]
  · rcases hat with h | h
    · simp [Value.ownBlock] at h; omega
    · omega

theorem len1 (n : Nat) (h : n ≤ 63) : (#[.int .u8 (IntKind.u8.wrap (n : Int))] : Array Value) = (cells [UInt8.ofNat n]).toArray := by
  have e1 : ((UInt8.ofNat n).toNat : Int) = (n : Int) := by rw [UInt8.toNat_ofNat']; omega
  have e2 : IntKind.u8.wrap (n : Int) = (n : Int) := by simp [IntKind.wrap, IntKind.signed, IntKind.bits]; omega
  simp only [cells, List.map_cons, List.map_nil, e1, e2]

/-- endLabel: the label is good. -/
def EndOk (b : Nat) (s : ByteArray) (wir lab : Bytes) (w : World) (r : Ending) (w' : World) : Prop :=
  r = .returned .nilIface ∧ ∃ wv' lv', PSt b s wv' lv' (endL wir lab) [] w w'

set_option maxRecDepth 100000 in
set_option maxHeartbeats 1000000 in
theorem end_ok {b : Nat} {s : ByteArray} {wv lv : Value} {wir lab : Bytes} {w0 : World} (w : World) (h : PSt b s wv lv wir lab w0 w) (h0 : 0 < lab.length) (h1 : lab.length ≤ 63) (h2 : wir.length ≤ 1000000000) :
    Calls Tryf.prog 30 #[.pointer (some ⟨b + 3, 0, none⟩), .pointer (some ⟨b, 0, none⟩), .pointer (some ⟨b + 2, 0, none⟩)] w (EndOk b s wir lab w0) := by
  obtain ⟨gl, capl, rfl, hgl, hgl2, hcl⟩ := h.ol.form h0
  have hW := h.cW
  have hL := h.cL
  have fW := h.wb.frozen 0
  have fL := h.lb.frozen 0
  have hsz := h.size
  have hap : some gl ≠ wv.ownBlock := fun e => h.apart gl e.symm rfl
  have hcells : ∀ j u, (cells lab)[j]? = some u → w.cell? ((⟨gl, 0, none⟩ : Addr).add j) = some u := World.ownsRow.cells h.ol rfl
  obtain ⟨n, Hn⟩ : ∃ n, n = lab.length := ⟨_, rfl⟩
  rw [← Hn] at hL h0 h1 hcl
  have HN : Hid (n = lab.length) := Hn
  have hO1 : Hid (Own ((w.alloc (.cells #[.int .u8 (IntKind.u8.wrap (n : Int))] 5)).drew) (b + 4) wv wir) := h.ow.alloc _
  have hC1 : Hid (∀ j u, (cells [UInt8.ofNat n])[j]? = some u → ((w.alloc (.cells #[.int .u8 (IntKind.u8.wrap (n : Int))] 5)).drew).cell? ((⟨w.heap.size, 0, none⟩ : Addr).add j) = some u) := cellN w _ _ (len1 n h1)
  have HA : Hid (some gl ≠ wv.ownBlock) := hap
  have HC : Hid (∀ j u, (cells lab)[j]? = some u → w.cell? ((⟨gl, 0, none⟩ : Addr).add j) = some u) := hcells
  have HP : Hid (PSt b s wv (.slice (some ⟨gl, 0, none⟩) lab.length capl) wir lab w0 w) := h
  clear hcells Hn h hap
  have hL1 : (w.alloc (.cells #[.int .u8 (IntKind.u8.wrap (n : Int))] 5)).cell? ⟨b + 3, 0, none⟩ = some (.slice (some ⟨gl, 0, none⟩) n capl) := by rw [World.cell?_alloc_lt _ _ _ (by simp; omega)]; exact hL
  have hW1 : (w.alloc (.cells #[.int .u8 (IntKind.u8.wrap (n : Int))] 5)).cell? ⟨b + 2, 0, none⟩ = some wv := by rw [World.cell?_alloc_lt _ _ _ (by simp; omega)]; exact hW
  have e0 : ((n : Int) == 0) = false := by rw [beq_eq_false_iff_ne]; omega
  go_enter Tryf.func30, Tryf.ntmps30
  go_wp2
  go_region_law (first
    | (refine step_lies rfl (.tmp 21) (.tmp 25) rfl (b + 4) wv wir (by simp [Act.eval, Act.put]) hO1.out ⟨w.heap.size, 0, none⟩ [UInt8.ofNat n] 1 1 (by simp [Act.eval, Act.put]) rfl hC1.out (by omega) (by omega) (by simp; omega) ?_; intro g1 cap1 w1 ho1 hg1 hat1 hlt1; have m1 := mid1 HP.out.ow hsz hgl2 HA.out hg1 hat1; have c3 : w1.cell? ⟨b + 3, 0, none⟩ = some (.slice (some ⟨gl, 0, none⟩) n capl) := (m1.bel.cell (p := ⟨b + 3, 0, none⟩) (by simp)).trans hL; clear hat1 hg1 hlt1; (obtain ⟨n1, hn1⟩ : ∃ n1, n1 = wir.length + 1 := ⟨_, rfl⟩); rw [← hn1] at ho1; rw [← hn1]; clear hn1)
    | (refine step_lies rfl (.tmp 26) (.tmp 27) rfl (b + 4) _ (wir ++ [UInt8.ofNat n]) (by simp [Act.eval, Act.put]) ho1 ⟨gl, 0, none⟩ lab n capl (by simp [Act.eval, Act.put]) HN.out.symm (fun j u hj => (World.cell?_of_block (by rw [add_block]; exact m1.row)).trans (HC.out j u hj)) (by omega) (by simp; omega) (by have := m1.bel.size; omega) ?_; intro g2 cap2 w2 ho2 hg2 hat2 hlt2; have m2 := mid2 m1 ho1 hsz hgl2 hg2 hat2; have c2 : w2.cell? ⟨b + 2, 0, none⟩ = some wv := (m2.bel.cell (p := ⟨b + 2, 0, none⟩) (by simp)).trans hW; have f2 : w2.frozen? ⟨b + 2, 0, none⟩ = false := (m2.bel.frozen (p := ⟨b + 2, 0, none⟩) (by simp)).trans fW; have c4 : w2.cell? ⟨b + 3, 0, none⟩ = some (.slice (some ⟨gl, 0, none⟩) n capl) := (m2.bel.cell (p := ⟨b + 3, 0, none⟩) (by simp)).trans hL; have f4 : w2.frozen? ⟨b + 3, 0, none⟩ = false := (m2.bel.frozen (p := ⟨b + 3, 0, none⟩) (by simp)).trans fL; clear hat2 hg2 hlt2 c3 ho1 m1; (obtain ⟨n2, hn2⟩ : ∃ n2, n2 = (wir ++ [UInt8.ofNat n]).length + n := ⟨_, rfl⟩); rw [← hn2] at ho2; rw [← hn2]; clear hn2))
  all_goals
    have HM : Hid (PSt b s (.slice (some ⟨g2, 0, none⟩) n2 cap2) (.slice (some ⟨gl, 0, none⟩) 0 capl) (endL wir lab) [] w0 ((w2.setCell ⟨b + 2, 0, none⟩ (.slice (some ⟨g2, 0, none⟩) n2 cap2)).setCell ⟨b + 3, 0, none⟩ (.slice (some ⟨gl, 0, none⟩) 0 capl))) := by
      refine pst_end HP.out m2.bel m2.row hgl ?_ m2.ne
      have e : endL wir lab = wir ++ [UInt8.ofNat n] ++ lab := by rw [HN.out]; simp [endL]
      rw [e]
      exact ho2
    clear ho2
    go_wp2
    go_ret
    exact ⟨rfl, _, _, HM.out⟩

end Go.Proofs.Qxb6002376aFmt
