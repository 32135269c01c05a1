import Derived.Test.Qxb6002376aFmtPnA
import Derived.Lib.AppendStr
namespace Go.Proofs.Qxb6002376aFmt
open Go.RowKit Go.Extern.Stop Go.Stop Go.Extern
set_option linter.unusedVariables false
set_option linter.unusedSimpArgs false

/-- Bytes as cells. -/
def cells (l : Bytes) : List Value := l.map fun b => Value.int .u8 b.toNat
theorem cells_length (l : Bytes) : (cells l).length = l.length := by simp [cells]
theorem cells_append (a b : Bytes) : cells (a ++ b) = cells a ++ cells b := by simp [cells]
theorem cells_one (l : Bytes) : ∀ u ∈ cells l, u.oneCell' = true := by
  intro u hu
  simp only [cells, List.mem_map] at hu
  obtain ⟨b, _, rfl⟩ := hu
  rfl
theorem cells_str (s : ByteArray) : Lib.strCells s = cells s.data.toList := rfl

/-- The slice v holds the bytes l, in a row of the call's own from block base on. -/
def Own (w : World) (base : Nat) (v : Value) (l : Bytes) : Prop := w.ownsRow base 5 1 v l.length (cells l)

theorem Own.nil (w : World) (base : Nat) : Own w base (.slice none 0 0) [] := World.ownsRow_nil w base 5 1
theorem Own.alloc {w : World} {base : Nat} {v : Value} {l : Bytes} (h : Own w base v l) (o : Obj) : Own (w.alloc o) base v l := World.ownsRow.alloc h o
theorem Own.kept {w w' : World} {base : Nat} {v : Value} {l : Bytes} {row : Option Nat} (h : Own w base v l) (hg : w.grownBy w' row) (hne : v.ownBlock = none ∨ v.ownBlock ≠ row) : Own w' base v l := World.ownsRow.kept h hg hne
theorem Own.below {w w' : World} {base : Nat} {v : Value} {l : Bytes} (h : Own w base v l) (hb : Below w.heap.size w w') : Own w' base v l := by
  refine World.ownsRow.kept h (row := none) ⟨hb.os, hb.tape, hb.output, hb.size, fun k hk _ => hb.block k hk⟩ ?_
  cases hv : v.ownBlock <;> simp
theorem Own.grown {w w' w0 : World} {base : Nat} {v : Value} {l : Bytes} (h : Own w base v l) (hg : w.grownBy w' v.ownBlock) (hB : base ≤ w.heap.size) (hb : Below base w0 w) : Below base w0 w' :=
  hb.grown hg hB (fun k hk => (World.ownsRow.lt h k hk).1)

/-- Its shape where it holds something. -/
theorem Own.form {w : World} {base : Nat} {v : Value} {l : Bytes} (h : Own w base v l) (hl : 0 < l.length) : ∃ g cap, v = .slice (some ⟨g, 0, none⟩) l.length cap ∧ base ≤ g ∧ g < w.heap.size ∧ l.length ≤ cap := by
  rcases h.2 with ⟨_, h0⟩ | ⟨g, cap, cur, hv, hb, hh, hc, _⟩
  · omega
  · exact ⟨g, cap, hv, hb, (Array.getElem?_eq_some_iff.1 hh).1, hc⟩

section
variable {ops : Array Oper} {rest : List Oper} {o : Oper} {a : Act} {Q : Exit → Act → World → Prop}

/-- 'append(v, ..)' of bytes that lie in a row. -/
theorem app_bytes (w : World) (hg : o.guard = none) (s x : Operand) (hop : o.op = Op.call { callee := Callee.builtin Builtin.append, args := #[s, x], argTypes := #[26, 26] })
    (base : Nat) (v : Value) (l : Bytes) (hs : a.eval s = v) (hown : Own w base v l) (ad : Addr) (new : Bytes) (m c : Nat) (hx : a.eval x = .slice (some ad) m c) (hm : new.length = m)
    (hc : ∀ j u, (cells new)[j]? = some u → w.cell? (ad.add j) = some u) (hsz : l.length + m ≤ 1000000000000) (hbase : base ≤ w.heap.size)
    (hK : ∀ v' w', Own w' base v' (l ++ new) → w.grownBy w' v.ownBlock → wpList Tryf.prog ops Q rest (a.put o.dst v') w') : wpList Tryf.prog ops Q (o :: rest) a w := by
  obtain ⟨i, hi, hz0, hz1, hz2⟩ := info_parts info5
  refine wpList_append_own w hg s x 26 hop base 5 i (.int .u8 0) 1 1 Tryf.underlying26 hi hz0 hz1 hz2 rfl (by decide) v l.length (cells l) hs hown ad m c (cells new) hx (by rw [cells_length]; omega) hc (cells_one new) (by unfold maxLen; omega) (by omega) hbase ?_
  intro v' w' h1 h2 _
  refine hK v' w' ?_ h2
  unfold Own
  rw [List.length_append, cells_append, hm]
  exact h1

/-- 'append(v, s...)' of a string. -/
theorem app_str (w : World) (hg : o.guard = none) (s x : Operand) (hop : o.op = Op.call { callee := Callee.builtin Builtin.append, args := #[s, x], argTypes := #[26, 9] })
    (base : Nat) (v : Value) (l : Bytes) (hs : a.eval s = v) (hown : Own w base v l) (t : ByteArray) (hx : a.eval x = .string t) (hsz : l.length + t.size ≤ 1000000000000) (hbase : base ≤ w.heap.size)
    (hK : ∀ v' w', Own w' base v' (l ++ t.data.toList) → w.grownBy w' v.ownBlock → wpList Tryf.prog ops Q rest (a.put o.dst v') w') : wpList Tryf.prog ops Q (o :: rest) a w := by
  obtain ⟨i, hi, hz0, hz1, hz2⟩ := info_parts info5
  refine Lib.wpList_append_own_string (P := Tryf.prog) w hg s x 26 9 hop base 5 i Tryf.underlying26 Tryf.underlying9 hi hz0 hz1 hz2 v l.length (cells l) hs hown t hx (by unfold maxLen; omega) (by omega) hbase ?_
  intro v' w' h1 h2 _
  refine hK v' w' ?_ h2
  unfold Own
  rw [List.length_append, cells_append, show t.data.toList.length = t.size from Array.length_toList]
  exact h1
end

theorem take_snoc (s : ByteArray) (k : Nat) (h : k < s.size) : s.data.toList.take (k + 1) = s.data.toList.take k ++ [s[k]] := by
  rw [List.take_succ_eq_append_getElem (by simpa using h)]; rfl
theorem escL_snoc (dec : Bool) (l : Bytes) (c : UInt8) : escL dec (l ++ [c]) = escL dec l ++ esc dec c := by simp [escL, List.flatMap_append]
theorem escL_len (dec : Bool) (l : Bytes) : (escL dec l).length ≤ 4 * l.length := by
  induction l with
  | nil => simp [escL]
  | cons c l ih =>
    have := esc_len dec c
    simp only [escL, List.flatMap_cons, List.length_append, List.length_cons] at ih ⊢
    omega

/-- A slice of bytes comes back that holds l. -/
def BytesEnd (base : Nat) (l : Bytes) (w : World) (r : Ending) (w' : World) : Prop := ∃ v, r = .returned v ∧ Own w' base v l ∧ Below base w w'

theorem add_at (g j : Nat) : (⟨g, 0, none⟩ : Addr).add j = ⟨g, j, none⟩ := by unfold Addr.add; split <;> simp_all

/-- The new bytes lie in the block that has just been laid. -/
theorem cellN (w : World) (arr : Array Value) (new : Bytes) (h : arr = (cells new).toArray) : ∀ j u, (cells new)[j]? = some u → (w.alloc (.cells arr 5)).cell? ((⟨w.heap.size, 0, none⟩ : Addr).add j) = some u := by
  intro j u hj
  have hr : Row (w.alloc (.cells arr 5)) w.heap.size 5 (cells new) := by
    unfold Row
    rw [heap_alloc_new, h]
  rw [add_at, hr.cell]
  exact hj

theorem dec4 (n : Nat) (h : n < 256) : (#[.int .u8 92, .int .u8 (48 + (n : Int) / 100), .int .u8 (48 + (n : Int) / 10 % 10), .int .u8 (48 + (n : Int) % 10)] : Array Value) =
    (cells [92, UInt8.ofNat (48 + n / 100), UInt8.ofNat (48 + n / 10 % 10), UInt8.ofNat (48 + n % 10)]).toArray := by
  have e1 : ((UInt8.ofNat (48 + n / 100)).toNat : Int) = 48 + (n : Int) / 100 := by rw [UInt8.toNat_ofNat']; omega
  have e2 : ((UInt8.ofNat (48 + n / 10 % 10)).toNat : Int) = 48 + (n : Int) / 10 % 10 := by rw [UInt8.toNat_ofNat']; omega
  have e3 : ((UInt8.ofNat (48 + n % 10)).toNat : Int) = 48 + (n : Int) % 10 := by rw [UInt8.toNat_ofNat']; omega
  simp only [cells, List.map_cons, List.map_nil, e1, e2, e3]
  rfl

def dec4L (c : UInt8) : Bytes := [92, UInt8.ofNat (48 + c.toNat / 100), UInt8.ofNat (48 + c.toNat / 10 % 10), UInt8.ofNat (48 + c.toNat % 10)]
theorem esc_dec (c : UInt8) (hp : plainB c.toNat = false) : esc true c = dec4L c := by
  unfold esc
  rw [if_neg (by rw [hp]; simp), if_pos rfl]
  rfl

set_option maxRecDepth 100000 in
set_option maxHeartbeats 1000000 in
theorem esc_call (base : Nat) (v : Value) (l : Bytes) (s : ByteArray) (dec : Bool) (w : World) (hown : Own w base v l) (hbase : base ≤ w.heap.size) (hs : s.size ≤ 65536) (hl : l.length ≤ 1000000000) :
    Calls Tryf.prog 12 #[v, .string s, .bool dec] w (BytesEnd base (l ++ escL dec s.data.toList) w) := by
  go_enter Tryf.func12, Tryf.ntmps12
  go_wp2
  go_loopw [0, 7] (fun d i wr => ∃ k : Nat, k ≤ s.size ∧ i = .int .i64 k ∧ Own wr base d (l ++ escL dec (s.data.toList.take k)) ∧ Below base w wr) (fun _ i _ => s.size - (intOf i).toNat)
  case atStart => exact ⟨0, Nat.zero_le _, rfl, by simpa [escL] using hown, Below.refl _ _⟩
  case round =>
    obtain ⟨k, hk, rfl, hd, hbr⟩ := hrel
    have hbz : base ≤ wr.heap.size := by have := hbr.size; omega
    by_cases hlt : k < s.size
    · have hsn : l ++ escL dec (s.data.toList.take (k + 1)) = (l ++ escL dec (s.data.toList.take k)) ++ esc dec s[k] := by rw [take_snoc s k hlt, escL_snoc, List.append_assoc]
      have HS := hsn
      have hlen : (l ++ escL dec (s.data.toList.take k)).length ≤ 1000000000 + 4 * 65536 := by
        have h1 := escL_len dec (s.data.toList.take k)
        have h2 : (s.data.toList.take k).length ≤ k := List.length_take_le _ _
        rw [List.length_append]
        omega
      obtain ⟨l1, Hl1⟩ : ∃ l1, l1 = l ++ escL dec (s.data.toList.take k) := ⟨_, rfl⟩
      obtain ⟨l2, Hl2⟩ : ∃ l2, l2 = l ++ escL dec (s.data.toList.take (k + 1)) := ⟨_, rfl⟩
      rw [← Hl1] at hd hlen HS
      rw [← Hl2] at HS
      have H2 : Hid (l2 = l ++ escL dec (s.data.toList.take (k + 1))) := Hl2
      have H1 : Hid (l2 = l1 ++ esc dec s[k]) := HS
      clear hsn HS Hl1 Hl2
      have hcb : s[k].toNat < 256 := s[k].toNat_lt
      go_wp2_with fail
      refine (plain_call _ _ hcb).mono ?_
      rintro r w1 ⟨rfl, rfl⟩
      cases hp : plainB s[k].toNat with
      | true =>
        go_wp2_with (at_builtin; refine app_bytes _ rfl (.tmp 25) (.tmp 27) rfl base _ l1 rfl (hd.alloc _) ⟨wr.heap.size, 0, none⟩ [s[k]] 1 1 rfl rfl (cellN _ _ _ rfl) (by omega) (by simp; omega) ?_)
        intro v' w2 hown2 hg2
        have hbw := (hd.alloc _).grown hg2 (by simp; omega) (hbr.alloc hbz _)
        have R : Own w2 base v' (l ++ escL dec (s.data.toList.take (k + 1))) := by
          rw [← H2.out, H1.out]
          unfold esc
          rw [if_pos hp]
          exact hown2
        clear hown2 hg2 hd
        go_wp2
        go_roundw
        case rel => exact ⟨k + 1, by omega, by go_num, R, hbw⟩
        case measure => simp [intOf]; omega
      | false =>
        cases dec with
        | true =>
          go_wp2_with (at_builtin; refine app_bytes _ rfl (.tmp 31) (.tmp 42) rfl base _ l1 rfl (hd.alloc _) ⟨wr.heap.size, 0, none⟩ (dec4L s[k]) 4 4 rfl rfl (cellN _ _ _ (dec4 _ hcb)) (by omega) (by simp; omega) ?_)
          intro v' w2 hown2 hg2
          have hbw := (hd.alloc _).grown hg2 (by simp; omega) (hbr.alloc hbz _)
          have R : Own w2 base v' (l ++ escL true (s.data.toList.take (k + 1))) := by
            rw [← H2.out, H1.out]
            rw [esc_dec _ hp]
            exact hown2
          clear hown2 hg2 hd
          go_wp2
          go_roundw
          case rel => exact ⟨k + 1, by omega, by go_num, R, hbw⟩
          case measure => simp [intOf]; omega
        | false =>
          go_wp2_with (at_builtin; refine app_bytes _ rfl (.tmp 18) (.tmp 20) rfl base _ l1 rfl (hd.alloc _) ⟨wr.heap.size, 0, none⟩ [92, s[k]] 2 2 rfl rfl (cellN _ _ _ rfl) (by omega) (by simp; omega) ?_)
          intro v' w2 hown2 hg2
          have hbw := (hd.alloc _).grown hg2 (by simp; omega) (hbr.alloc hbz _)
          have R : Own w2 base v' (l ++ escL false (s.data.toList.take (k + 1))) := by
            rw [← H2.out, H1.out]
            unfold esc
            rw [if_neg (by rw [hp]; simp), if_neg (by simp)]
            exact hown2
          clear hown2 hg2 hd
          go_wp2
          go_roundw
          case rel => exact ⟨k + 1, by omega, by go_num, R, hbw⟩
          case measure => simp [intOf]; omega
    · have hkl : s.size = k := by omega
      subst hkl
      go_wp2
      go_ret
      refine ⟨_, rfl, ?_, hbr⟩
      rw [List.take_of_length_le (by simp)] at hd
      exact hd

end Go.Proofs.Qxb6002376aFmt
