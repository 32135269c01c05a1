/- The plain law: names written out and read again. No program in sight. -/
namespace Go.Proofs.Qxb6002376aFmt
set_option linter.unusedVariables false
set_option linter.unusedSimpArgs false

abbrev Bytes := List UInt8

/-- Is it written as it is? -/
def plainB (n : Nat) : Bool := (97 ≤ n && n ≤ 122) || (65 ≤ n && n ≤ 90) || (48 ≤ n && n ≤ 57) || n == 45

/-- One byte, written out. -/
def esc (dec : Bool) (c : UInt8) : Bytes :=
  if plainB c.toNat then [c] else if dec then [92, UInt8.ofNat (48 + c.toNat / 100), UInt8.ofNat (48 + c.toNat / 10 % 10), UInt8.ofNat (48 + c.toNat % 10)] else [92, c]

def escL (dec : Bool) (l : Bytes) : Bytes := l.flatMap (esc dec)

/-- A token: a byte of a label, or the dot that ends one. -/
abbrev Tok := Option UInt8
def tokB (dec : Bool) : Tok → Bytes
  | none => [46]
  | some c => esc dec c
def text (dec : Bool) (ts : List Tok) : Bytes := ts.flatMap (tokB dec)

/-- The state of the reader: the wire form so far, the label so far, whether the last was a dot. -/
abbrev St := Bytes × Bytes × Bool
def goodL (l : Bytes) : Bool := decide (0 < l.length) && decide (l.length ≤ 63)
def endL (w l : Bytes) : Bytes := w ++ (UInt8.ofNat l.length :: l)
def stepO : Option St → Tok → Option St
  | none, _ => none
  | some (w, l, _), none => if goodL l then some (endL w l, [], true) else none
  | some (w, l, _), some c => some (w, l ++ [c], false)
def runTo (ts : List Tok) (n : Nat) : Option St := (ts.take n).foldl stepO (some ([], [], false))
def finO : St → Option Bytes
  | (w, l, d) => if d then (if w.length + 1 ≤ 255 then some w else none) else if goodL l then (if (endL w l).length + 1 ≤ 255 then some (endL w l) else none) else none
def parseT (ts : List Tok) : Option Bytes := (runTo ts ts.length).bind finO

theorem runTo_succ (ts : List Tok) (n : Nat) (h : n < ts.length) : runTo ts (n + 1) = stepO (runTo ts n) ts[n] := by
  unfold runTo
  rw [List.take_succ_eq_append_getElem h, List.foldl_append]
  rfl

theorem foldl_none (ts : List Tok) : ts.foldl stepO none = none := by
  induction ts with
  | nil => rfl
  | cons t ts ih => simpa [stepO] using ih

theorem runTo_none (ts : List Tok) (n : Nat) (h : runTo ts n = none) : parseT ts = none := by
  have e : runTo ts ts.length = none := by
    unfold runTo at h ⊢
    rw [List.take_length]
    have : ts = ts.take n ++ ts.drop n := (List.take_append_drop n ts).symm
    rw [this, List.foldl_append, h, foldl_none]
  unfold parseT
  rw [e]
  rfl

/-! ### The labels' tokens -/
/-- The tokens of the first k labels. -/
def toksTo (S : Nat → Bytes) : Nat → List Tok
  | 0 => []
  | k + 1 => toksTo S k ++ ((if 0 < k then [none] else []) ++ (S k).map some)

/-- The wire form of the first k labels. -/
def wireTo (S : Nat → Bytes) : Nat → Bytes
  | 0 => []
  | k + 1 => endL (wireTo S k) (S k)

theorem foldl_some (l : Bytes) : ∀ (w l0 : Bytes) (d : Bool), (l.map some).foldl stepO (some (w, l0, d)) = some (w, l0 ++ l, if l = [] then d else false) := by
  induction l with
  | nil => intro w l0 d; simp
  | cons c l ih =>
    intro w l0 d
    simp only [List.map_cons, List.foldl_cons, stepO]
    rw [ih]
    by_cases h : l = [] <;> simp [h]

def allGood (S : Nat → Bytes) (k : Nat) : Prop := ∀ j, j < k → goodL (S j) = true

theorem fold_toks (S : Nat → Bytes) : ∀ k, ∃ d, (S k ≠ [] → d = false) ∧
    ((allGood S k → (toksTo S (k + 1)).foldl stepO (some ([], [], false)) = some (wireTo S k, S k, d)) ∧ (¬ allGood S k → (toksTo S (k + 1)).foldl stepO (some ([], [], false)) = none))
  | 0 => by
    refine ⟨false, fun _ => rfl, fun _ => ?_, fun h => absurd (fun j hj => by omega) h⟩
    simp only [toksTo, Nat.lt_irrefl, if_false, List.nil_append]
    rw [foldl_some]
    by_cases h : S 0 = [] <;> simp [h, wireTo]
  | k + 1 => by
    obtain ⟨d0, _, h1, h2⟩ := fold_toks S k
    have step : ∀ o, (toksTo S (k + 1)).foldl stepO (some ([], [], false)) = o → (toksTo S (k + 2)).foldl stepO (some ([], [], false)) = ((S (k + 1)).map some).foldl stepO (stepO o none) := by
      intro o ho
      show (toksTo S (k + 1) ++ ((if 0 < k + 1 then [none] else []) ++ (S (k + 1)).map some)).foldl stepO _ = _
      rw [List.foldl_append, ho, if_pos (Nat.succ_pos k)]
      rfl
    refine ⟨if S (k + 1) = [] then true else false, fun h => by simp [h], fun hg => ?_, fun hg => ?_⟩
    · have hg' : allGood S k := fun j hj => hg j (by omega)
      rw [step _ (h1 hg')]
      have : goodL (S k) = true := hg k (by omega)
      simp only [stepO, this, if_true]
      rw [foldl_some]
      simp [wireTo]
    · by_cases hk : allGood S k
      · rw [step _ (h1 hk)]
        have : ¬ goodL (S k) = true := fun h => hg (fun j hj => by
          rcases Nat.lt_or_ge j k with hjk | hjk
          · exact hk j hjk
          · obtain rfl : j = k := by omega
            exact h)
        simp only [stepO]
        rw [if_neg this, foldl_none]
      · rw [step _ (h2 hk)]
        simp only [stepO]
        rw [foldl_none]

theorem parse_fold (ts : List Tok) : parseT ts = (ts.foldl stepO (some ([], [], false))).bind finO := by
  unfold parseT runTo
  rw [List.take_length]

theorem all_succ (S : Nat → Bytes) (k : Nat) : allGood S (k + 1) ↔ allGood S k ∧ goodL (S k) = true := by
  constructor
  · intro h
    exact ⟨fun j hj => h j (by omega), h k (by omega)⟩
  · rintro ⟨h1, h2⟩ j hj
    rcases Nat.lt_or_ge j k with hjk | hjk
    · exact h1 j hjk
    · obtain rfl : j = k := by omega
      exact h2

/-- THE LAW: what the reader makes of the labels written out. -/
theorem parse_yes (S : Nat → Bytes) (k : Nat) (hl : S k ≠ []) (tb : Bool) (hg : allGood S (k + 1)) (h255 : (wireTo S (k + 1)).length + 1 ≤ 255) :
    parseT (toksTo S (k + 1) ++ (if tb then [none] else [])) = some (wireTo S (k + 1)) := by
  obtain ⟨d, hd, h1, h2⟩ := fold_toks S k
  obtain ⟨hk, hgk⟩ := (all_succ S k).1 hg
  have hd' := hd hl
  subst hd'
  rw [parse_fold, List.foldl_append, h1 hk]
  have e : endL (wireTo S k) (S k) = wireTo S (k + 1) := rfl
  cases tb
  · simp only [Bool.false_eq_true, if_false, List.foldl_nil, Option.bind_some, finO, hgk, if_true, e, h255]
  · simp only [if_true, List.foldl_cons, List.foldl_nil, stepO, hgk, e, Option.bind_some, finO, h255]

theorem parse_no (S : Nat → Bytes) (k : Nat) (hl : S k ≠ []) (tb : Bool) (h : ¬ (allGood S (k + 1) ∧ (wireTo S (k + 1)).length + 1 ≤ 255)) :
    parseT (toksTo S (k + 1) ++ (if tb then [none] else [])) = none := by
  obtain ⟨d, hd, h1, h2⟩ := fold_toks S k
  have hd' := hd hl
  subst hd'
  rw [parse_fold, List.foldl_append]
  by_cases hk : allGood S k
  · rw [h1 hk]
    have e : endL (wireTo S k) (S k) = wireTo S (k + 1) := rfl
    by_cases hgk : goodL (S k) = true
    · have h3 : ¬ (wireTo S (k + 1)).length + 1 ≤ 255 := fun h4 => h ⟨(all_succ S k).2 ⟨hk, hgk⟩, h4⟩
      cases tb
      · simp only [Bool.false_eq_true, if_false, List.foldl_nil, Option.bind_some, finO, hgk, if_true, e, h3]
      · simp only [if_true, List.foldl_cons, List.foldl_nil, stepO, hgk, e, Option.bind_some, finO, h3, if_false]
    · cases tb
      · simp only [Bool.false_eq_true, if_false, List.foldl_nil, Option.bind_some, finO, hgk]
      · simp only [if_true, List.foldl_cons, List.foldl_nil, stepO, hgk, if_false, Option.bind_none, Bool.false_eq_true]
  · rw [h2 hk, foldl_none]
    rfl

/-! ### The text and its places -/
/-- Where the token n begins. -/
def pos (dec : Bool) (ts : List Tok) (n : Nat) : Nat := (text dec (ts.take n)).length

theorem text_split (dec : Bool) (ts : List Tok) (n : Nat) (h : n < ts.length) : text dec ts = text dec (ts.take n) ++ (tokB dec ts[n] ++ text dec (ts.drop (n + 1))) := by
  have e : ts = ts.take n ++ (ts[n] :: ts.drop (n + 1)) := by
    rw [← List.drop_eq_getElem_cons h, List.take_append_drop]
  rw [show text dec ts = text dec (ts.take n ++ (ts[n] :: ts.drop (n + 1))) from congrArg (text dec) e]
  simp only [text, List.flatMap_append, List.flatMap_cons]

theorem pos_succ (dec : Bool) (ts : List Tok) (n : Nat) (h : n < ts.length) : pos dec ts (n + 1) = pos dec ts n + (tokB dec ts[n]).length := by
  unfold pos
  rw [List.take_succ_eq_append_getElem h]
  simp only [text, List.flatMap_append, List.length_append, List.flatMap_cons, List.flatMap_nil, List.append_nil]

/-- The bytes of token n, where they lie. -/
theorem at_tok (dec : Bool) (ts : List Tok) (n j : Nat) (h : n < ts.length) (hj : j < (tokB dec ts[n]).length) : (text dec ts)[pos dec ts n + j]? = some ((tokB dec ts[n])[j]) := by
  rw [text_split dec ts n h]
  unfold pos
  rw [List.getElem?_append_right (by omega), Nat.add_sub_cancel_left, List.getElem?_append_left hj]
  exact List.getElem?_eq_getElem hj

theorem pos_lt (dec : Bool) (ts : List Tok) (n : Nat) (h : n < ts.length) : pos dec ts n + (tokB dec ts[n]).length ≤ (text dec ts).length := by
  rw [text_split dec ts n h]
  simp [pos]

theorem tokB_pos (dec : Bool) (t : Tok) : 0 < (tokB dec t).length := by
  cases t with
  | none => simp [tokB]
  | some c =>
    simp only [tokB, esc]
    split
    · simp
    · split <;> simp

theorem pos_all (dec : Bool) (ts : List Tok) : pos dec ts ts.length = (text dec ts).length := by unfold pos; rw [List.take_length]

theorem pos_ge (dec : Bool) (ts : List Tok) : ∀ n, n ≤ ts.length → n ≤ pos dec ts n
  | 0, _ => Nat.zero_le _
  | n + 1, h => by
    have := pos_ge dec ts n (by omega)
    have h2 := pos_succ dec ts n (by omega)
    have h3 := tokB_pos dec ts[n]
    omega

theorem esc_len (dec : Bool) (c : UInt8) : (esc dec c).length ≤ 4 := by
  unfold esc
  split
  · simp
  · split <;> simp

/-- A byte of a label shows in the text: it is neither empty nor a lone dot. -/
theorem text_not_dot (dec : Bool) (ts : List Tok) (c : UInt8) (h : some c ∈ ts) : text dec ts ≠ [] ∧ text dec ts ≠ [46] := by
  have hb : ∃ b ∈ esc dec c, b ≠ 46 := by
    unfold esc
    split
    · rename_i hp
      refine ⟨c, by simp, fun e => ?_⟩
      subst e
      simp [plainB] at hp
    · split
      · exact ⟨92, by simp, by decide⟩
      · exact ⟨92, by simp, by decide⟩
  obtain ⟨b, hb1, hb2⟩ := hb
  have hm : b ∈ text dec ts := List.mem_flatMap.2 ⟨some c, h, hb1⟩
  constructor
  · intro e; rw [e] at hm; cases hm
  · intro e; rw [e] at hm; simp at hm; exact hb2 hm

theorem text_append (dec : Bool) (a b : List Tok) : text dec (a ++ b) = text dec a ++ text dec b := by simp [text, List.flatMap_append]
theorem text_some (dec : Bool) (l : Bytes) : text dec (l.map some) = escL dec l := by
  unfold text escL
  induction l with
  | nil => rfl
  | cons c l ih => simp only [List.map_cons, List.flatMap_cons, ih]; rfl
theorem text_none (dec : Bool) : text dec [none] = [46] := rfl

end Go.Proofs.Qxb6002376aFmt
