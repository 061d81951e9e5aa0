/- a part of the proof: FnSemverBroken: for every list of lists of terms, every style and every byte the law's function returns true and leaves its arguments as they were. No condition is added: the statement is the given one, the tied card. -/
import Derived.Test.YthejepmnnpmdmaaGreatDoorNA
section
/-! The search from one place on, and all matches of the terms' program in a list's text. -/
namespace Go.Proofs.YthejepmnnpmdmaaGreatDoor.Rx
/-- the first place at or behind p from which f gives something; from place to place by the runes' widths -/
def srch (E : Env) (N : Nat) (f : K) : Nat → Nat → Option (Nat × List (Nat × Nat))
  | 0, _ => none
  | n + 1, p => if N < p then none else match f p with
    | some t => some (p, t)
    | none => if (E.step p).2 = 0 then none else srch E N f n (p + (E.step p).2)
theorem srch_yes {E N f n p t} (hp : p ≤ N) (h : f p = some t) : srch E N f (n + 1) p = some (p, t) := by
  simp [srch, h, Nat.not_lt.2 hp]
theorem srch_no {E N f n p} (hp : p ≤ N) (h : f p = none) (hw : (E.step p).2 = 1) : srch E N f (n + 1) p = srch E N f n (p + 1) := by
  simp [srch, h, Nat.not_lt.2 hp, hw]
/-- over a stretch of bytes below 128 from which nothing is found -/
theorem srch_skip {E : Env} {s : Bs} (T : Txt E s) {f : K} : ∀ (r : Bs) (p n : Nat) (l : Bs), s.drop p = r ++ l → (∀ x ∈ r, x.toNat < 128) → (∀ j, j < r.length → f (p + j) = none) → srch E s.length f (n + r.length) p = srch E s.length f n (p + r.length)
  | [], p, n, l, _, _, _ => rfl
  | x :: r, p, n, l, h, hr, hf => by
    have hx : s[p]? = some x := by rw [← List.head?_drop, h]; rfl
    have hp := (List.getElem?_eq_some_iff.1 hx).1
    have hs := T.asc p x hx (hr x (by simp))
    have e : n + (x :: r).length = (n + r.length) + 1 := by simp; omega
    rw [e, srch_no (Nat.le_of_lt hp) (hf 0 (by simp)) (by rw [hs]), srch_skip T r (p + 1) n l (drop_one h) (fun y hy => hr y (by simp [hy])) (fun j hj => by rw [show p + 1 + j = p + (j + 1) by omega]; exact hf (j + 1) (by simp; omega))]
    congr 1
    simp; omega
theorem ws_asc (x : UInt8) (h : ws x = true) : x.toNat < 128 := by
  have := byte_all (p := fun x => !ws x || decide (x.toNat < 128)) (by decide +kernel) x
  simpa [h] using this
theorem srch_nil {E : Env} {s : Bs} (T : Txt E s) {f : K} {n : Nat} (h : f s.length = none) : srch E s.length f n s.length = none := by
  cases n with
  | zero => rfl
  | succ n => simp [srch, h, T.ok.out s.length (Nat.le_refl _)]
/-- how the next term is found: what is passed over, and the term with the blanks ahead of it -/
def lead (x : Sep) : Bs := match x.b2 with | none => x.b1 | some z => z
def gap (x : Sep × Tm) : Bs := match x.1.b2 with
  | none => if x.2.op = [] then [] else x.1.b1
  | some z => x.1.b1 ++ (44 :: (if x.2.op = [] then [] else z))
def skip (x : Sep × Tm) : Nat := (gap x).length
def found (x : Sep × Tm) : Tm := if x.2.op = [] then { x.2 with blank := lead x.1 } else x.2
theorem found_ok {x : Sep × Tm} (h1 : x.1.Ok) (h2 : x.2.Ok) : (found x).Ok := by
  unfold found
  split
  · next h => exact ⟨h2.op, fun y hy => by
      unfold lead at hy
      cases hb : x.1.b2 with
      | none => rw [hb] at hy; exact h1.b1 y hy
      | some z => rw [hb] at hy; exact h1.b2 z hb y hy, h2.ver⟩
  · exact h2
theorem op_head {op : Bs} (h : op ∈ opTexts) (h0 : op ≠ []) : ∃ y l, op = y :: l ∧ opByte y = true := by
  simp only [opTexts, List.mem_cons, List.not_mem_nil, or_false] at h
  rcases h with rfl | rfl | rfl | rfl | rfl | rfl | rfl | rfl | rfl | rfl | rfl | rfl
  · exact absurd rfl h0
  all_goals exact ⟨_, _, rfl, by decide⟩
theorem text_found {x : Sep × Tm} (h0 : x.2.op = [] → x.2.blank = []) : x.1.text ++ x.2.text = gap x ++ (found x).text := by
  obtain ⟨⟨b1, b2⟩, ⟨op, bl, v⟩⟩ := x
  by_cases ho : op = []
  · subst ho
    have hb : bl = [] := h0 rfl
    subst hb
    cases b2 with
    | none => simp [gap, found, lead, Sep.text, ctext, Tm.text]
    | some z => simp [gap, found, lead, Sep.text, ctext, Tm.text]
  · cases b2 with
    | none => simp [gap, found, Sep.text, ctext, Tm.text, ho]
    | some z => simp [gap, found, Sep.text, ctext, Tm.text, ho]
theorem find_next {E : Env} {s : Bs} (T : Txt E s) {x : Sep × Tm} {l : List (Sep × Tm)} {p n : Nat} (h : s.drop p = ltail (x :: l)) (hl : LOk (x :: l)) :
    srch E s.length (findS s) (n + skip x + 1) p = some (p + skip x, tcaps 2 (p + skip x) (found x) ++ [(1, p + skip x + (found x).text.length)]) := by
  obtain ⟨h1, h2, h0⟩ := hl x (by simp)
  have hl' : LOk l := fun y hy => hl y (by simp [hy])
  have e1 := text_found h0
  have hd : s.drop p = gap x ++ ((found x).text ++ ltail l) := by
    rw [h]
    simp only [ltail, List.flatMap_cons]
    rw [← List.append_assoc (gap x), ← e1]
  have hd2 : s.drop (p + skip x) = (found x).text ++ ltail l := drop_add hd
  have hf := find_eval (found_ok h1 h2) hd2 (ltail_stop hl')
  have hlt : p + skip x < s.length := by
    obtain ⟨y, r, hy, _⟩ := ver_head (found_ok h1 h2).ver
    cases hc : s.drop (p + skip x) with
    | nil => rw [hc] at hd2; have := congrArg List.length hd2; simp [Tm.text, hy] at this
    | cons a b => exact drop_le hc
  rw [show n + skip x + 1 = (n + 1) + skip x by omega]
  have hsk : (∀ y ∈ gap x, y.toNat < 128) → (∀ j, j < skip x → findS s (p + j) = none) → srch E s.length (findS s) ((n + 1) + skip x) p = srch E s.length (findS s) (n + 1) (p + skip x) := srch_skip T (f := findS s) (gap x) p (n + 1) _ hd
  rw [hsk, srch_yes (Nat.le_of_lt hlt) hf]
  · -- bytes below 128
    intro y hy
    have hy2 : y ∈ x.1.text := by
      unfold gap at hy
      unfold Sep.text ctext
      cases hb : x.1.b2 with
      | none =>
        simp only [hb] at hy
        split at hy
        · cases hy
        · simpa using hy
      | some z =>
        simp only [hb] at hy
        split at hy
        · simp at hy ⊢; rcases hy with h | h <;> simp [h]
        · simp at hy ⊢; exact hy
    unfold Sep.text ctext at hy2
    rcases List.mem_append.1 hy2 with hy2 | hy2
    · exact ws_asc y (h1.b1 y hy2)
    · cases hb : x.1.b2 with
      | none => rw [hb] at hy2; cases hy2
      | some z =>
        rw [hb] at hy2
        rcases List.mem_cons.1 hy2 with rfl | hy2
        · decide
        · exact ws_asc y (h1.b2 z hb y hy2)
  · -- nothing is found ahead
    intro j hj
    have hjl : p + j ≤ s.length := by omega
    obtain ⟨⟨b1, b2⟩, ⟨op, bl, v⟩⟩ := x
    have h' : s.drop p = b1 ++ (ctext b2 ++ (op ++ (bl ++ (v.text ++ ltail l)))) := by rw [h]; simp [ltail, Sep.text, Tm.text]
    have opn : ∀ q, s.drop q = op ++ (bl ++ (v.text ++ ltail l)) → op ≠ [] → ∀ y, (s.drop q).head? = some y → opByte y = true := fun q e ho y hy => by
      obtain ⟨z, r, hz, hz2⟩ := op_head (op := op) h2.op ho
      rw [e, hz] at hy
      cases hy
      exact hz2
    have oph : ∀ y, op ≠ [] → (op ++ (bl ++ (v.text ++ ltail l))).head? = some y → opByte y = true := fun y ho hy => by
      obtain ⟨z, r, hz, hz2⟩ := op_head (op := op) h2.op ho
      have this : op = z :: r := hz
      rw [this] at hy
      cases hy
      exact hz2
    cases b2 with
    | none =>
      have ho : op ≠ [] := fun e => by subst e; simp [skip, gap] at hj
      have hjb : j < b1.length := by simpa [skip, gap, ho] using hj
      have hq : s.drop (p + j) = b1.drop j ++ (op ++ (bl ++ (v.text ++ ltail l))) := by
        rw [← List.drop_drop, h', List.drop_append_of_le_length (Nat.le_of_lt hjb)]; rfl
      exact find_none hq (fun y hy => h1.b1 y (List.mem_of_mem_drop hy)) hjl (fun y hy => by
        have := op_out y (oph y ho hy)
        exact ⟨this.2.2.1, this.2.1, this.1⟩) (fun e => by have := congrArg List.length e; simp at this; omega)
    | some z =>
      by_cases hjb : j ≤ b1.length
      · have hq : s.drop (p + j) = b1.drop j ++ (44 :: (z ++ (op ++ (bl ++ (v.text ++ ltail l))))) := by
          rw [← List.drop_drop, h', List.drop_append_of_le_length hjb]; rfl
        exact find_none hq (fun y hy => h1.b1 y (List.mem_of_mem_drop hy)) hjl (fun y hy => by cases hy; decide) (fun _ y hy => by cases hy; decide)
      · have ho : op ≠ [] := fun e => by subst e; simp [skip, gap] at hj; omega
        have hjz : j < b1.length + 1 + z.length := by simp [skip, gap, ho] at hj; omega
        have hq : s.drop (p + j) = z.drop (j - (b1.length + 1)) ++ (op ++ (bl ++ (v.text ++ ltail l))) := by
          have e3 : s.drop (p + (b1.length + 1)) = z ++ (op ++ (bl ++ (v.text ++ ltail l))) := by
            rw [show p + (b1.length + 1) = p + b1.length + 1 by omega]
            exact drop_one (drop_add h')
          rw [show p + j = p + (b1.length + 1) + (j - (b1.length + 1)) by omega, ← List.drop_drop, e3, List.drop_append_of_le_length (by omega)]
        exact find_none hq (fun y hy => h1.b2 z rfl y (List.mem_of_mem_drop hy)) hjl (fun y hy => by
          have := op_out y (oph y ho hy)
          exact ⟨this.2.2.1, this.2.1, this.1⟩) (fun e => by have := congrArg List.length e; simp at this; omega)
theorem find_end {E : Env} {s : Bs} (T : Txt E s) {n : Nat} : srch E s.length (findS s) n s.length = none :=
  srch_nil T (find_none (B := []) (l := []) (by simp) (by simp) (Nat.le_refl _) (by simp) (by simp))
end Go.Proofs.YthejepmnnpmdmaaGreatDoor.Rx
end
section
/-! What stands in the slots behind a match: the pieces of the text. -/
namespace Go.Proofs.YthejepmnnpmdmaaGreatDoor.Rx
/-- the last place written into a slot -/
def lastW : List (Nat × Nat) → Nat → Option Nat
  | [], _ => none
  | (a, p) :: t, i => (lastW t i).or (if a = i then some p else none)
theorem lastW_append (a b : List (Nat × Nat)) (i : Nat) : lastW (a ++ b) i = (lastW b i).or (lastW a i) := by
  induction a with
  | nil => simp [lastW]
  | cons x a ih => simp [lastW, ih, Option.or_assoc]
theorem applyT_length (t : List (Nat × Nat)) (C : List Int) : (applyT t C).length = C.length := by
  induction t generalizing C with
  | nil => rfl
  | cons x t ih => simp only [applyT, List.foldl_cons]; rw [← applyT, ih, List.length_set]
theorem applyT_get (t : List (Nat × Nat)) : ∀ (C : List Int) (i : Nat), i < C.length → (applyT t C)[i]? = some (match lastW t i with | some p => (p : Int) | none => C.getD i 0) := by
  induction t with
  | nil => intro C i h; simp [applyT, lastW, List.getD, h]
  | cons x t ih =>
    intro C i h
    obtain ⟨a, p⟩ := x
    have e : applyT ((a, p) :: t) C = applyT t (C.set a (p : Int)) := rfl
    rw [e, ih _ _ (by simpa using h)]
    simp only [lastW]
    cases lastW t i with
    | some q => simp
    | none =>
      simp only [Option.none_or, List.getD, List.getElem?_set]
      by_cases hc : a = i
      · subst hc; simp [h]
      · simp [hc]
/-- a piece of the text between two slots; none where the first was never written -/
def piece (s : Bs) (t : List (Nat × Nat)) (i : Nat) : Bs := match lastW t (2 * i), lastW t (2 * i + 1) with
  | some a, some b => (s.drop a).take (b - a)
  | _, _ => []
theorem lastW_icaps {b i : Nat} (h : i ≠ b) (h' : i ≠ b + 1) : ∀ (l : List Bs) (p : Nat), lastW (icaps b p l) i = none
  | [], _ => rfl
  | r :: l, p => by simp [icaps, lastW, lastW_icaps h h' l, Ne.symm h, Ne.symm h']
theorem lastW_pcaps {b p : Nat} (x : Option Bs) (i : Nat) : lastW (pcaps b p x) i = (match x with | none => none | some r => if i = b then some p else if i = b + 1 then some (p + 1 + r.length) else none) := by
  cases x with
  | none => rfl
  | some r =>
    simp only [pcaps, lastW, Option.none_or]
    by_cases h : i = b
    · subst h; simp
    · by_cases h' : i = b + 1
      · subst h'; simp
      · simp [h, h', Ne.symm h, Ne.symm h']
theorem lastW_gcaps {b p : Nat} (x : Option (Bs × List Bs)) (i : Nat) (hi : i < b + 4 ∨ b + 6 ≤ i) : lastW (gcaps b p x) i = (match x with | none => none | some (x, l) => if i = b then some p else if i = b + 1 then some (p + 1 + (x ++ dots l).length) else if i = b + 2 then some (p + 1) else if i = b + 3 then some (p + 1 + (x ++ dots l).length) else none) := by
  cases x with
  | none => rfl
  | some y =>
    obtain ⟨y, l⟩ := y
    simp only [gcaps, lastW, lastW_append, lastW_icaps (b := b + 4) (i := i) (by omega) (by omega), Option.none_or, Option.or_none]
    by_cases h0 : i = b
    · subst h0; simp
    · by_cases h1 : i = b + 1
      · subst h1; simp
      · by_cases h2 : i = b + 2
        · subst h2; simp
        · by_cases h3 : i = b + 3
          · subst h3; simp
          · simp [h0, h1, h2, h3, Ne.symm h0, Ne.symm h1, Ne.symm h2, Ne.symm h3]
theorem take_mid {s A B C : Bs} (h : s = A ++ (B ++ C)) : (s.drop A.length).take (A.length + B.length - A.length) = B := by
  subst h
  simp
theorem take_mid' {s B C : Bs} {p q : Nat} (h : s.drop p = B ++ C) (hq : q = p + B.length) : (s.drop p).take (q - p) = B := by
  subst hq
  rw [h]
  simp

/-- where a version's pieces lie -/
structure At (s : Bs) (q : Nat) (x : Ver) (l : Bs) : Prop where
  h : s.drop q = x.text ++ l
def Ver.q0 (x : Ver) (q : Nat) : Nat := q + (if x.v then 1 else 0)
def Ver.q1 (x : Ver) (q : Nat) : Nat := x.q0 q + x.p1.length
def Ver.q2 (x : Ver) (q : Nat) : Nat := x.q1 q + (ptext x.p2).length
def Ver.q3 (x : Ver) (q : Nat) : Nat := x.q2 q + (ptext x.p3).length
def Ver.q4 (x : Ver) (q : Nat) : Nat := x.q3 q + (gtext 45 x.pre).length
theorem At.d0 {s q x l} (a : At s q x l) : s.drop (x.q0 q) = x.p1 ++ (ptext x.p2 ++ (ptext x.p3 ++ (gtext 45 x.pre ++ (gtext 43 x.meta_ ++ l)))) := by
  have h := a.h
  simp only [Ver.text, List.append_assoc] at h
  unfold Ver.q0
  cases hv : x.v with
  | false => simpa [hv] using h
  | true => exact drop_one (by simpa [hv] using h)
theorem At.d1 {s q x l} (a : At s q x l) : s.drop (x.q1 q) = ptext x.p2 ++ (ptext x.p3 ++ (gtext 45 x.pre ++ (gtext 43 x.meta_ ++ l))) := drop_add a.d0
theorem At.d2 {s q x l} (a : At s q x l) : s.drop (x.q2 q) = ptext x.p3 ++ (gtext 45 x.pre ++ (gtext 43 x.meta_ ++ l)) := drop_add a.d1
theorem At.d3 {s q x l} (a : At s q x l) : s.drop (x.q3 q) = gtext 45 x.pre ++ (gtext 43 x.meta_ ++ l) := drop_add a.d2
theorem At.d4 {s q x l} (a : At s q x l) : s.drop (x.q4 q) = gtext 43 x.meta_ ++ l := drop_add a.d3
theorem Ver.caps_eq (x : Ver) (b q : Nat) : x.caps b q = (b, x.q0 q) :: (b + 1, x.q1 q) :: (pcaps (b + 2) (x.q1 q) x.p2 ++ (pcaps (b + 4) (x.q2 q) x.p3 ++ (gcaps (b + 6) (x.q3 q) x.pre ++ gcaps (b + 12) (x.q4 q) x.meta_))) := rfl
theorem piece_of {s : Bs} {t : List (Nat × Nat)} {i a b : Nat} {B C : Bs} (ha : lastW t (2 * i) = some a) (hb : lastW t (2 * i + 1) = some b) (h : s.drop a = B ++ C) (e : b = a + B.length) : piece s t i = B := by
  unfold piece
  rw [ha, hb]
  exact take_mid' h e
theorem piece_none {s : Bs} {t : List (Nat × Nat)} {i : Nat} (ha : lastW t (2 * i) = none) : piece s t i = [] := by
  unfold piece
  rw [ha]
/-- the slots of a version's block -/
theorem ver_slot (x : Ver) (b q i : Nat) (hi : i < 4) : lastW (x.caps b q) (b + 2 + i) = lastW (pcaps (b + 2) (x.q1 q) x.p2 ++ pcaps (b + 4) (x.q2 q) x.p3) (b + 2 + i) := by
  rw [Ver.caps_eq]
  simp only [lastW, lastW_append]
  rw [lastW_gcaps _ _ (.inl (by omega)), lastW_gcaps _ _ (.inl (by omega))]
  have : ∀ (c : Nat) (y : Option (Bs × List Bs)) (p : Nat), b + 2 + i < c → (match y with | none => none | some (x, l) => if b + 2 + i = c then some p else if b + 2 + i = c + 1 then some (p + 1 + (x ++ dots l).length) else if b + 2 + i = c + 2 then some (p + 1) else if b + 2 + i = c + 3 then some (p + 1 + (x ++ dots l).length) else none) = (none : Option Nat) := by
    intro c y p hc
    cases y with
    | none => rfl
    | some z => obtain ⟨z, l⟩ := z; simp only []; rw [if_neg (by omega), if_neg (by omega), if_neg (by omega), if_neg (by omega)]
  rw [this _ _ _ (by omega), this _ _ _ (by omega)]
  rw [if_neg (by omega), if_neg (by omega)]
  simp
theorem ver_p1 (x : Ver) (b q : Nat) : lastW (x.caps b q) b = some (x.q0 q) ∧ lastW (x.caps b q) (b + 1) = some (x.q1 q) := by
  rw [Ver.caps_eq]
  have n : ∀ (i c : Nat) (y : Option (Bs × List Bs)) (p : Nat), i < c → lastW (gcaps c p y) i = none := by
    intro i c y p hc
    rw [lastW_gcaps _ _ (.inl (by omega))]
    cases y with
    | none => rfl
    | some z => obtain ⟨z, l⟩ := z; simp only []; rw [if_neg (by omega), if_neg (by omega), if_neg (by omega), if_neg (by omega)]
  have n2 : ∀ (i c : Nat) (y : Option Bs) (p : Nat), i < c → lastW (pcaps c p y) i = none := by
    intro i c y p hc
    rw [lastW_pcaps]
    cases y with
    | none => rfl
    | some z => simp only []; rw [if_neg (by omega), if_neg (by omega)]
  constructor
  · simp only [lastW, lastW_append]
    rw [n _ _ _ _ (by omega), n _ _ _ _ (by omega), n2 _ _ _ _ (by omega), n2 _ _ _ _ (by omega)]
    simp
  · simp only [lastW, lastW_append]
    rw [n _ _ _ _ (by omega), n _ _ _ _ (by omega), n2 _ _ _ _ (by omega), n2 _ _ _ _ (by omega)]
    simp
theorem g_none (i c : Nat) (y : Option (Bs × List Bs)) (p : Nat) (hc : i < c ∨ c + 6 ≤ i) : lastW (gcaps c p y) i = none := by
  rw [lastW_gcaps _ _ (by omega)]
  cases y with
  | none => rfl
  | some z => obtain ⟨z, l⟩ := z; simp only []; rw [if_neg (by omega), if_neg (by omega), if_neg (by omega), if_neg (by omega)]
theorem p_none (i c : Nat) (y : Option Bs) (p : Nat) (hc : i < c ∨ c + 2 ≤ i) : lastW (pcaps c p y) i = none := by
  rw [lastW_pcaps]
  cases y with
  | none => rfl
  | some z => simp only []; rw [if_neg (by omega), if_neg (by omega)]
theorem ver_slots (x : Ver) (b q : Nat) :
    (∀ i, i < 2 → lastW (x.caps b q) (b + 2 + i) = lastW (pcaps (b + 2) (x.q1 q) x.p2) (b + 2 + i)) ∧
    (∀ i, i < 2 → lastW (x.caps b q) (b + 4 + i) = lastW (pcaps (b + 4) (x.q2 q) x.p3) (b + 4 + i)) ∧
    (∀ i, i < 4 → lastW (x.caps b q) (b + 6 + i) = lastW (gcaps (b + 6) (x.q3 q) x.pre) (b + 6 + i)) ∧
    (∀ i, i < 4 → lastW (x.caps b q) (b + 12 + i) = lastW (gcaps (b + 12) (x.q4 q) x.meta_) (b + 12 + i)) := by
  rw [Ver.caps_eq]
  refine ⟨fun i hi => ?_, fun i hi => ?_, fun i hi => ?_, fun i hi => ?_⟩ <;> simp only [lastW, lastW_append]
  · rw [g_none _ _ _ _ (.inl (by omega)), g_none _ _ _ _ (.inl (by omega)), p_none _ (b + 4) _ _ (.inl (by omega)), if_neg (by omega), if_neg (by omega)]; simp
  · rw [g_none _ _ _ _ (.inl (by omega)), g_none _ _ _ _ (.inl (by omega)), p_none _ (b + 2) _ _ (.inr (by omega)), if_neg (by omega), if_neg (by omega)]; simp
  · rw [g_none _ (b + 12) _ _ (.inl (by omega)), p_none _ (b + 4) _ _ (.inr (by omega)), p_none _ (b + 2) _ _ (.inr (by omega)), if_neg (by omega), if_neg (by omega)]; simp
  · rw [g_none _ (b + 6) _ _ (.inr (by omega)), p_none _ (b + 4) _ _ (.inr (by omega)), p_none _ (b + 2) _ _ (.inr (by omega)), if_neg (by omega), if_neg (by omega)]; simp
theorem lastW_app_none {a b : List (Nat × Nat)} {i : Nat} (h : lastW b i = none) : lastW (a ++ b) i = lastW a i := by rw [lastW_append, h]; simp
theorem lastW_cons_none {a p i : Nat} {t : List (Nat × Nat)} (h : a ≠ i) : lastW ((a, p) :: t) i = lastW t i := by simp [lastW, h]
def gpre : Option (Bs × List Bs) → Bs
  | none => []
  | some (x, l) => x ++ dots l
/-- the pieces of a version's block in a trace that agrees with its slots -/
structure VSlots (t : List (Nat × Nat)) (x : Ver) (b q : Nat) : Prop where
  eq : ∀ i, b ≤ i → i < b + 16 → lastW t i = lastW (x.caps b q) i
theorem VSlots.pieces {s : Bs} {t x q l} {c : Nat} (a : At s q x l) (v : VSlots t x (2 * c) q) :
    piece s t c = x.p1 ∧ piece s t (c + 1) = ptext x.p2 ∧ piece s t (c + 2) = ptext x.p3 ∧ piece s t (c + 3) = gtext 45 x.pre ∧ piece s t (c + 4) = gpre x.pre ∧ piece s t (c + 7) = gpre x.meta_ := by
  obtain ⟨s1, s2, s3, s4⟩ := ver_slots x (2 * c) q
  obtain ⟨u1, u2⟩ := ver_p1 x (2 * c) q
  have e := v.eq
  refine ⟨?_, ?_, ?_, ?_, ?_, ?_⟩
  · exact piece_of (by rw [e _ (by omega) (by omega)]; exact u1) (by rw [e _ (by omega) (by omega)]; exact u2) a.d0 rfl
  · cases hx : x.p2 with
    | none =>
      refine piece_none ?_
      rw [e _ (by omega) (by omega), show 2 * (c + 1) = 2 * c + 2 + 0 by omega, s1 0 (by omega), hx]; rfl
    | some r =>
      refine piece_of (a := x.q1 q) (b := x.q1 q + 1 + r.length) ?_ ?_ (by rw [a.d1, hx]) (by simp [ptext]; omega)
      · rw [e _ (by omega) (by omega), show 2 * (c + 1) = 2 * c + 2 + 0 by omega, s1 0 (by omega), hx, lastW_pcaps]; simp
      · rw [e _ (by omega) (by omega), show 2 * (c + 1) + 1 = 2 * c + 2 + 1 by omega, s1 1 (by omega), hx, lastW_pcaps]; simp
  · cases hx : x.p3 with
    | none =>
      refine piece_none ?_
      rw [e _ (by omega) (by omega), show 2 * (c + 2) = 2 * c + 4 + 0 by omega, s2 0 (by omega), hx]; rfl
    | some r =>
      refine piece_of (a := x.q2 q) (b := x.q2 q + 1 + r.length) ?_ ?_ (by rw [a.d2, hx]) (by simp [ptext]; omega)
      · rw [e _ (by omega) (by omega), show 2 * (c + 2) = 2 * c + 4 + 0 by omega, s2 0 (by omega), hx, lastW_pcaps]; simp
      · rw [e _ (by omega) (by omega), show 2 * (c + 2) + 1 = 2 * c + 4 + 1 by omega, s2 1 (by omega), hx, lastW_pcaps]; simp
  · cases hx : x.pre with
    | none =>
      refine piece_none ?_
      rw [e _ (by omega) (by omega), show 2 * (c + 3) = 2 * c + 6 + 0 by omega, s3 0 (by omega), hx]; rfl
    | some r =>
      obtain ⟨r, rs⟩ := r
      refine piece_of (a := x.q3 q) (b := x.q3 q + 1 + (r ++ dots rs).length) ?_ ?_ (by rw [a.d3, hx]) (by simp [gtext]; omega)
      · rw [e _ (by omega) (by omega), show 2 * (c + 3) = 2 * c + 6 + 0 by omega, s3 0 (by omega), hx, lastW_gcaps _ _ (.inl (by omega))]; simp
      · rw [e _ (by omega) (by omega), show 2 * (c + 3) + 1 = 2 * c + 6 + 1 by omega, s3 1 (by omega), hx, lastW_gcaps _ _ (.inl (by omega))]; simp
  · cases hx : x.pre with
    | none =>
      refine piece_none ?_
      rw [e _ (by omega) (by omega), show 2 * (c + 4) = 2 * c + 6 + 2 by omega, s3 2 (by omega), hx]; rfl
    | some r =>
      obtain ⟨r, rs⟩ := r
      refine piece_of (a := x.q3 q + 1) (b := x.q3 q + 1 + (r ++ dots rs).length) (B := r ++ dots rs) (C := gtext 43 x.meta_ ++ l) ?_ ?_ (drop_one (by rw [a.d3, hx]; rfl)) rfl
      · rw [e _ (by omega) (by omega), show 2 * (c + 4) = 2 * c + 6 + 2 by omega, s3 2 (by omega), hx, lastW_gcaps _ _ (.inl (by omega))]; simp
      · rw [e _ (by omega) (by omega), show 2 * (c + 4) + 1 = 2 * c + 6 + 3 by omega, s3 3 (by omega), hx, lastW_gcaps _ _ (.inl (by omega))]; simp
  · cases hx : x.meta_ with
    | none =>
      refine piece_none ?_
      rw [e _ (by omega) (by omega), show 2 * (c + 7) = 2 * c + 12 + 2 by omega, s4 2 (by omega), hx]; rfl
    | some r =>
      obtain ⟨r, rs⟩ := r
      refine piece_of (a := x.q4 q + 1) (b := x.q4 q + 1 + (r ++ dots rs).length) (B := r ++ dots rs) (C := l) ?_ ?_ (drop_one (by rw [a.d4, hx]; rfl)) rfl
      · rw [e _ (by omega) (by omega), show 2 * (c + 7) = 2 * c + 12 + 2 by omega, s4 2 (by omega), hx, lastW_gcaps _ _ (.inl (by omega))]; simp
      · rw [e _ (by omega) (by omega), show 2 * (c + 7) + 1 = 2 * c + 12 + 3 by omega, s4 3 (by omega), hx, lastW_gcaps _ _ (.inl (by omega))]; simp
theorem caps_low (x : Ver) (b q i : Nat) (hi : i < b) : lastW (x.caps b q) i = none := by
  rw [Ver.caps_eq]
  simp only [lastW, lastW_append]
  rw [g_none _ _ _ _ (.inl (by omega)), g_none _ _ _ _ (.inl (by omega)), p_none _ _ _ _ (.inl (by omega)), p_none _ _ _ _ (.inl (by omega)), if_neg (by omega), if_neg (by omega)]; rfl
/-- the pieces of a term -/
theorem term_pieces {s l : Bs} {x : Tm} {p e : Nat} (h : s.drop p = x.text ++ l) :
    let t := tcaps 2 p x ++ [(1, e)]
    piece s t 1 = x.op ∧ piece s t 2 = x.ver.text ∧ piece s t 3 = x.ver.p1 ∧ piece s t 4 = ptext x.ver.p2 ∧ piece s t 5 = ptext x.ver.p3 ∧ piece s t 6 = gtext 45 x.ver.pre := by
  intro t
  have h0 : s.drop p = x.op ++ (x.blank ++ (x.ver.text ++ l)) := by rw [h]; simp [Tm.text]
  have h1 := drop_add h0
  have h2 := drop_add h1
  have a : At s (p + x.op.length + x.blank.length) x.ver l := ⟨h2⟩
  have v : VSlots t x.ver (2 * 3) (p + x.op.length + x.blank.length) := ⟨fun i hi hi2 => by
    have e1 : lastW [(1, e)] i = none := by simp [lastW]; omega
    have e2 : lastW [(2 + 3, p + x.text.length)] i = none := by simp [lastW]; omega
    show lastW (tcaps 2 p x ++ [(1, e)]) i = _
    rw [lastW_app_none e1]
    unfold tcaps
    rw [lastW_cons_none (by omega), lastW_cons_none (by omega), lastW_cons_none (by omega), lastW_app_none e2]⟩
  obtain ⟨q1, q2, q3, q4, _, _⟩ := v.pieces a
  have low : ∀ i, i < 6 → i ≠ 1 → lastW t i = (lastW [(2 + 3, p + x.text.length)] i).or (if i = 4 then some (p + x.op.length + x.blank.length) else if i = 3 then some (p + x.op.length) else if i = 2 then some p else none) := by
    intro i hi h1
    have e1 : lastW [(1, e)] i = none := by simp [lastW]; omega
    show lastW (tcaps 2 p x ++ [(1, e)]) i = _
    rw [lastW_app_none e1]
    unfold tcaps
    simp only [lastW, lastW_append, caps_low x.ver (2 + 4) _ i (by omega), Option.none_or, Option.or_none]
    by_cases c4 : i = 4
    · subst c4; simp
    · by_cases c3 : i = 3
      · subst c3; simp
      · by_cases c2 : i = 2
        · subst c2; simp
        · simp [c4, c3, c2, Ne.symm c4, Ne.symm c3, Ne.symm c2]
  refine ⟨?_, ?_, q1, q2, q3, q4⟩
  · exact piece_of (by rw [low (2 * 1) (by omega) (by omega)]; rfl) (by rw [low (2 * 1 + 1) (by omega) (by omega)]; rfl) h0 rfl
  · refine piece_of (a := p + x.op.length + x.blank.length) (b := p + x.text.length) (by rw [low (2 * 2) (by omega) (by omega)]; rfl) (by rw [low (2 * 2 + 1) (by omega) (by omega)]; rfl) h2 ?_
    simp [Tm.text]; omega
theorem loose_pieces (x : Ver) (e : Nat) :
    let t := x.caps 2 0 ++ [(1, e)]
    piece x.text t 1 = x.p1 ∧ piece x.text t 2 = ptext x.p2 ∧ piece x.text t 3 = ptext x.p3 ∧ piece x.text t 4 = gtext 45 x.pre ∧ piece x.text t 5 = gpre x.pre ∧ piece x.text t 8 = gpre x.meta_ := by
  intro t
  have a : At x.text 0 x [] := ⟨by simp⟩
  have v : VSlots t x (2 * 1) 0 := ⟨fun i hi hi2 => lastW_app_none (by simp [lastW]; omega)⟩
  exact v.pieces a
end Go.Proofs.YthejepmnnpmdmaaGreatDoor.Rx
end
section
set_option linter.unusedVariables false
/-! Lists of terms with blanks behind the last one, and ahead of the first. -/
namespace Go.Proofs.YthejepmnnpmdmaaGreatDoor.Rx
theorem stop_R {l : List (Sep × Tm)} {R : Bs} (h : LOk l) (hR : ∀ y ∈ R, ws y = true) : Stops pB iB (ltail l ++ R) := fun y hy => by
  cases l with
  | nil => exact ws_stop _ (hR y (List.mem_of_mem_head? (by simpa [ltail] using hy)))
  | cons x l =>
    simp only [ltail, List.flatMap_cons, List.append_assoc] at hy
    exact sep_stop (h x (by simp)).1 hy
theorem valid_tailR {s : Bs} {a : Nat} {R : Bs} (hR : ∀ y ∈ R, ws y = true) : ∀ (l : List (Sep × Tm)) (p : Nat), s.drop p = ltail l ++ R → p ≤ s.length → LOk l → (blanks s (rCap a (rStar s.length (NEXT s) (rAt s.length kEnd))) p).isSome
  | [], p, h, hp, _ => by
    have h' : s.drop p = R ++ [] := by rw [h]; simp [ltail]
    have e : p + R.length = s.length := by
      have := congrArg List.length h'
      simp at this; omega
    refine star_some R p [] h' hp hR ?_
    rw [cap_isSome, starS_eq (Same.next s) _ (p + R.length) (by omega), Option.isSome_or]
    simp [rAt, e, kEnd]
  | x :: l, p, h, hp, hl => by
    obtain ⟨⟨b1, b2⟩, tm⟩ := x
    obtain ⟨hsep, htm, h0⟩ := hl (⟨b1, b2⟩, tm) List.mem_cons_self
    have hl' : LOk l := fun y hy => hl y (by simp [hy])
    have h' : s.drop p = b1 ++ (ctext b2 ++ (tm.text ++ (ltail l ++ R))) := by rw [h]; simp [ltail, Sep.text, List.append_assoc]
    have key : ∀ q, s.drop q = tm.text ++ (ltail l ++ R) → (TERMb s 28 (blanks s (rCap 27 (rStar s.length (NEXT s) (rAt s.length kEnd)))) q).isSome := fun q hq => by
      have hd := drop_add hq
      obtain ⟨y, r, hy, _⟩ := ver_head htm.ver
      exact term_some htm hq (stop_R hl' hR) (valid_tailR hR l _ hd (by
        have := congrArg List.length hq
        simp [Tm.text, hy] at this ⊢; omega) hl')
    cases b2 with
    | some z =>
      have hd := drop_add h'
      have hle : p + b1.length ≤ s.length := Nat.le_of_lt (drop_le (show _ = 44 :: (z ++ (tm.text ++ (ltail l ++ R))) from hd))
      refine star_some b1 p _ h' hp hsep.b1 ?_
      rw [cap_isSome, starS_eq (Same.next s) _ _ hle, Option.isSome_or]
      have : (NEXT s (rStar s.length (NEXT s) (rAt s.length kEnd)) (p + b1.length)).isSome := by
        unfold NEXT
        rw [cap_isSome]
        exact sep_some (z := z) hd (hsep.b2 z rfl) (key _ (drop_add (drop_one (show _ = 44 :: (z ++ (tm.text ++ (ltail l ++ R))) from hd))))
      rw [this]; rfl
    | none =>
      refine star_some [] p _ rfl hp (by simp) ?_
      rw [cap_isSome, List.length_nil, Nat.add_zero, starS_eq (Same.next s) _ p hp, Option.isSome_or]
      have : (NEXT s (rStar s.length (NEXT s) (rAt s.length kEnd)) p).isSome := by
        unfold NEXT
        rw [cap_isSome]
        exact sep_some' (z := b1) (show _ = b1 ++ (tm.text ++ (ltail l ++ R)) from h') hsep.b1 (hsep.some_ rfl) (key _ (drop_add (show _ = b1 ++ (tm.text ++ (ltail l ++ R)) from h')))
      rw [this]; rfl
/-- a list's text is let through -/
theorem valid_evalR {B R : Bs} {x : Tm} {l : List (Sep × Tm)} (hB : ∀ y ∈ B, ws y = true) (hR : ∀ y ∈ R, ws y = true) (hx : x.Ok) (hl : LOk l) (s : Bs) (hs : s = B ++ (ltext x l ++ R)) : (validS s 0).isSome := by
  have hd : s.drop 0 = B ++ (x.text ++ (ltail l ++ R)) := by rw [hs]; simp [ltext]
  have h1 := drop_add hd
  rw [Nat.zero_add] at h1
  obtain ⟨y, r, hy, _⟩ := ver_head hx.ver
  unfold validS rAt
  rw [if_pos rfl, cap_isSome]
  refine star_some B 0 _ hd (Nat.zero_le _) hB ?_
  rw [Nat.zero_add]
  exact term_some hx h1 (stop_R hl hR) (valid_tailR hR l _ (drop_add h1) (by
    have := congrArg List.length h1
    simp [Tm.text, hy] at this ⊢; omega) hl)
structure SepW (x : Sep) : Prop where
  b1 : ∀ y ∈ x.b1, ws y = true
  b2 : ∀ z, x.b2 = some z → ∀ y ∈ z, ws y = true
theorem Sep.Ok.weak {x : Sep} (h : x.Ok) : SepW x := ⟨h.b1, h.b2⟩
theorem found_okW {x : Sep × Tm} (h1 : SepW x.1) (h2 : x.2.Ok) : (found x).Ok := by
  unfold found
  split
  · next h => exact ⟨h2.op, fun y hy => by
      unfold lead at hy
      cases hb : x.1.b2 with
      | none => rw [hb] at hy; exact h1.b1 y hy
      | some z => rw [hb] at hy; exact h1.b2 z hb y hy, h2.ver⟩
  · exact h2
theorem find_nextR {E : Env} {s R : Bs} (T : Txt E s) (hR : ∀ y ∈ R, ws y = true) {x : Sep × Tm} {l : List (Sep × Tm)} {p n : Nat} (h : s.drop p = ltail (x :: l) ++ R) (h1 : SepW x.1) (h2 : x.2.Ok) (h0 : x.2.op = [] → x.2.blank = []) (hl' : LOk l) :
    srch E s.length (findS s) (n + skip x + 1) p = some (p + skip x, tcaps 2 (p + skip x) (found x) ++ [(1, p + skip x + (found x).text.length)]) := by
  have e1 := text_found h0
  have hd : s.drop p = gap x ++ ((found x).text ++ (ltail l ++ R)) := by
    rw [h]
    simp only [ltail, List.flatMap_cons]
    rw [← List.append_assoc (gap x), ← e1, List.append_assoc, List.append_assoc]
  have hd2 : s.drop (p + skip x) = (found x).text ++ (ltail l ++ R) := drop_add hd
  have hf := find_eval (found_okW h1 h2) hd2 (stop_R hl' hR)
  have hlt : p + skip x < s.length := by
    obtain ⟨y, r, hy, _⟩ := ver_head (found_okW h1 h2).ver
    cases hc : s.drop (p + skip x) with
    | nil => rw [hc] at hd2; have := congrArg List.length hd2; simp [Tm.text, hy] at this
    | cons a b => exact drop_le hc
  rw [show n + skip x + 1 = (n + 1) + skip x by omega]
  have hsk : (∀ y ∈ gap x, y.toNat < 128) → (∀ j, j < skip x → findS s (p + j) = none) → srch E s.length (findS s) ((n + 1) + skip x) p = srch E s.length (findS s) (n + 1) (p + skip x) := srch_skip T (f := findS s) (gap x) p (n + 1) _ hd
  rw [hsk, srch_yes (Nat.le_of_lt hlt) hf]
  · -- bytes below 128
    intro y hy
    have hy2 : y ∈ x.1.text := by
      unfold gap at hy
      unfold Sep.text ctext
      cases hb : x.1.b2 with
      | none =>
        simp only [hb] at hy
        split at hy
        · cases hy
        · simpa using hy
      | some z =>
        simp only [hb] at hy
        split at hy
        · simp at hy ⊢; rcases hy with h | h <;> simp [h]
        · simp at hy ⊢; exact hy
    unfold Sep.text ctext at hy2
    rcases List.mem_append.1 hy2 with hy2 | hy2
    · exact ws_asc y (h1.b1 y hy2)
    · cases hb : x.1.b2 with
      | none => rw [hb] at hy2; cases hy2
      | some z =>
        rw [hb] at hy2
        rcases List.mem_cons.1 hy2 with rfl | hy2
        · decide
        · exact ws_asc y (h1.b2 z hb y hy2)
  · -- nothing is found ahead
    intro j hj
    have hjl : p + j ≤ s.length := by omega
    obtain ⟨⟨b1, b2⟩, ⟨op, bl, v⟩⟩ := x
    have h' : s.drop p = b1 ++ (ctext b2 ++ (op ++ (bl ++ (v.text ++ (ltail l ++ R))))) := by rw [h]; simp [ltail, Sep.text, Tm.text, List.append_assoc]
    have opn : ∀ q, s.drop q = op ++ (bl ++ (v.text ++ (ltail l ++ R))) → op ≠ [] → ∀ y, (s.drop q).head? = some y → opByte y = true := fun q e ho y hy => by
      obtain ⟨z, r, hz, hz2⟩ := op_head (op := op) h2.op ho
      rw [e, hz] at hy
      cases hy
      exact hz2
    have oph : ∀ y, op ≠ [] → (op ++ (bl ++ (v.text ++ (ltail l ++ R)))).head? = some y → opByte y = true := fun y ho hy => by
      obtain ⟨z, r, hz, hz2⟩ := op_head (op := op) h2.op ho
      have this : op = z :: r := hz
      rw [this] at hy
      cases hy
      exact hz2
    cases b2 with
    | none =>
      have ho : op ≠ [] := fun e => by subst e; simp [skip, gap] at hj
      have hjb : j < b1.length := by simpa [skip, gap, ho] using hj
      have hq : s.drop (p + j) = b1.drop j ++ (op ++ (bl ++ (v.text ++ (ltail l ++ R)))) := by
        rw [← List.drop_drop, h', List.drop_append_of_le_length (Nat.le_of_lt hjb)]; rfl
      exact find_none hq (fun y hy => h1.b1 y (List.mem_of_mem_drop hy)) hjl (fun y hy => by
        have := op_out y (oph y ho hy)
        exact ⟨this.2.2.1, this.2.1, this.1⟩) (fun e => by have := congrArg List.length e; simp at this; omega)
    | some z =>
      by_cases hjb : j ≤ b1.length
      · have hq : s.drop (p + j) = b1.drop j ++ (44 :: (z ++ (op ++ (bl ++ (v.text ++ (ltail l ++ R)))))) := by
          rw [← List.drop_drop, h', List.drop_append_of_le_length hjb]; rfl
        exact find_none hq (fun y hy => h1.b1 y (List.mem_of_mem_drop hy)) hjl (fun y hy => by cases hy; decide) (fun _ y hy => by cases hy; decide)
      · have ho : op ≠ [] := fun e => by subst e; simp [skip, gap] at hj; omega
        have hjz : j < b1.length + 1 + z.length := by simp [skip, gap, ho] at hj; omega
        have hq : s.drop (p + j) = z.drop (j - (b1.length + 1)) ++ (op ++ (bl ++ (v.text ++ (ltail l ++ R)))) := by
          have e3 : s.drop (p + (b1.length + 1)) = z ++ (op ++ (bl ++ (v.text ++ (ltail l ++ R)))) := by
            rw [show p + (b1.length + 1) = p + b1.length + 1 by omega]
            exact drop_one (drop_add h')
          rw [show p + j = p + (b1.length + 1) + (j - (b1.length + 1)) by omega, ← List.drop_drop, e3, List.drop_append_of_le_length (by omega)]
        exact find_none hq (fun y hy => h1.b2 z rfl y (List.mem_of_mem_drop hy)) hjl (fun y hy => by
          have := op_out y (oph y ho hy)
          exact ⟨this.2.2.1, this.2.1, this.1⟩) (fun e => by have := congrArg List.length e; simp at this; omega)
theorem find_endR {E : Env} {s R : Bs} (T : Txt E s) (hR : ∀ y ∈ R, ws y = true) {p n : Nat} (h : s.drop p = R) (hp : p ≤ s.length) : srch E s.length (findS s) n p = none := by
  have key : ∀ (n p : Nat) (R : Bs), (∀ y ∈ R, ws y = true) → s.drop p = R → p ≤ s.length → srch E s.length (findS s) n p = none := by
    intro n
    induction n with
    | zero => intro p R _ _ _; rfl
    | succ n ih =>
      intro p R hR h hp
      have hf : findS s p = none := find_none (B := R) (l := []) (by rw [h]; simp) hR hp (by simp) (by simp)
      cases R with
      | nil =>
        have e : p = s.length := by
          have := congrArg List.length h
          simp at this; omega
        subst e
        exact srch_nil T hf
      | cons x R =>
        have hx : s[p]? = some x := by rw [← List.head?_drop, h]; rfl
        have hlt := (List.getElem?_eq_some_iff.1 hx).1
        have hs := T.asc p x hx (ws_asc x (hR x (by simp)))
        rw [srch_no hp hf (by rw [hs])]
        exact ih (p + 1) R (fun y hy => hR y (by simp [hy])) (drop_one h) hlt
  exact key n p R hR h hp
end Go.Proofs.YthejepmnnpmdmaaGreatDoor.Rx
end
section
set_option linter.unusedVariables false
set_option linter.unusedSimpArgs false
/- what a valid list's text cannot be: a comma at its beginning, at its end, or two side by side; a byte that occurs nowhere -/
namespace Go.Proofs.YthejepmnnpmdmaaGreatDoor.Rx
set_option maxRecDepth 100000
/-- whatever f hands on from p is at a place q with R p q -/
def Snd (R : Nat → Nat → Prop) (f : K → K) : Prop := ∀ (k : K) (p : Nat) r, f k p = some r → ∃ q r', R p q ∧ k q = some r'
theorem Snd.mono {R R' : Nat → Nat → Prop} {f : K → K} (h : Snd R f) (hr : ∀ p q, R p q → R' p q) : Snd R' f := fun k p r e => by
  obtain ⟨q, r', h1, h2⟩ := h k p r e
  exact ⟨q, r', hr _ _ h1, h2⟩
theorem Snd.skp : Snd (fun p q => p = q) id := fun k p r e => ⟨p, r, rfl, e⟩
theorem Snd.cap (a : Nat) : Snd (fun p q => p = q) (rCap a) := fun k p r e => by
  unfold rCap at e
  cases h : k p with
  | none => rw [h] at e; cases e
  | some t => exact ⟨p, t, rfl, h⟩
theorem Snd.seq {R R' R'' : Nat → Nat → Prop} {f g : K → K} (h : Snd R f) (h' : Snd R' g) (hr : ∀ p q r, R p q → R' q r → R'' p r) : Snd R'' (fun k => f (g k)) := fun k p r e => by
  obtain ⟨q, r1, h1, h2⟩ := h (g k) p r e
  obtain ⟨q2, r2, h3, h4⟩ := h' k q r1 h2
  exact ⟨q2, r2, hr _ _ _ h1 h3, h4⟩
theorem Snd.alt {R : Nat → Nat → Prop} {f g : K → K} (h : Snd R f) (h' : Snd R g) : Snd R (rAlt f g) := fun k p r e => by
  unfold rAlt at e
  cases h1 : f k p with
  | none => rw [h1] at e; exact h' k p r (by simpa using e)
  | some t => exact h k p t h1
theorem Snd.star {R : Nat → Nat → Prop} {f : K → K} {N : Nat} (h : Snd R f) (h0 : ∀ p, R p p) (ht : ∀ p q r, R p q → R q r → R p r) : Snd R (rStar N f) := by
  have key : ∀ (n : Nat) (k : K) (p : Nat) r, starN f k n p = some r → ∃ q r', R p q ∧ k q = some r' := by
    intro n
    induction n with
    | zero => intro k p r e; exact ⟨p, r, h0 p, e⟩
    | succ n ih =>
      intro k p r e
      unfold starN at e
      cases h1 : f (starN f k n) p with
      | none => rw [h1] at e; exact ⟨p, r, h0 p, by simpa using e⟩
      | some t =>
        obtain ⟨q, r1, h2, h3⟩ := h _ _ _ h1
        obtain ⟨q2, r2, h4, h5⟩ := ih k q r1 h3
        exact ⟨q2, r2, ht _ _ _ h2 h4, h5⟩
  exact fun k p r e => key _ k p r e
/-- a run of bytes of one kind -/
def Nn (s : Bs) (c : UInt8 → Bool) (p q : Nat) : Prop := p ≤ q ∧ ∀ i, p ≤ i → i < q → ∃ x, s[i]? = some x ∧ c x = true
theorem Nn.refl (s : Bs) (c : UInt8 → Bool) (p : Nat) : Nn s c p p := ⟨Nat.le_refl _, fun i h1 h2 => by omega⟩
theorem Nn.trans {s : Bs} {c : UInt8 → Bool} {p q r : Nat} (h : Nn s c p q) (h' : Nn s c q r) : Nn s c p r := by
  refine ⟨Nat.le_trans h.1 h'.1, fun i h1 h2 => ?_⟩
  by_cases hi : i < q
  · exact h.2 i h1 hi
  · exact h'.2 i (by omega) h2
/-- one byte at least -/
def N1 (s : Bs) (c : UInt8 → Bool) (p q : Nat) : Prop := p < q ∧ Nn s c p q
theorem Snd.bC1 (s : Bs) (c : UInt8 → Bool) : Snd (fun p q => q = p + 1 ∧ ∃ x, s[p]? = some x ∧ c x = true) (bC s c) := fun k p r e => by
  unfold Rx.bC at e
  split at e
  · next x hx =>
    split at e
    · next hc => exact ⟨p + 1, r, ⟨rfl, x, hx, hc⟩, e⟩
    · cases e
  · cases e
theorem Snd.bc {s : Bs} {c d : UInt8 → Bool} (h : ∀ x, c x = true → d x = true) : Snd (N1 s d) (bC s c) := fun k p r e => by
  unfold Rx.bC at e
  split at e
  · next x hx =>
    split at e
    · next hc =>
      refine ⟨p + 1, r, ⟨by omega, by omega, fun i h1 h2 => ?_⟩, e⟩
      obtain rfl : i = p := by omega
      exact ⟨x, hx, h x hc⟩
    · cases e
  · cases e
section
variable {s : Bs} {d : UInt8 → Bool}
theorem N1.n {p q : Nat} (h : N1 s d p q) : Nn s d p q := h.2
theorem N1.app {p q r : Nat} (h : N1 s d p q) (h' : Nn s d q r) : N1 s d p r := ⟨Nat.lt_of_lt_of_le h.1 h'.1, h.2.trans h'⟩
theorem N1.app' {p q r : Nat} (h : Nn s d p q) (h' : N1 s d q r) : N1 s d p r := ⟨Nat.lt_of_le_of_lt h.1 h'.1, h.trans h'.2⟩
theorem eqN {p q : Nat} (h : p = q) : Nn s d p q := by subst h; exact Nn.refl _ _ _
theorem Snd.run {c : UInt8 → Bool} (h : ∀ x, c x = true → d x = true) : Snd (Nn s d) (rStar s.length (bC s c)) := Snd.star ((Snd.bc h).mono fun _ _ h => h.2) (Nn.refl s d) fun _ _ _ => Nn.trans
theorem Snd.pls {c : UInt8 → Bool} (h : ∀ x, c x = true → d x = true) : Snd (N1 s d) (plus s c) := (Snd.bc h).seq (Snd.run h) fun _ _ _ => N1.app
theorem Snd.idN : Snd (Nn s d) id := Snd.skp.mono fun _ _ => eqN
theorem Snd.capN (a : Nat) : Snd (Nn s d) (rCap a) := (Snd.cap a).mono fun _ _ => eqN
theorem Snd.n {f : K → K} (h : Snd (N1 s d) f) : Snd (Nn s d) f := h.mono fun _ _ => N1.n
theorem Snd.sq {f g : K → K} (h : Snd (Nn s d) f) (h' : Snd (Nn s d) g) : Snd (Nn s d) (fun k => f (g k)) := h.seq h' fun _ _ _ => Nn.trans
theorem Snd.sq1 {f g : K → K} (h : Snd (N1 s d) f) (h' : Snd (Nn s d) g) : Snd (N1 s d) (fun k => f (g k)) := h.seq h' fun _ _ _ => N1.app
theorem Snd.sq2 {f g : K → K} (h : Snd (Nn s d) f) (h' : Snd (N1 s d) g) : Snd (N1 s d) (fun k => f (g k)) := h.seq h' fun _ _ _ => N1.app'
/-- the kinds of a term's bytes -/
structure KindsB (d : UInt8 → Bool) : Prop where
  w : ∀ x, ws x = true → d x = true
  p : ∀ x, pB x = true → d x = true
  i : ∀ x, iB x = true → d x = true
  o : ∀ x, opByte x = true → d x = true
  l : ∀ x : UInt8, x = 118 ∨ x = 46 ∨ x = 45 ∨ x = 43 → d x = true
theorem beq_one {y : UInt8} {P : UInt8 → Prop} (h : P y) : ∀ x, (x == y) = true → P x := fun x e => by rw [eq_of_beq e]; exact h
theorem Snd.vv (k : KindsB d) (b : Nat) : Snd (N1 s d) (V s pB iB b) := by
  have l : ∀ y : UInt8, (y = 118 ∨ y = 46 ∨ y = 45 ∨ y = 43) → ∀ x, (x == y) = true → d x = true := fun y hy => beq_one (P := fun x => d x = true) (k.l y hy)
  have hpart : ∀ b, Snd (Nn s d) (part s pB b) := fun b => (Snd.capN b).sq ((Snd.bc (l 46 (by simp))).n.sq ((Snd.pls k.p).n.sq (Snd.capN (b + 1))))
  have hmore : ∀ b, Snd (Nn s d) (more s iB b) := fun b => (Snd.capN b).sq ((Snd.bc (l 46 (by simp))).n.sq ((Snd.pls k.i).n.sq (Snd.capN (b + 1))))
  have hgrp : ∀ y b, (y = 118 ∨ y = 46 ∨ y = 45 ∨ y = 43) → Snd (Nn s d) (grp s iB y b) := fun y b hy =>
    (Snd.capN b).sq ((Snd.bc (l y hy)).n.sq ((Snd.capN (b + 2)).sq ((Snd.pls k.i).n.sq ((Snd.star (hmore (b + 4)) (Nn.refl s d) fun _ _ _ => Nn.trans).sq ((Snd.capN (b + 3)).sq (Snd.capN (b + 1)))))))
  have h1 : Snd (Nn s d) (fun k => rCap (b + 1) (rAlt (part s pB (b + 2)) id (rAlt (part s pB (b + 4)) id (rAlt (grp s iB 45 (b + 6)) id (rAlt (grp s iB 43 (b + 12)) id k))))) :=
    (Snd.capN (b + 1)).sq (((hpart (b + 2)).alt Snd.idN).sq (((hpart (b + 4)).alt Snd.idN).sq (((hgrp 45 (b + 6) (by simp)).alt Snd.idN).sq ((hgrp 43 (b + 12) (by simp)).alt Snd.idN))))
  have hh := Snd.sq2 ((Snd.bc (s := s) (l 118 (by simp))).n.alt Snd.idN) (Snd.sq2 (Snd.capN b) ((Snd.pls k.p).sq1 h1))
  exact hh
theorem Snd.op_ (k : KindsB d) : Snd (Nn s d) (OP s) := by
  have l : ∀ y : UInt8, opByte y = true → ∀ x, (x == y) = true → d x = true := fun y hy => beq_one (P := fun x => d x = true) (k.o y hy)
  have t : ∀ x y : UInt8, opByte x = true → opByte y = true → Snd (Nn s d) (two s x y) := fun x y hx hy => (Snd.bc (l x hx)).n.sq (Snd.bc (l y hy)).n
  have hlg : ∀ x, cls ltgtR x = true → d x = true := fun x hx => k.o x (by
    have := byte_all (p := fun x => !cls ltgtR x || opByte x) (by decide +kernel) x
    simpa [hx] using this)
  have h6 : Snd (Nn s d) (fun k => bC s (· == 126) (rAlt id (bC s (· == 62)) k)) := (Snd.bc (l 126 (by decide))).n.sq (Snd.idN.alt (Snd.bc (l 62 (by decide))).n)
  exact (((((((((Snd.bc (l 61 (by decide))).n.alt Snd.idN).alt (t 33 61 (by decide) (by decide))).alt (Snd.bc hlg).n).alt (t 62 61 (by decide) (by decide))).alt (t 61 62 (by decide) (by decide))).alt (t 60 61 (by decide) (by decide))).alt (t 61 60 (by decide) (by decide))).alt h6).alt (Snd.bc (l 94 (by decide))).n
theorem Snd.term_ (k : KindsB d) (b : Nat) : Snd (N1 s d) (TERMb s b) := by
  have hh := Snd.sq2 (s := s) (d := d) (Snd.capN b) (Snd.sq2 (Snd.op_ k) (Snd.sq2 (Snd.capN (b + 1)) (Snd.sq2 (Snd.run k.w) (Snd.sq2 (Snd.capN (b + 2)) ((Snd.vv k (b + 4)).sq1 (Snd.capN (b + 3)))))))
  exact hh
end
/-- no comma at the beginning or the end of what is between, none beside another; each byte of the kind or a comma -/
def Jj (s : Bs) (d : UInt8 → Bool) (p q : Nat) : Prop := p ≤ q ∧ ∀ i, p ≤ i → i < q → ∃ x, s[i]? = some x ∧ ((d x = true ∧ x ≠ 44) ∨ (x = 44 ∧ i + 1 < q ∧ s[i + 1]? ≠ some 44))
theorem Jj.refl (s : Bs) (d : UInt8 → Bool) (p : Nat) : Jj s d p p := ⟨Nat.le_refl _, fun i h1 h2 => by omega⟩
theorem Jj.trans {s : Bs} {d : UInt8 → Bool} {p q r : Nat} (h : Jj s d p q) (h' : Jj s d q r) : Jj s d p r := by
  refine ⟨Nat.le_trans h.1 h'.1, fun i h1 h2 => ?_⟩
  by_cases hi : i < q
  · obtain ⟨x, e, h3⟩ := h.2 i h1 hi
    refine ⟨x, e, ?_⟩
    rcases h3 with h3 | ⟨h3, h4, h5⟩
    · exact .inl h3
    · exact .inr ⟨h3, by have := h'.1; omega, h5⟩
  · exact h'.2 i (by omega) h2
theorem Nn.j {s : Bs} {d : UInt8 → Bool} {p q : Nat} (h : Nn s d p q) (hd : d 44 = false) : Jj s d p q := ⟨h.1, fun i h1 h2 => by
  obtain ⟨x, e, h3⟩ := h.2 i h1 h2
  exact ⟨x, e, .inl ⟨h3, fun e2 => by rw [e2, hd] at h3; cases h3⟩⟩⟩
theorem Snd.next_ {s : Bs} {d : UInt8 → Bool} (k : KindsB d) (hd : d 44 = false) : Snd (Jj s d) (NEXT s) := by
  have hT : Snd (N1 s d) (fun k => TERMb s 28 (blanks s (rCap 27 k))) := (Snd.term_ k 28).sq1 ((Snd.run k.w).sq (Snd.capN 27))
  have h1 : Snd (Jj s d) (fun k => plus s ws (TERMb s 28 (blanks s (rCap 27 k)))) := ((Snd.pls k.w).sq1 hT.n).mono fun _ _ h => h.2.j hd
  have h2 : Snd (Jj s d) (fun k => bC s (· == 44) (blanks s (TERMb s 28 (blanks s (rCap 27 k))))) := by
    have h3 : Snd (N1 s d) (fun k => blanks s (TERMb s 28 (blanks s (rCap 27 k)))) := Snd.sq2 (Snd.run k.w) hT
    refine (Snd.bC1 s (· == 44)).seq h3 fun p q r hp hq => ?_
    obtain ⟨rfl, x, e, h6⟩ := hp
    obtain rfl := eq_of_beq h6
    refine ⟨by have := hq.1; omega, fun i h4 h5 => ?_⟩
    by_cases hi : i = p
    · subst hi
      obtain ⟨y, e2, h7⟩ := hq.2.2 (i + 1) (Nat.le_refl _) hq.1
      exact ⟨44, e, .inr ⟨rfl, hq.1, fun e3 => by rw [e2] at e3; obtain rfl := Option.some.inj e3; rw [hd] at h7; cases h7⟩⟩
    · obtain ⟨x, e, h6⟩ := hq.2.2 i (by omega) h5
      exact ⟨x, e, .inl ⟨h6, fun e2 => by rw [e2, hd] at h6; cases h6⟩⟩
  have h3 : Snd (Jj s d) (fun k => SEP s (TERMb s 28 (blanks s (rCap 27 k)))) := fun k p r e => by
    unfold SEP rAlt at e
    dsimp only at e
    cases h4 : plus s ws (TERMb s 28 (blanks s (rCap 27 k))) p with
    | none => rw [h4] at e; exact h2 k p r (by simpa using e)
    | some t => exact h1 k p t h4
  exact (Snd.cap 26).seq h3 fun p q r hp hq => by obtain rfl : p = q := hp; exact hq
/-- a valid list's text -/
theorem valid_snd {s : Bs} {d : UInt8 → Bool} (k : KindsB d) (hd : d 44 = false) (h : (validS s 0).isSome = true) : Jj s d 0 s.length ∧ ∃ x, s[0]? = some x ∧ x ≠ 44 := by
  obtain ⟨r, hr⟩ := Option.isSome_iff_exists.1 h
  have hA : Snd (N1 s d) (fun k => rCap 2 (blanks s (TERMb s 4 (blanks s (rCap 3 k))))) := Snd.sq2 (Snd.capN 2) (Snd.sq2 (Snd.run k.w) ((Snd.term_ k 4).sq1 ((Snd.run k.w).sq (Snd.capN 3))))
  unfold validS rAt at hr
  rw [if_pos rfl] at hr
  obtain ⟨q, r1, h1, h2⟩ := hA _ _ _ hr
  obtain ⟨q2, r2, h3, h4⟩ := Snd.star (Snd.next_ k hd) (Jj.refl s d) (fun _ _ _ => Jj.trans) _ _ _ h2
  have hq : q2 = s.length := by
    split at h4
    · assumption
    · cases h4
  subst hq
  refine ⟨(h1.2.j hd).trans h3, ?_⟩
  obtain ⟨x, e, h5⟩ := h1.2.2 0 (Nat.le_refl _) h1.1
  exact ⟨x, e, fun e2 => by rw [e2, hd] at h5; cases h5⟩
end Go.Proofs.YthejepmnnpmdmaaGreatDoor.Rx
end
