/- a part of the proof: FnCronListNext: for every six words, kind of field, part and instant the law function returns true and leaves its arguments as they were. No condition is added: the statement is the given one, the tied card. -/
import Derived.Laws.Strings
import Derived.Test.YtjmgebhjkbcpcaaGreatDoorNB
import Derived.Test.YtjmgebhjkbcpcaaGreatDoorNC
import Derived.Test.YtjmgebhjkbcpcaaGreatDoorND
import Derived.Test.YtjmgebhjkbcpcaaGreatDoorNE
import Derived.Test.YtjmgebhjkbcpcaaGreatDoorProg
import Derived.WalkKit
import Derived.WalkLawsBesides
import Derived.WalkSpells
import Derived.KernelRfl
import Derived.Deep.RegionWith
import Derived.Lib.Hide
import Derived.Deep.QuietTactic
import Derived.BigQuiet
section
set_option linter.unusedVariables false
namespace Go.Proofs.YtjmgebhjkbcpcaaGreatDoor.Txt
abbrev Bs := List UInt8
def blank (x : UInt8) : Bool := x == 32 || (9 ≤ x && x ≤ 13)
def pieces (c : UInt8) : Bs → List Bs
  | [] => [[]]
  | x :: xs => if x = c then [] :: pieces c xs else (x :: (pieces c xs).headD []) :: (pieces c xs).tail
theorem pieces_ne (c : UInt8) (l : Bs) : pieces c l ≠ [] := by
  cases l with
  | nil => simp [pieces]
  | cons x xs => unfold pieces; split <;> simp
theorem headD_tail {α : Type} {l : List α} (h : l ≠ []) (d : α) : l.headD d :: l.tail = l := by
  cases l with
  | nil => exact absurd rfl h
  | cons a l => rfl
theorem pieces_cons (c x : UInt8) (xs : Bs) : pieces c (x :: xs) = if x = c then [] :: pieces c xs else (x :: (pieces c xs).headD []) :: (pieces c xs).tail := rfl
theorem pieces_append (c : UInt8) (a b : Bs) : pieces c (a ++ c :: b) = pieces c a ++ pieces c b := by
  induction a with
  | nil => rw [List.nil_append, pieces_cons, if_pos rfl]; rfl
  | cons x xs ih =>
    rw [List.cons_append, pieces_cons, pieces_cons, ih]
    have h := pieces_ne c xs
    by_cases e : x = c
    · rw [if_pos e, if_pos e]; rfl
    · rw [if_neg e, if_neg e]
      cases hp : pieces c xs with
      | nil => exact absurd hp h
      | cons p ps => rfl
/-- the words' scan, from the right: the word that stands at the text's beginning, and the further ones -/
def st (x : UInt8) (s : Bs × List Bs) : Bs × List Bs := if blank x then ([], if s.1 = [] then s.2 else s.1 :: s.2) else (x :: s.1, s.2)
def wd (l : Bs) : Bs × List Bs := l.foldr st ([], [])
def opt (t : Bs) : List Bs := if t = [] then [] else [t]
def out (s : Bs × List Bs) : List Bs := opt s.1 ++ s.2
def words (l : Bs) : List Bs := out (wd l)
theorem words_nil : words [] = [] := rfl
theorem st_blank {x : UInt8} (h : blank x = true) (s : Bs × List Bs) : st x s = ([], out s) := by
  unfold st out opt
  rw [if_pos h]
  by_cases e : s.1 = []
  · simp [e]
  · simp [e]
theorem st_word {x : UInt8} (h : blank x = false) (s : Bs × List Bs) : st x s = (x :: s.1, s.2) := by
  unfold st
  rw [if_neg (by rw [h]; simp)]
/-- a scan over w behind a clean cut adds w's words -/
theorem scan_clean (w : Bs) (ws : List Bs) : out (w.foldr st ([], ws)) = words w ++ ws ∧ (w.foldr st ([], ws)).1 = (wd w).1 := by
  induction w with
  | nil => exact ⟨rfl, rfl⟩
  | cons x xs ih =>
    show out (st x (xs.foldr st ([], ws))) = out (st x (wd xs)) ++ ws ∧ (st x (xs.foldr st ([], ws))).1 = (st x (wd xs)).1
    obtain ⟨h1, h2⟩ := ih
    generalize xs.foldr st ([], ws) = u at h1 h2 ⊢
    unfold words at h1
    generalize wd xs = v at h1 h2 ⊢
    cases hb : blank x with
    | true =>
      rw [st_blank hb, st_blank hb]
      refine ⟨?_, rfl⟩
      show [] ++ out u = ([] ++ out v) ++ ws
      rw [List.nil_append, List.nil_append, h1]
    | false =>
      rw [st_word hb, st_word hb]
      refine ⟨?_, by simp only; rw [h2]⟩
      have h1' : opt u.1 ++ u.2 = (opt v.1 ++ v.2) ++ ws := h1
      rw [h2, List.append_assoc] at h1'
      have h3 := List.append_cancel_left h1'
      show opt (x :: u.1) ++ u.2 = opt (x :: v.1) ++ v.2 ++ ws
      rw [h2, h3, List.append_assoc]
theorem wd_append (a b : Bs) : wd (a ++ b) = a.foldr st (wd b) := by unfold wd; rw [List.foldr_append]
theorem words_blank (a b : Bs) (x : UInt8) (h : blank x = true) : words (a ++ x :: b) = words a ++ words b := by
  unfold words
  rw [wd_append]
  show out (a.foldr st (st x (wd b))) = _
  rw [st_blank h]
  exact (scan_clean a _).1
theorem words_cons (b : Bs) (x : UInt8) (h : blank x = true) : words (x :: b) = words b := by
  have := words_blank [] b x h
  simpa [words_nil] using this
/-- a word's end: w without its last letters that are no blanks, and these -/
theorem tail_word (w : Bs) : ∃ w1 t, w = w1 ++ t ∧ (∀ x ∈ t, blank x = false) ∧ (w1 = [] ∨ ∃ w2 b, w1 = w2 ++ [b] ∧ blank b = true) := by
  induction w with
  | nil => exact ⟨[], [], rfl, by simp, .inl rfl⟩
  | cons x xs ih =>
    obtain ⟨w1, t, rfl, ht, h1⟩ := ih
    rcases h1 with rfl | ⟨w2, b, rfl, hb⟩
    · by_cases hx : blank x = true
      · exact ⟨[x], t, rfl, ht, .inr ⟨[], x, rfl, hx⟩⟩
      · refine ⟨[], x :: t, rfl, ?_, .inl rfl⟩
        intro y hy
        rcases List.mem_cons.1 hy with rfl | hy
        · simpa using hx
        · exact ht y hy
    · exact ⟨x :: (w2 ++ [b]), t, by simp, ht, .inr ⟨x :: w2, b, rfl, hb⟩⟩
theorem scan_word (t : Bs) (ht : ∀ x ∈ t, blank x = false) (s : Bs × List Bs) : t.foldr st s = (t ++ s.1, s.2) := by
  induction t with
  | nil => rfl
  | cons x xs ih =>
    show st x (xs.foldr st s) = _
    rw [ih fun y hy => ht y (by simp [hy]), st_word (ht x (by simp))]
    rfl
/-- the words of a text with a comma between two others -/
theorem words_comma (w p : Bs) : ∃ A t p' C, words w = A ++ opt t ∧ words p = opt p' ++ C ∧ words (w ++ 44 :: p) = A ++ [t ++ 44 :: p'] ++ C ∧ (∀ x ∈ t, blank x = false) ∧ p' = (wd p).1 := by
  obtain ⟨w1, t, rfl, ht, h1⟩ := tail_word w
  have hc : blank 44 = false := by decide
  have e : wd (44 :: p) = (44 :: (wd p).1, (wd p).2) := by
    show st 44 (wd p) = _
    rw [st_word hc]
  have scan : wd (w1 ++ t ++ 44 :: p) = w1.foldr st (t ++ 44 :: (wd p).1, (wd p).2) := by
    rw [wd_append, List.foldr_append, e, scan_word t ht]
  have hne : t ++ 44 :: (wd p).1 ≠ [] := by simp
  rcases h1 with rfl | ⟨w2, b, rfl, hb⟩
  · refine ⟨[], t, (wd p).1, (wd p).2, ?_, rfl, ?_, ht, rfl⟩
    · have : wd ([] ++ t) = (t ++ [], []) := by
        rw [List.nil_append]; exact scan_word t ht ([], [])
      unfold words out
      rw [this]
      simp [opt]
    · unfold words
      rw [scan]
      show opt (t ++ 44 :: (wd p).1) ++ (wd p).2 = _
      unfold opt
      rw [if_neg hne]; simp
  · refine ⟨words w2, t, (wd p).1, (wd p).2, ?_, rfl, ?_, ht, rfl⟩
    · rw [show w2 ++ [b] ++ t = w2 ++ b :: t by simp, words_blank _ _ _ hb]
      congr 1
      have : wd t = (t ++ [], []) := scan_word t ht ([], [])
      unfold words out
      rw [this]; simp
    · unfold words
      rw [scan, List.foldr_append]
      show out (w2.foldr st (st b (t ++ 44 :: (wd p).1, (wd p).2))) = _
      rw [st_blank hb]
      rw [(scan_clean w2 _).1]
      show words w2 ++ (opt (t ++ 44 :: (wd p).1) ++ (wd p).2) = _
      unfold opt
      rw [if_neg hne]
      simp [words]
/-- the letters ahead of the first space, the rest from it on -/
def toSpace : Bs → Option (Bs × Bs)
  | [] => none
  | x :: xs => if x = 32 then some ([], x :: xs) else (toSpace xs).map fun (a, b) => (x :: a, b)
theorem toSpace_some {l a b : Bs} (h : toSpace l = some (a, b)) : l = a ++ b ∧ (∀ x ∈ a, x ≠ 32) ∧ ∃ b', b = 32 :: b' := by
  induction l generalizing a b with
  | nil => simp [toSpace] at h
  | cons x xs ih =>
    unfold toSpace at h
    split at h
    · rename_i hx
      injection h with h; injection h with h1 h2
      subst h1; subst h2; subst hx
      exact ⟨rfl, by simp, _, rfl⟩
    · rename_i hx
      cases ht : toSpace xs with
      | none => simp [ht] at h
      | some ab =>
        obtain ⟨a', b'⟩ := ab
        simp [ht] at h
        obtain ⟨rfl, rfl⟩ := h
        obtain ⟨h1, h2, h3⟩ := ih ht
        exact ⟨by simp [h1], by simpa [hx] using h2, h3⟩
theorem toSpace_app {a b : Bs} (ha : ∀ x ∈ a, x ≠ 32) : toSpace (a ++ 32 :: b) = some (a, 32 :: b) := by
  induction a with
  | nil => simp [toSpace]
  | cons x xs ih =>
    rw [List.cons_append]
    unfold toSpace
    rw [if_neg (ha x (by simp)), ih fun y hy => ha y (by simp [hy])]
    rfl
def isHead (l : Bs) : Bool := [84, 90, 61].isPrefixOf l || [67, 82, 79, 78, 95, 84, 90, 61].isPrefixOf l
/-- what is read as fields: all of it, or what stands behind a time zone's name -/
def fields (l : Bs) : List Bs := if isHead l then (match toSpace l with
  | some (_, b) => words b
  | none => []) else words l
theorem prefix_cut (h : Bs) (c : UInt8) (hc : c ∉ h) : ∀ a b : Bs, h.isPrefixOf (a ++ c :: b) = h.isPrefixOf a := by
  induction h with
  | nil => intro a b; simp
  | cons x h ih =>
    intro a b
    have h1 : x ≠ c := fun e => hc (by simp [e])
    cases a with
    | nil => simp [List.isPrefixOf, h1]
    | cons y a =>
      simp only [List.cons_append, List.isPrefixOf]
      rw [ih (fun e => hc (by simp [e]))]
theorem head_cut (a b : Bs) (c : UInt8) (h : c = 32 ∨ c = 44) : isHead (a ++ c :: b) = isHead a := by
  unfold isHead
  rcases h with rfl | rfl
  · rw [prefix_cut _ _ (by decide), prefix_cut _ _ (by decide)]
  · rw [prefix_cut _ _ (by decide), prefix_cut _ _ (by decide)]
theorem wd_pre (h : Bs) (hh : ∀ x ∈ h, blank x = false) (b : Bs) : (wd (h ++ b)).1 = h ++ (wd b).1 := by
  rw [wd_append, scan_word h hh]
theorem head_eq (p : Bs) (h : isHead p = true) : (61 : UInt8) ∈ (wd p).1 := by
  unfold isHead at h
  rw [Bool.or_eq_true] at h
  rcases h with h | h
  · obtain ⟨b, rfl⟩ := List.isPrefixOf_iff_prefix.1 h
    rw [wd_pre _ (by decide)]
    simp
  · obtain ⟨b, rfl⟩ := List.isPrefixOf_iff_prefix.1 h
    rw [wd_pre _ (by decide)]
    simp
/-- what the statement needs to know of a text that is taken: six fields, each fine; a time zone's name without a comma -/
structure Taken (FF : Nat → Bs → Prop) (l : Bs) : Prop where
  six : (fields l).length = 6
  fine : ∀ i, i < 6 → FF i ((fields l).getD i [])
  zone : isHead l = true → ∃ a b, toSpace l = some (a, b) ∧ (44 : UInt8) ∉ a
theorem fields_plain {l : Bs} (h : isHead l = false) : fields l = words l := by unfold fields; rw [h]; rfl
theorem fields_zone {l a b : Bs} (h : isHead l = true) (hs : toSpace l = some (a, b)) : fields l = words b := by unfold fields; rw [h, hs]; rfl
structure FFok (FF : Nat → Bs → Prop) : Prop where
  ne : ∀ i f, FF i f → [] ∉ pieces 44 f
  eq : ∀ i f, FF i f → (61 : UInt8) ∉ f
def Goal3 (T1 T2 T3 : Bs) : Prop := ∃ B w p C, fields T1 = B ++ [w] ++ C ∧ fields T2 = B ++ [p] ++ C ∧ fields T3 = B ++ [w ++ 44 :: p] ++ C
theorem core {FF : Nat → Bs → Prop} (ok : FFok FF) {T1 T2 T3 v p : Bs} {P Q : List Bs} (h1 : fields T1 = P ++ words v ++ Q) (h2 : fields T2 = P ++ words p ++ Q) (h3 : fields T3 = P ++ words (v ++ 44 :: p) ++ Q)
    (t1 : Taken FF T1) (t2 : Taken FF T2) (t3 : Taken FF T3) : Goal3 T1 T2 T3 := by
  obtain ⟨A, t, p', C, e1, e2, e3, _, _⟩ := words_comma v p
  have l1 := t1.six
  have l2 := t2.six
  have l3 := t3.six
  have hf := t3.fine (P.length + A.length) (by rw [h3, e3] at l3; simp at l3; omega)
  have hg : (fields T3).getD (P.length + A.length) [] = t ++ 44 :: p' := by
    rw [h3, e3]
    have : P ++ (A ++ [t ++ 44 :: p'] ++ C) ++ Q = (P ++ A) ++ (t ++ 44 :: p') :: (C ++ Q) := by simp
    rw [this, List.getD_eq_getElem?_getD, List.getElem?_append_right (by simp)]
    simp
  rw [hg] at hf
  have hne := ok.ne _ _ hf
  rw [pieces_append, List.mem_append] at hne
  have ht : t ≠ [] := fun e => hne (.inl (by rw [e]; simp [pieces]))
  have hp : p' ≠ [] := fun e => hne (.inr (by rw [e]; simp [pieces]))
  rw [h1, e1] at l1
  rw [h2, e2] at l2
  rw [h3, e3] at l3
  unfold opt at e1 e2 l1 l2
  rw [if_neg ht] at e1 l1
  rw [if_neg hp] at e2 l2
  simp at l1 l2 l3
  have hA : A = [] := List.eq_nil_of_length_eq_zero (by omega)
  have hC : C = [] := List.eq_nil_of_length_eq_zero (by omega)
  subst hA; subst hC
  exact ⟨P, t, p', Q, by rw [h1, e1]; simp, by rw [h2, e2]; simp, by rw [h3, e3]; simp⟩
theorem words_end (v Y : Bs) (hY : Y = [] ∨ ∃ Y', Y = 32 :: Y') : words (v ++ Y) = words v ++ words Y := by
  rcases hY with rfl | ⟨Y', rfl⟩
  · simp [words_nil]
  · rw [words_blank _ _ _ (by decide), words_cons _ _ (by decide)]
theorem words_begin (X v : Bs) (hX : X = [] ∨ ∃ X', X = X' ++ [32]) : words (X ++ v) = words X ++ words v := by
  rcases hX with rfl | ⟨X', rfl⟩
  · simp [words_nil]
  · rw [show X' ++ [32] ++ v = X' ++ 32 :: v by simp, words_blank _ _ _ (by decide)]
    congr 1
    have := words_blank X' [] 32 (by decide)
    simpa [words_nil] using this.symm
theorem first_space (X' : Bs) : ∃ H X'', X' ++ [32] = H ++ 32 :: X'' ∧ (∀ x ∈ H, x ≠ 32) ∧ (X'' = [] ∨ ∃ Z, X'' = Z ++ [32]) := by
  induction X' with
  | nil => exact ⟨[], [], rfl, by simp, .inl rfl⟩
  | cons x xs ih =>
    by_cases hx : x = 32
    · subst hx
      exact ⟨[], xs ++ [32], by simp, by simp, .inr ⟨xs, rfl⟩⟩
    · obtain ⟨H, X'', e, hH, hX⟩ := ih
      exact ⟨x :: H, X'', by simp [e], by simpa [hx] using hH, hX⟩
theorem three {FF : Nat → Bs → Prop} (ok : FFok FF) {X w p Y : Bs} (hX : X = [] ∨ ∃ X', X = X' ++ [32]) (hY : Y = [] ∨ ∃ Y', Y = 32 :: Y') (hXY : X ≠ [] ∨ Y ≠ [])
    (t1 : Taken FF (X ++ w ++ Y)) (t2 : Taken FF (X ++ p ++ Y)) (t3 : Taken FF (X ++ (w ++ 44 :: p) ++ Y)) : Goal3 (X ++ w ++ Y) (X ++ p ++ Y) (X ++ (w ++ 44 :: p) ++ Y) := by
  rcases hX with rfl | ⟨X', rfl⟩
  · rcases hY with rfl | ⟨Y', rfl⟩
    · simp at hXY
    simp only [List.nil_append] at t1 t2 t3 ⊢
    have k1 : isHead (w ++ 32 :: Y') = isHead w := head_cut _ _ _ (.inl rfl)
    have k2 : isHead (p ++ 32 :: Y') = isHead p := head_cut _ _ _ (.inl rfl)
    have k3 : isHead (w ++ 44 :: p ++ 32 :: Y') = isHead w := by
      rw [List.append_assoc]; exact head_cut _ _ _ (.inr rfl)
    have wq : ∀ v, words (v ++ 32 :: Y') = words v ++ words Y' := fun v => words_blank _ _ _ (by decide)
    -- a time zone ahead of the part is no field
    have noz : ∀ v (P : List Bs), fields (w ++ 44 :: p ++ 32 :: Y') = P ++ words (v ++ 44 :: p) ++ words Y' → isHead p = false := by
      intro v P hf
      cases hp : isHead p with
      | false => rfl
      | true =>
        obtain ⟨A, t, p', C, e1, e2, e3, _, ep⟩ := words_comma v p
        have l3 := t3.six
        have hff := t3.fine (P.length + A.length) (by rw [hf, e3] at l3; simp at l3; omega)
        have hg : (fields (w ++ 44 :: p ++ 32 :: Y')).getD (P.length + A.length) [] = t ++ 44 :: p' := by
          rw [hf, e3]
          have : P ++ (A ++ [t ++ 44 :: p'] ++ C) ++ words Y' = (P ++ A) ++ (t ++ 44 :: p') :: (C ++ words Y') := by simp
          rw [this, List.getD_eq_getElem?_getD, List.getElem?_append_right (by simp)]
          simp
        rw [hg] at hff
        have := head_eq p hp
        rw [← ep] at this
        exact absurd (by simp [this]) (ok.eq _ _ hff)
    cases hw : isHead w with
    | false =>
      rw [hw] at k1 k3
      have f3 : fields (w ++ 44 :: p ++ 32 :: Y') = [] ++ words (w ++ 44 :: p) ++ words Y' := by rw [fields_plain k3, wq]; simp
      have hp := noz w [] f3
      rw [hp] at k2
      exact core ok (P := []) (by rw [fields_plain k1, wq]; simp) (by rw [fields_plain k2, wq]; simp) f3 t1 t2 t3
    | true =>
      rw [hw] at k1 k3
      obtain ⟨H, b, hs, hH⟩ := t3.zone k3
      obtain ⟨e, hsp, b', rfl⟩ := toSpace_some hs
      -- the zone's name ends inside w
      have hin : ∃ w'', w = H ++ 32 :: w'' := by
        have e' : w ++ (44 :: p ++ 32 :: Y') = H ++ 32 :: b' := by rw [← e]; simp
        rcases List.append_eq_append_iff.1 e' with ⟨a, ha, hb⟩ | ⟨a, ha, hb⟩
        · cases a with
          | nil => simp at hb
          | cons y a =>
            simp at hb
            exact absurd (by rw [ha, ← hb.1]; simp) hH
        · cases a with
          | nil => simp at hb
          | cons y a =>
            simp at hb
            exact ⟨a, by rw [ha, hb.1]⟩
      obtain ⟨w'', rfl⟩ := hin
      have s1 : toSpace (H ++ 32 :: w'' ++ 32 :: Y') = some (H, 32 :: (w'' ++ 32 :: Y')) := by
        rw [List.append_assoc]; exact toSpace_app hsp
      have s3 : toSpace (H ++ 32 :: w'' ++ 44 :: p ++ 32 :: Y') = some (H, 32 :: (w'' ++ 44 :: p ++ 32 :: Y')) := by
        rw [List.append_assoc, List.append_assoc]
        have := toSpace_app (a := H) (b := w'' ++ (44 :: p ++ 32 :: Y')) hsp
        simpa using this
      have f1 : fields (H ++ 32 :: w'' ++ 32 :: Y') = [] ++ words w'' ++ words Y' := by
        rw [fields_zone k1 s1, words_cons _ _ (by decide), wq]; simp
      have f3 : fields (H ++ 32 :: w'' ++ 44 :: p ++ 32 :: Y') = [] ++ words (w'' ++ 44 :: p) ++ words Y' := by
        rw [fields_zone k3 s3, words_cons _ _ (by decide), wq]; simp
      have hp := noz w'' [] f3
      rw [hp] at k2
      exact core ok (P := []) f1 (by rw [fields_plain k2, wq]; simp) f3 t1 t2 t3
  · obtain ⟨H, X'', e, hH, hX⟩ := first_space X'
    have kk : ∀ v, isHead (X' ++ [32] ++ v ++ Y) = isHead X' := fun v => by
      rw [show X' ++ [32] ++ v ++ Y = X' ++ 32 :: (v ++ Y) by simp]; exact head_cut _ _ _ (.inl rfl)
    cases hx : isHead X' with
    | false =>
      have ff : ∀ v, fields (X' ++ [32] ++ v ++ Y) = words X' ++ words v ++ words Y := fun v => by
        rw [fields_plain (by rw [kk, hx]), show X' ++ [32] ++ v ++ Y = X' ++ 32 :: (v ++ Y) by simp, words_blank _ _ _ (by decide), words_end _ _ hY, List.append_assoc]
      exact core ok (ff w) (ff p) (ff (w ++ 44 :: p)) t1 t2 t3
    | true =>
      have ff : ∀ v, fields (X' ++ [32] ++ v ++ Y) = words X'' ++ words v ++ words Y := fun v => by
        have s : toSpace (X' ++ [32] ++ v ++ Y) = some (H, 32 :: (X'' ++ v ++ Y)) := by
          rw [e, List.append_assoc, List.append_assoc]
          have := toSpace_app (a := H) (b := X'' ++ (v ++ Y)) hH
          simpa using this
        rw [fields_zone (by rw [kk, hx]) s, words_cons _ _ (by decide), List.append_assoc, words_begin _ _ hX, words_end _ _ hY, List.append_assoc]
      exact core ok (ff w) (ff p) (ff (w ++ 44 :: p)) t1 t2 t3
end Go.Proofs.YtjmgebhjkbcpcaaGreatDoor.Txt
end
section
/- Cron texts: what an item of a field means. -/
set_option linter.unusedVariables false
namespace Go.Proofs.YtjmgebhjkbcpcaaGreatDoor.Txt
def digit (x : UInt8) : Bool := 48 ≤ x && x ≤ 57
def numv (l : Bs) : Nat := l.foldl (fun n x => 10 * n + (x.toNat - 48)) 0
def isNum (l : Bs) : Bool := !l.isEmpty && l.all digit
def up (x : UInt8) : UInt8 := if 97 ≤ x && x ≤ 122 then x - 32 else x
def low (kind : Nat) : Nat := if kind = 3 then 1 else if kind = 4 then 1 else 0
def high (kind : Nat) : Nat := if kind = 2 then 23 else if kind = 3 then 31 else if kind = 4 then 12 else if kind = 5 then 6 else 59
def months : List Bs := [[74, 65, 78], [70, 69, 66], [77, 65, 82], [65, 80, 82], [77, 65, 89], [74, 85, 78], [74, 85, 76], [65, 85, 71], [83, 69, 80], [79, 67, 84], [78, 79, 86], [68, 69, 67]]
def days : List Bs := [[83, 85, 78], [77, 79, 78], [84, 85, 69], [87, 69, 68], [84, 72, 85], [70, 82, 73], [83, 65, 84]]
/-- the value that a name means -/
def named (kind : Nat) (l : Bs) : Option Nat :=
  if kind = 4 then (months.findIdx? (fun n => n == l.map up)).map (· + 1) else if kind = 5 then days.findIdx? (fun n => n == l.map up) else none
def value (kind : Nat) (l : Bs) : Option Nat := match named kind l with
  | some v => some v
  | none => if isNum l then some (min (numv l) 1099511627776) else none
/-- what stands ahead of the step: least, greatest, a star?, one value alone? -/
def ends (kind : Nat) (e : Bs) : Option (Nat × Nat × Bool × Bool) :=
  match pieces 45 e with
  | [a] => if a = [42] ∨ (a = [63] ∧ (kind = 3 ∨ kind = 5)) then some (low kind, high kind, true, true) else if a = [63] then none else (value kind a).map fun v => (v, v, false, true)
  | [a, b] => if a = [42] ∨ a = [63] then none else match value kind a, value kind b with
    | some v, some u => some (v, u, false, false)
    | _, _ => none
  | _ => none
def stepL (s : Bs) : Option Nat := if isNum s ∧ 0 < numv s ∧ numv s < 1099511627776 then some (numv s) else none
/-- an item: least, greatest, step, a star? -/
def fin (kind : Nat) (lo hi : Nat) (k : Nat) (star : Bool) : Option (Nat × Nat × Nat × Bool) := if low kind ≤ lo ∧ hi ≤ high kind ∧ lo ≤ hi then some (lo, hi, k, star) else none
def item (kind : Nat) (l : Bs) : Option (Nat × Nat × Nat × Bool) :=
  match pieces 47 l with
  | [e] => match ends kind e with
    | some (lo, hi, star, _) => fin kind lo hi 1 star
    | none => none
  | [e, s] => match ends kind e, stepL s with
    | some (lo, hi, star, one), some k => fin kind lo (if one && !star then high kind else hi) k star
    | _, _ => none
  | _ => none
def FF (kind : Nat) (f : Bs) : Prop := ∀ i ∈ pieces 44 f, (item kind i).isSome = true
/-- letters that a fine field may have -/
def okLetter (x : UInt8) : Bool := digit x || (65 ≤ up x && up x ≤ 90) || x == 42 || x == 63 || x == 45 || x == 47 || x == 44
theorem mem_pieces {c : UInt8} {l : Bs} {x : UInt8} (h : x ∈ l) : x = c ∨ ∃ p ∈ pieces c l, x ∈ p := by
  induction l with
  | nil => simp at h
  | cons y ys ih =>
    rw [pieces_cons]
    by_cases e : y = c
    · rw [if_pos e]
      rcases List.mem_cons.1 h with rfl | h
      · exact .inl e
      · rcases ih h with h | ⟨p, hp, hx⟩
        · exact .inl h
        · exact .inr ⟨p, List.mem_cons_of_mem _ hp, hx⟩
    · rw [if_neg e]
      rcases List.mem_cons.1 h with rfl | h
      · exact .inr ⟨x :: (pieces c ys).headD [], List.mem_cons_self, List.mem_cons_self⟩
      · rcases ih h with h | ⟨p, hp, hx⟩
        · exact .inl h
        · have hd := headD_tail (pieces_ne c ys) []
          rw [← hd] at hp
          rcases List.mem_cons.1 hp with rfl | hp
          · exact .inr ⟨y :: (pieces c ys).headD [], List.mem_cons_self, List.mem_cons_of_mem _ hx⟩
          · exact .inr ⟨p, List.mem_cons_of_mem _ hp, hx⟩
theorem num_ok {l : Bs} (h : isNum l = true) : ∀ x ∈ l, okLetter x = true := by
  unfold isNum at h
  rw [Bool.and_eq_true] at h
  intro x hx
  have := List.all_eq_true.1 h.2 x hx
  unfold okLetter
  rw [this]; rfl
theorem named_ok {kind : Nat} {l : Bs} {v : Nat} (h : named kind l = some v) : ∀ x ∈ l, okLetter x = true := by
  have key : ∀ n : Bs, (∀ y ∈ n, 65 ≤ y ∧ y ≤ 90) → n = l.map up → ∀ x ∈ l, okLetter x = true := by
    intro n hn e x hx
    have := hn (up x) (by rw [e]; exact List.mem_map_of_mem hx)
    unfold okLetter
    simp [this.1, this.2]
  have all1 : ∀ n ∈ months, ∀ y ∈ n, (65 : UInt8) ≤ y ∧ y ≤ 90 := by decide
  have all2 : ∀ n ∈ days, ∀ y ∈ n, (65 : UInt8) ≤ y ∧ y ≤ 90 := by decide
  unfold named at h
  split at h
  · rw [Option.map_eq_some_iff] at h
    obtain ⟨i, hi, _⟩ := h
    obtain ⟨h1, h2, _⟩ := List.findIdx?_eq_some_iff_getElem.1 hi
    exact key months[i] (all1 _ (List.getElem_mem _)) (by simpa using h2)
  · split at h
    · obtain ⟨h1, h2, _⟩ := List.findIdx?_eq_some_iff_getElem.1 h
      exact key days[v] (all2 _ (List.getElem_mem _)) (by simpa using h2)
    · simp at h
theorem value_ok {kind : Nat} {l : Bs} {v : Nat} (h : value kind l = some v) : ∀ x ∈ l, okLetter x = true := by
  unfold value at h
  split at h
  · rename_i u hu
    exact named_ok hu
  · split at h
    · rename_i hn
      exact num_ok hn
    · simp at h
theorem ends_ok {kind : Nat} {e : Bs} {r : Nat × Nat × Bool × Bool} (h : ends kind e = some r) : ∀ x ∈ e, okLetter x = true := by
  intro x hx
  rcases mem_pieces (c := 45) hx with rfl | ⟨p, hp, hxp⟩
  · decide
  · unfold ends at h
    split at h
    · rename_i a ha
      rw [ha] at hp
      obtain rfl : p = a := by simpa using hp
      split at h
      · rename_i hs
        rcases hs with rfl | ⟨rfl, _⟩
        · obtain rfl : x = 42 := by simpa using hxp
          decide
        · obtain rfl : x = 63 := by simpa using hxp
          decide
      · split at h
        · simp at h
        · rw [Option.map_eq_some_iff] at h
          obtain ⟨v, hv, _⟩ := h
          exact value_ok hv x hxp
    · rename_i a b ha
      rw [ha] at hp
      split at h
      · simp at h
      · split at h
        · rename_i v u hv hu
          have : p = a ∨ p = b := by simpa using hp
          rcases this with rfl | rfl
          · exact value_ok hv x hxp
          · exact value_ok hu x hxp
        · simp at h
    · simp at h
theorem item_ok {kind : Nat} {l : Bs} (h : (item kind l).isSome = true) : ∀ x ∈ l, okLetter x = true := by
  intro x hx
  rcases mem_pieces (c := 47) hx with rfl | ⟨p, hp, hxp⟩
  · decide
  · unfold item at h
    split at h
    · rename_i e he
      rw [he] at hp
      obtain rfl : p = e := by simpa using hp
      split at h
      · rename_i lo hi star one hen
        exact ends_ok hen x hxp
      · simp at h
    · rename_i e s he
      rw [he] at hp
      split at h
      · rename_i lo hi star one k hen hst
        have : p = e ∨ p = s := by simpa using hp
        rcases this with rfl | rfl
        · exact ends_ok hen x hxp
        · unfold stepL at hst
          split at hst
          · rename_i hn
            exact num_ok hn.1 x hxp
          · simp at hst
      · simp at h
    · simp at h
theorem FF_ok {kind : Nat} {f : Bs} (h : FF kind f) : ∀ x ∈ f, okLetter x = true := by
  intro x hx
  rcases mem_pieces (c := 44) hx with rfl | ⟨p, hp, hxp⟩
  · decide
  · exact item_ok (h p hp) x hxp
theorem item_nil (kind : Nat) : item kind [] = none := by
  have hn : named kind [] = none := by
    unfold named
    split
    · decide
    · split
      · decide
      · rfl
  unfold item
  simp only [pieces]
  unfold ends
  simp only [pieces]
  rw [if_neg (by simp), if_neg (by simp)]
  unfold value
  rw [hn]
  rfl
theorem ffok : FFok FF where
  ne := fun i f h hm => by
    have := h [] hm
    rw [item_nil] at this
    simp at this
  eq := fun i f h hm => by
    have := FF_ok h 61 hm
    exact absurd this (by decide)
end Go.Proofs.YtjmgebhjkbcpcaaGreatDoor.Txt
end
section
/- Cron texts: which are taken; six words make a text that is taken. -/
set_option linter.unusedVariables false
namespace Go.Proofs.YtjmgebhjkbcpcaaGreatDoor.Txt
/-- six fields, each fine -/
def Six (ws : List Bs) : Prop := ws.length = 6 ∧ ∀ i, i < 6 → FF i (ws.getD i [])
/-- a text without a zone is taken -/
def Good (l : Bs) : Prop := l.head? ≠ some 64 ∧ (∀ x ∈ l, x < 128) ∧ Six (words l)
def trimL (l : Bs) : Bs := l.dropWhile blank
def trim (l : Bs) : Bs := ((trimL l).reverse.dropWhile blank).reverse
def zname (l : Bs) : Bs := if [84, 90, 61].isPrefixOf l then l.drop 3 else l.drop 8
def zoneFine (n : Bs) : Prop := n = [] ∨ n = [85, 84, 67] ∨ n = [76, 111, 99, 97, 108]
/-- the texts that the reference calls fine -/
def Fine (l : Bs) : Prop := if isHead l then ∃ a b, toSpace l = some (a, b) ∧ zoneFine (zname a) ∧ Good (trim b) else Good l
theorem words_trimL (l : Bs) : words (trimL l) = words l := by
  induction l with
  | nil => rfl
  | cons x xs ih =>
    unfold trimL
    rw [List.dropWhile_cons]
    split
    · rename_i h
      rw [words_cons _ _ h]; exact ih
    · rfl
theorem words_snoc (l : Bs) (x : UInt8) (h : blank x = true) : words (l ++ [x]) = words l := by
  have := words_blank l [] x h
  simpa [words_nil] using this
theorem words_trim (l : Bs) : words (trim l) = words l := by
  rw [← words_trimL l]
  unfold trim
  generalize trimL l = m
  have key : ∀ r : Bs, words (r.dropWhile blank).reverse = words r.reverse := by
    intro r
    induction r with
    | nil => rfl
    | cons x xs ih =>
      rw [List.dropWhile_cons]
      split
      · rename_i h
        rw [ih, List.reverse_cons, words_snoc _ _ h]
      · rfl
  have := key m.reverse
  rwa [List.reverse_reverse] at this
theorem zoneFine_44 {a : Bs} (h : zoneFine (zname a)) (ha : isHead a = true) : (44 : UInt8) ∉ a := by
  intro hm
  unfold isHead at ha
  have key : ∀ n : Bs, zoneFine n → (44 : UInt8) ∉ n := by
    intro n hn
    rcases hn with rfl | rfl | rfl <;> decide
  unfold zname at h
  by_cases c : [84, 90, 61].isPrefixOf a = true
  · rw [if_pos c] at h
    obtain ⟨n, rfl⟩ := List.isPrefixOf_iff_prefix.1 c
    have := key _ h
    simp at hm this
    exact this hm
  · rw [if_neg c] at h
    simp only [c, Bool.false_or] at ha
    obtain ⟨n, rfl⟩ := List.isPrefixOf_iff_prefix.1 ha
    have := key _ h
    simp at hm this
    exact this hm
theorem isHead_toSpace {l a b : Bs} (h : toSpace l = some (a, b)) : isHead a = isHead l := by
  obtain ⟨e, _, b', rfl⟩ := toSpace_some h
  rw [e]
  exact (head_cut _ _ _ (.inl rfl)).symm
theorem Fine.taken {l : Bs} (h : Fine l) : Taken FF l := by
  unfold Fine at h
  cases hh : isHead l with
  | false =>
    rw [hh] at h
    have g : Good l := by simpa using h
    refine ⟨by rw [fields_plain hh]; exact g.2.2.1, by rw [fields_plain hh]; exact g.2.2.2, fun h => by rw [hh] at h; simp at h⟩
  | true =>
    rw [hh, if_pos rfl] at h
    obtain ⟨a, b, hs, hz, g⟩ := h
    have hw : fields l = words (trim b) := by rw [fields_zone hh hs, words_trim]
    exact ⟨by rw [hw]; exact g.2.2.1, by rw [hw]; exact g.2.2.2, fun _ => ⟨a, b, hs, zoneFine_44 hz (by rw [isHead_toSpace hs]; exact hh)⟩⟩
/-- texts with a blank between them -/
def join : List Bs → Bs
  | [] => []
  | [a] => a
  | a :: b :: r => a ++ 32 :: join (b :: r)
theorem words_join : ∀ ws : List Bs, words (join ws) = (ws.map words).flatten
  | [] => rfl
  | [a] => by simp [join]
  | a :: b :: r => by
    rw [join, words_blank _ _ _ (by decide), words_join (b :: r)]
    rfl
theorem okLetter_facts (x : UInt8) (h : okLetter x = true) : blank x = false ∧ x ≠ 61 ∧ x ≠ 64 ∧ x < 128 := by
  have key : ∀ n : Fin 256, okLetter (UInt8.ofNat n.val) = true → blank (UInt8.ofNat n.val) = false ∧ UInt8.ofNat n.val ≠ 61 ∧ UInt8.ofNat n.val ≠ 64 ∧ UInt8.ofNat n.val < 128 := by decide +kernel
  have := key ⟨x.toNat, x.toNat_lt⟩
  simp only [UInt8.ofNat_toNat] at this
  exact this h
theorem words_one {w : Bs} (h : ∀ x ∈ w, okLetter x = true) (hne : w ≠ []) : words w = [w] := by
  have : wd w = (w ++ [], []) := scan_word w (fun x hx => (okLetter_facts x (h x hx)).1) ([], [])
  unfold words out
  rw [this]
  simp [opt, hne]
theorem FF_ne {k : Nat} {f : Bs} (h : FF k f) : f ≠ [] := by
  rintro rfl
  have := h [] (by simp [pieces])
  rw [item_nil] at this
  simp at this
theorem isHead_no (l : Bs) (w : Bs) (hw : ∀ x ∈ w, x ≠ 61) (c : UInt8) (hc : c = 32 ∨ c = 44) : isHead (w ++ c :: l) = false := by
  rw [head_cut _ _ _ hc]
  cases h : isHead w with
  | false => rfl
  | true =>
    unfold isHead at h
    rw [Bool.or_eq_true] at h
    rcases h with h | h
    · obtain ⟨b, rfl⟩ := List.isPrefixOf_iff_prefix.1 h
      exact absurd rfl (hw 61 (by simp))
    · obtain ⟨b, rfl⟩ := List.isPrefixOf_iff_prefix.1 h
      exact absurd rfl (hw 61 (by simp))
theorem mem_join {ws : List Bs} {x : UInt8} (h : x ∈ join ws) : x = 32 ∨ ∃ w ∈ ws, x ∈ w := by
  induction ws with
  | nil => simp [join] at h
  | cons a r ih =>
    cases r with
    | nil => exact .inr ⟨a, by simp, by simpa [join] using h⟩
    | cons b r =>
      rw [join, List.mem_append] at h
      rcases h with h | h
      · exact .inr ⟨a, by simp, h⟩
      · rcases List.mem_cons.1 h with h | h
        · exact .inl h
        · rcases ih h with h | ⟨w, hw, hx⟩
          · exact .inl h
          · exact .inr ⟨w, List.mem_cons_of_mem _ hw, hx⟩
theorem fine_join {ws : List Bs} (h : Six ws) : Fine (join ws) := by
  obtain ⟨hl, hf⟩ := h
  match ws, hl with
  | [a, b, c, d, e, f], _ =>
    have fa : FF 0 a := hf 0 (by decide)
    have fb : FF 1 b := hf 1 (by decide)
    have fc : FF 2 c := hf 2 (by decide)
    have fd : FF 3 d := hf 3 (by decide)
    have fe : FF 4 e := hf 4 (by decide)
    have ff : FF 5 f := hf 5 (by decide)
    have hw : words (join [a, b, c, d, e, f]) = [a, b, c, d, e, f] := by
      rw [words_join]
      simp [words_one (FF_ok fa) (FF_ne fa), words_one (FF_ok fb) (FF_ne fb), words_one (FF_ok fc) (FF_ne fc), words_one (FF_ok fd) (FF_ne fd), words_one (FF_ok fe) (FF_ne fe), words_one (FF_ok ff) (FF_ne ff)]
    have hh : isHead (join [a, b, c, d, e, f]) = false := isHead_no _ a (fun x hx => (okLetter_facts x (FF_ok fa x hx)).2.1) 32 (.inl rfl)
    unfold Fine
    rw [hh]
    refine (if_neg (by simp)).mpr ⟨?_, ?_, by rw [hw]; exact ⟨rfl, hf⟩⟩
    · cases a with
      | nil => exact absurd rfl (FF_ne fa)
      | cons x xs =>
        intro h
        have : x = 64 := by simpa [join] using h
        exact (okLetter_facts x (FF_ok fa x (by simp))).2.2.1 this
    · intro x hx
      rcases mem_join hx with rfl | ⟨w, hw, hxw⟩
      · decide
      · have : FF 0 w ∨ FF 1 w ∨ FF 2 w ∨ FF 3 w ∨ FF 4 w ∨ FF 5 w := by
          simp at hw
          rcases hw with rfl | rfl | rfl | rfl | rfl | rfl
          · exact .inl fa
          · exact .inr (.inl fb)
          · exact .inr (.inr (.inl fc))
          · exact .inr (.inr (.inr (.inl fd)))
          · exact .inr (.inr (.inr (.inr (.inl fe))))
          · exact .inr (.inr (.inr (.inr (.inr ff))))
        rcases this with h | h | h | h | h | h <;> exact (okLetter_facts x (FF_ok h x hxw)).2.2.2
/-- a text of six words, one of them open -/
theorem join_open {ws : List Bs} (hl : ws.length = 6) (k : Nat) (hk : k < 6) : ∃ X Y, (X = [] ∨ ∃ X', X = X' ++ [32]) ∧ (Y = [] ∨ ∃ Y', Y = 32 :: Y') ∧ (X ≠ [] ∨ Y ≠ []) ∧ ∀ w, join (ws.set k w) = X ++ w ++ Y := by
  match ws, hl with
  | [a, b, c, d, e, f], _ =>
    rcases k with _ | _ | _ | _ | _ | _ | k
    · exact ⟨[], 32 :: join [b, c, d, e, f], .inl rfl, .inr ⟨_, rfl⟩, .inr (by simp), fun w => by simp [join]⟩
    · exact ⟨a ++ [32], 32 :: join [c, d, e, f], .inr ⟨_, rfl⟩, .inr ⟨_, rfl⟩, .inr (by simp), fun w => by simp [join]⟩
    · exact ⟨join [a, b] ++ [32], 32 :: join [d, e, f], .inr ⟨_, rfl⟩, .inr ⟨_, rfl⟩, .inr (by simp), fun w => by simp [join]⟩
    · exact ⟨join [a, b, c] ++ [32], 32 :: join [e, f], .inr ⟨_, rfl⟩, .inr ⟨_, rfl⟩, .inr (by simp), fun w => by simp [join]⟩
    · exact ⟨join [a, b, c, d] ++ [32], 32 :: join [f], .inr ⟨_, rfl⟩, .inr ⟨_, rfl⟩, .inr (by simp), fun w => by simp [join]⟩
    · exact ⟨join [a, b, c, d, e] ++ [32], [], .inr ⟨_, rfl⟩, .inl rfl, .inl (by simp), fun w => by simp [join]⟩
    · omega
theorem three_join {ws : List Bs} (hl : ws.length = 6) (k : Nat) (hk : k < 6) (w p : Bs) (h1 : Fine (join (ws.set k w))) (h2 : Fine (join (ws.set k p))) (h3 : Fine (join (ws.set k (w ++ 44 :: p)))) :
    Goal3 (join (ws.set k w)) (join (ws.set k p)) (join (ws.set k (w ++ 44 :: p))) := by
  obtain ⟨X, Y, hX, hY, hXY, he⟩ := join_open hl k hk
  have t1 := h1.taken
  have t2 := h2.taken
  have t3 := h3.taken
  rw [he] at t1 t2 t3 ⊢
  rw [he, he]
  exact three ffok hX hY hXY t1 t2 t3
end Go.Proofs.YtjmgebhjkbcpcaaGreatDoor.Txt
end
section
namespace Go.Proofs.YtjmgebhjkbcpcaaGreatDoor.Txt
open Go
/-- a text as a list -/
abbrev tx (a : ByteArray) : Bs := a.data.toList
theorem tx_len (a : ByteArray) : (tx a).length = a.size := by rw [Array.length_toList]; rfl
theorem tx_toList (a : ByteArray) : a.toList = tx a := ByteArray.toList_eq a
theorem tx_inj {a b : ByteArray} (h : tx a = tx b) : a = b := by
  cases a; cases b
  simp only [tx] at h
  congr 1
  exact Array.toList_inj.1 h
theorem tx_drop {a : ByteArray} {i : Nat} (h : i < a.size) : (tx a).drop i = a[i] :: (tx a).drop (i + 1) := by
  have := List.drop_eq_getElem_cons (l := tx a) (i := i) (by rw [tx_len]; exact h)
  rw [this]
  rfl
theorem tx_extract (a : ByteArray) (i j : Nat) : tx (a.extract i j) = ((tx a).drop i).take (j - i) := by
  unfold tx
  rw [ByteArray.data_extract, Array.toList_extract, List.extract_eq_take_drop]
theorem tx_all (a : ByteArray) (i : Nat) : tx (a.extract i a.size) = (tx a).drop i := by
  rw [tx_extract, List.take_of_length_le]
  rw [List.length_drop, tx_len]
  exact Nat.le_refl _
end Go.Proofs.YtjmgebhjkbcpcaaGreatDoor.Txt
end
section
namespace Go.Proofs.YtjmgebhjkbcpcaaGreatDoor.Txt
open Go Go.RowKit Go.Proofs.YtjmgebhjkbcpcaaGreatDoorW.PrintWords Go.Proofs.YtjmgebhjkbcpcaaGreatDoorW.PrintLast Go.Proofs.YtjmgebhjkbcpcaaGreatDoorW.PrintMore Go.Proofs.YtjmgebhjkbcpcaaGreatDoor.PCronParse
theorem w64 {x : Int} (h : -9223372036854775808 ≤ x ∧ x < 9223372036854775808) : wrap64 x = x := by
  unfold wrap64
  omega
theorem bt_nat {a : ByteArray} {i : Nat} (h : i < a.size) : bt a (i : Int) = (a[i].toNat : Int) := by simp [bt, h]
def mk (l : Bs) : ByteArray := ⟨l.toArray⟩
theorem tx_mk (l : Bs) : tx (mk l) = l := rfl
theorem mk_tx (a : ByteArray) : mk (tx a) = a := tx_inj rfl
theorem eq_mk {r : List ByteArray} {l : List Bs} (h : r.map tx = l) : r = l.map mk := by
  subst h
  rw [List.map_map]
  have : (mk ∘ tx) = id := by funext a; exact mk_tx a
  rw [this, List.map_id]
theorem take_next {l : Bs} {fr i : Nat} (h : i < l.length) (hf : fr ≤ i) : (l.drop fr).take (i + 1 - fr) = (l.drop fr).take (i - fr) ++ [l[i]] := by
  have e : i + 1 - fr = (i - fr) + 1 := by omega
  rw [e, List.take_add_one, List.getElem?_drop]
  have e2 : fr + (i - fr) = i := by omega
  rw [e2, List.getElem?_eq_getElem h]
  rfl
theorem pieces_l0 (a : ByteArray) (c : UInt8) (hs : a.size < 1099511627776) : ∀ (m i fr : Nat) (acc : List ByteArray) (k : Nat), a.size - i = m → i ≤ a.size → fr ≤ i → acc.length ≤ i → m < k →
    ∃ r, spec_cronPieces.l0 k a c.toNat acc fr a.size i = some r ∧ r.map tx = acc.map tx ++ ((((tx a).drop fr).take (i - fr) ++ (pieces c ((tx a).drop i)).headD []) :: (pieces c ((tx a).drop i)).tail) := by
  intro m
  induction m with
  | zero =>
    intro i fr acc k hm hi hf ha hk
    obtain ⟨k, rfl⟩ : ∃ j, k = j + 1 := ⟨k - 1, by omega⟩
    have e : i = a.size := by omega
    subst e
    unfold spec_cronPieces.l0
    rw [if_neg (by omega), if_pos (by omega), if_pos (by omega), if_pos (by omega)]
    refine ⟨_, rfl, ?_⟩
    rw [List.map_append, List.map_cons, List.map_nil, Int.toNat_natCast, tx_all, List.drop_of_length_le (show (tx a).length ≤ a.size by rw [tx_len]; exact Nat.le_refl _), List.take_of_length_le (by rw [List.length_drop, tx_len]; exact Nat.le_refl _)]
    simp [pieces]
  | succ m ih =>
    intro i fr acc k hm hi hf ha hk
    obtain ⟨k, rfl⟩ : ∃ j, k = j + 1 := ⟨k - 1, by omega⟩
    have hlt : i < a.size := by omega
    have hb := bt_nat hlt
    have hd := tx_drop hlt
    have hw : wrap64 ((i : Int) + 1) = ((i + 1 : Nat) : Int) := by rw [w64 (by omega)]; rfl
    unfold spec_cronPieces.l0
    rw [if_pos (by omega), if_pos (by omega), if_pos (by omega), hb, hw]
    by_cases h : a[i] = c
    · rw [if_pos (by rw [h]), if_pos (by omega), if_pos (by omega), if_pos (by omega), if_pos (by omega)]
      obtain ⟨r, h1, h2⟩ := ih (i + 1) (i + 1) (acc ++ [a.extract fr i]) k (by omega) (by omega) (by omega) (by simp; omega) (by omega)
      refine ⟨r, h1, ?_⟩
      rw [h2, hd, pieces_cons, if_pos h, Nat.sub_self, List.take_zero, List.nil_append, headD_tail (pieces_ne c _)]
      simp [tx_extract]
    · rw [if_neg (fun h' => h (UInt8.toNat_inj.1 (by omega)))]
      obtain ⟨r, h1, h2⟩ := ih (i + 1) fr acc k (by omega) (by omega) (by omega) (by omega) (by omega)
      refine ⟨r, h1, ?_⟩
      rw [h2, hd, pieces_cons, if_neg h, take_next (by rw [tx_len]; exact hlt) hf]
      have : (tx a)[i]'(by rw [tx_len]; exact hlt) = a[i] := rfl
      rw [this]
      simp
theorem pieces_f (a : ByteArray) (c : UInt8) (hs : a.size < 1099511627776) (k : Nat) (hk : a.size < k) : spec_cronPieces.f k a c.toNat = some ((pieces c (tx a)).map mk) := by
  obtain ⟨r, h1, h2⟩ := pieces_l0 a c hs a.size 0 0 [] k (by omega) (by omega) (by omega) (by simp) hk
  have e : spec_cronPieces.f k a c.toNat = some r := h1
  rw [Nat.sub_self, List.take_zero, List.nil_append, List.drop_zero, headD_tail (pieces_ne c _)] at h2
  rw [e, eq_mk h2]
  rfl
theorem u8_all {p : UInt8 → Prop} (h : ∀ n : Fin 256, p (UInt8.ofNat n.val)) (x : UInt8) : p x := by
  have := h ⟨x.toNat, x.toNat_lt⟩
  simpa using this
set_option maxRecDepth 20000 in
theorem blank_f (x : UInt8) : spec_cronBlank.f (x.toNat : Int) = some (blank x) := u8_all (p := fun x => spec_cronBlank.f (x.toNat : Int) = some (blank x)) (by decide) x
set_option maxRecDepth 20000 in
theorem digit_f (x : UInt8) : spec_isDigit.f (x.toNat : Int) = some (digit x) := u8_all (p := fun x => spec_isDigit.f (x.toNat : Int) = some (digit x)) (by decide) x
set_option maxRecDepth 20000 in
theorem upper_f (x : UInt8) : spec_cronUpper.f (x.toNat : Int) = some ((up x).toNat : Int) := u8_all (p := fun x => spec_cronUpper.f (x.toNat : Int) = some ((up x).toNat : Int)) (by decide) x
theorem words_cut (cur b : Bs) (x : UInt8) (h : blank x = true) (hc : ∀ y ∈ cur, blank y = false) : words (cur ++ x :: b) = opt cur ++ words b := by
  rw [words_blank _ _ _ h]
  congr 1
  have : wd cur = (cur ++ [], []) := scan_word cur hc ([], [])
  unfold words out
  rw [this]
  simp
/-- the word that a scan stands in -/
def Cur (a : ByteArray) (i : Nat) (fr : Int) (cur : Bs) : Prop := (fr = -1 ∧ cur = []) ∨ ∃ f : Nat, fr = f ∧ f < i ∧ cur = ((tx a).drop f).take (i - f) ∧ ∀ x ∈ cur, blank x = false
theorem Cur.le {a : ByteArray} {i : Nat} {fr : Int} {cur : Bs} (h : Cur a i fr cur) : fr < i ∧ -1 ≤ fr ∧ ∀ x ∈ cur, blank x = false := by
  rcases h with ⟨rfl, rfl⟩ | ⟨f, rfl, hf, _, hb⟩
  · exact ⟨by omega, by omega, by simp⟩
  · exact ⟨by omega, by omega, hb⟩
theorem Cur.ne {a : ByteArray} {i f : Nat} {cur : Bs} (h : Cur a i f cur) (hi : i ≤ a.size) : cur ≠ [] ∧ cur = ((tx a).drop f).take (i - f) := by
  rcases h with ⟨h, _⟩ | ⟨g, h, hf, hc, hb⟩
  · omega
  · have e : f = g := by omega
    subst e
    refine ⟨?_, hc⟩
    rw [hc]
    intro e
    have := congrArg List.length e
    rw [List.length_take, List.length_drop, tx_len] at this
    simp at this
    omega
theorem words_l0 (a : ByteArray) (hs : a.size < 1099511627776) : ∀ (m i : Nat) (fr : Int) (cur : Bs) (acc : List ByteArray) (k : Nat), a.size - i = m → i ≤ a.size → Cur a i fr cur → acc.length ≤ i → 2 * m < k →
    ∃ r, spec_CronWords.l0 k a acc fr a.size i = some r ∧ r.map tx = acc.map tx ++ words (cur ++ (tx a).drop i) := by
  intro m
  induction m with
  | zero =>
    intro i fr cur acc k hm hi hc ha hk
    obtain ⟨k, rfl⟩ : ∃ j, k = j + 1 := ⟨k - 1, by omega⟩
    have e : i = a.size := by omega
    subst e
    unfold spec_CronWords.l0
    rw [if_neg (by omega), List.drop_of_length_le (show (tx a).length ≤ a.size by rw [tx_len]; exact Nat.le_refl _)]
    obtain ⟨hl1, hl2, hb⟩ := hc.le
    have hwc : words (cur ++ []) = opt cur := by
      have := words_cut cur [] 32 (by decide) hb
      rw [words_blank _ _ _ (by decide), words_nil, List.append_nil, List.append_nil] at this
      rw [List.append_nil, this]
    rw [hwc]
    by_cases hf : fr ≥ 0
    · obtain ⟨f, rfl⟩ : ∃ f : Nat, fr = f := ⟨fr.toNat, by omega⟩
      obtain ⟨hne, hcur⟩ := hc.ne (Nat.le_refl _)
      rw [if_pos (by omega), if_pos (by omega), if_pos (by omega), if_pos (by omega)]
      refine ⟨_, rfl, ?_⟩
      unfold opt
      rw [if_neg hne, hcur, List.take_of_length_le (by rw [List.length_drop, tx_len]; exact Nat.le_refl _)]
      simp [tx_all]
    · rw [if_neg hf]
      refine ⟨_, rfl, ?_⟩
      rcases hc with ⟨_, rfl⟩ | ⟨f, h, _⟩
      · simp [opt]
      · omega
  | succ m ih =>
    intro i fr cur acc k hm hi hc ha hk
    obtain ⟨k, rfl⟩ : ∃ j, k = j + 2 := ⟨k - 2, by omega⟩
    have hlt : i < a.size := by omega
    have hb := bt_nat hlt
    have hd := tx_drop hlt
    have hw : wrap64 ((i : Int) + 1) = ((i + 1 : Nat) : Int) := by rw [w64 (by omega)]; rfl
    obtain ⟨hl1, hl2, hbl⟩ := hc.le
    unfold spec_CronWords.l0
    rw [if_pos (by omega), if_pos (by omega), if_pos (by omega), hb, blank_f, hd]
    simp only [Option.bind_some]
    cases hx : blank a[i] with
    | true =>
      rw [if_pos rfl]
      by_cases hf : fr ≥ 0
      · obtain ⟨f, rfl⟩ : ∃ f : Nat, fr = f := ⟨fr.toNat, by omega⟩
        obtain ⟨hne, hcur⟩ := hc.ne hi
        rw [decide_eq_true hf]
        unfold spec_CronWords.j1
        rw [if_pos rfl, if_pos (by omega), if_pos (by omega), if_pos (by omega), if_pos (by omega), hw]
        obtain ⟨r, h1, h2⟩ := ih (i + 1) (-1) [] (acc ++ [a.extract f i]) k (by omega) (by omega) (.inl ⟨rfl, rfl⟩) (by simp; omega) (by omega)
        refine ⟨r, h1, ?_⟩
        rw [h2, words_cut cur _ _ hx hbl]
        unfold opt
        rw [if_neg hne, hcur]
        simp [tx_extract]
      · rw [decide_eq_false hf]
        unfold spec_CronWords.j1
        rw [if_neg (by simp), if_pos (by omega), if_pos (by omega), hb, blank_f, hw]
        simp only [Option.bind_some]
        rw [if_pos hx]
        obtain ⟨r, h1, h2⟩ := ih (i + 1) fr cur acc k (by omega) (by omega) (by rcases hc with h | ⟨f, h, _⟩; exact .inl h; omega) (by omega) (by omega)
        refine ⟨r, h1, ?_⟩
        have hcn : cur = [] := by rcases hc with ⟨_, h⟩ | ⟨f, h, _⟩; exact h; omega
        rw [h2, hcn, List.nil_append, List.nil_append, words_cons _ _ hx]
    | false =>
      rw [if_neg (by simp)]
      unfold spec_CronWords.j1
      rw [if_neg (by simp), if_pos (by omega), if_pos (by omega), hb, blank_f, hw]
      simp only [Option.bind_some]
      rw [if_neg (by rw [hx]; simp)]
      by_cases hf : fr < 0
      · rw [if_pos hf]
        have hcn : cur = [] := by rcases hc with ⟨_, h⟩ | ⟨f, h, _⟩; exact h; omega
        have hcur : [a[i]] = ((tx a).drop i).take (i + 1 - i) := by rw [hd, show i + 1 - i = 1 by omega]; rfl
        obtain ⟨r, h1, h2⟩ := ih (i + 1) i [a[i]] acc k (by omega) (by omega) (.inr ⟨i, rfl, by omega, hcur, by simp [hx]⟩) (by omega) (by omega)
        refine ⟨r, h1, ?_⟩
        rw [h2, hcn]
        rfl
      · rw [if_neg hf]
        obtain ⟨f, rfl⟩ : ∃ f : Nat, fr = f := ⟨fr.toNat, by omega⟩
        obtain ⟨hne, hcur⟩ := hc.ne hi
        have hcur' : cur ++ [a[i]] = ((tx a).drop f).take (i + 1 - f) := by
          rw [take_next (by rw [tx_len]; exact hlt) (by omega), ← hcur]
          rfl
        obtain ⟨r, h1, h2⟩ := ih (i + 1) f (cur ++ [a[i]]) acc k (by omega) (by omega) (.inr ⟨f, rfl, by omega, hcur', by
          intro x hm
          rw [List.mem_append] at hm
          rcases hm with hm | hm
          · exact hbl x hm
          · simp at hm; rw [hm]; exact hx⟩) (by omega) (by omega)
        refine ⟨r, h1, ?_⟩
        rw [h2]
        simp
theorem words_f (a : ByteArray) (hs : a.size < 1099511627776) (k : Nat) (hk : 2 * a.size < k) : spec_CronWords.f k a = some ((words (tx a)).map mk) := by
  obtain ⟨r, h1, h2⟩ := words_l0 a hs a.size 0 (-1) [] [] k (by omega) (by omega) (.inl ⟨rfl, rfl⟩) (by simp) hk
  have e : spec_CronWords.f k a = some r := h1
  rw [List.drop_zero, List.nil_append] at h2
  rw [e, eq_mk h2]
  rfl
end Go.Proofs.YtjmgebhjkbcpcaaGreatDoor.Txt
end
section
namespace Go.Proofs.YtjmgebhjkbcpcaaGreatDoor.Txt
open Go Go.RowKit Go.Proofs.YtjmgebhjkbcpcaaGreatDoorW.PrintWords Go.Proofs.YtjmgebhjkbcpcaaGreatDoorW.PrintLast Go.Proofs.YtjmgebhjkbcpcaaGreatDoorW.PrintMore Go.Proofs.YtjmgebhjkbcpcaaGreatDoor.PCronParse
/-- what a reading answers: a value, or a verdict that is not 'fine' -/
def Says (o : Option (Int × Int)) (q : Option Nat) : Prop := ∃ n v, o = some (n, v) ∧ match q with
  | some m => v = 1 ∧ n = m
  | none => v = 0 ∨ v = 2
def numC (n : Nat) (l : Bs) : Nat := l.foldl (fun n x => min (10 * n + (x.toNat - 48)) 1099511627776) n
theorem numC_eq (l : Bs) : ∀ n, numC (min n 1099511627776) l = min (l.foldl (fun n x => 10 * n + (x.toNat - 48)) n) 1099511627776 := by
  induction l with
  | nil => intro n; rfl
  | cons x xs ih =>
    intro n
    show numC (min (10 * min n 1099511627776 + (x.toNat - 48)) 1099511627776) xs = min (xs.foldl _ (10 * n + (x.toNat - 48))) _
    rw [← ih]
    congr 1
    omega
theorem digit_n {x : UInt8} : digit x = true ↔ 48 ≤ x.toNat ∧ x.toNat ≤ 57 := by
  unfold digit
  rw [Bool.and_eq_true, decide_eq_true_eq, decide_eq_true_eq, UInt8.le_iff_toNat_le, UInt8.le_iff_toNat_le]
  exact Iff.rfl
theorem num_l0 (a : ByteArray) (hs : a.size < 1099511627776) (v : Int) : ∀ (m i n k : Nat), a.size - i = m → i ≤ a.size → n ≤ 1099511627776 → m < k →
    spec_CronNumber.l0 k a v n a.size i = some (if ((tx a).drop i).all digit then ((numC n ((tx a).drop i) : Int), v) else (0, 0)) := by
  intro m
  induction m with
  | zero =>
    intro i n k hm hi hn hk
    obtain ⟨k, rfl⟩ : ∃ j, k = j + 1 := ⟨k - 1, by omega⟩
    have e : i = a.size := by omega
    subst e
    unfold spec_CronNumber.l0
    rw [if_neg (by omega), List.drop_of_length_le (show (tx a).length ≤ a.size by rw [tx_len]; exact Nat.le_refl _)]
    rfl
  | succ m ih =>
    intro i n k hm hi hn hk
    obtain ⟨k, rfl⟩ : ∃ j, k = j + 1 := ⟨k - 1, by omega⟩
    have hlt : i < a.size := by omega
    have hb := bt_nat hlt
    have hd := tx_drop hlt
    have hw : wrap64 ((i : Int) + 1) = ((i + 1 : Nat) : Int) := by rw [w64 (by omega)]; rfl
    unfold spec_CronNumber.l0
    rw [if_pos (by omega), if_pos (by omega), if_pos (by omega), hb, digit_f, hd, hw]
    simp only [Option.bind_some]
    by_cases hx : digit a[i] = true
    case neg =>
      rw [if_neg hx, if_neg]
      show ¬ (digit a[i] && _) = true
      simp [hx]
    case pos =>
      obtain ⟨h1, h2⟩ := digit_n.1 hx
      have ha : (a[i] :: List.drop (i + 1) (tx a)).all digit = (List.drop (i + 1) (tx a)).all digit := by
        show (digit a[i] && _) = _
        rw [hx]; rfl
      rw [if_pos hx, ha]
      have e : mn (wrap64 (wrap64 (10 * (n : Int)) + ((a[i].toNat : Int) - 48) % 256)) 1099511627776 = ((min (10 * n + (a[i].toNat - 48)) 1099511627776 : Nat) : Int) := by
        rw [w64 (x := 10 * (n : Int)) (by omega), w64 (by omega)]
        unfold mn
        split <;> omega
      rw [e, ih (i + 1) _ k (by omega) (by omega) (by omega) (by omega)]
      rfl
theorem zeros_l0 (a : ByteArray) (hs : a.size < 1099511627776) : ∀ (m i k : Nat), a.size - i = m → i ≤ a.size → m < k → ∃ b, spec_cronZeros.l0 k a a.size i = some b := by
  intro m
  induction m with
  | zero =>
    intro i k hm hi hk
    obtain ⟨k, rfl⟩ : ∃ j, k = j + 1 := ⟨k - 1, by omega⟩
    unfold spec_cronZeros.l0
    rw [if_neg (by omega)]
    exact ⟨_, rfl⟩
  | succ m ih =>
    intro i k hm hi hk
    obtain ⟨k, rfl⟩ : ∃ j, k = j + 1 := ⟨k - 1, by omega⟩
    have hw : wrap64 ((i : Int) + 1) = ((i + 1 : Nat) : Int) := by rw [w64 (by omega)]; rfl
    unfold spec_cronZeros.l0
    rw [if_pos (by omega), if_pos (by omega), if_pos (by omega), hw]
    split
    · exact ih (i + 1) k (by omega) (by omega) (by omega)
    · exact ⟨_, rfl⟩
theorem num_j1 (a : ByteArray) (hs : a.size < 1099511627776) (v : Int) (k : Nat) (hk : a.size + 1 < k) :
    spec_CronNumber.j1 k a v = some (if isNum (tx a) then ((min (numv (tx a)) 1099511627776 : Nat) : Int) else 0, if isNum (tx a) then v else 0) := by
  obtain ⟨k, rfl⟩ : ∃ j, k = j + 1 := ⟨k - 1, by omega⟩
  rw [spec_CronNumber.j1]
  rw [tx_toList]
  by_cases h : tx a = []
  · rw [if_pos h, h]; rfl
  · rw [if_neg h]
    have := num_l0 a hs v a.size 0 0 k (by omega) (by omega) (by omega) (by omega)
    rw [List.drop_zero] at this
    have e := numC_eq (tx a) 0
    rw [show min 0 1099511627776 = 0 from rfl] at e
    rw [e] at this
    refine Eq.trans this ?_
    have hi : isNum (tx a) = (tx a).all digit := by
      unfold isNum
      cases ha : tx a with
      | nil => exact absurd ha h
      | cons x xs => rfl
    rw [hi]
    cases (tx a).all digit <;> rfl
theorem num_f (a : ByteArray) (hs : a.size < 1099511627776) (k : Nat) (hk : a.size + 2 < k) : Says (spec_CronNumber.f k a) (if isNum (tx a) then some (min (numv (tx a)) 1099511627776) else none) := by
  have plain : ∀ k, a.size + 2 < k → Says (spec_CronNumber.j0 k a 1 false) (if isNum (tx a) then some (min (numv (tx a)) 1099511627776) else none) := by
    intro k hk
    obtain ⟨k, rfl⟩ : ∃ j, k = j + 1 := ⟨k - 1, by omega⟩
    rw [spec_CronNumber.j0]
    rw [if_neg (by simp), num_j1 a hs _ k (by omega)]
    refine ⟨_, _, rfl, ?_⟩
    split <;> simp_all
  have signed : ∀ k, a.size + 2 < k → 0 < a.size → isNum (tx a) = false → Says (spec_CronNumber.j0 k a 1 true) none := by
    intro k hk h0 hn
    obtain ⟨k, rfl⟩ : ∃ j, k = j + 1 := ⟨k - 1, by omega⟩
    rw [spec_CronNumber.j0]
    have e : (a.extract 1 a.size).size = a.size - 1 := by rw [← tx_len, tx_all, List.length_drop, tx_len]
    rw [if_pos rfl, if_pos (by omega), num_j1 _ (by omega) _ k (by omega)]
    refine ⟨_, _, rfl, ?_⟩
    show _ ∨ _
    split <;> simp
  unfold spec_CronNumber.f
  by_cases h0 : 0 < a.size
  · have hd := tx_drop h0
    rw [List.drop_zero] at hd
    rw [if_pos (by omega), if_pos (by omega)]
    have hb : bt a 0 = (a[0].toNat : Int) := bt_nat h0
    have hno : ∀ x : UInt8, digit x = false → a[0] = x → isNum (tx a) = false := by
      intro x hx e
      rw [hd, e]
      unfold isNum
      simp [hx]
    rw [hb]
    by_cases h43 : (a[0].toNat : Int) = 43
    · have e : a[0] = 43 := UInt8.toNat_inj.1 (by simpa using (by omega : a[0].toNat = 43))
      have hn := hno 43 (by decide) e
      rw [if_pos h43, hn]
      exact signed k hk h0 hn
    · rw [if_neg h43]
      by_cases h45 : (a[0].toNat : Int) = 45
      · have e : a[0] = 45 := UInt8.toNat_inj.1 (by simpa using (by omega : a[0].toNat = 45))
        have hn := hno 45 (by decide) e
        rw [if_pos h45, if_pos (by omega)]
        have e1 : (a.extract 1 a.size).size = a.size - 1 := by rw [← tx_len, tx_all, List.length_drop, tx_len]
        obtain ⟨b, hz⟩ := zeros_l0 (a.extract 1 a.size) (by omega) _ 0 k rfl (by omega) (by omega)
        have hz' : spec_cronZeros.f k (a.extract 1 a.size) = some b := hz
        rw [hz']
        simp only [Option.bind_some]
        cases b with
        | true => rw [hn]; exact signed k hk h0 hn
        | false => exact plain k hk
      · rw [if_neg h45]
        exact plain k hk
  · rw [if_neg (by omega)]
    exact plain k hk
end Go.Proofs.YtjmgebhjkbcpcaaGreatDoor.Txt
end
section
namespace Go.Proofs.YtjmgebhjkbcpcaaGreatDoor.Txt
open Go Go.RowKit Go.Proofs.YtjmgebhjkbcpcaaGreatDoorW.PrintWords Go.Proofs.YtjmgebhjkbcpcaaGreatDoorW.PrintLast Go.Proofs.YtjmgebhjkbcpcaaGreatDoorW.PrintMore Go.Proofs.YtjmgebhjkbcpcaaGreatDoor.PCronParse
theorem same_l0 (a b : ByteArray) (hs : a.size < 1099511627776) (he : a.size = b.size) : ∀ (m i k : Nat), a.size - i = m → i ≤ a.size → m < k →
    spec_cronSame.l0 k a b a.size i = some (decide (((tx a).drop i).map up = ((tx b).drop i).map up)) := by
  intro m
  induction m with
  | zero =>
    intro i k hm hi hk
    obtain ⟨k, rfl⟩ : ∃ j, k = j + 1 := ⟨k - 1, by omega⟩
    unfold spec_cronSame.l0
    rw [if_neg (by omega), List.drop_of_length_le (show (tx a).length ≤ i by rw [tx_len]; omega), List.drop_of_length_le (show (tx b).length ≤ i by rw [tx_len]; omega)]
    rfl
  | succ m ih =>
    intro i k hm hi hk
    obtain ⟨k, rfl⟩ : ∃ j, k = j + 1 := ⟨k - 1, by omega⟩
    have hlt : i < a.size := by omega
    have hlb : i < b.size := by omega
    have hw : wrap64 ((i : Int) + 1) = ((i + 1 : Nat) : Int) := by rw [w64 (by omega)]; rfl
    unfold spec_cronSame.l0
    rw [if_pos (by omega), if_pos (by omega), if_pos (by omega), bt_nat hlt, bt_nat hlb, upper_f, upper_f, hw, tx_drop hlt, tx_drop hlb]
    simp only [Option.bind_some]
    rw [if_pos (by omega)]
    by_cases hx : up a[i] = up b[i]
    · rw [if_pos (by rw [hx]), ih (i + 1) k (by omega) (by omega) (by omega)]
      congr 1
      simp only [List.map_cons, List.cons.injEq, hx, true_and]
    · rw [if_neg (fun h => hx (UInt8.toNat_inj.1 (by omega)))]
      congr 1
      symm
      apply decide_eq_false
      simp [hx]
theorem same_f (a b : ByteArray) (hs : a.size < 1099511627776) (k : Nat) (hk : a.size < k) : spec_cronSame.f k a b = some (decide ((tx a).map up = (tx b).map up)) := by
  unfold spec_cronSame.f
  by_cases he : a.size = b.size
  · rw [if_pos (by omega)]
    exact same_l0 a b hs he a.size 0 k (by omega) (by omega) hk
  · rw [if_neg (by omega)]
    congr 1
    symm
    apply decide_eq_false
    intro h
    have := congrArg List.length h
    rw [List.length_map, List.length_map, tx_len, tx_len] at this
    exact he this
def nameOf (kind v : Nat) : Bs := if kind = 4 then months.getD (v - 1) [] else days.getD v []
set_option maxRecDepth 20000 in
theorem name_4 (k : Nat) : ∀ v : Nat, 1 ≤ v → v ≤ 12 → spec_CronName.f (k + 2) 4 (v : Int) = some (mk (nameOf 4 v)) := by
  intro v h1 h2
  unfold spec_CronName.f
  rw [if_pos rfl, spec_CronName.j0, if_neg (by decide), spec_CronName.j1, tx_toList, if_neg (fun h => absurd h (List.cons_ne_nil _ _))]
  have : v = 1 ∨ v = 2 ∨ v = 3 ∨ v = 4 ∨ v = 5 ∨ v = 6 ∨ v = 7 ∨ v = 8 ∨ v = 9 ∨ v = 10 ∨ v = 11 ∨ v = 12 := by omega
  rcases this with rfl | rfl | rfl | rfl | rfl | rfl | rfl | rfl | rfl | rfl | rfl | rfl <;> (refine Eq.trans ?_ rfl; kernel_rfl)
set_option maxRecDepth 20000 in
theorem name_5 (k : Nat) : ∀ v : Nat, v ≤ 6 → spec_CronName.f (k + 2) 5 (v : Int) = some (mk (nameOf 5 v)) := by
  intro v h2
  unfold spec_CronName.f
  rw [if_neg (by decide), spec_CronName.j0, if_pos rfl, spec_CronName.j1, tx_toList, if_neg (fun h => absurd h (List.cons_ne_nil _ _))]
  have : v = 0 ∨ v = 1 ∨ v = 2 ∨ v = 3 ∨ v = 4 ∨ v = 5 ∨ v = 6 := by omega
  rcases this with rfl | rfl | rfl | rfl | rfl | rfl | rfl <;> (refine Eq.trans ?_ rfl; kernel_rfl)
theorem name_f (k kind v : Nat) (hk : kind = 4 ∨ kind = 5) (h1 : low kind ≤ v) (h2 : v ≤ high kind) : spec_CronName.f (k + 2) kind v = some (mk (nameOf kind v)) ∧ (nameOf kind v).map up = nameOf kind v ∧ (nameOf kind v).length = 3 := by
  rcases hk with rfl | rfl
  · have l1 : 1 ≤ v := h1
    have l2 : v ≤ 12 := h2
    refine ⟨name_4 k v l1 l2, ?_⟩
    have : v = 1 ∨ v = 2 ∨ v = 3 ∨ v = 4 ∨ v = 5 ∨ v = 6 ∨ v = 7 ∨ v = 8 ∨ v = 9 ∨ v = 10 ∨ v = 11 ∨ v = 12 := by omega
    rcases this with rfl | rfl | rfl | rfl | rfl | rfl | rfl | rfl | rfl | rfl | rfl | rfl <;> decide
  · have l2 : v ≤ 6 := h2
    refine ⟨name_5 k v l2, ?_⟩
    have : v = 0 ∨ v = 1 ∨ v = 2 ∨ v = 3 ∨ v = 4 ∨ v = 5 ∨ v = 6 := by omega
    rcases this with rfl | rfl | rfl | rfl | rfl | rfl | rfl <;> decide
theorem named_hit (kind v : Nat) (hk : kind = 4 ∨ kind = 5) (h1 : low kind ≤ v) (h2 : v ≤ high kind) (L : Bs) (h : nameOf kind v = L.map up) : named kind L = some v := by
  unfold named
  rw [← h]
  rcases hk with rfl | rfl
  · have l1 : 1 ≤ v := h1
    have l2 : v ≤ 12 := h2
    have : v = 1 ∨ v = 2 ∨ v = 3 ∨ v = 4 ∨ v = 5 ∨ v = 6 ∨ v = 7 ∨ v = 8 ∨ v = 9 ∨ v = 10 ∨ v = 11 ∨ v = 12 := by omega
    rcases this with rfl | rfl | rfl | rfl | rfl | rfl | rfl | rfl | rfl | rfl | rfl | rfl <;> decide
  · have l2 : v ≤ 6 := h2
    have : v = 0 ∨ v = 1 ∨ v = 2 ∨ v = 3 ∨ v = 4 ∨ v = 5 ∨ v = 6 := by omega
    rcases this with rfl | rfl | rfl | rfl | rfl | rfl | rfl <;> decide
theorem named_miss (kind : Nat) (hk : kind = 4 ∨ kind = 5) (L : Bs) (h : ∀ u, low kind ≤ u → u ≤ high kind → nameOf kind u ≠ L.map up) : named kind L = none := by
  unfold named
  rcases hk with rfl | rfl
  · rw [if_pos rfl]
    have : months.findIdx? (fun n => n == L.map up) = none := by
      rw [List.findIdx?_eq_none_iff]
      intro x hx
      obtain ⟨i, hi, rfl⟩ := List.getElem_of_mem hx
      have l : i < 12 := hi
      have := h (i + 1) (by show 1 ≤ _; omega) (by show _ ≤ 12; omega)
      unfold nameOf at this
      rw [if_pos rfl, Nat.add_sub_cancel, List.getD_eq_getElem?_getD, List.getElem?_eq_getElem hi] at this
      simpa using this
    rw [this]; rfl
  · rw [if_neg (by decide), if_pos rfl, List.findIdx?_eq_none_iff]
    intro x hx
    obtain ⟨i, hi, rfl⟩ := List.getElem_of_mem hx
    have l : i < 7 := hi
    have := h i (Nat.zero_le _) (by show _ ≤ 6; omega)
    unfold nameOf at this
    rw [if_neg (by decide), List.getD_eq_getElem?_getD, List.getElem?_eq_getElem hi] at this
    simpa using this
theorem named_no (kind : Nat) (h4 : kind ≠ 4) (h5 : kind ≠ 5) (L : Bs) : named kind L = none := by
  unfold named
  rw [if_neg h4, if_neg h5]
theorem foreign_l0 (a : ByteArray) (hs : a.size < 1099511627776) : ∀ (m i k : Nat), a.size - i = m → i ≤ a.size → m < k → spec_cronForeign.l0 k a a.size i = some (((tx a).drop i).any fun x => decide (128 ≤ x)) := by
  intro m
  induction m with
  | zero =>
    intro i k hm hi hk
    obtain ⟨k, rfl⟩ : ∃ j, k = j + 1 := ⟨k - 1, by omega⟩
    unfold spec_cronForeign.l0
    rw [if_neg (by omega), List.drop_of_length_le (show (tx a).length ≤ i by rw [tx_len]; omega)]
    rfl
  | succ m ih =>
    intro i k hm hi hk
    obtain ⟨k, rfl⟩ : ∃ j, k = j + 1 := ⟨k - 1, by omega⟩
    have hlt : i < a.size := by omega
    have hw : wrap64 ((i : Int) + 1) = ((i + 1 : Nat) : Int) := by rw [w64 (by omega)]; rfl
    unfold spec_cronForeign.l0
    rw [if_pos (by omega), if_pos (by omega), if_pos (by omega), bt_nat hlt, hw, tx_drop hlt]
    by_cases hx : 128 ≤ a[i]
    · have : 128 ≤ a[i].toNat := UInt8.le_iff_toNat_le.1 hx
      rw [if_pos (by omega)]
      congr 1
      show true = (decide (128 ≤ a[i]) || _)
      rw [decide_eq_true hx]; rfl
    · have : ¬ 128 ≤ a[i].toNat := fun h => hx (UInt8.le_iff_toNat_le.2 h)
      rw [if_neg (by omega), ih (i + 1) k (by omega) (by omega) (by omega)]
      congr 1
      show _ = (decide (128 ≤ a[i]) || _)
      rw [decide_eq_false hx]; rfl
theorem foreign_f (a : ByteArray) (hs : a.size < 1099511627776) (k : Nat) (hk : a.size < k) : spec_cronForeign.f k a = some ((tx a).any fun x => decide (128 ≤ x)) := by
  have := foreign_l0 a hs a.size 0 k (by omega) (by omega) hk
  rw [List.drop_zero] at this
  exact this
theorem says_eta {o : Option (Int × Int)} {q : Option Nat} (h : Says o q) : Says (o.bind fun b => some (b.1, b.2)) q := by
  obtain ⟨n, v, rfl, hq⟩ := h
  exact ⟨n, v, rfl, hq⟩
theorem num_small {l : Bs} (h : isNum l = true) : (l.any fun x => decide (128 ≤ x)) = false := by
  unfold isNum at h
  rw [Bool.and_eq_true] at h
  rw [List.any_eq_false]
  intro x hx
  have := digit_n.1 (List.all_eq_true.1 h.2 x hx)
  intro h'
  have := UInt8.le_iff_toNat_le.1 (of_decide_eq_true h')
  simp at this
  omega
theorem value_l0 (kind : Nat) (hk : kind = 4 ∨ kind = 5) (a : ByteArray) (hs : a.size < 1099511627776) : ∀ (m v k : Nat), high kind + 1 - v = m → low kind ≤ v → v ≤ high kind + 1 →
    (∀ u, low kind ≤ u → u < v → nameOf kind u ≠ (tx a).map up) → a.size + m + 6 < k → Says (spec_CronValue.l0 k kind a true v) (value kind (tx a)) := by
  have hh : spec_CronHigh.f (kind : Int) = some (high kind : Int) := by rcases hk with rfl | rfl <;> rfl
  intro m
  induction m with
  | zero =>
    intro v k hm h1 h2 hno hk'
    obtain ⟨k, rfl⟩ : ∃ j, k = j + 2 := ⟨k - 2, by omega⟩
    rw [spec_CronValue.l0, hh]
    simp only [Option.bind_some]
    rw [if_neg (by omega), spec_CronValue.j2, if_pos rfl, foreign_f a hs k (by omega)]
    simp only [Option.bind_some]
    have hn := named_miss kind hk (tx a) (fun u hu hu' => hno u hu (by omega))
    unfold value
    rw [hn]
    split
    · rename_i hf
      refine ⟨0, 2, rfl, ?_⟩
      have : isNum (tx a) = false := by
        cases h : isNum (tx a) with
        | false => rfl
        | true => rw [num_small h] at hf; simp at hf
      rw [this]
      exact .inr rfl
    · exact says_eta (num_f a hs k (by omega))
  | succ m ih =>
    intro v k hm h1 h2 hno hk'
    obtain ⟨k, rfl⟩ : ∃ j, k = j + 3 := ⟨k - 3, by omega⟩
    obtain ⟨hn1, hn2, hn3⟩ := name_f k kind v hk h1 (by omega)
    have hh' : high kind ≤ 12 := by rcases hk with rfl | rfl <;> decide
    have hw : wrap64 ((v : Int) + 1) = ((v + 1 : Nat) : Int) := by rw [w64 (by omega)]; rfl
    have hsz : (mk (nameOf kind v)).size = 3 := by rw [← tx_len]; exact hn3
    rw [spec_CronValue.l0, hh]
    simp only [Option.bind_some]
    rw [if_pos (by omega), hn1]
    simp only [Option.bind_some]
    rw [same_f _ _ (by omega) _ (by omega), tx_mk, hn2]
    simp only [Option.bind_some]
    by_cases he : nameOf kind v = (tx a).map up
    · rw [if_pos (decide_eq_true he)]
      refine ⟨v, 1, rfl, ?_⟩
      unfold value
      rw [named_hit kind v hk h1 (by omega) _ he]
      exact ⟨rfl, rfl⟩
    · rw [if_neg (by rw [decide_eq_false he]; simp), hw]
      exact ih (v + 1) (k + 2) (by omega) (by omega) (by omega) (fun u hu hu' => by
        by_cases e : u = v
        · subst e; exact he
        · exact hno u hu (by omega)) (by omega)
theorem value_f (kind : Nat) (hk6 : kind < 6) (a : ByteArray) (hs : a.size < 1099511627776) (k : Nat) (hk : a.size + 22 < k) : Says (spec_CronValue.f k kind a) (value kind (tx a)) := by
  obtain ⟨k, rfl⟩ : ∃ j, k = j + 2 := ⟨k - 2, by omega⟩
  unfold spec_CronValue.f
  by_cases h4 : kind = 4
  · subst h4
    rw [if_pos (by decide), spec_CronValue.j0, if_pos rfl]
    show Says (spec_CronValue.l0 _ _ _ _ ((1 : Nat) : Int)) _
    exact value_l0 4 (.inl rfl) a hs 12 1 _ rfl (by decide) (by decide) (fun u h1 h2 => absurd h2 (by have : low 4 = 1 := rfl; omega)) (by omega)
  · rw [if_neg (by omega)]
    by_cases h5 : kind = 5
    · subst h5
      rw [spec_CronValue.j0, if_pos (by decide)]
      show Says (spec_CronValue.l0 _ _ _ _ ((0 : Nat) : Int)) _
      exact value_l0 5 (.inr rfl) a hs 7 0 _ rfl (by decide) (by decide) (fun u h1 h2 => absurd h2 (by omega)) (by omega)
    · have e : ((kind : Int) == 5) = false := by simp; omega
      rw [e, spec_CronValue.j0, if_neg (by simp), spec_CronValue.j2, if_neg (by simp)]
      unfold value
      rw [named_no kind h4 h5]
      exact says_eta (num_f a hs k (by omega))
end Go.Proofs.YtjmgebhjkbcpcaaGreatDoor.Txt
end
section
namespace Go.Proofs.YtjmgebhjkbcpcaaGreatDoor.Txt
open Go Go.RowKit Go.Proofs.YtjmgebhjkbcpcaaGreatDoorW.PrintWords Go.Proofs.YtjmgebhjkbcpcaaGreatDoorW.PrintLast Go.Proofs.YtjmgebhjkbcpcaaGreatDoorW.PrintMore Go.Proofs.YtjmgebhjkbcpcaaGreatDoor.PCronParse
theorem pieces_len {c : UInt8} {l p : Bs} (h : p ∈ pieces c l) : p.length ≤ l.length := by
  induction l generalizing p with
  | nil => simp [pieces] at h; simp [h]
  | cons x xs ih =>
    rw [pieces_cons] at h
    split at h
    · rw [List.mem_cons] at h
      rcases h with rfl | h
      · simp
      · have := ih h; simp; omega
    · rw [List.mem_cons] at h
      have hne := pieces_ne c xs
      have : ∀ q ∈ (pieces c xs), q.length ≤ xs.length := fun q hq => ih hq
      cases hp : pieces c xs with
      | nil => exact absurd hp hne
      | cons q r =>
        rw [hp] at h this
        rcases h with rfl | h
        · have := this q (by simp)
          simp; omega
        · have := this p (by simp at h; simp [h])
          simp; omega
theorem pieces_many (c : UInt8) (l : Bs) : (pieces c l).length ≤ l.length + 1 := by
  induction l with
  | nil => simp [pieces]
  | cons x xs ih =>
    rw [pieces_cons]
    split
    · simp; omega
    · have := pieces_ne c xs
      cases hp : pieces c xs with
      | nil => exact absurd hp this
      | cons q r => rw [hp] at ih; simp at ih ⊢; omega
theorem mk_size (l : Bs) : (mk l).size = l.length := rfl
theorem rd_cons (p : Bs) (r : List Bs) : rdOf ByteArray.empty ((p :: r).map mk) 0 = mk p := rfl
theorem rd_cons1 (p q : Bs) (r : List Bs) : rdOf ByteArray.empty ((p :: q :: r).map mk) 1 = mk q := rfl
def SaysE (o : Option (Int × Int × Bool × Bool × Int)) (q : Option (Nat × Nat × Bool × Bool)) : Prop := ∃ x y s t v, o = some (x, y, s, t, v) ∧ match q with
  | some (lo, hi, star, one) => v = 1 ∧ x = lo ∧ y = hi ∧ s = star ∧ t = one
  | none => v = 0 ∨ v = 2
theorem worse_1 {a b : Int} (ha : a = 1 ∨ a = 0 ∨ a = 2) (hb : b = 1 ∨ b = 0 ∨ b = 2) : ∃ c, spec_worse.f a b = some c ∧ (c = 1 ↔ a = 1 ∧ b = 1) ∧ (c = 1 ∨ c = 0 ∨ c = 2) := by
  rcases ha with rfl | rfl | rfl <;> rcases hb with rfl | rfl | rfl <;> exact ⟨_, rfl, by decide, by decide⟩
theorem ends_f (kind : Nat) (hk6 : kind < 6) (a : ByteArray) (hs : a.size < 1099511627776) (k : Nat) (hk : a.size + 30 < k) : SaysE (spec_cronEnds.f k (low kind) (high kind) kind a) (ends kind (tx a)) := by
  obtain ⟨k, rfl⟩ : ∃ j, k = j + 1 := ⟨k - 1, by omega⟩
  have hp := pieces_f a 45 hs (k + 1) (by omega)
  have e45 : ((45 : UInt8).toNat : Int) = 45 := rfl
  rw [e45] at hp
  unfold spec_cronEnds.f
  rw [hp]
  simp only [Option.bind_some]
  unfold ends
  have hlen : ∀ p ∈ pieces 45 (tx a), p.length ≤ a.size := fun p hp => by have := pieces_len hp; rw [tx_len] at this; exact this
  cases hP : pieces 45 (tx a) with
  | nil => exact absurd hP (pieces_ne _ _)
  | cons p r =>
    rw [hP] at hlen
    have hp0 : p.length ≤ a.size := hlen p (by simp)
    rw [if_pos (by simp), rd_cons, tx_toList, tx_mk]
    by_cases h42 : p = [42]
    · rw [if_pos h42, spec_cronEnds.j0, if_pos rfl]
      cases r with
      | nil =>
        rw [if_neg (by simp), if_pos (by simp), rd_cons, tx_toList, tx_mk, if_neg (by rw [h42]; simp)]
        refine ⟨_, _, _, _, _, rfl, ?_⟩
        try dsimp only
        rw [if_pos (Or.inl h42)]
        exact ⟨rfl, rfl, rfl, rfl, rfl⟩
      | cons q r =>
        rw [if_pos (by simp; omega)]
        refine ⟨_, _, _, _, _, rfl, ?_⟩
        try dsimp only
        cases r with
        | nil => dsimp only; rw [if_pos (Or.inl h42)]; exact .inr rfl
        | cons q' r => exact .inr rfl
    · rw [if_neg h42]
      by_cases h63 : p = [63]
      · have e : (p == ([63] : Bs)) = true := by rw [h63]; rfl
        rw [e, spec_cronEnds.j0, if_pos rfl]
        cases r with
        | nil =>
          rw [if_neg (by simp), if_pos (by simp), rd_cons, tx_toList, tx_mk, if_pos h63]
          by_cases h3 : kind = 3
          · rw [if_pos (by omega)]
            refine ⟨_, _, _, _, _, rfl, ?_⟩
            try dsimp only
            rw [if_pos (Or.inr ⟨h63, Or.inl h3⟩)]
            exact ⟨rfl, rfl, rfl, rfl, rfl⟩
          · rw [if_neg (by omega)]
            by_cases h5 : kind = 5
            · rw [if_pos (by omega)]
              refine ⟨_, _, _, _, _, rfl, ?_⟩
              try dsimp only
              rw [if_pos (Or.inr ⟨h63, Or.inr h5⟩)]
              exact ⟨rfl, rfl, rfl, rfl, rfl⟩
            · rw [if_neg (by omega)]
              refine ⟨_, _, _, _, _, rfl, ?_⟩
              try dsimp only
              rw [if_neg (by rintro (h | ⟨_, h | h⟩) <;> contradiction), if_pos h63]
              exact .inr rfl
        | cons q r =>
          rw [if_pos (by simp; omega)]
          refine ⟨_, _, _, _, _, rfl, ?_⟩
          try dsimp only
          cases r with
          | nil => dsimp only; rw [if_pos (Or.inr h63)]; exact .inr rfl
          | cons q' r => exact .inr rfl
      · have e : (p == ([63] : Bs)) = false := by simpa using h63
        have hv := value_f kind hk6 (mk p) (by rw [mk_size]; omega) k (by rw [mk_size]; omega)
        rw [tx_mk] at hv
        obtain ⟨n, v, hn, hq⟩ := hv
        rw [e, spec_cronEnds.j0, if_neg (by simp), if_pos (by simp), rd_cons, hn]
        simp only [Option.bind_some]
        cases r with
        | nil =>
          rw [if_pos (by simp)]
          refine ⟨_, _, _, _, _, rfl, ?_⟩
          try dsimp only
          rw [if_neg (by rintro (h | ⟨h, _⟩) <;> contradiction), if_neg h63]
          cases hval : value kind p with
          | none => rw [hval] at hq; exact hq
          | some m => rw [hval] at hq; exact ⟨hq.1, hq.2, hq.2, rfl, rfl⟩
        | cons q r =>
          rw [if_neg (by simp; omega)]
          cases r with
          | nil =>
            have hq0 : q.length ≤ a.size := hlen q (by simp)
            have hv := value_f kind hk6 (mk q) (by rw [mk_size]; omega) k (by rw [mk_size]; omega)
            rw [tx_mk] at hv
            obtain ⟨n2, v2, hn2, hq2⟩ := hv
            rw [if_pos (by simp), if_pos (by simp), rd_cons1, hn2]
            simp only [Option.bind_some]
            have c1 : v = 1 ∨ v = 0 ∨ v = 2 := by
              cases hval : value kind p with
              | none => rw [hval] at hq; exact .inr hq
              | some m => rw [hval] at hq; exact .inl hq.1
            have c2 : v2 = 1 ∨ v2 = 0 ∨ v2 = 2 := by
              cases hval : value kind q with
              | none => rw [hval] at hq2; exact .inr hq2
              | some m => rw [hval] at hq2; exact .inl hq2.1
            obtain ⟨c, hc, hc1, hc2⟩ := worse_1 c1 c2
            rw [hc]
            simp only [Option.bind_some]
            refine ⟨_, _, _, _, _, rfl, ?_⟩
            try dsimp only
            rw [if_neg (by rintro (h | h) <;> contradiction)]
            cases hval : value kind p with
            | none =>
              rw [hval] at hq
              have : c ≠ 1 := fun h => by have := (hc1.1 h).1; rcases hq with h | h <;> omega
              exact hc2.resolve_left this
            | some m =>
              cases hval2 : value kind q with
              | none =>
                rw [hval2] at hq2
                have : c ≠ 1 := fun h => by have := (hc1.1 h).2; rcases hq2 with h | h <;> omega
                exact hc2.resolve_left this
              | some m2 =>
                rw [hval] at hq
                rw [hval2] at hq2
                exact ⟨hc1.2 ⟨hq.1, hq2.1⟩, hq.2, hq2.2, rfl, rfl⟩
          | cons q' r =>
            rw [if_neg (by simp; omega)]
            exact ⟨_, _, _, _, _, rfl, .inl rfl⟩
theorem step_f (a : ByteArray) (hs : a.size < 1099511627776) (k : Nat) (hk : a.size + 3 < k) : Says (spec_CronStep.f k a) (stepL (tx a)) := by
  obtain ⟨k, rfl⟩ : ∃ j, k = j + 1 := ⟨k - 1, by omega⟩
  obtain ⟨n, v, hn, hq⟩ := num_f a hs (k + 1) (by omega)
  unfold spec_CronStep.f
  rw [hn]
  simp only [Option.bind_some]
  unfold stepL
  by_cases hi : isNum (tx a) = true
  · rw [if_pos hi] at hq
    obtain ⟨rfl, rfl⟩ := hq
    rw [if_neg (by decide), spec_CronStep.j0]
    by_cases h0 : numv (tx a) = 0
    · rw [if_pos (by rw [h0]; rfl), if_neg (by omega)]
      exact ⟨_, _, rfl, .inl rfl⟩
    · rw [if_neg (by simp; omega)]
      by_cases hl : numv (tx a) < 1099511627776
      · rw [if_neg (by omega), if_pos ⟨hi, by omega, hl⟩]
        refine ⟨_, _, rfl, rfl, by omega⟩
      · rw [if_pos (by omega), if_neg (by omega)]
        exact ⟨_, _, rfl, .inr rfl⟩
  · rw [if_neg hi] at hq
    have hni : ¬ (isNum (tx a) = true ∧ 0 < numv (tx a) ∧ numv (tx a) < 1099511627776) := fun h => hi h.1
    rw [if_neg hni]
    rcases hq with rfl | rfl
    · rw [if_pos (by rfl), spec_CronStep.j0, if_pos rfl]
      exact ⟨_, _, rfl, .inl rfl⟩
    · rw [if_neg (show ¬ ((2 : Int) = 0) by decide), spec_CronStep.j0]
      split
      · exact ⟨_, _, rfl, .inl rfl⟩
      · split
        · exact ⟨_, _, rfl, .inr rfl⟩
        · exact ⟨_, _, rfl, .inr rfl⟩
end Go.Proofs.YtjmgebhjkbcpcaaGreatDoor.Txt
end
section
namespace Go.Proofs.YtjmgebhjkbcpcaaGreatDoor.Txt
open Go Go.RowKit Go.Proofs.YtjmgebhjkbcpcaaGreatDoorW.PrintWords Go.Proofs.YtjmgebhjkbcpcaaGreatDoorW.PrintLast Go.Proofs.YtjmgebhjkbcpcaaGreatDoorW.PrintMore Go.Proofs.YtjmgebhjkbcpcaaGreatDoor.PCronParse
theorem zone_l0 (a : ByteArray) (hs : a.size < 1099511627776) : ∀ (m i k : Nat), a.size - i = m → 1 ≤ i → m < k → ∃ v, spec_CronZoneName.l0 k a i = some (false, v) ∧ (v = 0 ∨ v = 2) := by
  intro m
  induction m with
  | zero =>
    intro i k hm hi hk
    obtain ⟨k, rfl⟩ : ∃ j, k = j + 1 := ⟨k - 1, by omega⟩
    rw [spec_CronZoneName.l0, if_neg (by omega)]
    exact ⟨_, rfl, .inr rfl⟩
  | succ m ih =>
    intro i k hm hi hk
    obtain ⟨k, rfl⟩ : ∃ j, k = j + 1 := ⟨k - 1, by omega⟩
    have hw : wrap64 ((i : Int) + 1) = ((i + 1 : Nat) : Int) := by rw [w64 (by omega)]; rfl
    have hw2 : wrap64 ((i : Int) - 1) = (i : Int) - 1 := w64 (by omega)
    rw [spec_CronZoneName.l0, hw2, if_pos (by omega), if_pos (by omega), if_pos (by omega), hw]
    have := ih (i + 1) k (by omega) (by omega) (by omega)
    split
    · rw [if_pos (by omega)]
      split
      · exact ⟨_, rfl, .inl rfl⟩
      · exact this
    · exact this
theorem zone_f (a : ByteArray) (hs : a.size < 1099511627776) (k : Nat) (hk : a.size + 3 < k) : ∃ u v, spec_CronZoneName.f k a = some (u, v) ∧ ((v = 1 ∧ zoneFine (tx a)) ∨ ((v = 0 ∨ v = 2) ∧ ¬ zoneFine (tx a))) := by
  obtain ⟨k, rfl⟩ : ∃ j, k = j + 1 := ⟨k - 1, by omega⟩
  unfold spec_CronZoneName.f
  rw [tx_toList]
  by_cases h0 : tx a = []
  · rw [if_pos h0, spec_CronZoneName.j0, if_pos rfl]
    exact ⟨_, _, rfl, .inl ⟨rfl, .inl h0⟩⟩
  · rw [if_neg h0]
    by_cases h1 : tx a = [85, 84, 67]
    · have e : (tx a == ([85, 84, 67] : List UInt8)) = true := by rw [h1]; rfl
      rw [e, spec_CronZoneName.j0, if_pos rfl]
      exact ⟨_, _, rfl, .inl ⟨rfl, .inr (.inl h1)⟩⟩
    · have e : (tx a == ([85, 84, 67] : List UInt8)) = false := by simpa using h1
      rw [e, spec_CronZoneName.j0, if_neg (by simp), tx_toList]
      by_cases h2 : tx a = [76, 111, 99, 97, 108]
      · rw [if_pos h2]
        exact ⟨_, _, rfl, .inl ⟨rfl, .inr (.inr h2)⟩⟩
      · have hn : ¬ zoneFine (tx a) := by rintro (h | h | h) <;> contradiction
        have hsz : 0 < a.size := by
          rw [← tx_len]
          exact List.length_pos_iff.2 h0
        rw [if_neg h2, if_pos (by omega)]
        split
        · exact ⟨_, _, rfl, .inr ⟨.inl rfl, hn⟩⟩
        · split
          · exact ⟨_, _, rfl, .inr ⟨.inl rfl, hn⟩⟩
          · obtain ⟨v, hv, hv'⟩ := zone_l0 a hs _ 1 k rfl (by omega) (by omega)
            exact ⟨_, v, hv, .inr ⟨hv', hn⟩⟩
def trimR (l : Bs) : Bs := (l.reverse.dropWhile blank).reverse
theorem trimR_snoc (l : Bs) (x : UInt8) : trimR (l ++ [x]) = if blank x then trimR l else l ++ [x] := by
  unfold trimR
  rw [List.reverse_append]
  show ((x :: l.reverse).dropWhile blank).reverse = _
  rw [List.dropWhile_cons]
  split <;> simp
theorem trim_l1 : ∀ (m : Nat) (a : ByteArray) (k : Nat), a.size = m → m < 1099511627776 → m < k → spec_CronTrim.l1 k a = some (mk (trimR (tx a))) := by
  intro m
  induction m with
  | zero =>
    intro a k hm hs hk
    obtain ⟨k, rfl⟩ : ∃ j, k = j + 1 := ⟨k - 1, by omega⟩
    have h0 : tx a = [] := by rw [← List.length_eq_zero_iff, tx_len]; exact hm
    rw [spec_CronTrim.l1, tx_toList, if_pos h0, h0]
    congr 1
    exact tx_inj (by rw [tx_mk, h0]; rfl)
  | succ m ih =>
    intro a k hm hs hk
    obtain ⟨k, rfl⟩ : ∃ j, k = j + 1 := ⟨k - 1, by omega⟩
    have hl : m < a.size := by omega
    have h0 : tx a ≠ [] := fun h => by have := tx_len a; rw [h] at this; simp at this; omega
    have hw : wrap64 ((a.size : Int) - 1) = (m : Int) := by rw [w64 (by omega)]; omega
    have hx : tx a = (tx a).take m ++ [a[m]] := by
      have h1 := List.take_append_drop m (tx a)
      rw [tx_drop hl, List.drop_of_length_le (show (tx a).length ≤ m + 1 by rw [tx_len]; omega)] at h1
      exact h1.symm
    rw [spec_CronTrim.l1, tx_toList, if_neg h0, hw, if_pos (by omega), if_pos (by omega), bt_nat hl, blank_f]
    simp only [Option.bind_some]
    have e : tx (a.extract 0 m) = (tx a).take m := by rw [tx_extract]; rfl
    by_cases hb : blank a[m] = true
    · rw [if_pos hb, if_pos (by omega)]
      have := ih (a.extract 0 (m : Int).toNat) k (by rw [← tx_len, Int.toNat_natCast, e, List.length_take, tx_len]; omega) (by omega) (by omega)
      rw [Int.toNat_natCast] at this ⊢
      rw [this, e]
      congr 2
      rw [hx, trimR_snoc, if_pos hb, ← hx]
    · rw [if_neg hb]
      congr 1
      apply tx_inj
      rw [tx_mk, hx, trimR_snoc, if_neg hb]
theorem trim_l0 : ∀ (m : Nat) (a : ByteArray) (k : Nat), a.size = m → m < 1099511627776 → 2 * m + 2 < k → spec_CronTrim.l0 k a = some (mk (trim (tx a))) := by
  have tail : ∀ (a : ByteArray) (k : Nat), a.size < 1099511627776 → a.size + 1 < k → trimL (tx a) = tx a → spec_CronTrim.j1 k a = some (mk (trim (tx a))) := by
    intro a k hs hk ht
    obtain ⟨k, rfl⟩ : ∃ j, k = j + 1 := ⟨k - 1, by omega⟩
    rw [spec_CronTrim.j1, trim_l1 a.size a k rfl hs (by omega)]
    unfold trim
    rw [ht]
    rfl
  intro m
  induction m with
  | zero =>
    intro a k hm hs hk
    obtain ⟨k, rfl⟩ : ∃ j, k = j + 1 := ⟨k - 1, by omega⟩
    have h0 : tx a = [] := by rw [← List.length_eq_zero_iff, tx_len]; exact hm
    rw [spec_CronTrim.l0, tx_toList, if_pos h0]
    exact tail a k (by omega) (by omega) (by rw [h0]; rfl)
  | succ m ih =>
    intro a k hm hs hk
    obtain ⟨k, rfl⟩ : ∃ j, k = j + 1 := ⟨k - 1, by omega⟩
    have hl : 0 < a.size := by omega
    have h0 : tx a ≠ [] := fun h => by have := tx_len a; rw [h] at this; simp at this; omega
    have hd := tx_drop hl
    rw [List.drop_zero] at hd
    have hb0 : bt a 0 = (a[0].toNat : Int) := bt_nat hl
    rw [spec_CronTrim.l0, tx_toList, if_neg h0, if_pos (by omega), hb0, blank_f]
    simp only [Option.bind_some]
    by_cases hb : blank a[0] = true
    · rw [if_pos hb, if_pos (by omega), ih _ k (by rw [← tx_len, tx_all, List.length_drop, tx_len]; omega) (by omega) (by omega), tx_all]
      congr 2
      unfold trim trimL
      conv => rhs; rw [hd, List.dropWhile_cons, if_pos hb]
    · rw [if_neg hb]
      refine tail a k (by omega) (by omega) ?_
      unfold trimL
      rw [hd, List.dropWhile_cons, if_neg hb]
theorem trim_f (a : ByteArray) (hs : a.size < 1099511627776) (k : Nat) (hk : 2 * a.size + 2 < k) : spec_CronTrim.f k a = some (mk (trim (tx a))) := trim_l0 a.size a k rfl hs hk
theorem begins_f (a b : ByteArray) : spec_cronBegins.f a b = some ((tx b).isPrefixOf (tx a)) := by
  unfold spec_cronBegins.f
  by_cases h : b.size ≤ a.size
  · rw [if_pos (by omega), if_pos (by omega), if_pos (by omega)]
    congr 1
    rw [tx_toList, tx_toList, tx_extract, Int.toNat_natCast, List.drop_zero, Nat.sub_zero, ← tx_len b]
    rw [Bool.eq_iff_iff, beq_iff_eq, List.isPrefixOf_iff_prefix, List.prefix_iff_eq_take]
    exact eq_comm
  · rw [if_neg (by omega)]
    congr 1
    symm
    rw [Bool.eq_false_iff]
    intro hp
    have := (List.isPrefixOf_iff_prefix.1 hp).length_le
    rw [tx_len, tx_len] at this
    exact h this
theorem trim_le (l : Bs) : (trim l).length ≤ l.length := by
  unfold trim trimL
  have h1 := (List.dropWhile_sublist (p := blank) (l := l)).length_le
  have h2 := (List.dropWhile_sublist (p := blank) (l := (l.dropWhile blank).reverse)).length_le
  rw [List.length_reverse] at h2 ⊢
  omega
end Go.Proofs.YtjmgebhjkbcpcaaGreatDoor.Txt
end
section
set_option linter.unusedVariables false
set_option linter.unusedSimpArgs false
namespace Go.Proofs.YtjmgebhjkbcpcaaGreatDoor.NM
open Go.RowKit
theorem u64wrap_small (n : Int) (h0 : 0 ≤ n) (h1 : n < 18446744073709551616) : IntKind.u64.wrap n = n := by
  simp [IntKind.wrap, IntKind.bits, IntKind.signed]; omega
theorem wraps_u64 (n : Int) (h₀ : 0 ≤ n) (h₁ : n < 2 ^ 64) : IntKind.u64.wrap n = n := u64wrap_small n h₀ (by omega)
theorem bits_big (n : Int) (h0 : 0 ≤ n) (h1 : n < 1073741824) : (bits BinOp.and IntKind.u64 n 9223372036854775808 != 0) = false := by
  obtain ⟨a, rfl⟩ := Int.eq_ofNat_of_zero_le h0
  have h := (bits_nat .u64 64 (by decide) wraps_u64 a 9223372036854775808 (by omega) (by omega)).1
  have e : a &&& 9223372036854775808 = 0 := by
    apply Nat.eq_of_testBit_eq
    intro i
    rw [Nat.testBit_and, Nat.zero_testBit, show (9223372036854775808 : Nat) = 2 ^ 63 by decide, Nat.testBit_two_pow]
    by_cases hi : 63 = i
    · subst hi
      rw [Nat.testBit_lt_two_pow (by omega : a < 2 ^ 63)]; rfl
    · simp [hi]
  rw [e] at h
  rw [show ((9223372036854775808 : Int)) = ((9223372036854775808 : Nat) : Int) from rfl, h]; rfl
theorem bits_low (n : Int) (h0 : 0 ≤ n) (h1 : n < 1073741824) : bits BinOp.and IntKind.u64 n 1073741823 = n := by
  have h := bits_mask .u64 64 (by decide) wraps_u64 30 (by decide) n h0 (by omega)
  rw [show (2 : Int) ^ 30 - 1 = 1073741823 by decide, show (2 : Int) ^ 30 = 1073741824 by decide] at h
  rw [h]; omega
theorem bits_clr (n : Int) (h0 : 0 ≤ n) (h1 : n < 1073741824) : bits BinOp.andNot IntKind.u64 n 1073741823 = 0 := by
  obtain ⟨a, rfl⟩ := Int.eq_ofNat_of_zero_le h0
  unfold bits
  have : (BitVec.ofInt 64 (a : Int)) &&& ~~~(BitVec.ofInt 64 1073741823) = 0#64 := by
    apply BitVec.eq_of_getLsbD_eq
    intro i hi
    simp only [BitVec.ofInt_natCast, BitVec.getLsbD_and, BitVec.getLsbD_not, BitVec.getLsbD_ofNat]
    by_cases h30 : i < 30
    · have h1 : (BitVec.ofInt 64 1073741823).getLsbD i = true := by
        rw [show (BitVec.ofInt 64 1073741823) = BitVec.ofNat 64 (2 ^ 30 - 1) by decide, BitVec.getLsbD_ofNat, Nat.testBit_two_pow_sub_one]
        simp [hi, h30]
      rw [h1]; simp
    · have h2 : a.testBit i = false := Nat.testBit_lt_two_pow (Nat.lt_of_lt_of_le (show a < 2 ^ 30 by omega) (Nat.pow_le_pow_right (by decide) (by omega)))
      rw [h2]; simp
  show IntKind.u64.wrap (((BitVec.ofInt 64 (a : Int)) &&& ~~~(BitVec.ofInt 64 1073741823)).toNat : Int) = 0
  rw [this]; rfl
theorem bits_or0 (n : Int) (h0 : 0 ≤ n) (h1 : n < 1073741824) : bits BinOp.or IntKind.u64 0 n = n := by
  have := bits_join .u64 64 (by decide) wraps_u64 30 0 n (by decide) (by decide) (by decide) h0 (by omega) (by omega)
  omega
theorem bcell {W w1 : World} (hb : Below W.heap.size W w1) : (∀ b o, b < W.heap.size → w1.cell? ⟨b, o, none⟩ = W.cell? ⟨b, o, none⟩) ∧ (∀ b o, b < W.heap.size → w1.frozen? ⟨b, o, none⟩ = W.frozen? ⟨b, o, none⟩) :=
  ⟨fun b o h => hb.cell (p := ⟨b, o, none⟩) h, fun b o h => hb.frozen (p := ⟨b, o, none⟩) h⟩
theorem bA {w W : World} (h : Below w.heap.size w W) (o : Obj) : Below w.heap.size w (W.alloc o) := h.alloc h.size o
theorem ret_int {k : IntKind} {a b : Int} (h : a = b) : Ending.returned (.int k a) = .returned (.int k b) := by rw [h]
/-- a time of the years 1 to 30000: the two facts on its nanoseconds that the walk asks for -/
structure Nan (n : Int) : Prop where
  lo : 0 ≤ n
  hi : n < 1000000000
theorem tUnix (n x : Int) (L : Option Addr) (hn : Nan n) (h0 : -20000000 ≤ x) (h1 : x ≤ 4000000000000) (w : World) :
    Calls Tryz.prog 97 #[.agg #[.int .u64 n, .int .i64 x, .pointer L]] w fun e w' => e = .returned (.int .i64 (x - 62135596800)) ∧ Below w.heap.size w w' := by
  have hA := bits_big n hn.1 (by have := hn.2; omega)
  clear hn
  go_enter Tryz.func97, Tryz.ntmps97
  go_wp2
  go_ret
  exact ⟨rfl, bA (Below.refl _ _) _⟩
theorem tNano (n x : Int) (L : Option Addr) (hn : Nan n) (w : World) :
    Calls Tryz.prog 98 #[.agg #[.int .u64 n, .int .i64 x, .pointer L]] w fun e w' => e = .returned (.int .i64 n) ∧ Below w.heap.size w w' := by
  obtain ⟨h0, h1⟩ := hn
  have hB := bits_low n h0 (by omega)
  go_enter Tryz.func98, Tryz.ntmps98
  go_wp2
  go_ret
  exact ⟨rfl, bA (Below.refl _ _) _⟩
theorem tUnixTime (s n : Int) (h0 : -62165596800 ≤ s) (h1 : s ≤ 3000000000000) (hn0 : 0 ≤ n) (hn1 : n < 1000000000) (w : World) :
    Calls Tryz.prog 99 #[.int .i64 s, .int .i32 n] w fun e w' => e = .returned (.agg #[.int .u64 n, .int .i64 (s + 62135596800), .pointer none]) ∧ Below w.heap.size w w' := by
  go_enter Tryz.func99, Tryz.ntmps99
  go_wp2
  exact bodyPost_ret (v := .agg #[.int .u64 n, .int .i64 (s + 62135596800), .pointer none]) (by simp [results, Tryz.results99, go_sem]) rfl ⟨rfl, bA (Below.refl _ _) _⟩
theorem tMkUnix (s n : Int) (h0 : -62135596800 ≤ s) (h1 : s ≤ 3000000000000) (hn0 : 0 ≤ n) (hn1 : n < 1000000000) (w : World) :
    Calls Tryz.prog 66 #[.int .i64 s, .int .i64 n] w fun e w' => e = .returned (.agg #[.int .u64 n, .int .i64 (s + 62135596800), .pointer none]) ∧ Below w.heap.size w w' := by
  have q1 : decide (n < 0) = false := by simp; omega
  have q2 : decide (1000000000 ≤ n) = false := by simp; omega
  go_enter Tryz.func66, Tryz.ntmps66
  go_wp2
  refine bodyPost_ret (v := .agg #[.int .u64 n, .int .i64 (s + 62135596800), .pointer none]) (by simp [results, Tryz.results99, go_sem]) rfl ?_
  go_wp2
  exact bodyPost_ret (v := .agg #[.int .u64 n, .int .i64 (s + 62135596800), .pointer none]) (by simp [results, Tryz.results66, go_sem]) rfl ⟨rfl, by first | exact bA (bA (Below.refl _ _) _) _ | exact bA (Below.refl _ _) _⟩
theorem tIsZero (n x : Int) (L : Option Addr) (h : (x == 0) = false) (w : World) :
    Calls Tryz.prog 64 #[.agg #[.int .u64 n, .int .i64 x, .pointer L]] w fun e w' => e = .returned (.bool false) ∧ Below w.heap.size w w' := by
  by_cases hn : n = 0
  · have hq : (n == 0) = true := by simp [hn]
    clear hn
    go_enter Tryz.func64, Tryz.ntmps64
    go_wp2
    go_ret
    exact ⟨rfl, bA (Below.refl _ _) _⟩
  · have hq : (n == 0) = false := by simp [hn]
    clear hn
    go_enter Tryz.func64, Tryz.ntmps64
    go_wp2
    go_ret
    exact ⟨rfl, bA (Below.refl _ _) _⟩
theorem tIsZero0 (L : Option Addr) (w : World) :
    Calls Tryz.prog 64 #[.agg #[.int .u64 0, .int .i64 0, .pointer L]] w fun e w' => e = .returned (.bool true) ∧ Below w.heap.size w w' := by
  go_enter Tryz.func64, Tryz.ntmps64
  go_wp2
  go_ret
  exact ⟨rfl, bA (Below.refl _ _) _⟩
theorem tUTC (w : World) :
    Calls Tryz.prog 68 #[] w fun e w' => e = .returned (.pointer (some ⟨w.heap.size, 0, none⟩)) ∧ w.alloc (.cells #[.bool true, .string ⟨#[85, 84, 67]⟩, .slice none 0 0, .slice none 0 0, .string ⟨#[]⟩, .int .i64 0, .int .i64 0, .pointer none] 172) = w' := by
  go_enter Tryz.func68, Tryz.ntmps68
  go_wp2
  go_ret
  exact ⟨rfl, rfl⟩
end Go.Proofs.YtjmgebhjkbcpcaaGreatDoor.NM
end
section
namespace Cal
def leapI (y : Int) : Int := if y % 4 = 0 ∧ (y % 100 ≠ 0 ∨ y % 400 = 0) then 1 else 0
def ystart (y : Int) : Int := 365 * (y - 1) + (y - 1) / 4 - (y - 1) / 100 + (y - 1) / 400 - 719162
def mlen (y m : Int) : Int := if m = 2 then 28 + leapI y else if m = 4 ∨ m = 6 ∨ m = 9 ∨ m = 11 then 30 else 31
def cum (y m : Int) : Int :=
  if m ≤ 1 then 0 else if m = 2 then 31 else if m = 3 then 59 + leapI y else if m = 4 then 90 + leapI y else if m = 5 then 120 + leapI y
  else if m = 6 then 151 + leapI y else if m = 7 then 181 + leapI y else if m = 8 then 212 + leapI y else if m = 9 then 243 + leapI y
  else if m = 10 then 273 + leapI y else if m = 11 then 304 + leapI y else if m = 12 then 334 + leapI y else 365 + leapI y

theorem leapI_01 (y : Int) : leapI y = 0 ∨ leapI y = 1 := by unfold leapI; split <;> simp
theorem ystart_succ (y : Int) : ystart (y + 1) = ystart y + 365 + leapI y := by
  unfold ystart leapI; split <;> omega
theorem ystart_le {y z : Int} (h : y ≤ z) : ystart y ≤ ystart z := by unfold ystart; omega
theorem cum_succ (y m : Int) (h1 : 1 ≤ m) (h2 : m ≤ 12) : cum y (m + 1) = cum y m + mlen y m := by
  have : m = 1 ∨ m = 2 ∨ m = 3 ∨ m = 4 ∨ m = 5 ∨ m = 6 ∨ m = 7 ∨ m = 8 ∨ m = 9 ∨ m = 10 ∨ m = 11 ∨ m = 12 := by omega
  rcases this with rfl | rfl | rfl | rfl | rfl | rfl | rfl | rfl | rfl | rfl | rfl | rfl <;> simp [cum, mlen] <;> omega
theorem mlen_bd (y m : Int) : 28 ≤ mlen y m ∧ mlen y m ≤ 31 := by
  unfold mlen; have := leapI_01 y; split
  · omega
  · split <;> omega
theorem cum_one (y : Int) : cum y 1 = 0 := by simp [cum]
theorem cum_13 (y : Int) : cum y 13 = 365 + leapI y := by simp [cum]
theorem cum_le (y m k : Int) (h : m ≤ k) : cum y m ≤ cum y k := by
  unfold cum; have := leapI_01 y; repeat' split
  all_goals omega

/-- day n (from 1970) is day d of month m of year y -/
structure IsDate (n y m d : Int) : Prop where
  lo : ystart y ≤ n
  m1 : 1 ≤ m
  m12 : m ≤ 12
  d1 : 1 ≤ d
  dm : d ≤ mlen y m
  eq : n = ystart y + cum y m + d - 1
theorem IsDate.hi {n y m d : Int} (h : IsDate n y m d) : n < ystart (y + 1) := by
  have h1 := cum_succ y m h.m1 h.m12
  have h2 := cum_le y (m + 1) 13 (by have := h.m12; omega)
  rw [cum_13] at h2
  have := h.dm; have := h.eq; have := ystart_succ y; omega
theorem IsDate.uniq {n y m d y' m' d' : Int} (h : IsDate n y m d) (h' : IsDate n y' m' d') : y = y' ∧ m = m' ∧ d = d' := by
  have hy : y = y' := by
    rcases Int.lt_trichotomy y y' with hl | he | hl
    · have := ystart_le (show y + 1 ≤ y' by omega); have := h.hi; have := h'.lo; omega
    · exact he
    · have := ystart_le (show y' + 1 ≤ y by omega); have := h'.hi; have := h.lo; omega
  subst hy
  have hm : m = m' := by
    rcases Int.lt_trichotomy m m' with hl | he | hl
    · have := cum_le y (m + 1) m' (by omega); have := cum_succ y m h.m1 h.m12
      have := h.eq; have := h'.eq; have := h.dm; have := h'.d1; omega
    · exact he
    · have := cum_le y (m' + 1) m (by omega); have := cum_succ y m' h'.m1 h'.m12
      have := h.eq; have := h'.eq; have := h'.dm; have := h.d1; omega
  subst hm
  have := h.eq; have := h'.eq
  exact ⟨rfl, rfl, by omega⟩

def gc (n : Int) : Int := (4 * (n + 719468) + 3) / 146097
def gr (n : Int) : Int := (4 * (n + 719468) + 3) % 146097 / 4
def gcy (n : Int) : Int := (4 * gr n + 3) / 1461
def gyd (n : Int) : Int := (4 * gr n + 3) % 1461 / 4
def gjf (n : Int) : Int := if 306 ≤ gyd n then 1 else 0
def gyear (n : Int) : Int := 100 * gc n + gcy n + gjf n
def gm0 (n : Int) : Int := (2141 * gyd n + 197913) / 65536
def gmonth (n : Int) : Int := gm0 n - 12 * gjf n
def gday (n : Int) : Int := (2141 * gyd n + 197913) % 65536 / 2141 + 1

def mchk (k : Nat) : Bool :=
  let M := (2141 * k + 197913) / 65536
  let D := (2141 * k + 197913) % 65536 / 2141
  (M == 3 && k < 31 && D == k) || (M == 4 && 31 ≤ k && k < 61 && D + 31 == k) || (M == 5 && 61 ≤ k && k < 92 && D + 61 == k) ||
  (M == 6 && 92 ≤ k && k < 122 && D + 92 == k) || (M == 7 && 122 ≤ k && k < 153 && D + 122 == k) || (M == 8 && 153 ≤ k && k < 184 && D + 153 == k) ||
  (M == 9 && 184 ≤ k && k < 214 && D + 184 == k) || (M == 10 && 214 ≤ k && k < 245 && D + 214 == k) || (M == 11 && 245 ≤ k && k < 275 && D + 245 == k) ||
  (M == 12 && 275 ≤ k && k < 306 && D + 275 == k) || (M == 13 && 306 ≤ k && k < 337 && D + 306 == k) || (M == 14 && 337 ≤ k && D + 337 == k)
theorem mchk_all : (List.range 366).all mchk = true := by decide +kernel
theorem mtab (k : Nat) (hk : k < 366) (M D : Nat) (hM : M = (2141 * k + 197913) / 65536) (hD : D = (2141 * k + 197913) % 65536 / 2141) :
    (M = 3 ∧ k < 31 ∧ D = k) ∨ (M = 4 ∧ 31 ≤ k ∧ k < 61 ∧ D + 31 = k) ∨ (M = 5 ∧ 61 ≤ k ∧ k < 92 ∧ D + 61 = k) ∨
    (M = 6 ∧ 92 ≤ k ∧ k < 122 ∧ D + 92 = k) ∨ (M = 7 ∧ 122 ≤ k ∧ k < 153 ∧ D + 122 = k) ∨ (M = 8 ∧ 153 ≤ k ∧ k < 184 ∧ D + 153 = k) ∨
    (M = 9 ∧ 184 ≤ k ∧ k < 214 ∧ D + 184 = k) ∨ (M = 10 ∧ 214 ≤ k ∧ k < 245 ∧ D + 214 = k) ∨ (M = 11 ∧ 245 ≤ k ∧ k < 275 ∧ D + 245 = k) ∨
    (M = 12 ∧ 275 ≤ k ∧ k < 306 ∧ D + 275 = k) ∨ (M = 13 ∧ 306 ≤ k ∧ k < 337 ∧ D + 306 = k) ∨ (M = 14 ∧ 337 ≤ k ∧ D + 337 = k) := by
  have h := List.all_eq_true.1 mchk_all k (List.mem_range.2 hk)
  simp only [mchk, ← hM, ← hD, Bool.or_eq_true, Bool.and_eq_true, beq_iff_eq, decide_eq_true_eq, and_assoc, or_assoc] at h
  exact h
theorem gcore1 (n c s r : Int) (h : 4 * (n + 719468) + 3 = 146097 * c + s) (h0 : 0 ≤ s) (h1 : s < 146097) (hr : r = s / 4) :
    n + 719468 = 36524 * c + c / 4 + r ∧ 0 ≤ r ∧ r ≤ 36524 ∧ (r = 36524 → c % 4 = 3) := by
  obtain ⟨e, f, hc, hf0, hf1⟩ : ∃ e f : Int, c = 4 * e + f ∧ 0 ≤ f ∧ f ≤ 3 := ⟨c / 4, c % 4, by omega, by omega, by omega⟩
  obtain ⟨u, v, hs, hv0, hv1⟩ : ∃ u v : Int, s = 4 * u + v ∧ 0 ≤ v ∧ v ≤ 3 := ⟨s / 4, s % 4, by omega, by omega, by omega⟩
  obtain rfl : r = u := by omega
  have hv : v = 3 - f := by omega
  refine ⟨by omega, by omega, by omega, fun _ => by omega⟩
theorem gcore2 (r cy t yd : Int) (h : 4 * r + 3 = 1461 * cy + t) (h0 : 0 ≤ t) (h1 : t < 1461) (hy : yd = t / 4) (hr0 : 0 ≤ r) (hr1 : r ≤ 36524) :
    r = 365 * cy + cy / 4 + yd ∧ 0 ≤ yd ∧ yd ≤ 365 ∧ 0 ≤ cy ∧ cy ≤ 99 ∧ (yd = 365 → cy % 4 = 3) := by
  obtain ⟨e, f, hc, hf0, hf1⟩ : ∃ e f : Int, cy = 4 * e + f ∧ 0 ≤ f ∧ f ≤ 3 := ⟨cy / 4, cy % 4, by omega, by omega, by omega⟩
  obtain ⟨u, v, hs, hv0, hv1⟩ : ∃ u v : Int, t = 4 * u + v ∧ 0 ≤ v ∧ v ≤ 3 := ⟨t / 4, t % 4, by omega, by omega, by omega⟩
  obtain rfl : yd = u := by omega
  have hv : v = 3 - f := by omega
  refine ⟨by omega, by omega, by omega, by omega, by omega, fun _ => by omega⟩
theorem gcore3 (n c r cy yd : Int) (hn : n + 719468 = 36524 * c + c / 4 + r) (hr : r = 365 * cy + cy / 4 + yd) (h0 : 0 ≤ cy) (h1 : cy ≤ 99) :
    n = ystart (100 * c + cy + 1) - 306 + yd := by unfold ystart; omega
theorem gcore4 (c r cy yd : Int) (h4 : r = 36524 → c % 4 = 3) (hr : r = 365 * cy + cy / 4 + yd) (h0 : 0 ≤ cy) (h1 : cy ≤ 99) (h5 : yd = 365 → cy % 4 = 3) (h6 : yd ≤ 365) :
    yd ≤ 364 + leapI (100 * c + cy + 1) := by
  unfold leapI
  split
  · omega
  · rename_i hl
    by_cases he : yd = 365
    · exfalso; apply hl
      have := h5 he
      by_cases h9 : cy = 99
      · have := h4 (by omega); subst h9; omega
      · omega
    · omega
theorem gcore (n : Int) : ∃ Y : Int, Y = 100 * gc n + gcy n ∧ 0 ≤ gyd n ∧ gyd n ≤ 364 + leapI (Y + 1) ∧
    n = ystart (Y + 1) - 306 + gyd n := by
  obtain ⟨hn, hr0, hr1, h4⟩ := gcore1 n (gc n) ((4 * (n + 719468) + 3) % 146097) (gr n) (by unfold gc; omega) (by omega) (by omega) rfl
  obtain ⟨hre, hy0, hy1, hc0, hc1, h5⟩ := gcore2 (gr n) (gcy n) ((4 * gr n + 3) % 1461) (gyd n) (by unfold gcy; omega) (by omega) (by omega) rfl hr0 hr1
  exact ⟨_, rfl, hy0, gcore4 _ _ _ _ h4 hre hc0 hc1 h5 hy1, gcore3 _ _ _ _ _ hn hre hc0 hc1⟩
theorem gdate (n : Int) : IsDate n (gyear n) (gmonth n) (gday n) := by
  obtain ⟨Y, hY, h0, h1, hn⟩ := gcore n
  have hl := leapI_01 (Y + 1)
  have e3 : gyear n = Y + gjf n := by unfold gyear; omega
  have hs := ystart_succ Y
  have hly := leapI_01 Y
  obtain ⟨k, hk⟩ : ∃ k : Nat, gyd n = k := ⟨(gyd n).toNat, by omega⟩
  obtain ⟨M, hM⟩ : ∃ M : Nat, M = (2141 * k + 197913) / 65536 := ⟨_, rfl⟩
  obtain ⟨D, hD⟩ : ∃ D : Nat, D = (2141 * k + 197913) % 65536 / 2141 := ⟨_, rfl⟩
  have ht := mtab k (by omega) M D hM hD
  have e1 : gm0 n = (M : Int) := by unfold gm0; omega
  have e2 : gday n = (D : Int) + 1 := by unfold gday; omega
  have hj : (gyd n < 306 ∧ gjf n = 0 ∧ gmonth n = (M : Int)) ∨ (306 ≤ gyd n ∧ gjf n = 1 ∧ gmonth n = (M : Int) - 12) := by
    unfold gmonth gjf; split <;> omega
  clear hY hM hD
  rw [e2, e3]
  clear e1 e2 e3
  rcases ht with ht | ht | ht | ht | ht | ht | ht | ht | ht | ht | ht | ht
  all_goals
    obtain ⟨rfl, ht⟩ := ht
    rcases hj with ⟨hj, h2, h3⟩ | ⟨hj, h2, h3⟩
    all_goals first
      | (exfalso; omega)
      | (rw [h2, h3]; constructor <;> (try simp [cum, mlen]) <;> omega)
theorem gyd_bd (n : Int) : 0 ≤ gyd n ∧ gyd n < 366 := by
  unfold gyd gr; omega
theorem gcy_bd (n : Int) : 0 ≤ gcy n ∧ gcy n ≤ 100 := by
  unfold gcy gr; omega
theorem gc_bd (n : Int) (h0 : -1000000 ≤ n) (h1 : n ≤ 100000000) : -100000 ≤ gc n ∧ gc n ≤ 1000000 := by
  unfold gc; omega
theorem IsDate.toG {n y m d : Int} (h : IsDate n y m d) : gyear n = y ∧ gmonth n = m ∧ gday n = d := (gdate n).uniq h
end Cal
end
section
set_option linter.unusedVariables false
set_option linter.unusedSimpArgs false
namespace Go.Proofs.YtjmgebhjkbcpcaaGreatDoor.NM
open Go.RowKit Cal
theorem ret_tuple2 {a b a' b' : Value} (h : a = a') (h' : b = b') : Ending.returned (.tuple #[a, b]) = .returned (.tuple #[a', b']) := by rw [h, h']
theorem ret_tuple3 {a b c a' b' c' : Value} (h : a = a') (h' : b = b') (h'' : c = c') : Ending.returned (.tuple #[a, b, c]) = .returned (.tuple #[a', b', c']) := by rw [h, h', h'']
theorem int_eq {k : IntKind} {a b : Int} (h : a = b) : Value.int k a = .int k b := by rw [h]
theorem u64_of_i64 (y : Int) (h0 : 0 ≤ y) (h1 : y < 18446744073709551616) : IntKind.u64.wrap (wrap64 y) = y := by
  simp [IntKind.wrap, IntKind.bits, IntKind.signed, wrap64]; omega
/-- The instant's seconds on the clocks, from the beginning of the count of days. -/
theorem absUTC (n x : Int) (hn : Nan n) (h0 : -20000000 ≤ x) (h1 : x ≤ 4000000000000) (w : World) :
    Calls Tryz.prog 189 #[.agg #[.int .u64 n, .int .i64 x, .pointer none]] w fun e w' => e = .returned (.int .u64 (x - 62135596800 + 9223372028741760000)) ∧ Below w.heap.size w w' := by
  have hA := bits_big n hn.1 (by have := hn.2; omega)
  clear hn
  go_enter Tryz.func189, Tryz.ntmps189
  go_wp2
  go_ret
  exact ⟨ret_int (u64_of_i64 _ (by omega) (by omega)), bA (bA (Below.refl _ _) _) _⟩
theorem days_any (a : Int) (h0 : 0 ≤ a) (h1 : a < 18446744073709551616) (w : World) :
    Calls Tryz.prog 190 #[.int .u64 a] w fun e w' => e = .returned (.int .u64 (a / 86400)) ∧ w = w' := by
  go_enter Tryz.func190, Tryz.ntmps190
  go_wp2
  go_ret
  exact ⟨rfl, rfl⟩
theorem bits_or3 (x : Int) (h0 : 0 ≤ x) (h1 : x < 4294967296) : bits BinOp.or IntKind.u32 x 3 = 4 * (x / 4) + 3 := by
  obtain ⟨a, rfl⟩ := Int.eq_ofNat_of_zero_le h0
  have h := (bits_nat .u32 32 (by decide) (fun n a b => by rw [IntKind.wrap_u32]; omega) a 3 (by omega) (by decide)).2
  have e : a ||| 3 = 4 * (a / 4) + 3 := by
    apply Nat.eq_of_testBit_eq
    intro i
    rw [Nat.testBit_or, show 4 * (a / 4) = 2 ^ 2 * (a / 4) by rfl, Nat.testBit_two_pow_mul_add _ (by decide : 3 < 2 ^ 2)]
    split
    · rename_i hi
      have : i = 0 ∨ i = 1 := by omega
      rcases this with rfl | rfl
      · simp
      · simp [show Nat.testBit 3 1 = true by decide]
    · rename_i hi
      rw [show (3 : Nat) = 2 ^ 2 - 1 by decide, Nat.testBit_two_pow_sub_one, show a / 4 = a / 2 ^ 2 by rfl, Nat.testBit_div_two_pow]
      simp [hi, show i - 2 + 2 = i by omega]
  have : bits BinOp.or IntKind.u32 (a : Int) 3 = ((a ||| 3 : Nat) : Int) := h
  rw [this, e]; omega
theorem split_math (q : Int) (h0 : 0 ≤ q) (h1 : q < 146097) :
    2939745 * (4 * (q / 4) + 3) / 4294967296 = (4 * (q / 4) + 3) / 1461 ∧
    2939745 * (4 * (q / 4) + 3) % 4294967296 / 2939745 = (4 * (q / 4) + 3) % 1461 := by
  obtain ⟨r, hr⟩ : ∃ r, r = 4 * (q / 4) + 3 := ⟨_, rfl⟩
  have hr0 : 0 ≤ r := by omega
  have hr1 : r ≤ 146099 := by omega
  rw [← hr]
  clear hr h0 h1
  obtain ⟨u, v, hs, hv0, hv1⟩ : ∃ u v : Int, r = 1461 * u + v ∧ 0 ≤ v ∧ v ≤ 1460 := ⟨r / 1461, r % 1461, by omega, by omega, by omega⟩
  have e : 2939745 * r = 4294967296 * u + (149 * u + 2939745 * v) := by omega
  have hu : 0 ≤ u ∧ u ≤ 99 := by omega
  rw [e]
  have e1 : (4294967296 * u + (149 * u + 2939745 * v)) / 4294967296 = u := by omega
  have e2 : (4294967296 * u + (149 * u + 2939745 * v)) % 4294967296 = 149 * u + 2939745 * v := by omega
  rw [e1, e2]
  constructor
  · omega
  · have : (149 * u + 2939745 * v) / 2939745 = v := by omega
    omega
theorem split_any (n : Int) (h0 : -1000000 ≤ n) (h1 : n ≤ 100000000) (w : World) :
    Calls Tryz.prog 191 #[.int .u64 (n + 106751991073400)] w fun e w' => e = .returned (.tuple #[.int .u64 (gc n + 2922770224), .int .i64 (gcy n), .int .i64 (gyd n)]) ∧ w = w' := by
  have hq := bits_or3 ((4 * (n + 106751991073400) + 3) % 146097) (by omega) (by omega)
  go_enter Tryz.func191, Tryz.ntmps191
  go_wp2
  go_ret3
  have hm := split_math ((4 * (n + 106751991073400) + 3) % 146097) (by omega) (by omega)
  refine ⟨ret_tuple3 (int_eq ?_) (int_eq ?_) (int_eq ?_), rfl⟩
  · unfold gc; omega
  · unfold gcy gr
    rw [hm.1, show (4 * (n + 106751991073400) + 3) % 146097 = (4 * (n + 719468) + 3) % 146097 by omega]
  · unfold gyd gr
    rw [hm.2, show (4 * (n + 106751991073400) + 3) % 146097 = (4 * (n + 719468) + 3) % 146097 by omega]
theorem ysplit_any (a : Int) (h0 : 0 ≤ a) (h1 : a < 366) (w : World) :
    Calls Tryz.prog 192 #[.int .i64 a] w fun e w' => e = .returned (.tuple #[.int .i64 ((2141 * a + 197913) / 65536), .int .i64 ((2141 * a + 197913) % 65536 / 2141 + 1)]) ∧ w = w' := by
  have hq : bits BinOp.and IntKind.u32 (2141 * a + 197913) 65535 = (2141 * a + 197913) % 65536 :=
    bits_mask .u32 32 (by decide) (fun n a b => by rw [IntKind.wrap_u32]; omega) 16 (by decide) _ (by omega) (by omega)
  go_enter Tryz.func192, Tryz.ntmps192
  go_wp2
  go_ret2
  exact ⟨ret_tuple2 rfl (int_eq (by omega)), rfl⟩
theorem janFeb_any (a : Int) (h0 : 0 ≤ a) (h1 : a < 366) (w : World) :
    Calls Tryz.prog 194 #[.int .i64 a] w fun e w' => e = .returned (.int .i64 (if 306 ≤ a then 1 else 0)) ∧ w = w' := by
  go_enter Tryz.func194, Tryz.ntmps194
  go_wp2
  · go_ret
    exact ⟨rfl, rfl⟩
  · go_ret
    exact ⟨rfl, rfl⟩
theorem cyear_any (c cy j : Int) (w : World) (h0 : -100000 ≤ c) (h1 : c ≤ 1000000) (h2 : 0 ≤ cy) (h3 : cy ≤ 100) (h4 : 0 ≤ j) (h5 : j ≤ 1) :
    Calls Tryz.prog 195 #[.int .u64 (c + 2922770224), .int .i64 cy, .int .i64 j] w fun e w' => e = .returned (.int .i64 (100 * c + cy + j)) ∧ w = w' := by
  go_enter Tryz.func195, Tryz.ntmps195
  go_wp2
  go_ret
  refine ⟨ret_int ?_, rfl⟩
  simp [IntKind.wrap, IntKind.bits, IntKind.signed, wrap64]; omega
theorem month_any (c j : Int) (w : World) (h0 : 0 ≤ c) (h1 : c ≤ 100) (h4 : 0 ≤ j) (h5 : j ≤ 1) :
    Calls Tryz.prog 196 #[.int .i64 c, .int .i64 j] w fun e w' => e = .returned (.int .i64 (c - 12 * j)) ∧ w = w' := by
  go_enter Tryz.func196, Tryz.ntmps196
  go_wp2
  go_ret
  exact ⟨ret_int (by omega), rfl⟩
theorem weekday_any (n : Int) (w : World) (h0 : -1000000 ≤ n) (h1 : n ≤ 100000000) :
    Calls Tryz.prog 209 #[.int .u64 (n + 106751991073400)] w fun e w' => e = .returned (.int .i64 ((n + 4) % 7)) ∧ w = w' := by
  go_enter Tryz.func209, Tryz.ntmps209
  go_wp2
  go_ret
  exact ⟨ret_int (by omega), rfl⟩
theorem clock_any (a : Int) (h0 : 0 ≤ a) (h1 : a < 18446744073709551616)  (w : World) :
    Calls Tryz.prog 208 #[.int .u64 a] w fun e w' => e = .returned (.tuple #[.int .i64 (a % 86400 / 3600), .int .i64 (a % 3600 / 60), .int .i64 (a % 60)]) ∧ w = w' := by
  go_enter Tryz.func208, Tryz.ntmps208
  go_wp2
  go_ret3
  exact ⟨ret_tuple3 rfl (int_eq (by omega)) (int_eq (by omega)), rfl⟩
end Go.Proofs.YtjmgebhjkbcpcaaGreatDoor.NM
end
section
set_option linter.unusedVariables false
set_option linter.unusedSimpArgs false
namespace Go.Proofs.YtjmgebhjkbcpcaaGreatDoor.NM
open Go.RowKit Cal
structure Zone where
  ws : List Int
  ix : List Int
  os : List Int
def offFrom (os : List Int) (s : Int) : List Int → List Int → Int → Int
  | w :: ws, k :: ks, acc => offFrom os s ws ks (if w ≤ s then os.getD k.toNat 0 else acc)
  | _, _, acc => acc
/-- ahead of all instants that int64 has: as at the first -/
def Zone.off (z : Zone) (s : Int) : Int := offFrom z.os s z.ws z.ix (z.os.getD (z.ix.getD 0 0).toNat 0)
structure Zone.Good (z : Zone) : Prop where
  n0 : 0 < z.ws.length
  n1 : z.ws.length ≤ 4096
  k0 : 0 < z.os.length
  k1 : z.os.length ≤ 64
  li : z.ix.length = z.ws.length
  first : z.ws.getD 0 0 = -9223372036854775808
  sorted : ∀ i, i + 1 < z.ws.length → z.ws.getD i 0 < z.ws.getD (i + 1) 0
  idx : ∀ i, i < z.ws.length → 0 ≤ z.ix.getD i 0 ∧ z.ix.getD i 0 < z.os.length
  offs : ∀ i, i < z.os.length → -86400 ≤ z.os.getD i 0 ∧ z.os.getD i 0 ≤ 86400
structure ZoneAt (w : World) (b : Nat) (z : Zone) (g1 g2 k1 k2 : Nat) : Prop where
  c0 : w.cell? ⟨b, 0, none⟩ = some (.bool false)
  c2 : w.cell? ⟨b, 2, none⟩ = some (.slice (some ⟨g1, 0, none⟩) z.os.length k1)
  c3 : w.cell? ⟨b, 3, none⟩ = some (.slice (some ⟨g2, 0, none⟩) z.ws.length k2)
  c7 : w.cell? ⟨b, 7, none⟩ = some (.pointer none)
  zn : ∀ i, i < z.os.length → w.cell? ⟨g1, i * 3, none⟩ = some (.string ⟨#[122, 111, 110, 101]⟩) ∧ w.cell? ⟨g1, i * 3 + 1, none⟩ = some (.int .i64 (z.os.getD i 0)) ∧ ∃ d, w.cell? ⟨g1, i * 3 + 2, none⟩ = some (.bool d)
  tr : ∀ i, i < z.ws.length → w.cell? ⟨g2, i * 4, none⟩ = some (.int .i64 (z.ws.getD i 0)) ∧ w.cell? ⟨g2, i * 4 + 1, none⟩ = some (.int .u8 (z.ix.getD i 0))

theorem bN {B : Nat} {w W : World} (h : Below B w W) (n : Nat) : Below B w (W.drewN n) := ⟨h.os, h.tape, h.output, h.size, h.block⟩
theorem offFrom_cons (os : List Int) (s w k acc : Int) (ws ks : List Int) : offFrom os s (w :: ws) (k :: ks) acc = offFrom os s ws ks (if w ≤ s then os.getD k.toNat 0 else acc) := rfl
theorem offFrom_above (os : List Int) (s : Int) : ∀ (ws ks : List Int) (acc : Int), (∀ i, i < ws.length → s < ws.getD i 0) → offFrom os s ws ks acc = acc := by
  intro ws
  induction ws with
  | nil => intro ks acc _; cases ks <;> rfl
  | cons w ws ih =>
    intro ks acc h
    cases ks with
    | nil => rfl
    | cons k ks =>
      rw [offFrom_cons, if_neg (by have := h 0 (by simp); simp at this; omega)]
      exact ih ks acc fun i hi => by have := h (i + 1) (by simpa using hi); simpa using this
theorem offFrom_at (os : List Int) (s : Int) : ∀ (ws ks : List Int) (acc : Int) (a : Nat), ks.length = ws.length → a < ws.length →
    (∀ i, i + 1 < ws.length → ws.getD i 0 < ws.getD (i + 1) 0) → ws.getD a 0 ≤ s → (a + 1 < ws.length → s < ws.getD (a + 1) 0) →
    offFrom os s ws ks acc = os.getD (ks.getD a 0).toNat 0 := by
  intro ws
  induction ws with
  | nil => intro ks acc a _ h; simp at h
  | cons w ws ih =>
    intro ks acc a hl ha hs h0 h1
    cases ks with
    | nil => simp at hl
    | cons k ks =>
      have hs' : ∀ i, i + 1 < ws.length → ws.getD i 0 < ws.getD (i + 1) 0 := fun i hi => by have := hs (i + 1) (by simpa using hi); simpa using this
      rw [offFrom_cons]
      cases a with
      | zero =>
        rw [if_pos (by simpa using h0)]
        have hab : ∀ i, i < ws.length → s < ws.getD i 0 := by
          intro i
          induction i with
          | zero => intro hi; have := h1 (by simpa using hi); simpa using this
          | succ i ih2 => intro hi; have := hs' i hi; have := ih2 (by omega); omega
        rw [offFrom_above _ _ _ _ _ hab]; simp
      | succ a =>
        have := ih ks (if w ≤ s then os.getD k.toNat 0 else acc) a (by simpa using hl) (by simpa using ha) hs' (by simpa using h0)
          (fun h => by have := h1 (by simpa using h); simpa using this)
        rw [this]; simp
theorem Zone.off_at {z : Zone} (h : z.Good) (s : Int) (a : Nat) (ha : a < z.ws.length) (h0 : z.ws.getD a 0 ≤ s) (h1 : a + 1 < z.ws.length → s < z.ws.getD (a + 1) 0) :
    z.off s = z.os.getD (z.ix.getD a 0).toNat 0 := offFrom_at _ _ _ _ _ _ h.li ha h.sorted h0 h1
def LookPost (z : Zone) (s : Int) (w : World) (e : Ending) (w' : World) : Prop :=
  ∃ (st en : Int) (d : Bool), e = .returned (.tuple #[.string ⟨#[122, 111, 110, 101]⟩, .int .i64 (z.off s), .int .i64 st, .int .i64 en, .bool d]) ∧ Below w.heap.size w w' ∧
    st ≤ s ∧ s < en ∧ ∀ r, st ≤ r → r < en → z.off r = z.off s
set_option maxRecDepth 100000 in
theorem lookup_walk (b g1 g2 k1 k2 : Nat) (z : Zone) (w : World) (s : Int) (hz : z.Good) (hw : ZoneAt w b z g1 g2 k1 k2) (hs0 : -9223372036854775808 ≤ s) (hs1 : s < 9223372036854775807) :
    Calls Tryz.prog 199 #[.pointer (some ⟨b, 0, none⟩), .int .i64 s] w (LookPost z s w) := by
  obtain ⟨c0, c2, c3, c7, zn, tr⟩ := hw
  have n0 := hz.n0
  have n1 := hz.n1
  have k0 := hz.k0
  have ky1 := hz.k1
  have hf := hz.first
  obtain ⟨t0, _⟩ := tr 0 n0
  rw [hf] at t0
  have q1 : ((z.ws.length : Int) == 0) = false := by rw [beq_eq_false_iff_ne]; omega
  have q2 : ((z.os.length : Int) == 0) = false := by rw [beq_eq_false_iff_ne]; omega
  have q3 : decide (s < -9223372036854775808) = false := by simp; omega
  have TR := Lib.hid tr
  have ZN := Lib.hid zn
  clear hf tr zn
  go_enter Tryz.func199, Tryz.ntmps199
  go_wp2
  go_loop [7, 12, 13] (fun en lo hi => ∃ (a c : Nat) (E : Int), a < c ∧ c ≤ z.ws.length ∧ en = .int .i64 E ∧ lo = .int .i64 a ∧ hi = .int .i64 c ∧ z.ws.getD a 0 ≤ s ∧ s < E ∧ (c < z.ws.length → z.ws.getD c 0 = E)) (fun _ lo hi => (intOf hi - intOf lo).toNat)
  case atStart => exact ⟨0, z.ws.length, _, n0, Nat.le_refl _, rfl, rfl, rfl, by rw [hz.first]; exact hs0, hs1, fun h => by omega⟩
  case round =>
    obtain ⟨a, c, E, hac, hc, rfl, rfl, rfl, ha, hE, hcE⟩ := hrel
    by_cases hlt : a + 1 < c
    · have hm : (a + c) / 2 < z.ws.length := by omega
      have ht := (TR.out ((a + c) / 2) hm).1
      obtain ⟨V, hV⟩ : ∃ V, z.ws.getD ((a + c) / 2) 0 = V := ⟨_, rfl⟩
      rw [hV] at ht
      have HV := Lib.hid hV
      have HA := Lib.hid ha
      have HE := Lib.hid hE
      have HC := Lib.hid hcE
      clear hV ha hE hcE
      by_cases hq : s < V
      · go_wp2
        go_round
        case rel => exact ⟨a, (a + c) / 2, _, by omega, by omega, rfl, rfl, rfl, HA.out, hq, fun _ => HV.out⟩
        case measure => simp [intOf]; omega
      · go_wp2
        go_round
        case rel => exact ⟨(a + c) / 2, c, _, by omega, by omega, rfl, rfl, rfl, by have := HV.out; omega, HE.out, HC.out⟩
        case measure => simp [intOf]; omega
    · obtain rfl : c = a + 1 := by omega
      obtain ⟨hi0, hi1⟩ := hz.idx a (by omega)
      obtain ⟨ta, tb⟩ := TR.out a (by omega)
      have hoff := Zone.off_at hz s a (by omega) ha (fun h => by rw [hcE h]; exact hE)
      have H : ∀ r, z.ws.getD a 0 ≤ r → r < E → z.off r = z.off s := fun r h0 h1 => by
        rw [hoff]; exact Zone.off_at hz r a (by omega) h0 (fun h => by rw [hcE h]; exact h1)
      obtain ⟨V, hV⟩ : ∃ V, z.ws.getD a 0 = V := ⟨_, rfl⟩
      obtain ⟨I, hI⟩ : ∃ I, z.ix.getD a 0 = I := ⟨_, rfl⟩
      rw [hV] at ta ha H
      rw [hI] at tb hi0 hi1 hoff
      obtain ⟨z0, z1, d, z2⟩ := ZN.out I.toNat (by omega)
      rw [← hoff] at z1
      have HR := Lib.hid H
      clear hoff H hcE t0 hV hI
      obtain ⟨O, hO⟩ : ∃ O, z.off s = O := ⟨_, rfl⟩
      rw [hO] at z1
      have HO := Lib.hid hO
      clear hO
      have hlen : I.toNat < z.os.length := by omega
      go_wp2
      go_quiet (fail)
      go_wp2
      exact bodyPost_ret (v := .tuple #[.string ⟨#[122, 111, 110, 101]⟩, .int .i64 O, .int .i64 V, .int .i64 E, .bool d]) (by simp [results, Tryz.results199, go_sem]) rfl
        ⟨V, E, d, by rw [HO.out], bN (Below.refl _ _) _, ha, hE, HR.out⟩
theorem keep {w W : World} (h : Below w.heap.size w W) {a : Addr} {v : Value} (hc : w.cell? a = some v) : W.cell? a = some v := (h.cell (World.block_lt_of_cell? w a hc)).trans hc
theorem ZoneAt.below {w W : World} {b g1 g2 k1 k2 : Nat} {z : Zone} (hw : ZoneAt w b z g1 g2 k1 k2) (h : Below w.heap.size w W) : ZoneAt W b z g1 g2 k1 k2 :=
  ⟨keep h hw.c0, keep h hw.c2, keep h hw.c3, keep h hw.c7,
   fun i hi => ⟨keep h (hw.zn i hi).1, keep h (hw.zn i hi).2.1, (hw.zn i hi).2.2.imp fun _ hd => keep h hd⟩,
   fun i hi => ⟨keep h (hw.tr i hi).1, keep h (hw.tr i hi).2⟩⟩
set_option maxRecDepth 100000 in
/-- lookup at UTC's own location (made by UTC) -/
theorem lookup_utc (b : Nat) (w : World) (s : Int) (c2 : w.cell? ⟨b, 2, none⟩ = some (.slice none 0 0)) :
    Calls Tryz.prog 199 #[.pointer (some ⟨b, 0, none⟩), .int .i64 s] w fun e w' => e = .returned (.tuple #[.string ⟨#[85, 84, 67]⟩, .int .i64 0, .int .i64 (-9223372036854775808), .int .i64 9223372036854775807, .bool false]) ∧ w = w' := by
  go_enter Tryz.func199, Tryz.ntmps199
  go_wp2
  exact bodyPost_ret (v := .tuple #[.string ⟨#[85, 84, 67]⟩, .int .i64 0, .int .i64 (-9223372036854775808), .int .i64 9223372036854775807, .bool false]) (by simp [results, Tryz.results199, go_sem]) rfl ⟨rfl, rfl⟩
/-- absSec on the clocks of a zone -/
theorem absZone (b g1 g2 k1 k2 : Nat) (z : Zone) (n x o : Int) (w : World) (hz : z.Good) (hw : ZoneAt w b z g1 g2 k1 k2) (hn : Nan n) (h0 : -20000000 ≤ x) (h1 : x ≤ 4000000000000)
    (ho : z.off (x - 62135596800) = o) (ho0 : -86400 ≤ o) (ho1 : o ≤ 86400) :
    Calls Tryz.prog 189 #[.agg #[.int .u64 n, .int .i64 x, .pointer (some ⟨b, 0, none⟩)]] w fun e w' => e = .returned (.int .u64 (x - 62135596800 + o + 9223372028741760000)) ∧ Below w.heap.size w w' := by
  have hA := bits_big n hn.1 (by have := hn.2; omega)
  clear hn
  have hcz := hw.c0
  have hc7 := hw.c7
  have HO := Lib.hid ho
  clear ho
  have hlt : b < w.heap.size := World.block_lt_of_cell? w _ hcz
  go_enter Tryz.func189, Tryz.ntmps189
  go_wp2_with (first | (go_at_call 199; refine (lookup_walk b g1 g2 k1 k2 z _ (x + -62135596800) hz (hw.below (bA (Below.refl _ _) _)) (by omega) (by omega)).mono ?_; rintro e w' ⟨st, en, d, rfl, hb, -, -, -⟩; rw [show x + -62135596800 = x - 62135596800 by omega, HO.out]) | go_in)
  go_ret
  exact ⟨ret_int (u64_of_i64 _ (by omega) (by omega)), (bA (Below.refl _ _) _).trans (hb.mono (by simp))⟩
end Go.Proofs.YtjmgebhjkbcpcaaGreatDoor.NM
end
