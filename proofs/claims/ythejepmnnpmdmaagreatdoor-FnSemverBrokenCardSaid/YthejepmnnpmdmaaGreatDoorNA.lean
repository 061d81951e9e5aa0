/- a part of the proof: FnSemverBroken: for every list of lists of terms, every style and every byte the law's function returns true and leaves its arguments as they were. No condition is added: the statement is the given one, the tied card. -/

section
namespace Go.Proofs.YthejepmnnpmdmaaGreatDoor.Rx
/-- an instruction -/
inductive I where
  | alt (out arg : Nat)
  | cap (out arg : Nat)
  | emp (out arg : Nat)
  | mtch
  | fail
  | nop (out : Nat)
  | rune (out : Nat) (rs : List Int)
  | one (out : Nat) (r : Int)
/-- a rune lies in one of the ranges -/
def matchRune : List Int → Int → Bool
  | [], _ => false
  | [a], r => r == a
  | a :: b :: l, r => (decide (a ≤ r) && decide (r ≤ b)) || matchRune l r
/-- a program over a text: the rune at a place and its width; whether a mark holds at a place -/
structure Env where
  prog : Nat → I
  step : Nat → Int × Nat
  flag : Nat → Nat → Bool
abbrev Res := Option (List (Nat × Nat))
/-- the first match from an instruction and a place: which places are written into which slots, or none; with the size of the search -/
inductive FM (E : Env) : Nat → Nat → Nat → Res → Prop
  | mtch {pc pos} : E.prog pc = .mtch → FM E 0 pc pos (some [(1, pos)])
  | runeY {n pc pos out rs r} : E.prog pc = .rune out rs → matchRune rs (E.step pos).1 = true → FM E n out (pos + (E.step pos).2) r → FM E (n + 1) pc pos r
  | runeN {pc pos out rs} : E.prog pc = .rune out rs → matchRune rs (E.step pos).1 = false → FM E 0 pc pos none
  | oneY {n pc pos out c r} : E.prog pc = .one out c → (E.step pos).1 = c → FM E n out (pos + (E.step pos).2) r → FM E (n + 1) pc pos r
  | oneN {pc pos out c} : E.prog pc = .one out c → (E.step pos).1 ≠ c → FM E 0 pc pos none
  | empY {n pc pos out a r} : E.prog pc = .emp out a → E.flag pos a = true → FM E n out pos r → FM E (n + 1) pc pos r
  | empN {pc pos out a} : E.prog pc = .emp out a → E.flag pos a = false → FM E 0 pc pos none
  | nop {n pc pos out r} : E.prog pc = .nop out → FM E n out pos r → FM E (n + 1) pc pos r
  | capY {n pc pos out a t} : E.prog pc = .cap out a → FM E n out pos (some t) → FM E (n + 1) pc pos (some ((a, pos) :: t))
  | capN {n pc pos out a} : E.prog pc = .cap out a → FM E n out pos none → FM E (n + 1) pc pos none
  | altY {n pc pos out a t} : E.prog pc = .alt out a → FM E n out pos (some t) → FM E (n + 1) pc pos (some t)
  | altN {n m pc pos out a r} : E.prog pc = .alt out a → FM E n out pos none → FM E m a pos r → FM E (n + m + 1) pc pos r
theorem FM.uniq {E : Env} {n pc pos r} (h : FM E n pc pos r) : ∀ {m r'}, FM E m pc pos r' → m = n ∧ r' = r := by
  induction h with
  | mtch h => intro m r' h'; cases h' <;> simp_all
  | runeY h h1 _ ih =>
    intro m r' h'
    cases h' with
    | runeY g g1 g2 => rw [h] at g; injection g with e1 e2; subst e1; obtain ⟨rfl, rfl⟩ := ih g2; exact ⟨rfl, rfl⟩
    | _ => simp_all
  | runeN h h1 => intro m r' h'; cases h' <;> simp_all
  | oneY h h1 _ ih =>
    intro m r' h'
    cases h' with
    | oneY g g1 g2 => rw [h] at g; injection g with e1 e2; subst e1; obtain ⟨rfl, rfl⟩ := ih g2; exact ⟨rfl, rfl⟩
    | _ => simp_all
  | oneN h h1 => intro m r' h'; cases h' <;> simp_all
  | empY h h1 _ ih =>
    intro m r' h'
    cases h' with
    | empY g g1 g2 => rw [h] at g; injection g with e1 e2; subst e1; obtain ⟨rfl, rfl⟩ := ih g2; exact ⟨rfl, rfl⟩
    | _ => simp_all
  | empN h h1 => intro m r' h'; cases h' <;> simp_all
  | nop h _ ih =>
    intro m r' h'
    cases h' with
    | nop g g2 => rw [h] at g; injection g with e1; subst e1; obtain ⟨rfl, rfl⟩ := ih g2; exact ⟨rfl, rfl⟩
    | _ => simp_all
  | capY h _ ih =>
    intro m r' h'
    cases h' with
    | capY g g2 => rw [h] at g; injection g with e1 e2; subst e1 e2; obtain ⟨rfl, e⟩ := ih g2; injection e with e; subst e; exact ⟨rfl, rfl⟩
    | capN g g2 => rw [h] at g; injection g with e1 e2; subst e1 e2; have := (ih g2).2; cases this
    | _ => simp_all
  | capN h _ ih =>
    intro m r' h'
    cases h' with
    | capY g g2 => rw [h] at g; injection g with e1 e2; subst e1 e2; have := (ih g2).2; cases this
    | capN g g2 => rw [h] at g; injection g with e1 e2; subst e1 e2; obtain ⟨rfl, e⟩ := ih g2; exact ⟨rfl, rfl⟩
    | _ => simp_all
  | altY h _ ih =>
    intro m r' h'
    cases h' with
    | altY g g2 => rw [h] at g; injection g with e1 e2; subst e1 e2; obtain ⟨rfl, e⟩ := ih g2; exact ⟨rfl, e⟩
    | altN g g2 _ => rw [h] at g; injection g with e1 e2; subst e1 e2; have := (ih g2).2; cases this
    | _ => simp_all
  | altN h _ _ ih1 ih2 =>
    intro m r' h'
    cases h' with
    | altY g g2 => rw [h] at g; injection g with e1 e2; subst e1 e2; have := (ih1 g2).2; cases this
    | altN g g2 g3 => rw [h] at g; injection g with e1 e2; subst e1 e2; obtain ⟨rfl, _⟩ := ih1 g2; obtain ⟨rfl, e⟩ := ih2 g3; exact ⟨rfl, e⟩
    | _ => simp_all
/-- where the search stands -/
inductive Ctl where
  | pop
  | chk (pc pos : Nat)
  | at_ (pc pos : Nat)
  | fin (b : Bool)
structure Cfg where
  ctl : Ctl
  jobs : List (Nat × Bool × Int)
  vis : Nat → Nat → Bool
  cap : List Int
def mark (V : Nat → Nat → Bool) (pc pos : Nat) : Nat → Nat → Bool := fun p q => (decide (p = pc) && decide (q = pos)) || V p q
/-- one step of the search -/
def mstep (E : Env) (c : Cfg) : Option Cfg :=
  match c.ctl with
  | .fin _ => none
  | .pop =>
    match c.jobs with
    | [] => some { c with ctl := .fin false }
    | (pc, false, p) :: J => some { c with ctl := .at_ pc p.toNat, jobs := J }
    | (pc, true, p) :: J =>
      match E.prog pc with
      | .alt _ a => some { c with ctl := .chk a p.toNat, jobs := J }
      | .cap _ a => some { c with ctl := .pop, jobs := J, cap := c.cap.set a p }
      | _ => none
  | .chk pc pos => if c.vis pc pos then some { c with ctl := .pop } else some { c with ctl := .at_ pc pos, vis := mark c.vis pc pos }
  | .at_ pc pos =>
    match E.prog pc with
    | .alt o _ => some { c with ctl := .chk o pos, jobs := (pc, true, (pos : Int)) :: c.jobs }
    | .cap o a =>
      match c.cap[a]? with
      | some old => some { c with ctl := .chk o pos, jobs := (pc, true, old) :: c.jobs, cap := c.cap.set a (pos : Int) }
      | none => some { c with ctl := .chk o pos }
    | .rune o rs => if matchRune rs (E.step pos).1 then some { c with ctl := .chk o (pos + (E.step pos).2) } else some { c with ctl := .pop }
    | .one o r => if (E.step pos).1 = r then some { c with ctl := .chk o (pos + (E.step pos).2) } else some { c with ctl := .pop }
    | .emp o a => if E.flag pos a then some { c with ctl := .chk o pos } else some { c with ctl := .pop }
    | .nop o => some { c with ctl := .chk o pos }
    | .mtch => some { c with ctl := .fin true, cap := c.cap.set 1 (pos : Int) }
    | .fail => none
inductive Steps (E : Env) : Nat → Cfg → Cfg → Prop
  | zero {c} : Steps E 0 c c
  | succ {n a b c} : mstep E a = some b → Steps E n b c → Steps E (n + 1) a c
theorem Steps.trans {E : Env} {n a b} (h : Steps E n a b) : ∀ {m c}, Steps E m b c → Steps E (n + m) a c := by
  induction h with
  | zero => intro m c h; rw [Nat.zero_add]; exact h
  | @succ n a b c h _ ih => intro m d g; rw [show n + 1 + m = (n + m) + 1 by omega]; exact .succ h (ih g)
theorem Steps.one {E : Env} {a b} (h : mstep E a = some b) : Steps E 1 a b := .succ h .zero
/-- what a match writes, laid over what was written -/
def applyT (t : List (Nat × Nat)) (C : List Int) : List Int := t.foldl (fun C x => C.set x.1 (x.2 : Int)) C
def Dead (E : Env) (pc pos : Nat) : Prop := ∃ n, FM E n pc pos none
theorem mark_of {V : Nat → Nat → Bool} {pc pos p q} (h : mark V pc pos p q = true) : (p = pc ∧ q = pos) ∨ V p q = true := by
  simpa [mark] using h
theorem set_get {C : List Int} {a : Nat} {old x : Int} (h : C[a]? = some old) : (C.set a x).set a old = C := by
  rw [List.set_set]
  apply List.ext_getElem?
  intro i
  rw [List.getElem?_set]
  split
  · next e => subst e; rw [h]; simp [(List.getElem?_eq_some_iff.1 h).1]
  · rfl
theorem set_none {C : List Int} {a : Nat} {x : Int} (h : C[a]? = none) : C.set a x = C := by
  rw [List.getElem?_eq_none_iff] at h
  exact List.set_eq_of_length_le h
/-- what lies ahead of n: each place visited is dead, or its search is greater than n -/
def Clean (E : Env) (n : Nat) (V : Nat → Nat → Bool) : Prop := ∀ p q, V p q = true → Dead E p q ∨ ∃ m r, FM E m p q r ∧ n < m
theorem Clean.mono {E n m V} (h : Clean E n V) (hm : m ≤ n) : Clean E m V := fun p q hp => by
  rcases h p q hp with h | ⟨k, r, h1, h2⟩
  · exact .inl h
  · exact .inr ⟨k, r, h1, by omega⟩
/-- of two sets of places: the second has more, but dead ones alone -/
def More (E : Env) (V V' : Nat → Nat → Bool) : Prop := (∀ p q, V p q = true → V' p q = true) ∧ ∀ p q, V' p q = true → V p q = true ∨ Dead E p q
theorem More.refl {E V} : More E V V := ⟨fun _ _ h => h, fun _ _ h => .inl h⟩
theorem More.trans {E V V' V''} (h : More E V V') (g : More E V' V'') : More E V V'' := ⟨fun p q x => g.1 p q (h.1 p q x), fun p q x => by
  rcases g.2 p q x with y | y
  · exact h.2 p q y
  · exact .inr y⟩
theorem Clean.more {E n V V'} (h : Clean E n V) (g : More E V V') : Clean E n V' := fun p q x => by
  rcases g.2 p q x with y | y
  · exact h p q y
  · exact .inl y
def Ends (E : Env) (c : Cfg) (J : List (Nat × Bool × Int)) (V : Nat → Nat → Bool) (C : List Int) : Res → Prop
  | none => ∃ k V', More E V V' ∧ Steps E k c ⟨.pop, J, V', C⟩
  | some t => ∃ k V' J', Steps E k c ⟨.fin true, J', V', applyT t C⟩
theorem Ends.step {E c d J V C r} (h : mstep E c = some d) (g : Ends E d J V C r) : Ends E c J V C r := by
  cases r with
  | none => obtain ⟨k, V', h1, h2⟩ := g; exact ⟨k + 1, V', h1, .succ h h2⟩
  | some t => obtain ⟨k, V', J', h2⟩ := g; exact ⟨k + 1, V', J', .succ h h2⟩
/-- the search from a place that is not yet visited and marked now -/
theorem main {E : Env} {n pc pos r} (h : FM E n pc pos r) : ∀ J V C, Clean E n V → Ends E ⟨.chk pc pos, J, V, C⟩ J V C r := by
  have key : ∀ {n pc pos r}, FM E n pc pos r → (∀ J V C, Clean E n V → V pc pos = false → ∀ W, W = mark V pc pos → Ends E ⟨.at_ pc pos, J, W, C⟩ J W C r) → ∀ J V C, Clean E n V → Ends E ⟨.chk pc pos, J, V, C⟩ J V C r := by
    intro n pc pos r h g J V C hc
    cases hv : V pc pos with
    | true =>
      rcases hc pc pos hv with ⟨m, hd⟩ | ⟨m, r', h1, h2⟩
      · obtain ⟨_, e⟩ := hd.uniq h
        subst e
        exact ⟨1, V, .refl, .one (by simp [mstep, hv])⟩
      · have := (h1.uniq h).1; omega
    | false =>
      have hs : mstep E ⟨.chk pc pos, J, V, C⟩ = some ⟨.at_ pc pos, J, mark V pc pos, C⟩ := by simp [mstep, hv]
      have h1 := g J V C hc hv _ rfl
      cases r with
      | none =>
        obtain ⟨k, V', h1, h2⟩ := h1
        refine ⟨k + 1, V', ⟨fun p q x => h1.1 p q (by simp [mark, x]), fun p q x => ?_⟩, .succ hs h2⟩
        rcases h1.2 p q x with y | y
        · rcases mark_of y with ⟨rfl, rfl⟩ | y
          · exact .inr ⟨n, h⟩
          · exact .inl y
        · exact .inr y
      | some t =>
        obtain ⟨k, V', J', h2⟩ := h1
        exact ⟨k + 1, V', J', .succ hs h2⟩
  have cm : ∀ {n m pc pos r V}, FM E n pc pos r → Clean E n V → m < n → Clean E m (mark V pc pos) := by
    intro n m pc pos r V h hc hm p q x
    rcases mark_of x with ⟨rfl, rfl⟩ | y
    · exact .inr ⟨n, r, h, hm⟩
    · exact hc.mono (Nat.le_of_lt hm) p q y
  induction h with
  | mtch h =>
    refine key (.mtch h) fun J V C _ _ W _ => ⟨1, W, J, .one ?_⟩
    simp [mstep, h, applyT]
  | runeY h h1 h2 ih =>
    refine key (.runeY h h1 h2) fun J V C hc hv W hW => ?_
    refine Ends.step (d := ⟨.chk _ _, J, W, C⟩) (by simp [mstep, h, h1]) (ih J W C ?_)
    rw [hW]; exact cm (.runeY h h1 h2) hc (by omega)
  | runeN h h1 => exact key (.runeN h h1) fun J V C _ _ W _ => ⟨1, W, .refl, .one (by simp [mstep, h, h1])⟩
  | oneY h h1 h2 ih =>
    refine key (.oneY h h1 h2) fun J V C hc hv W hW => ?_
    refine Ends.step (d := ⟨.chk _ _, J, W, C⟩) (by simp [mstep, h, h1]) (ih J W C ?_)
    rw [hW]; exact cm (.oneY h h1 h2) hc (by omega)
  | oneN h h1 => exact key (.oneN h h1) fun J V C _ _ W _ => ⟨1, W, .refl, .one (by simp [mstep, h, h1])⟩
  | empY h h1 h2 ih =>
    refine key (.empY h h1 h2) fun J V C hc hv W hW => ?_
    refine Ends.step (d := ⟨.chk _ _, J, W, C⟩) (by simp [mstep, h, h1]) (ih J W C ?_)
    rw [hW]; exact cm (.empY h h1 h2) hc (by omega)
  | empN h h1 => exact key (.empN h h1) fun J V C _ _ W _ => ⟨1, W, .refl, .one (by simp [mstep, h, h1])⟩
  | nop h h2 ih =>
    refine key (.nop h h2) fun J V C hc hv W hW => ?_
    refine Ends.step (d := ⟨.chk _ _, J, W, C⟩) (by simp [mstep, h]) (ih J W C ?_)
    rw [hW]; exact cm (.nop h h2) hc (by omega)
  | @capY n pc pos out a t h h2 ih =>
    refine key (.capY h h2) fun J V C hc hv W hW => ?_
    have hW' : Clean E n W := by rw [hW]; exact cm (.capY h h2) hc (by omega)
    cases hg : C[a]? with
    | none =>
      refine Ends.step (d := ⟨.chk out pos, J, W, C⟩) (by simp [mstep, h, hg]) ?_
      obtain ⟨k, V', J', hs⟩ := ih J W C hW'
      refine ⟨k, V', J', ?_⟩
      have : applyT ((a, pos) :: t) C = applyT t C := by simp only [applyT, List.foldl_cons, set_none hg]
      rw [this]; exact hs
    | some old =>
      refine Ends.step (d := ⟨.chk out pos, (pc, true, old) :: J, W, C.set a (pos : Int)⟩) (by simp [mstep, h, hg]) ?_
      obtain ⟨k, V', J', hs⟩ := ih ((pc, true, old) :: J) W (C.set a (pos : Int)) hW'
      exact ⟨k, V', J', hs⟩
  | @capN n pc pos out a h h2 ih =>
    refine key (.capN h h2) fun J V C hc hv W hW => ?_
    have hW' : Clean E n W := by rw [hW]; exact cm (.capN h h2) hc (by omega)
    cases hg : C[a]? with
    | none =>
      refine Ends.step (d := ⟨.chk out pos, J, W, C⟩) (by simp [mstep, h, hg]) ?_
      exact ih J W C hW'
    | some old =>
      refine Ends.step (d := ⟨.chk out pos, (pc, true, old) :: J, W, C.set a (pos : Int)⟩) (by simp [mstep, h, hg]) ?_
      obtain ⟨k, V', h1, hs⟩ := ih ((pc, true, old) :: J) W (C.set a (pos : Int)) hW'
      refine ⟨k + 1, V', h1, hs.trans (.one ?_)⟩
      simp [mstep, h, set_get hg]
  | @altY n pc pos out a t h h2 ih =>
    refine key (.altY h h2) fun J V C hc hv W hW => ?_
    refine Ends.step (d := ⟨.chk out pos, (pc, true, (pos : Int)) :: J, W, C⟩) (by simp [mstep, h]) ?_
    obtain ⟨k, V', J', hs⟩ := ih ((pc, true, (pos : Int)) :: J) W C (by rw [hW]; exact cm (.altY h h2) hc (by omega))
    exact ⟨k, V', J', hs⟩
  | @altN n m pc pos out a r h h2 h3 ih1 ih2 =>
    refine key (.altN h h2 h3) fun J V C hc hv W hW => ?_
    refine Ends.step (d := ⟨.chk out pos, (pc, true, (pos : Int)) :: J, W, C⟩) (by simp [mstep, h]) ?_
    have hW' : Clean E n W := by rw [hW]; exact cm (.altN h h2 h3) hc (by omega)
    have hW2 : Clean E m W := by rw [hW]; exact cm (.altN h h2 h3) hc (by omega)
    obtain ⟨k, V', h1, hs⟩ := ih1 ((pc, true, (pos : Int)) :: J) W C hW'
    have g := ih2 J V' C (hW2.more h1)
    have hs2 := hs.trans (.one (show mstep E ⟨.pop, (pc, true, (pos : Int)) :: J, V', C⟩ = some ⟨.chk a pos, J, V', C⟩ by simp [mstep, h]))
    cases r with
    | none =>
      obtain ⟨k2, V2, g1, g2⟩ := g
      exact ⟨_, V2, h1.trans g1, hs2.trans g2⟩
    | some t =>
      obtain ⟨k2, V2, J2, g2⟩ := g
      exact ⟨_, V2, J2, hs2.trans g2⟩

/-- no place is visited but dead ones -/
def AllDead (E : Env) (V : Nat → Nat → Bool) : Prop := ∀ p q, V p q = true → Dead E p q
/-- where the search stands behind its first push -/
def cfg0 (start pos : Nat) (V : Nat → Nat → Bool) (C : List Int) : Cfg := if V start pos then ⟨.pop, [], V, C⟩ else ⟨.pop, [(start, false, (pos : Int))], mark V start pos, C⟩
theorem Steps.det {E n a c} (h : Steps E n a c) (hc : mstep E c = none) : ∀ {m b}, Steps E m a b → m ≤ n ∧ Steps E (n - m) b c := by
  induction h with
  | zero =>
    intro m b g
    cases g with
    | zero => exact ⟨Nat.le_refl _, .zero⟩
    | succ g _ => rw [hc] at g; cases g
  | @succ n a b c h h2 ih =>
    intro m d g
    cases g with
    | zero => exact ⟨by omega, .succ h h2⟩
    | @succ m _ b' _ g g2 =>
      rw [h] at g; injection g with g; subst g
      obtain ⟨h3, h4⟩ := ih hc g2
      exact ⟨by omega, by rw [show n + 1 - (m + 1) = n - m by omega]; exact h4⟩
/-- the whole search from one place -/
def Try (E : Env) (c : Cfg) (C : List Int) : Res → Prop
  | none => ∃ k V', AllDead E V' ∧ Steps E k c ⟨.fin false, [], V', C⟩
  | some t => ∃ k V' J', Steps E k c ⟨.fin true, J', V', applyT t C⟩
theorem tryAt {E : Env} {n start pos r} (h : FM E n start pos r) (V : Nat → Nat → Bool) (C : List Int) (hV : AllDead E V) : Try E (cfg0 start pos V C) C r := by
  have hm := main h [] V C (fun p q x => .inl (hV p q x))
  have hp : ∀ V', mstep E ⟨.pop, [], V', C⟩ = some ⟨.fin false, [], V', C⟩ := fun V' => by simp [mstep]
  have nf : ∀ b J V C, mstep E ⟨.fin b, J, V, C⟩ = none := fun b J V C => by simp [mstep]
  have ends : ∀ (d : Cfg), Ends E d [] V C r → Try E d C r := by
    intro d hd
    cases r with
    | none =>
      obtain ⟨k, V', h1, h2⟩ := hd
      refine ⟨k + 1, V', fun p q x => ?_, h2.trans (.one (hp V'))⟩
      rcases h1.2 p q x with y | y
      · exact hV p q y
      · exact y
    | some t =>
      obtain ⟨k, V', J', h2⟩ := hd
      exact ⟨k, V', J', h2⟩
  have whole := ends _ hm
  unfold cfg0
  cases hv : V start pos with
  | true =>
    have hs : Steps E 1 ⟨.chk start pos, [], V, C⟩ ⟨.pop, [], V, C⟩ := .one (by simp [mstep, hv])
    rw [if_pos rfl]
    cases r with
    | none =>
      obtain ⟨k, V', h1, h2⟩ := whole
      exact ⟨_, V', h1, (h2.det (nf _ _ _ _) hs).2⟩
    | some t =>
      obtain ⟨k, V', J', h2⟩ := whole
      exact ⟨_, V', J', (h2.det (nf _ _ _ _) hs).2⟩
  | false =>
    have hs : Steps E 1 ⟨.chk start pos, [], V, C⟩ ⟨.at_ start pos, [], mark V start pos, C⟩ := .one (by simp [mstep, hv])
    have hs2 : Steps E 1 ⟨.pop, [(start, false, (pos : Int))], mark V start pos, C⟩ ⟨.at_ start pos, [], mark V start pos, C⟩ := .one (by simp [mstep])
    rw [if_neg (by simp)]
    cases r with
    | none =>
      obtain ⟨k, V', h1, h2⟩ := whole
      exact ⟨_, V', h1, hs2.trans (h2.det (nf _ _ _ _) hs).2⟩
    | some t =>
      obtain ⟨k, V', J', h2⟩ := whole
      exact ⟨_, V', J', hs2.trans (h2.det (nf _ _ _ _) hs).2⟩
/-! ## blocks: what a piece of a program does, whatever stands behind it -/
def M (E : Env) (pc pos : Nat) (r : Res) : Prop := ∃ n, FM E n pc pos r
abbrev K := Nat → Res
structure Ok (E : Env) (N : Nat) : Prop where
  inn : ∀ p, p < N → 1 ≤ (E.step p).2 ∧ p + (E.step p).2 ≤ N
  out : ∀ p, N ≤ p → E.step p = (-1, 0)
/-- from a to z: at least d further; f tells, of what the rest gives at each place, what the whole gives -/
structure Blk (E : Env) (N d a z : Nat) (f : K → K) : Prop where
  run : ∀ pos, pos ≤ N → ∀ k : K, (∀ q, pos + d ≤ q → q ≤ N → M E z q (k q)) → M E a pos (f k pos)
  same : ∀ pos, pos ≤ N → ∀ k k' : K, (∀ q, pos + d ≤ q → q ≤ N → k q = k' q) → f k pos = f k' pos
def rRune (E : Env) (rs : List Int) : K → K := fun k p => if matchRune rs (E.step p).1 then k (p + (E.step p).2) else none
def rOne (E : Env) (c : Int) : K → K := fun k p => if (E.step p).1 = c then k (p + (E.step p).2) else none
def rEmp (E : Env) (a : Nat) : K → K := fun k p => if E.flag p a then k p else none
def rCap (a : Nat) : K → K := fun k p => (k p).map ((a, p) :: ·)
def rAlt (f g : K → K) : K → K := fun k p => (f k p).or (g k p)
def starN (f : K → K) (k : K) : Nat → K
  | 0 => k
  | n + 1 => fun p => (f (starN f k n) p).or (k p)
def rStar (N : Nat) (f : K → K) : K → K := fun k p => starN f k (N + 1 - p) p
theorem Blk.skip {E N a} : Blk E N 0 a a id := ⟨fun pos hp k h => h pos (by omega) hp, fun pos hp k k' h => h pos (by omega) hp⟩
theorem Blk.weak {E N d d' a z f} (h : Blk E N d a z f) (hd : d' ≤ d) : Blk E N d' a z f :=
  ⟨fun pos hp k g => h.run pos hp k fun q h1 h2 => g q (by omega) h2, fun pos hp k k' g => h.same pos hp k k' fun q h1 h2 => g q (by omega) h2⟩
theorem Blk.seq {E N d d' a m z f g} (h : Blk E N d a m f) (h' : Blk E N d' m z g) : Blk E N (d + d') a z (fun k => f (g k)) :=
  ⟨fun pos hp k c => h.run pos hp _ fun q h1 h2 => h'.run q h2 k fun r h3 h4 => c r (by omega) h4,
   fun pos hp k k' c => h.same pos hp _ _ fun q h1 h2 => h'.same q h2 k k' fun r h3 h4 => c r (by omega) h4⟩
theorem Blk.rune {E N a z rs} (ok : Ok E N) (hp : E.prog a = .rune z rs) (hm : matchRune rs (-1) = false) : Blk E N 1 a z (rRune E rs) := by
  have aux : ∀ pos, matchRune rs (E.step pos).1 = true → pos ≤ N → pos + 1 ≤ pos + (E.step pos).2 ∧ pos + (E.step pos).2 ≤ N := fun pos h hN => by
    by_cases c : pos < N
    · have := ok.inn pos c; omega
    · rw [ok.out pos (by omega), hm] at h; cases h
  refine ⟨fun pos hN k h => ?_, fun pos hN k k' h => ?_⟩
  · unfold rRune
    split
    · next c => obtain ⟨n, hn⟩ := h _ (aux pos c hN).1 (aux pos c hN).2; exact ⟨_, .runeY hp c hn⟩
    · next c => exact ⟨_, .runeN hp (by simpa using c)⟩
  · unfold rRune
    split
    · next c => exact h _ (aux pos c hN).1 (aux pos c hN).2
    · rfl
theorem Blk.one {E N a z c} (ok : Ok E N) (hp : E.prog a = .one z c) (hm : c ≠ -1) : Blk E N 1 a z (rOne E c) := by
  have aux : ∀ pos, (E.step pos).1 = c → pos ≤ N → pos + 1 ≤ pos + (E.step pos).2 ∧ pos + (E.step pos).2 ≤ N := fun pos h hN => by
    by_cases c : pos < N
    · have := ok.inn pos c; omega
    · rw [ok.out pos (by omega)] at h; exact absurd h.symm hm
  refine ⟨fun pos hN k h => ?_, fun pos hN k k' h => ?_⟩
  · unfold rOne
    split
    · next c => obtain ⟨n, hn⟩ := h _ (aux pos c hN).1 (aux pos c hN).2; exact ⟨_, .oneY hp c hn⟩
    · next c => exact ⟨_, .oneN hp c⟩
  · unfold rOne
    split
    · next c => exact h _ (aux pos c hN).1 (aux pos c hN).2
    · rfl
theorem Blk.emp {E N a z m} (hp : E.prog a = .emp z m) : Blk E N 0 a z (rEmp E m) := by
  refine ⟨fun pos hN k h => ?_, fun pos hN k k' h => ?_⟩
  · unfold rEmp
    split
    · next c => obtain ⟨n, hn⟩ := h pos (by omega) hN; exact ⟨_, .empY hp c hn⟩
    · next c => exact ⟨_, .empN hp (by simpa using c)⟩
  · unfold rEmp
    split
    · exact h _ (by omega) hN
    · rfl
theorem Blk.nop {E N a z} (hp : E.prog a = .nop z) : Blk E N 0 a z id :=
  ⟨fun pos hN k h => by obtain ⟨n, hn⟩ := h pos (by omega) hN; exact ⟨_, .nop hp hn⟩, fun pos hN k k' h => h _ (by omega) hN⟩
theorem Blk.cap {E N a z m} (hp : E.prog a = .cap z m) : Blk E N 0 a z (rCap m) := by
  refine ⟨fun pos hN k h => ?_, fun pos hN k k' h => ?_⟩
  · obtain ⟨n, hn⟩ := h pos (by omega) hN
    unfold rCap
    revert hn
    cases k pos with
    | none => exact fun hn => ⟨_, .capN hp hn⟩
    | some t => exact fun hn => ⟨_, .capY hp hn⟩
  · unfold rCap
    rw [h _ (by omega) hN]
theorem M.alt {E a b c pos r r'} (hp : E.prog a = .alt b c) (h : M E b pos r) (g : r = none → M E c pos r') : M E a pos (r.or r') := by
  obtain ⟨n, hn⟩ := h
  cases r with
  | none => obtain ⟨m, hm⟩ := g rfl; exact ⟨_, .altN hp hn (by simpa using hm)⟩
  | some t => exact ⟨_, .altY hp (by simpa using hn)⟩
theorem Blk.alt {E N d a b c z f g} (hp : E.prog a = .alt b c) (h : Blk E N d b z f) (h' : Blk E N d c z g) : Blk E N d a z (rAlt f g) :=
  ⟨fun pos hN k hk => M.alt hp (h.run pos hN k hk) fun _ => h'.run pos hN k hk, fun pos hN k k' hk => by unfold rAlt; rw [h.same pos hN k k' hk, h'.same pos hN k k' hk]⟩
/-- f or nothing -/
theorem Blk.opt {E N d a b z f} (hp : E.prog a = .alt b z) (h : Blk E N d b z f) : Blk E N 0 a z (rAlt f id) := Blk.alt hp (h.weak (Nat.zero_le _)) .skip
theorem starN_fuel {E N a z f} (h : Blk E N 1 a z f) (k : K) : ∀ n m p, p ≤ N → N + 1 - p ≤ n → N + 1 - p ≤ m → starN f k n p = starN f k m p := by
  intro n
  induction n with
  | zero => intro m p h1 h2; omega
  | succ n ih =>
    intro m p h1 h2 h3
    cases m with
    | zero => omega
    | succ m =>
      simp only [starN]
      rw [h.same p h1 (starN f k n) (starN f k m) fun q h4 h5 => ih m q h5 (by omega) (by omega)]
theorem rStar_eq {E N a z f} (h : Blk E N 1 a z f) (k : K) (p : Nat) (hp : p ≤ N) : rStar N f k p = (f (rStar N f k) p).or (k p) := by
  unfold rStar
  rw [show N + 1 - p = (N - p) + 1 by omega]
  simp only [starN]
  rw [h.same p hp (starN f k (N - p)) _ fun q h1 h2 => starN_fuel h k (N - p) (N + 1 - q) q h2 (by omega) (Nat.le_refl _)]
theorem Blk.star {E N l b z f} (hp : E.prog l = .alt b z) (h : Blk E N 1 b l f) : Blk E N 0 l z (rStar N f) := by
  refine ⟨fun pos hN k hk => ?_, fun pos hN k k' hk => ?_⟩
  · have : ∀ n p, N - p = n → pos ≤ p → p ≤ N → M E l p (rStar N f k p) := by
      intro n
      induction n using Nat.strongRecOn with
      | ind n ih =>
        intro p hn h1 h2
        rw [rStar_eq h k p h2]
        refine M.alt hp (h.run p h2 _ fun q h3 h4 => ih (N - q) (by omega) q rfl (by omega) h4) fun _ => hk p (by omega) h2
    exact this _ pos rfl (Nat.le_refl _) hN
  · have : ∀ n p, N - p = n → pos ≤ p → p ≤ N → rStar N f k p = rStar N f k' p := by
      intro n
      induction n using Nat.strongRecOn with
      | ind n ih =>
        intro p hn h1 h2
        rw [rStar_eq h k p h2, rStar_eq h k' p h2, hk p (by omega) h2, h.same p h2 _ _ fun q h3 h4 => ih (N - q) (by omega) q rfl (by omega) h4]
    exact this _ pos rfl (Nat.le_refl _) hN
/-- f, once or more: b, then the loop l that goes back to b -/
theorem Blk.plus {E N l b z f} (hp : E.prog l = .alt b z) (h : Blk E N 1 b l f) : Blk E N 1 b z (fun k => f (rStar N f k)) := (h.seq (Blk.star hp h)).weak (by omega)
end Go.Proofs.YthejepmnnpmdmaaGreatDoor.Rx
end
section
/-! Programs over bytes: classes, runs, a version's block. -/
namespace Go.Proofs.YthejepmnnpmdmaaGreatDoor.Rx
abbrev Bs := List UInt8
structure Txt (E : Env) (s : Bs) : Prop where
  ok : Ok E s.length
  asc : ∀ p x, s[p]? = some x → x.toNat < 128 → E.step p = ((x.toNat : Int), 1)
  far : ∀ p x, s[p]? = some x → 128 ≤ x.toNat → 128 ≤ (E.step p).1
  bot : ∀ p, p ≤ s.length → E.flag p 4 = decide (p = 0)
  eot : ∀ p, p ≤ s.length → E.flag p 8 = decide (p = s.length)
/-- a byte of a kind -/
def bC (s : Bs) (c : UInt8 → Bool) : K → K := fun k p => match s[p]? with | some x => if c x then k (p + 1) else none | none => none
def cls (rs : List Int) (x : UInt8) : Bool := matchRune rs (x.toNat : Int)
def small (rs : List Int) : Bool := rs.all fun r => decide (0 ≤ r) && decide (r < 128)
theorem small_out : ∀ {rs : List Int}, small rs = true → ∀ r : Int, (r < 0 ∨ 128 ≤ r) → matchRune rs r = false
  | [], _, r, _ => rfl
  | [a], h, r, hr => by
    simp [small] at h
    simp only [matchRune, beq_eq_false_iff_ne]; omega
  | a :: b :: l, h, r, hr => by
    simp [small] at h
    have := small_out (rs := l) (by simp [small]; exact h.2.2) r hr
    simp only [matchRune, this, Bool.or_false, Bool.and_eq_false_iff, decide_eq_false_iff_not]; omega
theorem Blk.cong {E N d a z f g} (h : Blk E N d a z f) (e : ∀ k p, p ≤ N → f k p = g k p) : Blk E N d a z g :=
  ⟨fun pos hp k c => by rw [← e k pos hp]; exact h.run pos hp k c, fun pos hp k k' c => by rw [← e k pos hp, ← e k' pos hp]; exact h.same pos hp k k' c⟩
theorem Blk.cls {E s a z rs} (T : Txt E s) (hp : E.prog a = .rune z rs) (hs : small rs = true) : Blk E s.length 1 a z (bC s (cls rs)) := by
  refine (Blk.rune T.ok hp (small_out hs _ (.inl (by decide)))).cong fun k p hN => ?_
  unfold rRune bC
  cases h : s[p]? with
  | none =>
    rw [List.getElem?_eq_none_iff] at h
    rw [T.ok.out p h, small_out hs _ (.inl (by decide))]; rfl
  | some x =>
    by_cases hx : x.toNat < 128
    · rw [T.asc p x h hx]; rfl
    · rw [small_out hs _ (.inr (T.far p x h (by omega)))]
      have : Rx.cls rs x = false := small_out hs _ (.inr (by omega))
      simp [this]
theorem Blk.lit {E s a z} {c : UInt8} (T : Txt E s) (hp : E.prog a = .one z (c.toNat : Int)) (hc : c.toNat < 128) : Blk E s.length 1 a z (bC s (· == c)) := by
  refine (Blk.one T.ok hp (by omega)).cong fun k p hN => ?_
  unfold rOne bC
  cases h : s[p]? with
  | none =>
    rw [List.getElem?_eq_none_iff] at h
    rw [T.ok.out p h, if_neg (by omega)]
  | some x =>
    by_cases hx : x.toNat < 128
    · rw [T.asc p x h hx]
      by_cases e : x = c
      · subst e; simp
      · have : (x.toNat : Int) ≠ c.toNat := fun h => e (UInt8.toNat_inj.1 (by omega))
        simp [e, this]
    · have := T.far p x h (by omega)
      rw [if_neg (by omega)]
      have : (x == c) = false := by simp; intro e; subst e; omega
      simp [this]
/-! evaluation -/
theorem bC_yes {s c k p x l} (h : s.drop p = x :: l) (hc : c x = true) : bC s c k p = k (p + 1) := by
  have : s[p]? = some x := by rw [← List.head?_drop, h]; rfl
  simp [bC, this, hc]
theorem bC_no {s c k p} (h : ∀ x, (s.drop p).head? = some x → c x = false) : bC s c k p = none := by
  unfold bC
  rw [List.head?_drop] at h
  cases hx : s[p]? with
  | none => rfl
  | some x => simp [h x hx]
theorem drop_add {s : Bs} {p : Nat} {a l : Bs} (h : s.drop p = a ++ l) : s.drop (p + a.length) = l := by
  rw [← List.drop_drop, h, List.drop_left]
theorem drop_one {s : Bs} {p : Nat} {x : UInt8} {l : Bs} (h : s.drop p = x :: l) : s.drop (p + 1) = l := drop_add (a := [x]) h
theorem drop_le {s : Bs} {p : Nat} {x : UInt8} {l : Bs} (h : s.drop p = x :: l) : p < s.length := by
  have := congrArg List.length h
  simp at this; omega
theorem star_blk {s : Bs} {c : UInt8 → Bool} : ∀ k p, p ≤ s.length → rStar s.length (bC s c) k p = (bC s c (rStar s.length (bC s c) k) p).or (k p) := by
  intro k p hp
  have same : ∀ pos, pos ≤ s.length → ∀ k k' : K, (∀ q, pos + 1 ≤ q → q ≤ s.length → k q = k' q) → bC s c k pos = bC s c k' pos := by
    intro pos hN k k' h
    unfold bC
    cases hx : s[pos]? with
    | none => rfl
    | some x =>
      have := (List.getElem?_eq_some_iff.1 hx).1
      simp only []
      rw [h (pos + 1) (by omega) (by omega)]
  have fuel : ∀ n m p, p ≤ s.length → s.length + 1 - p ≤ n → s.length + 1 - p ≤ m → starN (bC s c) k n p = starN (bC s c) k m p := by
    intro n
    induction n with
    | zero => intro m p h1 h2; omega
    | succ n ih =>
      intro m p h1 h2 h3
      cases m with
      | zero => omega
      | succ m =>
        simp only [starN]
        rw [same p h1 (starN (bC s c) k n) (starN (bC s c) k m) fun q h4 h5 => ih m q h5 (by omega) (by omega)]
  unfold rStar
  rw [show s.length + 1 - p = (s.length - p) + 1 by omega]
  simp only [starN]
  rw [same p hp (starN (bC s c) k (s.length - p)) _ fun q h1 h2 => fuel (s.length - p) (s.length + 1 - q) q h2 (by omega) (Nat.le_refl _)]
/-- a run to its end, and on -/
theorem star_run {s : Bs} {c : UInt8 → Bool} {k : K} {t} : ∀ (r : Bs) (p : Nat) (l : Bs), s.drop p = r ++ l → p ≤ s.length → (∀ x ∈ r, c x = true) → k (p + r.length) = some t → (∀ x, l.head? = some x → c x = false) → rStar s.length (bC s c) k p = some t
  | [], p, l, h, hp, _, hk, hl => by
    rw [star_blk k p hp, bC_no (fun x hx => hl x (by rw [h] at hx; exact hx)), Option.none_or]; exact hk
  | x :: r, p, l, h, hp, hr, hk, hl => by
    rw [star_blk k p hp, bC_yes h (hr x (by simp)), star_run r (p + 1) l (drop_one h) (drop_le h) (fun y hy => hr y (by simp [hy])) (by rw [← hk]; congr 1; simp; omega) hl]
    rfl
/-- some of the ways goes through -/
theorem star_some {s : Bs} {c : UInt8 → Bool} {k : K} : ∀ (r : Bs) (p : Nat) (l : Bs), s.drop p = r ++ l → p ≤ s.length → (∀ x ∈ r, c x = true) → (k (p + r.length)).isSome → (rStar s.length (bC s c) k p).isSome
  | [], p, l, h, hp, _, hk => by
    rw [star_blk k p hp, Option.isSome_or]; simpa using Or.inr hk
  | x :: r, p, l, h, hp, hr, hk => by
    rw [star_blk k p hp, bC_yes h (hr x (by simp)), Option.isSome_or]
    have := star_some r (p + 1) l (drop_one h) (drop_le h) (fun y hy => hr y (by simp [hy])) (by rw [← hk]; congr 2; simp; omega)
    simp [this]
/-- if it goes through, so does what follows at the end of some run -/
theorem star_inv {s : Bs} {c : UInt8 → Bool} {k : K} : ∀ (n p : Nat) (t), s.length - p = n → p ≤ s.length → rStar s.length (bC s c) k p = some t → ∃ r l, s.drop p = r ++ l ∧ (∀ x ∈ r, c x = true) ∧ k (p + r.length) = some t := by
  intro n
  induction n with
  | zero =>
    intro p t hn hp h
    rw [star_blk k p hp] at h
    have : s.drop p = [] := by apply List.drop_eq_nil_of_le; omega
    rw [bC_no (by simp [this]), Option.none_or] at h
    exact ⟨[], _, rfl, by simp, h⟩
  | succ n ih =>
    intro p t hn hp h
    rw [star_blk k p hp] at h
    cases hb : bC s c (rStar s.length (bC s c) k) p with
    | none => rw [hb, Option.none_or] at h; exact ⟨[], _, rfl, by simp, h⟩
    | some t' =>
      rw [hb] at h
      injection h with h
      subst h
      unfold bC at hb
      cases hx : s[p]? with
      | none => rw [hx] at hb; cases hb
      | some x =>
        rw [hx] at hb
        have hlt := (List.getElem?_eq_some_iff.1 hx).1
        by_cases hc : c x
        · simp only [hc, if_true] at hb
          obtain ⟨r, l, h1, h2, h3⟩ := ih (p + 1) _ (by omega) (by omega) hb
          refine ⟨x :: r, l, ?_, by simpa [hc] using h2, by rw [← h3]; congr 1; simp; omega⟩
          rw [List.cons_append, ← h1, List.drop_eq_getElem_cons hlt]
          congr 1
          exact (List.getElem?_eq_some_iff.1 hx).2
        · simp [hc] at hb
/-- one of a kind at least -/
def plus (s : Bs) (c : UInt8 → Bool) : K → K := fun k => bC s c (rStar s.length (bC s c) k)
theorem plus_run {s : Bs} {c : UInt8 → Bool} {k : K} {t} {r : Bs} {p : Nat} {l : Bs} (h : s.drop p = r ++ l) (hr : ∀ x ∈ r, c x = true) (hn : r ≠ []) (hk : k (p + r.length) = some t) (hl : ∀ x, l.head? = some x → c x = false) : plus s c k p = some t := by
  cases r with
  | nil => exact absurd rfl hn
  | cons x r =>
    unfold plus
    rw [bC_yes h (hr x (by simp))]
    exact star_run r (p + 1) l (drop_one h) (drop_le h) (fun y hy => hr y (by simp [hy])) (by rw [← hk]; congr 1; simp; omega) hl
theorem plus_no {s : Bs} {c : UInt8 → Bool} {k : K} {p : Nat} (h : ∀ x, (s.drop p).head? = some x → c x = false) : plus s c k p = none := bC_no h
theorem alt_l {f g : K → K} {k : K} {p : Nat} {t} (h : f k p = some t) : rAlt f g k p = some t := by unfold rAlt; rw [h]; rfl
theorem alt_r {f g : K → K} {k : K} {p : Nat} (h : f k p = none) : rAlt f g k p = g k p := by unfold rAlt; rw [h]; rfl
theorem cap_some {a : Nat} {k : K} {p : Nat} {t} (h : k p = some t) : rCap a k p = some ((a, p) :: t) := by unfold rCap; rw [h]; rfl
theorem cap_none {a : Nat} {k : K} {p : Nat} (h : k p = none) : rCap a k p = none := by unfold rCap; rw [h]; rfl
end Go.Proofs.YthejepmnnpmdmaaGreatDoor.Rx
end
section
/-! A version's block: a letter, parts, a prerelease, metadata. -/
namespace Go.Proofs.YthejepmnnpmdmaaGreatDoor.Rx
/-- f asks for what follows at places at least d further alone -/
def Same (N d : Nat) (f : K → K) : Prop := ∀ pos, pos ≤ N → ∀ k k' : K, (∀ q, pos + d ≤ q → q ≤ N → k q = k' q) → f k pos = f k' pos
theorem Same.bC (s : Bs) (c : UInt8 → Bool) : Same s.length 1 (bC s c) := fun pos hN k k' h => by
  unfold Rx.bC
  cases hx : s[pos]? with
  | none => rfl
  | some x =>
    have := (List.getElem?_eq_some_iff.1 hx).1
    simp only []
    rw [h (pos + 1) (by omega) (by omega)]
theorem Same.cap (N a : Nat) : Same N 0 (rCap a) := fun pos hN k k' h => by unfold rCap; rw [h pos (by omega) hN]
theorem Same.comp {N d d' f g} (h : Same N d f) (h' : Same N d' g) : Same N (d + d') (fun k => f (g k)) := fun pos hN k k' c =>
  h pos hN _ _ fun q h1 h2 => h' q h2 k k' fun r h3 h4 => c r (by omega) h4
theorem Same.weak {N d d' f} (h : Same N d f) (hd : d' ≤ d) : Same N d' f := fun pos hp k k' g => h pos hp k k' fun q h1 h2 => g q (by omega) h2
theorem starS_fuel {N f} (h : Same N 1 f) (k : K) : ∀ n m p, p ≤ N → N + 1 - p ≤ n → N + 1 - p ≤ m → starN f k n p = starN f k m p := by
  intro n
  induction n with
  | zero => intro m p h1 h2; omega
  | succ n ih =>
    intro m p h1 h2 h3
    cases m with
    | zero => omega
    | succ m =>
      simp only [starN]
      rw [h p h1 (starN f k n) (starN f k m) fun q h4 h5 => ih m q h5 (by omega) (by omega)]
theorem starS_eq {N f} (h : Same N 1 f) (k : K) (p : Nat) (hp : p ≤ N) : rStar N f k p = (f (rStar N f k) p).or (k p) := by
  unfold rStar
  rw [show N + 1 - p = (N - p) + 1 by omega]
  simp only [starN]
  rw [h p hp (starN f k (N - p)) _ fun q h1 h2 => starS_fuel h k (N - p) (N + 1 - q) q h2 (by omega) (Nat.le_refl _)]
theorem Same.star {N f} (h : Same N 1 f) : Same N 0 (rStar N f) := by
  intro pos hN k k' hk
  have : ∀ n p, N - p = n → pos ≤ p → p ≤ N → rStar N f k p = rStar N f k' p := by
    intro n
    induction n using Nat.strongRecOn with
    | ind n ih =>
      intro p hn h1 h2
      rw [starS_eq h k p h2, starS_eq h k' p h2, hk p (by omega) h2, h p h2 _ _ fun q h3 h4 => ih (N - q) (by omega) q rfl (by omega) h4]
  exact this _ pos rfl (Nat.le_refl _) hN
theorem Same.plus (s : Bs) (c : UInt8 → Bool) : Same s.length 1 (plus s c) := ((Same.bC s c).comp (Same.star (Same.bC s c))).weak (by omega)
/-! the block -/
def dot : UInt8 := 46
def part (s : Bs) (c : UInt8 → Bool) (b : Nat) : K → K := fun k => rCap b (bC s (· == 46) (plus s c (rCap (b + 1) k)))
def more (s : Bs) (ci : UInt8 → Bool) (b : Nat) : K → K := fun k => rCap b (bC s (· == 46) (plus s ci (rCap (b + 1) k)))
def grp (s : Bs) (ci : UInt8 → Bool) (lead : UInt8) (b : Nat) : K → K := fun k =>
  rCap b (bC s (· == lead) (rCap (b + 2) (plus s ci (rStar s.length (more s ci (b + 4)) (rCap (b + 3) (rCap (b + 1) k))))))
def V (s : Bs) (c ci : UInt8 → Bool) (b : Nat) : K → K := fun k =>
  rAlt (bC s (· == 118)) id (rCap b (plus s c (rCap (b + 1) (rAlt (part s c (b + 2)) id (rAlt (part s c (b + 4)) id (rAlt (grp s ci 45 (b + 6)) id (rAlt (grp s ci 43 (b + 12)) id k)))))))
/-- the block's instructions, from o + 2 on -/
def vtab (o b : Nat) (rv ri : List Int) : List I := [
  .one (o + 4) 118, .alt (o + 2) (o + 4), .cap (o + 5) b, .rune (o + 6) rv, .alt (o + 5) (o + 7), .cap (o + 13) (b + 1),
  .cap (o + 9) (b + 2), .one (o + 10) 46, .rune (o + 11) rv, .alt (o + 10) (o + 12), .cap (o + 19) (b + 3), .alt (o + 8) (o + 19),
  .cap (o + 15) (b + 4), .one (o + 16) 46, .rune (o + 17) rv, .alt (o + 16) (o + 18), .cap (o + 33) (b + 5), .alt (o + 14) (o + 33),
  .cap (o + 21) (b + 6), .one (o + 22) 45, .cap (o + 23) (b + 8), .rune (o + 24) ri, .alt (o + 23) (o + 30),
  .cap (o + 26) (b + 10), .one (o + 27) 46, .rune (o + 28) ri, .alt (o + 27) (o + 29), .cap (o + 30) (b + 11), .alt (o + 25) (o + 31), .cap (o + 32) (b + 9), .cap (o + 47) (b + 7), .alt (o + 20) (o + 47),
  .cap (o + 35) (b + 12), .one (o + 36) 43, .cap (o + 37) (b + 14), .rune (o + 38) ri, .alt (o + 37) (o + 44),
  .cap (o + 40) (b + 16), .one (o + 41) 46, .rune (o + 42) ri, .alt (o + 41) (o + 43), .cap (o + 44) (b + 17), .alt (o + 39) (o + 45), .cap (o + 46) (b + 15), .cap (o + 48) (b + 13), .alt (o + 34) (o + 48)]
def IsTab (P : Nat → I) (o : Nat) (tab : List I) : Prop := ∀ i x, tab[i]? = some x → P (o + i) = x
theorem Blk.plusC {E s a l z rs} (T : Txt E s) (hp : E.prog a = .rune l rs) (hl : E.prog l = .alt a z) (hs : small rs = true) : Blk E s.length 1 a z (Rx.plus s (Rx.cls rs)) := Blk.plus hl (Blk.cls T hp hs)
theorem Blk.part {E s b rv a1 a2 a3 a4 a5 z} (T : Txt E s) (hs : small rv = true) (h1 : E.prog a1 = .cap a2 b) (h2 : E.prog a2 = .one a3 46) (h3 : E.prog a3 = .rune a4 rv) (h4 : E.prog a4 = .alt a3 a5) (h5 : E.prog a5 = .cap z (b + 1)) : Blk E s.length 1 a1 z (part s (Rx.cls rv) b) :=
  ((Blk.cap h1).seq ((Blk.lit (c := 46) T h2 (by decide)).seq ((Blk.plusC T h3 h4 hs).seq (Blk.cap h5)))).weak (by omega)
theorem Blk.grp {E s b ri a1 a2 a3 a4 a5 m1 m2 m3 m4 m5 l e1 e2 z} {lead : UInt8} (T : Txt E s) (hs : small ri = true) (hlead : lead.toNat < 128) (h1 : E.prog a1 = .cap a2 b) (h2 : E.prog a2 = .one a3 (lead.toNat : Int)) (h3 : E.prog a3 = .cap a4 (b + 2)) (h4 : E.prog a4 = .rune a5 ri) (h5 : E.prog a5 = .alt a4 l)
    (g1 : E.prog m1 = .cap m2 (b + 4)) (g2 : E.prog m2 = .one m3 46) (g3 : E.prog m3 = .rune m4 ri) (g4 : E.prog m4 = .alt m3 m5) (g5 : E.prog m5 = .cap l (b + 5)) (hl : E.prog l = .alt m1 e1) (k1 : E.prog e1 = .cap e2 (b + 3)) (k2 : E.prog e2 = .cap z (b + 1)) : Blk E s.length 1 a1 z (grp s (Rx.cls ri) lead b) :=
  ((Blk.cap h1).seq ((Blk.lit (c := lead) T h2 hlead).seq ((Blk.cap h3).seq ((Blk.plusC T h4 h5 hs).seq ((Blk.star hl (Blk.part (b := b + 4) T hs g1 g2 g3 g4 g5)).seq ((Blk.cap k1).seq (Blk.cap k2))))))).weak (by omega)
theorem Blk.V {E s o b rv ri} (T : Txt E s) (hv : small rv = true) (hi : small ri = true) (h : IsTab E.prog (o + 2) (vtab o b rv ri)) : Blk E s.length 1 (o + 3) (o + 48) (V s (Rx.cls rv) (Rx.cls ri) b) :=
  ((Blk.opt (h 1 _ rfl) (Blk.lit (c := 118) T (h 0 _ rfl) (by decide))).seq ((Blk.cap (h 2 _ rfl)).seq ((Blk.plusC T (h 3 _ rfl) (h 4 _ rfl) hv).seq ((Blk.cap (h 5 _ rfl)).seq
    ((Blk.opt (h 11 _ rfl) (Blk.part T hv (h 6 _ rfl) (h 7 _ rfl) (h 8 _ rfl) (h 9 _ rfl) (h 10 _ rfl))).seq
    ((Blk.opt (h 17 _ rfl) (Blk.part T hv (h 12 _ rfl) (h 13 _ rfl) (h 14 _ rfl) (h 15 _ rfl) (h 16 _ rfl))).seq
    ((Blk.opt (h 31 _ rfl) (Blk.grp (lead := 45) T hi (by decide) (h 18 _ rfl) (h 19 _ rfl) (h 20 _ rfl) (h 21 _ rfl) (h 22 _ rfl) (h 23 _ rfl) (h 24 _ rfl) (h 25 _ rfl) (h 26 _ rfl) (h 27 _ rfl) (h 28 _ rfl) (h 29 _ rfl) (h 30 _ rfl))).seq
    (Blk.opt (h 45 _ rfl) (Blk.grp (lead := 43) T hi (by decide) (h 32 _ rfl) (h 33 _ rfl) (h 34 _ rfl) (h 35 _ rfl) (h 36 _ rfl) (h 37 _ rfl) (h 38 _ rfl) (h 39 _ rfl) (h 40 _ rfl) (h 41 _ rfl) (h 42 _ rfl) (h 43 _ rfl) (h 44 _ rfl)))))))))).weak (by omega)
/-! its text -/
structure Ver where
  v : Bool
  p1 : Bs
  p2 : Option Bs
  p3 : Option Bs
  pre : Option (Bs × List Bs)
  meta_ : Option (Bs × List Bs)
def ptext : Option Bs → Bs
  | none => []
  | some x => 46 :: x
def dots (l : List Bs) : Bs := l.flatMap (46 :: ·)
def gtext (lead : UInt8) : Option (Bs × List Bs) → Bs
  | none => []
  | some (x, l) => lead :: (x ++ dots l)
def Ver.text (x : Ver) : Bs := (if x.v then [118] else []) ++ (x.p1 ++ (ptext x.p2 ++ (ptext x.p3 ++ (gtext 45 x.pre ++ gtext 43 x.meta_))))
def okPart (c : UInt8 → Bool) (x : Bs) : Prop := x ≠ [] ∧ ∀ y ∈ x, c y = true
def okGrp (ci : UInt8 → Bool) : Option (Bs × List Bs) → Prop
  | none => True
  | some (x, l) => okPart ci x ∧ ∀ y ∈ l, okPart ci y
structure Ver.Ok (c ci : UInt8 → Bool) (x : Ver) : Prop where
  p1 : okPart c x.p1
  p2 : ∀ y, x.p2 = some y → okPart c y
  p3 : ∀ y, x.p3 = some y → okPart c y ∧ x.p2 ≠ none
  pre : okGrp ci x.pre
  meta_ : okGrp ci x.meta_
/-- bytes that may stand behind -/
structure Kinds (c ci : UInt8 → Bool) : Prop where
  c1 : c 46 = false
  c2 : c 45 = false
  c3 : c 43 = false
  c4 : c 118 = false
  i1 : ci 46 = false
  i3 : ci 43 = false
def stop (c ci : UInt8 → Bool) (x : UInt8) : Prop := c x = false ∧ ci x = false ∧ x ≠ 46 ∧ x ≠ 45 ∧ x ≠ 43
def Stops (c ci : UInt8 → Bool) (l : Bs) : Prop := ∀ x, l.head? = some x → stop c ci x
/-! what is captured -/
def pcaps (b p : Nat) : Option Bs → List (Nat × Nat)
  | none => []
  | some r => [(b, p), (b + 1, p + 1 + r.length)]
def icaps (b : Nat) : Nat → List Bs → List (Nat × Nat)
  | _, [] => []
  | p, r :: l => (b, p) :: (b + 1, p + 1 + r.length) :: icaps b (p + 1 + r.length) l
def gcaps (b p : Nat) : Option (Bs × List Bs) → List (Nat × Nat)
  | none => []
  | some (x, l) => (b, p) :: (b + 2, p + 1) :: (icaps (b + 4) (p + 1 + x.length) l ++ [(b + 3, p + 1 + (x ++ dots l).length), (b + 1, p + 1 + (x ++ dots l).length)])
def Ver.caps (x : Ver) (b p : Nat) : List (Nat × Nat) :=
  let p0 := p + (if x.v then 1 else 0)
  let p1 := p0 + x.p1.length
  let p2 := p1 + (ptext x.p2).length
  let p3 := p2 + (ptext x.p3).length
  let p4 := p3 + (gtext 45 x.pre).length
  (b, p0) :: (b + 1, p1) :: (pcaps (b + 2) p1 x.p2 ++ (pcaps (b + 4) p2 x.p3 ++ (gcaps (b + 6) p3 x.pre ++ gcaps (b + 12) p4 x.meta_)))
theorem part_yes {s c b k p t r l} (h : s.drop p = 46 :: (r ++ l)) (hr : okPart c r) (hl : ∀ x, l.head? = some x → c x = false) (hk : k (p + 1 + r.length) = some t) : part s c b k p = some ((b, p) :: (b + 1, p + 1 + r.length) :: t) := by
  unfold part
  refine cap_some ?_
  rw [bC_yes h (by rfl)]
  exact plus_run (drop_one h) hr.2 hr.1 (cap_some hk) hl
theorem part_no {s c b k p} (h : ∀ x, (s.drop p).head? = some x → x ≠ 46) : part s c b k p = none := cap_none (bC_no fun x hx => by simpa using h x hx)
theorem opt_part {s c b k p t x l} (h : s.drop p = ptext x ++ l) (hx : ∀ y, x = some y → okPart c y) (hl : ∀ y, l.head? = some y → c y = false) (h0 : x = none → ∀ y, l.head? = some y → y ≠ 46) (hk : k (p + (ptext x).length) = some t) : rAlt (part s c b) id k p = some (pcaps b p x ++ t) := by
  cases x with
  | none =>
    rw [alt_r (part_no fun y hy => h0 rfl y (by rw [h] at hy; exact hy))]
    simpa [ptext, pcaps] using hk
  | some r =>
    refine (alt_l (part_yes (b := b) h (hx r rfl) hl (t := t) ?_)).trans (by simp [pcaps])
    rw [← hk]; congr 1; simp [ptext]; omega
theorem Same.more (s : Bs) (ci : UInt8 → Bool) (b : Nat) : Same s.length 1 (more s ci b) :=
  ((Same.cap _ b).comp ((Same.bC s _).comp ((Same.plus s ci).comp (Same.cap _ (b + 1))))).weak (by omega)
theorem stars {s ci b k t} : ∀ (rs : List Bs) (p : Nat) (l : Bs), s.drop p = dots rs ++ l → p ≤ s.length → ci 46 = false → (∀ r ∈ rs, okPart ci r) → (∀ x, l.head? = some x → ci x = false ∧ x ≠ 46) → k (p + (dots rs).length) = some t → rStar s.length (more s ci b) k p = some (icaps b p rs ++ t)
  | [], p, l, h, hp, _, _, hl, hk => by
    rw [starS_eq (Same.more s ci b) k p hp]
    have : more s ci b (rStar s.length (more s ci b) k) p = none := cap_none (bC_no fun x hx => by rw [h] at hx; simpa using (hl x hx).2)
    rw [this, Option.none_or]
    simpa [icaps, dots] using hk
  | r :: rs, p, l, h, hp, h46, hr, hl, hk => by
    rw [starS_eq (Same.more s ci b) k p hp]
    have h' : s.drop p = 46 :: (r ++ (dots rs ++ l)) := by rw [h]; simp [dots]
    have hh : s.drop (p + 1 + r.length) = dots rs ++ l := drop_add (drop_one h')
    have ih := stars (b := b) rs (p + 1 + r.length) l hh (by have := drop_le h'; have := congrArg List.length h'; simp at this; omega) h46 (fun x hx => hr x (by simp [hx])) hl (by rw [← hk]; congr 1; simp [dots]; omega)
    have := part_yes (b := b) h' (hr r (by simp)) (fun x hx => by
      cases rs with
      | nil => exact (hl x (by simpa [dots] using hx)).1
      | cons y ys => simp [dots] at hx; rw [← hx]; exact h46) ih
    have e : more s ci b (rStar s.length (more s ci b) k) p = part s ci b (rStar s.length (more s ci b) k) p := rfl
    rw [e, this]
    rfl
theorem opt_grp {s ci lead b k p t x l} (h : s.drop p = gtext lead x ++ l) (hx : okGrp ci x) (h46 : ci 46 = false) (hl : ∀ y, l.head? = some y → ci y = false ∧ y ≠ 46) (h0 : x = none → ∀ y, l.head? = some y → y ≠ lead) (hk : k (p + (gtext lead x).length) = some t) (hp : p ≤ s.length) : rAlt (grp s ci lead b) id k p = some (gcaps b p x ++ t) := by
  cases x with
  | none =>
    have hn : grp s ci lead b k p = none := cap_none (bC_no fun y hy => by simpa using h0 rfl y (by rw [h] at hy; exact hy))
    rw [alt_r hn]
    simpa [gtext, gcaps] using hk
  | some y =>
    obtain ⟨x, rs⟩ := y
    have h' : s.drop p = lead :: (x ++ (dots rs ++ l)) := by rw [h]; simp [gtext]
    have hh : s.drop (p + 1 + x.length) = dots rs ++ l := drop_add (drop_one h')
    have hlen := congrArg List.length h'
    simp at hlen
    have e1 : p + 1 + x.length + (dots rs).length = p + 1 + (x ++ dots rs).length := by simp; omega
    have hk' : k (p + 1 + (x ++ dots rs).length) = some t := by rw [← hk]; congr 1; simp [gtext]; omega
    have ih := stars (b := b + 4) (k := rCap (b + 3) (rCap (b + 1) k)) rs (p + 1 + x.length) l hh (by omega) h46 hx.2 hl (cap_some (cap_some (by rw [e1]; exact hk')))
    refine (alt_l (t := gcaps b p (some (x, rs)) ++ t) ?_)
    unfold grp
    refine (cap_some (t := (b + 2, p + 1) :: (icaps (b + 4) (p + 1 + x.length) rs ++ ((b + 3, p + 1 + x.length + (dots rs).length) :: (b + 1, p + 1 + x.length + (dots rs).length) :: t))) ?_).trans ?_
    · rw [bC_yes h' (by simp)]
      refine cap_some ?_
      exact plus_run (drop_one h') hx.1.2 hx.1.1 ih (fun y hy => by
        cases rs with
        | nil => exact (hl y (by simpa [dots] using hy)).1
        | cons z zs => simp [dots] at hy; rw [← hy]; exact h46)
    · simp [gcaps, e1]
theorem head_app {a b : Bs} {x : UInt8} (h : (a ++ b).head? = some x) : (a.head? = some x) ∨ (a = [] ∧ b.head? = some x) := by
  cases a with
  | nil => exact .inr ⟨rfl, h⟩
  | cons y a => exact .inl h
theorem head_ptext {x : Option Bs} {y} (h : (ptext x).head? = some y) : y = 46 := by cases x <;> simp [ptext] at h; exact h.symm
theorem head_gtext {lead} {x : Option (Bs × List Bs)} {y} (h : (gtext lead x).head? = some y) : y = lead := by rcases x with _ | ⟨_, _⟩ <;> simp [gtext] at h; exact h.symm
theorem ptext_nil {x : Option Bs} (h : ptext x = []) : x = none := by cases x <;> simp [ptext] at h ⊢
/-- the block reads a version's text whole -/
theorem V_eval {s : Bs} {c ci : UInt8 → Bool} {b : Nat} {k : K} {p t} {x : Ver} {l : Bs} (kk : Kinds c ci) (hx : x.Ok c ci) (h : s.drop p = x.text ++ l) (hl : Stops c ci l) (hk : k (p + x.text.length) = some t) : V s c ci b k p = some (x.caps b p ++ t) := by
  have hp : p ≤ s.length := by
    have := congrArg List.length h
    have h1 := hx.p1.1
    cases hc : x.p1 with
    | nil => exact absurd hc h1
    | cons _ _ => simp [Ver.text, hc] at this; omega
  obtain ⟨v, r1, r2, r3, pre, me⟩ := x
  simp only [Ver.text, List.append_assoc] at h
  let p0 := p + (if v then 1 else 0)
  have h0 : s.drop p0 = r1 ++ (ptext r2 ++ (ptext r3 ++ (gtext 45 pre ++ (gtext 43 me ++ l)))) := by
    cases v with
    | false => simpa [p0] using h
    | true => exact drop_one (by simpa using h)
  have h1 := drop_add h0
  have h2 := drop_add h1
  have h3 := drop_add h2
  have h4 := drop_add h3
  have L : ∀ q l', s.drop q = l' → q ≤ s.length ∨ l' = [] := fun q l' e => by
    by_cases c : q ≤ s.length
    · exact .inl c
    · exact .inr (by rw [← e]; exact List.drop_eq_nil_of_le (by omega))
  have len := congrArg List.length h0
  simp only [List.length_drop, List.length_append] at len
  have hp0 : p0 ≤ s.length := by
    rcases L _ _ h0 with h | h
    · exact h
    · have := hx.p1.1; simp at h; exact absurd h.1 this
  -- what may stand at the head of each rest
  have n4 : ∀ y, l.head? = some y → stop c ci y := hl
  have n3 : ∀ y, (gtext 43 me ++ l).head? = some y → c y = false ∧ ci y = false ∧ y ≠ 46 ∧ y ≠ 45 := fun y hy => by
    rcases head_app hy with h | ⟨_, h⟩
    · rw [head_gtext h]; exact ⟨kk.c3, kk.i3, by decide, by decide⟩
    · have := n4 y h; exact ⟨this.1, this.2.1, this.2.2.1, this.2.2.2.1⟩
  have n2 : ∀ y, (gtext 45 pre ++ (gtext 43 me ++ l)).head? = some y → c y = false ∧ y ≠ 46 := fun y hy => by
    rcases head_app hy with h | ⟨_, h⟩
    · rw [head_gtext h]; exact ⟨kk.c2, by decide⟩
    · have := n3 y h; exact ⟨this.1, this.2.2.1⟩
  have n1 : ∀ y, (ptext r3 ++ (gtext 45 pre ++ (gtext 43 me ++ l))).head? = some y → c y = false := fun y hy => by
    rcases head_app hy with h | ⟨_, h⟩
    · rw [head_ptext h]; exact kk.c1
    · exact (n2 y h).1
  have n0 : ∀ y, (ptext r2 ++ (ptext r3 ++ (gtext 45 pre ++ (gtext 43 me ++ l)))).head? = some y → c y = false := fun y hy => by
    rcases head_app hy with h | ⟨_, h⟩
    · rw [head_ptext h]; exact kk.c1
    · exact n1 y h
  -- from the end
  have e5 := opt_grp (b := b + 12) (lead := 43) (k := k) h4 hx.meta_ kk.i1 (fun y hy => ⟨(n4 y hy).2.1, (n4 y hy).2.2.1⟩) (fun _ y hy => (n4 y hy).2.2.2.2) (t := t) (by
    rw [← hk]; congr 1
    cases v <;> simp [Ver.text, p0] <;> omega) (by omega)
  have e4 := opt_grp (b := b + 6) (lead := 45) h3 hx.pre kk.i1 (fun y hy => ⟨(n3 y hy).2.1, (n3 y hy).2.2.1⟩) (fun _ y hy => (n3 y hy).2.2.2) e5 (by omega)
  have e3 := opt_part (c := c) (b := b + 4) h2 (fun y hy => (hx.p3 y hy).1) (fun y hy => (n2 y hy).1) (fun _ y hy => (n2 y hy).2) e4
  have e2 := opt_part (c := c) (b := b + 2) h1 (fun y hy => hx.p2 y hy) n1 (fun hn y hy => by
    have h3n : r3 = none := by
      cases r3 with
      | none => rfl
      | some z => exact absurd hn (hx.p3 z rfl).2
    subst h3n
    exact (n2 y (by simpa [ptext] using hy)).2) e3
  have e1 := plus_run (c := c) h0 hx.p1.2 hx.p1.1 (cap_some (a := b + 1) e2) n0
  have e0 := cap_some (a := b) e1
  unfold V
  cases v with
  | true =>
    refine (alt_l (t := _) ?_).trans rfl
    rw [bC_yes (by simpa using h) (by rfl)]
    simpa [Ver.caps, p0] using e0
  | false =>
    rw [alt_r (bC_no fun y hy => by
      have : r1.head? = some y := by
        rw [show s.drop p = s.drop p0 from rfl, h0] at hy
        rcases head_app hy with h | ⟨h, _⟩
        · exact h
        · exact absurd h hx.p1.1
      have := hx.p1.2 y (List.mem_of_mem_head? this)
      simp only [beq_eq_false_iff_ne, ne_eq]
      intro e
      rw [e, kk.c4] at this
      cases this)]
    simpa [Ver.caps, p0] using e0
end Go.Proofs.YthejepmnnpmdmaaGreatDoor.Rx
end
section
/-! Operators, blanks, a term. -/
namespace Go.Proofs.YthejepmnnpmdmaaGreatDoor.Rx
def wsR : List Int := [9, 10, 12, 13, 32, 32]
def partR : List Int := [42, 42, 48, 57, 88, 88, 120, 120, 124, 124]
def digR : List Int := [48, 57]
def idR : List Int := [45, 45, 48, 57, 65, 90, 97, 122]
def ltgtR : List Int := [60, 60, 62, 62]
/-- the operators' instructions, from o on to z: o .. o + 26 -/
def otab (o z : Nat) : List I := [
  .one z 61, .nop z, .alt o (o + 1),
  .one (o + 4) 33, .one z 61, .alt (o + 2) (o + 3),
  .rune z ltgtR, .alt (o + 5) (o + 6),
  .one (o + 9) 62, .one z 61, .alt (o + 7) (o + 8),
  .one (o + 12) 61, .one z 62, .alt (o + 10) (o + 11),
  .one (o + 15) 60, .one z 61, .alt (o + 13) (o + 14),
  .one (o + 18) 61, .one z 60, .alt (o + 16) (o + 17),
  .one (o + 23) 126, .nop z, .one z 62, .alt (o + 21) (o + 22), .alt (o + 19) (o + 20), .one z 94, .alt (o + 24) (o + 25)]
def two (s : Bs) (x y : UInt8) : K → K := fun k => bC s (· == x) (bC s (· == y) k)
def OP (s : Bs) : K → K :=
  rAlt (rAlt (rAlt (rAlt (rAlt (rAlt (rAlt (rAlt (rAlt (bC s (· == 61)) id) (two s 33 61)) (bC s (cls ltgtR))) (two s 62 61)) (two s 61 62)) (two s 60 61)) (two s 61 60)) (fun k => bC s (· == 126) (rAlt id (bC s (· == 62)) k))) (bC s (· == 94))
theorem Blk.two {E s a m z} {x y : UInt8} (T : Txt E s) (h1 : E.prog a = .one m (x.toNat : Int)) (h2 : E.prog m = .one z (y.toNat : Int)) (hx : x.toNat < 128) (hy : y.toNat < 128) : Blk E s.length 0 a z (two s x y) :=
  ((Blk.lit T h1 hx).seq (Blk.lit T h2 hy)).weak (Nat.zero_le _)
theorem Blk.OP {E s o z} (T : Txt E s) (h : IsTab E.prog o (otab o z)) : Blk E s.length 0 (o + 26) z (OP s) :=
  Blk.alt (h 26 _ rfl) (Blk.alt (h 24 _ rfl) (Blk.alt (h 19 _ rfl) (Blk.alt (h 16 _ rfl) (Blk.alt (h 13 _ rfl) (Blk.alt (h 10 _ rfl) (Blk.alt (h 7 _ rfl) (Blk.alt (h 5 _ rfl) (Blk.alt (h 2 _ rfl) ((Blk.lit (c := 61) T (h 0 _ rfl) (by decide)).weak (Nat.zero_le _)) (Blk.nop (h 1 _ rfl)))
    (Blk.two (x := 33) (y := 61) T (h 3 _ rfl) (h 4 _ rfl) (by decide) (by decide))) ((Blk.cls T (h 6 _ rfl) (by decide)).weak (Nat.zero_le _)))
    (Blk.two (x := 62) (y := 61) T (h 8 _ rfl) (h 9 _ rfl) (by decide) (by decide))) (Blk.two (x := 61) (y := 62) T (h 11 _ rfl) (h 12 _ rfl) (by decide) (by decide)))
    (Blk.two (x := 60) (y := 61) T (h 14 _ rfl) (h 15 _ rfl) (by decide) (by decide))) (Blk.two (x := 61) (y := 60) T (h 17 _ rfl) (h 18 _ rfl) (by decide) (by decide)))
    (((Blk.lit (c := 126) T (h 20 _ rfl) (by decide)).seq (Blk.alt (h 23 _ rfl) (Blk.nop (h 21 _ rfl)) ((Blk.lit (c := 62) T (h 22 _ rfl) (by decide)).weak (Nat.zero_le _)))).weak (Nat.zero_le _)))
    ((Blk.lit (c := 94) T (h 25 _ rfl) (by decide)).weak (Nat.zero_le _))
/-- the operators -/
def opTexts : List Bs := [[], [61], [33, 61], [62], [60], [62, 61], [61, 62], [60, 61], [61, 60], [126], [126, 62], [94]]
def opByte (x : UInt8) : Bool := x == 61 || x == 33 || x == 62 || x == 60 || x == 126 || x == 94
theorem OP_eval {s : Bs} {k : K} {p : Nat} {t} {op l : Bs} (ho : op ∈ opTexts) (h : s.drop p = op ++ l) (hl : ∀ x, l.head? = some x → opByte x = false)
    (hk : k (p + op.length) = some t) (hn : ∀ q x, (s.drop q).head? = some x → opByte x = true → k q = none) : OP s k p = some t := by
  have b2 : ∀ (q : Nat) (x y : UInt8) (l' : Bs), s.drop q = x :: y :: l' → bC s (· == x) (bC s (· == y) k) q = k (q + 2) := fun q x y l' e => by
    rw [bC_yes e (by simp), bC_yes (drop_one e) (by simp)]
  -- what a byte of the text's own head gives
  have e : ∀ (c : UInt8 → Bool) (q : Nat) (x : UInt8) (l' : Bs) (k' : K), s.drop q = x :: l' → bC s c k' q = if c x then k' (q + 1) else none := fun c q x l' k' e => by
    by_cases hc : c x = true
    · rw [bC_yes e hc, if_pos hc]
    · rw [bC_no fun y hy => by rw [e] at hy; simp at hy; subst hy; simpa using hc, if_neg hc]
  have e0 : ∀ (c : UInt8 → Bool) (q : Nat) (k' : K), s.drop q = [] → bC s c k' q = none := fun c q k' e => bC_no fun y hy => by rw [e] at hy; cases hy
  have hl1 : ∀ (c : UInt8 → Bool) (q : Nat) (k' : K), s.drop q = l → (∀ x, c x = true → opByte x = true) → bC s c k' q = none := fun c q k' e hc => bC_no fun y hy => by
    rw [e] at hy
    have := hl y hy
    cases hcy : c y with
    | false => rfl
    | true => rw [hc y hcy] at this; cases this
  have o1 : ∀ x : UInt8, (x == 61) = true → opByte x = true := by simp [opByte]
  have o2 : ∀ x : UInt8, (x == 33) = true → opByte x = true := by simp [opByte]
  have o3 : ∀ x : UInt8, (x == 62) = true → opByte x = true := by simp [opByte]
  have o4 : ∀ x : UInt8, (x == 60) = true → opByte x = true := by simp [opByte]
  have o5 : ∀ x : UInt8, (x == 126) = true → opByte x = true := by simp [opByte]
  have o6 : ∀ x : UInt8, (x == 94) = true → opByte x = true := by simp [opByte]
  have o7 : ∀ x : UInt8, cls ltgtR x = true → opByte x = true := by
    intro x
    have : ∀ n : Fin 256, cls ltgtR (UInt8.ofNat n) = true → opByte (UInt8.ofNat n) = true := by decide +kernel
    have h := this ⟨x.toNat, x.toNat_lt⟩
    simpa using h
  simp only [opTexts, List.mem_cons, List.not_mem_nil, or_false] at ho
  have kn : ∀ q x l', s.drop q = x :: l' → opByte x = true → k q = none := fun q x l' e hx => hn q x (by rw [e]; rfl) hx
  rcases ho with rfl | rfl | rfl | rfl | rfl | rfl | rfl | rfl | rfl | rfl | rfl | rfl
  · -- none
    have h' : s.drop p = l := h
    have hk' : k p = some t := hk
    simp only [OP, rAlt, two, id, hl1 _ p _ h' o1, Option.none_or, hk', Option.some_or]
  · -- =
    have hk' : k (p + 1) = some t := hk
    simp only [OP, rAlt, e _ p 61 l _ h, beq_self_eq_true, if_true, hk', Option.some_or]
  · -- !=
    have hk' : k (p + 1 + 1) = some t := hk
    have h2 := drop_one (x := 33) (l := 61 :: l) h
    simp only [OP, rAlt, two, id, e _ p 33 _ _ h, e _ (p + 1) 61 _ _ h2, beq_self_eq_true, if_true, hk', Option.some_or, Option.none_or, kn p 33 _ h (by decide), show ((33 : UInt8) == 61) = false by decide, if_false, Bool.false_eq_true]
  · -- >
    have hk' : k (p + 1) = some t := hk
    simp only [OP, rAlt, two, id, e _ p 62 _ _ h, hk', Option.some_or, Option.none_or, kn p 62 _ h (by decide), show ((62 : UInt8) == 61) = false by decide, show ((62 : UInt8) == 33) = false by decide, show cls ltgtR 62 = true by decide, if_true, if_false, Bool.false_eq_true]
  · -- <
    have hk' : k (p + 1) = some t := hk
    simp only [OP, rAlt, two, id, e _ p 60 _ _ h, hk', Option.some_or, Option.none_or, kn p 60 _ h (by decide), show ((60 : UInt8) == 61) = false by decide, show ((60 : UInt8) == 33) = false by decide, show cls ltgtR 60 = true by decide, if_true, if_false, Bool.false_eq_true]
  · -- >=
    have hk' : k (p + 1 + 1) = some t := hk
    have h2 := drop_one (x := 62) (l := 61 :: l) h
    simp only [OP, rAlt, two, id, e _ p 62 _ _ h, e _ (p + 1) 61 _ _ h2, hk', Option.some_or, Option.none_or, kn p 62 _ h (by decide), kn (p + 1) 61 _ h2 (by decide), beq_self_eq_true, show ((62 : UInt8) == 61) = false by decide, show ((62 : UInt8) == 33) = false by decide, show cls ltgtR 62 = true by decide, if_true, if_false, Bool.false_eq_true]
  · -- =>
    have hk' : k (p + 1 + 1) = some t := hk
    have h2 := drop_one (x := 61) (l := 62 :: l) h
    simp only [OP, rAlt, two, id, e _ p 61 _ _ h, e _ (p + 1) 62 _ _ h2, hk', Option.some_or, Option.none_or, kn p 61 _ h (by decide), kn (p + 1) 62 _ h2 (by decide), beq_self_eq_true, show ((61 : UInt8) == 33) = false by decide, show ((61 : UInt8) == 62) = false by decide, show cls ltgtR 61 = false by decide, if_true, if_false, Bool.false_eq_true]
  · -- <=
    have hk' : k (p + 1 + 1) = some t := hk
    have h2 := drop_one (x := 60) (l := 61 :: l) h
    simp only [OP, rAlt, two, id, e _ p 60 _ _ h, e _ (p + 1) 61 _ _ h2, hk', Option.some_or, Option.none_or, kn p 60 _ h (by decide), kn (p + 1) 61 _ h2 (by decide), beq_self_eq_true, show ((60 : UInt8) == 61) = false by decide, show ((60 : UInt8) == 33) = false by decide, show ((60 : UInt8) == 62) = false by decide, show cls ltgtR 60 = true by decide, if_true, if_false, Bool.false_eq_true]
  · -- =<
    have hk' : k (p + 1 + 1) = some t := hk
    have h2 := drop_one (x := 61) (l := 60 :: l) h
    simp only [OP, rAlt, two, id, e _ p 61 _ _ h, e _ (p + 1) 60 _ _ h2, hk', Option.some_or, Option.none_or, kn p 61 _ h (by decide), kn (p + 1) 60 _ h2 (by decide), beq_self_eq_true, show ((61 : UInt8) == 33) = false by decide, show ((61 : UInt8) == 62) = false by decide, show ((61 : UInt8) == 60) = false by decide, show ((60 : UInt8) == 62) = false by decide, show cls ltgtR 61 = false by decide, if_true, if_false, Bool.false_eq_true]
  · -- ~
    have hk' : k (p + 1) = some t := hk
    simp only [OP, rAlt, two, id, e _ p 126 _ _ h, hk', Option.some_or, Option.none_or, kn p 126 _ h (by decide), beq_self_eq_true, show ((126 : UInt8) == 61) = false by decide, show ((126 : UInt8) == 33) = false by decide, show ((126 : UInt8) == 62) = false by decide, show ((126 : UInt8) == 60) = false by decide, show cls ltgtR 126 = false by decide, if_true, if_false, Bool.false_eq_true]
  · -- ~>
    have hk' : k (p + 1 + 1) = some t := hk
    have h2 := drop_one (x := 126) (l := 62 :: l) h
    simp only [OP, rAlt, two, id, e _ p 126 _ _ h, e _ (p + 1) 62 _ _ h2, hk', Option.some_or, Option.none_or, kn p 126 _ h (by decide), kn (p + 1) 62 _ h2 (by decide), beq_self_eq_true, show ((126 : UInt8) == 61) = false by decide, show ((126 : UInt8) == 33) = false by decide, show ((126 : UInt8) == 62) = false by decide, show ((126 : UInt8) == 60) = false by decide, show cls ltgtR 126 = false by decide, if_true, if_false, Bool.false_eq_true]
  · -- ^
    have hk' : k (p + 1) = some t := hk
    simp only [OP, rAlt, two, id, e _ p 94 _ _ h, hk', Option.some_or, Option.none_or, kn p 94 _ h (by decide), beq_self_eq_true, show ((94 : UInt8) == 61) = false by decide, show ((94 : UInt8) == 33) = false by decide, show ((94 : UInt8) == 62) = false by decide, show ((94 : UInt8) == 60) = false by decide, show ((94 : UInt8) == 126) = false by decide, show cls ltgtR 94 = false by decide, if_true, if_false, Bool.false_eq_true]
end Go.Proofs.YthejepmnnpmdmaaGreatDoor.Rx
end
section
/-! The five programs, and what each gives. -/
namespace Go.Proofs.YthejepmnnpmdmaaGreatDoor.Rx
deriving instance DecidableEq for I
/-- loose: start 1, 50 instructions, 20 slots -/
def looseT : List I := [.fail, .emp 3 4, .one 4 118, .alt 2 4, .cap 5 2, .rune 6 [48, 57], .alt 5 7, .cap 13 3, .cap 9 4, .one 10 46, .rune 11 [48, 57], .alt 10 12, .cap 19 5, .alt 8 19, .cap 15 6, .one 16 46, .rune 17 [48, 57], .alt 16 18, .cap 33 7, .alt 14 33, .cap 21 8, .one 22 45, .cap 23 10, .rune 24 [45, 45, 48, 57, 65, 90, 97, 122], .alt 23 30, .cap 26 12, .one 27 46, .rune 28 [45, 45, 48, 57, 65, 90, 97, 122], .alt 27 29, .cap 30 13, .alt 25 31, .cap 32 11, .cap 47 9, .alt 20 47, .cap 35 14, .one 36 43, .cap 37 16, .rune 38 [45, 45, 48, 57, 65, 90, 97, 122], .alt 37 44, .cap 40 18] ++ [.one 41 46, .rune 42 [45, 45, 48, 57, 65, 90, 97, 122], .alt 41 43, .cap 44 19, .alt 39 45, .cap 46 17, .cap 48 15, .alt 34 48, .emp 49 8, .mtch]
/-- con: start 1, 87 instructions, 24 slots -/
def conT : List I := [.fail, .emp 3 4, .rune 3 [9, 10, 12, 13, 32, 32], .alt 2 4, .cap 31 2, .one 32 61, .nop 32, .alt 5 6, .one 9 33, .one 32 61, .alt 7 8, .rune 32 [60, 60, 62, 62], .alt 10 11, .one 14 62, .one 32 61, .alt 12 13, .one 17 61, .one 32 62, .alt 15 16, .one 20 60, .one 32 61, .alt 18 19, .one 23 61, .one 32 60, .alt 21 22, .one 28 126, .nop 32, .one 32 62, .alt 26 27, .alt 24 25, .one 32 94, .alt 29 30, .cap 34 3, .rune 34 [9, 10, 12, 13, 32, 32], .alt 33 35, .cap 37 4, .one 38 118, .alt 36 38, .cap 39 6, .rune 40 [42, 42, 48, 57, 88, 88, 120, 120, 124, 124]] ++ [.alt 39 41, .cap 47 7, .cap 43 8, .one 44 46, .rune 45 [42, 42, 48, 57, 88, 88, 120, 120, 124, 124], .alt 44 46, .cap 53 9, .alt 42 53, .cap 49 10, .one 50 46, .rune 51 [42, 42, 48, 57, 88, 88, 120, 120, 124, 124], .alt 50 52, .cap 67 11, .alt 48 67, .cap 55 12, .one 56 45, .cap 57 14, .rune 58 [45, 45, 48, 57, 65, 90, 97, 122], .alt 57 64, .cap 60 16, .one 61 46, .rune 62 [45, 45, 48, 57, 65, 90, 97, 122], .alt 61 63, .cap 64 17, .alt 59 65, .cap 66 15, .cap 81 13, .alt 54 81, .cap 69 18, .one 70 43, .cap 71 20, .rune 72 [45, 45, 48, 57, 65, 90, 97, 122], .alt 71 78, .cap 74 22, .one 75 46, .rune 76 [45, 45, 48, 57, 65, 90, 97, 122], .alt 75 77, .cap 78 23, .alt 73 79, .cap 80 21] ++ [.cap 82 19, .alt 68 82, .cap 84 5, .rune 84 [9, 10, 12, 13, 32, 32], .alt 83 85, .emp 86 8, .mtch]
/-- rng: start 2, 107 instructions, 42 slots -/
def rngT : List I := [.fail, .rune 2 [9, 10, 12, 13, 32, 32], .alt 1 3, .cap 5 2, .one 6 118, .alt 4 6, .cap 7 4, .rune 8 [42, 42, 48, 57, 88, 88, 120, 120, 124, 124], .alt 7 9, .cap 15 5, .cap 11 6, .one 12 46, .rune 13 [42, 42, 48, 57, 88, 88, 120, 120, 124, 124], .alt 12 14, .cap 21 7, .alt 10 21, .cap 17 8, .one 18 46, .rune 19 [42, 42, 48, 57, 88, 88, 120, 120, 124, 124], .alt 18 20, .cap 35 9, .alt 16 35, .cap 23 10, .one 24 45, .cap 25 12, .rune 26 [45, 45, 48, 57, 65, 90, 97, 122], .alt 25 32, .cap 28 14, .one 29 46, .rune 30 [45, 45, 48, 57, 65, 90, 97, 122], .alt 29 31, .cap 32 15, .alt 27 33, .cap 34 13, .cap 49 11, .alt 22 49, .cap 37 16, .one 38 43, .cap 39 18, .rune 40 [45, 45, 48, 57, 65, 90, 97, 122]] ++ [.alt 39 46, .cap 42 20, .one 43 46, .rune 44 [45, 45, 48, 57, 65, 90, 97, 122], .alt 43 45, .cap 46 21, .alt 41 47, .cap 48 19, .cap 50 17, .alt 36 50, .cap 51 3, .rune 52 [9, 10, 12, 13, 32, 32], .alt 51 53, .one 54 45, .rune 55 [9, 10, 12, 13, 32, 32], .alt 54 56, .cap 58 22, .one 59 118, .alt 57 59, .cap 60 24, .rune 61 [42, 42, 48, 57, 88, 88, 120, 120, 124, 124], .alt 60 62, .cap 68 25, .cap 64 26, .one 65 46, .rune 66 [42, 42, 48, 57, 88, 88, 120, 120, 124, 124], .alt 65 67, .cap 74 27, .alt 63 74, .cap 70 28, .one 71 46, .rune 72 [42, 42, 48, 57, 88, 88, 120, 120, 124, 124], .alt 71 73, .cap 88 29, .alt 69 88, .cap 76 30, .one 77 45, .cap 78 32, .rune 79 [45, 45, 48, 57, 65, 90, 97, 122], .alt 78 85] ++ [.cap 81 34, .one 82 46, .rune 83 [45, 45, 48, 57, 65, 90, 97, 122], .alt 82 84, .cap 85 35, .alt 80 86, .cap 87 33, .cap 102 31, .alt 75 102, .cap 90 36, .one 91 43, .cap 92 38, .rune 93 [45, 45, 48, 57, 65, 90, 97, 122], .alt 92 99, .cap 95 40, .one 96 46, .rune 97 [45, 45, 48, 57, 65, 90, 97, 122], .alt 96 98, .cap 99 41, .alt 94 100, .cap 101 39, .cap 103 37, .alt 89 103, .cap 105 23, .rune 105 [9, 10, 12, 13, 32, 32], .alt 104 106, .mtch]
/-- find: start 1, 81 instructions, 24 slots -/
def findT : List I := [.fail, .cap 28 2, .one 29 61, .nop 29, .alt 2 3, .one 6 33, .one 29 61, .alt 4 5, .rune 29 [60, 60, 62, 62], .alt 7 8, .one 11 62, .one 29 61, .alt 9 10, .one 14 61, .one 29 62, .alt 12 13, .one 17 60, .one 29 61, .alt 15 16, .one 20 61, .one 29 60, .alt 18 19, .one 25 126, .nop 29, .one 29 62, .alt 23 24, .alt 21 22, .one 29 94, .alt 26 27, .cap 31 3, .rune 31 [9, 10, 12, 13, 32, 32], .alt 30 32, .cap 34 4, .one 35 118, .alt 33 35, .cap 36 6, .rune 37 [42, 42, 48, 57, 88, 88, 120, 120, 124, 124], .alt 36 38, .cap 44 7, .cap 40 8] ++ [.one 41 46, .rune 42 [42, 42, 48, 57, 88, 88, 120, 120, 124, 124], .alt 41 43, .cap 50 9, .alt 39 50, .cap 46 10, .one 47 46, .rune 48 [42, 42, 48, 57, 88, 88, 120, 120, 124, 124], .alt 47 49, .cap 64 11, .alt 45 64, .cap 52 12, .one 53 45, .cap 54 14, .rune 55 [45, 45, 48, 57, 65, 90, 97, 122], .alt 54 61, .cap 57 16, .one 58 46, .rune 59 [45, 45, 48, 57, 65, 90, 97, 122], .alt 58 60, .cap 61 17, .alt 56 62, .cap 63 15, .cap 78 13, .alt 51 78, .cap 66 18, .one 67 43, .cap 68 20, .rune 69 [45, 45, 48, 57, 65, 90, 97, 122], .alt 68 75, .cap 71 22, .one 72 46, .rune 73 [45, 45, 48, 57, 65, 90, 97, 122], .alt 72 74, .cap 75 23, .alt 70 76, .cap 77 21, .cap 79 19, .alt 65 79, .cap 80 5] ++ [.mtch]
/-- valid: start 1, 179 instructions, 50 slots -/
def validT : List I := [.fail, .emp 2 4, .cap 4 2, .rune 4 [9, 10, 12, 13, 32, 32], .alt 3 5, .cap 32 4, .one 33 61, .nop 33, .alt 6 7, .one 10 33, .one 33 61, .alt 8 9, .rune 33 [60, 60, 62, 62], .alt 11 12, .one 15 62, .one 33 61, .alt 13 14, .one 18 61, .one 33 62, .alt 16 17, .one 21 60, .one 33 61, .alt 19 20, .one 24 61, .one 33 60, .alt 22 23, .one 29 126, .nop 33, .one 33 62, .alt 27 28, .alt 25 26, .one 33 94, .alt 30 31, .cap 35 5, .rune 35 [9, 10, 12, 13, 32, 32], .alt 34 36, .cap 38 6, .one 39 118, .alt 37 39, .cap 40 8] ++ [.rune 41 [42, 42, 48, 57, 88, 88, 120, 120, 124, 124], .alt 40 42, .cap 48 9, .cap 44 10, .one 45 46, .rune 46 [42, 42, 48, 57, 88, 88, 120, 120, 124, 124], .alt 45 47, .cap 54 11, .alt 43 54, .cap 50 12, .one 51 46, .rune 52 [42, 42, 48, 57, 88, 88, 120, 120, 124, 124], .alt 51 53, .cap 68 13, .alt 49 68, .cap 56 14, .one 57 45, .cap 58 16, .rune 59 [45, 45, 48, 57, 65, 90, 97, 122], .alt 58 65, .cap 61 18, .one 62 46, .rune 63 [45, 45, 48, 57, 65, 90, 97, 122], .alt 62 64, .cap 65 19, .alt 60 66, .cap 67 17, .cap 82 15, .alt 55 82, .cap 70 20, .one 71 43, .cap 72 22, .rune 73 [45, 45, 48, 57, 65, 90, 97, 122], .alt 72 79, .cap 75 24, .one 76 46, .rune 77 [45, 45, 48, 57, 65, 90, 97, 122], .alt 76 78, .cap 79 25, .alt 74 80] ++ [.cap 81 23, .cap 83 21, .alt 69 83, .cap 85 7, .rune 85 [9, 10, 12, 13, 32, 32], .alt 84 86, .cap 176 3, .cap 93 26, .rune 89 [9, 10, 12, 13, 32, 32], .alt 88 94, .one 92 44, .rune 92 [9, 10, 12, 13, 32, 32], .alt 91 94, .alt 88 90, .cap 121 28, .one 122 61, .nop 122, .alt 95 96, .one 99 33, .one 122 61, .alt 97 98, .rune 122 [60, 60, 62, 62], .alt 100 101, .one 104 62, .one 122 61, .alt 102 103, .one 107 61, .one 122 62, .alt 105 106, .one 110 60, .one 122 61, .alt 108 109, .one 113 61, .one 122 60, .alt 111 112, .one 118 126, .nop 122, .one 122 62, .alt 116 117, .alt 114 115] ++ [.one 122 94, .alt 119 120, .cap 124 29, .rune 124 [9, 10, 12, 13, 32, 32], .alt 123 125, .cap 127 30, .one 128 118, .alt 126 128, .cap 129 32, .rune 130 [42, 42, 48, 57, 88, 88, 120, 120, 124, 124], .alt 129 131, .cap 137 33, .cap 133 34, .one 134 46, .rune 135 [42, 42, 48, 57, 88, 88, 120, 120, 124, 124], .alt 134 136, .cap 143 35, .alt 132 143, .cap 139 36, .one 140 46, .rune 141 [42, 42, 48, 57, 88, 88, 120, 120, 124, 124], .alt 140 142, .cap 157 37, .alt 138 157, .cap 145 38, .one 146 45, .cap 147 40, .rune 148 [45, 45, 48, 57, 65, 90, 97, 122], .alt 147 154, .cap 150 42, .one 151 46, .rune 152 [45, 45, 48, 57, 65, 90, 97, 122], .alt 151 153, .cap 154 43, .alt 149 155, .cap 156 41, .cap 171 39, .alt 144 171, .cap 159 44, .one 160 43] ++ [.cap 161 46, .rune 162 [45, 45, 48, 57, 65, 90, 97, 122], .alt 161 168, .cap 164 48, .one 165 46, .rune 166 [45, 45, 48, 57, 65, 90, 97, 122], .alt 165 167, .cap 168 49, .alt 163 169, .cap 170 47, .cap 172 45, .alt 158 172, .cap 174 31, .rune 174 [9, 10, 12, 13, 32, 32], .alt 173 175, .cap 176 27, .alt 87 177, .emp 178 8, .mtch]

def tabP (t : List I) : Nat → I := fun pc => t.getD pc .fail
theorem isTab {t tab : List I} {o : Nat} (h : (t.drop o).take tab.length = tab) : IsTab (tabP t) o tab := fun i x hi => by
  have hlt := (List.getElem?_eq_some_iff.1 hi).1
  have : (t.drop o)[i]? = some x := by
    rw [← hi]
    conv => rhs; rw [← h]
    rw [List.getElem?_take_of_lt hlt]
  rw [List.getElem?_drop] at this
  simp [tabP, List.getD, this]
def ws : UInt8 → Bool := cls wsR
def pB : UInt8 → Bool := cls partR
def dB : UInt8 → Bool := cls digR
def iB : UInt8 → Bool := cls idR
def kEnd : K := fun p => some [(1, p)]
theorem M.mtch {E z p} (h : E.prog z = .mtch) : M E z p (kEnd p) := ⟨0, .mtch h⟩
def rAt (at_ : Nat) : K → K := fun k p => if p = at_ then k p else none
theorem Blk.bot {E s a z} (T : Txt E s) (h : E.prog a = .emp z 4) : Blk E s.length 0 a z (rAt 0) := (Blk.emp h).cong fun k p hp => by unfold rEmp rAt; rw [T.bot p hp]; simp
theorem Blk.eot {E s a z} (T : Txt E s) (h : E.prog a = .emp z 8) : Blk E s.length 0 a z (rAt s.length) := (Blk.emp h).cong fun k p hp => by unfold rEmp rAt; rw [T.eot p hp]; simp
def looseS (s : Bs) : K := rAt 0 (V s dB iB 2 (rAt s.length kEnd))
theorem loose_M {E s} (T : Txt E s) (hp : E.prog = tabP looseT) (p : Nat) (h : p ≤ s.length) : M E 1 p (looseS s p) := by
  have hv : Blk E s.length 1 3 48 (V s dB iB 2) := Blk.V (o := 0) T (by decide) (by decide) (by rw [hp]; exact isTab (by decide))
  have g : ∀ i x, looseT[i]? = some x → E.prog i = x := fun i x hi => by rw [hp]; simp [tabP, List.getD, hi]
  exact ((Blk.bot T (g 1 _ rfl)).seq (hv.seq (Blk.eot T (g 48 _ rfl)))).run p h kEnd fun q _ _ => M.mtch (g 49 _ rfl)
def blanks (s : Bs) : K → K := rStar s.length (bC s ws)
def TERM (s : Bs) : K → K := fun k => rCap 2 (OP s (rCap 3 (blanks s (rCap 4 (V s pB iB 6 (rCap 5 k))))))
def conS (s : Bs) : K := rAt 0 (blanks s (TERM s (blanks s (rAt s.length kEnd))))
theorem con_M {E s} (T : Txt E s) (hp : E.prog = tabP conT) (p : Nat) (h : p ≤ s.length) : M E 1 p (conS s p) := by
  have hv : Blk E s.length 1 37 82 (V s pB iB 6) := Blk.V (o := 34) T (by decide) (by decide) (by rw [hp]; exact isTab (by decide))
  have ho : Blk E s.length 0 31 32 (OP s) := Blk.OP (o := 5) T (by rw [hp]; exact isTab (by decide))
  have g : ∀ i x, conT[i]? = some x → E.prog i = x := fun i x hi => by rw [hp]; simp [tabP, List.getD, hi]
  have b : ∀ {a b z}, E.prog b = .alt a z → E.prog a = .rune b wsR → Blk E s.length 0 b z (blanks s) := fun h1 h2 => Blk.star h1 (Blk.cls T h2 (by decide))
  exact ((Blk.bot T (g 1 _ rfl)).seq ((b (g 3 _ rfl) (g 2 _ rfl)).seq ((Blk.cap (g 4 _ rfl)).seq (ho.seq ((Blk.cap (g 32 _ rfl)).seq ((b (g 34 _ rfl) (g 33 _ rfl)).seq ((Blk.cap (g 35 _ rfl)).seq (hv.seq ((Blk.cap (g 82 _ rfl)).seq ((b (g 84 _ rfl) (g 83 _ rfl)).seq (Blk.eot T (g 85 _ rfl)))))))))))).run p h kEnd fun q _ _ => M.mtch (g 86 _ rfl)
def findS (s : Bs) : K := TERM s kEnd
theorem find_M {E s} (T : Txt E s) (hp : E.prog = tabP findT) (p : Nat) (h : p ≤ s.length) : M E 1 p (findS s p) := by
  have hv : Blk E s.length 1 34 79 (V s pB iB 6) := Blk.V (o := 31) T (by decide) (by decide) (by rw [hp]; exact isTab (by decide))
  have ho : Blk E s.length 0 28 29 (OP s) := Blk.OP (o := 2) T (by rw [hp]; exact isTab (by decide))
  have g : ∀ i x, findT[i]? = some x → E.prog i = x := fun i x hi => by rw [hp]; simp [tabP, List.getD, hi]
  have b : ∀ {a b z}, E.prog b = .alt a z → E.prog a = .rune b wsR → Blk E s.length 0 b z (blanks s) := fun h1 h2 => Blk.star h1 (Blk.cls T h2 (by decide))
  exact ((Blk.cap (g 1 _ rfl)).seq (ho.seq ((Blk.cap (g 29 _ rfl)).seq ((b (g 31 _ rfl) (g 30 _ rfl)).seq ((Blk.cap (g 32 _ rfl)).seq (hv.seq (Blk.cap (g 79 _ rfl)))))))).run p h kEnd fun q _ _ => M.mtch (g 80 _ rfl)
def rngS (s : Bs) : K := blanks s (rCap 2 (V s pB iB 4 (rCap 3 (plus s ws (bC s (· == 45) (plus s ws (rCap 22 (V s pB iB 24 (rCap 23 (blanks s kEnd))))))))))
theorem rng_M {E s} (T : Txt E s) (hp : E.prog = tabP rngT) (p : Nat) (h : p ≤ s.length) : M E 2 p (rngS s p) := by
  have hv : Blk E s.length 1 5 50 (V s pB iB 4) := Blk.V (o := 2) T (by decide) (by decide) (by rw [hp]; exact isTab (by decide))
  have hv2 : Blk E s.length 1 58 103 (V s pB iB 24) := Blk.V (o := 55) T (by decide) (by decide) (by rw [hp]; exact isTab (by decide))
  have g : ∀ i x, rngT[i]? = some x → E.prog i = x := fun i x hi => by rw [hp]; simp [tabP, List.getD, hi]
  have b : ∀ {a b z}, E.prog b = .alt a z → E.prog a = .rune b wsR → Blk E s.length 0 b z (blanks s) := fun h1 h2 => Blk.star h1 (Blk.cls T h2 (by decide))
  have pl : ∀ {a l z}, E.prog l = .alt a z → E.prog a = .rune l wsR → Blk E s.length 1 a z (plus s ws) := fun h1 h2 => Blk.plusC T h2 h1 (by decide)
  exact ((b (g 2 _ rfl) (g 1 _ rfl)).seq ((Blk.cap (g 3 _ rfl)).seq (hv.seq ((Blk.cap (g 50 _ rfl)).seq ((pl (g 52 _ rfl) (g 51 _ rfl)).seq ((Blk.lit (c := 45) T (g 53 _ rfl) (by decide)).seq ((pl (g 55 _ rfl) (g 54 _ rfl)).seq ((Blk.cap (g 56 _ rfl)).seq (hv2.seq ((Blk.cap (g 103 _ rfl)).seq (b (g 105 _ rfl) (g 104 _ rfl)))))))))))).run p h kEnd fun q _ _ => M.mtch (g 106 _ rfl)
def SEP (s : Bs) : K → K := rAlt (plus s ws) (fun k => bC s (· == 44) (blanks s k))
def TERMb (s : Bs) (b : Nat) : K → K := fun k => rCap b (OP s (rCap (b + 1) (blanks s (rCap (b + 2) (V s pB iB (b + 4) (rCap (b + 3) k))))))
def NEXT (s : Bs) : K → K := fun k => rCap 26 (SEP s (TERMb s 28 (blanks s (rCap 27 k))))
def validS (s : Bs) : K := rAt 0 (rCap 2 (blanks s (TERMb s 4 (blanks s (rCap 3 (rStar s.length (NEXT s) (rAt s.length kEnd)))))))
theorem valid_M {E s} (T : Txt E s) (hp : E.prog = tabP validT) (p : Nat) (h : p ≤ s.length) : M E 1 p (validS s p) := by
  have hv : Blk E s.length 1 38 83 (V s pB iB 8) := Blk.V (o := 35) T (by decide) (by decide) (by rw [hp]; exact isTab (by decide))
  have hv2 : Blk E s.length 1 127 172 (V s pB iB 32) := Blk.V (o := 124) T (by decide) (by decide) (by rw [hp]; exact isTab (by decide))
  have ho : Blk E s.length 0 32 33 (OP s) := Blk.OP (o := 6) T (by rw [hp]; exact isTab (by decide))
  have ho2 : Blk E s.length 0 121 122 (OP s) := Blk.OP (o := 95) T (by rw [hp]; exact isTab (by decide))
  have g : ∀ i x, validT[i]? = some x → E.prog i = x := fun i x hi => by rw [hp]; simp [tabP, List.getD, hi]
  have b : ∀ {a b z}, E.prog b = .alt a z → E.prog a = .rune b wsR → Blk E s.length 0 b z (blanks s) := fun h1 h2 => Blk.star h1 (Blk.cls T h2 (by decide))
  have pl : ∀ {a l z}, E.prog l = .alt a z → E.prog a = .rune l wsR → Blk E s.length 1 a z (plus s ws) := fun h1 h2 => Blk.plusC T h2 h1 (by decide)
  have sep : Blk E s.length 1 93 94 (SEP s) := Blk.alt (g 93 _ rfl) (pl (g 89 _ rfl) (g 88 _ rfl)) (((Blk.lit (c := 44) T (g 90 _ rfl) (by decide)).seq (b (g 92 _ rfl) (g 91 _ rfl))).weak (by omega))
  have nx : Blk E s.length 1 87 176 (NEXT s) := ((Blk.cap (g 87 _ rfl)).seq (sep.seq ((Blk.cap (g 94 _ rfl)).seq (ho2.seq ((Blk.cap (g 122 _ rfl)).seq ((b (g 124 _ rfl) (g 123 _ rfl)).seq ((Blk.cap (g 125 _ rfl)).seq (hv2.seq ((Blk.cap (g 172 _ rfl)).seq ((b (g 174 _ rfl) (g 173 _ rfl)).seq (Blk.cap (g 175 _ rfl)))))))))))).weak (by omega)
  exact ((Blk.bot T (g 1 _ rfl)).seq ((Blk.cap (g 2 _ rfl)).seq ((b (g 4 _ rfl) (g 3 _ rfl)).seq ((Blk.cap (g 5 _ rfl)).seq (ho.seq ((Blk.cap (g 33 _ rfl)).seq ((b (g 35 _ rfl) (g 34 _ rfl)).seq ((Blk.cap (g 36 _ rfl)).seq (hv.seq ((Blk.cap (g 83 _ rfl)).seq ((b (g 85 _ rfl) (g 84 _ rfl)).seq ((Blk.cap (g 86 _ rfl)).seq ((Blk.star (g 176 _ rfl) nx).seq (Blk.eot T (g 177 _ rfl))))))))))))))).run p h kEnd fun q _ _ => M.mtch (g 178 _ rfl)
end Go.Proofs.YthejepmnnpmdmaaGreatDoor.Rx
end
section
/-! What holds of the search at each step: its places lie in the text, its instructions in the program, and it has no more jobs than places visited. -/
namespace Go.Proofs.YthejepmnnpmdmaaGreatDoor.Rx
def cnt (f : Nat → Bool) : Nat → Nat
  | 0 => 0
  | n + 1 => cnt f n + (if f n then 1 else 0)
theorem cnt_le (f : Nat → Bool) : ∀ n, cnt f n ≤ n
  | 0 => Nat.le_refl _
  | n + 1 => by have := cnt_le f n; simp only [cnt]; split <;> omega
theorem cnt_same {f g : Nat → Bool} : ∀ n, (∀ i, i < n → f i = g i) → cnt f n = cnt g n
  | 0, _ => rfl
  | n + 1, h => by simp only [cnt]; rw [cnt_same n fun i hi => h i (by omega), h n (by omega)]
theorem cnt_more {f g : Nat → Bool} {a : Nat} (hf : f a = false) (hg : ∀ i, g i = (decide (i = a) || f i)) : ∀ n, a < n → cnt g n = cnt f n + 1
  | 0, h => by omega
  | n + 1, h => by
    simp only [cnt]
    by_cases e : a = n
    · subst e
      rw [cnt_same a (f := g) (g := f) fun i hi => by rw [hg]; have : ¬ i = a := by omega
                                                      simp [this], hg a, hf]
      simp
    · rw [cnt_more hf hg n (by omega), hg n]
      have : ¬ n = a := fun x => e x.symm
      simp [this]; omega
/-- the places visited -/
def visited (V : Nat → Nat → Bool) (L N : Nat) : Nat := cnt (fun i => V (i / (N + 1)) (i % (N + 1))) (L * (N + 1))
theorem visited_le (V L N) : visited V L N ≤ L * (N + 1) := cnt_le _ _
theorem visited_mark {V : Nat → Nat → Bool} {L N pc pos : Nat} (h : V pc pos = false) (hpc : pc < L) (hpos : pos ≤ N) : visited (mark V pc pos) L N = visited V L N + 1 := by
  unfold visited
  have e1 : (pc * (N + 1) + pos) / (N + 1) = pc := by rw [Nat.mul_comm, Nat.mul_add_div (by omega)]; simp [Nat.div_eq_of_lt (show pos < N + 1 by omega)]
  have e2 : (pc * (N + 1) + pos) % (N + 1) = pos := by rw [Nat.mul_comm, Nat.mul_add_mod]; exact Nat.mod_eq_of_lt (by omega)
  have hlt : pc * (N + 1) + pos < L * (N + 1) := by
    have : (pc + 1) * (N + 1) ≤ L * (N + 1) := Nat.mul_le_mul_right _ hpc
    rw [Nat.add_mul] at this; omega
  refine cnt_more (a := pc * (N + 1) + pos) (by simp only [e1, e2]; exact h) (fun i => ?_) _ hlt
  simp only [mark]
  by_cases e : i = pc * (N + 1) + pos
  · subst e; simp [e1, e2]
  · have : ¬ (i / (N + 1) = pc ∧ i % (N + 1) = pos) := fun ⟨a, b⟩ => e (by
      have := Nat.div_add_mod i (N + 1)
      rw [a, b, Nat.mul_comm] at this
      exact this.symm)
    simp only [e, decide_false, Bool.false_or]
    by_cases a : i / (N + 1) = pc
    · by_cases b : i % (N + 1) = pos
      · exact absurd ⟨a, b⟩ this
      · simp [b]
    · simp [a]
def TabOk (T : List I) : Prop := ∀ (i : Nat) (x : I), T[i]? = some x → match x with
  | .alt o a => o < T.length ∧ a < T.length
  | .cap o _ => o < T.length
  | .emp o _ => o < T.length
  | .mtch => True
  | .fail => True
  | .nop o => o < T.length
  | .rune o rs => o < T.length ∧ matchRune rs (-1) = false
  | .one o r => o < T.length ∧ r ≠ -1
/-- a job: at a place of the text, or a slot to be restored -/
def JobOk (T : List I) (N nc : Nat) (j : Nat × Bool × Int) : Prop := match j.2.1 with
  | false => (∃ x, T[j.1]? = some x) ∧ ∃ p : Nat, j.2.2 = p ∧ p ≤ N
  | true => (∃ o a, T[j.1]? = some (.alt o a) ∧ ∃ p : Nat, j.2.2 = p ∧ p ≤ N) ∨ ∃ o a, T[j.1]? = some (.cap o a) ∧ a < nc
structure Good (T : List I) (N nc : Nat) (c : Cfg) : Prop where
  jobs : ∀ j ∈ c.jobs, JobOk T N nc j
  cap : c.cap.length = nc
  at_ : match c.ctl with
    | .pop => c.jobs.length ≤ visited c.vis T.length N
    | .chk pc pos => pc < T.length ∧ pos ≤ N ∧ c.jobs.length ≤ visited c.vis T.length N
    | .at_ pc pos => pc < T.length ∧ pos ≤ N ∧ c.jobs.length + 1 ≤ visited c.vis T.length N
    | .fin _ => True
theorem tabP_of {T : List I} {i : Nat} {x : I} (h : T[i]? = some x) : tabP T i = x := by simp [tabP, List.getD, h]
theorem Good.step {T : List I} {E : Env} {N nc : Nat} (hT : TabOk T) (hE : E.prog = tabP T) (ok : Ok E N) {c d : Cfg} (g : Good T N nc c) (h : mstep E c = some d) : Good T N nc d := by
  obtain ⟨ctl, J, V, C⟩ := c
  obtain ⟨gj, gc, ga⟩ := g
  have wid : ∀ {rs : List Int} {pos : Nat}, pos ≤ N → matchRune rs (-1) = false → matchRune rs (E.step pos).1 = true → pos + (E.step pos).2 ≤ N := fun {rs pos} hp hm hr => by
    by_cases c : pos < N
    · exact (ok.inn pos c).2
    · rw [ok.out pos (by omega), hm] at hr; cases hr
  have wid1 : ∀ {r : Int} {pos : Nat}, pos ≤ N → r ≠ -1 → (E.step pos).1 = r → pos + (E.step pos).2 ≤ N := fun {r pos} hp hm hr => by
    by_cases c : pos < N
    · exact (ok.inn pos c).2
    · rw [ok.out pos (by omega)] at hr; exact absurd hr.symm hm
  cases ctl with
  | fin b => simp [mstep] at h
  | pop =>
    cases J with
    | nil => simp [mstep] at h; subst h; exact ⟨gj, gc, trivial⟩
    | cons j J =>
      obtain ⟨pc, arg, p⟩ := j
      have hj := gj _ List.mem_cons_self
      have gj' : ∀ j ∈ J, JobOk T N nc j := fun j hj => gj j (List.mem_cons_of_mem _ hj)
      have ga' : J.length + 1 ≤ visited V T.length N := ga
      cases arg with
      | false =>
        simp [mstep] at h; subst h
        obtain ⟨⟨x, hx⟩, q, hq, hqn⟩ := hj
        have hq : p = (q : Int) := hq
        subst hq
        exact ⟨gj', gc, (List.getElem?_eq_some_iff.1 hx).1, by simpa using hqn, ga'⟩
      | true =>
        rcases hj with ⟨o, a, hx, q, hq, hqn⟩ | ⟨o, a, hx, _⟩
        · have hq : p = (q : Int) := hq
          subst hq
          have e : E.prog pc = .alt o a := by rw [hE]; exact tabP_of hx
          simp [mstep, e] at h; subst h
          exact ⟨gj', gc, (hT _ _ hx).2, by simpa using hqn, by show J.length ≤ visited V T.length N; omega⟩
        · have e : E.prog pc = .cap o a := by rw [hE]; exact tabP_of hx
          simp [mstep, e] at h; subst h
          exact ⟨gj', by simpa using gc, by show J.length ≤ visited V T.length N; omega⟩
  | chk pc pos =>
    obtain ⟨h1, h2, h3⟩ := ga
    have h3 : J.length ≤ visited V T.length N := h3
    cases hv : V pc pos with
    | true => simp [mstep, hv] at h; subst h; exact ⟨gj, gc, h3⟩
    | false =>
      simp [mstep, hv] at h; subst h
      exact ⟨gj, gc, h1, h2, by show J.length + 1 ≤ visited (mark V pc pos) T.length N; rw [visited_mark hv h1 h2]; omega⟩
  | at_ pc pos =>
    obtain ⟨h1, h2, h3⟩ := ga
    have h3 : J.length + 1 ≤ visited V T.length N := h3
    obtain ⟨x, hx⟩ : ∃ x, T[pc]? = some x := ⟨_, List.getElem?_eq_getElem h1⟩
    have e : E.prog pc = x := by rw [hE]; exact tabP_of hx
    have ht := hT pc x hx
    cases x with
    | alt o a =>
      simp [mstep, e] at h; subst h
      refine ⟨fun j hj => ?_, gc, ht.1, h2, h3⟩
      rcases List.mem_cons.1 hj with rfl | hj
      · exact .inl ⟨o, a, hx, pos, rfl, h2⟩
      · exact gj j hj
    | cap o a =>
      simp only [mstep, e] at h
      cases hg : C[a]? with
      | none => rw [hg] at h; injection h with h; subst h; exact ⟨gj, gc, ht, h2, by show J.length ≤ visited V T.length N; omega⟩
      | some old =>
        rw [hg] at h; injection h with h; subst h
        refine ⟨fun j hj => ?_, by simpa using gc, ht, h2, h3⟩
        rcases List.mem_cons.1 hj with rfl | hj
        · exact .inr ⟨o, a, hx, by have hc := (List.getElem?_eq_some_iff.1 hg).1; have gc : C.length = nc := gc; omega⟩
        · exact gj j hj
    | emp o a =>
      simp only [mstep, e] at h
      split at h <;> (injection h with h; subst h)
      · exact ⟨gj, gc, ht, h2, by show J.length ≤ visited V T.length N; omega⟩
      · exact ⟨gj, gc, by show J.length ≤ visited V T.length N; omega⟩
    | mtch => simp [mstep, e] at h; subst h; exact ⟨gj, by simpa using gc, trivial⟩
    | fail => simp [mstep, e] at h
    | nop o => simp [mstep, e] at h; subst h; exact ⟨gj, gc, ht, h2, by show J.length ≤ visited V T.length N; omega⟩
    | rune o rs =>
      simp only [mstep, e] at h
      split at h <;> (injection h with h; subst h)
      · next hm => exact ⟨gj, gc, ht.1, wid h2 ht.2 hm, by show J.length ≤ visited V T.length N; omega⟩
      · exact ⟨gj, gc, by show J.length ≤ visited V T.length N; omega⟩
    | one o r =>
      simp only [mstep, e] at h
      split at h <;> (injection h with h; subst h)
      · next hm => exact ⟨gj, gc, ht.1, wid1 h2 ht.2 hm, by show J.length ≤ visited V T.length N; omega⟩
      · exact ⟨gj, gc, by show J.length ≤ visited V T.length N; omega⟩
end Go.Proofs.YthejepmnnpmdmaaGreatDoor.Rx
end
section
/-! A term's text, and what the programs read in it. -/
namespace Go.Proofs.YthejepmnnpmdmaaGreatDoor.Rx
structure Tm where
  op : Bs
  blank : Bs
  ver : Ver
def Tm.text (x : Tm) : Bs := x.op ++ (x.blank ++ x.ver.text)
structure Tm.Ok (x : Tm) : Prop where
  op : x.op ∈ opTexts
  blank : ∀ y ∈ x.blank, ws y = true
  ver : x.ver.Ok pB iB
theorem byte_all {p : UInt8 → Bool} (h : (List.range 256).all (fun n => p (UInt8.ofNat n)) = true) (x : UInt8) : p x = true := by
  have := List.all_eq_true.1 h x.toNat (List.mem_range.2 x.toNat_lt)
  simpa using this
theorem ws_op (x : UInt8) (h : ws x = true) : opByte x = false ∧ pB x = false ∧ iB x = false ∧ x ≠ 118 ∧ x ≠ 46 ∧ x ≠ 45 ∧ x ≠ 43 ∧ x ≠ 44 := by
  have := byte_all (p := fun x => !ws x || (!opByte x && (!pB x && (!iB x && (!(x == 118) && (!(x == 46) && (!(x == 45) && (!(x == 43) && !(x == 44)))))))) ) (by decide +kernel) x
  simpa [h] using this
theorem pB_op (x : UInt8) (h : pB x = true) : opByte x = false ∧ ws x = false ∧ x ≠ 44 ∧ x ≠ 45 := by
  have := byte_all (p := fun x => !pB x || (!opByte x && (!ws x && (!(x == 44) && !(x == 45))))) (by decide +kernel) x
  simpa [h] using this
theorem iB_op (x : UInt8) (h : iB x = true) : opByte x = false ∧ ws x = false ∧ x ≠ 44 := by
  have := byte_all (p := fun x => !iB x || (!opByte x && (!ws x && !(x == 44)))) (by decide +kernel) x
  simpa [h] using this
theorem op_out (x : UInt8) (h : opByte x = true) : ws x = false ∧ pB x = false ∧ x ≠ 118 ∧ x ≠ 45 ∧ x ≠ 44 ∧ iB x = false := by
  have := byte_all (p := fun x => !opByte x || (!ws x && (!pB x && (!(x == 118) && (!(x == 45) && (!(x == 44) && !iB x)))))) (by decide +kernel) x
  simpa [h] using this
theorem kinds : Kinds pB iB := ⟨by decide, by decide, by decide, by decide, by decide, by decide⟩
theorem kindsD : Kinds dB iB := ⟨by decide, by decide, by decide, by decide, by decide, by decide⟩
theorem ws_stop (x : UInt8) (h : ws x = true) : stop pB iB x := by
  obtain ⟨_, h1, h2, _, h3, h4, h5, _⟩ := ws_op x h
  exact ⟨h1, h2, h3, h4, h5⟩
theorem comma_stop : stop pB iB 44 := by unfold stop; decide
theorem ver_head {c ci : UInt8 → Bool} {x : Ver} (h : x.Ok c ci) : ∃ y l, x.text = y :: l ∧ (y = 118 ∨ c y = true) := by
  obtain ⟨v, p1, p2, p3, pre, me⟩ := x
  have h1 := h.p1
  cases v with
  | true => exact ⟨118, _, rfl, .inl rfl⟩
  | false =>
    cases p1 with
    | nil => exact absurd rfl h1.1
    | cons y l => exact ⟨y, _, rfl, .inr (h1.2 y (by simp))⟩
theorem V_none {s c ci b k p} (h : ∀ x, (s.drop p).head? = some x → x ≠ 118 ∧ c x = false) : V s c ci b k p = none := by
  unfold V
  rw [alt_r (bC_no fun x hx => by simpa using (h x hx).1)]
  exact cap_none (plus_no fun x hx => (h x hx).2)
theorem star_none {s : Bs} {c : UInt8 → Bool} {k : K} : ∀ (r : Bs) (p : Nat) (l : Bs), s.drop p = r ++ l → p ≤ s.length → (∀ x, l.head? = some x → c x = false) → (∀ j, j ≤ r.length → k (p + j) = none) → rStar s.length (bC s c) k p = none
  | [], p, l, h, hp, hl, hk => by
    rw [star_blk k p hp, bC_no (fun x hx => hl x (by rw [h] at hx; exact hx)), Option.none_or]; exact hk 0 (Nat.le_refl _)
  | x :: r, p, l, h, hp, hl, hk => by
    have hk0 : k p = none := hk 0 (by simp)
    rw [star_blk k p hp, hk0, Option.or_none]
    have := star_none r (p + 1) l (drop_one h) (drop_le h) hl (fun j hj => by rw [show p + 1 + j = p + (j + 1) by omega]; exact hk (j + 1) (by simp; omega))
    by_cases hc : c x = true
    · rw [bC_yes h hc]; exact this
    · exact bC_no fun y hy => by rw [h] at hy; simp at hy; subst hy; simpa using hc
def tcaps (b p : Nat) (x : Tm) : List (Nat × Nat) :=
  (b, p) :: (b + 1, p + x.op.length) :: (b + 2, p + x.op.length + x.blank.length) :: (x.ver.caps (b + 4) (p + x.op.length + x.blank.length) ++ [(b + 3, p + x.text.length)])
theorem TERM_eval {s : Bs} {b : Nat} {k : K} {p t} {x : Tm} {l : Bs} (hx : x.Ok) (h : s.drop p = x.text ++ l) (hl : Stops pB iB l) (hk : k (p + x.text.length) = some t) : TERMb s b k p = some (tcaps b p x ++ t) := by
  obtain ⟨op, bl, v⟩ := x
  obtain ⟨y, r, hy, hyc⟩ := ver_head hx.ver
  have h1 : s.drop p = op ++ (bl ++ (v.text ++ l)) := by rw [h]; simp [Tm.text]
  have h2 := drop_add h1
  have h3 := drop_add h2
  have hb : ∀ z ∈ bl, ws z = true := hx.blank
  have hy2 : ws y = false ∧ opByte y = false := by
    rcases hyc with rfl | h
    · decide
    · exact ⟨(pB_op y h).2.1, (pB_op y h).1⟩
  have ev := V_eval (b := b + 4) (k := rCap (b + 3) k) kinds hx.ver h3 hl (cap_some (by rw [← hk]; congr 1; simp [Tm.text]; omega))
  have e3 := cap_some (a := b + 2) ev
  have hp : p + op.length ≤ s.length := by
    have := congrArg List.length h2
    simp [hy] at this; omega
  have e2 := star_run (c := ws) bl (p + op.length) _ h2 hp hb e3 (fun z hz => by rw [hy] at hz; simp at hz; subst hz; exact hy2.1)
  have e1 := cap_some (a := b + 1) e2
  have e0 := OP_eval hx.op h1 (fun z hz => by
    cases bl with
    | nil => simp [hy] at hz; subst hz; exact hy2.2
    | cons w bl => simp at hz; subst hz; exact (ws_op w (hb w (by simp))).1) e1 (fun q z hz hz2 => by
      obtain ⟨o1, o2, o3, o4, _⟩ := op_out z hz2
      refine cap_none ?_
      have hlt : q < s.length := by
        cases hd : s.drop q with
        | nil => rw [hd] at hz; cases hz
        | cons a b => exact drop_le hd
      exact star_none [] q _ rfl (by omega) (fun w hw => by rw [hw] at hz; cases hz; exact o1) (fun j hj => by
        have : j = 0 := by simpa using hj
        subst this
        exact cap_none (V_none fun w hw => by rw [Nat.add_zero, hz] at hw; cases hw; exact ⟨o3, o2⟩)))
  unfold TERMb
  refine (cap_some e0).trans ?_
  have : p + op.length + bl.length + v.text.length = p + (op ++ (bl ++ v.text)).length := by simp; omega
  simp [tcaps, Tm.text, this]
/-- the term's program, at a text that is one term between blanks -/
theorem con_eval {s L R : Bs} {x : Tm} (hx : x.Ok) (hs : s = L ++ (x.text ++ R)) (hL : ∀ y ∈ L, ws y = true) (hR : ∀ y ∈ R, ws y = true) (h0 : x.op = [] → x.blank = []) : conS s 0 = some (tcaps 2 L.length x ++ [(1, s.length)]) := by
  have hd : s.drop 0 = L ++ (x.text ++ R) := hs
  have h1 := drop_add hd
  have h2 := drop_add h1
  rw [Nat.zero_add] at h1 h2
  have e4 : rAt s.length kEnd s.length = some [(1, s.length)] := by simp [rAt, kEnd]
  have len : L.length + x.text.length + R.length = s.length := by rw [hs]; simp; omega
  have e3 := star_run (c := ws) (k := rAt s.length kEnd) R (L.length + x.text.length) [] (by simpa using h2) (by omega) hR (by rw [len]; exact e4) (by simp)
  have e2 := TERM_eval (b := 2) hx h1 (fun y hy => ws_stop y (hR y (List.mem_of_mem_head? hy))) e3
  have e1 := star_run (c := ws) (k := TERMb s 2 (blanks s (rAt s.length kEnd))) L 0 _ hd (Nat.zero_le _) hL (by rw [Nat.zero_add]; exact e2) (fun y hy => by
    have hx' := hx
    obtain ⟨op, bl, v⟩ := x
    obtain ⟨z, r, hz, hzc⟩ := ver_head hx.ver
    cases op with
    | nil =>
      have : bl = [] := h0 rfl
      subst this
      simp [Tm.text, hz] at hy
      subst hy
      rcases hzc with rfl | h
      · decide
      · exact (pB_op z h).2.1
    | cons w op =>
      simp [Tm.text] at hy
      subst hy
      have hm := hx'.op
      simp only [opTexts, List.mem_cons, List.not_mem_nil, or_false] at hm
      rcases hm with h | h | h | h | h | h | h | h | h | h | h | h <;> cases h <;> decide)
  have : conS s 0 = blanks s (TERMb s 2 (blanks s (rAt s.length kEnd))) 0 := by
    unfold conS rAt
    rw [if_pos rfl]
    rfl
  rw [this]; exact e1
theorem find_eval {s l : Bs} {p : Nat} {x : Tm} (hx : x.Ok) (h : s.drop p = x.text ++ l) (hl : Stops pB iB l) : findS s p = some (tcaps 2 p x ++ [(1, p + x.text.length)]) := TERM_eval (b := 2) (k := kEnd) hx h hl rfl
/-- no match begins here: blanks, and then none of a version's beginnings -/
theorem find_none {s B l : Bs} {p : Nat} (h : s.drop p = B ++ l) (hB : ∀ y ∈ B, ws y = true) (hp : p ≤ s.length) (hl : ∀ x, l.head? = some x → x ≠ 118 ∧ pB x = false ∧ ws x = false) (h0 : B = [] → ∀ x, l.head? = some x → opByte x = false) : findS s p = none := by
  refine cap_none ?_
  have hk : rCap 3 (blanks s (rCap 4 (V s pB iB 6 (rCap 5 kEnd)))) p = none := by
    refine cap_none (star_none B p l h hp (fun x hx => (hl x hx).2.2) fun j hj => cap_none (V_none fun x hx => ?_))
    have hd : s.drop (p + j) = B.drop j ++ l := by
      rw [← List.drop_drop, h, List.drop_append_of_le_length hj]
    rw [hd] at hx
    rcases head_app hx with hx | ⟨_, hx⟩
    · have := ws_op x (hB x (List.mem_of_mem_drop (List.mem_of_mem_head? hx)))
      exact ⟨this.2.2.2.1, this.2.1⟩
    · exact ⟨(hl x hx).1, (hl x hx).2.1⟩
  have hop : ∀ x, (s.drop p).head? = some x → opByte x = false := fun x hx => by
    rw [h] at hx
    rcases head_app hx with hx | ⟨hx0, hx⟩
    · exact (ws_op x (hB x (List.mem_of_mem_head? hx))).1
    · exact h0 hx0 x hx
  have no : ∀ (c : UInt8 → Bool) (k' : K), (∀ x, c x = true → opByte x = true) → bC s c k' p = none := fun c k' hc => bC_no fun x hx => by
    cases hcx : c x with
    | false => rfl
    | true => have := hop x hx; rw [hc x hcx] at this; cases this
  have a1 := fun k' => no (· == 61) k' (by simp [opByte])
  have a2 := fun k' => no (· == 33) k' (by simp [opByte])
  have a3 := fun k' => no (· == 62) k' (by simp [opByte])
  have a4 := fun k' => no (· == 60) k' (by simp [opByte])
  have a5 := fun k' => no (· == 126) k' (by simp [opByte])
  have a6 := fun k' => no (· == 94) k' (by simp [opByte])
  have a7 := fun k' => no (cls ltgtR) k' (by intro x h; have := byte_all (p := fun x => !cls ltgtR x || opByte x) (by decide +kernel) x; simpa [h] using this)
  simp only [OP, rAlt, two, id, a1, a2, a3, a4, a5, a6, a7, hk, Option.none_or]
/-- the loose reader's program, at a version's text -/
theorem loose_eval {x : Ver} (hx : x.Ok dB iB) : looseS x.text 0 = some (x.caps 2 0 ++ [(1, x.text.length)]) := by
  have e := V_eval (s := x.text) (b := 2) (k := rAt x.text.length kEnd) (p := 0) (l := []) kindsD hx (by simp) (fun _ h => by cases h) (by rw [Nat.zero_add]; exact if_pos rfl)
  have h0 : looseS x.text 0 = V x.text dB iB 2 (rAt x.text.length kEnd) 0 := by
    show rAt 0 (V x.text dB iB 2 (rAt x.text.length kEnd)) 0 = _
    unfold rAt
    rw [if_pos rfl]
  rw [h0]
  simpa using e
/-! lists of terms -/
/-- what stands between two terms: blanks, or blanks, a comma and blanks -/
structure Sep where
  b1 : Bs
  b2 : Option Bs
def ctext : Option Bs → Bs
  | none => []
  | some y => 44 :: y
def Sep.text (x : Sep) : Bs := x.b1 ++ ctext x.b2
structure Sep.Ok (x : Sep) : Prop where
  b1 : ∀ y ∈ x.b1, ws y = true
  b2 : ∀ z, x.b2 = some z → ∀ y ∈ z, ws y = true
  some_ : x.b2 = none → x.b1 ≠ []
def ltail (l : List (Sep × Tm)) : Bs := l.flatMap fun x => x.1.text ++ x.2.text
def ltext (x : Tm) (l : List (Sep × Tm)) : Bs := x.text ++ ltail l
def LOk (l : List (Sep × Tm)) : Prop := ∀ x ∈ l, x.1.Ok ∧ x.2.Ok ∧ (x.2.op = [] → x.2.blank = [])
theorem sep_stop {x : Sep} (h : x.Ok) {y : UInt8} {l : Bs} (hy : (x.text ++ l).head? = some y) : stop pB iB y := by
  obtain ⟨b1, b2⟩ := x
  cases b1 with
  | cons z b => simp [Sep.text] at hy; subst hy; exact ws_stop _ (h.b1 _ (by simp))
  | nil =>
    cases b2 with
    | none => exact absurd rfl (h.some_ rfl)
    | some z => simp [Sep.text, ctext] at hy; subst hy; exact comma_stop
theorem ltail_stop {l : List (Sep × Tm)} (h : LOk l) : Stops pB iB (ltail l) := fun y hy => by
  cases l with
  | nil => simp [ltail] at hy
  | cons x l =>
    simp only [ltail, List.flatMap_cons, List.append_assoc] at hy
    exact sep_stop (h x (by simp)).1 hy
theorem term_some {s : Bs} {b : Nat} {k : K} {p} {x : Tm} {l : Bs} (hx : x.Ok) (h : s.drop p = x.text ++ l) (hl : Stops pB iB l) (hk : (k (p + x.text.length)).isSome) : (TERMb s b k p).isSome := by
  obtain ⟨t, ht⟩ := Option.isSome_iff_exists.1 hk
  rw [TERM_eval hx h hl ht]; rfl
theorem Same.op (s : Bs) : Same s.length 0 (OP s) := by
  intro pos hp k k' h
  have b : ∀ c, Rx.bC s c k pos = Rx.bC s c k' pos := fun c => Same.bC s c pos hp k k' fun q h1 h2 => h q (by omega) h2
  have b2 : ∀ x y, two s x y k pos = two s x y k' pos := fun x y => ((Same.bC s (· == x)).comp (Same.bC s (· == y))) pos hp k k' fun q h1 h2 => h q (by omega) h2
  have b3 : Rx.bC s (· == 126) (rAlt id (Rx.bC s (· == 62)) k) pos = Rx.bC s (· == 126) (rAlt id (Rx.bC s (· == 62)) k') pos := Same.bC s _ pos hp _ _ fun q h1 h2 => by
    unfold rAlt id
    rw [h q (by omega) h2, Same.bC s _ q h2 k k' fun r h3 h4 => h r (by omega) h4]
  simp only [OP, rAlt, b, b2, b3, id, h pos (by omega) hp]
theorem Same.alt {N d f g} (h : Same N d f) (h' : Same N d g) : Same N d (rAlt f g) := fun pos hp k k' c => by unfold rAlt; rw [h pos hp k k' c, h' pos hp k k' c]
theorem Same.id_ (N : Nat) : Same N 0 id := fun pos hp k k' h => h pos (by omega) hp
theorem Same.part (s c b) : Same s.length 1 (part s c b) := Same.more s c b
theorem Same.grp (s ci lead b) : Same s.length 1 (grp s ci lead b) :=
  ((Same.cap _ b).comp ((Same.bC s _).comp ((Same.cap _ (b + 2)).comp ((Same.plus s ci).comp ((Same.star (Same.more s ci (b + 4))).comp ((Same.cap _ (b + 3)).comp (Same.cap _ (b + 1)))))))).weak (by omega)
theorem Same.opt {N f} (h : Same N 1 f) : Same N 0 (rAlt f id) := Same.alt (h.weak (by omega)) (Same.id_ N)
theorem Same.V (s c ci b) : Same s.length 1 (V s c ci b) :=
  ((Same.opt (Same.bC s _)).comp ((Same.cap _ b).comp ((Same.plus s c).comp ((Same.cap _ (b + 1)).comp ((Same.opt (Same.part s c (b + 2))).comp ((Same.opt (Same.part s c (b + 4))).comp ((Same.opt (Same.grp s ci 45 (b + 6))).comp (Same.opt (Same.grp s ci 43 (b + 12)))))))))).weak (by omega)
theorem Same.blanks (s : Bs) : Same s.length 0 (blanks s) := Same.star (Same.bC s ws)
theorem Same.term (s b) : Same s.length 1 (TERMb s b) :=
  ((Same.cap _ b).comp ((Same.op s).comp ((Same.cap _ (b + 1)).comp ((Same.blanks s).comp ((Same.cap _ (b + 2)).comp ((Same.V s pB iB (b + 4)).comp (Same.cap _ (b + 3)))))))).weak (by omega)
theorem Same.sep (s : Bs) : Same s.length 1 (SEP s) := Same.alt (Same.plus s ws) (((Same.bC s _).comp (Same.blanks s)).weak (by omega))
theorem Same.next (s : Bs) : Same s.length 1 (NEXT s) :=
  ((Same.cap _ 26).comp ((Same.sep s).comp ((Same.term s 28).comp ((Same.blanks s).comp (Same.cap _ 27))))).weak (by omega)
theorem cap_isSome {a k p} : (rCap a k p).isSome = (k p).isSome := by unfold rCap; simp
theorem sep_some {s : Bs} {k : K} {p : Nat} {z l : Bs} (h : s.drop p = 44 :: (z ++ l)) (hz : ∀ y ∈ z, ws y = true) (hk : (k (p + 1 + z.length)).isSome) : (SEP s k p).isSome := by
  unfold SEP rAlt
  rw [Option.isSome_or]
  have : bC s (· == 44) (blanks s k) p = blanks s k (p + 1) := bC_yes h (by rfl)
  simp only [this]
  rw [show (blanks s k (p + 1)).isSome = true from star_some z (p + 1) l (drop_one h) (drop_le h) hz hk, Bool.or_true]
theorem sep_some' {s : Bs} {k : K} {p : Nat} {z l : Bs} (h : s.drop p = z ++ l) (hz : ∀ y ∈ z, ws y = true) (h0 : z ≠ []) (hk : (k (p + z.length)).isSome) : (SEP s k p).isSome := by
  unfold SEP rAlt
  rw [Option.isSome_or]
  have : (plus s ws k p).isSome := by
    cases z with
    | nil => exact absurd rfl h0
    | cons y z =>
      unfold plus
      rw [bC_yes h (hz y (by simp))]
      exact star_some z (p + 1) l (drop_one h) (drop_le h) (fun x hx => hz x (by simp [hx])) (by rw [show p + 1 + z.length = p + (y :: z).length by simp; omega]; exact hk)
  rw [this]; rfl
theorem valid_tail {s : Bs} {a : Nat} : ∀ (l : List (Sep × Tm)) (p : Nat), s.drop p = ltail l → p ≤ s.length → LOk l → (blanks s (rCap a (rStar s.length (NEXT s) (rAt s.length kEnd))) p).isSome
  | [], p, h, hp, _ => by
    have e : p = s.length := by
      have := congrArg List.length h
      simp [ltail] at this; omega
    refine star_some [] p [] (by rw [h]; rfl) hp (by simp) ?_
    rw [cap_isSome, List.length_nil, Nat.add_zero, starS_eq (Same.next s) _ p hp, Option.isSome_or]
    simp [rAt, e, kEnd]
  | x :: l, p, h, hp, hl => by
    obtain ⟨⟨b1, b2⟩, tm⟩ := x
    obtain ⟨hsep, htm, h0⟩ := hl (⟨b1, b2⟩, tm) List.mem_cons_self
    have hl' : LOk l := fun y hy => hl y (by simp [hy])
    have h' : s.drop p = b1 ++ (ctext b2 ++ (tm.text ++ ltail l)) := by rw [h]; simp [ltail, Sep.text]
    have key : ∀ q, s.drop q = tm.text ++ ltail l → (TERMb s 28 (blanks s (rCap 27 (rStar s.length (NEXT s) (rAt s.length kEnd)))) q).isSome := fun q hq => by
      have hd := drop_add hq
      obtain ⟨y, r, hy, _⟩ := ver_head htm.ver
      exact term_some htm hq (ltail_stop hl') (valid_tail l _ hd (by
        have := congrArg List.length hq
        simp [Tm.text, hy] at this ⊢; omega) hl')
    cases b2 with
    | some z =>
      have hd := drop_add h'
      have hle : p + b1.length ≤ s.length := Nat.le_of_lt (drop_le (show _ = 44 :: (z ++ (tm.text ++ ltail l)) from hd))
      refine star_some b1 p _ h' hp hsep.b1 ?_
      rw [cap_isSome, starS_eq (Same.next s) _ _ hle, Option.isSome_or]
      have : (NEXT s (rStar s.length (NEXT s) (rAt s.length kEnd)) (p + b1.length)).isSome := by
        unfold NEXT
        rw [cap_isSome]
        exact sep_some (z := z) hd (hsep.b2 z rfl) (key _ (drop_add (drop_one (show _ = 44 :: (z ++ (tm.text ++ ltail l)) from hd))))
      rw [this]; rfl
    | none =>
      refine star_some [] p _ rfl hp (by simp) ?_
      rw [cap_isSome, List.length_nil, Nat.add_zero, starS_eq (Same.next s) _ p hp, Option.isSome_or]
      have : (NEXT s (rStar s.length (NEXT s) (rAt s.length kEnd)) p).isSome := by
        unfold NEXT
        rw [cap_isSome]
        exact sep_some' (z := b1) (show _ = b1 ++ (tm.text ++ ltail l) from h') hsep.b1 (hsep.some_ rfl) (key _ (drop_add (show _ = b1 ++ (tm.text ++ ltail l) from h')))
      rw [this]; rfl
/-- a list's text is let through -/
theorem valid_eval {B : Bs} {x : Tm} {l : List (Sep × Tm)} (hB : ∀ y ∈ B, ws y = true) (hx : x.Ok) (hl : LOk l) (s : Bs) (hs : s = B ++ ltext x l) : (validS s 0).isSome := by
  have hd : s.drop 0 = B ++ (x.text ++ ltail l) := hs
  have h1 := drop_add hd
  rw [Nat.zero_add] at h1
  obtain ⟨y, r, hy, _⟩ := ver_head hx.ver
  unfold validS rAt
  rw [if_pos rfl, cap_isSome]
  refine star_some B 0 _ hd (Nat.zero_le _) hB ?_
  rw [Nat.zero_add]
  exact term_some hx h1 (ltail_stop hl) (valid_tail l _ (drop_add h1) (by
    have := congrArg List.length h1
    simp [Tm.text, hy] at this ⊢; omega) hl)
/-! no range -/
def noWD : Bs → Bool
  | [] => true
  | [_] => true
  | x :: y :: l => (!(ws x && y == 45)) && noWD (y :: l)
theorem noWD_at : ∀ {s : Bs} {i : Nat} {x : UInt8}, noWD s = true → s[i]? = some x → ws x = true → s[i + 1]? ≠ some 45
  | [], i, x, _, h, _ => by simp at h
  | [_], i, x, _, h, _ => by simp
  | a :: b :: l, 0, x, h, hx, hw => by
    simp at hx; subst hx
    simp [noWD, hw] at h
    simpa using h.1
  | a :: b :: l, i + 1, x, h, hx, hw => by
    simp only [noWD, Bool.and_eq_true] at h
    have := noWD_at (i := i) h.2 (by simpa using hx) hw
    simpa using this
/-- what goes through goes on -/
def Thru (f : K → K) : Prop := ∀ k p t, f k p = some t → ∃ q t', k q = some t'
theorem Thru.bC (s c) : Thru (bC s c) := fun k p t h => by
  unfold Rx.bC at h
  cases hx : s[p]? with
  | none => rw [hx] at h; cases h
  | some x =>
    rw [hx] at h
    by_cases hc : c x = true
    · exact ⟨_, _, by simpa [hc] using h⟩
    · simp [hc] at h
theorem Thru.cap (a) : Thru (rCap a) := fun k p t h => by
  unfold rCap at h
  cases hk : k p with
  | none => rw [hk] at h; cases h
  | some t' => exact ⟨p, t', hk⟩
theorem Thru.alt {f g} (h : Thru f) (h' : Thru g) : Thru (rAlt f g) := fun k p t e => by
  unfold rAlt at e
  cases hf : f k p with
  | none => rw [hf, Option.none_or] at e; exact h' k p t e
  | some t' => exact h k p t' hf
theorem Thru.id_ : Thru id := fun _ p t h => ⟨p, t, h⟩
theorem Thru.comp {f g} (h : Thru f) (h' : Thru g) : Thru (fun k => f (g k)) := fun k p t e => by
  obtain ⟨q, t', h1⟩ := h _ p t e
  exact h' k q t' h1
theorem Thru.star {N : Nat} {f : K → K} (h : Thru f) : Thru (rStar N f) := by
  have : ∀ n (k : K) p t, starN f k n p = some t → ∃ q t', k q = some t' := by
    intro n
    induction n with
    | zero => exact fun k p t h => ⟨p, t, h⟩
    | succ n ih =>
      intro k p t e
      simp only [starN] at e
      cases hf : f (starN f k n) p with
      | none => rw [hf, Option.none_or] at e; exact ⟨p, t, e⟩
      | some t' =>
        obtain ⟨q, t2, h1⟩ := h _ p t' hf
        exact ih k q t2 h1
  exact fun k p t e => this _ k p t e
theorem Thru.plus (s c) : Thru (plus s c) := (Thru.bC s c).comp (Thru.star (Thru.bC s c))
theorem Thru.part (s c b) : Thru (part s c b) := (Thru.cap b).comp ((Thru.bC s _).comp ((Thru.plus s c).comp (Thru.cap _)))
theorem Thru.grp (s ci lead b) : Thru (grp s ci lead b) := (Thru.cap b).comp ((Thru.bC s _).comp ((Thru.cap _).comp ((Thru.plus s ci).comp ((Thru.star (Thru.part s ci (b + 4))).comp ((Thru.cap _).comp (Thru.cap _))))))
theorem Thru.V (s c ci b) : Thru (V s c ci b) :=
  (Thru.alt (Thru.bC s _) Thru.id_).comp ((Thru.cap b).comp ((Thru.plus s c).comp ((Thru.cap _).comp ((Thru.alt (Thru.part s c _) Thru.id_).comp ((Thru.alt (Thru.part s c _) Thru.id_).comp ((Thru.alt (Thru.grp s ci 45 _) Thru.id_).comp (Thru.alt (Thru.grp s ci 43 _) Thru.id_)))))))
theorem star_last {s : Bs} {c : UInt8 → Bool} {k : K} : ∀ n p t, starN (bC s c) k n p = some t → ∃ q t', k q = some t' ∧ p ≤ q ∧ (q = p ∨ ∃ x, s[q - 1]? = some x ∧ c x = true) := by
  intro n
  induction n with
  | zero => exact fun p t h => ⟨p, t, h, Nat.le_refl _, .inl rfl⟩
  | succ n ih =>
    intro p t e
    simp only [starN] at e
    cases hf : bC s c (starN (bC s c) k n) p with
    | none => rw [hf, Option.none_or] at e; exact ⟨p, t, e, Nat.le_refl _, .inl rfl⟩
    | some t' =>
      unfold bC at hf
      cases hx : s[p]? with
      | none => rw [hx] at hf; cases hf
      | some x =>
        rw [hx] at hf
        by_cases hc : c x = true
        · simp only [hc, if_true] at hf
          obtain ⟨q, t2, h1, h2, h3⟩ := ih (p + 1) t' hf
          refine ⟨q, t2, h1, by omega, .inr ?_⟩
          rcases h3 with rfl | h3
          · exact ⟨x, by simpa using hx, hc⟩
          · exact h3
        · simp [hc] at hf
theorem plus_last {s : Bs} {c : UInt8 → Bool} {k : K} {p t} (h : plus s c k p = some t) : ∃ q t' x, k q = some t' ∧ 1 ≤ q ∧ s[q - 1]? = some x ∧ c x = true := by
  unfold plus bC at h
  cases hx : s[p]? with
  | none => rw [hx] at h; cases h
  | some x =>
    rw [hx] at h
    by_cases hc : c x = true
    · simp only [hc, if_true] at h
      obtain ⟨q, t2, h1, h2, h3⟩ := star_last _ (p + 1) t h
      rcases h3 with rfl | ⟨y, h3, h4⟩
      · exact ⟨p + 1, t2, x, h1, by omega, by simpa using hx, hc⟩
      · exact ⟨q, t2, y, h1, by omega, h3, h4⟩
    · simp [hc] at h
theorem rng_none {s : Bs} (h : noWD s = true) (p : Nat) : rngS s p = none := by
  cases e : rngS s p with
  | none => rfl
  | some t =>
    exfalso
    have th := (Thru.star (N := s.length) (Thru.bC s ws)).comp ((Thru.cap 2).comp ((Thru.V s pB iB 4).comp (Thru.cap 3)))
    obtain ⟨q, t', h1⟩ := th _ p t e
    obtain ⟨r, t2, x, h2, h3, h4, h5⟩ := plus_last h1
    unfold bC at h2
    cases hx : s[r]? with
    | none => rw [hx] at h2; cases h2
    | some y =>
      rw [hx] at h2
      by_cases hc : (y == 45) = true
      · have := noWD_at h h4 h5
        rw [show r - 1 + 1 = r by omega, hx] at this
        exact this (by rw [beq_iff_eq.1 hc])
      · simp [hc] at h2
end Go.Proofs.YthejepmnnpmdmaaGreatDoor.Rx
end
