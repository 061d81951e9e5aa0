/- a part of the proof: FnCronListNext: for every six words, kind of field, part and instant the law function returns true and leaves its arguments as they were. No condition is added: the statement is the given one, the tied card. -/
import Derived.Test.YtjmgebhjkbcpcaaGreatDoorNG
import Derived.Test.YtjmgebhjkbcpcaaGreatDoorNK
import Derived.Test.YtjmgebhjkbcpcaaGreatDoorNH
import Derived.Deep.RegionHeld3
import Derived.Deep.DeepCutAuto
import Derived.Deep.CutRange
section
namespace CronPl
open Cal
/-- what the walk's local clock l (in seconds, as a function of the instant) has to obey: a zone as CronPlainZone has it -/
structure Plain (l : Int → Int) (rs : Int → Int) : Prop where
  step : ∀ x, l (x + 1) = l x + 1 ∨
    ((l x + 1) % 3600 = 0 ∧ l (x + 1) % 3600 = 0 ∧ l x + 1 - 3600 ≤ l (x + 1) ∧ (l x + 1) / 86400 = l (x + 1) / 86400 ∧ 3600 ≤ (l x + 1) % 86400 ∧ 3600 ≤ l (x + 1) % 86400)
  mod : ∀ x, l x % 60 = x % 60
  lo : ∀ x, x - 62135596800 - 86400 ≤ l x
  hi : ∀ x, l x ≤ x - 62135596800 + 86400
  mid : ∀ N, l (rs (86400 * N)) = 86400 * N
  hour : ∀ x, l (rs (l x - l x % 3600)) = l x - l x % 3600
variable {l rs : Int → Int} (P : Plain l rs)
include P
theorem Plain.h1 (x : Int) : l x / 3600 ≤ l (x + 1) / 3600 := by
  rcases P.step x with h | ⟨a, b, c, _⟩ <;> omega
theorem Plain.hmono (x : Int) (n : Nat) : l x / 3600 ≤ l (x + n) / 3600 := by
  induction n with
  | zero => simp
  | succ n ih => have := P.h1 (x + n); rw [show x + ((n + 1 : Nat) : Int) = x + n + 1 by omega]; omega
theorem Plain.hle {x y : Int} (h : x ≤ y) : l x / 3600 ≤ l y / 3600 := by
  have := P.hmono x (y - x).toNat
  rwa [show x + ((y - x).toNat : Int) = y by omega] at this
theorem Plain.dle {x y : Int} (h : x ≤ y) : l x / 86400 ≤ l y / 86400 := by
  have := P.hle h; omega
/-- from a place where the clocks show an hour's start, no change inside the hour -/
theorem Plain.inhour (x : Int) (h : l x % 3600 = 0) (n : Nat) (hn : n < 3600) : l (x + n) = l x + n := by
  induction n with
  | zero => simp
  | succ n ih =>
    have e := ih (by omega)
    rw [show x + ((n + 1 : Nat) : Int) = x + n + 1 by omega]
    rcases P.step (x + n) with hs | ⟨a, _⟩
    · omega
    · rw [e] at a; omega
/-- likewise inside a minute -/
theorem Plain.inmin (x : Int) (h : x % 60 = 0) (n : Nat) (hn : n < 60) : l (x + n) = l x + n := by
  have hm := P.mod x
  induction n with
  | zero => simp
  | succ n ih =>
    have e := ih (by omega)
    rw [show x + ((n + 1 : Nat) : Int) = x + n + 1 by omega]
    rcases P.step (x + n) with hs | ⟨a, _⟩
    · omega
    · rw [e] at a; omega
/-- ahead of a midnight the clocks show less -/
theorem Plain.below_mid {x v N : Int} (hx : l x = 86400 * N) (hv : v < x) : l v < 86400 * N := by
  have key : ∀ n : Nat, l (x - n) ≥ 86400 * N → l (x - n) = 86400 * N - n := by
    intro n
    induction n with
    | zero => intro _; simpa using hx
    | succ n ih =>
      intro hn
      have h1 := P.hle (show x - ((n + 1 : Nat) : Int) ≤ x by omega)
      have h2 := P.hle (show x - ((n + 1 : Nat) : Int) ≤ x - n by omega)
      have h3 := P.hle (show x - (n : Int) ≤ x by omega)
      have hge : l (x - n) ≥ 86400 * N := by omega
      have e := ih hge
      rcases P.step (x - ((n + 1 : Nat) : Int)) with hs | ⟨a, b, c, d, f, g⟩
      · rw [show x - ((n + 1 : Nat) : Int) + 1 = x - n by omega] at hs; omega
      · rw [show x - ((n + 1 : Nat) : Int) + 1 = x - n by omega] at b c d g; omega
  rcases Int.lt_or_le (l v) (86400 * N) with h | h
  · exact h
  · have := key (x - v).toNat (by rw [show x - ((x - v).toNat : Int) = v by omega]; exact h)
    rw [show x - ((x - v).toNat : Int) = v by omega] at this
    omega
omit P
/-- the search's data: the sets, the first second, the last year -/
structure Cx where
  mo : Int → Bool
  da : Int → Bool
  ho : Int → Bool
  mi : Int → Bool
  se : Int → Bool
  x0 : Int
  Y : Int
variable (c : Cx) (l : Int → Int)
def mOK (x : Int) : Prop := c.mo (gmonth (l x / 86400)) = true
def dOK (x : Int) : Prop := c.da (l x / 86400) = true
def hOK (x : Int) : Prop := c.ho (l x % 86400 / 3600) = true
def iOK (x : Int) : Prop := c.mi (l x % 3600 / 60) = true
def sOK (x : Int) : Prop := c.se (l x % 60) = true
def Match (x : Int) : Prop := mOK c l x ∧ dOK c l x ∧ hOK c l x ∧ iOK c l x ∧ sOK c l x
def NM (a b : Int) : Prop := ∀ v, a ≤ v → v < b → ¬ Match c l v
def top : Int := 86400 * ystart (c.Y + 1)
structure Al (x : Int) : Prop where
  a1 : l x % 60 = 0 ∨ (mOK c l x ∧ dOK c l x ∧ hOK c l x ∧ iOK c l x)
  a2 : l x % 3600 = 0 ∨ (mOK c l x ∧ dOK c l x ∧ hOK c l x)
  a3 : l x % 86400 = 0 ∨ (mOK c l x ∧ dOK c l x)
  a4 : (l x % 86400 = 0 ∧ gday (l x / 86400) = 1) ∨ mOK c l x
structure Inv (x : Int) (a : Bool) : Prop where
  nm : NM c l c.x0 x
  hi : l x ≤ top c
  no : a = false → x = c.x0
  al : a = true → Al c l x
  lb : c.x0 - 3000000 ≤ x
  ge : c.x0 ≤ x ∨ (l x / 3600 = l c.x0 / 3600 ∧ ¬ hOK c l x ∧ dOK c l x ∧ mOK c l x)
def bigB : Int := top c + 62135596800 + 86400
def mu (x : Int) (a : Bool) : Nat := (bigB c - x).toNat + (if a then 0 else 10000000)
theorem NM.ext {c : Cx} {l : Int → Int} {a b b' : Int} (h : NM c l a b) (h' : ∀ v, b ≤ v → v < b' → ¬ Match c l v) : NM c l a b' := fun v h0 h1 => by
  rcases Int.lt_or_le v b with hv | hv
  · exact h v h0 hv
  · exact h' v hv h1
theorem mu_lt {c : Cx} {l rs : Int → Int} (P : Plain l rs) {x x1 x2 : Int} {a : Bool} (h1 : a = true → x1 = x) (h2 : x - 3500000 ≤ x1) (h3 : x1 < x2) (hx : l x2 ≤ top c) : mu c x2 true < mu c x a := by
  have := P.lo x2
  unfold mu bigB
  cases a with
  | true => have := h1 rfl; simp; omega
  | false => simp; omega
theorem year_lt {c : Cx} {l : Int → Int} {x : Int} (h : gyear (l x / 86400) ≤ c.Y) : l x < top c := by
  have := (gdate (l x / 86400)).hi
  have := ystart_le (show gyear (l x / 86400) + 1 ≤ c.Y + 1 by omega)
  unfold top; omega
/-- the date of the first of a date's month, and of the next month's -/
theorem first_of {n y m d : Int} (h : IsDate n y m d) : IsDate (n - d + 1) y m 1 := by
  have a := mlen_bd y m
  have b := cum_le y 1 m h.m1
  rw [cum_one] at b
  have e := h.eq
  exact ⟨by omega, h.m1, h.m12, by omega, by omega, by omega⟩
theorem next_of {n y m d : Int} (h : IsDate n y m d) : (m < 12 → IsDate (n - d + 1 + mlen y m) y (m + 1) 1) ∧ (m = 12 → IsDate (n - d + 1 + mlen y m) (y + 1) 1 1) := by
  have a := mlen_bd y (m + 1)
  have a' := mlen_bd (y + 1) 1
  have b := cum_le y 1 m h.m1
  have s := cum_succ y m h.m1 h.m12
  rw [cum_one] at b
  have e := h.eq
  have hm := mlen_bd y m
  have hm1 := h.m1
  constructor
  · intro hl
    exact ⟨by omega, by omega, by omega, by omega, by omega, by omega⟩
  · intro hl
    subst hl
    have y1 := ystart_succ y
    have c13 := cum_13 y
    have c1 := cum_one (y + 1)
    rw [show (12 : Int) + 1 = 13 by rfl] at s
    exact ⟨by omega, by omega, by omega, by omega, by omega, by omega⟩
theorem month_const {n k y m d : Int} (h : IsDate n y m d) (h0 : n ≤ k) (h1 : k < n - d + 1 + mlen y m) : gmonth k = m := by
  have : IsDate k y m (d + (k - n)) := ⟨by have := h.lo; omega, h.m1, h.m12, by have := h.d1; omega, by omega, by have := h.eq; omega⟩
  exact this.toG.2.1
theorem Inv.month {c : Cx} {l rs : Int → Int} (P : Plain l rs) {x x1 x2 : Int} {a : Bool} (h : Inv c l x a) (hY : gyear (l x / 86400) ≤ c.Y) (hm : ¬ mOK c l x)
    (h1 : x1 = if a then x else rs (86400 * (l x / 86400 - gday (l x / 86400) + 1)))
    (h2 : x2 = rs (l x1 + 86400 * mlen (gyear (l x1 / 86400)) (gmonth (l x1 / 86400)))) :
    Inv c l x2 true ∧ mu c x2 true < mu c x a ∧ (gmonth (l x2 / 86400) ≠ 1 → gyear (l x2 / 86400) ≤ c.Y) ∧ l x1 = 86400 * (l x / 86400 - gday (l x / 86400) + 1) ∧ c.x0 - 3000000 ≤ x1 := by
  have hd := gdate (l x / 86400)
  have hy := year_lt hY
  have hml := mlen_bd (gyear (l x / 86400)) (gmonth (l x / 86400))
  have hg1 := hd.d1
  have hg2 := hd.dm
  have e1 : l x1 = 86400 * (l x / 86400 - gday (l x / 86400) + 1) := by
    rw [h1]
    cases a with
    | true =>
      simp only [if_true]
      rcases (h.al rfl).a4 with ⟨q, q'⟩ | q
      · rw [q']; omega
      · exact absurd q hm
    | false => simp only [Bool.false_eq_true, if_false]; exact P.mid _
  have f1 := first_of hd
  have e2 : l x1 / 86400 = l x / 86400 - gday (l x / 86400) + 1 := by omega
  obtain ⟨y1, m1, d1⟩ := f1.toG
  rw [e2, y1, m1] at h2
  have e3 : l x2 = 86400 * (l x / 86400 - gday (l x / 86400) + 1 + mlen (gyear (l x / 86400)) (gmonth (l x / 86400))) := by
    have q : l x1 + 86400 * mlen (gyear (l x / 86400)) (gmonth (l x / 86400)) = 86400 * (l x / 86400 - gday (l x / 86400) + 1 + mlen (gyear (l x / 86400)) (gmonth (l x / 86400))) := by omega
    rw [h2, q]; exact P.mid _
  have e4 : l x2 / 86400 = l x / 86400 - gday (l x / 86400) + 1 + mlen (gyear (l x / 86400)) (gmonth (l x / 86400)) := by omega
  have nx := next_of hd
  have hx1 : x - 3500000 + 550000 ≤ x1 := by
    have := P.lo x; have := P.hi x1; have := P.hi x; omega
  have hx12 : x1 < x2 := by have := P.lo x1; have := P.hi x2; have := P.hi x1; have := P.lo x2; omega
  have hN : l x2 ≤ top c := by
    have hys := hd.hi
    have a1 := cum_le (gyear (l x / 86400)) (gmonth (l x / 86400) + 1) 13 (by have := hd.m12; omega)
    have a2 := cum_succ (gyear (l x / 86400)) (gmonth (l x / 86400)) hd.m1 hd.m12
    have a3 := cum_13 (gyear (l x / 86400))
    have a4 := ystart_succ (gyear (l x / 86400))
    have a5 := ystart_le (show gyear (l x / 86400) + 1 ≤ c.Y + 1 by omega)
    have a6 := hd.eq
    unfold top; omega
  have hgd : gday (l x2 / 86400) = 1 := by
    rw [e4]
    have := hd.m12
    by_cases hl : gmonth (l x / 86400) < 12
    · exact (nx.1 hl).toG.2.2
    · exact (nx.2 (by omega)).toG.2.2
  refine ⟨⟨h.nm.ext ?_, hN, fun h => by simp at h, fun _ => ⟨.inl (by omega), .inl (by omega), .inl (by omega), .inl ⟨by omega, hgd⟩⟩, ?_, ?_⟩, mu_lt P (x1 := x1) (fun ha => by rw [h1, ha]; rfl) (by omega) hx12 hN, ?_, e1, ?_⟩
  · intro v hv0 hv1 hM
    have b1 := P.dle hv0
    have b2 := P.below_mid e3 hv1
    have := month_const hd b1 (k := l v / 86400) (by omega)
    apply hm
    have hm' := hM.1
    unfold mOK at hm' ⊢
    rwa [this] at hm'
  · cases a with
    | true => have := h.lb; have : x1 = x := by rw [h1]; rfl
              omega
    | false => have := h.no rfl; omega
  · left
    have hge : c.x0 ≤ x := by
      rcases h.ge with q | q
      · exact q
      · exact absurd q.2.2.2 hm
    rcases Int.lt_or_le x x2 with q | q
    · omega
    · have := P.dle q; omega
  · intro hne
    rw [e4] at hne ⊢
    have := hd.m12
    by_cases hl : gmonth (l x / 86400) < 12
    · rw [(nx.1 hl).toG.1]; exact hY
    · exact absurd (nx.2 (by omega)).toG.2.1 hne
  · cases a with
    | true => have := h.lb; have : x1 = x := by rw [h1]; rfl
              omega
    | false => have := h.no rfl; omega
theorem gday_step {n : Int} (h : gday (n + 1) ≠ 1) : gmonth (n + 1) = gmonth n ∧ gyear (n + 1) = gyear n := by
  have a := gdate n
  have b := next_of a
  have e : n - gday n + 1 + mlen (gyear n) (gmonth n) ≤ n + 1 → False := by
    intro hq
    have hdm := a.dm
    have hn : n + 1 = n - gday n + 1 + mlen (gyear n) (gmonth n) := by omega
    have hm := a.m12
    rw [hn] at h
    by_cases hl : gmonth n < 12
    · exact h (b.1 hl).toG.2.2
    · exact h (b.2 (by omega)).toG.2.2
  have : IsDate (n + 1) (gyear n) (gmonth n) (gday n + 1) := ⟨by have := a.lo; omega, a.m1, a.m12, by have := a.d1; omega, by
    rcases Int.lt_or_le (gday n) (mlen (gyear n) (gmonth n)) with hl | hl
    · omega
    · exact (e (by omega)).elim, by have := a.eq; omega⟩
  exact ⟨this.toG.2.1, this.toG.1⟩
theorem day_top {c : Cx} {l : Int → Int} {x : Int} (hY : gyear (l x / 86400) ≤ c.Y) : 86400 * (l x / 86400 + 1) ≤ top c := by
  have := year_lt hY; unfold top at *; omega
theorem Inv.day {c : Cx} {l rs : Int → Int} (P : Plain l rs) {x x1 x2 : Int} {a : Bool} (h : Inv c l x a) (hY : gyear (l x / 86400) ≤ c.Y) (hm : mOK c l x) (hd : ¬ dOK c l x)
    (h1 : x1 = if a then x else rs (86400 * (l x / 86400))) (h2 : x2 = rs (l x1 + 86400 * 1)) :
    Inv c l x2 true ∧ mu c x2 true < mu c x a ∧ (gday (l x2 / 86400) ≠ 1 → gyear (l x2 / 86400) ≤ c.Y ∧ mOK c l x2) ∧ l x1 = 86400 * (l x / 86400) ∧ c.x0 - 3000000 ≤ x1 ∧ l x2 % 86400 = 0 := by
  have hy := day_top hY
  have e1 : l x1 = 86400 * (l x / 86400) := by
    rw [h1]
    cases a with
    | true =>
      simp only [if_true]
      rcases (h.al rfl).a3 with q | q
      · omega
      · exact absurd q.2 hd
    | false => simp only [Bool.false_eq_true, if_false]; exact P.mid _
  have e3 : l x2 = 86400 * (l x / 86400 + 1) := by
    have q : l x1 + 86400 * 1 = 86400 * (l x / 86400 + 1) := by omega
    rw [h2, q]; exact P.mid _
  have e4 : l x2 / 86400 = l x / 86400 + 1 := by omega
  have hx1 : x - 3500000 + 550000 ≤ x1 := by
    have := P.lo x; have := P.hi x1; have := P.hi x; omega
  have hx12 : x1 < x2 := by
    rcases Int.lt_or_le x1 x2 with q | q
    · exact q
    · have := P.dle q; omega
  have hN : l x2 ≤ top c := by omega
  have hmx : gday (l x2 / 86400) ≠ 1 → mOK c l x2 := fun hne => by
    rw [e4] at hne
    have := (gday_step hne).1
    unfold mOK at hm ⊢; rw [e4, this]; exact hm
  refine ⟨⟨h.nm.ext ?_, hN, fun h => by simp at h, fun _ => ⟨.inl (by omega), .inl (by omega), .inl (by omega), ?_⟩, ?_, ?_⟩, mu_lt P (x1 := x1) (fun ha => by rw [h1, ha]; rfl) (by omega) hx12 hN, ?_, e1, ?_, by omega⟩
  · intro v hv0 hv1 hM
    have b1 := P.dle hv0
    have b2 := P.below_mid e3 hv1
    have : l v / 86400 = l x / 86400 := by omega
    apply hd
    have hm' := hM.2.1
    unfold dOK at hm' ⊢
    rwa [this] at hm'
  · by_cases hq : gday (l x2 / 86400) = 1
    · exact .inl ⟨by omega, hq⟩
    · exact .inr (hmx hq)
  · cases a with
    | true => have := h.lb; have : x1 = x := by rw [h1]; rfl
              omega
    | false => have := h.no rfl; omega
  · left
    have hge : c.x0 ≤ x := by
      rcases h.ge with q | q
      · exact q
      · exact absurd q.2.2.1 hd
    rcases Int.lt_or_le x x2 with q | q
    · omega
    · have := P.dle q; omega
  · intro hne
    refine ⟨?_, hmx hne⟩
    rw [e4] at hne ⊢
    rw [(gday_step hne).2]; exact hY
  · cases a with
    | true => have := h.lb; have : x1 = x := by rw [h1]; rfl
              omega
    | false => have := h.no rfl; omega
theorem Inv.hour {c : Cx} {l rs : Int → Int} (P : Plain l rs) {x x1 x2 : Int} {a : Bool} (h : Inv c l x a) (hY : gyear (l x / 86400) ≤ c.Y) (hm : mOK c l x) (hd : dOK c l x) (hh : ¬ hOK c l x)
    (h1 : x1 = if a then x else rs (l x - l x % 3600)) (h2 : x2 = x1 + 3600) :
    Inv c l x2 true ∧ mu c x2 true < mu c x a ∧ (l x2 % 86400 / 3600 ≠ 0 → gyear (l x2 / 86400) ≤ c.Y ∧ mOK c l x2 ∧ dOK c l x2) ∧ c.x0 - 3000000 ≤ x1 ∧ l x1 ≤ top c := by
  have hy := day_top hY
  have e1 : l x1 = l x - l x % 3600 := by
    rw [h1]
    cases a with
    | true =>
      simp only [if_true]
      rcases (h.al rfl).a2 with q | q
      · omega
      · exact absurd q.2.2 hh
    | false => simp only [Bool.false_eq_true, if_false]; exact P.hour _
  have hx1 : x - 3500000 + 550000 ≤ x1 := by
    have := P.lo x; have := P.hi x1; have := P.hi x; omega
  have hin := P.inhour x1 (by omega)
  have hl : l (x1 + 3599) = l x1 + 3599 := hin 3599 (by omega)
  have hst := P.step (x1 + 3599)
  rw [show x1 + 3599 + 1 = x2 by omega] at hst
  have hcase : l x2 = l x1 + 3600 ∨ (l x2 % 3600 = 0 ∧ l x2 / 86400 = l x / 86400 ∧ 3600 ≤ l x2 % 86400) := by
    rcases hst with q | ⟨q1, q2, q3, q4, q5, q6⟩
    · left; omega
    · right; omega
  have hN : l x2 ≤ top c := by omega
  have hday : l x2 % 86400 / 3600 ≠ 0 → l x2 / 86400 = l x / 86400 := fun hne => by
    rcases hcase with q | q <;> omega
  have hmd : l x2 % 86400 / 3600 ≠ 0 → mOK c l x2 ∧ dOK c l x2 := fun hne => by
    have := hday hne
    unfold mOK dOK at *; rw [this]; exact ⟨hm, hd⟩
  have hal : l x2 % 3600 = 0 := by rcases hcase with q | q <;> omega
  have hmo : (l x2 % 86400 = 0 ∧ gday (l x2 / 86400) = 1) ∨ mOK c l x2 := by
    by_cases hne : l x2 % 86400 / 3600 = 0
    · have hc : l x2 / 86400 = l x / 86400 + 1 ∨ l x2 / 86400 = l x / 86400 := by rcases hcase with q | q <;> omega
      by_cases hq : gday (l x2 / 86400) = 1
      · exact .inl ⟨by omega, hq⟩
      · right
        rcases hc with q | q
        · rw [q] at hq
          have := (gday_step hq).1
          unfold mOK at hm ⊢; rw [q, this]; exact hm
        · unfold mOK at hm ⊢; rw [q]; exact hm
    · exact .inr (hmd hne).1
  refine ⟨⟨h.nm.ext ?_, hN, fun h => by simp at h, fun _ => ⟨.inl (by omega), .inl hal, ?_, hmo⟩, ?_, ?_⟩, mu_lt P (x1 := x1) (fun ha => by rw [h1, ha]; rfl) (by omega) (by omega) hN, ?_, ?_, by omega⟩
  · intro v hv0 hv1 hM
    have b1 := P.hle hv0
    have b2 := P.hle (show v ≤ x1 + 3599 by omega)
    have : l v / 3600 = l x / 3600 := by
      omega
    apply hh
    have hm' := hM.2.2.1
    unfold hOK at hm' ⊢
    rwa [show l v % 86400 / 3600 = l x % 86400 / 3600 by omega] at hm'
  · by_cases hne : l x2 % 86400 / 3600 = 0
    · left; omega
    · exact .inr (hmd hne)
  · cases a with
    | true => have := h.lb; have : x1 = x := by rw [h1]; rfl
              omega
    | false => have := h.no rfl; omega
  · rcases Int.lt_or_le x2 c.x0 with q | q
    · right
      have key : l x2 / 3600 = l x / 3600 ∧ l c.x0 / 3600 = l x / 3600 := by
        have hge : c.x0 ≤ x ∨ (x1 = x ∧ l x / 3600 = l c.x0 / 3600) := by
          cases a with
          | true =>
            rcases h.ge with g | g
            · exact .inl g
            · exact .inr ⟨by rw [h1]; rfl, g.1⟩
          | false => exact .inl (by have := h.no rfl; omega)
        rcases hge with g | ⟨ha, g⟩
        · have b1 := P.hle (show x1 ≤ x2 by omega)
          have b2 := P.hle (show x2 ≤ c.x0 by omega)
          have b3 := P.hle g
          omega
        · have b1 := P.hle (show x ≤ x2 by omega)
          have b2 := P.hle (show x2 ≤ c.x0 by omega)
          omega
      have q1 : l x2 / 86400 = l x / 86400 := by omega
      have q2 : l x2 % 86400 / 3600 = l x % 86400 / 3600 := by omega
      refine ⟨by omega, ?_, ?_, ?_⟩
      · unfold hOK at *; rw [q2]; exact hh
      · unfold dOK at *; rw [q1]; exact hd
      · unfold mOK at *; rw [q1]; exact hm
    · exact .inl q
  · intro hne
    exact ⟨by rw [hday hne]; exact hY, hmd hne⟩
  · cases a with
    | true => have := h.lb; have : x1 = x := by rw [h1]; rfl
              omega
    | false => have := h.no rfl; omega
theorem Inv.minute {c : Cx} {l rs : Int → Int} (P : Plain l rs) {x x1 x2 : Int} {a : Bool} (h : Inv c l x a) (hY : gyear (l x / 86400) ≤ c.Y) (hm : mOK c l x) (hd : dOK c l x) (hh : hOK c l x) (hi : ¬ iOK c l x)
    (h1 : x1 = if a then x else x - x % 60) (h2 : x2 = x1 + 60) :
    Inv c l x2 true ∧ mu c x2 true < mu c x a ∧ (l x2 % 3600 / 60 ≠ 0 → gyear (l x2 / 86400) ≤ c.Y ∧ mOK c l x2 ∧ dOK c l x2 ∧ hOK c l x2) ∧ c.x0 - 3000000 ≤ x1 ∧ l x1 ≤ top c := by
  have hy := day_top hY
  have hmod := P.mod x
  have hx60 : x1 % 60 = 0 := by
    rw [h1]
    cases a with
    | true =>
      simp only [if_true]
      rcases (h.al rfl).a1 with q | q
      · omega
      · exact absurd q.2.2.2 hi
    | false => simp only [Bool.false_eq_true, if_false]; omega
  have hxx : x1 ≤ x ∧ x < x1 + 60 := by
    rw [h1]; cases a <;> simp <;> omega
  have hin := P.inmin x1 hx60
  have hlx := hin (x - x1).toNat (by omega)
  rw [show x1 + ((x - x1).toNat : Int) = x by omega] at hlx
  have e1 : l x1 = l x - (x - x1) := by omega
  have hm1 := P.mod x1
  have hl := hin 59 (by omega)
  have hst := P.step (x1 + 59)
  rw [show x1 + 59 + 1 = x2 by omega] at hst
  have hl' : l (x1 + 59) = l x1 + 59 := hl
  have hcase : l x2 = l x1 + 60 ∨ (l x2 % 3600 = 0 ∧ l x2 / 86400 = l x / 86400 ∧ 3600 ≤ l x2 % 86400) := by
    rcases hst with q | ⟨q1, q2, q3, q4, q5, q6⟩
    · left; omega
    · right; omega
  have hN : l x2 ≤ top c := by omega
  have hhr : l x2 % 3600 / 60 ≠ 0 → l x2 / 3600 = l x / 3600 := fun hne => by
    rcases hcase with q | q <;> omega
  have hall : l x2 % 3600 / 60 ≠ 0 → mOK c l x2 ∧ dOK c l x2 ∧ hOK c l x2 := fun hne => by
    have q := hhr hne
    have q1 : l x2 / 86400 = l x / 86400 := by omega
    have q2 : l x2 % 86400 / 3600 = l x % 86400 / 3600 := by omega
    unfold mOK dOK hOK at *; rw [q1, q2]; exact ⟨hm, hd, hh⟩
  have hal : l x2 % 60 = 0 := by rcases hcase with q | q <;> omega
  have hmd : l x2 % 86400 ≠ 0 → mOK c l x2 ∧ dOK c l x2 := fun hne => by
    have q1 : l x2 / 86400 = l x / 86400 := by rcases hcase with q | q <;> omega
    unfold mOK dOK at *; rw [q1]; exact ⟨hm, hd⟩
  have hmo : (l x2 % 86400 = 0 ∧ gday (l x2 / 86400) = 1) ∨ mOK c l x2 := by
    by_cases hne : l x2 % 86400 = 0
    · have hc : l x2 / 86400 = l x / 86400 + 1 ∨ l x2 / 86400 = l x / 86400 := by rcases hcase with q | q <;> omega
      by_cases hq : gday (l x2 / 86400) = 1
      · exact .inl ⟨hne, hq⟩
      · right
        rcases hc with q | q
        · rw [q] at hq
          have := (gday_step hq).1
          unfold mOK at hm ⊢; rw [q, this]; exact hm
        · unfold mOK at hm ⊢; rw [q]; exact hm
    · exact .inr (hmd hne).1
  refine ⟨⟨h.nm.ext ?_, hN, fun h => by simp at h, fun _ => ⟨.inl hal, ?_, ?_, hmo⟩, ?_, ?_⟩, mu_lt P (x1 := x1) (fun ha => by rw [h1, ha]; rfl) (by omega) (by omega) hN, ?_, ?_, by omega⟩
  · intro v hv0 hv1 hM
    have hv := hin (v - x1).toNat (by omega)
    rw [show x1 + ((v - x1).toNat : Int) = v by omega] at hv
    apply hi
    have hm' := hM.2.2.2.1
    unfold iOK at hm' ⊢
    rwa [show l v % 3600 / 60 = l x % 3600 / 60 by omega] at hm'
  · by_cases hne : l x2 % 3600 / 60 = 0
    · left; omega
    · exact .inr (hall hne)
  · by_cases hne : l x2 % 86400 = 0
    · exact .inl hne
    · exact .inr (hmd hne)
  · cases a with
    | true => have := h.lb; have : x1 = x := by rw [h1]; rfl
              omega
    | false => have := h.no rfl; omega
  · left
    rcases h.ge with q | q
    · omega
    · exact absurd hh q.2.1
  · intro hne
    exact ⟨by have := hhr hne; rw [show l x2 / 86400 = l x / 86400 by omega]; exact hY, hall hne⟩
  · cases a with
    | true => have := h.lb; have : x1 = x := by rw [h1]; rfl
              omega
    | false => have := h.no rfl; omega
theorem Inv.second {c : Cx} {l rs : Int → Int} (P : Plain l rs) {x x2 : Int} {a : Bool} (h : Inv c l x a) (hY : gyear (l x / 86400) ≤ c.Y) (hm : mOK c l x) (hd : dOK c l x) (hh : hOK c l x) (hi : iOK c l x) (hs : ¬ sOK c l x)
    (h2 : x2 = x + 1) :
    Inv c l x2 true ∧ mu c x2 true < mu c x a ∧ (l x2 % 60 ≠ 0 → gyear (l x2 / 86400) ≤ c.Y ∧ mOK c l x2 ∧ dOK c l x2 ∧ hOK c l x2 ∧ iOK c l x2) := by
  have hy := day_top hY
  have hmod := P.mod x
  have hst := P.step x
  rw [show x + 1 = x2 by omega] at hst
  have hcase : l x2 = l x + 1 ∨ (l x2 % 3600 = 0 ∧ l x2 / 86400 = l x / 86400 ∧ 3600 ≤ l x2 % 86400 ∧ (l x + 1) % 3600 = 0) := by
    rcases hst with q | ⟨q1, q2, q3, q4, q5, q6⟩
    · left; omega
    · right; omega
  have hN : l x2 ≤ top c := by omega
  have hhr : l x2 % 60 ≠ 0 → l x2 / 60 = l x / 60 := fun hne => by
    rcases hcase with q | q <;> omega
  have hall : l x2 % 60 ≠ 0 → mOK c l x2 ∧ dOK c l x2 ∧ hOK c l x2 ∧ iOK c l x2 := fun hne => by
    have q := hhr hne
    have q1 : l x2 / 86400 = l x / 86400 := by omega
    have q2 : l x2 % 86400 / 3600 = l x % 86400 / 3600 := by omega
    have q3 : l x2 % 3600 / 60 = l x % 3600 / 60 := by omega
    unfold mOK dOK hOK iOK at *; rw [q1, q2, q3]; exact ⟨hm, hd, hh, hi⟩
  have hge : c.x0 ≤ x := by
    rcases h.ge with q | q
    · exact q
    · exact absurd hh q.2.1
  by_cases h60 : l x2 % 60 = 0
  · have hhr2 : l x2 % 3600 ≠ 0 → mOK c l x2 ∧ dOK c l x2 ∧ hOK c l x2 := fun hne => by
      have q : l x2 / 3600 = l x / 3600 := by rcases hcase with q | q <;> omega
      have q1 : l x2 / 86400 = l x / 86400 := by omega
      have q2 : l x2 % 86400 / 3600 = l x % 86400 / 3600 := by omega
      unfold mOK dOK hOK at *; rw [q1, q2]; exact ⟨hm, hd, hh⟩
    have hmd : l x2 % 86400 ≠ 0 → mOK c l x2 ∧ dOK c l x2 := fun hne => by
      have q1 : l x2 / 86400 = l x / 86400 := by rcases hcase with q | q <;> omega
      unfold mOK dOK at *; rw [q1]; exact ⟨hm, hd⟩
    have hmo : (l x2 % 86400 = 0 ∧ gday (l x2 / 86400) = 1) ∨ mOK c l x2 := by
      by_cases hne : l x2 % 86400 = 0
      · have hc : l x2 / 86400 = l x / 86400 + 1 ∨ l x2 / 86400 = l x / 86400 := by rcases hcase with q | q <;> omega
        by_cases hq : gday (l x2 / 86400) = 1
        · exact .inl ⟨hne, hq⟩
        · right
          rcases hc with q | q
          · rw [q] at hq
            have := (gday_step hq).1
            unfold mOK at hm ⊢; rw [q, this]; exact hm
          · unfold mOK at hm ⊢; rw [q]; exact hm
      · exact .inr (hmd hne).1
    refine ⟨⟨h.nm.ext ?_, hN, fun h => by simp at h, fun _ => ⟨.inl h60, ?_, ?_, hmo⟩, by have := h.lb; omega, .inl (by omega)⟩, mu_lt P (x1 := x) (fun _ => rfl) (by omega) (by omega) hN, fun hne => absurd h60 hne⟩
    · intro v hv0 hv1 hM
      obtain rfl : v = x := by omega
      exact hs hM.2.2.2.2
    · by_cases hne : l x2 % 3600 = 0
      · exact .inl hne
      · exact .inr (hhr2 hne)
    · by_cases hne : l x2 % 86400 = 0
      · exact .inl hne
      · exact .inr (hmd hne)
  · have hq := hall h60
    refine ⟨⟨h.nm.ext ?_, hN, fun h => by simp at h, fun _ => ⟨.inr hq, .inr ⟨hq.1, hq.2.1, hq.2.2.1⟩, .inr ⟨hq.1, hq.2.1⟩, .inr hq.1⟩, by have := h.lb; omega, .inl (by omega)⟩, mu_lt P (x1 := x) (fun _ => rfl) (by omega) (by omega) hN, fun _ => ⟨by have := hhr h60; rw [show l x2 / 86400 = l x / 86400 by omega]; exact hY, hq⟩⟩
    intro v hv0 hv1 hM
    obtain rfl : v = x := by omega
    exact hs hM.2.2.2.2
theorem found {c : Cx} {l : Int → Int} {x : Int} {a : Bool} (h : Inv c l x a) (hm : mOK c l x) (hd : dOK c l x) (hh : hOK c l x) (hi : iOK c l x) (hs : sOK c l x) : Match c l x ∧ NM c l c.x0 x ∧ c.x0 ≤ x :=
  ⟨⟨hm, hd, hh, hi, hs⟩, h.nm, by
    rcases h.ge with q | q
    · exact q
    · exact absurd hh q.2.1⟩
theorem none_left {c : Cx} {l rs : Int → Int} (P : Plain l rs) {x : Int} {a : Bool} (h : Inv c l x a) (hY : c.Y < gyear (l x / 86400)) (v : Int) (h0 : c.x0 ≤ v) (hv : gyear (l v / 86400) ≤ c.Y) : ¬ Match c l v := by
  rcases Int.lt_or_le v x with q | q
  · exact h.nm v h0 q
  · have := P.dle q
    have a1 := (gdate (l x / 86400)).lo
    have a2 := (gdate (l v / 86400)).hi
    have a3 := ystart_le (show gyear (l v / 86400) + 1 ≤ gyear (l x / 86400) by omega)
    omega
end CronPl
end
section
set_option linter.unusedVariables false
set_option linter.unusedSimpArgs false
namespace Go.Proofs.YtjmgebhjkbcpcaaGreatDoor.NM
open Go.RowKit Cal CronPl
/-- the location that the search uses: of the call's own (UTC) or old -/
def LocQ (w wx : World) (b : Nat) : Option Zone → Prop
  | none => w.heap.size + 2 ≤ b ∧ b < wx.heap.size ∧ wx.cell? ⟨b, 0, none⟩ = some (.bool true) ∧ wx.cell? ⟨b, 2, none⟩ = some (.slice none 0 0)
  | some z => LocP w b (some z)
theorem LocQ.p {w wx : World} {b : Nat} {z : Option Zone} (h : LocQ w wx b z) (hb : Below w.heap.size w wx) : LocP wx b z := by
  cases z with
  | none => exact ⟨h.2.2.1, h.2.2.2⟩
  | some z => exact LocP.below (w := w) h hb
structure NS (w wx : World) (L : Option Addr) (z : Option Zone) (bL bO bs : Nat) (S : Sets) (x : Int) : Prop where
  bel : Below w.heap.size w wx
  sz : w.heap.size + 2 ≤ wx.heap.size
  t0 : wx.cell? ⟨w.heap.size, 0, none⟩ = some (.int .u64 0)
  t1 : wx.cell? ⟨w.heap.size, 1, none⟩ = some (.int .i64 x)
  t2 : wx.cell? ⟨w.heap.size, 2, none⟩ = some (.pointer L)
  fr : ∀ o, wx.frozen? ⟨w.heap.size, o, none⟩ = false
  r0 : wx.cell? ⟨w.heap.size + 1, 0, none⟩ = some (.int .u64 0)
  r1 : wx.cell? ⟨w.heap.size + 1, 1, none⟩ = some (.int .i64 0)
  r2 : wx.cell? ⟨w.heap.size + 1, 2, none⟩ = some (.pointer none)
  rf : ∀ o, wx.frozen? ⟨w.heap.size + 1, o, none⟩ = false
  lL : LocQ w wx bL z
  cL : canon bL z = L
  lO : LocQ w wx bO z
  cO : canon bO z = L
  tl : TLoc w L z
  sp : SpecAt w bs S
section
variable {w wx : World} {L : Option Addr} {z : Option Zone} {bL bO bs : Nat} {S : Sets} {x : Int}
theorem LocQ.call {b : Nat} {wx' : World} (h : LocQ w wx b z) (hb : Below wx.heap.size wx wx') : LocQ w wx' b z := by
  cases z with
  | none => exact ⟨h.1, Nat.lt_of_lt_of_le h.2.1 hb.size, keep hb h.2.2.1, keep hb h.2.2.2⟩
  | some z => exact h
theorem NS.call {wx' : World} (h : NS w wx L z bL bO bs S x) (hb : Below wx.heap.size wx wx') : NS w wx' L z bL bO bs S x := by
  have h1 : w.heap.size < wx.heap.size := by have := h.sz; omega
  have h2 : w.heap.size + 1 < wx.heap.size := by have := h.sz; omega
  exact ⟨h.bel.trans (hb.mono h.bel.size), Nat.le_trans h.sz hb.size, keep hb h.t0, keep hb h.t1, keep hb h.t2, fun o => (hb.frozen (p := ⟨w.heap.size, o, none⟩) h1).trans (h.fr o),
    keep hb h.r0, keep hb h.r1, keep hb h.r2, fun o => (hb.frozen (p := ⟨w.heap.size + 1, o, none⟩) h2).trans (h.rf o), h.lL.call hb, h.cL, h.lO.call hb, h.cO, h.tl, h.sp⟩
theorem NS.drew (h : NS w wx L z bL bO bs S x) : NS w wx.drew L z bL bO bs S x := h.call (Below.refl _ _).drew
theorem setc_other {W : World} {b o b' o' : Nat} (v : Value) (h : b' ≠ b) : (W.setCell ⟨b, o, none⟩ v).cell? ⟨b', o', none⟩ = W.cell? ⟨b', o', none⟩ :=
  World.cell?_of_block (w := W) (Below.heap_setCell _ _ _ _ h)
theorem setf_other {W : World} {b o b' o' : Nat} (v : Value) (h : b' ≠ b) : (W.setCell ⟨b, o, none⟩ v).frozen? ⟨b', o', none⟩ = W.frozen? ⟨b', o', none⟩ :=
  World.frozen?_of_block (w := W) (Below.heap_setCell _ _ _ _ h)
theorem LocQ.set {b o : Nat} (v : Value) (h : LocQ w wx b z) : LocQ w (wx.setCell ⟨w.heap.size, o, none⟩ v) b z := by
  cases z with
  | none => exact ⟨h.1, by have := h.2.1; simpa [World.setCell] using this, (setc_other v (by have := h.1; omega)).trans h.2.2.1, (setc_other v (by have := h.1; omega)).trans h.2.2.2⟩
  | some z => exact h
theorem NS.store (h : NS w wx L z bL bO bs S x) (x' : Int) : NS w (((wx.setCell ⟨w.heap.size, 0, none⟩ (.int .u64 0)).setCell ⟨w.heap.size, 1, none⟩ (.int .i64 x')).setCell ⟨w.heap.size, 2, none⟩ (.pointer L)) L z bL bO bs S x' := by
  have h0 := h.t0
  have h1 := h.t1
  have h2 := h.t2
  refine ⟨((h.bel.setCell (by simp) _).setCell (by simp) _).setCell (by simp) _, by have := h.sz; simpa [World.setCell] using this, ?_, ?_, ?_, fun o => ?_, ?_, ?_, ?_, fun o => ?_, ((h.lL.set _).set _).set _, h.cL, ((h.lO.set _).set _).set _, h.cO, h.tl, h.sp⟩
  · simp [go_sem, h0, h1, h2]
  · simp [go_sem, h0, h1, h2]
  · simp [go_sem, h0, h1, h2]
  · have := h.fr o; simp [go_sem, this]
  · rw [setc_other _ (by omega), setc_other _ (by omega), setc_other _ (by omega)]; exact h.r0
  · rw [setc_other _ (by omega), setc_other _ (by omega), setc_other _ (by omega)]; exact h.r1
  · rw [setc_other _ (by omega), setc_other _ (by omega), setc_other _ (by omega)]; exact h.r2
  · rw [setf_other _ (by omega), setf_other _ (by omega), setf_other _ (by omega)]; exact h.rf o
theorem NS.tloc (h : NS w wx L z bL bO bs S x) : TLoc wx L z := h.tl.below h.bel
theorem NS.spec (h : NS w wx L z bL bO bs S x) : SpecAt wx bs S := h.sp.below h.bel
end
end Go.Proofs.YtjmgebhjkbcpcaaGreatDoor.NM
end
section
set_option linter.unusedVariables false
set_option linter.unusedSimpArgs false
set_option maxRecDepth 100000
namespace Go.Proofs.YtjmgebhjkbcpcaaGreatDoor.NM
open Go.RowKit Cal CronPl
theorem exists_min (p : Nat → Prop) (h : ∃ n, p n) : ∃ n, p n ∧ ∀ m, p m → n ≤ m := by
  obtain ⟨n, hn⟩ := h
  induction n using Nat.strongRecOn with
  | _ n ih =>
    by_cases hq : ∃ m, m < n ∧ p m
    · obtain ⟨m, hm, hp⟩ := hq
      exact ih m hm hp
    · exact ⟨n, hn, fun m hm => by
        rcases Nat.lt_or_ge m n with h | h
        · exact absurd ⟨m, h, hm⟩ hq
        · exact h⟩
open Classical in
noncomputable def least (p : Nat → Prop) : Nat := if h : ∃ n, p n then (exists_min p h).choose else 0
theorem least_le {p : Nat → Prop} {n : Nat} (h : p n) : least p ≤ n := by
  unfold least; rw [dif_pos ⟨n, h⟩]; exact (exists_min p ⟨n, h⟩).choose_spec.2 n h
theorem least_spec {p : Nat → Prop} {n : Nat} (h : p n) : p (least p) := by
  unfold least; rw [dif_pos ⟨n, h⟩]; exact (exists_min p ⟨n, h⟩).choose_spec.1
/-- a loop by a measure that stands in no slot -/
theorem wp_loop_ghost {P : Program} {Q : Exit → Act → World → Prop} {a : Act} {w : World} {c : Code} (I : Nat → Act → World → Prop) (n : Nat) (h₀ : I n a w)
    (round : ∀ n a w, I n a w → c.wp P (Exit.then (fun a' w' => ∃ m, m < n ∧ I m a' w') Q) a w) : (Code.loop c).wp P Q a w := by
  refine wp_loop (fun a w => ∃ n, I n a w) (fun a w => least fun n => I n a w) ⟨n, h₀⟩ fun a w ⟨n, hn⟩ => ?_
  refine wp_mono (round _ a w (least_spec (p := fun n => I n a w) hn)) fun e a' w' hq => ?_
  cases e with
  | normal =>
    obtain ⟨m, hm, hI⟩ := hq
    exact ⟨⟨m, hI⟩, Nat.lt_of_le_of_lt (least_le (p := fun n => I n a' w') hI) hm⟩
  | _ => exact hq
/-- a scope with a label that is jumped back to, likewise -/
theorem wp_scope_ghost {P : Program} {Q : Exit → Act → World → Prop} {a : Act} {w : World} {c rest : Code} (l : Nat) (J : Nat → Act → World → Prop) (hf : findLabel c l = some rest)
    (first : c.wp P (Exit.jump l (fun a w => ∃ n, J n a w) Q) a w)
    (pass : ∀ n a w, J n a w → rest.wp P (Exit.jump l (fun a' w' => ∃ m, m < n ∧ J m a' w') Q) a w) : (Code.scope c).wp P Q a w := by
  refine wp_scope_jumps l (fun a w => ∃ n, J n a w) (fun a w => least fun n => J n a w) hf first fun a w ⟨n, hn⟩ => ?_
  refine wp_mono (pass _ a w (least_spec (p := fun n => J n a w) hn)) fun e a' w' hq => ?_
  cases e with
  | goto l' =>
    obtain ⟨hl, m, hm, hJ⟩ := hq
    exact ⟨hl, ⟨m, hJ⟩, Nat.lt_of_le_of_lt (least_le (p := fun n => J n a' w') hJ) hm⟩
  | _ => exact hq
def findBlock (id : Nat) : Code → Option Code
  | .seq a b => match findBlock id a with
    | some c => some c
    | none => findBlock id b
  | .block i c => if i = id then some c else findBlock id c
  | .scope c => findBlock id c
  | .cond _ a b => match findBlock id a with
    | some c => some c
    | none => findBlock id b
  | .loop c => findBlock id c
  | _ => none
def unloop : Code → Code
  | .loop c => c
  | c => c
noncomputable def body70 (id : Nat) : Code := unloop (((Tryz.f177.body).bind (findBlock id)).getD .skip)
/-- the frame of the search: what is named, and scratch -/
abbrev fr70 (w : World) (bs bO bL : Nat) (ar : Value) (a : Bool) (Y : Int) (U : Nat → Value) : Act := { tmps := (.pointer (some ⟨bs, 0, none⟩) :: ar :: undef :: .pointer (some ⟨w.heap.size, 0, none⟩) :: .pointer (some ⟨w.heap.size + 1, 0, none⟩) :: .pointer (some ⟨bO, 0, none⟩) :: .pointer (some ⟨bL, 0, none⟩) :: .bool a :: .int .i64 Y :: U 9 :: U 10 :: U 11 :: U 12 :: U 13 :: U 14 :: U 15 :: U 16 :: U 17 :: U 18 :: U 19 :: U 20 :: U 21 :: U 22 :: U 23 :: U 24 :: U 25 :: U 26 :: U 27 :: U 28 :: U 29 :: U 30 :: U 31 :: U 32 :: U 33 :: U 34 :: U 35 :: U 36 :: U 37 :: U 38 :: U 39 :: U 40 :: U 41 :: U 42 :: U 43 :: U 44 :: U 45 :: U 46 :: U 47 :: U 48 :: U 49 :: U 50 :: U 51 :: U 52 :: U 53 :: U 54 :: U 55 :: U 56 :: U 57 :: U 58 :: U 59 :: U 60 :: U 61 :: U 62 :: U 63 :: U 64 :: U 65 :: U 66 :: U 67 :: U 68 :: U 69 :: U 70 :: U 71 :: U 72 :: U 73 :: U 74 :: U 75 :: U 76 :: U 77 :: U 78 :: U 79 :: U 80 :: U 81 :: U 82 :: U 83 :: U 84 :: U 85 :: U 86 :: U 87 :: U 88 :: U 89 :: U 90 :: U 91 :: U 92 :: U 93 :: U 94 :: U 95 :: U 96 :: U 97 :: U 98 :: U 99 :: U 100 :: U 101 :: U 102 :: U 103 :: U 104 :: U 105 :: U 106 :: U 107 :: U 108 :: U 109 :: U 110 :: U 111 :: U 112 :: U 113 :: U 114 :: U 115 :: U 116 :: U 117 :: U 118 :: U 119 :: U 120 :: U 121 :: U 122 :: U 123 :: U 124 :: U 125 :: U 126 :: U 127 :: U 128 :: U 129 :: U 130 :: U 131 :: U 132 :: U 133 :: U 134 :: U 135 :: U 136 :: U 137 :: U 138 :: U 139 :: U 140 :: U 141 :: U 142 :: U 143 :: U 144 :: U 145 :: U 146 :: U 147 :: U 148 :: U 149 :: U 150 :: U 151 :: U 152 :: U 153 :: U 154 :: U 155 :: U 156 :: U 157 :: U 158 :: U 159 :: U 160 :: U 161 :: U 162 :: U 163 :: U 164 :: U 165 :: U 166 :: U 167 :: U 168 :: U 169 :: U 170 :: U 171 :: []).toArray, defers := [] }
theorem fr_ex {w : World} {bs bO bL : Nat} {ar : Value} {a : Bool} {Y : Int} {t9 t10 t11 t12 t13 t14 t15 t16 t17 t18 t19 t20 t21 t22 t23 t24 t25 t26 t27 t28 t29 t30 t31 t32 t33 t34 t35 t36 t37 t38 t39 t40 t41 t42 t43 t44 t45 t46 t47 t48 t49 t50 t51 t52 t53 t54 t55 t56 t57 t58 t59 t60 t61 t62 t63 t64 t65 t66 t67 t68 t69 t70 t71 t72 t73 t74 t75 t76 t77 t78 t79 t80 t81 t82 t83 t84 t85 t86 t87 t88 t89 t90 t91 t92 t93 t94 t95 t96 t97 t98 t99 t100 t101 t102 t103 t104 t105 t106 t107 t108 t109 t110 t111 t112 t113 t114 t115 t116 t117 t118 t119 t120 t121 t122 t123 t124 t125 t126 t127 t128 t129 t130 t131 t132 t133 t134 t135 t136 t137 t138 t139 t140 t141 t142 t143 t144 t145 t146 t147 t148 t149 t150 t151 t152 t153 t154 t155 t156 t157 t158 t159 t160 t161 t162 t163 t164 t165 t166 t167 t168 t169 t170 t171 : Value} : ∃ U, ({ tmps := (.pointer (some ⟨bs, 0, none⟩) :: ar :: undef :: .pointer (some ⟨w.heap.size, 0, none⟩) :: .pointer (some ⟨w.heap.size + 1, 0, none⟩) :: .pointer (some ⟨bO, 0, none⟩) :: .pointer (some ⟨bL, 0, none⟩) :: .bool a :: .int .i64 Y :: t9 :: t10 :: t11 :: t12 :: t13 :: t14 :: t15 :: t16 :: t17 :: t18 :: t19 :: t20 :: t21 :: t22 :: t23 :: t24 :: t25 :: t26 :: t27 :: t28 :: t29 :: t30 :: t31 :: t32 :: t33 :: t34 :: t35 :: t36 :: t37 :: t38 :: t39 :: t40 :: t41 :: t42 :: t43 :: t44 :: t45 :: t46 :: t47 :: t48 :: t49 :: t50 :: t51 :: t52 :: t53 :: t54 :: t55 :: t56 :: t57 :: t58 :: t59 :: t60 :: t61 :: t62 :: t63 :: t64 :: t65 :: t66 :: t67 :: t68 :: t69 :: t70 :: t71 :: t72 :: t73 :: t74 :: t75 :: t76 :: t77 :: t78 :: t79 :: t80 :: t81 :: t82 :: t83 :: t84 :: t85 :: t86 :: t87 :: t88 :: t89 :: t90 :: t91 :: t92 :: t93 :: t94 :: t95 :: t96 :: t97 :: t98 :: t99 :: t100 :: t101 :: t102 :: t103 :: t104 :: t105 :: t106 :: t107 :: t108 :: t109 :: t110 :: t111 :: t112 :: t113 :: t114 :: t115 :: t116 :: t117 :: t118 :: t119 :: t120 :: t121 :: t122 :: t123 :: t124 :: t125 :: t126 :: t127 :: t128 :: t129 :: t130 :: t131 :: t132 :: t133 :: t134 :: t135 :: t136 :: t137 :: t138 :: t139 :: t140 :: t141 :: t142 :: t143 :: t144 :: t145 :: t146 :: t147 :: t148 :: t149 :: t150 :: t151 :: t152 :: t153 :: t154 :: t155 :: t156 :: t157 :: t158 :: t159 :: t160 :: t161 :: t162 :: t163 :: t164 :: t165 :: t166 :: t167 :: t168 :: t169 :: t170 :: t171 :: []).toArray, defers := [] } : Act) = fr70 w bs bO bL ar a Y U :=
  ⟨fun i => [t9, t10, t11, t12, t13, t14, t15, t16, t17, t18, t19, t20, t21, t22, t23, t24, t25, t26, t27, t28, t29, t30, t31, t32, t33, t34, t35, t36, t37, t38, t39, t40, t41, t42, t43, t44, t45, t46, t47, t48, t49, t50, t51, t52, t53, t54, t55, t56, t57, t58, t59, t60, t61, t62, t63, t64, t65, t66, t67, t68, t69, t70, t71, t72, t73, t74, t75, t76, t77, t78, t79, t80, t81, t82, t83, t84, t85, t86, t87, t88, t89, t90, t91, t92, t93, t94, t95, t96, t97, t98, t99, t100, t101, t102, t103, t104, t105, t106, t107, t108, t109, t110, t111, t112, t113, t114, t115, t116, t117, t118, t119, t120, t121, t122, t123, t124, t125, t126, t127, t128, t129, t130, t131, t132, t133, t134, t135, t136, t137, t138, t139, t140, t141, t142, t143, t144, t145, t146, t147, t148, t149, t150, t151, t152, t153, t154, t155, t156, t157, t158, t159, t160, t161, t162, t163, t164, t165, t166, t167, t168, t169, t170, t171].getD (i - 9) undef, rfl⟩

/-- the search's data -/
def cxOf (S : Sets) (x0 Y : Int) : Cx := ⟨hit S.mon, dayHit S, hit S.ho, hit S.mi, hit S.se, x0, Y⟩
/-- what holds at a loop's head: the frame, the memory, the search's invariant -/
structure Head (w : World) (bs bO bL : Nat) (ar : Value) (L : Option Addr) (z : Option Zone) (S : Sets) (x0 Y : Int) (x : Int) (a : Bool) (a' : Act) (wx : World) : Prop where
  fr : ∃ U, a' = fr70 w bs bO bL ar a Y U
  ns : NS w wx L z bL bO bs S x
  iv : Inv (cxOf S x0 Y) (lo z) x a
def JW (w : World) (bs bO bL : Nat) (ar : Value) (L : Option Addr) (z : Option Zone) (S : Sets) (x0 Y : Int) (n : Nat) (a' : Act) (wx : World) : Prop :=
  ∃ x a, Head w bs bO bL ar L z S x0 Y x a a' wx ∧ mu (cxOf S x0 Y) x a = n
/-- the rest of what a loop's head knows: the year, and the fields that are right already -/
def Lev (S : Sets) (x0 Y : Int) (z : Option Zone) (k : Nat) (x : Int) : Prop :=
  gyear (lo z x / 86400) ≤ Y ∧ (1 ≤ k → mOK (cxOf S x0 Y) (lo z) x) ∧ (2 ≤ k → dOK (cxOf S x0 Y) (lo z) x) ∧ (3 ≤ k → hOK (cxOf S x0 Y) (lo z) x) ∧ (4 ≤ k → iOK (cxOf S x0 Y) (lo z) x) ∧ (5 ≤ k → sOK (cxOf S x0 Y) (lo z) x)
def IL (w : World) (bs bO bL : Nat) (ar : Value) (L : Option Addr) (z : Option Zone) (S : Sets) (x0 Y : Int) (top k : Nat) (n : Nat) (a' : Act) (wx : World) : Prop :=
  ∃ x a, Head w bs bO bL ar L z S x0 Y x a a' wx ∧ mu (cxOf S x0 Y) x a = n ∧ n ≤ top ∧ Lev S x0 Y z k x

theorem tAdd1 (n x : Int) (L : Option Addr) (w : World) (hn : Nan n) (h0 : 0 ≤ x) (h1 : x ≤ 2000000000000) :
    Calls Tryz.prog 179 #[.agg #[.int .u64 n, .int .i64 x, .pointer L], .int .i64 (1000000000 - n)] w fun e w' => e = .returned (.agg #[.int .u64 0, .int .i64 (x + 1), .pointer L]) ∧ Below w.heap.size w w' := by
  obtain ⟨n0, n1⟩ := hn
  by_cases hz : n = 0
  · subst hz
    exact tAdd0 x _ 1 L w (by omega) h1 (by decide) (by decide) (by decide) (by decide)
  · exact tAddN n x _ 1 L w (by omega) n1 h0 h1 (by omega) (by omega) (by omega) (by omega)
end Go.Proofs.YtjmgebhjkbcpcaaGreatDoor.NM
end
section
set_option linter.unusedVariables false
set_option linter.unusedSimpArgs false
set_option maxRecDepth 100000
namespace Go.Proofs.YtjmgebhjkbcpcaaGreatDoor.NM
open Go.RowKit Cal CronPl
theorem gy_bd (D : Int) (h0 : -719350 ≤ D) (h1 : D ≤ 9000000) : -900 ≤ gyear D ∧ gyear D ≤ 50000 := by
  have hg := gdate D
  have a := hg.hi
  have b := hg.lo
  unfold ystart at a b; omega
theorem dmk_first (z : Option Zone) (D : Int) (b : Nat) (w : World) (hL : LocP w b z) (h0 : -719350 ≤ D) (h1 : D ≤ 9000000) :
    Calls Tryz.prog 182 #[.int .i64 (gyear D), .int .i64 (gmonth D), .int .i64 1, .int .i64 0, .int .i64 0, .int .i64 0, .int .i64 0, .pointer (some ⟨b, 0, none⟩)] w
      fun e w' => e = .returned (.agg #[.int .u64 0, .int .i64 (reso z (86400 * (D - gday D + 1)) + 62135596800), .pointer (canon b z)]) ∧ Below w.heap.size w w' := by
  have hy := gy_bd D h0 h1
  have hg := gdate D
  have hm := mlen_bd (gyear D) (gmonth D)
  have e := hg.eq
  have d1 := hg.d1
  have dm := hg.dm
  exact dmk _ _ (gyear D) (gmonth D) 1 0 0 0 hg.m1 (by have := hg.m12; omega) (norm_h0 _ _ hg.m1 hg.m12) b w (by omega) (by omega) hg.m1 hg.m12 (by omega) (by omega) (by omega) (by omega) (by omega) (by omega) (by omega) (by omega)
    (D - gday D + 1) _ (by omega) (by omega) z hL (by omega) (by omega)
theorem dmk_day (z : Option Zone) (D : Int) (b : Nat) (w : World) (hL : LocP w b z) (h0 : -719350 ≤ D) (h1 : D ≤ 9000000) :
    Calls Tryz.prog 182 #[.int .i64 (gyear D), .int .i64 (gmonth D), .int .i64 (gday D), .int .i64 0, .int .i64 0, .int .i64 0, .int .i64 0, .pointer (some ⟨b, 0, none⟩)] w
      fun e w' => e = .returned (.agg #[.int .u64 0, .int .i64 (reso z (86400 * D) + 62135596800), .pointer (canon b z)]) ∧ Below w.heap.size w w' := by
  have hy := gy_bd D h0 h1
  have hg := gdate D
  have hm := mlen_bd (gyear D) (gmonth D)
  have e := hg.eq
  have d1 := hg.d1
  have dm := hg.dm
  exact dmk _ _ (gyear D) (gmonth D) (gday D) 0 0 0 hg.m1 (by have := hg.m12; omega) (norm_h0 _ _ hg.m1 hg.m12) b w (by omega) (by omega) hg.m1 hg.m12 (by omega) (by omega) (by omega) (by omega) (by omega) (by omega) (by omega) (by omega)
    D _ (by omega) (by omega) z hL (by omega) (by omega)
theorem dmk_hour (z : Option Zone) (l : Int) (b : Nat) (w : World) (hL : LocP w b z) (h0 : -62150000000 ≤ l) (h1 : l ≤ 770000000000) :
    Calls Tryz.prog 182 #[.int .i64 (gyear (l / 86400)), .int .i64 (gmonth (l / 86400)), .int .i64 (gday (l / 86400)), .int .i64 (l % 86400 / 3600), .int .i64 0, .int .i64 0, .int .i64 0, .pointer (some ⟨b, 0, none⟩)] w
      fun e w' => e = .returned (.agg #[.int .u64 0, .int .i64 (reso z (l - l % 3600) + 62135596800), .pointer (canon b z)]) ∧ Below w.heap.size w w' := by
  have hy := gy_bd (l / 86400) (by omega) (by omega)
  have hg := gdate (l / 86400)
  have hm := mlen_bd (gyear (l / 86400)) (gmonth (l / 86400))
  have e := hg.eq
  have d1 := hg.d1
  have dm := hg.dm
  exact dmk _ _ (gyear (l / 86400)) (gmonth (l / 86400)) (gday (l / 86400)) (l % 86400 / 3600) 0 0 hg.m1 (by have := hg.m12; omega) (norm_h0 _ _ hg.m1 hg.m12) b w (by omega) (by omega) hg.m1 hg.m12 (by omega) (by omega) (by omega) (by omega) (by omega) (by omega) (by omega) (by omega)
    (l / 86400) _ (by omega) (by omega) z hL (by omega) (by omega)
end Go.Proofs.YtjmgebhjkbcpcaaGreatDoor.NM
end
section
set_option linter.unusedVariables false
set_option linter.unusedSimpArgs false
set_option maxRecDepth 100000
namespace Go.Proofs.YtjmgebhjkbcpcaaGreatDoor.NM
open Go.RowKit Cal CronPl
theorem bits_nn (x y : Int) : 0 ≤ bits BinOp.and IntKind.u64 x y := by
  unfold bits
  simp only [IntKind.wrap, IntKind.bits, IntKind.signed]
  simp; omega
theorem not_hit (v k : Int) : (bits BinOp.and IntKind.u64 (IntKind.u64.wrap (2 ^ k.toNat)) v == 0) = !hit v k := by
  have := bits_nn (IntKind.u64.wrap (2 ^ k.toNat)) v
  unfold hit
  rw [Bool.eq_iff_iff]; simp; omega
structure Rng (x0 Y : Int) : Prop where
  l0 : 0 ≤ x0
  l1 : x0 ≤ 800000000000
  y0 : -10 ≤ Y
  y1 : Y ≤ 26000
theorem top_le {Y : Int} (h : Y ≤ 26000) : 86400 * ystart (Y + 1) ≤ 760000000000 := by unfold ystart; omega
theorem Head.rng {w : World} {bs bO bL : Nat} {ar : Value} {L : Option Addr} {z : Option Zone} {S : Sets} {x0 Y x : Int} {a : Bool} {a' : Act} {wx : World}
    (h : Head w bs bO bL ar L z S x0 Y x a a' wx) (hr : Rng x0 Y) : -3000000 ≤ x ∧ x ≤ 830000000000 ∧ -62150000000 ≤ lo z x ∧ lo z x ≤ 760000000000 := by
  have h1 := h.iv.lb
  have h2 := h.iv.hi
  have h3 := h.ns.tl.off_bd (x - 62135596800)
  have h4 := top_le hr.y1
  have h5 := hr.l0
  unfold CronPl.top at h2
  simp only [cxOf] at h1 h2
  unfold lo at *
  omega
def QM (k : Nat) (E G : Act → World → Prop) : Exit → Act → World → Prop
  | .exit i, a, w => i = k ∧ E a w
  | .goto l, a, w => l = 0 ∧ G a w
  | _, _, _ => False
theorem inv_rng {w : World} {L : Option Addr} {z : Option Zone} {S : Sets} {x0 Y x : Int} {a : Bool} (tl : TLoc w L z) (iv : Inv (cxOf S x0 Y) (lo z) x a) (hr : Rng x0 Y) :
    -3000000 ≤ x ∧ x ≤ 830000000000 ∧ -62150000000 ≤ lo z x ∧ lo z x ≤ 760000000000 := by
  have h1 := iv.lb
  have h2 := iv.hi
  have h3 := tl.off_bd (x - 62135596800)
  have h4 := top_le hr.y1
  have h5 := hr.l0
  unfold CronPl.top at h2
  simp only [cxOf] at h1 h2
  unfold lo at *
  omega
section
variable (w : World) (bs bO bL : Nat) (ar : Value) (L : Option Addr) (z : Option Zone) (S : Sets) (x0 Y : Int) (P : Plain (lo z) (fun T => reso z T + 62135596800)) (hr : Rng x0 Y) (top : Nat)
set_option maxHeartbeats 4000000 in
include P hr in
theorem month_round (n : Nat) (a' : Act) (wx : World) (hI : IL w bs bO bL ar L z S x0 Y top 0 n a' wx) :
    Code.wp Tryz.prog (body70 0) (Exit.then (fun a' w' => ∃ m, m < n ∧ IL w bs bO bL ar L z S x0 Y top 0 m a' w')
      (QM 0 (fun a' wx => ∃ n, IL w bs bO bL ar L z S x0 Y top 1 n a' wx) (fun a' wx => ∃ m, m < top ∧ JW w bs bO bL ar L z S x0 Y m a' wx))) a' wx := by
  obtain ⟨x, a, hh, hmu, hn, hlev⟩ := hI
  have hrg := hh.rng hr
  obtain ⟨⟨U, rfl⟩, hns, hiv⟩ := hh
  have t0 := hns.t0
  have t1 := hns.t1
  have t2 := hns.t2
  have s4 := hns.spec.c4
  have HN := Lib.hid hns
  have HI := Lib.hid hiv
  have HL := Lib.hid hlev
  have HM := Lib.hid hmu
  have HP := Lib.hid P
  have hn0 : Nan 0 := ⟨by decide, by decide⟩
  have hg := gdate (lo z x / 86400)
  have gm1 := hg.m1
  have gm12 := hg.m12
  have e0 := not_hit S.mon (gmonth (lo z x / 86400))
  have e1 : IntKind.u64.wrap (gmonth (lo z x / 86400)) = gmonth (lo z x / 86400) := u64wrap_small _ (by omega) (by omega)
  clear hns hiv hlev hmu P hg
  conv => arg 2; whnf
  unfold fr70
  go_upto_region 12 with fail
  go_cut [53] from 44 to 66 (fun s53 wc => s53 = .bool (!hit S.mon (gmonth (lo z x / 86400))) ∧ Below wx.heap.size wx wc)
  case first =>
    go_region_with (go_at_call 181; refine (tMonth 0 x L z _ (HN.out.tloc.below (Below.refl _ _).drew) hn0 (by omega) (by omega)).mono ?_; rintro e w1 ⟨rfl, hb1⟩; have hd5 := keep hb1 (show wx.drew.cell? ⟨bs, 4, none⟩ = some (.int .u64 S.mon) from s4))
    all_goals (go_wp2_with fail; go_meet; exact ⟨rfl, (Below.refl _ _).drew.trans hb1⟩)
  case rest =>
    obtain ⟨rfl, hb1⟩ := hcut
    have HN1 := Lib.hid (HN.out.call hb1)
    have q0 := HN1.out.t0
    have q1 := HN1.out.t1
    have q2 := HN1.out.t2
    have f0 := HN1.out.fr 0
    have f1 := HN1.out.fr 1
    have f2 := HN1.out.fr 2
    clear hb1 t0 t1 t2 s4 e0 e1
    cases hh : hit S.mon (gmonth (lo z x / 86400)) with
    | true =>
      simp only [Bool.not_true]
      have HH := Lib.hid hh
      clear hh
      go_wp2
      exact ⟨rfl, n, x, a, ⟨fr_ex, HN1.out, HI.out⟩, HM.out, hn, HL.out.1, fun _ => HH.out, by omega, by omega, by omega, by omega⟩
    | false =>
      simp only [Bool.not_false]
      have HH := Lib.hid hh
      clear hh
      cases a with
      | true =>
        obtain ⟨x2, hx2⟩ : ∃ x2, reso z (lo z x + 86400 * mlen (gyear (lo z x / 86400)) (gmonth (lo z x / 86400))) + 62135596800 = x2 := ⟨_, rfl⟩
        have hp := Inv.month HP.out HI.out HL.out.1 (fun h => by unfold mOK at h; rw [show (cxOf S x0 Y).mo _ = false from HH.out] at h; simp at h) (x1 := x) (x2 := x2) rfl hx2.symm
        have hr2 := inv_rng HN.out.tl hp.1 hr
        have HPM := Lib.hid hp
        have HX2 := Lib.hid hx2
        clear hx2 hp
        cases hm1 : (gmonth (lo z x2 / 86400) == 1) with
        | true =>
          go_wp2_with (first
            | (go_at_call 183; refine (tAddDate x _ 1 0 L z _ HN1.out.tloc (by omega) (by omega) (by omega) (by omega) (.inr ⟨rfl, rfl, rfl⟩) (by omega) (by omega) (by omega) (by omega)).mono ?_; rintro e w1 ⟨rfl, hb1⟩; rw [HX2.out]; have HN2 := Lib.hid (HN1.out.call hb1); clear hb1 q0 q1 q2 f0 f1 f2; have q0 := HN2.out.t0; have q1 := HN2.out.t1; have q2 := HN2.out.t2; have f0 := HN2.out.fr 0; have f1 := HN2.out.fr 1; have f2 := HN2.out.fr 2)
            | (go_at_call 181; refine (tMonth 0 x2 L z _ (HN2.out.store x2).tloc hn0 (by omega) (by omega)).mono ?_; rintro e w2 ⟨rfl, hb2⟩; have HN3 := Lib.hid ((HN2.out.store x2).call hb2); clear hb2 q0 q1 q2 f0 f1 f2))
          go_step3
          exact ⟨rfl, _, Nat.lt_of_lt_of_le HPM.out.2.1 (by rw [HM.out]; exact hn), x2, true, ⟨fr_ex, HN3.out, HPM.out.1⟩, rfl⟩
        | false =>
          go_wp2_with (first
            | (go_at_call 183; refine (tAddDate x _ 1 0 L z _ HN1.out.tloc (by omega) (by omega) (by omega) (by omega) (.inr ⟨rfl, rfl, rfl⟩) (by omega) (by omega) (by omega) (by omega)).mono ?_; rintro e w1 ⟨rfl, hb1⟩; rw [HX2.out]; have HN2 := Lib.hid (HN1.out.call hb1); clear hb1 q0 q1 q2 f0 f1 f2; have q0 := HN2.out.t0; have q1 := HN2.out.t1; have q2 := HN2.out.t2; have f0 := HN2.out.fr 0; have f1 := HN2.out.fr 1; have f2 := HN2.out.fr 2)
            | (go_at_call 181; refine (tMonth 0 x2 L z _ (HN2.out.store x2).tloc hn0 (by omega) (by omega)).mono ?_; rintro e w2 ⟨rfl, hb2⟩; have HN3 := Lib.hid ((HN2.out.store x2).call hb2); clear hb2 q0 q1 q2 f0 f1 f2))
          exact ⟨_, (by rw [← HM.out]; exact HPM.out.2.1), x2, true, ⟨fr_ex, HN3.out, HPM.out.1⟩, rfl, Nat.le_trans (Nat.le_of_lt HPM.out.2.1) (by rw [HM.out]; exact hn), HPM.out.2.2.1 (by simpa using hm1), by omega, by omega, by omega, by omega, by omega⟩
      | false =>
        obtain ⟨x1, hx1⟩ : ∃ x1, reso z (86400 * (lo z x / 86400 - gday (lo z x / 86400) + 1)) + 62135596800 = x1 := ⟨_, rfl⟩
        have hdd := gdate (lo z x / 86400)
        have hd1 := hdd.d1
        have hdm := hdd.dm
        have hml := mlen_bd (gyear (lo z x / 86400)) (gmonth (lo z x / 86400))
        have h1b := HP.out.lo x1
        have h1d := HP.out.lo x
        have h1c := HP.out.hi x1
        have hl1 : lo z x1 = 86400 * (lo z x / 86400 - gday (lo z x / 86400) + 1) := by rw [← hx1]; exact HP.out.mid _
        have hx1a : -6000000 ≤ x1 ∧ x1 ≤ 840000000000 := by omega
        have hl1a : -62155000000 ≤ lo z x1 ∧ lo z x1 ≤ 770000000000 := by omega
        have HX1 : Hid (x1 = reso z (86400 * (lo z x / 86400 - gday (lo z x / 86400) + 1)) + 62135596800) := hx1.symm
        clear hdd hml h1b h1c h1d hl1 hx1 hd1 hdm
        go_upto_region 15 with fail
        go_cut [7] from 56 to 66 (fun s7 wd => s7 = .bool true ∧ NS w wd L z bL bO bs S x1)
        case first =>
          go_region_with (first
            | (go_at_call 180; refine (tYear 0 x L z _ HN1.out.drew.tloc hn0 (by omega) (by omega)).mono ?_; rintro e w2 ⟨rfl, hb2⟩; have HN2 := Lib.hid (HN1.out.drew.call hb2); have p0 := HN2.out.t0; have p1 := HN2.out.t1; have p2 := HN2.out.t2)
            | (go_at_call 181; refine (tMonth 0 x L z _ HN2.out.tloc hn0 (by omega) (by omega)).mono ?_; rintro e w3 ⟨rfl, hb3⟩; have HN3 := Lib.hid (HN2.out.call hb3))
            | (go_at_call 182; refine (dmk_first z (lo z x / 86400) bL _ (HN3.out.lL.p HN3.out.bel) (by omega) (by omega)).mono ?_; rintro e w4 ⟨rfl, hb4⟩; rw [HN3.out.cL, ← HX1.out]; have HN4 := Lib.hid (HN3.out.call hb4); have r0 := HN4.out.t0; have r1 := HN4.out.t1; have r2 := HN4.out.t2; have g0 := HN4.out.fr 0; have g1 := HN4.out.fr 1; have g2 := HN4.out.fr 2))
          all_goals (go_wp2_with fail; go_meet; exact ⟨rfl, HN4.out.store x1⟩)
        case rest =>
          obtain ⟨rfl, hns1⟩ := hcut
          clear q0 q1 q2 f0 f1 f2
          have HN0 := HN1
          clear HN1
          have HN1 := Lib.hid hns1
          have q0 := hns1.t0
          have q1 := hns1.t1
          have q2 := hns1.t2
          have f0 := hns1.fr 0
          have f1 := hns1.fr 1
          have f2 := hns1.fr 2
          clear hns1
          have HMf := HM
          obtain ⟨x2, hx2⟩ : ∃ x2, reso z (lo z x1 + 86400 * mlen (gyear (lo z x1 / 86400)) (gmonth (lo z x1 / 86400))) + 62135596800 = x2 := ⟨_, rfl⟩
          have hp := Inv.month HP.out HI.out HL.out.1 (fun h => by unfold mOK at h; rw [show (cxOf S x0 Y).mo _ = false from HH.out] at h; simp at h) (x1 := x1) (x2 := x2) (by rw [HX1.out]; rfl) hx2.symm
          have hr2 := inv_rng HN.out.tl hp.1 hr
          have HPM := Lib.hid hp
          have HX2 := Lib.hid hx2
          clear hx2 hp
          cases hm1 : (gmonth (lo z x2 / 86400) == 1) with
          | true =>
            go_wp2_with (first
              | (go_at_call 183; refine (tAddDate x1 _ 1 0 L z _ HN1.out.tloc (by omega) (by omega) (by omega) (by omega) (.inr ⟨rfl, rfl, rfl⟩) (by omega) (by omega) (by omega) (by omega)).mono ?_; rintro e w1 ⟨rfl, hb1⟩; rw [HX2.out]; have HN2 := Lib.hid (HN1.out.call hb1); clear hb1 q0 q1 q2 f0 f1 f2; have q0 := HN2.out.t0; have q1 := HN2.out.t1; have q2 := HN2.out.t2; have f0 := HN2.out.fr 0; have f1 := HN2.out.fr 1; have f2 := HN2.out.fr 2)
              | (go_at_call 181; refine (tMonth 0 x2 L z _ (HN2.out.store x2).tloc hn0 (by omega) (by omega)).mono ?_; rintro e w2 ⟨rfl, hb2⟩; have HN3 := Lib.hid ((HN2.out.store x2).call hb2); clear hb2 q0 q1 q2 f0 f1 f2))
            go_step3
            exact ⟨rfl, _, Nat.lt_of_lt_of_le HPM.out.2.1 (by rw [HMf.out]; exact hn), x2, true, ⟨fr_ex, HN3.out, HPM.out.1⟩, rfl⟩
          | false =>
            go_wp2_with (first
              | (go_at_call 183; refine (tAddDate x1 _ 1 0 L z _ HN1.out.tloc (by omega) (by omega) (by omega) (by omega) (.inr ⟨rfl, rfl, rfl⟩) (by omega) (by omega) (by omega) (by omega)).mono ?_; rintro e w1 ⟨rfl, hb1⟩; rw [HX2.out]; have HN2 := Lib.hid (HN1.out.call hb1); clear hb1 q0 q1 q2 f0 f1 f2; have q0 := HN2.out.t0; have q1 := HN2.out.t1; have q2 := HN2.out.t2; have f0 := HN2.out.fr 0; have f1 := HN2.out.fr 1; have f2 := HN2.out.fr 2)
              | (go_at_call 181; refine (tMonth 0 x2 L z _ (HN2.out.store x2).tloc hn0 (by omega) (by omega)).mono ?_; rintro e w2 ⟨rfl, hb2⟩; have HN3 := Lib.hid ((HN2.out.store x2).call hb2); clear hb2 q0 q1 q2 f0 f1 f2))
            exact ⟨_, (by rw [← HMf.out]; exact HPM.out.2.1), x2, true, ⟨fr_ex, HN3.out, HPM.out.1⟩, rfl, Nat.le_trans (Nat.le_of_lt HPM.out.2.1) (by rw [HMf.out]; exact hn), HPM.out.2.2.1 (by simpa using hm1), by omega, by omega, by omega, by omega, by omega⟩
end
end Go.Proofs.YtjmgebhjkbcpcaaGreatDoor.NM
end
section
set_option linter.unusedVariables false
set_option linter.unusedSimpArgs false
set_option maxRecDepth 100000
namespace Go.Proofs.YtjmgebhjkbcpcaaGreatDoor.NM
open Go.RowKit Cal CronPl
section
variable (w : World) (bs bO bL : Nat) (ar : Value) (L : Option Addr) (z : Option Zone) (S : Sets) (x0 Y : Int) (P : Plain (lo z) (fun T => reso z T + 62135596800)) (hr : Rng x0 Y) (top : Nat)
set_option maxHeartbeats 4000000 in
include P hr in
theorem day_round (n : Nat) (a' : Act) (wx : World) (hI : IL w bs bO bL ar L z S x0 Y top 1 n a' wx) :
    Code.wp Tryz.prog (body70 2) (Exit.then (fun a' w' => ∃ m, m < n ∧ IL w bs bO bL ar L z S x0 Y top 1 m a' w')
      (QM 2 (fun a' wx => ∃ n, IL w bs bO bL ar L z S x0 Y top 2 n a' wx) (fun a' wx => ∃ m, m < top ∧ JW w bs bO bL ar L z S x0 Y m a' wx))) a' wx := by
  obtain ⟨x, a, hh, hmu, hn, hlev⟩ := hI
  have hrg := hh.rng hr
  obtain ⟨⟨U, rfl⟩, hns, hiv⟩ := hh
  have t0 := hns.t0
  have t1 := hns.t1
  have t2 := hns.t2
  have HN := Lib.hid hns
  have HI := Lib.hid hiv
  have HL := Lib.hid hlev
  have HM := Lib.hid hmu
  have HP := Lib.hid P
  have hn0 : Nan 0 := ⟨by decide, by decide⟩
  clear hns hiv hlev hmu P
  have HN1 := HN
  have q0 := HN1.out.t0
  have q1 := HN1.out.t1
  have q2 := HN1.out.t2
  have f0 := HN1.out.fr 0
  have f1 := HN1.out.fr 1
  have f2 := HN1.out.fr 2
  clear t0 t1 t2
  conv => arg 2; whnf
  unfold fr70
  cases hh : dayHit S (lo z x / 86400) with
  | true =>
    have HH := Lib.hid hh
    clear hh
    go_wp2_with (go_at_call 184; refine (tDayM x L z S bs _ HN1.out.tloc HN1.out.spec (by omega) (by omega)).mono ?_; rintro e w0 ⟨rfl, hb0⟩; rw [HH.out]; have HN2 := Lib.hid (HN1.out.call hb0); clear hb0 q0 q1 q2 f0 f1 f2; have q0 := HN2.out.t0; have q1 := HN2.out.t1; have q2 := HN2.out.t2; have f0 := HN2.out.fr 0; have f1 := HN2.out.fr 1; have f2 := HN2.out.fr 2)
    exact ⟨rfl, n, x, a, ⟨fr_ex, HN2.out, HI.out⟩, HM.out, hn, HL.out.1, fun _ => HL.out.2.1 (by omega), fun _ => HH.out, by omega, by omega, by omega⟩
  | false =>
    have HH := Lib.hid hh
    clear hh
    cases a with
    | true =>
      obtain ⟨x2, hx2⟩ : ∃ x2, reso z (lo z x + 86400 * 1) + 62135596800 = x2 := ⟨_, rfl⟩
      have hp := Inv.day HP.out HI.out HL.out.1 (HL.out.2.1 (by omega)) (fun h => by unfold dOK at h; rw [show (cxOf S x0 Y).da _ = false from HH.out] at h; simp at h) (x1 := x) (x2 := x2) rfl hx2.symm
      have hr2 := inv_rng HN.out.tl hp.1 hr
      have HZ : Hid (lo z x2 % 86400 / 3600 = 0) := by have := hp.2.2.2.2.2; show _ = _; omega
      have HPM := Lib.hid hp
      have HX2 := Lib.hid hx2
      clear hx2 hp
      cases hm1 : (gday (lo z x2 / 86400) == 1) with
      | true =>
        go_wp2_with (first
          | (go_at_call 184; refine (tDayM x L z S bs _ HN1.out.tloc HN1.out.spec (by omega) (by omega)).mono ?_; rintro e w0 ⟨rfl, hb0⟩; rw [HH.out]; have HN2 := Lib.hid (HN1.out.call hb0); clear hb0 q0 q1 q2 f0 f1 f2; have q0 := HN2.out.t0; have q1 := HN2.out.t1; have q2 := HN2.out.t2; have f0 := HN2.out.fr 0; have f1 := HN2.out.fr 1; have f2 := HN2.out.fr 2)
          | (go_at_call 183; refine (tAddDate x 1 0 1 L z _ HN2.out.tloc (by omega) (by omega) (by omega) (by omega) (.inl ⟨rfl, rfl, rfl⟩) (by omega) (by omega) (by omega) (by omega)).mono ?_; rintro e w1 ⟨rfl, hb1⟩; rw [HX2.out]; have HN3 := Lib.hid (HN2.out.call hb1); clear hb1 q0 q1 q2 f0 f1 f2; have q0 := HN3.out.t0; have q1 := HN3.out.t1; have q2 := HN3.out.t2; have f0 := HN3.out.fr 0; have f1 := HN3.out.fr 1; have f2 := HN3.out.fr 2)
          | (go_at_call 185; refine (tHour 0 x2 L z _ (HN3.out.store x2).tloc hn0 (by omega) (by omega)).mono ?_; rintro e w2 ⟨rfl, hb2⟩; rw [HZ.out]; have HN4 := Lib.hid ((HN3.out.store x2).call hb2); clear hb2 q0 q1 q2 f0 f1 f2; have q0 := HN4.out.t0; have q1 := HN4.out.t1; have q2 := HN4.out.t2)
          | (go_at_call 176; refine (tDay 0 x2 L z _ HN4.out.tloc hn0 (by omega) (by omega)).mono ?_; rintro e w3 ⟨rfl, hb3⟩; have HN5 := Lib.hid (HN4.out.call hb3); clear hb3 q0 q1 q2))
        go_step3
        exact ⟨rfl, _, Nat.lt_of_lt_of_le HPM.out.2.1 (by rw [HM.out]; exact hn), x2, true, ⟨fr_ex, HN5.out, HPM.out.1⟩, rfl⟩
      | false =>
        go_wp2_with (first
          | (go_at_call 184; refine (tDayM x L z S bs _ HN1.out.tloc HN1.out.spec (by omega) (by omega)).mono ?_; rintro e w0 ⟨rfl, hb0⟩; rw [HH.out]; have HN2 := Lib.hid (HN1.out.call hb0); clear hb0 q0 q1 q2 f0 f1 f2; have q0 := HN2.out.t0; have q1 := HN2.out.t1; have q2 := HN2.out.t2; have f0 := HN2.out.fr 0; have f1 := HN2.out.fr 1; have f2 := HN2.out.fr 2)
          | (go_at_call 183; refine (tAddDate x 1 0 1 L z _ HN2.out.tloc (by omega) (by omega) (by omega) (by omega) (.inl ⟨rfl, rfl, rfl⟩) (by omega) (by omega) (by omega) (by omega)).mono ?_; rintro e w1 ⟨rfl, hb1⟩; rw [HX2.out]; have HN3 := Lib.hid (HN2.out.call hb1); clear hb1 q0 q1 q2 f0 f1 f2; have q0 := HN3.out.t0; have q1 := HN3.out.t1; have q2 := HN3.out.t2; have f0 := HN3.out.fr 0; have f1 := HN3.out.fr 1; have f2 := HN3.out.fr 2)
          | (go_at_call 185; refine (tHour 0 x2 L z _ (HN3.out.store x2).tloc hn0 (by omega) (by omega)).mono ?_; rintro e w2 ⟨rfl, hb2⟩; rw [HZ.out]; have HN4 := Lib.hid ((HN3.out.store x2).call hb2); clear hb2 q0 q1 q2 f0 f1 f2; have q0 := HN4.out.t0; have q1 := HN4.out.t1; have q2 := HN4.out.t2)
          | (go_at_call 176; refine (tDay 0 x2 L z _ HN4.out.tloc hn0 (by omega) (by omega)).mono ?_; rintro e w3 ⟨rfl, hb3⟩; have HN5 := Lib.hid (HN4.out.call hb3); clear hb3 q0 q1 q2))
        exact ⟨_, (by rw [← HM.out]; exact HPM.out.2.1), x2, true, ⟨fr_ex, HN5.out, HPM.out.1⟩, rfl, Nat.le_trans (Nat.le_of_lt HPM.out.2.1) (by rw [HM.out]; exact hn), (HPM.out.2.2.1 (by simpa using hm1)).1, fun _ => (HPM.out.2.2.1 (by simpa using hm1)).2, by omega, by omega, by omega, by omega⟩
    | false =>
      obtain ⟨x1, hx1⟩ : ∃ x1, reso z (86400 * (lo z x / 86400)) + 62135596800 = x1 := ⟨_, rfl⟩
      have h1b := HP.out.lo x1
      have h1d := HP.out.lo x
      have h1c := HP.out.hi x1
      have hl1 : lo z x1 = 86400 * (lo z x / 86400) := by rw [← hx1]; exact HP.out.mid _
      have hx1a : -6000000 ≤ x1 ∧ x1 ≤ 840000000000 := by omega
      have hl1a : -62155000000 ≤ lo z x1 ∧ lo z x1 ≤ 770000000000 := by omega
      have HX1 : Hid (x1 = reso z (86400 * (lo z x / 86400)) + 62135596800) := hx1.symm
      clear h1b h1c h1d hl1 hx1
      go_upto_region 21 with (go_at_call 184; refine (tDayM x L z S bs _ HN1.out.tloc HN1.out.spec (by omega) (by omega)).mono ?_; rintro e w0 ⟨rfl, hb0⟩; rw [HH.out]; have HN2 := Lib.hid (HN1.out.call hb0); clear hb0 q0 q1 q2 f0 f1 f2; have q0 := HN2.out.t0; have q1 := HN2.out.t1; have q2 := HN2.out.t2; have f0 := HN2.out.fr 0; have f1 := HN2.out.fr 1; have f2 := HN2.out.fr 2)
      go_cut [7] from 73 to 103 (fun s7 wd => s7 = .bool true ∧ NS w wd L z bL bO bs S x1)
      case first =>
        have HN6 := HN2
        go_region_with (first
          | (go_at_call 180; refine (tYear 0 x L z _ HN6.out.drew.tloc hn0 (by omega) (by omega)).mono ?_; rintro e w2 ⟨rfl, hb2⟩; have HN7 := Lib.hid (HN6.out.drew.call hb2); have p0 := HN7.out.t0; have p1 := HN7.out.t1; have p2 := HN7.out.t2)
          | (go_at_call 181; refine (tMonth 0 x L z _ HN7.out.tloc hn0 (by omega) (by omega)).mono ?_; rintro e w3 ⟨rfl, hb3⟩; have HN3 := Lib.hid (HN7.out.call hb3); have o0 := HN3.out.t0; have o1 := HN3.out.t1; have o2 := HN3.out.t2)
          | (go_at_call 176; refine (tDay 0 x L z _ HN3.out.tloc hn0 (by omega) (by omega)).mono ?_; rintro e w5 ⟨rfl, hb5⟩; have HN5 := Lib.hid (HN3.out.call hb5))
          | (go_at_call 182; refine (dmk_day z (lo z x / 86400) bL _ (HN5.out.lL.p HN5.out.bel) (by omega) (by omega)).mono ?_; rintro e w4 ⟨rfl, hb4⟩; rw [HN5.out.cL, ← HX1.out]; have HN4 := Lib.hid (HN5.out.call hb4); have r0 := HN4.out.t0; have r1 := HN4.out.t1; have r2 := HN4.out.t2; have g0 := HN4.out.fr 0; have g1 := HN4.out.fr 1; have g2 := HN4.out.fr 2))
        all_goals (go_wp2_with fail; go_meet; exact ⟨rfl, HN4.out.store x1⟩)
      case rest =>
        obtain ⟨rfl, hns1⟩ := hcut
        clear q0 q1 q2 f0 f1 f2
        have HN0 := HN2
        clear HN1 HN2
        have HN2 := Lib.hid hns1
        clear hns1
        have q0 := HN2.out.t0
        have q1 := HN2.out.t1
        have q2 := HN2.out.t2
        have f0 := HN2.out.fr 0
        have f1 := HN2.out.fr 1
        have f2 := HN2.out.fr 2
        obtain ⟨x2, hx2⟩ : ∃ x2, reso z (lo z x1 + 86400 * 1) + 62135596800 = x2 := ⟨_, rfl⟩
        have hp := Inv.day HP.out HI.out HL.out.1 (HL.out.2.1 (by omega)) (fun h => by unfold dOK at h; rw [show (cxOf S x0 Y).da _ = false from HH.out] at h; simp at h) (x1 := x1) (x2 := x2) (by rw [HX1.out]; rfl) hx2.symm
        have hr2 := inv_rng HN.out.tl hp.1 hr
        have HZ : Hid (lo z x2 % 86400 / 3600 = 0) := by have := hp.2.2.2.2.2; show _ = _; omega
        have HPM := Lib.hid hp
        have HX2 := Lib.hid hx2
        clear hx2 hp
        cases hm1 : (gday (lo z x2 / 86400) == 1) with
        | true =>
          go_wp2_with (first
            | (go_at_call 183; refine (tAddDate x1 1 0 1 L z _ HN2.out.tloc (by omega) (by omega) (by omega) (by omega) (.inl ⟨rfl, rfl, rfl⟩) (by omega) (by omega) (by omega) (by omega)).mono ?_; rintro e w1 ⟨rfl, hb1⟩; rw [HX2.out]; have HN3 := Lib.hid (HN2.out.call hb1); clear hb1 q0 q1 q2 f0 f1 f2; have q0 := HN3.out.t0; have q1 := HN3.out.t1; have q2 := HN3.out.t2; have f0 := HN3.out.fr 0; have f1 := HN3.out.fr 1; have f2 := HN3.out.fr 2)
            | (go_at_call 185; refine (tHour 0 x2 L z _ (HN3.out.store x2).tloc hn0 (by omega) (by omega)).mono ?_; rintro e w2 ⟨rfl, hb2⟩; rw [HZ.out]; have HN4 := Lib.hid ((HN3.out.store x2).call hb2); clear hb2 q0 q1 q2 f0 f1 f2; have q0 := HN4.out.t0; have q1 := HN4.out.t1; have q2 := HN4.out.t2)
            | (go_at_call 176; refine (tDay 0 x2 L z _ HN4.out.tloc hn0 (by omega) (by omega)).mono ?_; rintro e w3 ⟨rfl, hb3⟩; have HN5 := Lib.hid (HN4.out.call hb3); clear hb3 q0 q1 q2))
          go_step3
          exact ⟨rfl, _, Nat.lt_of_lt_of_le HPM.out.2.1 (by rw [HM.out]; exact hn), x2, true, ⟨fr_ex, HN5.out, HPM.out.1⟩, rfl⟩
        | false =>
          go_wp2_with (first
            | (go_at_call 183; refine (tAddDate x1 1 0 1 L z _ HN2.out.tloc (by omega) (by omega) (by omega) (by omega) (.inl ⟨rfl, rfl, rfl⟩) (by omega) (by omega) (by omega) (by omega)).mono ?_; rintro e w1 ⟨rfl, hb1⟩; rw [HX2.out]; have HN3 := Lib.hid (HN2.out.call hb1); clear hb1 q0 q1 q2 f0 f1 f2; have q0 := HN3.out.t0; have q1 := HN3.out.t1; have q2 := HN3.out.t2; have f0 := HN3.out.fr 0; have f1 := HN3.out.fr 1; have f2 := HN3.out.fr 2)
            | (go_at_call 185; refine (tHour 0 x2 L z _ (HN3.out.store x2).tloc hn0 (by omega) (by omega)).mono ?_; rintro e w2 ⟨rfl, hb2⟩; rw [HZ.out]; have HN4 := Lib.hid ((HN3.out.store x2).call hb2); clear hb2 q0 q1 q2 f0 f1 f2; have q0 := HN4.out.t0; have q1 := HN4.out.t1; have q2 := HN4.out.t2)
            | (go_at_call 176; refine (tDay 0 x2 L z _ HN4.out.tloc hn0 (by omega) (by omega)).mono ?_; rintro e w3 ⟨rfl, hb3⟩; have HN5 := Lib.hid (HN4.out.call hb3); clear hb3 q0 q1 q2))
          exact ⟨_, (by rw [← HM.out]; exact HPM.out.2.1), x2, true, ⟨fr_ex, HN5.out, HPM.out.1⟩, rfl, Nat.le_trans (Nat.le_of_lt HPM.out.2.1) (by rw [HM.out]; exact hn), (HPM.out.2.2.1 (by simpa using hm1)).1, fun _ => (HPM.out.2.2.1 (by simpa using hm1)).2, by omega, by omega, by omega, by omega⟩
end
end Go.Proofs.YtjmgebhjkbcpcaaGreatDoor.NM
end
section
set_option linter.unusedVariables false
set_option linter.unusedSimpArgs false
namespace Go.Proofs.YtjmgebhjkbcpcaaGreatDoor.NM
open Go.RowKit
section
variable {P : Program} {ops : Array Oper} {Q : Exit → Act → World → Prop} {md : Region.Mode} {S : World → Prop} {g : Nat}
/-- whatever order is picked, and S holds behind each operation but the last, number g -/
def wpAnyG (P : Program) (md : Region.Mode) (ops : Array Oper) (Q : Exit → Act → World → Prop) (S : World → Prop) (g : Nat) : Nat → Array Bool → Act → World → Prop
  | 0, listed, a, w => Region.ready md ops listed = [] ∧ Q .normal a w
  | fuel + 1, listed, a, w =>
    (Region.ready md ops listed = [] → Q .normal a w) ∧
    ∀ i ∈ Region.ready md ops listed, wpOp P ops Q i (fun a' w' => (i = g ∨ S w') ∧ wpAnyG P md ops Q S g fuel (listed.setIfInBounds i true) a' w') a w
theorem wpAny_of_gate : ∀ (fuel : Nat) (listed : Array Bool) (a : Act) (w : World), wpAnyG P md ops Q S g fuel listed a w → wpAny P md ops Q fuel listed a w
  | 0, _, _, _, h => h
  | fuel + 1, _, _, _, h => ⟨h.1, fun i hi => wpOp_mono (fun a' w' h' => wpAny_of_gate fuel _ a' w' h'.2) (h.2 i hi)⟩
theorem wpAnyG_first {i : Nat} {oi og : Oper} {v : Value} (hi : ops[i]? = some oi) (hg : ops[g]? = some og) (hgi : ∃ e ∈ og.after, Region.binds md e = true ∧ e.on = i) (hsel : ∀ (j : Nat) (o : Oper) cs b, ops[j]? = some o → o.op ≠ .select cs b)
    (hQ : ∀ c a w, Q (.panic c) (a.put oi.dst v) w → Q (.panic c) a w) :
    ∀ (fuel : Nat) (listed : Array Bool) (a : Act) (w : World),
      (∀ j oj, ops[j]? = some oj → j ≠ i → listed.getD j true = false → (∀ e ∈ oj.after, Region.binds md e = true → e.on ≠ i) → oi.apart ops oj = true) →
      i ∈ Region.ready md ops listed → YieldsIf P ops S oi v a → S w →
      wpAnyG P md ops Q S g fuel (listed.setIfInBounds i true) (a.put oi.dst v) w → wpAnyG P md ops Q S g (fuel + 1) listed a w := by
  intro fuel
  induction fuel with
  | zero =>
    intro listed a w _ hr hy hS H
    refine ⟨fun h => (by rw [h] at hr; cases hr), fun j hj => ?_⟩
    by_cases hji : j = i
    · subst hji; exact hy.wpOp hi hS ⟨.inr hS, H⟩
    · have := ready_mono hj hji
      rw [H.1] at this
      cases this
  | succ fuel ih =>
    intro listed a w hfree hr hy hS H
    refine ⟨fun h => (by rw [h] at hr; cases hr), fun j hj => ?_⟩
    by_cases hji : j = i
    · subst hji; exact hy.wpOp hi hS ⟨.inr hS, H⟩
    · have h1 := H.2 j (ready_mono hj hji)
      obtain ⟨hjun, oj, hoj, hall⟩ := mem_ready.1 hj
      have hnot : ∀ e ∈ oj.after, Region.binds md e = true → e.on ≠ i := fun e he hb heq => by
        have h1 := hall e he hb
        have h0 := (mem_ready.1 hr).1
        rw [heq] at h1
        rcases Nat.lt_or_ge i listed.size with h' | h'
        · simp [h'] at h0 h1; rw [h0] at h1; cases h1
        · simp [Array.getElem?_eq_none h'] at h1
      have hjg : j ≠ g := by
        rintro rfl
        obtain ⟨e, he, hb, hei⟩ := hgi
        rw [hg] at hoj
        injection hoj with hoj
        subst hoj
        exact hnot e he hb hei
      have h2 := wpOp_putIf hoj (hfree j oj hoj hji hjun hnot) (fun cs b => hsel i oi cs b hi) (fun cs b => hsel j oj cs b hoj) hQ hy h1
      have hfree' : ∀ k ok, ops[k]? = some ok → k ≠ i → (listed.setIfInBounds j true).getD k true = false →
          (∀ e ∈ ok.after, Region.binds md e = true → e.on ≠ i) → oi.apart ops ok = true := fun k ok hk hki hun hno => by
        refine hfree k ok hk hki ?_ hno
        by_cases hjk : j = k
        · subst hjk; exact hjun
        · rw [getD_set_ne true hjk] at hun; exact hun
      refine wpOp_mono (fun a' w' h3 => ?_) h2
      have hS' : S w' := h3.2.1.resolve_left hjg
      refine ⟨.inr hS', ih (listed.setIfInBounds j true) a' w' hfree' (ready_mono hr (Ne.symm hji)) h3.1 hS' ?_⟩
      rw [Array.setIfInBounds_comm _ _ hji]
      exact h3.2.2
/-- g waits for i -/
def waits (md : Region.Mode) (ops : Array Oper) (g i : Nat) : Bool := match ops[g]? with
  | some og => og.after.toList.any fun e => Region.binds md e && e.on == i
  | none => false
theorem wpAnyG_take {i : Nat} {oi : Oper} {v : Value} {fuel : Nat} {listed : Array Bool} {a : Act} {w : World} (hi : ops[i]? = some oi)
    (hs : Region.noSelect ops = true) (hf : Region.free md ops listed i = true) (hr : (Region.ready md ops listed).contains i = true) (hg : waits md ops g i = true)
    (hQ : ∀ c a w, Q (.panic c) (a.put oi.dst v) w → Q (.panic c) a w) (hy : YieldsIf P ops S oi v a) (hS : S w)
    (h : wpAnyG P md ops Q S g fuel (listed.setIfInBounds i true) (a.put oi.dst v) w) : wpAnyG P md ops Q S g (fuel + 1) listed a w := by
  unfold waits at hg
  cases hog : ops[g]? with
  | none => rw [hog] at hg; simp at hg
  | some og =>
    rw [hog] at hg
    simp only [List.any_eq_true, Bool.and_eq_true, beq_iff_eq] at hg
    obtain ⟨e, he, hb, hei⟩ := hg
    exact wpAnyG_first hi hog ⟨e, by simpa using he, hb, hei⟩ (Region.noSelect_spec hs) hQ fuel listed a w (Region.free_spec hi hf) (by simpa using hr) hy hS h
/-- the one that comes up is carried out -/
theorem wpAnyG_one {i : Nat} {o : Oper} {fuel : Nat} {listed : Array Bool} {a : Act} {w : World} (hr : Region.ready md ops listed = [i]) (ho : ops[i]? = some o)
    (h : ∀ K' : Act → World → Prop, Shut (∀ a w, (i = g ∨ S w) → wpAnyG P md ops Q S g fuel (listed.setIfInBounds i true) a w → K' a w) → if Region.wanted o (yielded ops a.tmps) = true then Oper.wp P o a w K' Q else K' (a.put o.dst undef) w) :
    wpAnyG P md ops Q S g (fuel + 1) listed a w := by
  refine ⟨fun h0 => by rw [hr] at h0; simp at h0, fun j hj => ?_⟩
  rw [hr] at hj
  obtain rfl : j = i := by simpa using hj
  exact wpOp_step ho (fun K' hK => h K' (fun a w hS hW => hK a w ⟨hS, hW⟩))
theorem wpAnyG_done {listed : Array Bool} {a : Act} {w : World} (hr : Region.ready md ops listed = []) (h : Q .normal a w) : ∀ fuel, wpAnyG P md ops Q S g fuel listed a w
  | 0 => ⟨hr, h⟩
  | _ + 1 => ⟨fun _ => h, by rw [hr]; simp⟩
theorem wp_region_gate (g : Nat) (S : World → Prop) {id : Nat} {a : Act} {w : World} (hm : P.follows .mixedOrders = true)
    (h : wpAnyG P .any ops Q S g ops.size (Array.replicate ops.size false) a w.drew) : (Code.region id ops true).wp P Q a w :=
  wp_region_any hm (wpAny_of_gate _ _ _ _ h)
end
end Go.Proofs.YtjmgebhjkbcpcaaGreatDoor.NM
end
section
set_option linter.unusedVariables false
set_option linter.unusedSimpArgs false
set_option maxRecDepth 100000
namespace Go.Proofs.YtjmgebhjkbcpcaaGreatDoor.NM
open Go.RowKit Cal CronPl
section
variable (w : World) (bs bO bL : Nat) (ar : Value) (L : Option Addr) (z : Option Zone) (S : Sets) (x0 Y : Int) (P : Plain (lo z) (fun T => reso z T + 62135596800)) (hr : Rng x0 Y) (top : Nat)
set_option maxHeartbeats 4000000 in
include P hr in
theorem hour_round (n : Nat) (a' : Act) (wx : World) (hI : IL w bs bO bL ar L z S x0 Y top 2 n a' wx) :
    Code.wp Tryz.prog (body70 4) (Exit.then (fun a' w' => ∃ m, m < n ∧ IL w bs bO bL ar L z S x0 Y top 2 m a' w')
      (QM 4 (fun a' wx => ∃ n, IL w bs bO bL ar L z S x0 Y top 3 n a' wx) (fun a' wx => ∃ m, m < top ∧ JW w bs bO bL ar L z S x0 Y m a' wx))) a' wx := by
  obtain ⟨x, a, hh, hmu, hn, hlev⟩ := hI
  have hrg := hh.rng hr
  obtain ⟨⟨U, rfl⟩, hns, hiv⟩ := hh
  have t0 := hns.t0
  have t1 := hns.t1
  have t2 := hns.t2
  have HN := Lib.hid hns
  have HI := Lib.hid hiv
  have HL := Lib.hid hlev
  have HM := Lib.hid hmu
  have HP := Lib.hid P
  have hn0 : Nan 0 := ⟨by decide, by decide⟩
  have s4 := hns.spec.c2
  have e0 := not_hit S.ho (lo z x % 86400 / 3600)
  have e1 : IntKind.u64.wrap (lo z x % 86400 / 3600) = lo z x % 86400 / 3600 := u64wrap_small _ (by omega) (by omega)
  have eb : 0 ≤ lo z x % 86400 / 3600 ∧ lo z x % 86400 / 3600 ≤ 60 := by omega
  clear hns hiv hlev hmu P
  conv => arg 2; whnf
  unfold fr70
  go_upto_region 28 with fail
  go_cut [113] from 104 to 130 (fun s53 wc => s53 = .bool (!hit S.ho (lo z x % 86400 / 3600)) ∧ Below wx.heap.size wx wc)
  case first =>
    go_region_with (go_at_call 185; refine (tHour 0 x L z _ (HN.out.tloc.below (Below.refl _ _).drew) hn0 (by omega) (by omega)).mono ?_; rintro e w1 ⟨rfl, hb1⟩; have hd5 := keep hb1 (show wx.drew.cell? ⟨bs, 2, none⟩ = some (.int .u64 S.ho) from s4))
    all_goals (go_wp2_with fail; go_meet; exact ⟨rfl, (Below.refl _ _).drew.trans hb1⟩)
  case rest =>
    obtain ⟨rfl, hb1⟩ := hcut
    have HN1 := Lib.hid (HN.out.call hb1)
    have q0 := HN1.out.t0
    have q1 := HN1.out.t1
    have q2 := HN1.out.t2
    have f0 := HN1.out.fr 0
    have f1 := HN1.out.fr 1
    have f2 := HN1.out.fr 2
    clear hb1 t0 t1 t2 s4 e0 e1 eb
    cases hh : hit S.ho (lo z x % 86400 / 3600) with
    | true =>
      simp only [Bool.not_true]
      have HH := Lib.hid hh
      clear hh
      go_wp2
      exact ⟨rfl, n, x, a, ⟨fr_ex, HN1.out, HI.out⟩, HM.out, hn, HL.out.1, fun _ => HL.out.2.1 (by omega), fun _ => HL.out.2.2.1 (by omega), fun _ => HH.out, by omega, by omega⟩
    | false =>
      simp only [Bool.not_false]
      have HH := Lib.hid hh
      clear hh
      cases a with
      | true =>
        obtain ⟨x2, hx2⟩ : ∃ x2, x + 3600 = x2 := ⟨_, rfl⟩
        have hp := Inv.hour HP.out HI.out HL.out.1 (HL.out.2.1 (by omega)) (HL.out.2.2.1 (by omega)) (fun h => by unfold hOK at h; rw [show (cxOf S x0 Y).ho _ = false from HH.out] at h; simp at h) (x1 := x) (x2 := x2) rfl hx2.symm
        have hr2 := inv_rng HN.out.tl hp.1 hr
        have HPM := Lib.hid hp
        have HX2 := Lib.hid hx2
        clear hx2 hp
        cases hm1 : (lo z x2 % 86400 / 3600 == 0) with
        | true =>
          go_wp2_with (first
            | (go_at_call 179; refine (tAdd0 x _ 3600 L _ (by omega) (by omega) (by omega) (by omega) (by decide) (by decide)).mono ?_; rintro e w1 ⟨rfl, hb1⟩; rw [HX2.out]; have HN2 := Lib.hid (HN1.out.call hb1); clear hb1 q0 q1 q2 f0 f1 f2; have q0 := HN2.out.t0; have q1 := HN2.out.t1; have q2 := HN2.out.t2; have f0 := HN2.out.fr 0; have f1 := HN2.out.fr 1; have f2 := HN2.out.fr 2)
            | (go_at_call 185; refine (tHour 0 x2 L z _ (HN2.out.store x2).tloc hn0 (by omega) (by omega)).mono ?_; rintro e w2 ⟨rfl, hb2⟩; have HN3 := Lib.hid ((HN2.out.store x2).call hb2); clear hb2 q0 q1 q2 f0 f1 f2))
          go_step3
          exact ⟨rfl, _, Nat.lt_of_lt_of_le HPM.out.2.1 (by rw [HM.out]; exact hn), x2, true, ⟨fr_ex, HN3.out, HPM.out.1⟩, rfl⟩
        | false =>
          go_wp2_with (first
            | (go_at_call 179; refine (tAdd0 x _ 3600 L _ (by omega) (by omega) (by omega) (by omega) (by decide) (by decide)).mono ?_; rintro e w1 ⟨rfl, hb1⟩; rw [HX2.out]; have HN2 := Lib.hid (HN1.out.call hb1); clear hb1 q0 q1 q2 f0 f1 f2; have q0 := HN2.out.t0; have q1 := HN2.out.t1; have q2 := HN2.out.t2; have f0 := HN2.out.fr 0; have f1 := HN2.out.fr 1; have f2 := HN2.out.fr 2)
            | (go_at_call 185; refine (tHour 0 x2 L z _ (HN2.out.store x2).tloc hn0 (by omega) (by omega)).mono ?_; rintro e w2 ⟨rfl, hb2⟩; have HN3 := Lib.hid ((HN2.out.store x2).call hb2); clear hb2 q0 q1 q2 f0 f1 f2))
          exact ⟨_, (by rw [← HM.out]; exact HPM.out.2.1), x2, true, ⟨fr_ex, HN3.out, HPM.out.1⟩, rfl, Nat.le_trans (Nat.le_of_lt HPM.out.2.1) (by rw [HM.out]; exact hn), (HPM.out.2.2.1 (by simpa using hm1)).1, fun _ => (HPM.out.2.2.1 (by simpa using hm1)).2.1, fun _ => (HPM.out.2.2.1 (by simpa using hm1)).2.2, by omega, by omega, by omega⟩
      | false =>
        obtain ⟨x1, hx1⟩ : ∃ x1, reso z (lo z x - lo z x % 3600) + 62135596800 = x1 := ⟨_, rfl⟩
        have h1b := HP.out.lo x1
        have h1d := HP.out.lo x
        have h1c := HP.out.hi x1
        have hl1 : lo z x1 = lo z x - lo z x % 3600 := by rw [← hx1]; exact HP.out.hour _
        have hx1a : -6000000 ≤ x1 ∧ x1 ≤ 840000000000 := by omega
        have HX1 : Hid (x1 = reso z (lo z x - lo z x % 3600) + 62135596800) := hx1.symm
        clear h1b h1c h1d hl1 hx1
        go_upto_region 31 with fail
        go_cut [7] from 116 to 130 (fun s7 wd => s7 = .bool true ∧ NS w wd L z bL bO bs S x1)
        case first =>
          have hS0 : wc.drew.cell? ⟨w.heap.size, 0, none⟩ = some (.int .u64 0) ∧ wc.drew.cell? ⟨w.heap.size, 1, none⟩ = some (.int .i64 x) ∧ wc.drew.cell? ⟨w.heap.size, 2, none⟩ = some (.pointer L) := ⟨q0, q1, q2⟩
          refine wp_region_gate 10 (fun w' => w'.cell? ⟨w.heap.size, 0, none⟩ = some (.int .u64 0) ∧ w'.cell? ⟨w.heap.size, 1, none⟩ = some (.int .i64 x) ∧ w'.cell? ⟨w.heap.size, 2, none⟩ = some (.pointer L)) (by kernel_rfl) ?_
          refine wpAnyG_take (i := 0) (oi := { dst := some 116, op := Op.load 84 (Operand.tmp 3), type := 84, pos := "spec.go:156", after := #[], guard := none }) (v := (.agg #[.int .u64 0, .int .i64 x, .pointer L])) rfl (by kernel_rfl) (by kernel_rfl) (by kernel_rfl) (by kernel_rfl) (fun _ _ _ h => h) (Or.inl ⟨by rfl, fun w' hS => ?_⟩) hS0 ?_
          · obtain ⟨s0, s1, s2⟩ := hS
            go_simp
          try simp only [Act.put, List.setIfInBounds_toArray, List.set_cons_zero, List.set_cons_succ]
          refine wpAnyG_take (i := 2) (oi := { dst := some 118, op := Op.load 84 (Operand.tmp 3), type := 84, pos := "spec.go:156", after := #[], guard := none }) (v := (.agg #[.int .u64 0, .int .i64 x, .pointer L])) rfl (by kernel_rfl) (by kernel_rfl) (by kernel_rfl) (by kernel_rfl) (fun _ _ _ h => h) (Or.inl ⟨by rfl, fun w' hS => ?_⟩) hS0 ?_
          · obtain ⟨s0, s1, s2⟩ := hS
            go_simp
          try simp only [Act.put, List.setIfInBounds_toArray, List.set_cons_zero, List.set_cons_succ]
          refine wpAnyG_take (i := 4) (oi := { dst := some 120, op := Op.load 84 (Operand.tmp 3), type := 84, pos := "spec.go:156", after := #[], guard := none }) (v := (.agg #[.int .u64 0, .int .i64 x, .pointer L])) rfl (by kernel_rfl) (by kernel_rfl) (by kernel_rfl) (by kernel_rfl) (fun _ _ _ h => h) (Or.inl ⟨by rfl, fun w' hS => ?_⟩) hS0 ?_
          · obtain ⟨s0, s1, s2⟩ := hS
            go_simp
          try simp only [Act.put, List.setIfInBounds_toArray, List.set_cons_zero, List.set_cons_succ]
          refine wpAnyG_take (i := 6) (oi := { dst := some 122, op := Op.load 84 (Operand.tmp 3), type := 84, pos := "spec.go:156", after := #[], guard := none }) (v := (.agg #[.int .u64 0, .int .i64 x, .pointer L])) rfl (by kernel_rfl) (by kernel_rfl) (by kernel_rfl) (by kernel_rfl) (fun _ _ _ h => h) (Or.inl ⟨by rfl, fun w' hS => ?_⟩) hS0 ?_
          · obtain ⟨s0, s1, s2⟩ := hS
            go_simp
          try simp only [Act.put, List.setIfInBounds_toArray, List.set_cons_zero, List.set_cons_succ]
          refine wpAnyG_take (i := 8) (oi := { dst := some 124, op := Op.move (Operand.tmp 6), type := 82, pos := "spec.go:156", after := #[], guard := none }) (v := .pointer (some ⟨bL, 0, none⟩)) rfl (by kernel_rfl) (by kernel_rfl) (by kernel_rfl) (by kernel_rfl) (fun _ _ _ h => h) (Or.inl ⟨by rfl, fun w' hS => ?_⟩) hS0 ?_
          · go_simp
          try simp only [Act.put, List.setIfInBounds_toArray, List.set_cons_zero, List.set_cons_succ]
          clear hS0
          refine wpAnyG_one (i := 1) (o := { dst := some 117, op := Op.call { callee := Callee.value (Operand.func 180), args := #[Operand.tmp 116], argTypes := #[84] }, type := 3, pos := "spec.go:156", after := #[{ on := 0, ground := Ground.data }], guard := none }) (by kernel_rfl) rfl (fun K hK => ?_)
          go_simp
          (go_at_call 180; refine (tYear 0 x L z _ HN1.out.drew.tloc hn0 (by omega) (by omega)).mono ?_; rintro e w2 ⟨rfl, hb2⟩; have HN2 := Lib.hid (HN1.out.drew.call hb2))
          refine hK.out _ _ (Or.inr ⟨HN2.out.t0, HN2.out.t1, HN2.out.t2⟩) ?_
          clear hK K
          try simp only [Act.put, List.setIfInBounds_toArray, List.set_cons_zero, List.set_cons_succ]
          refine wpAnyG_one (i := 3) (o := { dst := some 119, op := Op.call { callee := Callee.value (Operand.func 181), args := #[Operand.tmp 118], argTypes := #[84] }, type := 256, pos := "spec.go:156", after := #[{ on := 2, ground := Ground.data }, { on := 1, ground := Ground.chain }], guard := none }) (by kernel_rfl) rfl (fun K hK => ?_)
          go_simp
          (go_at_call 181; refine (tMonth 0 x L z _ HN2.out.tloc hn0 (by omega) (by omega)).mono ?_; rintro e w3 ⟨rfl, hb3⟩; have HN3 := Lib.hid (HN2.out.call hb3))
          refine hK.out _ _ (Or.inr ⟨HN3.out.t0, HN3.out.t1, HN3.out.t2⟩) ?_
          clear hK K
          try simp only [Act.put, List.setIfInBounds_toArray, List.set_cons_zero, List.set_cons_succ]
          refine wpAnyG_one (i := 5) (o := { dst := some 121, op := Op.call { callee := Callee.value (Operand.func 176), args := #[Operand.tmp 120], argTypes := #[84] }, type := 3, pos := "spec.go:156", after := #[{ on := 4, ground := Ground.data }, { on := 3, ground := Ground.chain }], guard := none }) (by kernel_rfl) rfl (fun K hK => ?_)
          go_simp
          (go_at_call 176; refine (tDay 0 x L z _ HN3.out.tloc hn0 (by omega) (by omega)).mono ?_; rintro e w5 ⟨rfl, hb5⟩; have HN5 := Lib.hid (HN3.out.call hb5))
          refine hK.out _ _ (Or.inr ⟨HN5.out.t0, HN5.out.t1, HN5.out.t2⟩) ?_
          clear hK K
          try simp only [Act.put, List.setIfInBounds_toArray, List.set_cons_zero, List.set_cons_succ]
          refine wpAnyG_one (i := 7) (o := { dst := some 123, op := Op.call { callee := Callee.value (Operand.func 185), args := #[Operand.tmp 122], argTypes := #[84] }, type := 3, pos := "spec.go:156", after := #[{ on := 6, ground := Ground.data }, { on := 5, ground := Ground.chain }], guard := none }) (by kernel_rfl) rfl (fun K hK => ?_)
          go_simp
          (go_at_call 185; refine (tHour 0 x L z _ HN5.out.tloc hn0 (by omega) (by omega)).mono ?_; rintro e w6 ⟨rfl, hb6⟩; have HN6 := Lib.hid (HN5.out.call hb6))
          refine hK.out _ _ (Or.inr ⟨HN6.out.t0, HN6.out.t1, HN6.out.t2⟩) ?_
          clear hK K
          try simp only [Act.put, List.setIfInBounds_toArray, List.set_cons_zero, List.set_cons_succ]
          refine wpAnyG_one (i := 9) (o := { dst := some 125, op := Op.call { callee := Callee.value (Operand.func 182), args := #[Operand.tmp 117, Operand.tmp 119, Operand.tmp 121, Operand.tmp 123, Operand.const (Value.int IntKind.i64 0), Operand.const (Value.int IntKind.i64 0), Operand.const (Value.int IntKind.i64 0), Operand.tmp 124], argTypes := #[3, 256, 3, 3, 3, 3, 3, 82] }, type := 84, pos := "spec.go:156", after := #[{ on := 1, ground := Ground.data }, { on := 3, ground := Ground.data }, { on := 5, ground := Ground.data }, { on := 7, ground := Ground.data }, { on := 8, ground := Ground.data }, { on := 7, ground := Ground.chain }], guard := none }) (by kernel_rfl) rfl (fun K hK => ?_)
          go_simp
          (go_at_call 182; refine (dmk_hour z (lo z x) bL _ (HN6.out.lL.p HN6.out.bel) (by omega) (by omega)).mono ?_; rintro e w4 ⟨rfl, hb4⟩; rw [HN6.out.cL, ← HX1.out]; have HN4 := Lib.hid (HN6.out.call hb4); have r0 := HN4.out.t0; have r1 := HN4.out.t1; have r2 := HN4.out.t2; have g0 := HN4.out.fr 0; have g1 := HN4.out.fr 1; have g2 := HN4.out.fr 2)
          refine hK.out _ _ (Or.inr ⟨r0, r1, r2⟩) ?_
          clear hK K
          try simp only [Act.put, List.setIfInBounds_toArray, List.set_cons_zero, List.set_cons_succ]
          refine wpAnyG_one (i := 10) (o := { dst := none, op := Op.store 84 (Operand.tmp 3) (Operand.tmp 125), type := 0, pos := "spec.go:156", after := #[{ on := 9, ground := Ground.data }, { on := 9, ground := Ground.chain }, { on := 0, ground := Ground.phase }, { on := 1, ground := Ground.phase }, { on := 2, ground := Ground.phase }, { on := 3, ground := Ground.phase }, { on := 4, ground := Ground.phase }, { on := 5, ground := Ground.phase }, { on := 6, ground := Ground.phase }, { on := 7, ground := Ground.phase }, { on := 8, ground := Ground.phase }, { on := 9, ground := Ground.phase }], guard := none }) (by kernel_rfl) rfl (fun K hK => ?_)
          go_simp
          refine hK.out _ _ (Or.inl rfl) ?_
          clear hK K
          refine wpAnyG_done (by kernel_rfl) ?_ _
          all_goals (go_wp2_with fail; go_meet; exact ⟨rfl, HN4.out.store x1⟩)
        case rest =>
          obtain ⟨rfl, hns1⟩ := hcut
          clear q0 q1 q2 f0 f1 f2
          have HN0 := HN1
          clear HN1
          have HN1 := Lib.hid hns1
          clear hns1
          have q0 := HN1.out.t0
          have q1 := HN1.out.t1
          have q2 := HN1.out.t2
          have f0 := HN1.out.fr 0
          have f1 := HN1.out.fr 1
          have f2 := HN1.out.fr 2
          obtain ⟨x2, hx2⟩ : ∃ x2, x1 + 3600 = x2 := ⟨_, rfl⟩
          have hp := Inv.hour HP.out HI.out HL.out.1 (HL.out.2.1 (by omega)) (HL.out.2.2.1 (by omega)) (fun h => by unfold hOK at h; rw [show (cxOf S x0 Y).ho _ = false from HH.out] at h; simp at h) (x1 := x1) (x2 := x2) (by rw [HX1.out]; rfl) hx2.symm
          have hr2 := inv_rng HN.out.tl hp.1 hr
          have HPM := Lib.hid hp
          have HX2 := Lib.hid hx2
          clear hx2 hp
          cases hm1 : (lo z x2 % 86400 / 3600 == 0) with
          | true =>
            go_wp2_with (first
              | (go_at_call 179; refine (tAdd0 x1 _ 3600 L _ (by omega) (by omega) (by omega) (by omega) (by decide) (by decide)).mono ?_; rintro e w1 ⟨rfl, hb1⟩; rw [HX2.out]; have HN2 := Lib.hid (HN1.out.call hb1); clear hb1 q0 q1 q2 f0 f1 f2; have q0 := HN2.out.t0; have q1 := HN2.out.t1; have q2 := HN2.out.t2; have f0 := HN2.out.fr 0; have f1 := HN2.out.fr 1; have f2 := HN2.out.fr 2)
              | (go_at_call 185; refine (tHour 0 x2 L z _ (HN2.out.store x2).tloc hn0 (by omega) (by omega)).mono ?_; rintro e w2 ⟨rfl, hb2⟩; have HN3 := Lib.hid ((HN2.out.store x2).call hb2); clear hb2 q0 q1 q2 f0 f1 f2))
            go_step3
            exact ⟨rfl, _, Nat.lt_of_lt_of_le HPM.out.2.1 (by rw [HM.out]; exact hn), x2, true, ⟨fr_ex, HN3.out, HPM.out.1⟩, rfl⟩
          | false =>
            go_wp2_with (first
              | (go_at_call 179; refine (tAdd0 x1 _ 3600 L _ (by omega) (by omega) (by omega) (by omega) (by decide) (by decide)).mono ?_; rintro e w1 ⟨rfl, hb1⟩; rw [HX2.out]; have HN2 := Lib.hid (HN1.out.call hb1); clear hb1 q0 q1 q2 f0 f1 f2; have q0 := HN2.out.t0; have q1 := HN2.out.t1; have q2 := HN2.out.t2; have f0 := HN2.out.fr 0; have f1 := HN2.out.fr 1; have f2 := HN2.out.fr 2)
              | (go_at_call 185; refine (tHour 0 x2 L z _ (HN2.out.store x2).tloc hn0 (by omega) (by omega)).mono ?_; rintro e w2 ⟨rfl, hb2⟩; have HN3 := Lib.hid ((HN2.out.store x2).call hb2); clear hb2 q0 q1 q2 f0 f1 f2))
            exact ⟨_, (by rw [← HM.out]; exact HPM.out.2.1), x2, true, ⟨fr_ex, HN3.out, HPM.out.1⟩, rfl, Nat.le_trans (Nat.le_of_lt HPM.out.2.1) (by rw [HM.out]; exact hn), (HPM.out.2.2.1 (by simpa using hm1)).1, fun _ => (HPM.out.2.2.1 (by simpa using hm1)).2.1, fun _ => (HPM.out.2.2.1 (by simpa using hm1)).2.2, by omega, by omega, by omega⟩
end
end Go.Proofs.YtjmgebhjkbcpcaaGreatDoor.NM
end
section
set_option linter.unusedVariables false
set_option linter.unusedSimpArgs false
set_option maxRecDepth 100000
namespace Go.Proofs.YtjmgebhjkbcpcaaGreatDoor.NM
open Go.RowKit Cal CronPl
section
variable (w : World) (bs bO bL : Nat) (ar : Value) (L : Option Addr) (z : Option Zone) (S : Sets) (x0 Y : Int) (P : Plain (lo z) (fun T => reso z T + 62135596800)) (hr : Rng x0 Y) (top : Nat)
set_option maxHeartbeats 4000000 in
include P hr in
theorem minute_round (n : Nat) (a' : Act) (wx : World) (hI : IL w bs bO bL ar L z S x0 Y top 3 n a' wx) :
    Code.wp Tryz.prog (body70 6) (Exit.then (fun a' w' => ∃ m, m < n ∧ IL w bs bO bL ar L z S x0 Y top 3 m a' w')
      (QM 6 (fun a' wx => ∃ n, IL w bs bO bL ar L z S x0 Y top 4 n a' wx) (fun a' wx => ∃ m, m < top ∧ JW w bs bO bL ar L z S x0 Y m a' wx))) a' wx := by
  obtain ⟨x, a, hh, hmu, hn, hlev⟩ := hI
  have hrg := hh.rng hr
  obtain ⟨⟨U, rfl⟩, hns, hiv⟩ := hh
  have t0 := hns.t0
  have t1 := hns.t1
  have t2 := hns.t2
  have HN := Lib.hid hns
  have HI := Lib.hid hiv
  have HL := Lib.hid hlev
  have HM := Lib.hid hmu
  have HP := Lib.hid P
  have hn0 : Nan 0 := ⟨by decide, by decide⟩
  have s4 := hns.spec.c1
  have e0 := not_hit S.mi (lo z x % 3600 / 60)
  have e1 : IntKind.u64.wrap (lo z x % 3600 / 60) = lo z x % 3600 / 60 := u64wrap_small _ (by omega) (by omega)
  have eb : 0 ≤ lo z x % 3600 / 60 ∧ lo z x % 3600 / 60 ≤ 60 := by omega
  clear hns hiv hlev hmu P
  conv => arg 2; whnf
  unfold fr70
  go_upto_region 34 with fail
  go_cut [140] from 131 to 149 (fun s53 wc => s53 = .bool (!hit S.mi (lo z x % 3600 / 60)) ∧ Below wx.heap.size wx wc)
  case first =>
    go_region_with (go_at_call 186; refine (tMinute 0 x L z _ (HN.out.tloc.below (Below.refl _ _).drew) hn0 (by omega) (by omega)).mono ?_; rintro e w1 ⟨rfl, hb1⟩; have hd5 := keep hb1 (show wx.drew.cell? ⟨bs, 1, none⟩ = some (.int .u64 S.mi) from s4))
    all_goals (go_wp2_with fail; go_meet; exact ⟨rfl, (Below.refl _ _).drew.trans hb1⟩)
  case rest =>
    obtain ⟨rfl, hb1⟩ := hcut
    have HN1 := Lib.hid (HN.out.call hb1)
    have q0 := HN1.out.t0
    have q1 := HN1.out.t1
    have q2 := HN1.out.t2
    have f0 := HN1.out.fr 0
    have f1 := HN1.out.fr 1
    have f2 := HN1.out.fr 2
    clear hb1 t0 t1 t2 s4 e0 e1 eb
    cases hh : hit S.mi (lo z x % 3600 / 60) with
    | true =>
      simp only [Bool.not_true]
      have HH := Lib.hid hh
      clear hh
      go_wp2
      exact ⟨rfl, n, x, a, ⟨fr_ex, HN1.out, HI.out⟩, HM.out, hn, HL.out.1, fun _ => HL.out.2.1 (by omega), fun _ => HL.out.2.2.1 (by omega), fun _ => HL.out.2.2.2.1 (by omega), fun _ => HH.out, by omega⟩
    | false =>
      simp only [Bool.not_false]
      have HH := Lib.hid hh
      clear hh
      cases a with
      | true =>
        obtain ⟨x2, hx2⟩ : ∃ x2, x + 60 = x2 := ⟨_, rfl⟩
        have hp := Inv.minute HP.out HI.out HL.out.1 (HL.out.2.1 (by omega)) (HL.out.2.2.1 (by omega)) (HL.out.2.2.2.1 (by omega)) (fun h => by unfold iOK at h; rw [show (cxOf S x0 Y).mi _ = false from HH.out] at h; simp at h) (x1 := x) (x2 := x2) rfl hx2.symm
        have hr2 := inv_rng HN.out.tl hp.1 hr
        have HPM := Lib.hid hp
        have HX2 := Lib.hid hx2
        clear hx2 hp
        cases hm1 : (lo z x2 % 3600 / 60 == 0) with
        | true =>
          go_wp2_with (first
            | (go_at_call 179; refine (tAdd0 x _ 60 L _ (by omega) (by omega) (by omega) (by omega) (by decide) (by decide)).mono ?_; rintro e w1 ⟨rfl, hb1⟩; rw [HX2.out]; have HN2 := Lib.hid (HN1.out.call hb1); clear hb1 q0 q1 q2 f0 f1 f2; have q0 := HN2.out.t0; have q1 := HN2.out.t1; have q2 := HN2.out.t2; have f0 := HN2.out.fr 0; have f1 := HN2.out.fr 1; have f2 := HN2.out.fr 2)
            | (go_at_call 186; refine (tMinute 0 x2 L z _ (HN2.out.store x2).tloc hn0 (by omega) (by omega)).mono ?_; rintro e w2 ⟨rfl, hb2⟩; have HN3 := Lib.hid ((HN2.out.store x2).call hb2); clear hb2 q0 q1 q2 f0 f1 f2))
          go_step3
          exact ⟨rfl, _, Nat.lt_of_lt_of_le HPM.out.2.1 (by rw [HM.out]; exact hn), x2, true, ⟨fr_ex, HN3.out, HPM.out.1⟩, rfl⟩
        | false =>
          go_wp2_with (first
            | (go_at_call 179; refine (tAdd0 x _ 60 L _ (by omega) (by omega) (by omega) (by omega) (by decide) (by decide)).mono ?_; rintro e w1 ⟨rfl, hb1⟩; rw [HX2.out]; have HN2 := Lib.hid (HN1.out.call hb1); clear hb1 q0 q1 q2 f0 f1 f2; have q0 := HN2.out.t0; have q1 := HN2.out.t1; have q2 := HN2.out.t2; have f0 := HN2.out.fr 0; have f1 := HN2.out.fr 1; have f2 := HN2.out.fr 2)
            | (go_at_call 186; refine (tMinute 0 x2 L z _ (HN2.out.store x2).tloc hn0 (by omega) (by omega)).mono ?_; rintro e w2 ⟨rfl, hb2⟩; have HN3 := Lib.hid ((HN2.out.store x2).call hb2); clear hb2 q0 q1 q2 f0 f1 f2))
          exact ⟨_, (by rw [← HM.out]; exact HPM.out.2.1), x2, true, ⟨fr_ex, HN3.out, HPM.out.1⟩, rfl, Nat.le_trans (Nat.le_of_lt HPM.out.2.1) (by rw [HM.out]; exact hn), (HPM.out.2.2.1 (by simpa using hm1)).1, fun _ => (HPM.out.2.2.1 (by simpa using hm1)).2.1, fun _ => (HPM.out.2.2.1 (by simpa using hm1)).2.2.1, fun _ => (HPM.out.2.2.1 (by simpa using hm1)).2.2.2, by omega, by omega⟩
      | false =>
        have hx0 : 0 ≤ x := by rw [HI.out.no rfl]; exact hr.l0
        obtain ⟨x1, hx1⟩ : ∃ x1, x - x % 60 = x1 := ⟨_, rfl⟩
        have hx1a : -6000000 ≤ x1 ∧ x1 ≤ 840000000000 := by omega
        have HX1 := Lib.hid hx1
        clear hx1
        obtain ⟨x2, hx2⟩ : ∃ x2, x1 + 60 = x2 := ⟨_, rfl⟩
        have hp := Inv.minute HP.out HI.out HL.out.1 (HL.out.2.1 (by omega)) (HL.out.2.2.1 (by omega)) (HL.out.2.2.2.1 (by omega)) (fun h => by unfold iOK at h; rw [show (cxOf S x0 Y).mi _ = false from HH.out] at h; simp at h) (x1 := x1) (x2 := x2) HX1.out.symm hx2.symm
        have hr2 := inv_rng HN.out.tl hp.1 hr
        have HPM := Lib.hid hp
        have HX2 := Lib.hid hx2
        clear hx2 hp
        cases hm1 : (lo z x2 % 3600 / 60 == 0) with
        | true =>
          go_wp2_with (first
            | (go_at_call 187; refine (tTrunc60 x L _ hx0 (by omega)).mono ?_; rintro e w0 ⟨rfl, hb0⟩; rw [HX1.out]; have HNa := Lib.hid (HN1.out.call hb0); clear hb0 q0 q1 q2 f0 f1 f2; have q0 := HNa.out.t0; have q1 := HNa.out.t1; have q2 := HNa.out.t2; have f0 := HNa.out.fr 0; have f1 := HNa.out.fr 1; have f2 := HNa.out.fr 2)
            | (go_at_call 179; refine (tAdd0 x1 _ 60 L _ (by omega) (by omega) (by omega) (by omega) (by decide) (by decide)).mono ?_; rintro e w1 ⟨rfl, hb1⟩; rw [HX2.out]; have HN2 := Lib.hid ((HNa.out.store x1).call hb1); clear hb1 q0 q1 q2 f0 f1 f2; have q0 := HN2.out.t0; have q1 := HN2.out.t1; have q2 := HN2.out.t2; have f0 := HN2.out.fr 0; have f1 := HN2.out.fr 1; have f2 := HN2.out.fr 2)
            | (go_at_call 186; refine (tMinute 0 x2 L z _ (HN2.out.store x2).tloc hn0 (by omega) (by omega)).mono ?_; rintro e w2 ⟨rfl, hb2⟩; have HN3 := Lib.hid ((HN2.out.store x2).call hb2); clear hb2 q0 q1 q2 f0 f1 f2))
          go_step3
          exact ⟨rfl, _, Nat.lt_of_lt_of_le HPM.out.2.1 (by rw [HM.out]; exact hn), x2, true, ⟨fr_ex, HN3.out, HPM.out.1⟩, rfl⟩
        | false =>
          go_wp2_with (first
            | (go_at_call 187; refine (tTrunc60 x L _ hx0 (by omega)).mono ?_; rintro e w0 ⟨rfl, hb0⟩; rw [HX1.out]; have HNa := Lib.hid (HN1.out.call hb0); clear hb0 q0 q1 q2 f0 f1 f2; have q0 := HNa.out.t0; have q1 := HNa.out.t1; have q2 := HNa.out.t2; have f0 := HNa.out.fr 0; have f1 := HNa.out.fr 1; have f2 := HNa.out.fr 2)
            | (go_at_call 179; refine (tAdd0 x1 _ 60 L _ (by omega) (by omega) (by omega) (by omega) (by decide) (by decide)).mono ?_; rintro e w1 ⟨rfl, hb1⟩; rw [HX2.out]; have HN2 := Lib.hid ((HNa.out.store x1).call hb1); clear hb1 q0 q1 q2 f0 f1 f2; have q0 := HN2.out.t0; have q1 := HN2.out.t1; have q2 := HN2.out.t2; have f0 := HN2.out.fr 0; have f1 := HN2.out.fr 1; have f2 := HN2.out.fr 2)
            | (go_at_call 186; refine (tMinute 0 x2 L z _ (HN2.out.store x2).tloc hn0 (by omega) (by omega)).mono ?_; rintro e w2 ⟨rfl, hb2⟩; have HN3 := Lib.hid ((HN2.out.store x2).call hb2); clear hb2 q0 q1 q2 f0 f1 f2))
          exact ⟨_, (by rw [← HM.out]; exact HPM.out.2.1), x2, true, ⟨fr_ex, HN3.out, HPM.out.1⟩, rfl, Nat.le_trans (Nat.le_of_lt HPM.out.2.1) (by rw [HM.out]; exact hn), (HPM.out.2.2.1 (by simpa using hm1)).1, fun _ => (HPM.out.2.2.1 (by simpa using hm1)).2.1, fun _ => (HPM.out.2.2.1 (by simpa using hm1)).2.2.1, fun _ => (HPM.out.2.2.1 (by simpa using hm1)).2.2.2, by omega, by omega⟩
end
end Go.Proofs.YtjmgebhjkbcpcaaGreatDoor.NM
end
section
set_option linter.unusedVariables false
set_option linter.unusedSimpArgs false
set_option maxRecDepth 100000
namespace Go.Proofs.YtjmgebhjkbcpcaaGreatDoor.NM
open Go.RowKit Cal CronPl
section
variable (w : World) (bs bO bL : Nat) (ar : Value) (L : Option Addr) (z : Option Zone) (S : Sets) (x0 Y : Int) (P : Plain (lo z) (fun T => reso z T + 62135596800)) (hr : Rng x0 Y) (top : Nat)
set_option maxHeartbeats 4000000 in
include P hr in
theorem second_round (n : Nat) (a' : Act) (wx : World) (hI : IL w bs bO bL ar L z S x0 Y top 4 n a' wx) :
    Code.wp Tryz.prog (body70 8) (Exit.then (fun a' w' => ∃ m, m < n ∧ IL w bs bO bL ar L z S x0 Y top 4 m a' w')
      (QM 8 (fun a' wx => ∃ n, IL w bs bO bL ar L z S x0 Y top 5 n a' wx) (fun a' wx => ∃ m, m < top ∧ JW w bs bO bL ar L z S x0 Y m a' wx))) a' wx := by
  obtain ⟨x, a, hh, hmu, hn, hlev⟩ := hI
  have hrg := hh.rng hr
  obtain ⟨⟨U, rfl⟩, hns, hiv⟩ := hh
  have t0 := hns.t0
  have t1 := hns.t1
  have t2 := hns.t2
  have HN := Lib.hid hns
  have HI := Lib.hid hiv
  have HL := Lib.hid hlev
  have HM := Lib.hid hmu
  have HP := Lib.hid P
  have hn0 : Nan 0 := ⟨by decide, by decide⟩
  have s4 := hns.spec.c0
  have e0 := not_hit S.se (lo z x % 60)
  have e1 : IntKind.u64.wrap (lo z x % 60) = lo z x % 60 := u64wrap_small _ (by omega) (by omega)
  have eb : 0 ≤ lo z x % 60 ∧ lo z x % 60 ≤ 60 := by omega
  clear hns hiv hlev hmu P
  conv => arg 2; whnf
  unfold fr70
  go_upto_region 40 with fail
  go_cut [159] from 150 to 168 (fun s53 wc => s53 = .bool (!hit S.se (lo z x % 60)) ∧ Below wx.heap.size wx wc)
  case first =>
    go_region_with (go_at_call 188; refine (tSecond 0 x L z _ (HN.out.tloc.below (Below.refl _ _).drew) hn0 (by omega) (by omega)).mono ?_; rintro e w1 ⟨rfl, hb1⟩; have hd5 := keep hb1 (show wx.drew.cell? ⟨bs, 0, none⟩ = some (.int .u64 S.se) from s4))
    all_goals (go_wp2_with fail; go_meet; exact ⟨rfl, (Below.refl _ _).drew.trans hb1⟩)
  case rest =>
    obtain ⟨rfl, hb1⟩ := hcut
    have HN1 := Lib.hid (HN.out.call hb1)
    have q0 := HN1.out.t0
    have q1 := HN1.out.t1
    have q2 := HN1.out.t2
    have f0 := HN1.out.fr 0
    have f1 := HN1.out.fr 1
    have f2 := HN1.out.fr 2
    clear hb1 t0 t1 t2 s4 e0 e1 eb
    cases hh : hit S.se (lo z x % 60) with
    | true =>
      simp only [Bool.not_true]
      have HH := Lib.hid hh
      clear hh
      go_wp2
      exact ⟨rfl, n, x, a, ⟨fr_ex, HN1.out, HI.out⟩, HM.out, hn, HL.out.1, fun _ => HL.out.2.1 (by omega), fun _ => HL.out.2.2.1 (by omega), fun _ => HL.out.2.2.2.1 (by omega), fun _ => HL.out.2.2.2.2.1 (by omega), fun _ => HH.out⟩
    | false =>
      simp only [Bool.not_false]
      have HH := Lib.hid hh
      clear hh
      cases a with
      | true =>
        obtain ⟨x2, hx2⟩ : ∃ x2, x + 1 = x2 := ⟨_, rfl⟩
        have hp := Inv.second HP.out HI.out HL.out.1 (HL.out.2.1 (by omega)) (HL.out.2.2.1 (by omega)) (HL.out.2.2.2.1 (by omega)) (HL.out.2.2.2.2.1 (by omega)) (fun h => by unfold sOK at h; rw [show (cxOf S x0 Y).se _ = false from HH.out] at h; simp at h) (x2 := x2) hx2.symm
        have hr2 := inv_rng HN.out.tl hp.1 hr
        have HPM := Lib.hid hp
        have HX2 := Lib.hid hx2
        clear hx2 hp
        cases hm1 : (lo z x2 % 60 == 0) with
        | true =>
          go_wp2_with (first
            | (go_at_call 179; refine (tAdd0 x _ 1 L _ (by omega) (by omega) (by omega) (by omega) (by decide) (by decide)).mono ?_; rintro e w1 ⟨rfl, hb1⟩; rw [HX2.out]; have HN2 := Lib.hid (HN1.out.call hb1); clear hb1 q0 q1 q2 f0 f1 f2; have q0 := HN2.out.t0; have q1 := HN2.out.t1; have q2 := HN2.out.t2; have f0 := HN2.out.fr 0; have f1 := HN2.out.fr 1; have f2 := HN2.out.fr 2)
            | (go_at_call 188; refine (tSecond 0 x2 L z _ (HN2.out.store x2).tloc hn0 (by omega) (by omega)).mono ?_; rintro e w2 ⟨rfl, hb2⟩; have HN3 := Lib.hid ((HN2.out.store x2).call hb2); clear hb2 q0 q1 q2 f0 f1 f2))
          go_step3
          exact ⟨rfl, _, Nat.lt_of_lt_of_le HPM.out.2.1 (by rw [HM.out]; exact hn), x2, true, ⟨fr_ex, HN3.out, HPM.out.1⟩, rfl⟩
        | false =>
          go_wp2_with (first
            | (go_at_call 179; refine (tAdd0 x _ 1 L _ (by omega) (by omega) (by omega) (by omega) (by decide) (by decide)).mono ?_; rintro e w1 ⟨rfl, hb1⟩; rw [HX2.out]; have HN2 := Lib.hid (HN1.out.call hb1); clear hb1 q0 q1 q2 f0 f1 f2; have q0 := HN2.out.t0; have q1 := HN2.out.t1; have q2 := HN2.out.t2; have f0 := HN2.out.fr 0; have f1 := HN2.out.fr 1; have f2 := HN2.out.fr 2)
            | (go_at_call 188; refine (tSecond 0 x2 L z _ (HN2.out.store x2).tloc hn0 (by omega) (by omega)).mono ?_; rintro e w2 ⟨rfl, hb2⟩; have HN3 := Lib.hid ((HN2.out.store x2).call hb2); clear hb2 q0 q1 q2 f0 f1 f2))
          exact ⟨_, (by rw [← HM.out]; exact HPM.out.2.1), x2, true, ⟨fr_ex, HN3.out, HPM.out.1⟩, rfl, Nat.le_trans (Nat.le_of_lt HPM.out.2.1) (by rw [HM.out]; exact hn), (HPM.out.2.2 (by simpa using hm1)).1, fun _ => (HPM.out.2.2 (by simpa using hm1)).2.1, fun _ => (HPM.out.2.2 (by simpa using hm1)).2.2.1, fun _ => (HPM.out.2.2 (by simpa using hm1)).2.2.2.1, fun _ => (HPM.out.2.2 (by simpa using hm1)).2.2.2.2, by omega⟩
      | false =>
        have hx0 : 0 ≤ x := by rw [HI.out.no rfl]; exact hr.l0
        obtain ⟨x2, hx2⟩ : ∃ x2, x + 1 = x2 := ⟨_, rfl⟩
        have hp := Inv.second HP.out HI.out HL.out.1 (HL.out.2.1 (by omega)) (HL.out.2.2.1 (by omega)) (HL.out.2.2.2.1 (by omega)) (HL.out.2.2.2.2.1 (by omega)) (fun h => by unfold sOK at h; rw [show (cxOf S x0 Y).se _ = false from HH.out] at h; simp at h) (x2 := x2) hx2.symm
        have hr2 := inv_rng HN.out.tl hp.1 hr
        have HPM := Lib.hid hp
        have HX2 := Lib.hid hx2
        clear hx2 hp
        cases hm1 : (lo z x2 % 60 == 0) with
        | true =>
          go_wp2_with (first
            | (go_at_call 187; refine (tTrunc1 x L _ hx0 (by omega)).mono ?_; rintro e w0 ⟨rfl, hb0⟩; have HNa := Lib.hid (HN1.out.call hb0); clear hb0 q0 q1 q2 f0 f1 f2; have q0 := HNa.out.t0; have q1 := HNa.out.t1; have q2 := HNa.out.t2; have f0 := HNa.out.fr 0; have f1 := HNa.out.fr 1; have f2 := HNa.out.fr 2)
            | (go_at_call 179; refine (tAdd0 x _ 1 L _ (by omega) (by omega) (by omega) (by omega) (by decide) (by decide)).mono ?_; rintro e w1 ⟨rfl, hb1⟩; rw [HX2.out]; have HN2 := Lib.hid ((HNa.out.store x).call hb1); clear hb1 q0 q1 q2 f0 f1 f2; have q0 := HN2.out.t0; have q1 := HN2.out.t1; have q2 := HN2.out.t2; have f0 := HN2.out.fr 0; have f1 := HN2.out.fr 1; have f2 := HN2.out.fr 2)
            | (go_at_call 188; refine (tSecond 0 x2 L z _ (HN2.out.store x2).tloc hn0 (by omega) (by omega)).mono ?_; rintro e w2 ⟨rfl, hb2⟩; have HN3 := Lib.hid ((HN2.out.store x2).call hb2); clear hb2 q0 q1 q2 f0 f1 f2))
          go_step3
          exact ⟨rfl, _, Nat.lt_of_lt_of_le HPM.out.2.1 (by rw [HM.out]; exact hn), x2, true, ⟨fr_ex, HN3.out, HPM.out.1⟩, rfl⟩
        | false =>
          go_wp2_with (first
            | (go_at_call 187; refine (tTrunc1 x L _ hx0 (by omega)).mono ?_; rintro e w0 ⟨rfl, hb0⟩; have HNa := Lib.hid (HN1.out.call hb0); clear hb0 q0 q1 q2 f0 f1 f2; have q0 := HNa.out.t0; have q1 := HNa.out.t1; have q2 := HNa.out.t2; have f0 := HNa.out.fr 0; have f1 := HNa.out.fr 1; have f2 := HNa.out.fr 2)
            | (go_at_call 179; refine (tAdd0 x _ 1 L _ (by omega) (by omega) (by omega) (by omega) (by decide) (by decide)).mono ?_; rintro e w1 ⟨rfl, hb1⟩; rw [HX2.out]; have HN2 := Lib.hid ((HNa.out.store x).call hb1); clear hb1 q0 q1 q2 f0 f1 f2; have q0 := HN2.out.t0; have q1 := HN2.out.t1; have q2 := HN2.out.t2; have f0 := HN2.out.fr 0; have f1 := HN2.out.fr 1; have f2 := HN2.out.fr 2)
            | (go_at_call 188; refine (tSecond 0 x2 L z _ (HN2.out.store x2).tloc hn0 (by omega) (by omega)).mono ?_; rintro e w2 ⟨rfl, hb2⟩; have HN3 := Lib.hid ((HN2.out.store x2).call hb2); clear hb2 q0 q1 q2 f0 f1 f2))
          exact ⟨_, (by rw [← HM.out]; exact HPM.out.2.1), x2, true, ⟨fr_ex, HN3.out, HPM.out.1⟩, rfl, Nat.le_trans (Nat.le_of_lt HPM.out.2.1) (by rw [HM.out]; exact hn), (HPM.out.2.2 (by simpa using hm1)).1, fun _ => (HPM.out.2.2 (by simpa using hm1)).2.1, fun _ => (HPM.out.2.2 (by simpa using hm1)).2.2.1, fun _ => (HPM.out.2.2 (by simpa using hm1)).2.2.2.1, fun _ => (HPM.out.2.2 (by simpa using hm1)).2.2.2.2, by omega⟩
end
end Go.Proofs.YtjmgebhjkbcpcaaGreatDoor.NM
end
section
set_option linter.unusedVariables false
set_option linter.unusedSimpArgs false
set_option maxRecDepth 100000
namespace Go.Proofs.YtjmgebhjkbcpcaaGreatDoor.NM
open Go.RowKit Cal CronPl
/-- what Next answers: the first instant that matches, or the zero Time if none does up to the year Y -/
def NextR (w : World) (L : Option Addr) (z : Option Zone) (S : Sets) (x0 Y : Int) (e : Ending) (w' : World) : Prop :=
  ((∃ x', e = .returned (.agg #[.int .u64 0, .int .i64 x', .pointer L]) ∧ (Match (cxOf S x0 Y) (lo z) x' ∧ NM (cxOf S x0 Y) (lo z) x0 x' ∧ x0 ≤ x' ∧ gyear (lo z x' / 86400) ≤ Y)) ∨
    (e = .returned (.agg #[.int .u64 0, .int .i64 0, .pointer none]) ∧ ∀ v, x0 ≤ v → gyear (lo z v / 86400) ≤ Y → ¬ Match (cxOf S x0 Y) (lo z) v)) ∧ Below w.heap.size w w'
def sk1 : Code → Code
  | .seq a _ => a
  | c => c
def sk2 : Code → Code
  | .seq _ b => b
  | c => c
def findScope : Code → Option Code
  | .seq a b => match findScope a with
    | some c => some c
    | none => findScope b
  | .scope c => some c
  | _ => none
noncomputable def rest70 : Code := (((Tryz.f177.body).bind findScope).bind (fun c => findLabel c 0)).getD .skip
/-- the year's test -/
noncomputable def year70 : Code := sk1 (sk2 rest70)
/-- the end -/
noncomputable def end70 : Code := sk2 (sk2 (sk2 (sk2 (sk2 (sk2 (sk2 rest70))))))
def TM (w : World) (bs bO bL : Nat) (ar : Value) (L : Option Addr) (z : Option Zone) (S : Sets) (x0 Y : Int) (n : Nat) : Exit → Act → World → Prop
  | .normal, a, wx => IL w bs bO bL ar L z S x0 Y n 0 n a wx
  | .ret, a, wx => bodyPost Tryz.prog Tryz.f177 (NextR w L z S x0 Y) .ret a wx
  | _, _, _ => False
section
variable (w : World) (bs bO bL : Nat) (ar : Value) (L : Option Addr) (z : Option Zone) (S : Sets) (x0 Y : Int) (P : Plain (lo z) (fun T => reso z T + 62135596800)) (hr : Rng x0 Y)
set_option maxHeartbeats 4000000 in
include P hr in
theorem year_wp (n : Nat) (a' : Act) (wx : World) (hI : JW w bs bO bL ar L z S x0 Y n a' wx) :
    Code.wp Tryz.prog year70 (TM w bs bO bL ar L z S x0 Y n) a' wx := by
  obtain ⟨x, a, hh, hmu⟩ := hI
  have hrg := hh.rng hr
  obtain ⟨⟨U, rfl⟩, hns, hiv⟩ := hh
  have t0 := hns.t0
  have t1 := hns.t1
  have t2 := hns.t2
  have HN := Lib.hid hns
  have HI := Lib.hid hiv
  have HM := Lib.hid hmu
  have HP := Lib.hid P
  have hn0 : Nan 0 := ⟨by decide, by decide⟩
  clear hns hiv hmu P
  conv => arg 2; whnf
  unfold fr70
  cases hy : decide (Y < gyear (lo z x / 86400)) with
  | true =>
    go_wp2_with (go_at_call 180; refine (tYear 0 x L z _ HN.out.tloc hn0 (by omega) (by omega)).mono ?_; rintro e w1 ⟨rfl, hb1⟩; have HN1 := Lib.hid (HN.out.call hb1); clear t0 t1 t2 hb1; have q0 := HN1.out.r0; have q1 := HN1.out.r1; have q2 := HN1.out.r2; have f0 := HN1.out.rf 0; have f1 := HN1.out.rf 1; have f2 := HN1.out.rf 2)
    refine bodyPost_ret (v := .agg #[.int .u64 0, .int .i64 0, .pointer none]) (by simp [results, Tryz.results177, go_sem, q0, q1, q2]) rfl ⟨Or.inr ⟨rfl, ?_⟩, ((HN1.out.bel.setCell (by simp) _).setCell (by simp) _).setCell (by simp) _⟩
    exact none_left HP.out HI.out (by simpa [cxOf] using hy)
  | false =>
    go_wp2_with (go_at_call 180; refine (tYear 0 x L z _ HN.out.tloc hn0 (by omega) (by omega)).mono ?_; rintro e w1 ⟨rfl, hb1⟩; have HN1 := Lib.hid (HN.out.call hb1); clear t0 t1 t2 hb1; have q0 := HN1.out.r0; have q1 := HN1.out.r1; have q2 := HN1.out.r2; have f0 := HN1.out.rf 0; have f1 := HN1.out.rf 1; have f2 := HN1.out.rf 2)
    exact ⟨x, a, ⟨fr_ex, HN1.out, HI.out⟩, HM.out, Nat.le_refl _, by simpa using hy, by omega, by omega, by omega, by omega, by omega⟩
set_option maxHeartbeats 4000000 in
include hr in
omit P in
theorem end_wp (n top : Nat) (a' : Act) (wx : World) (hI : IL w bs bO bL ar L z S x0 Y top 5 n a' wx) :
    Code.wp Tryz.prog end70 (bodyPost Tryz.prog Tryz.f177 (NextR w L z S x0 Y)) a' wx := by
  obtain ⟨x, a, hh, hmu, hn, hlev⟩ := hI
  have hrg := hh.rng hr
  obtain ⟨⟨U, rfl⟩, hns, hiv⟩ := hh
  have t0 := hns.t0
  have t1 := hns.t1
  have t2 := hns.t2
  have hlO := hns.lO.p hns.bel
  have hcO := hns.cO
  have HN := Lib.hid hns
  have HI := Lib.hid hiv
  have HL := Lib.hid hlev
  have hn0 : Nan 0 := ⟨by decide, by decide⟩
  have HLO := Lib.hid hlO
  have HCO := Lib.hid hcO
  clear hns hiv hmu hlO hcO hlev
  conv => arg 2; whnf
  unfold fr70
  go_wp2_with (go_at_call 67; refine (tIn 0 x L bO z _ HLO.out hn0).mono ?_; rintro e w1 ⟨rfl, hb1⟩; rw [HCO.out]; have HN1 := Lib.hid (HN.out.call hb1); clear t0 t1 t2 hb1; have q0 := HN1.out.r0; have q1 := HN1.out.r1; have q2 := HN1.out.r2; have f0 := HN1.out.rf 0; have f1 := HN1.out.rf 1; have f2 := HN1.out.rf 2)
  refine bodyPost_ret (v := .agg #[.int .u64 0, .int .i64 x, .pointer L]) (by simp [results, Tryz.results177, go_sem, q0, q1, q2]) rfl ⟨Or.inl ⟨x, rfl, ?_⟩, ((HN1.out.bel.setCell (by simp) _).setCell (by simp) _).setCell (by simp) _⟩
  have hf := CronPl.found HI.out (HL.out.2.1 (by omega)) (HL.out.2.2.1 (by omega)) (HL.out.2.2.2.1 (by omega)) (HL.out.2.2.2.2.1 (by omega)) (HL.out.2.2.2.2.2 (by omega))
  exact ⟨hf.1, hf.2.1, hf.2.2, HL.out.1⟩
end
end Go.Proofs.YtjmgebhjkbcpcaaGreatDoor.NM
end
