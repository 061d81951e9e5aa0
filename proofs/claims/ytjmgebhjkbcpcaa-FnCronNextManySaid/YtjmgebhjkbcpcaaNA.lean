/- the calendar, and the search for the next activation, as plain mathematics. -/

namespace Go.Proofs.Ytjmgebhjkbcpcaa.Cal
def leapI (y : Int) : Int := if y % 4 = 0 ∧ (y % 100 ≠ 0 ∨ y % 400 = 0) then 1 else 0
def ystart (y : Int) : Int := 365 * (y - 1) + (y - 1) / 4 - (y - 1) / 100 + (y - 1) / 400 - 719162
def mlen (y m : Int) : Int := if m = 2 then 28 + leapI y else if m = 4 ∨ m = 6 ∨ m = 9 ∨ m = 11 then 30 else 31
def cum (y m : Int) : Int :=
  if m ≤ 1 then 0 else if m = 2 then 31 else if m = 3 then 59 + leapI y else if m = 4 then 90 + leapI y else if m = 5 then 120 + leapI y
  else if m = 6 then 151 + leapI y else if m = 7 then 181 + leapI y else if m = 8 then 212 + leapI y else if m = 9 then 243 + leapI y
  else if m = 10 then 273 + leapI y else if m = 11 then 304 + leapI y else if m = 12 then 334 + leapI y else 365 + leapI y

theorem leapI_01 (y : Int) : leapI y = 0 ∨ leapI y = 1 := by unfold leapI; split <;> simp
theorem ystart_succ (y : Int) : ystart (y + 1) = ystart y + 365 + leapI y := by
  unfold ystart leapI; split <;> omega
theorem ystart_le {y z : Int} (h : y ≤ z) : ystart y ≤ ystart z := by unfold ystart; omega
theorem cum_succ (y m : Int) (h1 : 1 ≤ m) (h2 : m ≤ 12) : cum y (m + 1) = cum y m + mlen y m := by
  have : m = 1 ∨ m = 2 ∨ m = 3 ∨ m = 4 ∨ m = 5 ∨ m = 6 ∨ m = 7 ∨ m = 8 ∨ m = 9 ∨ m = 10 ∨ m = 11 ∨ m = 12 := by omega
  rcases this with rfl | rfl | rfl | rfl | rfl | rfl | rfl | rfl | rfl | rfl | rfl | rfl <;> simp [cum, mlen] <;> omega
theorem mlen_bd (y m : Int) : 28 ≤ mlen y m ∧ mlen y m ≤ 31 := by
  unfold mlen; have := leapI_01 y; split
  · omega
  · split <;> omega
theorem cum_one (y : Int) : cum y 1 = 0 := by simp [cum]
theorem cum_13 (y : Int) : cum y 13 = 365 + leapI y := by simp [cum]
theorem cum_le (y m k : Int) (h : m ≤ k) : cum y m ≤ cum y k := by
  unfold cum; have := leapI_01 y; repeat' split
  all_goals omega

/-- day n (from 1970) is day d of month m of year y -/
structure IsDate (n y m d : Int) : Prop where
  lo : ystart y ≤ n
  m1 : 1 ≤ m
  m12 : m ≤ 12
  d1 : 1 ≤ d
  dm : d ≤ mlen y m
  eq : n = ystart y + cum y m + d - 1
theorem IsDate.hi {n y m d : Int} (h : IsDate n y m d) : n < ystart (y + 1) := by
  have h1 := cum_succ y m h.m1 h.m12
  have h2 := cum_le y (m + 1) 13 (by have := h.m12; omega)
  rw [cum_13] at h2
  have := h.dm; have := h.eq; have := ystart_succ y; omega
theorem IsDate.uniq {n y m d y' m' d' : Int} (h : IsDate n y m d) (h' : IsDate n y' m' d') : y = y' ∧ m = m' ∧ d = d' := by
  have hy : y = y' := by
    rcases Int.lt_trichotomy y y' with hl | he | hl
    · have := ystart_le (show y + 1 ≤ y' by omega); have := h.hi; have := h'.lo; omega
    · exact he
    · have := ystart_le (show y' + 1 ≤ y by omega); have := h'.hi; have := h.lo; omega
  subst hy
  have hm : m = m' := by
    rcases Int.lt_trichotomy m m' with hl | he | hl
    · have := cum_le y (m + 1) m' (by omega); have := cum_succ y m h.m1 h.m12
      have := h.eq; have := h'.eq; have := h.dm; have := h'.d1; omega
    · exact he
    · have := cum_le y (m' + 1) m (by omega); have := cum_succ y m' h'.m1 h'.m12
      have := h.eq; have := h'.eq; have := h'.dm; have := h.d1; omega
  subst hm
  have := h.eq; have := h'.eq
  exact ⟨rfl, rfl, by omega⟩

def gc (n : Int) : Int := (4 * (n + 719468) + 3) / 146097
def gr (n : Int) : Int := (4 * (n + 719468) + 3) % 146097 / 4
def gcy (n : Int) : Int := (4 * gr n + 3) / 1461
def gyd (n : Int) : Int := (4 * gr n + 3) % 1461 / 4
def gjf (n : Int) : Int := if 306 ≤ gyd n then 1 else 0
def gyear (n : Int) : Int := 100 * gc n + gcy n + gjf n
def gm0 (n : Int) : Int := (2141 * gyd n + 197913) / 65536
def gmonth (n : Int) : Int := gm0 n - 12 * gjf n
def gday (n : Int) : Int := (2141 * gyd n + 197913) % 65536 / 2141 + 1

def mchk (k : Nat) : Bool :=
  let M := (2141 * k + 197913) / 65536
  let D := (2141 * k + 197913) % 65536 / 2141
  (M == 3 && k < 31 && D == k) || (M == 4 && 31 ≤ k && k < 61 && D + 31 == k) || (M == 5 && 61 ≤ k && k < 92 && D + 61 == k) ||
  (M == 6 && 92 ≤ k && k < 122 && D + 92 == k) || (M == 7 && 122 ≤ k && k < 153 && D + 122 == k) || (M == 8 && 153 ≤ k && k < 184 && D + 153 == k) ||
  (M == 9 && 184 ≤ k && k < 214 && D + 184 == k) || (M == 10 && 214 ≤ k && k < 245 && D + 214 == k) || (M == 11 && 245 ≤ k && k < 275 && D + 245 == k) ||
  (M == 12 && 275 ≤ k && k < 306 && D + 275 == k) || (M == 13 && 306 ≤ k && k < 337 && D + 306 == k) || (M == 14 && 337 ≤ k && D + 337 == k)
theorem mchk_all : (List.range 366).all mchk = true := by decide +kernel
theorem mtab (k : Nat) (hk : k < 366) (M D : Nat) (hM : M = (2141 * k + 197913) / 65536) (hD : D = (2141 * k + 197913) % 65536 / 2141) :
    (M = 3 ∧ k < 31 ∧ D = k) ∨ (M = 4 ∧ 31 ≤ k ∧ k < 61 ∧ D + 31 = k) ∨ (M = 5 ∧ 61 ≤ k ∧ k < 92 ∧ D + 61 = k) ∨
    (M = 6 ∧ 92 ≤ k ∧ k < 122 ∧ D + 92 = k) ∨ (M = 7 ∧ 122 ≤ k ∧ k < 153 ∧ D + 122 = k) ∨ (M = 8 ∧ 153 ≤ k ∧ k < 184 ∧ D + 153 = k) ∨
    (M = 9 ∧ 184 ≤ k ∧ k < 214 ∧ D + 184 = k) ∨ (M = 10 ∧ 214 ≤ k ∧ k < 245 ∧ D + 214 = k) ∨ (M = 11 ∧ 245 ≤ k ∧ k < 275 ∧ D + 245 = k) ∨
    (M = 12 ∧ 275 ≤ k ∧ k < 306 ∧ D + 275 = k) ∨ (M = 13 ∧ 306 ≤ k ∧ k < 337 ∧ D + 306 = k) ∨ (M = 14 ∧ 337 ≤ k ∧ D + 337 = k) := by
  have h := List.all_eq_true.1 mchk_all k (List.mem_range.2 hk)
  simp only [mchk, ← hM, ← hD, Bool.or_eq_true, Bool.and_eq_true, beq_iff_eq, decide_eq_true_eq, and_assoc, or_assoc] at h
  exact h
theorem gcore1 (n c s r : Int) (h : 4 * (n + 719468) + 3 = 146097 * c + s) (h0 : 0 ≤ s) (h1 : s < 146097) (hr : r = s / 4) :
    n + 719468 = 36524 * c + c / 4 + r ∧ 0 ≤ r ∧ r ≤ 36524 ∧ (r = 36524 → c % 4 = 3) := by
  obtain ⟨e, f, hc, hf0, hf1⟩ : ∃ e f : Int, c = 4 * e + f ∧ 0 ≤ f ∧ f ≤ 3 := ⟨c / 4, c % 4, by omega, by omega, by omega⟩
  obtain ⟨u, v, hs, hv0, hv1⟩ : ∃ u v : Int, s = 4 * u + v ∧ 0 ≤ v ∧ v ≤ 3 := ⟨s / 4, s % 4, by omega, by omega, by omega⟩
  obtain rfl : r = u := by omega
  have hv : v = 3 - f := by omega
  refine ⟨by omega, by omega, by omega, fun _ => by omega⟩
theorem gcore2 (r cy t yd : Int) (h : 4 * r + 3 = 1461 * cy + t) (h0 : 0 ≤ t) (h1 : t < 1461) (hy : yd = t / 4) (hr0 : 0 ≤ r) (hr1 : r ≤ 36524) :
    r = 365 * cy + cy / 4 + yd ∧ 0 ≤ yd ∧ yd ≤ 365 ∧ 0 ≤ cy ∧ cy ≤ 99 ∧ (yd = 365 → cy % 4 = 3) := by
  obtain ⟨e, f, hc, hf0, hf1⟩ : ∃ e f : Int, cy = 4 * e + f ∧ 0 ≤ f ∧ f ≤ 3 := ⟨cy / 4, cy % 4, by omega, by omega, by omega⟩
  obtain ⟨u, v, hs, hv0, hv1⟩ : ∃ u v : Int, t = 4 * u + v ∧ 0 ≤ v ∧ v ≤ 3 := ⟨t / 4, t % 4, by omega, by omega, by omega⟩
  obtain rfl : yd = u := by omega
  have hv : v = 3 - f := by omega
  refine ⟨by omega, by omega, by omega, by omega, by omega, fun _ => by omega⟩
theorem gcore3 (n c r cy yd : Int) (hn : n + 719468 = 36524 * c + c / 4 + r) (hr : r = 365 * cy + cy / 4 + yd) (h0 : 0 ≤ cy) (h1 : cy ≤ 99) :
    n = ystart (100 * c + cy + 1) - 306 + yd := by unfold ystart; omega
theorem gcore4 (c r cy yd : Int) (h4 : r = 36524 → c % 4 = 3) (hr : r = 365 * cy + cy / 4 + yd) (h0 : 0 ≤ cy) (h1 : cy ≤ 99) (h5 : yd = 365 → cy % 4 = 3) (h6 : yd ≤ 365) :
    yd ≤ 364 + leapI (100 * c + cy + 1) := by
  unfold leapI
  split
  · omega
  · rename_i hl
    by_cases he : yd = 365
    · exfalso; apply hl
      have := h5 he
      by_cases h9 : cy = 99
      · have := h4 (by omega); subst h9; omega
      · omega
    · omega
theorem gcore (n : Int) : ∃ Y : Int, Y = 100 * gc n + gcy n ∧ 0 ≤ gyd n ∧ gyd n ≤ 364 + leapI (Y + 1) ∧
    n = ystart (Y + 1) - 306 + gyd n := by
  obtain ⟨hn, hr0, hr1, h4⟩ := gcore1 n (gc n) ((4 * (n + 719468) + 3) % 146097) (gr n) (by unfold gc; omega) (by omega) (by omega) rfl
  obtain ⟨hre, hy0, hy1, hc0, hc1, h5⟩ := gcore2 (gr n) (gcy n) ((4 * gr n + 3) % 1461) (gyd n) (by unfold gcy; omega) (by omega) (by omega) rfl hr0 hr1
  exact ⟨_, rfl, hy0, gcore4 _ _ _ _ h4 hre hc0 hc1 h5 hy1, gcore3 _ _ _ _ _ hn hre hc0 hc1⟩
theorem gdate (n : Int) : IsDate n (gyear n) (gmonth n) (gday n) := by
  obtain ⟨Y, hY, h0, h1, hn⟩ := gcore n
  have hl := leapI_01 (Y + 1)
  have e3 : gyear n = Y + gjf n := by unfold gyear; omega
  have hs := ystart_succ Y
  have hly := leapI_01 Y
  obtain ⟨k, hk⟩ : ∃ k : Nat, gyd n = k := ⟨(gyd n).toNat, by omega⟩
  obtain ⟨M, hM⟩ : ∃ M : Nat, M = (2141 * k + 197913) / 65536 := ⟨_, rfl⟩
  obtain ⟨D, hD⟩ : ∃ D : Nat, D = (2141 * k + 197913) % 65536 / 2141 := ⟨_, rfl⟩
  have ht := mtab k (by omega) M D hM hD
  have e1 : gm0 n = (M : Int) := by unfold gm0; omega
  have e2 : gday n = (D : Int) + 1 := by unfold gday; omega
  have hj : (gyd n < 306 ∧ gjf n = 0 ∧ gmonth n = (M : Int)) ∨ (306 ≤ gyd n ∧ gjf n = 1 ∧ gmonth n = (M : Int) - 12) := by
    unfold gmonth gjf; split <;> omega
  clear hY hM hD
  rw [e2, e3]
  clear e1 e2 e3
  rcases ht with ht | ht | ht | ht | ht | ht | ht | ht | ht | ht | ht | ht
  all_goals
    obtain ⟨rfl, ht⟩ := ht
    rcases hj with ⟨hj, h2, h3⟩ | ⟨hj, h2, h3⟩
    all_goals first
      | (exfalso; omega)
      | (rw [h2, h3]; constructor <;> (try simp [cum, mlen]) <;> omega)
theorem gyd_bd (n : Int) : 0 ≤ gyd n ∧ gyd n < 366 := by
  unfold gyd gr; omega
theorem gcy_bd (n : Int) : 0 ≤ gcy n ∧ gcy n ≤ 100 := by
  unfold gcy gr; omega
theorem gc_bd (n : Int) (h0 : -1000000 ≤ n) (h1 : n ≤ 100000000) : -100000 ≤ gc n ∧ gc n ≤ 1000000 := by
  unfold gc; omega
theorem IsDate.toG {n y m d : Int} (h : IsDate n y m d) : gyear n = y ∧ gmonth n = m ∧ gday n = d := (gdate n).uniq h
end Go.Proofs.Ytjmgebhjkbcpcaa.Cal
namespace Go.Proofs.Ytjmgebhjkbcpcaa.CronPl
open Cal
/-- what the walk's local clock l (in seconds, as a function of the instant) has to obey: a zone as CronPlainZone has it -/
structure Plain (l : Int → Int) (rs : Int → Int) : Prop where
  step : ∀ x, l (x + 1) = l x + 1 ∨
    ((l x + 1) % 3600 = 0 ∧ l (x + 1) % 3600 = 0 ∧ l x + 1 - 3600 ≤ l (x + 1) ∧ (l x + 1) / 86400 = l (x + 1) / 86400 ∧ 3600 ≤ (l x + 1) % 86400 ∧ 3600 ≤ l (x + 1) % 86400)
  mod : ∀ x, l x % 60 = x % 60
  lo : ∀ x, x - 62135596800 - 86400 ≤ l x
  hi : ∀ x, l x ≤ x - 62135596800 + 86400
  mid : ∀ N, l (rs (86400 * N)) = 86400 * N
  hour : ∀ x, l (rs (l x - l x % 3600)) = l x - l x % 3600
variable {l rs : Int → Int} (P : Plain l rs)
include P
theorem Plain.h1 (x : Int) : l x / 3600 ≤ l (x + 1) / 3600 := by
  rcases P.step x with h | ⟨a, b, c, _⟩ <;> omega
theorem Plain.hmono (x : Int) (n : Nat) : l x / 3600 ≤ l (x + n) / 3600 := by
  induction n with
  | zero => simp
  | succ n ih => have := P.h1 (x + n); rw [show x + ((n + 1 : Nat) : Int) = x + n + 1 by omega]; omega
theorem Plain.hle {x y : Int} (h : x ≤ y) : l x / 3600 ≤ l y / 3600 := by
  have := P.hmono x (y - x).toNat
  rwa [show x + ((y - x).toNat : Int) = y by omega] at this
theorem Plain.dle {x y : Int} (h : x ≤ y) : l x / 86400 ≤ l y / 86400 := by
  have := P.hle h; omega
/-- from a place where the clocks show an hour's start, no change inside the hour -/
theorem Plain.inhour (x : Int) (h : l x % 3600 = 0) (n : Nat) (hn : n < 3600) : l (x + n) = l x + n := by
  induction n with
  | zero => simp
  | succ n ih =>
    have e := ih (by omega)
    rw [show x + ((n + 1 : Nat) : Int) = x + n + 1 by omega]
    rcases P.step (x + n) with hs | ⟨a, _⟩
    · omega
    · rw [e] at a; omega
/-- likewise inside a minute -/
theorem Plain.inmin (x : Int) (h : x % 60 = 0) (n : Nat) (hn : n < 60) : l (x + n) = l x + n := by
  have hm := P.mod x
  induction n with
  | zero => simp
  | succ n ih =>
    have e := ih (by omega)
    rw [show x + ((n + 1 : Nat) : Int) = x + n + 1 by omega]
    rcases P.step (x + n) with hs | ⟨a, _⟩
    · omega
    · rw [e] at a; omega
/-- ahead of a midnight the clocks show less -/
theorem Plain.below_mid {x v N : Int} (hx : l x = 86400 * N) (hv : v < x) : l v < 86400 * N := by
  have key : ∀ n : Nat, l (x - n) ≥ 86400 * N → l (x - n) = 86400 * N - n := by
    intro n
    induction n with
    | zero => intro _; simpa using hx
    | succ n ih =>
      intro hn
      have h1 := P.hle (show x - ((n + 1 : Nat) : Int) ≤ x by omega)
      have h2 := P.hle (show x - ((n + 1 : Nat) : Int) ≤ x - n by omega)
      have h3 := P.hle (show x - (n : Int) ≤ x by omega)
      have hge : l (x - n) ≥ 86400 * N := by omega
      have e := ih hge
      rcases P.step (x - ((n + 1 : Nat) : Int)) with hs | ⟨a, b, c, d, f, g⟩
      · rw [show x - ((n + 1 : Nat) : Int) + 1 = x - n by omega] at hs; omega
      · rw [show x - ((n + 1 : Nat) : Int) + 1 = x - n by omega] at b c d g; omega
  rcases Int.lt_or_le (l v) (86400 * N) with h | h
  · exact h
  · have := key (x - v).toNat (by rw [show x - ((x - v).toNat : Int) = v by omega]; exact h)
    rw [show x - ((x - v).toNat : Int) = v by omega] at this
    omega
omit P
/-- the search's data: the sets, the first second, the last year -/
structure Cx where
  mo : Int → Bool
  da : Int → Bool
  ho : Int → Bool
  mi : Int → Bool
  se : Int → Bool
  x0 : Int
  Y : Int
variable (c : Cx) (l : Int → Int)
def mOK (x : Int) : Prop := c.mo (gmonth (l x / 86400)) = true
def dOK (x : Int) : Prop := c.da (l x / 86400) = true
def hOK (x : Int) : Prop := c.ho (l x % 86400 / 3600) = true
def iOK (x : Int) : Prop := c.mi (l x % 3600 / 60) = true
def sOK (x : Int) : Prop := c.se (l x % 60) = true
def Match (x : Int) : Prop := mOK c l x ∧ dOK c l x ∧ hOK c l x ∧ iOK c l x ∧ sOK c l x
def NM (a b : Int) : Prop := ∀ v, a ≤ v → v < b → ¬ Match c l v
def top : Int := 86400 * ystart (c.Y + 1)
structure Al (x : Int) : Prop where
  a1 : l x % 60 = 0 ∨ (mOK c l x ∧ dOK c l x ∧ hOK c l x ∧ iOK c l x)
  a2 : l x % 3600 = 0 ∨ (mOK c l x ∧ dOK c l x ∧ hOK c l x)
  a3 : l x % 86400 = 0 ∨ (mOK c l x ∧ dOK c l x)
  a4 : (l x % 86400 = 0 ∧ gday (l x / 86400) = 1) ∨ mOK c l x
structure Inv (x : Int) (a : Bool) : Prop where
  nm : NM c l c.x0 x
  hi : l x ≤ top c
  no : a = false → x = c.x0
  al : a = true → Al c l x
  lb : c.x0 - 3000000 ≤ x
  ge : c.x0 ≤ x ∨ (l x / 3600 = l c.x0 / 3600 ∧ ¬ hOK c l x ∧ dOK c l x ∧ mOK c l x)
def bigB : Int := top c + 62135596800 + 86400
def mu (x : Int) (a : Bool) : Nat := (bigB c - x).toNat + (if a then 0 else 10000000)
theorem NM.ext {c : Cx} {l : Int → Int} {a b b' : Int} (h : NM c l a b) (h' : ∀ v, b ≤ v → v < b' → ¬ Match c l v) : NM c l a b' := fun v h0 h1 => by
  rcases Int.lt_or_le v b with hv | hv
  · exact h v h0 hv
  · exact h' v hv h1
theorem mu_lt {c : Cx} {l rs : Int → Int} (P : Plain l rs) {x x1 x2 : Int} {a : Bool} (h1 : a = true → x1 = x) (h2 : x - 3500000 ≤ x1) (h3 : x1 < x2) (hx : l x2 ≤ top c) : mu c x2 true < mu c x a := by
  have := P.lo x2
  unfold mu bigB
  cases a with
  | true => have := h1 rfl; simp; omega
  | false => simp; omega
theorem year_lt {c : Cx} {l : Int → Int} {x : Int} (h : gyear (l x / 86400) ≤ c.Y) : l x < top c := by
  have := (gdate (l x / 86400)).hi
  have := ystart_le (show gyear (l x / 86400) + 1 ≤ c.Y + 1 by omega)
  unfold top; omega
theorem lt_year {c : Cx} {l : Int → Int} {x : Int} (h : l x < top c) : gyear (l x / 86400) ≤ c.Y := by
  unfold top at h
  have h1 := (gdate (l x / 86400)).lo
  rcases Int.lt_or_le c.Y (gyear (l x / 86400)) with hq | hq
  · have := ystart_le (show c.Y + 1 ≤ gyear (l x / 86400) by omega); omega
  · exact hq
/-- the date of the first of a date's month, and of the next month's -/
theorem first_of {n y m d : Int} (h : IsDate n y m d) : IsDate (n - d + 1) y m 1 := by
  have a := mlen_bd y m
  have b := cum_le y 1 m h.m1
  rw [cum_one] at b
  have e := h.eq
  exact ⟨by omega, h.m1, h.m12, by omega, by omega, by omega⟩
theorem next_of {n y m d : Int} (h : IsDate n y m d) : (m < 12 → IsDate (n - d + 1 + mlen y m) y (m + 1) 1) ∧ (m = 12 → IsDate (n - d + 1 + mlen y m) (y + 1) 1 1) := by
  have a := mlen_bd y (m + 1)
  have a' := mlen_bd (y + 1) 1
  have b := cum_le y 1 m h.m1
  have s := cum_succ y m h.m1 h.m12
  rw [cum_one] at b
  have e := h.eq
  have hm := mlen_bd y m
  have hm1 := h.m1
  constructor
  · intro hl
    exact ⟨by omega, by omega, by omega, by omega, by omega, by omega⟩
  · intro hl
    subst hl
    have y1 := ystart_succ y
    have c13 := cum_13 y
    have c1 := cum_one (y + 1)
    rw [show (12 : Int) + 1 = 13 by rfl] at s
    exact ⟨by omega, by omega, by omega, by omega, by omega, by omega⟩
theorem month_const {n k y m d : Int} (h : IsDate n y m d) (h0 : n ≤ k) (h1 : k < n - d + 1 + mlen y m) : gmonth k = m := by
  have : IsDate k y m (d + (k - n)) := ⟨by have := h.lo; omega, h.m1, h.m12, by have := h.d1; omega, by omega, by have := h.eq; omega⟩
  exact this.toG.2.1
theorem Inv.month {c : Cx} {l rs : Int → Int} (P : Plain l rs) {x x1 x2 : Int} {a : Bool} (h : Inv c l x a) (hY : gyear (l x / 86400) ≤ c.Y) (hm : ¬ mOK c l x)
    (h1 : x1 = if a then x else rs (86400 * (l x / 86400 - gday (l x / 86400) + 1)))
    (h2 : x2 = rs (l x1 + 86400 * mlen (gyear (l x1 / 86400)) (gmonth (l x1 / 86400)))) :
    Inv c l x2 true ∧ mu c x2 true < mu c x a ∧ (gmonth (l x2 / 86400) ≠ 1 → gyear (l x2 / 86400) ≤ c.Y) ∧ l x1 = 86400 * (l x / 86400 - gday (l x / 86400) + 1) ∧ c.x0 - 3000000 ≤ x1 := by
  have hd := gdate (l x / 86400)
  have hy := year_lt hY
  have hml := mlen_bd (gyear (l x / 86400)) (gmonth (l x / 86400))
  have hg1 := hd.d1
  have hg2 := hd.dm
  have e1 : l x1 = 86400 * (l x / 86400 - gday (l x / 86400) + 1) := by
    rw [h1]
    cases a with
    | true =>
      simp only [if_true]
      rcases (h.al rfl).a4 with ⟨q, q'⟩ | q
      · rw [q']; omega
      · exact absurd q hm
    | false => simp only [Bool.false_eq_true, if_false]; exact P.mid _
  have f1 := first_of hd
  have e2 : l x1 / 86400 = l x / 86400 - gday (l x / 86400) + 1 := by omega
  obtain ⟨y1, m1, d1⟩ := f1.toG
  rw [e2, y1, m1] at h2
  have e3 : l x2 = 86400 * (l x / 86400 - gday (l x / 86400) + 1 + mlen (gyear (l x / 86400)) (gmonth (l x / 86400))) := by
    have q : l x1 + 86400 * mlen (gyear (l x / 86400)) (gmonth (l x / 86400)) = 86400 * (l x / 86400 - gday (l x / 86400) + 1 + mlen (gyear (l x / 86400)) (gmonth (l x / 86400))) := by omega
    rw [h2, q]; exact P.mid _
  have e4 : l x2 / 86400 = l x / 86400 - gday (l x / 86400) + 1 + mlen (gyear (l x / 86400)) (gmonth (l x / 86400)) := by omega
  have nx := next_of hd
  have hx1 : x - 3500000 + 550000 ≤ x1 := by
    have := P.lo x; have := P.hi x1; have := P.hi x; omega
  have hx12 : x1 < x2 := by have := P.lo x1; have := P.hi x2; have := P.hi x1; have := P.lo x2; omega
  have hN : l x2 ≤ top c := by
    have hys := hd.hi
    have a1 := cum_le (gyear (l x / 86400)) (gmonth (l x / 86400) + 1) 13 (by have := hd.m12; omega)
    have a2 := cum_succ (gyear (l x / 86400)) (gmonth (l x / 86400)) hd.m1 hd.m12
    have a3 := cum_13 (gyear (l x / 86400))
    have a4 := ystart_succ (gyear (l x / 86400))
    have a5 := ystart_le (show gyear (l x / 86400) + 1 ≤ c.Y + 1 by omega)
    have a6 := hd.eq
    unfold top; omega
  have hgd : gday (l x2 / 86400) = 1 := by
    rw [e4]
    have := hd.m12
    by_cases hl : gmonth (l x / 86400) < 12
    · exact (nx.1 hl).toG.2.2
    · exact (nx.2 (by omega)).toG.2.2
  refine ⟨⟨h.nm.ext ?_, hN, fun h => by simp at h, fun _ => ⟨.inl (by omega), .inl (by omega), .inl (by omega), .inl ⟨by omega, hgd⟩⟩, ?_, ?_⟩, mu_lt P (x1 := x1) (fun ha => by rw [h1, ha]; rfl) (by omega) hx12 hN, ?_, e1, ?_⟩
  · intro v hv0 hv1 hM
    have b1 := P.dle hv0
    have b2 := P.below_mid e3 hv1
    have := month_const hd b1 (k := l v / 86400) (by omega)
    apply hm
    have hm' := hM.1
    unfold mOK at hm' ⊢
    rwa [this] at hm'
  · cases a with
    | true => have := h.lb; have : x1 = x := by rw [h1]; rfl
              omega
    | false => have := h.no rfl; omega
  · left
    have hge : c.x0 ≤ x := by
      rcases h.ge with q | q
      · exact q
      · exact absurd q.2.2.2 hm
    rcases Int.lt_or_le x x2 with q | q
    · omega
    · have := P.dle q; omega
  · intro hne
    rw [e4] at hne ⊢
    have := hd.m12
    by_cases hl : gmonth (l x / 86400) < 12
    · rw [(nx.1 hl).toG.1]; exact hY
    · exact absurd (nx.2 (by omega)).toG.2.1 hne
  · cases a with
    | true => have := h.lb; have : x1 = x := by rw [h1]; rfl
              omega
    | false => have := h.no rfl; omega
theorem gday_step {n : Int} (h : gday (n + 1) ≠ 1) : gmonth (n + 1) = gmonth n ∧ gyear (n + 1) = gyear n := by
  have a := gdate n
  have b := next_of a
  have e : n - gday n + 1 + mlen (gyear n) (gmonth n) ≤ n + 1 → False := by
    intro hq
    have hdm := a.dm
    have hn : n + 1 = n - gday n + 1 + mlen (gyear n) (gmonth n) := by omega
    have hm := a.m12
    rw [hn] at h
    by_cases hl : gmonth n < 12
    · exact h (b.1 hl).toG.2.2
    · exact h (b.2 (by omega)).toG.2.2
  have : IsDate (n + 1) (gyear n) (gmonth n) (gday n + 1) := ⟨by have := a.lo; omega, a.m1, a.m12, by have := a.d1; omega, by
    rcases Int.lt_or_le (gday n) (mlen (gyear n) (gmonth n)) with hl | hl
    · omega
    · exact (e (by omega)).elim, by have := a.eq; omega⟩
  exact ⟨this.toG.2.1, this.toG.1⟩
theorem day_top {c : Cx} {l : Int → Int} {x : Int} (hY : gyear (l x / 86400) ≤ c.Y) : 86400 * (l x / 86400 + 1) ≤ top c := by
  have := year_lt hY; unfold top at *; omega
theorem Inv.day {c : Cx} {l rs : Int → Int} (P : Plain l rs) {x x1 x2 : Int} {a : Bool} (h : Inv c l x a) (hY : gyear (l x / 86400) ≤ c.Y) (hm : mOK c l x) (hd : ¬ dOK c l x)
    (h1 : x1 = if a then x else rs (86400 * (l x / 86400))) (h2 : x2 = rs (l x1 + 86400 * 1)) :
    Inv c l x2 true ∧ mu c x2 true < mu c x a ∧ (gday (l x2 / 86400) ≠ 1 → gyear (l x2 / 86400) ≤ c.Y ∧ mOK c l x2) ∧ l x1 = 86400 * (l x / 86400) ∧ c.x0 - 3000000 ≤ x1 ∧ l x2 % 86400 = 0 := by
  have hy := day_top hY
  have e1 : l x1 = 86400 * (l x / 86400) := by
    rw [h1]
    cases a with
    | true =>
      simp only [if_true]
      rcases (h.al rfl).a3 with q | q
      · omega
      · exact absurd q.2 hd
    | false => simp only [Bool.false_eq_true, if_false]; exact P.mid _
  have e3 : l x2 = 86400 * (l x / 86400 + 1) := by
    have q : l x1 + 86400 * 1 = 86400 * (l x / 86400 + 1) := by omega
    rw [h2, q]; exact P.mid _
  have e4 : l x2 / 86400 = l x / 86400 + 1 := by omega
  have hx1 : x - 3500000 + 550000 ≤ x1 := by
    have := P.lo x; have := P.hi x1; have := P.hi x; omega
  have hx12 : x1 < x2 := by
    rcases Int.lt_or_le x1 x2 with q | q
    · exact q
    · have := P.dle q; omega
  have hN : l x2 ≤ top c := by omega
  have hmx : gday (l x2 / 86400) ≠ 1 → mOK c l x2 := fun hne => by
    rw [e4] at hne
    have := (gday_step hne).1
    unfold mOK at hm ⊢; rw [e4, this]; exact hm
  refine ⟨⟨h.nm.ext ?_, hN, fun h => by simp at h, fun _ => ⟨.inl (by omega), .inl (by omega), .inl (by omega), ?_⟩, ?_, ?_⟩, mu_lt P (x1 := x1) (fun ha => by rw [h1, ha]; rfl) (by omega) hx12 hN, ?_, e1, ?_, by omega⟩
  · intro v hv0 hv1 hM
    have b1 := P.dle hv0
    have b2 := P.below_mid e3 hv1
    have : l v / 86400 = l x / 86400 := by omega
    apply hd
    have hm' := hM.2.1
    unfold dOK at hm' ⊢
    rwa [this] at hm'
  · by_cases hq : gday (l x2 / 86400) = 1
    · exact .inl ⟨by omega, hq⟩
    · exact .inr (hmx hq)
  · cases a with
    | true => have := h.lb; have : x1 = x := by rw [h1]; rfl
              omega
    | false => have := h.no rfl; omega
  · left
    have hge : c.x0 ≤ x := by
      rcases h.ge with q | q
      · exact q
      · exact absurd q.2.2.1 hd
    rcases Int.lt_or_le x x2 with q | q
    · omega
    · have := P.dle q; omega
  · intro hne
    refine ⟨?_, hmx hne⟩
    rw [e4] at hne ⊢
    rw [(gday_step hne).2]; exact hY
  · cases a with
    | true => have := h.lb; have : x1 = x := by rw [h1]; rfl
              omega
    | false => have := h.no rfl; omega
theorem Inv.hour {c : Cx} {l rs : Int → Int} (P : Plain l rs) {x x1 x2 : Int} {a : Bool} (h : Inv c l x a) (hY : gyear (l x / 86400) ≤ c.Y) (hm : mOK c l x) (hd : dOK c l x) (hh : ¬ hOK c l x)
    (h1 : x1 = if a then x else rs (l x - l x % 3600)) (h2 : x2 = x1 + 3600) :
    Inv c l x2 true ∧ mu c x2 true < mu c x a ∧ (l x2 % 86400 / 3600 ≠ 0 → gyear (l x2 / 86400) ≤ c.Y ∧ mOK c l x2 ∧ dOK c l x2) ∧ c.x0 - 3000000 ≤ x1 ∧ l x1 ≤ top c := by
  have hy := day_top hY
  have e1 : l x1 = l x - l x % 3600 := by
    rw [h1]
    cases a with
    | true =>
      simp only [if_true]
      rcases (h.al rfl).a2 with q | q
      · omega
      · exact absurd q.2.2 hh
    | false => simp only [Bool.false_eq_true, if_false]; exact P.hour _
  have hx1 : x - 3500000 + 550000 ≤ x1 := by
    have := P.lo x; have := P.hi x1; have := P.hi x; omega
  have hin := P.inhour x1 (by omega)
  have hl : l (x1 + 3599) = l x1 + 3599 := hin 3599 (by omega)
  have hst := P.step (x1 + 3599)
  rw [show x1 + 3599 + 1 = x2 by omega] at hst
  have hcase : l x2 = l x1 + 3600 ∨ (l x2 % 3600 = 0 ∧ l x2 / 86400 = l x / 86400 ∧ 3600 ≤ l x2 % 86400) := by
    rcases hst with q | ⟨q1, q2, q3, q4, q5, q6⟩
    · left; omega
    · right; omega
  have hN : l x2 ≤ top c := by omega
  have hday : l x2 % 86400 / 3600 ≠ 0 → l x2 / 86400 = l x / 86400 := fun hne => by
    rcases hcase with q | q <;> omega
  have hmd : l x2 % 86400 / 3600 ≠ 0 → mOK c l x2 ∧ dOK c l x2 := fun hne => by
    have := hday hne
    unfold mOK dOK at *; rw [this]; exact ⟨hm, hd⟩
  have hal : l x2 % 3600 = 0 := by rcases hcase with q | q <;> omega
  have hmo : (l x2 % 86400 = 0 ∧ gday (l x2 / 86400) = 1) ∨ mOK c l x2 := by
    by_cases hne : l x2 % 86400 / 3600 = 0
    · have hc : l x2 / 86400 = l x / 86400 + 1 ∨ l x2 / 86400 = l x / 86400 := by rcases hcase with q | q <;> omega
      by_cases hq : gday (l x2 / 86400) = 1
      · exact .inl ⟨by omega, hq⟩
      · right
        rcases hc with q | q
        · rw [q] at hq
          have := (gday_step hq).1
          unfold mOK at hm ⊢; rw [q, this]; exact hm
        · unfold mOK at hm ⊢; rw [q]; exact hm
    · exact .inr (hmd hne).1
  refine ⟨⟨h.nm.ext ?_, hN, fun h => by simp at h, fun _ => ⟨.inl (by omega), .inl hal, ?_, hmo⟩, ?_, ?_⟩, mu_lt P (x1 := x1) (fun ha => by rw [h1, ha]; rfl) (by omega) (by omega) hN, ?_, ?_, by omega⟩
  · intro v hv0 hv1 hM
    have b1 := P.hle hv0
    have b2 := P.hle (show v ≤ x1 + 3599 by omega)
    have : l v / 3600 = l x / 3600 := by
      omega
    apply hh
    have hm' := hM.2.2.1
    unfold hOK at hm' ⊢
    rwa [show l v % 86400 / 3600 = l x % 86400 / 3600 by omega] at hm'
  · by_cases hne : l x2 % 86400 / 3600 = 0
    · left; omega
    · exact .inr (hmd hne)
  · cases a with
    | true => have := h.lb; have : x1 = x := by rw [h1]; rfl
              omega
    | false => have := h.no rfl; omega
  · rcases Int.lt_or_le x2 c.x0 with q | q
    · right
      have key : l x2 / 3600 = l x / 3600 ∧ l c.x0 / 3600 = l x / 3600 := by
        have hge : c.x0 ≤ x ∨ (x1 = x ∧ l x / 3600 = l c.x0 / 3600) := by
          cases a with
          | true =>
            rcases h.ge with g | g
            · exact .inl g
            · exact .inr ⟨by rw [h1]; rfl, g.1⟩
          | false => exact .inl (by have := h.no rfl; omega)
        rcases hge with g | ⟨ha, g⟩
        · have b1 := P.hle (show x1 ≤ x2 by omega)
          have b2 := P.hle (show x2 ≤ c.x0 by omega)
          have b3 := P.hle g
          omega
        · have b1 := P.hle (show x ≤ x2 by omega)
          have b2 := P.hle (show x2 ≤ c.x0 by omega)
          omega
      have q1 : l x2 / 86400 = l x / 86400 := by omega
      have q2 : l x2 % 86400 / 3600 = l x % 86400 / 3600 := by omega
      refine ⟨by omega, ?_, ?_, ?_⟩
      · unfold hOK at *; rw [q2]; exact hh
      · unfold dOK at *; rw [q1]; exact hd
      · unfold mOK at *; rw [q1]; exact hm
    · exact .inl q
  · intro hne
    exact ⟨by rw [hday hne]; exact hY, hmd hne⟩
  · cases a with
    | true => have := h.lb; have : x1 = x := by rw [h1]; rfl
              omega
    | false => have := h.no rfl; omega
theorem Inv.minute {c : Cx} {l rs : Int → Int} (P : Plain l rs) {x x1 x2 : Int} {a : Bool} (h : Inv c l x a) (hY : gyear (l x / 86400) ≤ c.Y) (hm : mOK c l x) (hd : dOK c l x) (hh : hOK c l x) (hi : ¬ iOK c l x)
    (h1 : x1 = if a then x else x - x % 60) (h2 : x2 = x1 + 60) :
    Inv c l x2 true ∧ mu c x2 true < mu c x a ∧ (l x2 % 3600 / 60 ≠ 0 → gyear (l x2 / 86400) ≤ c.Y ∧ mOK c l x2 ∧ dOK c l x2 ∧ hOK c l x2) ∧ c.x0 - 3000000 ≤ x1 ∧ l x1 ≤ top c := by
  have hy := day_top hY
  have hmod := P.mod x
  have hx60 : x1 % 60 = 0 := by
    rw [h1]
    cases a with
    | true =>
      simp only [if_true]
      rcases (h.al rfl).a1 with q | q
      · omega
      · exact absurd q.2.2.2 hi
    | false => simp only [Bool.false_eq_true, if_false]; omega
  have hxx : x1 ≤ x ∧ x < x1 + 60 := by
    rw [h1]; cases a <;> simp <;> omega
  have hin := P.inmin x1 hx60
  have hlx := hin (x - x1).toNat (by omega)
  rw [show x1 + ((x - x1).toNat : Int) = x by omega] at hlx
  have e1 : l x1 = l x - (x - x1) := by omega
  have hm1 := P.mod x1
  have hl := hin 59 (by omega)
  have hst := P.step (x1 + 59)
  rw [show x1 + 59 + 1 = x2 by omega] at hst
  have hl' : l (x1 + 59) = l x1 + 59 := hl
  have hcase : l x2 = l x1 + 60 ∨ (l x2 % 3600 = 0 ∧ l x2 / 86400 = l x / 86400 ∧ 3600 ≤ l x2 % 86400) := by
    rcases hst with q | ⟨q1, q2, q3, q4, q5, q6⟩
    · left; omega
    · right; omega
  have hN : l x2 ≤ top c := by omega
  have hhr : l x2 % 3600 / 60 ≠ 0 → l x2 / 3600 = l x / 3600 := fun hne => by
    rcases hcase with q | q <;> omega
  have hall : l x2 % 3600 / 60 ≠ 0 → mOK c l x2 ∧ dOK c l x2 ∧ hOK c l x2 := fun hne => by
    have q := hhr hne
    have q1 : l x2 / 86400 = l x / 86400 := by omega
    have q2 : l x2 % 86400 / 3600 = l x % 86400 / 3600 := by omega
    unfold mOK dOK hOK at *; rw [q1, q2]; exact ⟨hm, hd, hh⟩
  have hal : l x2 % 60 = 0 := by rcases hcase with q | q <;> omega
  have hmd : l x2 % 86400 ≠ 0 → mOK c l x2 ∧ dOK c l x2 := fun hne => by
    have q1 : l x2 / 86400 = l x / 86400 := by rcases hcase with q | q <;> omega
    unfold mOK dOK at *; rw [q1]; exact ⟨hm, hd⟩
  have hmo : (l x2 % 86400 = 0 ∧ gday (l x2 / 86400) = 1) ∨ mOK c l x2 := by
    by_cases hne : l x2 % 86400 = 0
    · have hc : l x2 / 86400 = l x / 86400 + 1 ∨ l x2 / 86400 = l x / 86400 := by rcases hcase with q | q <;> omega
      by_cases hq : gday (l x2 / 86400) = 1
      · exact .inl ⟨hne, hq⟩
      · right
        rcases hc with q | q
        · rw [q] at hq
          have := (gday_step hq).1
          unfold mOK at hm ⊢; rw [q, this]; exact hm
        · unfold mOK at hm ⊢; rw [q]; exact hm
    · exact .inr (hmd hne).1
  refine ⟨⟨h.nm.ext ?_, hN, fun h => by simp at h, fun _ => ⟨.inl hal, ?_, ?_, hmo⟩, ?_, ?_⟩, mu_lt P (x1 := x1) (fun ha => by rw [h1, ha]; rfl) (by omega) (by omega) hN, ?_, ?_, by omega⟩
  · intro v hv0 hv1 hM
    have hv := hin (v - x1).toNat (by omega)
    rw [show x1 + ((v - x1).toNat : Int) = v by omega] at hv
    apply hi
    have hm' := hM.2.2.2.1
    unfold iOK at hm' ⊢
    rwa [show l v % 3600 / 60 = l x % 3600 / 60 by omega] at hm'
  · by_cases hne : l x2 % 3600 / 60 = 0
    · left; omega
    · exact .inr (hall hne)
  · by_cases hne : l x2 % 86400 = 0
    · exact .inl hne
    · exact .inr (hmd hne)
  · cases a with
    | true => have := h.lb; have : x1 = x := by rw [h1]; rfl
              omega
    | false => have := h.no rfl; omega
  · left
    rcases h.ge with q | q
    · omega
    · exact absurd hh q.2.1
  · intro hne
    exact ⟨by have := hhr hne; rw [show l x2 / 86400 = l x / 86400 by omega]; exact hY, hall hne⟩
  · cases a with
    | true => have := h.lb; have : x1 = x := by rw [h1]; rfl
              omega
    | false => have := h.no rfl; omega
theorem Inv.second {c : Cx} {l rs : Int → Int} (P : Plain l rs) {x x2 : Int} {a : Bool} (h : Inv c l x a) (hY : gyear (l x / 86400) ≤ c.Y) (hm : mOK c l x) (hd : dOK c l x) (hh : hOK c l x) (hi : iOK c l x) (hs : ¬ sOK c l x)
    (h2 : x2 = x + 1) :
    Inv c l x2 true ∧ mu c x2 true < mu c x a ∧ (l x2 % 60 ≠ 0 → gyear (l x2 / 86400) ≤ c.Y ∧ mOK c l x2 ∧ dOK c l x2 ∧ hOK c l x2 ∧ iOK c l x2) := by
  have hy := day_top hY
  have hmod := P.mod x
  have hst := P.step x
  rw [show x + 1 = x2 by omega] at hst
  have hcase : l x2 = l x + 1 ∨ (l x2 % 3600 = 0 ∧ l x2 / 86400 = l x / 86400 ∧ 3600 ≤ l x2 % 86400 ∧ (l x + 1) % 3600 = 0) := by
    rcases hst with q | ⟨q1, q2, q3, q4, q5, q6⟩
    · left; omega
    · right; omega
  have hN : l x2 ≤ top c := by omega
  have hhr : l x2 % 60 ≠ 0 → l x2 / 60 = l x / 60 := fun hne => by
    rcases hcase with q | q <;> omega
  have hall : l x2 % 60 ≠ 0 → mOK c l x2 ∧ dOK c l x2 ∧ hOK c l x2 ∧ iOK c l x2 := fun hne => by
    have q := hhr hne
    have q1 : l x2 / 86400 = l x / 86400 := by omega
    have q2 : l x2 % 86400 / 3600 = l x % 86400 / 3600 := by omega
    have q3 : l x2 % 3600 / 60 = l x % 3600 / 60 := by omega
    unfold mOK dOK hOK iOK at *; rw [q1, q2, q3]; exact ⟨hm, hd, hh, hi⟩
  have hge : c.x0 ≤ x := by
    rcases h.ge with q | q
    · exact q
    · exact absurd hh q.2.1
  by_cases h60 : l x2 % 60 = 0
  · have hhr2 : l x2 % 3600 ≠ 0 → mOK c l x2 ∧ dOK c l x2 ∧ hOK c l x2 := fun hne => by
      have q : l x2 / 3600 = l x / 3600 := by rcases hcase with q | q <;> omega
      have q1 : l x2 / 86400 = l x / 86400 := by omega
      have q2 : l x2 % 86400 / 3600 = l x % 86400 / 3600 := by omega
      unfold mOK dOK hOK at *; rw [q1, q2]; exact ⟨hm, hd, hh⟩
    have hmd : l x2 % 86400 ≠ 0 → mOK c l x2 ∧ dOK c l x2 := fun hne => by
      have q1 : l x2 / 86400 = l x / 86400 := by rcases hcase with q | q <;> omega
      unfold mOK dOK at *; rw [q1]; exact ⟨hm, hd⟩
    have hmo : (l x2 % 86400 = 0 ∧ gday (l x2 / 86400) = 1) ∨ mOK c l x2 := by
      by_cases hne : l x2 % 86400 = 0
      · have hc : l x2 / 86400 = l x / 86400 + 1 ∨ l x2 / 86400 = l x / 86400 := by rcases hcase with q | q <;> omega
        by_cases hq : gday (l x2 / 86400) = 1
        · exact .inl ⟨hne, hq⟩
        · right
          rcases hc with q | q
          · rw [q] at hq
            have := (gday_step hq).1
            unfold mOK at hm ⊢; rw [q, this]; exact hm
          · unfold mOK at hm ⊢; rw [q]; exact hm
      · exact .inr (hmd hne).1
    refine ⟨⟨h.nm.ext ?_, hN, fun h => by simp at h, fun _ => ⟨.inl h60, ?_, ?_, hmo⟩, by have := h.lb; omega, .inl (by omega)⟩, mu_lt P (x1 := x) (fun _ => rfl) (by omega) (by omega) hN, fun hne => absurd h60 hne⟩
    · intro v hv0 hv1 hM
      obtain rfl : v = x := by omega
      exact hs hM.2.2.2.2
    · by_cases hne : l x2 % 3600 = 0
      · exact .inl hne
      · exact .inr (hhr2 hne)
    · by_cases hne : l x2 % 86400 = 0
      · exact .inl hne
      · exact .inr (hmd hne)
  · have hq := hall h60
    refine ⟨⟨h.nm.ext ?_, hN, fun h => by simp at h, fun _ => ⟨.inr hq, .inr ⟨hq.1, hq.2.1, hq.2.2.1⟩, .inr ⟨hq.1, hq.2.1⟩, .inr hq.1⟩, by have := h.lb; omega, .inl (by omega)⟩, mu_lt P (x1 := x) (fun _ => rfl) (by omega) (by omega) hN, fun _ => ⟨by have := hhr h60; rw [show l x2 / 86400 = l x / 86400 by omega]; exact hY, hq⟩⟩
    intro v hv0 hv1 hM
    obtain rfl : v = x := by omega
    exact hs hM.2.2.2.2
theorem found {c : Cx} {l : Int → Int} {x : Int} {a : Bool} (h : Inv c l x a) (hm : mOK c l x) (hd : dOK c l x) (hh : hOK c l x) (hi : iOK c l x) (hs : sOK c l x) : Match c l x ∧ NM c l c.x0 x ∧ c.x0 ≤ x :=
  ⟨⟨hm, hd, hh, hi, hs⟩, h.nm, by
    rcases h.ge with q | q
    · exact q
    · exact absurd hh q.2.1⟩
theorem none_left {c : Cx} {l rs : Int → Int} (P : Plain l rs) {x : Int} {a : Bool} (h : Inv c l x a) (hY : c.Y < gyear (l x / 86400)) (v : Int) (h0 : c.x0 ≤ v) (hv : gyear (l v / 86400) ≤ c.Y) : ¬ Match c l v := by
  rcases Int.lt_or_le v x with q | q
  · exact h.nm v h0 q
  · have := P.dle q
    have a1 := (gdate (l x / 86400)).lo
    have a2 := (gdate (l v / 86400)).hi
    have a3 := ystart_le (show gyear (l v / 86400) + 1 ≤ gyear (l x / 86400) by omega)
    omega
end Go.Proofs.Ytjmgebhjkbcpcaa.CronPl
set_option linter.unusedVariables false
namespace Go.Proofs.Ytjmgebhjkbcpcaa.CronPl
/-- a clock that is put forward or back at W 1, W 2, .. -/
structure Steps (n : Nat) (W O : Nat → Int) (off : Int → Int) : Prop where
  ex : ∀ s, ∃ a, a < n ∧ (a = 0 ∨ W a ≤ s) ∧ (a + 1 < n → s < W (a + 1))
  at_ : ∀ s a, a < n → (a = 0 ∨ W a ≤ s) → (a + 1 < n → s < W (a + 1)) → off s = O a
  gap : ∀ i, 2 ≤ i → i < n → W i - W (i - 1) ≥ 345600
  hr1 : ∀ i, 1 ≤ i → i < n → (W i + O (i - 1)) % 3600 = 0
  hr2 : ∀ i, 1 ≤ i → i < n → (W i + O i) % 3600 = 0
  bk : ∀ i, 1 ≤ i → i < n → W i + O (i - 1) - 3600 ≤ W i + O i
  day : ∀ i, 1 ≤ i → i < n → (W i + O (i - 1)) / 86400 = (W i + O i) / 86400
  d1 : ∀ i, 1 ≤ i → i < n → 3600 ≤ (W i + O (i - 1)) % 86400
  d2 : ∀ i, 1 ≤ i → i < n → 3600 ≤ (W i + O i) % 86400
  bd : ∀ a, a < n → -86400 ≤ O a ∧ O a ≤ 86400
  m60 : ∀ a, a < n → O a % 60 = 0
section
variable {n : Nat} {W O : Nat → Int} {off : Int → Int} (H : Steps n W O off)
include H
theorem Steps.le (i j : Nat) (h1 : 1 ≤ i) (hij : i ≤ j) (hj : j < n) : W i + 345600 * ((j : Int) - i) ≤ W j := by
  obtain ⟨k, rfl⟩ : ∃ k, j = i + k := ⟨j - i, by omega⟩
  clear hij
  induction k with
  | zero => simp
  | succ k ih =>
    have a := ih (by omega)
    have b := H.gap (i + k + 1) (by omega) (by omega)
    rw [show i + k + 1 - 1 = i + k by omega] at b
    rw [show i + (k + 1) = i + k + 1 by omega]
    push_cast at *
    omega
theorem Steps.bdo (s : Int) : -86400 ≤ off s ∧ off s ≤ 86400 := by
  obtain ⟨a, ha, h0, h1⟩ := H.ex s
  rw [H.at_ s a ha h0 h1]; exact H.bd a ha
/-- two instants near each other have the same index, or there is one change between -/
theorem Steps.near {s t : Int} {a b : Nat} (hst : s ≤ t) (hd : t - s < 345600) (ha : a < n) (hb : b < n) (a0 : a = 0 ∨ W a ≤ s) (a1 : a + 1 < n → s < W (a + 1)) (b0 : b = 0 ∨ W b ≤ t) (b1 : b + 1 < n → t < W (b + 1)) :
    a = b ∨ (b = a + 1 ∧ s < W b ∧ W b ≤ t) := by
  rcases Nat.lt_trichotomy a b with q | q | q
  · right
    have h1 := a1 (by omega)
    have h2 : W b ≤ t := by rcases b0 with h | h <;> omega
    have h3 := H.le (a + 1) b (by omega) (by omega) hb
    have : b = a + 1 := by
      rcases Nat.lt_or_ge (a + 1) b with r | r
      · have : (b : Int) - ((a + 1 : Nat) : Int) ≥ 1 := by omega
        omega
      · omega
    subst this
    exact ⟨rfl, h1, h2⟩
  · exact .inl q
  · exfalso
    have h1 := b1 (by omega)
    have h2 : W a ≤ s := by rcases a0 with h | h <;> omega
    have h3 := H.le (b + 1) a (by omega) (by omega) ha
    have : (a : Int) - ((b + 1 : Nat) : Int) ≥ 0 := by omega
    omega
/-- a local time that is shown is shown at what Date makes of it -/
theorem Steps.fix (T : Int) (hT : ∀ i, 1 ≤ i → i < n → (T < W i + O i → T < W i + O (i - 1)) ∧ (W i + O (i - 1) ≤ T → W i + O i ≤ T)) : off (T - off (T - off T)) = off (T - off T) := by
  obtain ⟨a, ha, a0, a1⟩ := H.ex T
  obtain ⟨b, hb, b0, b1⟩ := H.ex (T - off T)
  have ea := H.at_ T a ha a0 a1
  have eb := H.at_ _ b hb b0 b1
  have oa := H.bd a ha
  have ob := H.bd b hb
  rw [eb]
  rw [ea] at b0 b1
  rcases Int.le_total (O a) 0 with q | q
  · -- T ≤ T - o
    rcases H.near (s := T) (t := T - O a) (by omega) (by omega) ha hb a0 a1 b0 b1 with e | ⟨e, h1, h2⟩
    · subst e
      exact H.at_ _ a ha (by rcases b0 with h | h; exact .inl h; exact .inr h) b1
    · subst e
      have h3 := (hT (a + 1) (by omega) hb).2
      rw [show a + 1 - 1 = a by omega] at h3
      have h4 := h3 (by omega)
      refine H.at_ _ (a + 1) hb (.inr (by omega)) fun h => ?_
      have h5 := H.gap (a + 1 + 1) (by omega) h
      rw [show a + 1 + 1 - 1 = a + 1 by omega] at h5
      omega
  · rcases H.near (s := T - O a) (t := T) (by omega) (by omega) hb ha b0 b1 a0 a1 with e | ⟨e, h1, h2⟩
    · subst e
      exact H.at_ _ b hb (by rcases b0 with h | h; exact .inl h; exact .inr h) b1
    · subst e
      have h3 := (hT (b + 1) (by omega) ha).1
      rw [show b + 1 - 1 = b by omega] at h3
      have h4 := h3 (by omega)
      refine H.at_ _ b hb ?_ fun h => by omega
      rcases Nat.eq_zero_or_pos b with r | r
      · exact .inl r
      · right
        have h5 := H.gap (b + 1) (by omega) ha
        rw [show b + 1 - 1 = b by omega] at h5
        omega
theorem Steps.plain : Plain (fun x => x - 62135596800 + off (x - 62135596800)) (fun T => T - off (T - off T) + 62135596800) where
  step := fun x => by
    obtain ⟨a, ha, a0, a1⟩ := H.ex (x - 62135596800)
    obtain ⟨b, hb, b0, b1⟩ := H.ex (x + 1 - 62135596800)
    have ea := H.at_ _ a ha a0 a1
    have eb := H.at_ _ b hb b0 b1
    simp only [ea, eb]
    rcases H.near (s := x - 62135596800) (t := x + 1 - 62135596800) (by omega) (by omega) ha hb a0 a1 b0 b1 with e | ⟨e, h1, h2⟩
    · subst e; left; omega
    · subst e
      right
      have g1 := H.hr1 (a + 1) (by omega) hb
      have g2 := H.hr2 (a + 1) (by omega) hb
      have g3 := H.bk (a + 1) (by omega) hb
      have g4 := H.day (a + 1) (by omega) hb
      have g5 := H.d1 (a + 1) (by omega) hb
      have g6 := H.d2 (a + 1) (by omega) hb
      rw [show a + 1 - 1 = a by omega] at g1 g3 g4 g5
      have e1 : x - 62135596800 + O a + 1 = W (a + 1) + O a := by omega
      have e2 : x + 1 - 62135596800 + O (a + 1) = W (a + 1) + O (a + 1) := by omega
      rw [e1, e2]
      exact ⟨g1, g2, g3, g4, g5, g6⟩
  mod := fun x => by
    obtain ⟨a, ha, a0, a1⟩ := H.ex (x - 62135596800)
    have ea := H.at_ _ a ha a0 a1
    have := H.m60 a ha
    simp only [ea]; omega
  lo := fun x => by have := H.bdo (x - 62135596800); omega
  hi := fun x => by have := H.bdo (x - 62135596800); omega
  mid := fun N => by
    have h := H.fix (86400 * N) fun i h1 hi => by
      have g4 := H.day i h1 hi
      have g5 := H.d1 i h1 hi
      have g6 := H.d2 i h1 hi
      constructor <;> intro h <;> omega
    rw [show 86400 * N - off (86400 * N - off (86400 * N)) + 62135596800 - 62135596800 = 86400 * N - off (86400 * N - off (86400 * N)) by omega, h]
    omega
  hour := fun x => by
    generalize hu : x - 62135596800 = u
    obtain ⟨d, hd, d0, d1⟩ := H.ex u
    have ed := H.at_ _ d hd d0 d1
    have od := H.bd d hd
    generalize hT : u + off u - (u + off u) % 3600 = T
    have hTb : T ≤ u + O d ∧ u + O d < T + 3600 ∧ T % 3600 = 0 := by rw [← ed, ← hT]; omega
    have h := H.fix T fun i h1 hi => by
      have g1 := H.hr1 i h1 hi
      have g2 := H.hr2 i h1 hi
      have g3 := H.bk i h1 hi
      have bi := H.bd i hi
      have bi' := H.bd (i - 1) (by omega)
      have nogap : ¬ (W i + O (i - 1) ≤ T ∧ T < W i + O i) := by
        rintro ⟨q1, q2⟩
        have q3 : W i + O (i - 1) ≤ u + O d := by omega
        have q4 : u + O d < W i + O i := by omega
        rcases Nat.lt_trichotomy (d + 1) i with r | r | r
        · have := d1 (by omega)
          have := H.le (d + 1) i (by omega) (by omega) hi
          have : (i : Int) - ((d + 1 : Nat) : Int) ≥ 1 := by omega
          omega
        · subst r
          have := d1 hi
          rw [show d + 1 - 1 = d by omega] at q3
          omega
        · rcases Nat.lt_or_ge i d with r' | r'
          · have q5 : W d ≤ u := by rcases d0 with h | h <;> omega
            have := H.le i d h1 (by omega) hd
            have : (d : Int) - (i : Int) ≥ 1 := by omega
            omega
          · have : d = i := by omega
            subst this
            have q5 : W d ≤ u := by rcases d0 with h | h <;> omega
            omega
      constructor <;> intro q <;> omega
    rw [show T - off (T - off T) + 62135596800 - 62135596800 = T - off (T - off T) by omega, h]
    omega
end
end Go.Proofs.Ytjmgebhjkbcpcaa.CronPl
