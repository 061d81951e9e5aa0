/- zones: GoodZone, CronPlainZone, the spec's calendar; location. -/
import Derived.Test.YtjmgebhjkbcpcaaNA
import Derived.Test.YtjmgebhjkbcpcaaNB
import Derived.Test.YtjmgebhjkbcpcaaPFnCronNextManyx1
import Derived.Test.YtjmgebhjkbcpcaaPFnCronNextManyx2
import Derived.Test.YtjmgebhjkbcpcaaPFnCronNextManyx4
import Derived.Test.YtjmgebhjkbcpcaaPFnCronNextManyx5
import Derived.Test.YtjmgebhjkbcpcaaNF
import Derived.Test.YtjmgebhjkbcpcaaPFnCronNextManyx0
import Derived.Deep.AppendLies
import Derived.Deep.RegionLaw
import Derived.Deep.DrawnRows
import Derived.Deep.LoopGhost
set_option linter.unusedVariables false
set_option linter.unusedSimpArgs false
namespace Go.Proofs.Ytjmgebhjkbcpcaa.NM
open Cal CronPl
/-- what GoodZone says -/
def ZOk (os : List Int) (ds : List Bool) (ws ix : List Int) : Prop :=
  (os.length = 0 ∧ ds.length = 0 ∧ ws.length = 0 ∧ ix.length = 0) ∨ (ds.length = os.length ∧ ix.length = ws.length ∧ Zone.Good ⟨ws, ix, os⟩)
/-- what CronPlainZone says -/
structure PZ (os ws ix : List Int) : Prop where
  m60 : ∀ i, i < os.length → os.getD i 0 % 60 = 0
  gap : ∀ i, 2 ≤ i → i < ws.length → ws.getD i 0 - ws.getD (i - 1) 0 ≥ 345600
  c1 : ∀ i, 1 ≤ i → i < ws.length → (ws.getD i 0 + os.getD (ix.getD (i - 1) 0).toNat 0) % 3600 = 0
  c2 : ∀ i, 1 ≤ i → i < ws.length → (ws.getD i 0 + os.getD (ix.getD i 0).toNat 0) % 3600 = 0
  bk : ∀ i, 1 ≤ i → i < ws.length → ws.getD i 0 + os.getD (ix.getD (i - 1) 0).toNat 0 - 3600 ≤ ws.getD i 0 + os.getD (ix.getD i 0).toNat 0
  day : ∀ i, 1 ≤ i → i < ws.length → (ws.getD i 0 + os.getD (ix.getD (i - 1) 0).toNat 0) / 86400 = (ws.getD i 0 + os.getD (ix.getD i 0).toNat 0) / 86400
  d1 : ∀ i, 1 ≤ i → i < ws.length → 3600 ≤ (ws.getD i 0 + os.getD (ix.getD (i - 1) 0).toNat 0) % 86400
  d2 : ∀ i, 1 ≤ i → i < ws.length → 3600 ≤ (ws.getD i 0 + os.getD (ix.getD i 0).toNat 0) % 86400
theorem Zone.ex {z : Zone} (h : z.Good) (s : Int) : ∃ a, a < z.ws.length ∧ (a = 0 ∨ z.ws.getD a 0 ≤ s) ∧ (a + 1 < z.ws.length → s < z.ws.getD (a + 1) 0) := by
  have key : ∀ k, k < z.ws.length → (∃ a, a < z.ws.length ∧ (a = 0 ∨ z.ws.getD a 0 ≤ s) ∧ (a + 1 < z.ws.length → s < z.ws.getD (a + 1) 0)) ∨ (k = 0 ∨ z.ws.getD k 0 ≤ s) := by
    intro k
    induction k with
    | zero => intro _; exact .inr (.inl rfl)
    | succ k ih =>
      intro hk
      rcases ih (by omega) with r | r
      · exact .inl r
      · rcases Int.lt_or_le s (z.ws.getD (k + 1) 0) with q | q
        · exact .inl ⟨k, by omega, r, fun _ => q⟩
        · exact .inr (.inr q)
  have h0 := h.n0
  rcases key (z.ws.length - 1) (by omega) with r | r
  · exact r
  · exact ⟨z.ws.length - 1, by omega, r, fun hh => by omega⟩
theorem Zone.off_at' {z : Zone} (h : z.Good) (s : Int) (a : Nat) (ha : a < z.ws.length) (h0 : a = 0 ∨ z.ws.getD a 0 ≤ s) (h1 : a + 1 < z.ws.length → s < z.ws.getD (a + 1) 0) :
    z.off s = z.os.getD (z.ix.getD a 0).toNat 0 := by
  rcases Int.lt_or_le s (z.ws.getD a 0) with q | q
  · have e : a = 0 := by rcases h0 with h | h; exact h; omega
    subst e
    have hall : ∀ i, i < z.ws.length → s < z.ws.getD i 0 := by
      intro i
      induction i with
      | zero => intro _; exact q
      | succ i ih =>
        intro hi
        have := ih (by omega)
        have := h.sorted i hi
        omega
    unfold Zone.off
    rw [offFrom_above _ _ _ _ _ hall]
  · exact Zone.off_at h s a ha q h1
theorem PZ.steps {os ws ix : List Int} (hg : Zone.Good ⟨ws, ix, os⟩) (hp : PZ os ws ix) : CronPl.Steps ws.length (fun i => ws.getD i 0) (fun a => os.getD (ix.getD a 0).toNat 0) (Zone.off ⟨ws, ix, os⟩) where
  ex := Zone.ex hg
  at_ := fun s a ha h0 h1 => Zone.off_at' hg s a ha h0 h1
  gap := hp.gap
  hr1 := hp.c1
  hr2 := hp.c2
  bk := hp.bk
  day := hp.day
  d1 := hp.d1
  d2 := hp.d2
  bd := fun a ha => hg.offs (ix.getD a 0).toNat (by have := hg.idx a ha; simp only at this ⊢; omega)
  m60 := fun a ha => hp.m60 (ix.getD a 0).toNat (by have := hg.idx a ha; simp only at this; omega)
theorem plain_zone {os ws ix : List Int} (hg : Zone.Good ⟨ws, ix, os⟩) (hp : PZ os ws ix) : Plain (lo (some ⟨ws, ix, os⟩)) (fun T => reso (some ⟨ws, ix, os⟩) T + 62135596800) :=
  (hp.steps hg).plain
theorem plain_utc : Plain (lo none) (fun T => reso none T + 62135596800) where
  step := fun x => by simp only [lo, offO]; left; omega
  mod := fun x => by simp only [lo, offO]; omega
  lo := fun x => by simp only [lo, offO]; omega
  hi := fun x => by simp only [lo, offO]; omega
  mid := fun N => by simp only [lo, offO, reso]; omega
  hour := fun x => by simp only [lo, offO, reso]; omega
end Go.Proofs.Ytjmgebhjkbcpcaa.NM
set_option linter.unusedVariables false
set_option linter.unusedSimpArgs false
namespace Go.Proofs.Ytjmgebhjkbcpcaa.NM
open Cal CronPl Go.RowKit Go.Proofs.YtjmgebhjkbcpcaaW.PrintWords Go.Proofs.Ytjmgebhjkbcpcaa.PFnCronNextMany
theorem rdn (l : List Int) (i : Nat) : rd l (i : Int) = l.getD i 0 := by simp [rd]
theorem w64 (n : Int) (h0 : -9223372036854775808 ≤ n) (h1 : n ≤ 9223372036854775807) : wrap64 n = n := IntWalk.wrap64_in n ⟨h0, h1⟩
theorem good_l1 (os : List Int) (ds : List Bool) (ws ix : List Int) (hl : ix.length = ws.length) (hb : ix.length ≤ 4096) (m : Nat) : ∀ (i k : Nat), i + m = ix.length → m < k →
    ∃ r, spec_GoodZone.l1 k ix (ix.length : Int) (i : Int) os ds ws ix = some r ∧ (r = true → ∀ j, i ≤ j → j < ix.length → (0 ≤ ix.getD j 0 ∧ ix.getD j 0 < os.length) ∧ (0 < j → ws.getD (j - 1) 0 < ws.getD j 0)) := by
  induction m with
  | zero =>
    intro i k hi hk
    obtain ⟨k, rfl⟩ : ∃ k', k = k' + 1 := ⟨k - 1, by omega⟩
    refine ⟨true, ?_, fun _ j h0 h1 => by omega⟩
    simp only [spec_GoodZone.l1]
    rw [if_neg (by omega)]
  | succ m ih =>
    intro i k hi hk
    obtain ⟨k, rfl⟩ : ∃ k', k = k' + 1 := ⟨k - 1, by omega⟩
    obtain ⟨r, hr, hrt⟩ := ih (i + 1) k (by omega) (by omega)
    have e1 : wrap64 ((i : Int) + 1) = ((i + 1 : Nat) : Int) := by rw [w64 _ (by omega) (by omega)]; push_cast; rfl
    simp only [spec_GoodZone.l1]
    rw [if_pos (by omega), if_pos (by omega), if_pos (by omega), rdn]
    by_cases c1 : ix.getD i 0 < 0
    · exact ⟨false, by rw [if_pos c1], fun h => by simp at h⟩
    rw [if_neg c1]
    by_cases c2 : ix.getD i 0 ≥ (os.length : Int)
    · exact ⟨false, by rw [if_pos c2], fun h => by simp at h⟩
    rw [if_neg c2]
    rcases Nat.eq_zero_or_pos i with z | z
    · subst z
      refine ⟨r, ?_, fun h j h0 h1 => ?_⟩
      · rw [if_neg (by omega), e1]; exact hr
      · rcases Nat.eq_zero_or_pos j with q | q
        · subst q; exact ⟨⟨by omega, by omega⟩, fun h => by omega⟩
        · exact hrt h j q h1
    · have e2 : wrap64 ((i : Int) - 1) = ((i - 1 : Nat) : Int) := by rw [w64 _ (by omega) (by omega)]; omega
      rw [if_pos (by omega), e2, if_pos (by omega), if_pos (by omega), if_pos (by omega), rdn, rdn]
      by_cases c3 : ws.getD (i - 1) 0 ≥ ws.getD i 0
      · exact ⟨false, by rw [if_pos c3], fun h => by simp at h⟩
      rw [if_neg c3]
      refine ⟨r, by rw [e1]; exact hr, fun h j h0 h1 => ?_⟩
      rcases Nat.eq_or_lt_of_le h0 with q | q
      · subst q; exact ⟨⟨by omega, by omega⟩, fun _ => by omega⟩
      · exact hrt h j q h1
theorem good_l0 (os : List Int) (ds : List Bool) (ws ix : List Int) (hl : ix.length = ws.length) (hb : ix.length ≤ 4096) (ho : os.length ≤ 64) (m : Nat) : ∀ (i k : Nat), i + m = os.length → m + ix.length + 1 < k →
    ∃ r, spec_GoodZone.l0 k os (os.length : Int) (i : Int) os ds ws ix = some r ∧ (r = true → (∀ j, i ≤ j → j < os.length → -86400 ≤ os.getD j 0 ∧ os.getD j 0 ≤ 86400) ∧ ∀ j, j < ix.length → (0 ≤ ix.getD j 0 ∧ ix.getD j 0 < os.length) ∧ (0 < j → ws.getD (j - 1) 0 < ws.getD j 0)) := by
  induction m with
  | zero =>
    intro i k hi hk
    obtain ⟨k, rfl⟩ : ∃ k', k = k' + 1 := ⟨k - 1, by omega⟩
    obtain ⟨r, hr, hrt⟩ := good_l1 os ds ws ix hl hb ix.length 0 k (by omega) (by omega)
    refine ⟨r, ?_, fun h => ⟨fun j h0 h1 => by omega, fun j h1 => hrt h j (by omega) h1⟩⟩
    simp only [spec_GoodZone.l0]
    rw [if_neg (by omega)]
    exact hr
  | succ m ih =>
    intro i k hi hk
    obtain ⟨k, rfl⟩ : ∃ k', k = k' + 1 := ⟨k - 1, by omega⟩
    obtain ⟨r, hr, hrt⟩ := ih (i + 1) k (by omega) (by omega)
    have e1 : wrap64 ((i : Int) + 1) = ((i + 1 : Nat) : Int) := by rw [w64 _ (by omega) (by omega)]; push_cast; rfl
    simp only [spec_GoodZone.l0]
    rw [if_pos (by omega), if_pos (by omega), if_pos (by omega), rdn]
    by_cases c1 : os.getD i 0 < -86400
    · exact ⟨false, by rw [if_pos c1], fun h => by simp at h⟩
    rw [if_neg c1]
    by_cases c2 : os.getD i 0 > 86400
    · exact ⟨false, by rw [if_pos c2], fun h => by simp at h⟩
    rw [if_neg c2, e1]
    refine ⟨r, hr, fun h => ⟨fun j h0 h1 => ?_, (hrt h).2⟩⟩
    rcases Nat.eq_or_lt_of_le h0 with q | q
    · subst q; exact ⟨by omega, by omega⟩
    · exact (hrt h).1 j q h1
theorem good_f (os : List Int) (ds : List Bool) (ws ix : List Int) : ∃ k r, spec_GoodZone.f k os ds ws ix = some r ∧ (r = true → ZOk os ds ws ix) := by
  have hj : ∀ k, spec_GoodZone.j0 (k + 1) true os ds ws ix = some false := fun k => by simp [spec_GoodZone.j0]
  refine ⟨5000, ?_⟩
  unfold spec_GoodZone.f
  by_cases c0 : (os.length : Int) = 0
  · rw [if_pos c0]
    by_cases c1 : (ds.length : Int) = 0
    · rw [if_pos c1]
      by_cases c2 : (ws.length : Int) = 0
      · rw [if_pos c2]
        exact ⟨_, rfl, fun h => .inl ⟨by omega, by omega, by omega, by simpa using h⟩⟩
      · rw [if_neg c2]; exact ⟨false, rfl, fun h => by simp at h⟩
    · rw [if_neg c1]; exact ⟨false, rfl, fun h => by simp at h⟩
  rw [if_neg c0]
  by_cases c1 : (os.length : Int) > 64
  · rw [if_pos c1]; exact ⟨false, hj _, fun h => by simp at h⟩
  rw [if_neg c1]
  by_cases c2 : (ds.length : Int) = (os.length : Int)
  case neg => rw [if_neg c2]; exact ⟨false, hj _, fun h => by simp at h⟩
  rw [if_pos c2]
  by_cases c3 : (ws.length : Int) = 0
  · rw [if_pos c3]; exact ⟨false, hj _, fun h => by simp at h⟩
  rw [if_neg c3]
  by_cases c4 : (ws.length : Int) > 4096
  · rw [if_pos c4]; exact ⟨false, hj _, fun h => by simp at h⟩
  rw [if_neg c4]
  by_cases c5 : (ix.length : Int) = (ws.length : Int)
  case neg => rw [if_neg c5]; exact ⟨false, hj _, fun h => by simp at h⟩
  rw [if_pos c5, if_pos (by omega)]
  cases c6 : (rd ws 0 != -9223372036854775808) with
  | true => exact ⟨false, hj _, fun h => by simp at h⟩
  | false =>
    obtain ⟨r, hr, hrt⟩ := good_l0 os ds ws ix (by omega) (by omega) (by omega) os.length 0 4999 (by omega) (by omega)
    refine ⟨r, by simpa [spec_GoodZone.j0] using hr, fun h => .inr ⟨by omega, by omega, ?_⟩⟩
    obtain ⟨ha, hb⟩ := hrt h
    have h6 : ws.getD 0 0 = -9223372036854775808 := by simpa [rd] using c6
    exact ⟨by show 0 < ws.length; omega, by show ws.length ≤ 4096; omega, by show 0 < os.length; omega, by show os.length ≤ 64; omega, by show ix.length = ws.length; omega, h6,
      fun i hi => by have := (hb (i + 1) (by have : i + 1 < ws.length := hi; omega)).2 (by omega); simpa using this,
      fun i hi => (hb i (by have : i < ws.length := hi; omega)).1, fun i hi => ha i (by omega) hi⟩
end Go.Proofs.Ytjmgebhjkbcpcaa.NM
set_option linter.unusedVariables false
set_option linter.unusedSimpArgs false
namespace Go.Proofs.Ytjmgebhjkbcpcaa.NM
open Cal CronPl Go.RowKit Go.Proofs.YtjmgebhjkbcpcaaW.PrintWords Go.Proofs.Ytjmgebhjkbcpcaa.PFnCronNextMany
theorem fdiv_gen (a b : Int) (hb : 0 < b) (h0 : -4000000000000000000 ≤ a) (h1 : a ≤ 4000000000000000000) : spec_floorDiv.f a b = some (a / b) := by
  unfold spec_floorDiv.f
  rw [if_neg (by omega)]
  have hq : -4000000000000000000 ≤ a / b ∧ a / b ≤ 4000000000000000000 := by
    constructor
    · have := Int.ediv_le_ediv hb h0
      have : -4000000000000000000 ≤ (-4000000000000000000 : Int) / b := by
        rw [Int.le_ediv_iff_mul_le hb]
        have : (-4000000000000000000 : Int) * b ≤ (-4000000000000000000 : Int) * 1 := Int.mul_le_mul_of_nonpos_left (by omega) (by omega)
        omega
      omega
    · rcases Int.lt_or_le a 0 with q | q
      · have := Int.ediv_neg_of_neg_of_pos q hb; omega
      · have := Int.ediv_le_self b q; omega
  rcases Int.lt_or_le a 0 with q | q
  · obtain ⟨n, rfl⟩ : ∃ n, a = -n := ⟨-a, by omega⟩
    have hn : 0 ≤ n := by omega
    rw [Int.neg_tmod, Int.neg_tdiv, Int.tmod_eq_emod_of_nonneg hn, Int.tdiv_eq_ediv_of_nonneg hn]
    have e := Int.mul_ediv_add_emod n b
    have e0 := Int.emod_nonneg n (show b ≠ 0 by omega)
    have e1 := Int.emod_lt_of_pos n hb
    have hnb : 0 ≤ n / b ∧ n / b ≤ n := ⟨Int.ediv_nonneg hn (by omega), Int.ediv_le_self b hn⟩
    by_cases c : -(n % b) < 0
    · rw [if_pos c, w64 (-(n / b)) (by omega) (by omega), w64 _ (by omega) (by omega)]
      congr 1
      have : (-n) / b = -(n / b) - 1 := by
        refine (Int.ediv_eq_iff_of_pos hb).mpr ⟨?_, ?_⟩
        · rw [Int.sub_mul, Int.neg_mul, Int.mul_comm (n / b) b]; omega
        · rw [Int.sub_mul, Int.neg_mul, Int.mul_comm (n / b) b]; omega
      omega
    · rw [if_neg c, w64 _ (by omega) (by omega)]
      congr 1
      have : (-n) / b = -(n / b) := by
        refine (Int.ediv_eq_iff_of_pos hb).mpr ⟨?_, ?_⟩
        · rw [Int.neg_mul, Int.mul_comm (n / b) b]; omega
        · rw [Int.neg_mul, Int.mul_comm (n / b) b]; omega
      omega
  · rw [Int.tmod_eq_emod_of_nonneg q, Int.tdiv_eq_ediv_of_nonneg q, if_neg (by have := Int.emod_nonneg a (show b ≠ 0 by omega); omega), w64 _ (by omega) (by omega)]
theorem fmod_gen (a b : Int) (hb : 0 < b) (hb2 : b ≤ 1000000000) (h0 : -4000000000000000000 ≤ a) (h1 : a ≤ 4000000000000000000) : spec_floorMod.f a b = some (a % b) := by
  unfold spec_floorMod.f
  rw [fdiv_gen a b hb h0 h1]
  show some (wrap64 (a - wrap64 (b * (a / b)))) = some (a % b)
  have e := Int.mul_ediv_add_emod a b
  have e0 := Int.emod_nonneg a (show b ≠ 0 by omega)
  have e1 := Int.emod_lt_of_pos a hb
  rw [w64 (b * (a / b)) (by omega) (by omega), w64 _ (by omega) (by omega)]
  congr 1; omega
end Go.Proofs.Ytjmgebhjkbcpcaa.NM
set_option linter.unusedVariables false
set_option linter.unusedSimpArgs false
namespace Go.Proofs.Ytjmgebhjkbcpcaa.NM
open Cal CronPl Go.RowKit Go.Proofs.YtjmgebhjkbcpcaaW.PrintWords Go.Proofs.Ytjmgebhjkbcpcaa.PFnCronNextMany
/-- what is asked of transition i -/
structure PZi (os ws ix : List Int) (i : Nat) : Prop where
  wb : -62167596800 ≤ ws.getD i 0 ∧ ws.getD i 0 ≤ 253722300799
  gap : 2 ≤ i → ws.getD i 0 - ws.getD (i - 1) 0 ≥ 345600
  c1 : (ws.getD i 0 + os.getD (ix.getD (i - 1) 0).toNat 0) % 3600 = 0
  c2 : (ws.getD i 0 + os.getD (ix.getD i 0).toNat 0) % 3600 = 0
  bk : ws.getD i 0 + os.getD (ix.getD (i - 1) 0).toNat 0 - 3600 ≤ ws.getD i 0 + os.getD (ix.getD i 0).toNat 0
  day : (ws.getD i 0 + os.getD (ix.getD (i - 1) 0).toNat 0) / 86400 = (ws.getD i 0 + os.getD (ix.getD i 0).toNat 0) / 86400
  d1 : 3600 ≤ (ws.getD i 0 + os.getD (ix.getD (i - 1) 0).toNat 0) % 86400
  d2 : 3600 ≤ (ws.getD i 0 + os.getD (ix.getD i 0).toNat 0) % 86400
section
variable (os : List Int) (ds : List Bool) (ws ix : List Int) (hg : Zone.Good ⟨ws, ix, os⟩)
include hg
set_option maxHeartbeats 1000000 in
theorem pz_l1 (m : Nat) : ∀ (i k : Nat), 1 ≤ i → i + m = ws.length → 4 * m < k → (i = 1 ∨ (-62167596800 ≤ ws.getD (i - 1) 0 ∧ ws.getD (i - 1) 0 ≤ 253722300799)) →
    ∃ r, spec_CronPlainZone.l1 k (i : Int) os ds ws ix = some r ∧ (r = true → ∀ j, i ≤ j → j < ws.length → PZi os ws ix j) := by
  have l3 : ix.length = ws.length := hg.li
  have n1 : ws.length ≤ 4096 := hg.n1
  induction m with
  | zero =>
    intro i k h1 hi hk _
    obtain ⟨k, rfl⟩ : ∃ k', k = k' + 1 := ⟨k - 1, by omega⟩
    refine ⟨true, ?_, fun _ j h0 h1 => by omega⟩
    unfold spec_CronPlainZone.l1
    rw [if_neg (by omega)]
  | succ m ih =>
    intro i k h1 hi hk hprev
    obtain ⟨k, rfl⟩ : ∃ k', k = k' + 4 := ⟨k - 4, by omega⟩
    have e1 : wrap64 ((i : Int) + 1) = ((i + 1 : Nat) : Int) := by rw [w64 _ (by omega) (by omega)]; push_cast; rfl
    have e2 : wrap64 ((i : Int) - 1) = ((i - 1 : Nat) : Int) := by rw [w64 _ (by omega) (by omega)]; omega
    have i0 := hg.idx (i - 1) (by show i - 1 < ws.length; omega)
    have i1 := hg.idx i (by show i < ws.length; omega)
    simp only at i0 i1
    have o0 := hg.offs (ix.getD (i - 1) 0).toNat (by show _ < os.length; omega)
    have o1 := hg.offs (ix.getD i 0).toNat (by show _ < os.length; omega)
    simp only at o0 o1
    obtain ⟨p, hp⟩ : ∃ p, os.getD (ix.getD (i - 1) 0).toNat 0 = p := ⟨_, rfl⟩
    obtain ⟨q, hq⟩ : ∃ q, os.getD (ix.getD i 0).toNat 0 = q := ⟨_, rfl⟩
    rw [hp] at o0
    rw [hq] at o1
    have HP : Hid (os.getD (ix.getD (i - 1) 0).toNat 0 = p) := hp
    have HQ : Hid (os.getD (ix.getD i 0).toNat 0 = q) := hq
    clear hp hq
    have j2f : ∀ k x6, spec_CronPlainZone.j2 (k + 1) (i : Int) x6 true os ds ws ix = some false := fun k x6 => by unfold spec_CronPlainZone.j2; exact if_pos rfl
    have j3f : ∀ k x6, spec_CronPlainZone.j3 (k + 1) (i : Int) x6 true os ds ws ix = some false := fun k x6 => by unfold spec_CronPlainZone.j3; exact if_pos rfl
    have j4f : ∀ k x7 x8, spec_CronPlainZone.j4 (k + 1) (i : Int) x7 x8 true os ds ws ix = some false := fun k x7 x8 => by unfold spec_CronPlainZone.j4; exact if_pos rfl
    rw [show k + 4 = k + 3 + 1 by omega]
    unfold spec_CronPlainZone.l1
    rw [if_pos (by omega), if_pos (by omega), rdn]
    by_cases c1 : ws.getD i 0 < -62167596800
    · exact ⟨false, by rw [if_pos c1]; exact j2f _ _, fun h => by simp at h⟩
    rw [if_neg c1]
    by_cases c2 : ws.getD i 0 > 253722300799
    · exact ⟨false, by rw [decide_eq_true c2]; exact j2f _ _, fun h => by simp at h⟩
    rw [decide_eq_false c2]
    obtain ⟨r, hr, hrt⟩ := ih (i + 1) k (by omega) (by omega) (by omega) (.inr (by rw [show i + 1 - 1 = i by omega]; omega))
    -- j3 onward
    have key : 2 ≤ i → True → True := fun _ _ => trivial
    have hj3 : ∃ r, spec_CronPlainZone.j3 (k + 2) (i : Int) (ws.getD i 0) false os ds ws ix = some r ∧ (r = true → ((2 ≤ i → ws.getD i 0 - ws.getD (i - 1) 0 ≥ 345600) → PZi os ws ix i) ∧ ∀ j, i + 1 ≤ j → j < ws.length → PZi os ws ix j) := by
      rw [show k + 2 = k + 1 + 1 by omega]
      unfold spec_CronPlainZone.j3
      rw [if_neg (by simp), e2, if_pos (by omega), if_pos (by omega), rdn, if_pos (by omega), if_pos (by omega), if_pos (by omega), if_pos (by omega), rdn, if_pos (by omega), if_pos (by omega)]
      rw [show rd os (ix.getD (i - 1) 0) = p from HP.out, show rd os (ix.getD i 0) = q from HQ.out]
      generalize hW : ws.getD i 0 = W at c1 c2
      rw [w64 (W + p) (by omega) (by omega), w64 (W + q) (by omega) (by omega), fmod_gen (W + p) 3600 (by omega) (by omega) (by omega) (by omega), fmod_gen (W + q) 3600 (by omega) (by omega) (by omega) (by omega)]
      simp only [Option.bind_some]
      by_cases c3 : (W + p) % 3600 = 0
      case neg => exact ⟨false, by rw [if_neg c3]; exact j4f _ _ _, fun h => by simp at h⟩
      rw [if_pos c3]
      by_cases c4 : (W + q) % 3600 = 0
      case neg => exact ⟨false, by rw [if_neg c4]; exact j4f _ _ _, fun h => by simp at h⟩
      rw [if_pos c4, w64 (W + p - 3600) (by omega) (by omega)]
      by_cases c5 : W + q < W + p - 3600
      · exact ⟨false, by rw [decide_eq_true c5]; exact j4f _ _ _, fun h => by simp at h⟩
      rw [decide_eq_false c5]
      unfold spec_CronPlainZone.j4
      rw [if_neg (by simp), fdiv_gen (W + p) 86400 (by omega) (by omega) (by omega), fdiv_gen (W + q) 86400 (by omega) (by omega) (by omega), fmod_gen (W + p) 86400 (by omega) (by omega) (by omega) (by omega), fmod_gen (W + q) 86400 (by omega) (by omega) (by omega) (by omega)]
      simp only [Option.bind_some]
      by_cases c6 : (W + p) / 86400 = (W + q) / 86400
      case neg => exact ⟨false, by rw [if_neg c6], fun h => by simp at h⟩
      rw [if_pos c6]
      by_cases c7 : (W + p) % 86400 < 3600
      · exact ⟨false, by rw [if_pos c7], fun h => by simp at h⟩
      rw [if_neg c7]
      by_cases c8 : (W + q) % 86400 < 3600
      · exact ⟨false, by rw [if_pos c8], fun h => by simp at h⟩
      rw [if_neg c8, e1]
      refine ⟨r, hr, fun h => ⟨fun hgap => ?_, hrt h⟩⟩
      have hp := HP.out
      have hq := HQ.out
      exact ⟨by rw [hW]; exact ⟨Int.not_lt.mp c1, Int.not_lt.mp c2⟩, by rw [hW]; exact hgap, by rw [hW, hp]; exact c3, by rw [hW, hq]; exact c4, by rw [hW, hp, hq]; exact Int.not_lt.mp c5, by rw [hW, hp, hq]; exact c6, by rw [hW, hp]; exact Int.not_lt.mp c7, by rw [hW, hq]; exact Int.not_lt.mp c8⟩
    rw [show k + 3 = k + 2 + 1 by omega]
    unfold spec_CronPlainZone.j2
    rw [if_neg (by simp)]
    by_cases c3 : (i : Int) > 1
    · rw [if_pos c3, if_pos (by omega), if_pos (by omega), e2, if_pos (by omega), if_pos (by omega), rdn, rdn]
      have hprev' : -62167596800 ≤ ws.getD (i - 1) 0 ∧ ws.getD (i - 1) 0 ≤ 253722300799 := by rcases hprev with h | h; omega; exact h
      rw [w64 (ws.getD i 0 - ws.getD (i - 1) 0) (by omega) (by omega)]
      by_cases c4 : ws.getD i 0 - ws.getD (i - 1) 0 < 345600
      · exact ⟨false, by rw [decide_eq_true c4]; exact j3f _ _, fun h => by simp at h⟩
      rw [decide_eq_false c4]
      obtain ⟨r', hr', hrt'⟩ := hj3
      refine ⟨r', hr', fun h j h0 h1 => ?_⟩
      rcases Nat.eq_or_lt_of_le h0 with q | q
      · subst q; exact (hrt' h).1 (fun _ => by omega)
      · exact (hrt' h).2 j q h1
    · rw [if_neg c3]
      obtain ⟨r', hr', hrt'⟩ := hj3
      refine ⟨r', hr', fun h j h0 h1 => ?_⟩
      rcases Nat.eq_or_lt_of_le h0 with q | q
      · subst q; exact (hrt' h).1 (fun _ => by omega)
      · exact (hrt' h).2 j q h1
theorem pz_l0 (m : Nat) : ∀ (i k : Nat), i + m = os.length → m + 4 * ws.length + 4 < k →
    ∃ r, spec_CronPlainZone.l0 k os (os.length : Int) (i : Int) os ds ws ix = some r ∧ (r = true → (∀ j, i ≤ j → j < os.length → os.getD j 0 % 60 = 0) ∧ ∀ j, 1 ≤ j → j < ws.length → PZi os ws ix j) := by
  have k1 : os.length ≤ 64 := hg.k1
  have n0 : 0 < ws.length := hg.n0
  induction m with
  | zero =>
    intro i k hi hk
    obtain ⟨k, rfl⟩ : ∃ k', k = k' + 1 := ⟨k - 1, by omega⟩
    obtain ⟨r, hr, hrt⟩ := pz_l1 os ds ws ix hg (ws.length - 1) 1 k (by omega) (by omega) (by omega) (.inl rfl)
    refine ⟨r, ?_, fun h => ⟨fun j h0 h1 => by omega, fun j h0 h1 => hrt h j h0 h1⟩⟩
    unfold spec_CronPlainZone.l0
    rw [if_neg (by omega)]
    exact hr
  | succ m ih =>
    intro i k hi hk
    obtain ⟨k, rfl⟩ : ∃ k', k = k' + 1 := ⟨k - 1, by omega⟩
    obtain ⟨r, hr, hrt⟩ := ih (i + 1) k (by omega) (by omega)
    have e1 : wrap64 ((i : Int) + 1) = ((i + 1 : Nat) : Int) := by rw [w64 _ (by omega) (by omega)]; push_cast; rfl
    unfold spec_CronPlainZone.l0
    rw [if_pos (by omega), if_pos (by omega), if_pos (by omega), rdn]
    by_cases c1 : Int.tmod (os.getD i 0) 60 = 0
    case neg => exact ⟨false, by rw [if_neg c1], fun h => by simp at h⟩
    rw [if_pos c1, e1]
    refine ⟨r, hr, fun h => ⟨fun j h0 h1 => ?_, (hrt h).2⟩⟩
    rcases Nat.eq_or_lt_of_le h0 with q | q
    · subst q
      have := Int.dvd_of_tmod_eq_zero c1
      omega
    · exact (hrt h).1 j q h1
end
theorem pz_f (os : List Int) (ds : List Bool) (ws ix : List Int) (ho : ZOk os ds ws ix) : ∃ k r, spec_CronPlainZone.f k os ds ws ix = some r ∧ (r = true → os.length = 0 ∨ (PZ os ws ix ∧ ∀ i, 1 ≤ i → i < ws.length → -62167596800 ≤ ws.getD i 0 ∧ ws.getD i 0 ≤ 253722300799)) := by
  rcases ho with ⟨e0, e1, e2, e3⟩ | ⟨e1, e3, hg⟩
  · refine ⟨2, true, ?_, fun _ => .inl e0⟩
    unfold spec_CronPlainZone.f
    simp [spec_CronPlainZone.l0, spec_CronPlainZone.l1, e0, e2]
  · have k1 : os.length ≤ 64 := hg.k1
    have n1 : ws.length ≤ 4096 := hg.n1
    obtain ⟨r, hr, hrt⟩ := pz_l0 os ds ws ix hg os.length 0 20000 (by omega) (by omega)
    refine ⟨20000, r, hr, fun h => .inr ?_⟩
    obtain ⟨ha, hb⟩ := hrt h
    exact ⟨⟨fun i hi => ha i (by omega) hi, fun i h1 hi => (hb i (by omega) hi).gap h1, fun i h1 hi => (hb i h1 hi).c1, fun i h1 hi => (hb i h1 hi).c2, fun i h1 hi => (hb i h1 hi).bk, fun i h1 hi => (hb i h1 hi).day, fun i h1 hi => (hb i h1 hi).d1, fun i h1 hi => (hb i h1 hi).d2⟩, fun i h1 hi => (hb i h1 hi).wb⟩
end Go.Proofs.Ytjmgebhjkbcpcaa.NM
set_option linter.unusedVariables false
set_option linter.unusedSimpArgs false
namespace Go.Proofs.Ytjmgebhjkbcpcaa.NM
open Cal CronPl Go.RowKit Go.Proofs.YtjmgebhjkbcpcaaW.PrintWords Go.Proofs.Ytjmgebhjkbcpcaa.PFnCronNextMany
theorem ystart_f (y : Int) (h0 : -1000000 ≤ y) (h1 : y ≤ 1000000) : spec_CronYearStart.f y = some (ystart y) := by
  unfold spec_CronYearStart.f
  rw [w64 (y - 1) (by omega) (by omega), fdiv_gen _ 4 (by decide) (by omega) (by omega), fdiv_gen _ 100 (by decide) (by omega) (by omega), fdiv_gen _ 400 (by decide) (by omega) (by omega)]
  simp only [Option.bind_some]
  rw [w64 (365 * (y - 1)) (by omega) (by omega), w64 (365 * (y - 1) + (y - 1) / 4) (by omega) (by omega), w64 (365 * (y - 1) + (y - 1) / 4 - (y - 1) / 100) (by omega) (by omega),
    w64 (365 * (y - 1) + (y - 1) / 4 - (y - 1) / 100 + (y - 1) / 400) (by omega) (by omega), w64 _ (by omega) (by omega)]
  rfl
theorem tmod0 (y b : Int) (hb : 0 < b) : (Int.tmod y b = 0) ↔ y % b = 0 := by
  constructor
  · intro h; exact Int.emod_eq_zero_of_dvd (Int.dvd_of_tmod_eq_zero h)
  · intro h; exact Int.tmod_eq_zero_of_dvd (Int.dvd_of_emod_eq_zero h)
theorem leap_f (y : Int) : spec_CronLeap.f y = some (decide (leapI y = 1)) := by
  unfold spec_CronLeap.f leapI
  have a := tmod0 y 4 (by decide)
  have b := tmod0 y 100 (by decide)
  have c := tmod0 y 400 (by decide)
  by_cases h4 : y % 4 = 0
  · rw [if_pos (a.2 h4)]
    by_cases h1 : y % 100 = 0
    · rw [if_pos (b.2 h1)]
      by_cases h2 : y % 400 = 0
      · simp [h4, h1, h2, c.2 h2]
      · have : ¬ Int.tmod y 400 = 0 := fun h => h2 (c.1 h)
        simp [h4, h1, h2, this]
    · rw [if_neg (fun h => h1 (b.1 h))]
      simp [h4, h1]
  · rw [if_neg (fun h => h4 (a.1 h))]
    simp [h4]
theorem mdays_f (y m : Int) : spec_CronMonthDays.f y m = some (mlen y m) := by
  unfold spec_CronMonthDays.f mlen
  rw [leap_f]
  by_cases h2 : m = 2
  · rw [if_pos h2, if_pos h2]
    rcases leapI_01 y with h | h <;> simp [h]
  · rw [if_neg h2, if_neg h2]
    by_cases h4 : m = 4
    · rw [if_pos h4, if_pos (.inl h4)]
    · rw [if_neg h4]
      by_cases h6 : m = 6
      · rw [if_pos h6, if_pos (.inr (.inl h6))]
      · rw [if_neg h6]
        by_cases h9 : m = 9
        · rw [if_pos h9, if_pos (.inr (.inr (.inl h9)))]
        · rw [if_neg h9]
          by_cases h11 : m = 11
          · rw [if_pos h11, if_pos (.inr (.inr (.inr h11)))]
          · rw [if_neg h11, if_neg (by omega)]
theorem gyear_bd (n : Int) (h0 : -4000000 ≤ n) (h1 : n ≤ 4000000) : -20000 ≤ gyear n ∧ gyear n ≤ 20000 := by
  have h := gdate n
  have a := h.lo
  have b := h.hi
  unfold ystart at a b
  omega
theorem date_l1 (n : Int) (h0 : -4000000 ≤ n) (h1 : n ≤ 4000000) (m : Nat) : ∀ (k : Nat) (mo : Int), mo + m = gmonth n → 1 ≤ mo → m < k →
    spec_CronDateOf.l1 k (gyear n) (n - ystart (gyear n) - cum (gyear n) mo) mo = some (gyear n, gmonth n, gday n) := by
  have h := gdate n
  have e := h.eq
  have hm12 := h.m12
  have hd1 := h.d1
  have hdm := h.dm
  have ey := ystart_succ (gyear n)
  have hhi := h.hi
  have hlo := h.lo
  have hl01 := leapI_01 (gyear n)
  have hmlx := mlen_bd (gyear n) (gmonth n)
  induction m with
  | zero =>
    intro k mo hm hmo hk
    obtain ⟨k, rfl⟩ : ∃ j, k = j + 1 := ⟨k - 1, by omega⟩
    obtain rfl : mo = gmonth n := by omega
    simp only [spec_CronDateOf.l1]
    rw [mdays_f]
    simp only [Option.bind_some]
    rw [if_neg (by omega), w64 _ (by omega) (by omega)]
    congr 3
    omega
  | succ m ih =>
    intro k mo hm hmo hk
    obtain ⟨k, rfl⟩ : ∃ j, k = j + 1 := ⟨k - 1, by omega⟩
    have s := cum_succ (gyear n) mo hmo (by omega)
    have l := cum_le (gyear n) (mo + 1) (gmonth n) (by omega)
    have l1 := cum_le (gyear n) 1 mo (by omega)
    rw [cum_one] at l1
    simp only [spec_CronDateOf.l1]
    rw [mdays_f]
    simp only [Option.bind_some]
    have hml := mlen_bd (gyear n) mo
    rw [if_pos (by omega), w64 _ (by omega) (by omega), w64 (mo + 1) (by omega) (by omega)]
    have := ih k (mo + 1) (by omega) (by omega) (by omega)
    rw [s] at this
    rw [show n - ystart (gyear n) - cum (gyear n) mo - mlen (gyear n) mo = n - ystart (gyear n) - (cum (gyear n) mo + mlen (gyear n) mo) by omega]
    exact this
theorem date_l0 (n : Int) (h0 : -4000000 ≤ n) (h1 : n ≤ 4000000) (m : Nat) : ∀ (k : Nat) (y : Int), y + m = gyear n → -30000 ≤ y → m + 20 < k →
    spec_CronDateOf.l0 k n y = some (gyear n, gmonth n, gday n) := by
  have h := gdate n
  have hb := gyear_bd n h0 h1
  have hhi := h.hi
  have hlo := h.lo
  induction m with
  | zero =>
    intro k y hm hy hk
    obtain ⟨k, rfl⟩ : ∃ j, k = j + 1 := ⟨k - 1, by omega⟩
    obtain rfl : y = gyear n := by omega
    simp only [spec_CronDateOf.l0]
    rw [w64 (gyear n + 1) (by omega) (by omega), ystart_f _ (by omega) (by omega), ystart_f _ (by omega) (by omega)]
    simp only [Option.bind_some]
    have ey := ystart_succ (gyear n)
    have hl01 := leapI_01 (gyear n)
    rw [if_neg (by omega), w64 _ (by omega) (by omega)]
    have := date_l1 n h0 h1 (gmonth n - 1).toNat k 1 (by have := h.m1; omega) (by omega) (by have := h.m12; omega)
    rw [cum_one, show n - ystart (gyear n) - 0 = n - ystart (gyear n) by omega] at this
    exact this
  | succ m ih =>
    intro k y hm hy hk
    obtain ⟨k, rfl⟩ : ∃ j, k = j + 1 := ⟨k - 1, by omega⟩
    simp only [spec_CronDateOf.l0]
    rw [w64 (y + 1) (by omega) (by omega), ystart_f _ (by omega) (by omega)]
    simp only [Option.bind_some]
    have := ystart_le (show y + 1 ≤ gyear n by omega)
    rw [if_pos (by omega)]
    exact ih k (y + 1) (by omega) (by omega) (by omega)
theorem date_f (n : Int) (h0 : -4000000 ≤ n) (h1 : n ≤ 4000000) : ∃ k, spec_CronDateOf.f k n = some (gyear n, gmonth n, gday n) := by
  have h := gdate n
  have hb := gyear_bd n h0 h1
  have hhi := h.hi
  refine ⟨60000, ?_⟩
  unfold spec_CronDateOf.f
  rw [fdiv_gen _ 366 (by decide) (by omega) (by omega), fdiv_gen _ 365 (by decide) (by omega) (by omega)]
  simp only [Option.bind_some]
  rcases Int.lt_or_le n 0 with q | q
  · rw [if_pos q, w64 (1970 + n / 365) (by omega) (by omega), w64 _ (by omega) (by omega)]
    show spec_CronDateOf.l0 59999 n _ = _
    have a : 1970 + n / 365 - 1 ≤ gyear n := by
      unfold ystart at hhi
      omega
    exact date_l0 n h0 h1 (gyear n - (1970 + n / 365 - 1)).toNat _ _ (by omega) (by omega) (by omega)
  · rw [if_neg (by omega), w64 (1970 + n / 366) (by omega) (by omega)]
    show spec_CronDateOf.l0 59999 n _ = _
    have a : 1970 + n / 366 ≤ gyear n := by
      unfold ystart at hhi
      omega
    exact date_l0 n h0 h1 (gyear n - (1970 + n / 366)).toNat _ _ (by omega) (by omega) (by omega)
theorem tom_f (n : Int) (h0 : -4000000 ≤ n) (h1 : n ≤ 4000000) : spec_CronTomorrow.f (gyear n) (gmonth n) (gday n) = some (gyear (n + 1), gmonth (n + 1), gday (n + 1)) := by
  have h := gdate n
  have hb := gyear_bd n h0 h1
  have hml := mlen_bd (gyear n) (gmonth n)
  have hd1 := h.d1
  have hdm := h.dm
  have hm1 := h.m1
  have hm12 := h.m12
  have e := h.eq
  have nx := next_of h
  unfold spec_CronTomorrow.f
  rw [mdays_f]
  simp only [Option.bind_some]
  by_cases c : gday n < mlen (gyear n) (gmonth n)
  · rw [if_pos c, w64 _ (by omega) (by omega)]
    have : IsDate (n + 1) (gyear n) (gmonth n) (gday n + 1) := ⟨by have := h.lo; omega, hm1, hm12, by omega, by omega, by omega⟩
    obtain ⟨a, b, d⟩ := this.toG
    rw [a, b, d]
  · rw [if_neg c]
    have en : n - gday n + 1 + mlen (gyear n) (gmonth n) = n + 1 := by omega
    rw [en] at nx
    by_cases l : gmonth n < 12
    · rw [if_pos l, w64 _ (by omega) (by omega)]
      obtain ⟨a, b, d⟩ := (nx.1 l).toG
      rw [a, b, d]
    · rw [if_neg l, w64 _ (by omega) (by omega)]
      obtain ⟨a, b, d⟩ := (nx.2 (by omega)).toG
      rw [a, b, d]
theorem wday_f (n : Int) (h0 : -4000000 ≤ n) (h1 : n ≤ 4000000) : spec_CronWeekday.f n = some ((n + 4) % 7) := by
  unfold spec_CronWeekday.f
  rw [w64 _ (by omega) (by omega), fmod_gen _ 7 (by decide) (by decide) (by omega) (by omega)]
  rfl
end Go.Proofs.Ytjmgebhjkbcpcaa.NM
set_option linter.unusedVariables false
set_option linter.unusedSimpArgs false
namespace Go.Proofs.Ytjmgebhjkbcpcaa.NM
open Cal CronPl Go.RowKit Go.Proofs.YtjmgebhjkbcpcaaW.PrintWords Go.Proofs.Ytjmgebhjkbcpcaa.PFnCronNextMany
theorem drop_getD (l : List Int) (i : Nat) (h : i < l.length) : l.drop i = l.getD i 0 :: l.drop (i + 1) := by
  rw [List.getD_eq_getElem?_getD, List.getElem?_eq_getElem h, Option.getD_some]
  exact List.drop_eq_getElem_cons h
theorem off_l0 (os : List Int) (ds : List Bool) (ws ix : List Int) (hg : Zone.Good ⟨ws, ix, os⟩) (s : Int) (m : Nat) : ∀ (k i : Nat) (acc : Int), i + m = ws.length → m < k →
    spec_CronOffset.l0 k s acc ws ws.length i os ds ws ix = some (offFrom os s (ws.drop i) (ix.drop i) acc) := by
  have hn1 := hg.n1
  have hli := hg.li
  simp only at hn1 hli
  induction m with
  | zero =>
    intro k i acc hm hk
    obtain ⟨k, rfl⟩ : ∃ j, k = j + 1 := ⟨k - 1, by omega⟩
    simp only [spec_CronOffset.l0]
    rw [if_neg (by omega), List.drop_eq_nil_of_le (by omega)]
    rfl
  | succ m ih =>
    intro k i acc hm hk
    obtain ⟨k, rfl⟩ : ∃ j, k = j + 1 := ⟨k - 1, by omega⟩
    simp only [spec_CronOffset.l0]
    have hix := hg.idx i (by simp only; omega)
    simp only at hix
    rw [if_pos (by omega), if_pos (by omega), if_pos (by omega), rdn ws i, rdn ix i, w64 _ (by omega) (by omega), drop_getD ws i (by omega), drop_getD ix i (by omega), offFrom_cons]
    have e : ((i : Int) + 1) = ((i + 1 : Nat) : Int) := by omega
    by_cases c : ws.getD i 0 ≤ s
    · rw [if_pos c, if_pos (by omega), if_pos hix.1, if_pos hix.2, if_pos c, e]
      have := ih k (i + 1) (os.getD (ix.getD i 0).toNat 0) (by omega) (by omega)
      exact this
    · rw [if_neg c, if_neg c, e]
      exact ih k (i + 1) acc (by omega) (by omega)
theorem off_first (os : List Int) (s : Int) : ∀ (ws ix : List Int), 0 < ws.length → 0 < ix.length → ws.getD 0 0 ≤ s → ∀ acc, offFrom os s ws ix acc = offFrom os s (ws.drop 1) (ix.drop 1) (os.getD (ix.getD 0 0).toNat 0)
  | [], _, h, _, _, _ => by simp at h
  | _ :: _, [], _, h, _, _ => by simp at h
  | w :: ws, k :: ks, _, _, h, acc => by
    rw [offFrom_cons, if_pos (by simpa using h)]
    rfl
/-- the zone's clock, as 'zoneOf' has it -/
abbrev zO (os ws ix : List Int) : Option Zone := if os.length = 0 then none else some ⟨ws, ix, os⟩
theorem off_f (os : List Int) (ds : List Bool) (ws ix : List Int) (ho : ZOk os ds ws ix) (s : Int) (hs : -9223372036854775808 ≤ s) : ∃ k, spec_CronOffset.f k os ds ws ix s = some (offO (zO os ws ix) s) := by
  rcases ho with ⟨e0, e1, e2, e3⟩ | ⟨e1, e3, hg⟩
  · refine ⟨1, ?_⟩
    unfold spec_CronOffset.f zO
    rw [if_pos e0]
    simp only [spec_CronOffset.l0]
    rw [if_neg (by omega)]
    rfl
  · refine ⟨ws.length + 1, ?_⟩
    have hk := hg.k0
    have hn := hg.n0
    have hf := hg.first
    simp only at hk hn hf
    unfold spec_CronOffset.f zO
    rw [if_neg (by omega)]
    have := off_l0 os ds ws ix hg s ws.length (ws.length + 1) 0 0 (by omega) (by omega)
    rw [show ((0 : Nat) : Int) = 0 by rfl] at this
    rw [this]
    simp only [List.drop_zero]
    show _ = some (Zone.off _ s)
    unfold Zone.off
    simp only
    rw [off_first os s ws ix hn (by have := hg.li; simp only at this; omega) (by omega) 0, off_first os s ws ix hn (by have := hg.li; simp only at this; omega) (by omega) (os.getD (ix.getD 0 0).toNat 0)]
/-- what CronChange answers -/
def ChgOk (ws : List Int) (s : Int) (r : Int × Bool) : Prop :=
  (r.2 = true → ∃ j, j < ws.length ∧ ws.getD j 0 = r.1 ∧ s < r.1 ∧ ∀ i, i < j → ws.getD i 0 ≤ s) ∧ (r.2 = false → ∀ i, i < ws.length → ws.getD i 0 ≤ s)
theorem chg_l0 (ws : List Int) (s : Int) (hb : ws.length ≤ 4096) (m : Nat) : ∀ (k i : Nat), i + m = ws.length → m < k → (∀ j, j < i → ws.getD j 0 ≤ s) →
    ∃ r, spec_CronChange.l0 k s ws ws.length i = some r ∧ ChgOk ws s r := by
  induction m with
  | zero =>
    intro k i hm hk hall
    obtain ⟨k, rfl⟩ : ∃ j, k = j + 1 := ⟨k - 1, by omega⟩
    simp only [spec_CronChange.l0]
    rw [if_neg (by omega)]
    exact ⟨_, rfl, fun h => by simp at h, fun _ j hj => hall j (by omega)⟩
  | succ m ih =>
    intro k i hm hk hall
    obtain ⟨k, rfl⟩ : ∃ j, k = j + 1 := ⟨k - 1, by omega⟩
    simp only [spec_CronChange.l0]
    rw [if_pos (by omega), if_pos (by omega), if_pos (by omega), rdn ws i, w64 _ (by omega) (by omega)]
    by_cases c : ws.getD i 0 > s
    · rw [if_pos c]
      exact ⟨_, rfl, fun _ => ⟨i, by omega, rfl, c, hall⟩, fun h => by simp at h⟩
    · rw [if_neg c, show ((i : Int) + 1) = ((i + 1 : Nat) : Int) by omega]
      exact ih k (i + 1) (by omega) (by omega) fun j hj => by
        rcases Nat.lt_or_ge j i with q | q
        · exact hall j q
        · obtain rfl : j = i := by omega
          omega
theorem chg_f (os : List Int) (ds : List Bool) (ws ix : List Int) (ho : ZOk os ds ws ix) (s : Int) : ∃ k r, spec_CronChange.f k os ds ws ix s = some r ∧ ChgOk ws s r := by
  have hb : ws.length ≤ 4096 := by
    rcases ho with ⟨_, _, e, _⟩ | ⟨_, _, hg⟩
    · omega
    · exact hg.n1
  obtain ⟨r, h, hr⟩ := chg_l0 ws s hb ws.length (ws.length + 1) 0 (by omega) (by omega) (fun j hj => by omega)
  exact ⟨_, r, h, hr⟩
/-- no change: the offset stays -/
theorem off_stays {os : List Int} {ds : List Bool} {ws ix : List Int} (ho : ZOk os ds ws ix) {s v : Int} {r : Int × Bool} (hr : ChgOk ws s r) (hs : -9223372036854775808 ≤ s) (h0 : s ≤ v) (h1 : r.2 = true → v < r.1) :
    offO (zO os ws ix) v = offO (zO os ws ix) s := by
  unfold zO
  rcases ho with ⟨e0, e1, e2, e3⟩ | ⟨e1, e3, hg⟩
  · rw [if_pos e0]; rfl
  · have hk := hg.k0
    have hn := hg.n0
    have hf := hg.first
    simp only at hk hn hf
    rw [if_neg (by omega)]
    show Zone.off _ v = Zone.off _ s
    obtain ⟨rw1, r2⟩ := r
    cases r2 with
    | true =>
      obtain ⟨j, hj, hj1, hj2, hj3⟩ := hr.1 rfl
      have hv := h1 rfl
      simp only at hj1 hj2 hv
      have hj0 : 0 < j := by
        rcases Nat.eq_zero_or_pos j with rfl | h
        · omega
        · exact h
      have a := hj3 (j - 1) (by omega)
      have ej : j - 1 + 1 = j := by omega
      rw [Zone.off_at' hg v (j - 1) (by simp only; omega) (.inr (by simp only; omega)) (fun _ => by rw [ej]; simp only; omega),
        Zone.off_at' hg s (j - 1) (by simp only; omega) (.inr (by simp only; omega)) (fun _ => by rw [ej]; simp only; omega)]
    | false =>
      have hall := hr.2 rfl
      have a := hall (ws.length - 1) (by omega)
      rw [Zone.off_at' hg v (ws.length - 1) (by simp only; omega) (.inr (by simp only; omega)) (fun h => by simp only at h; omega),
        Zone.off_at' hg s (ws.length - 1) (by simp only; omega) (.inr (by simp only; omega)) (fun h => by simp only at h; omega)]
end Go.Proofs.Ytjmgebhjkbcpcaa.NM
set_option linter.unusedVariables false
set_option linter.unusedSimpArgs false
namespace Go.Proofs.Ytjmgebhjkbcpcaa.NM
open Go.RowKit Cal CronPl Go.Proofs.YtjmgebhjkbcpcaaW.PrintWords
theorem info88 : (Try.prog.info? 88).map (fun i => (i.zero, i.size, i.bytes)) = some (some (.agg #[.string ⟨#[]⟩, .int .i64 0, .bool false]), 3, 32) := by kernel_rfl
theorem info90 : (Try.prog.info? 90).map (fun i => (i.zero, i.size, i.bytes)) = some (some (.agg #[.int .i64 0, .int .u8 0, .bool false, .bool false]), 4, 16) := by kernel_rfl
theorem und82 : Try.prog.underlying 82 = some (.slice 88) := by kernel_rfl
theorem und83 : Try.prog.underlying 83 = some (.slice 90) := by kernel_rfl
theorem und27 : Try.prog.underlying 27 = some (.slice 3) := by kernel_rfl
def zrow (os : List Int) (ds : List Bool) : Nat → List Value
  | 0 => []
  | i + 1 => zrow os ds i ++ [.string ⟨#[122, 111, 110, 101]⟩, .int .i64 (os.getD i 0), .bool (ds.getD i false)]
def trow (ws ix : List Int) : Nat → List Value
  | 0 => []
  | i + 1 => trow ws ix i ++ [.int .i64 (ws.getD i 0), .int .u8 (ix.getD i 0), .bool false, .bool false]
theorem int_at {w : World} {A : Option Addr} {l : List Int} (h : Kd.C (Kd.int .i64) w A l.length l) (i : Nat) (hi : i < l.length) : ∃ ad, A = some ad ∧ w.cell? (ad.add i) = some (.int .i64 (l.getD i 0)) := by
  obtain ⟨ad, c, e, hl, hR, hc⟩ := ReadsRow.get_ h 0 (i : Int) (by omega) (by omega)
  have hR : c = [.int .i64 (l.getD (i : Int).toNat 0)] := hR
  refine ⟨ad, e, ?_⟩
  have := hc 0 (.int .i64 (l.getD (i : Int).toNat 0)) (by rw [hR]; rfl)
  simpa [Kd.int, Kd.scalar] using this
theorem bool_at {w : World} {A : Option Addr} {l : List Bool} (h : Kd.C Kd.bool w A l.length l) (i : Nat) (hi : i < l.length) : ∃ ad, A = some ad ∧ w.cell? (ad.add i) = some (.bool (l.getD i false)) := by
  obtain ⟨ad, c, e, hl, hR, hc⟩ := ReadsRow.get_ h false (i : Int) (by omega) (by omega)
  have hR : c = [.bool (l.getD (i : Int).toNat false)] := hR
  refine ⟨ad, e, ?_⟩
  have := hc 0 (.bool (l.getD (i : Int).toNat false)) (by rw [hR]; rfl)
  simpa [Kd.bool, Kd.scalar] using this
abbrev locRow (v u : Value) : Obj := .cells #[.bool false, .string ⟨#[122, 111, 110, 101]⟩, v, u, .string ⟨#[]⟩, .int .i64 0, .int .i64 0, .pointer none] 86 (0, 0)
theorem own_ge {w : World} {base : Nat} {e : TypeId} {size n : Nat} {v : Value} {xs : List Value} (h : w.ownsRow base e size v n xs) (k : Nat) (hk : k < base) : some k ≠ v.ownBlock := by
  rcases h.2 with ⟨rfl, _⟩ | ⟨g, cap, cur, rfl, hb, _⟩
  · simp [Value.ownBlock]
  · simp only [Value.ownBlock]; intro h; injection h with h; omega
theorem loc_cell {w : World} {b : Nat} {v u : Value} (h : w.heap[b]? = some (locRow v u)) : w.cell? ⟨b, 2, none⟩ = some v ∧ w.cell? ⟨b, 3, none⟩ = some u ∧ (∀ o, w.frozen? ⟨b, o, none⟩ = false) ∧ b < w.heap.size := by
  refine ⟨?_, ?_, fun o => ?_, (Array.getElem?_eq_some_iff.1 h).1⟩
  · rw [cell_of_row w b 2 _ _ _ h]; rfl
  · rw [cell_of_row w b 3 _ _ _ h]; rfl
  · unfold World.frozen?; simp [h]
theorem own_type {w : World} {base base' : Nat} {e e' : TypeId} {size size' n n' : Nat} {v u : Value} {xs ys : List Value} (h : w.ownsRow base e size v n xs) (h' : w.ownsRow base' e' size' u n' ys) (hne : e ≠ e') (k : Nat) (hk : v.ownBlock = some k) : some k ≠ u.ownBlock := by
  intro hu
  rcases h.2 with ⟨rfl, _⟩ | ⟨g, cap, cur, rfl, _, hg, _⟩
  · simp [Value.ownBlock] at hk
  · rcases h'.2 with ⟨rfl, _⟩ | ⟨g', cap', cur', rfl, _, hg', _⟩
    · simp [Value.ownBlock] at hu
    · simp only [Value.ownBlock, Option.some.injEq] at hk hu
      subst hk
      subst hu
      rw [hg] at hg'
      simp at hg'
      exact hne hg'.2
theorem u8wrap_small (n : Int) (h0 : 0 ≤ n) (h1 : n < 256) : IntKind.u8.wrap n = n := by
  simp only [IntKind.wrap, IntKind.bits, IntKind.signed]
  simp; omega
attribute [local go_sem ↓] Go.wp_at_zero Go.wp_at_succ
set_option maxHeartbeats 4000000 in
set_option maxRecDepth 100000 in
theorem tZone (A0 A1 A2 A3 : Option Addr) (c0 c1 c2 c3 : Nat) (os : List Int) (ds : List Bool) (ws ix : List Int) (w : World)
    (h0 : Kd.C (Kd.int .i64) w A0 os.length os) (h1 : Kd.C Kd.bool w A1 ds.length ds) (h2 : Kd.C (Kd.int .i64) w A2 ws.length ws) (h3 : Kd.C (Kd.int .i64) w A3 ix.length ix)
    (l1 : ds.length = os.length) (l3 : ix.length = ws.length) (s0 : os.length ≤ 64) (s1 : ws.length ≤ 4096) (hix : ∀ i, i < ws.length → 0 ≤ ix.getD i 0 ∧ ix.getD i 0 < 256) :
    Calls Try.prog 22 #[.slice A0 os.length c0, .slice A1 os.length c1, .slice A2 ws.length c2, .slice A3 ws.length c3] w
      fun e w' => ∃ v u, e = .returned (.pointer (some ⟨w.heap.size, 0, none⟩)) ∧ w'.heap[w.heap.size]? = some (locRow v u) ∧ w'.ownsRow (w.heap.size + 1) 88 3 v os.length (zrow os ds os.length) ∧ w'.ownsRow (w.heap.size + 1) 90 4 u ws.length (trow ws ix ws.length) ∧ Below w.heap.size w w' := by
  have H0 := Lib.hid h0
  have H1 := Lib.hid h1
  have H2 := Lib.hid h2
  have H3 := Lib.hid h3
  have HX := Lib.hid hix
  have HL1 := Lib.hid l1
  have HL3 := Lib.hid l3
  clear h0 h1 h2 h3 hix l1 l3
  go_enter Try.func22, Try.ntmps22
  go_wp2_with fail
  go_loopg [18] os.length (fun kq v18 wr => ∃ i : Nat, v18 = .int .i64 i ∧ Aside0 (i + kq = os.length) ∧ ∃ v, Aside0 (wr.ownsRow (w.heap.size + 1) 88 3 v i (zrow os ds i)) ∧ Aside0 (wr.heap[w.heap.size]? = some (locRow v (.slice none 0 0))) ∧ Aside0 (Below w.heap.size w wr))
  case atStart => exact ⟨0, rfl, ⟨by omega⟩, .slice none 0 0, ⟨⟨rfl, .inl ⟨rfl, rfl⟩⟩⟩, ⟨heap_alloc_new w _⟩, ⟨bA (Below.refl _ _) _⟩⟩
  case round =>
    obtain ⟨i, rfl, HK, v, HO, HB, HW⟩ := hrel
    by_cases c : i < os.length
    · have ct : decide ((i : Int) < (os.length : Int)) = true := by simp; omega
      obtain ⟨ad0, rfl, hx0⟩ := int_at (Kd.C_below H0.out HW.out) i c
      obtain ⟨ad1, rfl, hx1⟩ := bool_at (Kd.C_below H1.out HW.out) i (by rw [HL1.out]; omega)
      obtain ⟨oi, hoi⟩ : ∃ oi, os.getD i 0 = oi := ⟨_, rfl⟩
      obtain ⟨di, hdi⟩ : ∃ di, ds.getD i false = di := ⟨_, rfl⟩
      rw [hoi] at hx0
      rw [hdi] at hx1
      have HZ : Hid (zrow os ds (i + 1) = zrow os ds i ++ [.string ⟨#[122, 111, 110, 101]⟩, .int .i64 oi, .bool di]) := by rw [← hoi, ← hdi]; exact rfl
      clear hoi hdi
      have hi0 : (0 : Int) ≤ (i : Int) := Int.natCast_nonneg _
      have hi1 : (i : Int) < (os.length : Int) := by omega
      go_wp2_with fail
      obtain ⟨q2, q3, qf, ql⟩ := loc_cell HB.out
      have f2 := qf 2
      have QF := Lib.hid qf
      clear qf
      obtain ⟨i0, hi0', hz0, hz1, hz2⟩ := info_parts info88
      go_region_law
        ((refine step_append_lies _ (by rfl) _ _ _ (by rfl) (w.heap.size + 1) 88 i0 _ 3 32 und82 hi0' hz0 hz1 hz2 rfl (by omega) v i (zrow os ds i) (by rfl) ((HO.out.drew).alloc _) ⟨wr.heap.size, 0, none⟩ 1 1 [.string ⟨#[122, 111, 110, 101]⟩, .int .i64 oi, .bool di] (by rfl) (by rfl) (World.news_of_block (cs := #[.string ⟨#[122, 111, 110, 101]⟩, .int .i64 oi, .bool di]) (t := 88) (fr := (0, 0)) (heap_alloc_new _ _)) (by simp [Value.oneCell']) (by omega) (by unfold maxLen; omega) (by omega) (by simp; omega) (wr.heap.size + 1) (by simp) ?_; intro gg cap w1 hown1 hgrow hat hlt; have r2 : w1.cell? ⟨w.heap.size, 2, none⟩ = some v := (hgrow.cell_far ⟨w.heap.size, 2, none⟩ (by simp; omega) (own_ge HO.out _ (by simp))).trans (keep (bA (Below.refl _ _).drew _) q2); have rf : w1.frozen? ⟨w.heap.size, 2, none⟩ = false := (hgrow.frozen_far ⟨w.heap.size, 2, none⟩ (by simp; omega) (own_ge HO.out _ (by simp))).trans (((bA (Below.refl _ _).drew _).frozen (p := ⟨w.heap.size, 2, none⟩) ql).trans f2)))
      all_goals
        clear q2 q3 f2 ql
        go_wp2_with fail
        go_roundg (gk - 1)
        case measure => have := HK.out; omega
        case rel =>
          have hlw := HW.out.size
          have e1 : w1.heap[w.heap.size]? = some (locRow v (.slice none 0 0)) := (hgrow.block w.heap.size (by simp; omega) (own_ge HO.out _ (by simp))).trans (blk_alloc (blk_drew HB.out) _)
          refine ⟨i + 1, (by simp), ⟨by have := HK.out; omega⟩, _, ⟨?_⟩, ⟨blk_put e1 2 _ rfl⟩, ⟨below_set (pw_below_grown (bA HW.out.drew _) v.ownBlock (by simp; omega) hgrow (fun k hk => ?_)) (Nat.le_refl _)⟩⟩
          · rw [HZ.out]
            exact own_move hown1 fun k hk => Below.heap_setCell _ _ _ _ fun e => own_ge hown1 w.heap.size (by omega) (by rw [hk, e])
          · rcases Nat.lt_or_ge k w.heap.size with q | q
            · exact absurd hk.symm (own_ge HO.out k (by omega))
            · exact q
    · have ct : decide ((i : Int) < (os.length : Int)) = false := by simp; omega
      obtain rfl : i = os.length := by have := HK.out; omega
      clear c HK
      go_wp2_with fail
      go_loopg [41] ws.length (fun kq v41 wq => ∃ j : Nat, v41 = .int .i64 j ∧ Aside0 (j + kq = ws.length) ∧ ∃ u, Aside0 (wq.ownsRow (w.heap.size + 1) 88 3 v os.length (zrow os ds os.length)) ∧ Aside0 (wq.ownsRow (w.heap.size + 1) 90 4 u j (trow ws ix j)) ∧ Aside0 (wq.heap[w.heap.size]? = some (locRow v u)) ∧ Aside0 (Below w.heap.size w wq))
      case atStart => exact ⟨0, rfl, ⟨by omega⟩, .slice none 0 0, HO, ⟨⟨rfl, .inl ⟨rfl, rfl⟩⟩⟩, HB, HW⟩
      case round =>
        clear HO HB HW
        obtain ⟨j, rfl, HK, u, HV, HO, HB, HW⟩ := hrel
        by_cases c : j < ws.length
        · have ct2 : decide ((j : Int) < (ws.length : Int)) = true := by simp; omega
          obtain ⟨ad2, rfl, hx0⟩ := int_at (Kd.C_below H2.out HW.out) j c
          obtain ⟨ad3, rfl, hx1⟩ := int_at (Kd.C_below H3.out HW.out) j (by rw [HL3.out]; omega)
          have hx8 := HX.out j c
          obtain ⟨oi, hoi⟩ : ∃ oi, ws.getD j 0 = oi := ⟨_, rfl⟩
          obtain ⟨di, hdi⟩ : ∃ di, ix.getD j 0 = di := ⟨_, rfl⟩
          rw [hoi] at hx0
          rw [hdi] at hx1 hx8
          have HZ : Hid (trow ws ix (j + 1) = trow ws ix j ++ [.int .i64 oi, .int .u8 di, .bool false, .bool false]) := by rw [← hoi, ← hdi]; exact rfl
          clear hoi hdi
          have hw8 : IntKind.u8.wrap di = di := u8wrap_small _ hx8.1 hx8.2
          have hi0 : (0 : Int) ≤ (j : Int) := Int.natCast_nonneg _
          have hi1 : (j : Int) < (ws.length : Int) := by omega
          go_wp2_with fail
          obtain ⟨q2, q3, qf, ql⟩ := loc_cell HB.out
          have f3 := qf 3
          have QF := Lib.hid qf
          clear qf
          obtain ⟨i0, hi0', hz0, hz1, hz2⟩ := info_parts info90
          go_region_law
            ((refine step_append_lies _ (by rfl) _ _ _ (by rfl) (w.heap.size + 1) 90 i0 _ 4 16 und83 hi0' hz0 hz1 hz2 rfl (by omega) u j (trow ws ix j) (by rfl) ((HO.out.drew).alloc _) ⟨wr.heap.size, 0, none⟩ 1 1 [.int .i64 oi, .int .u8 di, .bool false, .bool false] (by rfl) (by rfl) (World.news_of_block (cs := #[.int .i64 oi, .int .u8 di, .bool false, .bool false]) (t := 90) (fr := (0, 0)) (heap_alloc_new _ _)) (by simp [Value.oneCell']) (by omega) (by unfold maxLen; omega) (by omega) (by simp; omega) (wr.heap.size + 1) (by simp) ?_; intro gg cap w1 hown1 hgrow hat hlt; have r3 : w1.cell? ⟨w.heap.size, 3, none⟩ = some u := (hgrow.cell_far ⟨w.heap.size, 3, none⟩ (by simp; omega) (own_ge HO.out _ (by simp))).trans (keep (bA (Below.refl _ _).drew _) q3); have rf : w1.frozen? ⟨w.heap.size, 3, none⟩ = false := (hgrow.frozen_far ⟨w.heap.size, 3, none⟩ (by simp; omega) (own_ge HO.out _ (by simp))).trans (((bA (Below.refl _ _).drew _).frozen (p := ⟨w.heap.size, 3, none⟩) ql).trans f3)))
          all_goals
            clear q2 q3 f3 ql
            go_wp2_with fail
            go_roundg (gk - 1)
            case measure => have := HK.out; omega
            case rel =>
              have hlw := HW.out.size
              have e1 : w1.heap[w.heap.size]? = some (locRow v u) := (hgrow.block w.heap.size (by simp; omega) (own_ge HO.out _ (by simp))).trans (blk_alloc (blk_drew HB.out) _)
              have hv1 : w1.ownsRow (w.heap.size + 1) 88 3 v os.length (zrow os ds os.length) := own_move ((HV.out.drew).alloc _) fun k hk => hgrow.block k (own_lt ((HV.out.drew).alloc _) k hk) (own_type HV.out HO.out (by decide) k hk)
              refine ⟨j + 1, (by simp), ⟨by have := HK.out; omega⟩, _, ⟨?_⟩, ⟨?_⟩, ⟨blk_put e1 3 _ rfl⟩, ⟨below_set (pw_below_grown (bA HW.out.drew _) u.ownBlock (by simp; omega) hgrow (fun k hk => ?_)) (Nat.le_refl _)⟩⟩
              · exact own_move hv1 fun k hk => Below.heap_setCell _ _ _ _ fun e => own_ge hv1 w.heap.size (by omega) (by rw [hk, e])
              · rw [HZ.out]
                exact own_move hown1 fun k hk => Below.heap_setCell _ _ _ _ fun e => own_ge hown1 w.heap.size (by omega) (by rw [hk, e])
              · rcases Nat.lt_or_ge k w.heap.size with q | q
                · exact absurd hk.symm (own_ge HO.out k (by omega))
                · exact q
        · have ct2 : decide ((j : Int) < (ws.length : Int)) = false := by simp; omega
          obtain rfl : j = ws.length := by have := HK.out; omega
          clear c HK
          go_wp2_with fail
          go_ret
          exact ⟨v, u, rfl, HB.out, HV.out, HO.out, HW.out⟩
end Go.Proofs.Ytjmgebhjkbcpcaa.NM
set_option linter.unusedVariables false
set_option linter.unusedSimpArgs false
namespace Go.Proofs.Ytjmgebhjkbcpcaa.NM
open Go.RowKit Cal CronPl Go.Proofs.YtjmgebhjkbcpcaaW.PrintWords
theorem zrow_len (os : List Int) (ds : List Bool) (i : Nat) : (zrow os ds i).length = 3 * i := by
  induction i with
  | zero => rfl
  | succ i ih => simp [zrow, ih]; omega
theorem trow_len (ws ix : List Int) (i : Nat) : (trow ws ix i).length = 4 * i := by
  induction i with
  | zero => rfl
  | succ i ih => simp [trow, ih]; omega
theorem zrow_at (os : List Int) (ds : List Bool) (i j : Nat) (h : j < i) : (zrow os ds i)[3 * j]? = some (.string ⟨#[122, 111, 110, 101]⟩) ∧ (zrow os ds i)[3 * j + 1]? = some (.int .i64 (os.getD j 0)) ∧ (zrow os ds i)[3 * j + 2]? = some (.bool (ds.getD j false)) := by
  induction i with
  | zero => omega
  | succ i ih =>
    unfold zrow
    rcases Nat.lt_or_ge j i with q | q
    · have := ih q
      rw [List.getElem?_append_left (by rw [zrow_len]; omega), List.getElem?_append_left (by rw [zrow_len]; omega), List.getElem?_append_left (by rw [zrow_len]; omega)]
      exact this
    · obtain rfl : j = i := by omega
      rw [List.getElem?_append_right (by rw [zrow_len]; omega), List.getElem?_append_right (by rw [zrow_len]; omega), List.getElem?_append_right (by rw [zrow_len]; omega), zrow_len]
      rw [show 3 * j - 3 * j = 0 by omega, show 3 * j + 1 - 3 * j = 1 by omega, show 3 * j + 2 - 3 * j = 2 by omega]
      exact ⟨rfl, rfl, rfl⟩
theorem trow_at (ws ix : List Int) (i j : Nat) (h : j < i) : (trow ws ix i)[4 * j]? = some (.int .i64 (ws.getD j 0)) ∧ (trow ws ix i)[4 * j + 1]? = some (.int .u8 (ix.getD j 0)) := by
  induction i with
  | zero => omega
  | succ i ih =>
    unfold trow
    rcases Nat.lt_or_ge j i with q | q
    · have := ih q
      rw [List.getElem?_append_left (by rw [trow_len]; omega), List.getElem?_append_left (by rw [trow_len]; omega)]
      exact this
    · obtain rfl : j = i := by omega
      rw [List.getElem?_append_right (by rw [trow_len]; omega), List.getElem?_append_right (by rw [trow_len]; omega), trow_len]
      rw [show 4 * j - 4 * j = 0 by omega, show 4 * j + 1 - 4 * j = 1 by omega]
      exact ⟨rfl, rfl⟩
theorem own_cells {w : World} {base : Nat} {e : TypeId} {size n : Nat} {v : Value} {xs : List Value} (h : w.ownsRow base e size v n xs) (hn : 0 < n) :
    ∃ g cap, v = .slice (some ⟨g, 0, none⟩) n cap ∧ ∀ j u, xs[j]? = some u → w.cell? ⟨g, j, none⟩ = some u := by
  rcases h.2 with ⟨_, h0⟩ | ⟨g, cap, cur, rfl, hb, hg, h1, h2, h3, h4⟩
  · omega
  · refine ⟨g, cap, rfl, fun j u hu => ?_⟩
    rw [cell_of_row w g j _ _ _ hg]
    have hj : j < n * size := by rw [← h.1]; exact (List.getElem?_eq_some_iff.1 hu).1
    rw [← h4, List.getElem?_take, if_pos hj] at hu
    simpa using hu
theorem loc_zone {w : World} {b : Nat} {v u : Value} {os : List Int} {ds : List Bool} {ws ix : List Int} (hb : w.heap[b]? = some (locRow v u)) {base base' : Nat}
    (hv : w.ownsRow base 88 3 v os.length (zrow os ds os.length)) (hu : w.ownsRow base' 90 4 u ws.length (trow ws ix ws.length)) (h0 : 0 < os.length) (h1 : 0 < ws.length) : ∃ g1 g2 k1 k2, ZoneAt w b ⟨ws, ix, os⟩ g1 g2 k1 k2 := by
  obtain ⟨g1, k1, rfl, hg1⟩ := own_cells hv h0
  obtain ⟨g2, k2, rfl, hg2⟩ := own_cells hu h1
  refine ⟨g1, g2, k1, k2, ?_, ?_, ?_, ?_, fun i hi => ?_, fun i hi => ?_⟩
  · rw [cell_of_row w b 0 _ _ _ hb]; rfl
  · rw [cell_of_row w b 2 _ _ _ hb]; rfl
  · rw [cell_of_row w b 3 _ _ _ hb]; rfl
  · rw [cell_of_row w b 7 _ _ _ hb]; rfl
  · obtain ⟨a0, a1, a2⟩ := zrow_at os ds os.length i hi
    rw [Nat.mul_comm]
    exact ⟨hg1 _ _ a0, hg1 _ _ a1, _, hg1 _ _ a2⟩
  · obtain ⟨a0, a1⟩ := trow_at ws ix ws.length i hi
    rw [Nat.mul_comm]
    exact ⟨hg2 _ _ a0, hg2 _ _ a1⟩
/-- a Zone that comes in -/
structure ZIn (w : World) (A0 A1 A2 A3 : Option Addr) (os : List Int) (ds : List Bool) (ws ix : List Int) : Prop where
  h0 : Kd.C (Kd.int .i64) w A0 os.length os
  h1 : Kd.C Kd.bool w A1 ds.length ds
  h2 : Kd.C (Kd.int .i64) w A2 ws.length ws
  h3 : Kd.C (Kd.int .i64) w A3 ix.length ix
theorem ZIn.below {w W : World} {A0 A1 A2 A3 : Option Addr} {os : List Int} {ds : List Bool} {ws ix : List Int} (h : ZIn w A0 A1 A2 A3 os ds ws ix) (hb : Below w.heap.size w W) : ZIn W A0 A1 A2 A3 os ds ws ix :=
  ⟨Kd.C_below h.h0 hb, Kd.C_below h.h1 hb, Kd.C_below h.h2 hb, Kd.C_below h.h3 hb⟩
/-- the zone that is meant; what GoodZone says of it -/
def zoneOf (os ws ix : List Int) : Option Zone := if os.length = 0 then none else some ⟨ws, ix, os⟩
abbrev zoneV (A0 A1 A2 A3 : Option Addr) (c0 c1 c2 c3 : Nat) (os : List Int) (ds : List Bool) (ws ix : List Int) : Value := .agg #[.slice A0 os.length c0, .slice A1 ds.length c1, .slice A2 ws.length c2, .slice A3 ix.length c3]
set_option maxHeartbeats 1000000 in
theorem tLocation (A0 A1 A2 A3 : Option Addr) (c0 c1 c2 c3 : Nat) (os : List Int) (ds : List Bool) (ws ix : List Int) (w : World) (hz : ZIn w A0 A1 A2 A3 os ds ws ix) (ho : ZOk os ds ws ix) :
    Calls Try.prog 15 #[zoneV A0 A1 A2 A3 c0 c1 c2 c3 os ds ws ix] w fun e w' => ∃ b, e = .returned (.pointer (some ⟨b, 0, none⟩)) ∧ LocP w' b (zoneOf os ws ix) ∧ Below w.heap.size w w' := by
  rcases ho with ⟨e0, e1, e2, e3⟩ | ⟨e1, e3, hg⟩
  · unfold zoneV
    have ez : zoneOf os ws ix = none := by unfold zoneOf; rw [if_pos e0]
    rw [e0, e1, e2, e3, ez]
    clear hz ez
    go_enter Try.func15, Try.ntmps15
    go_wp2_with (go_at_call 21; refine (tUTC _).mono ?_; rintro e w1 ⟨rfl, rfl⟩)
    go_ret
    exact ⟨_, rfl, ⟨by simp [go_sem], by simp [go_sem]⟩, bA (bA (Below.refl _ _) _) _⟩
  · have g0 := hg.n0
    have g1 := hg.n1
    have g2 := hg.k0
    have g3 := hg.k1
    simp only at g0 g1 g2 g3
    have ez : zoneOf os ws ix = some ⟨ws, ix, os⟩ := by unfold zoneOf; rw [if_neg (by omega)]
    unfold zoneV
    rw [ez, e1, e3]
    have HZ := Lib.hid hz
    have HG := Lib.hid hg
    have E1 := Lib.hid e1
    have E3 := Lib.hid e3
    have ct : ((os.length : Int) == 0) = false := by simp; intro h; rw [h] at g2; simp at g2
    clear hz hg ez e1 e3
    go_enter Try.func15, Try.ntmps15
    go_wp2_with (go_at_call 22; refine (tZone A0 A1 A2 A3 c0 c1 c2 c3 os ds ws ix _ (HZ.out.below (bA (Below.refl _ _) _)).h0 (HZ.out.below (bA (Below.refl _ _) _)).h1 (HZ.out.below (bA (Below.refl _ _) _)).h2 (HZ.out.below (bA (Below.refl _ _) _)).h3 E1.out E3.out g3 g1 (fun i hi => by have := HG.out.idx i hi; have := HG.out.k1; simp only at *; omega)).mono ?_; rintro e w1 ⟨v, u, rfl, hb, hv, hu, hbw⟩)
    go_ret
    obtain ⟨g1', g2', k1', k2', hza⟩ := loc_zone hb hv hu g2 g0
    exact ⟨_, rfl, ⟨HG.out, g1', g2', k1', k2', (by simpa using hza)⟩, (bA (Below.refl _ _) _).trans (hbw.mono (by simp))⟩
end Go.Proofs.Ytjmgebhjkbcpcaa.NM
