/- the day loop of SpecSchedule.Next. -/
import Derived.Test.YtjmgebhjkbcpcaaNC
import Derived.Deep.CutRange
set_option linter.unusedVariables false
set_option linter.unusedSimpArgs false
set_option maxRecDepth 100000
namespace Go.Proofs.Ytjmgebhjkbcpcaa.NM
open Go.RowKit Cal CronPl
section
variable (w : World) (bs bO bL : Nat) (ar : Value) (L : Option Addr) (z : Option Zone) (S : Sets) (x0 Y : Int) (P : Plain (lo z) (fun T => reso z T + 62135596800)) (hr : Rng x0 Y) (top : Nat)
set_option maxHeartbeats 4000000 in
include P hr in
theorem day_round (n : Nat) (a' : Act) (wx : World) (hI : IL w bs bO bL ar L z S x0 Y top 1 n a' wx) :
    Code.wp Try.prog (body70 2) (Exit.then (fun a' w' => ∃ m, m < n ∧ IL w bs bO bL ar L z S x0 Y top 1 m a' w')
      (QM 2 (fun a' wx => ∃ n, IL w bs bO bL ar L z S x0 Y top 2 n a' wx) (fun a' wx => ∃ m, m < top ∧ JW w bs bO bL ar L z S x0 Y m a' wx))) a' wx := by
  obtain ⟨x, a, hh, hmu, hn, hlev⟩ := hI
  have hrg := hh.rng hr
  obtain ⟨⟨U, rfl⟩, hns, hiv⟩ := hh
  have t0 := hns.t0
  have t1 := hns.t1
  have t2 := hns.t2
  have HN := Lib.hid hns
  have HI := Lib.hid hiv
  have HL := Lib.hid hlev
  have HM := Lib.hid hmu
  have HP := Lib.hid P
  have hn0 : Nan 0 := ⟨by decide, by decide⟩
  clear hns hiv hlev hmu P
  have HN1 := HN
  have q0 := HN1.out.t0
  have q1 := HN1.out.t1
  have q2 := HN1.out.t2
  have f0 := HN1.out.fr 0
  have f1 := HN1.out.fr 1
  have f2 := HN1.out.fr 2
  clear t0 t1 t2
  conv => arg 2; whnf
  unfold fr70
  cases hh : dayHit S (lo z x / 86400) with
  | true =>
    have HH := Lib.hid hh
    clear hh
    go_wp2_with (go_at_call 76; refine (tDayM x L z S bs _ HN1.out.tloc HN1.out.spec (by omega) (by omega)).mono ?_; rintro e w0 ⟨rfl, hb0⟩; rw [HH.out]; have HN2 := Lib.hid (HN1.out.call hb0); clear hb0 q0 q1 q2 f0 f1 f2; have q0 := HN2.out.t0; have q1 := HN2.out.t1; have q2 := HN2.out.t2; have f0 := HN2.out.fr 0; have f1 := HN2.out.fr 1; have f2 := HN2.out.fr 2)
    exact ⟨rfl, n, x, a, ⟨fr_ex, HN2.out, HI.out⟩, HM.out, hn, HL.out.1, fun _ => HL.out.2.1 (by omega), fun _ => HH.out, by omega, by omega, by omega⟩
  | false =>
    have HH := Lib.hid hh
    clear hh
    cases a with
    | true =>
      obtain ⟨x2, hx2⟩ : ∃ x2, reso z (lo z x + 86400 * 1) + 62135596800 = x2 := ⟨_, rfl⟩
      have hp := Inv.day HP.out HI.out HL.out.1 (HL.out.2.1 (by omega)) (fun h => by unfold dOK at h; rw [show (cxOf S x0 Y).da _ = false from HH.out] at h; simp at h) (x1 := x) (x2 := x2) rfl hx2.symm
      have hr2 := inv_rng HN.out.tl hp.1 hr
      have HZ : Hid (lo z x2 % 86400 / 3600 = 0) := by have := hp.2.2.2.2.2; show _ = _; omega
      have HPM := Lib.hid hp
      have HX2 := Lib.hid hx2
      clear hx2 hp
      cases hm1 : (gday (lo z x2 / 86400) == 1) with
      | true =>
        go_wp2_with (first
          | (go_at_call 76; refine (tDayM x L z S bs _ HN1.out.tloc HN1.out.spec (by omega) (by omega)).mono ?_; rintro e w0 ⟨rfl, hb0⟩; rw [HH.out]; have HN2 := Lib.hid (HN1.out.call hb0); clear hb0 q0 q1 q2 f0 f1 f2; have q0 := HN2.out.t0; have q1 := HN2.out.t1; have q2 := HN2.out.t2; have f0 := HN2.out.fr 0; have f1 := HN2.out.fr 1; have f2 := HN2.out.fr 2)
          | (go_at_call 75; refine (tAddDate x 1 0 1 L z _ HN2.out.tloc (by omega) (by omega) (by omega) (by omega) (.inl ⟨rfl, rfl, rfl⟩) (by omega) (by omega) (by omega) (by omega)).mono ?_; rintro e w1 ⟨rfl, hb1⟩; rw [HX2.out]; have HN3 := Lib.hid (HN2.out.call hb1); clear hb1 q0 q1 q2 f0 f1 f2; have q0 := HN3.out.t0; have q1 := HN3.out.t1; have q2 := HN3.out.t2; have f0 := HN3.out.fr 0; have f1 := HN3.out.fr 1; have f2 := HN3.out.fr 2)
          | (go_at_call 77; refine (tHour 0 x2 L z _ (HN3.out.store x2).tloc hn0 (by omega) (by omega)).mono ?_; rintro e w2 ⟨rfl, hb2⟩; rw [HZ.out]; have HN4 := Lib.hid ((HN3.out.store x2).call hb2); clear hb2 q0 q1 q2 f0 f1 f2; have q0 := HN4.out.t0; have q1 := HN4.out.t1; have q2 := HN4.out.t2)
          | (go_at_call 65; refine (tDay 0 x2 L z _ HN4.out.tloc hn0 (by omega) (by omega)).mono ?_; rintro e w3 ⟨rfl, hb3⟩; have HN5 := Lib.hid (HN4.out.call hb3); clear hb3 q0 q1 q2))
        go_step3
        exact ⟨rfl, _, Nat.lt_of_lt_of_le HPM.out.2.1 (by rw [HM.out]; exact hn), x2, true, ⟨fr_ex, HN5.out, HPM.out.1⟩, rfl⟩
      | false =>
        go_wp2_with (first
          | (go_at_call 76; refine (tDayM x L z S bs _ HN1.out.tloc HN1.out.spec (by omega) (by omega)).mono ?_; rintro e w0 ⟨rfl, hb0⟩; rw [HH.out]; have HN2 := Lib.hid (HN1.out.call hb0); clear hb0 q0 q1 q2 f0 f1 f2; have q0 := HN2.out.t0; have q1 := HN2.out.t1; have q2 := HN2.out.t2; have f0 := HN2.out.fr 0; have f1 := HN2.out.fr 1; have f2 := HN2.out.fr 2)
          | (go_at_call 75; refine (tAddDate x 1 0 1 L z _ HN2.out.tloc (by omega) (by omega) (by omega) (by omega) (.inl ⟨rfl, rfl, rfl⟩) (by omega) (by omega) (by omega) (by omega)).mono ?_; rintro e w1 ⟨rfl, hb1⟩; rw [HX2.out]; have HN3 := Lib.hid (HN2.out.call hb1); clear hb1 q0 q1 q2 f0 f1 f2; have q0 := HN3.out.t0; have q1 := HN3.out.t1; have q2 := HN3.out.t2; have f0 := HN3.out.fr 0; have f1 := HN3.out.fr 1; have f2 := HN3.out.fr 2)
          | (go_at_call 77; refine (tHour 0 x2 L z _ (HN3.out.store x2).tloc hn0 (by omega) (by omega)).mono ?_; rintro e w2 ⟨rfl, hb2⟩; rw [HZ.out]; have HN4 := Lib.hid ((HN3.out.store x2).call hb2); clear hb2 q0 q1 q2 f0 f1 f2; have q0 := HN4.out.t0; have q1 := HN4.out.t1; have q2 := HN4.out.t2)
          | (go_at_call 65; refine (tDay 0 x2 L z _ HN4.out.tloc hn0 (by omega) (by omega)).mono ?_; rintro e w3 ⟨rfl, hb3⟩; have HN5 := Lib.hid (HN4.out.call hb3); clear hb3 q0 q1 q2))
        exact ⟨_, (by rw [← HM.out]; exact HPM.out.2.1), x2, true, ⟨fr_ex, HN5.out, HPM.out.1⟩, rfl, Nat.le_trans (Nat.le_of_lt HPM.out.2.1) (by rw [HM.out]; exact hn), (HPM.out.2.2.1 (by simpa using hm1)).1, fun _ => (HPM.out.2.2.1 (by simpa using hm1)).2, by omega, by omega, by omega, by omega⟩
    | false =>
      obtain ⟨x1, hx1⟩ : ∃ x1, reso z (86400 * (lo z x / 86400)) + 62135596800 = x1 := ⟨_, rfl⟩
      have h1b := HP.out.lo x1
      have h1d := HP.out.lo x
      have h1c := HP.out.hi x1
      have hl1 : lo z x1 = 86400 * (lo z x / 86400) := by rw [← hx1]; exact HP.out.mid _
      have hx1a : -6000000 ≤ x1 ∧ x1 ≤ 840000000000 := by omega
      have hl1a : -62155000000 ≤ lo z x1 ∧ lo z x1 ≤ 770000000000 := by omega
      have HX1 : Hid (x1 = reso z (86400 * (lo z x / 86400)) + 62135596800) := hx1.symm
      clear h1b h1c h1d hl1 hx1
      go_upto_region 21 with (go_at_call 76; refine (tDayM x L z S bs _ HN1.out.tloc HN1.out.spec (by omega) (by omega)).mono ?_; rintro e w0 ⟨rfl, hb0⟩; rw [HH.out]; have HN2 := Lib.hid (HN1.out.call hb0); clear hb0 q0 q1 q2 f0 f1 f2; have q0 := HN2.out.t0; have q1 := HN2.out.t1; have q2 := HN2.out.t2; have f0 := HN2.out.fr 0; have f1 := HN2.out.fr 1; have f2 := HN2.out.fr 2)
      go_cut [7] from 73 to 103 (fun s7 wd => s7 = .bool true ∧ NS w wd L z bL bO bs S x1)
      case first =>
        have HN6 := HN2
        go_region_with (first
          | (go_at_call 72; refine (tYear 0 x L z _ HN6.out.drew.tloc hn0 (by omega) (by omega)).mono ?_; rintro e w2 ⟨rfl, hb2⟩; have HN7 := Lib.hid (HN6.out.drew.call hb2); have p0 := HN7.out.t0; have p1 := HN7.out.t1; have p2 := HN7.out.t2)
          | (go_at_call 73; refine (tMonth 0 x L z _ HN7.out.tloc hn0 (by omega) (by omega)).mono ?_; rintro e w3 ⟨rfl, hb3⟩; have HN3 := Lib.hid (HN7.out.call hb3); have o0 := HN3.out.t0; have o1 := HN3.out.t1; have o2 := HN3.out.t2)
          | (go_at_call 65; refine (tDay 0 x L z _ HN3.out.tloc hn0 (by omega) (by omega)).mono ?_; rintro e w5 ⟨rfl, hb5⟩; have HN5 := Lib.hid (HN3.out.call hb5))
          | (go_at_call 74; refine (dmk_day z (lo z x / 86400) bL _ (HN5.out.lL.p HN5.out.bel) (by omega) (by omega)).mono ?_; rintro e w4 ⟨rfl, hb4⟩; rw [HN5.out.cL, ← HX1.out]; have HN4 := Lib.hid (HN5.out.call hb4); have r0 := HN4.out.t0; have r1 := HN4.out.t1; have r2 := HN4.out.t2; have g0 := HN4.out.fr 0; have g1 := HN4.out.fr 1; have g2 := HN4.out.fr 2))
        all_goals (go_wp2_with fail; go_meet; exact ⟨rfl, HN4.out.store x1⟩)
      case rest =>
        obtain ⟨rfl, hns1⟩ := hcut
        clear q0 q1 q2 f0 f1 f2
        have HN0 := HN2
        clear HN1 HN2
        have HN2 := Lib.hid hns1
        clear hns1
        have q0 := HN2.out.t0
        have q1 := HN2.out.t1
        have q2 := HN2.out.t2
        have f0 := HN2.out.fr 0
        have f1 := HN2.out.fr 1
        have f2 := HN2.out.fr 2
        obtain ⟨x2, hx2⟩ : ∃ x2, reso z (lo z x1 + 86400 * 1) + 62135596800 = x2 := ⟨_, rfl⟩
        have hp := Inv.day HP.out HI.out HL.out.1 (HL.out.2.1 (by omega)) (fun h => by unfold dOK at h; rw [show (cxOf S x0 Y).da _ = false from HH.out] at h; simp at h) (x1 := x1) (x2 := x2) (by rw [HX1.out]; rfl) hx2.symm
        have hr2 := inv_rng HN.out.tl hp.1 hr
        have HZ : Hid (lo z x2 % 86400 / 3600 = 0) := by have := hp.2.2.2.2.2; show _ = _; omega
        have HPM := Lib.hid hp
        have HX2 := Lib.hid hx2
        clear hx2 hp
        cases hm1 : (gday (lo z x2 / 86400) == 1) with
        | true =>
          go_wp2_with (first
            | (go_at_call 75; refine (tAddDate x1 1 0 1 L z _ HN2.out.tloc (by omega) (by omega) (by omega) (by omega) (.inl ⟨rfl, rfl, rfl⟩) (by omega) (by omega) (by omega) (by omega)).mono ?_; rintro e w1 ⟨rfl, hb1⟩; rw [HX2.out]; have HN3 := Lib.hid (HN2.out.call hb1); clear hb1 q0 q1 q2 f0 f1 f2; have q0 := HN3.out.t0; have q1 := HN3.out.t1; have q2 := HN3.out.t2; have f0 := HN3.out.fr 0; have f1 := HN3.out.fr 1; have f2 := HN3.out.fr 2)
            | (go_at_call 77; refine (tHour 0 x2 L z _ (HN3.out.store x2).tloc hn0 (by omega) (by omega)).mono ?_; rintro e w2 ⟨rfl, hb2⟩; rw [HZ.out]; have HN4 := Lib.hid ((HN3.out.store x2).call hb2); clear hb2 q0 q1 q2 f0 f1 f2; have q0 := HN4.out.t0; have q1 := HN4.out.t1; have q2 := HN4.out.t2)
            | (go_at_call 65; refine (tDay 0 x2 L z _ HN4.out.tloc hn0 (by omega) (by omega)).mono ?_; rintro e w3 ⟨rfl, hb3⟩; have HN5 := Lib.hid (HN4.out.call hb3); clear hb3 q0 q1 q2))
          go_step3
          exact ⟨rfl, _, Nat.lt_of_lt_of_le HPM.out.2.1 (by rw [HM.out]; exact hn), x2, true, ⟨fr_ex, HN5.out, HPM.out.1⟩, rfl⟩
        | false =>
          go_wp2_with (first
            | (go_at_call 75; refine (tAddDate x1 1 0 1 L z _ HN2.out.tloc (by omega) (by omega) (by omega) (by omega) (.inl ⟨rfl, rfl, rfl⟩) (by omega) (by omega) (by omega) (by omega)).mono ?_; rintro e w1 ⟨rfl, hb1⟩; rw [HX2.out]; have HN3 := Lib.hid (HN2.out.call hb1); clear hb1 q0 q1 q2 f0 f1 f2; have q0 := HN3.out.t0; have q1 := HN3.out.t1; have q2 := HN3.out.t2; have f0 := HN3.out.fr 0; have f1 := HN3.out.fr 1; have f2 := HN3.out.fr 2)
            | (go_at_call 77; refine (tHour 0 x2 L z _ (HN3.out.store x2).tloc hn0 (by omega) (by omega)).mono ?_; rintro e w2 ⟨rfl, hb2⟩; rw [HZ.out]; have HN4 := Lib.hid ((HN3.out.store x2).call hb2); clear hb2 q0 q1 q2 f0 f1 f2; have q0 := HN4.out.t0; have q1 := HN4.out.t1; have q2 := HN4.out.t2)
            | (go_at_call 65; refine (tDay 0 x2 L z _ HN4.out.tloc hn0 (by omega) (by omega)).mono ?_; rintro e w3 ⟨rfl, hb3⟩; have HN5 := Lib.hid (HN4.out.call hb3); clear hb3 q0 q1 q2))
          exact ⟨_, (by rw [← HM.out]; exact HPM.out.2.1), x2, true, ⟨fr_ex, HN5.out, HPM.out.1⟩, rfl, Nat.le_trans (Nat.le_of_lt HPM.out.2.1) (by rw [HM.out]; exact hn), (HPM.out.2.2.1 (by simpa using hm1)).1, fun _ => (HPM.out.2.2.1 (by simpa using hm1)).2, by omega, by omega, by omega, by omega⟩
end
end Go.Proofs.Ytjmgebhjkbcpcaa.NM
