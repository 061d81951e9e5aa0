/- a part of the proof: FnSemverDeMorgan: for every list of terms, every style and every version the law's function returns true and leaves its arguments as they were. No condition is added: the statement is the given one, the tied card. -/
import Derived.Test.YtnamjojceadgdaaGreatDoorNG
import Derived.Deep.CutRange
section
set_option linter.unusedVariables false
set_option linter.unusedSimpArgs false
/- the tilde, of a release -/
namespace Go.Proofs.YtnamjojceadgdaaGreatDoor.Sv
open Go Go.RowKit Rx
set_option maxRecDepth 100000
def zeroR (a2 b2 c2 : Nat) (md pd : Bool) : Bool := decide (a2 = 0) && (decide (b2 = 0) && (decide (c2 = 0) && (!md && !pd)))
theorem tilde_nz {a b c a2 b2 c2 : Nat} {rel md pd : Bool} (hn : ¬ cmpRel a b c a2 b2 c2 rel < 0) (h : zeroR a2 b2 c2 md pd = false) : tildeR a b c a2 b2 c2 rel md pd = if a ≠ a2 then false else if b ≠ b2 ∧ md = false then false else true := by
  unfold tildeR
  rw [if_neg hn, if_neg]
  rintro ⟨h1, h2, h3, h4, h5⟩
  subst h1 h2 h3 h4 h5
  simp [zeroR] at h
theorem tilde_z {a b c a2 b2 c2 : Nat} {rel md pd : Bool} (hn : ¬ cmpRel a b c a2 b2 c2 rel < 0) (h : zeroR a2 b2 c2 md pd = true) : tildeR a b c a2 b2 c2 rel md pd = true := by
  unfold tildeR
  rw [if_neg hn, if_pos]
  simp [zeroR] at h
  exact h
set_option maxHeartbeats 8000000 in
theorem tTilde (w : World) (V U C a b c : Nat) (p m o : ByteArray) (a2 b2 c2 : Nat) (p2 m2 o2 op : ByteArray) (md d pd inc : Bool) (h : S3 w V U C a b c p m o a2 b2 c2 p2 m2 o2 op md d pd w) (hp : p.toList.isEmpty = true) (rel : Bool) (hr : p2.toList.isEmpty = rel) :
    Calls Tryz.prog 61 #[.pointer (some ⟨V, 0, none⟩), .pointer (some ⟨C, 0, none⟩), .bool inc] w fun e w' => ∃ ev, e = .returned (.tuple #[.bool (tildeR a b c a2 b2 c2 rel md pd), ev]) ∧ Below w.heap.size w w' := by
  obtain ⟨q0, q1, q2, q3, q4, q5, q6, q7, q8, q9, q10, q11, q12, q13, q14, q15, q16, q17⟩ := h
  generalize hres : tildeR a b c a2 b2 c2 rel md pd = res
  have HRES := Lib.hid hres
  clear hres
  generalize hlt : decide (cmpRel a b c a2 b2 c2 rel < 0) = lt
  have HLT := Lib.hid hlt
  go_enter Tryz.func61, Tryz.ntmps61
  cases lt
  · have HN := Lib.hid (of_decide_eq_false HLT.out)
    generalize hzz : zeroR a2 b2 c2 md pd = zz
    have HZZ := Lib.hid hzz
    go_upto_region 5 with (first | (go_at_call 81; refine (tPrere _ _ _ _ _ _ _).mono ?_; rintro e w1 ⟨rfl, hb⟩; obtain ⟨q0, q1, q2, q3, q4, q5, q6, q7, q8, q9, q10, q11, q12, q13, q14, q15, q16, q17⟩ := kp18 hb q0 q1 q2 q3 q4 q5 q6 q7 q8 q9 q10 q11 q12 q13 q14 q15 q16 q17; clear hb) | (go_at_call 83; refine (tMajor _ _ _ _ _ _ _).mono ?_; rintro e w1 ⟨rfl, hb⟩; obtain ⟨q0, q1, q2, q3, q4, q5, q6, q7, q8, q9, q10, q11, q12, q13, q14, q15, q16, q17⟩ := kp18 hb q0 q1 q2 q3 q4 q5 q6 q7 q8 q9 q10 q11 q12 q13 q14 q15 q16 q17; clear hb) | (go_at_call 84; refine (tMinor _ _ _ _ _ _ _).mono ?_; rintro e w1 ⟨rfl, hb⟩; obtain ⟨q0, q1, q2, q3, q4, q5, q6, q7, q8, q9, q10, q11, q12, q13, q14, q15, q16, q17⟩ := kp18 hb q0 q1 q2 q3 q4 q5 q6 q7 q8 q9 q10 q11 q12 q13 q14 q15 q16 q17; clear hb) | (go_at_call 85; refine (tPatch _ _ _ _ _ _ _).mono ?_; rintro e w1 ⟨rfl, hb⟩; obtain ⟨q0, q1, q2, q3, q4, q5, q6, q7, q8, q9, q10, q11, q12, q13, q14, q15, q16, q17⟩ := kp18 hb q0 q1 q2 q3 q4 q5 q6 q7 q8 q9 q10 q11 q12 q13 q14 q15 q16 q17; clear hb) | (go_at_call 88; refine (tLess _ V U a b c p m o a2 b2 c2 p2 m2 o2 ⟨q0, q1, q2, q3, q4, q5, q6, q7, q8, q9, q10, q11, Below.refl _ _⟩ hp rel hr).mono ?_; rintro e w2 ⟨rfl, hb⟩; rw [hlt]; obtain ⟨q0, q1, q2, q3, q4, q5, q6, q7, q8, q9, q10, q11, q12, q13, q14, q15, q16, q17⟩ := kp18 hb q0 q1 q2 q3 q4 q5 q6 q7 q8 q9 q10 q11 q12 q13 q14 q15 q16 q17; clear hb) | (go_at_call 28; refine (tErr _ _).mono ?_; rintro e w3 ⟨t3, a3, rfl, hb⟩; obtain ⟨q0, q1, q2, q3, q4, q5, q6, q7, q8, q9, q10, q11, q12, q13, q14, q15, q16, q17⟩ := kp18 hb q0 q1 q2 q3 q4 q5 q6 q7 q8 q9 q10 q11 q12 q13 q14 q15 q16 q17; clear hb))
    go_cut [66] from 25 to 66 (fun s66 wc => s66 = .bool (zeroR a2 b2 c2 md pd) ∧ S3 w V U C a b c p m o a2 b2 c2 p2 m2 o2 op md d pd wc)
    case first =>
      clear hzz
      by_cases x1 : a2 = 0
      · have z1 : ((a2 : Int) == 0) = true := by simp; omega
        by_cases x2 : b2 = 0
        · have z2 : ((b2 : Int) == 0) = true := by simp; omega
          by_cases x3 : c2 = 0
          · have z3 : ((c2 : Int) == 0) = true := by simp; omega
            cases md
            · cases pd
              · go_wp2_with (first | (go_at_call 81; refine (tPrere _ _ _ _ _ _ _).mono ?_; rintro e w1 ⟨rfl, hb⟩; obtain ⟨q0, q1, q2, q3, q4, q5, q6, q7, q8, q9, q10, q11, q12, q13, q14, q15, q16, q17⟩ := kp18 hb q0 q1 q2 q3 q4 q5 q6 q7 q8 q9 q10 q11 q12 q13 q14 q15 q16 q17; clear hb) | (go_at_call 83; refine (tMajor _ _ _ _ _ _ _).mono ?_; rintro e w1 ⟨rfl, hb⟩; obtain ⟨q0, q1, q2, q3, q4, q5, q6, q7, q8, q9, q10, q11, q12, q13, q14, q15, q16, q17⟩ := kp18 hb q0 q1 q2 q3 q4 q5 q6 q7 q8 q9 q10 q11 q12 q13 q14 q15 q16 q17; clear hb) | (go_at_call 84; refine (tMinor _ _ _ _ _ _ _).mono ?_; rintro e w1 ⟨rfl, hb⟩; obtain ⟨q0, q1, q2, q3, q4, q5, q6, q7, q8, q9, q10, q11, q12, q13, q14, q15, q16, q17⟩ := kp18 hb q0 q1 q2 q3 q4 q5 q6 q7 q8 q9 q10 q11 q12 q13 q14 q15 q16 q17; clear hb) | (go_at_call 85; refine (tPatch _ _ _ _ _ _ _).mono ?_; rintro e w1 ⟨rfl, hb⟩; obtain ⟨q0, q1, q2, q3, q4, q5, q6, q7, q8, q9, q10, q11, q12, q13, q14, q15, q16, q17⟩ := kp18 hb q0 q1 q2 q3 q4 q5 q6 q7 q8 q9 q10 q11 q12 q13 q14 q15 q16 q17; clear hb) | (go_at_call 88; refine (tLess _ V U a b c p m o a2 b2 c2 p2 m2 o2 ⟨q0, q1, q2, q3, q4, q5, q6, q7, q8, q9, q10, q11, Below.refl _ _⟩ hp rel hr).mono ?_; rintro e w2 ⟨rfl, hb⟩; rw [hlt]; obtain ⟨q0, q1, q2, q3, q4, q5, q6, q7, q8, q9, q10, q11, q12, q13, q14, q15, q16, q17⟩ := kp18 hb q0 q1 q2 q3 q4 q5 q6 q7 q8 q9 q10 q11 q12 q13 q14 q15 q16 q17; clear hb) | (go_at_call 28; refine (tErr _ _).mono ?_; rintro e w3 ⟨t3, a3, rfl, hb⟩; obtain ⟨q0, q1, q2, q3, q4, q5, q6, q7, q8, q9, q10, q11, q12, q13, q14, q15, q16, q17⟩ := kp18 hb q0 q1 q2 q3 q4 q5 q6 q7 q8 q9 q10 q11 q12 q13 q14 q15 q16 q17; clear hb))
                go_meet; exact ⟨by first | rfl | (simp [zeroR, x1]; done) | (simp [zeroR, x1, x2]; done) | (simp [zeroR, x1, x2, x3]; done), by assumption, by assumption, by assumption, by assumption, by assumption, by assumption, by assumption, by assumption, by assumption, by assumption, by assumption, by assumption, by assumption, by assumption, by assumption, by assumption, by assumption, by assumption⟩
              · go_wp2_with (first | (go_at_call 81; refine (tPrere _ _ _ _ _ _ _).mono ?_; rintro e w1 ⟨rfl, hb⟩; obtain ⟨q0, q1, q2, q3, q4, q5, q6, q7, q8, q9, q10, q11, q12, q13, q14, q15, q16, q17⟩ := kp18 hb q0 q1 q2 q3 q4 q5 q6 q7 q8 q9 q10 q11 q12 q13 q14 q15 q16 q17; clear hb) | (go_at_call 83; refine (tMajor _ _ _ _ _ _ _).mono ?_; rintro e w1 ⟨rfl, hb⟩; obtain ⟨q0, q1, q2, q3, q4, q5, q6, q7, q8, q9, q10, q11, q12, q13, q14, q15, q16, q17⟩ := kp18 hb q0 q1 q2 q3 q4 q5 q6 q7 q8 q9 q10 q11 q12 q13 q14 q15 q16 q17; clear hb) | (go_at_call 84; refine (tMinor _ _ _ _ _ _ _).mono ?_; rintro e w1 ⟨rfl, hb⟩; obtain ⟨q0, q1, q2, q3, q4, q5, q6, q7, q8, q9, q10, q11, q12, q13, q14, q15, q16, q17⟩ := kp18 hb q0 q1 q2 q3 q4 q5 q6 q7 q8 q9 q10 q11 q12 q13 q14 q15 q16 q17; clear hb) | (go_at_call 85; refine (tPatch _ _ _ _ _ _ _).mono ?_; rintro e w1 ⟨rfl, hb⟩; obtain ⟨q0, q1, q2, q3, q4, q5, q6, q7, q8, q9, q10, q11, q12, q13, q14, q15, q16, q17⟩ := kp18 hb q0 q1 q2 q3 q4 q5 q6 q7 q8 q9 q10 q11 q12 q13 q14 q15 q16 q17; clear hb) | (go_at_call 88; refine (tLess _ V U a b c p m o a2 b2 c2 p2 m2 o2 ⟨q0, q1, q2, q3, q4, q5, q6, q7, q8, q9, q10, q11, Below.refl _ _⟩ hp rel hr).mono ?_; rintro e w2 ⟨rfl, hb⟩; rw [hlt]; obtain ⟨q0, q1, q2, q3, q4, q5, q6, q7, q8, q9, q10, q11, q12, q13, q14, q15, q16, q17⟩ := kp18 hb q0 q1 q2 q3 q4 q5 q6 q7 q8 q9 q10 q11 q12 q13 q14 q15 q16 q17; clear hb) | (go_at_call 28; refine (tErr _ _).mono ?_; rintro e w3 ⟨t3, a3, rfl, hb⟩; obtain ⟨q0, q1, q2, q3, q4, q5, q6, q7, q8, q9, q10, q11, q12, q13, q14, q15, q16, q17⟩ := kp18 hb q0 q1 q2 q3 q4 q5 q6 q7 q8 q9 q10 q11 q12 q13 q14 q15 q16 q17; clear hb))
                go_meet; exact ⟨by first | rfl | (simp [zeroR, x1]; done) | (simp [zeroR, x1, x2]; done) | (simp [zeroR, x1, x2, x3]; done), by assumption, by assumption, by assumption, by assumption, by assumption, by assumption, by assumption, by assumption, by assumption, by assumption, by assumption, by assumption, by assumption, by assumption, by assumption, by assumption, by assumption, by assumption⟩
            · go_wp2_with (first | (go_at_call 81; refine (tPrere _ _ _ _ _ _ _).mono ?_; rintro e w1 ⟨rfl, hb⟩; obtain ⟨q0, q1, q2, q3, q4, q5, q6, q7, q8, q9, q10, q11, q12, q13, q14, q15, q16, q17⟩ := kp18 hb q0 q1 q2 q3 q4 q5 q6 q7 q8 q9 q10 q11 q12 q13 q14 q15 q16 q17; clear hb) | (go_at_call 83; refine (tMajor _ _ _ _ _ _ _).mono ?_; rintro e w1 ⟨rfl, hb⟩; obtain ⟨q0, q1, q2, q3, q4, q5, q6, q7, q8, q9, q10, q11, q12, q13, q14, q15, q16, q17⟩ := kp18 hb q0 q1 q2 q3 q4 q5 q6 q7 q8 q9 q10 q11 q12 q13 q14 q15 q16 q17; clear hb) | (go_at_call 84; refine (tMinor _ _ _ _ _ _ _).mono ?_; rintro e w1 ⟨rfl, hb⟩; obtain ⟨q0, q1, q2, q3, q4, q5, q6, q7, q8, q9, q10, q11, q12, q13, q14, q15, q16, q17⟩ := kp18 hb q0 q1 q2 q3 q4 q5 q6 q7 q8 q9 q10 q11 q12 q13 q14 q15 q16 q17; clear hb) | (go_at_call 85; refine (tPatch _ _ _ _ _ _ _).mono ?_; rintro e w1 ⟨rfl, hb⟩; obtain ⟨q0, q1, q2, q3, q4, q5, q6, q7, q8, q9, q10, q11, q12, q13, q14, q15, q16, q17⟩ := kp18 hb q0 q1 q2 q3 q4 q5 q6 q7 q8 q9 q10 q11 q12 q13 q14 q15 q16 q17; clear hb) | (go_at_call 88; refine (tLess _ V U a b c p m o a2 b2 c2 p2 m2 o2 ⟨q0, q1, q2, q3, q4, q5, q6, q7, q8, q9, q10, q11, Below.refl _ _⟩ hp rel hr).mono ?_; rintro e w2 ⟨rfl, hb⟩; rw [hlt]; obtain ⟨q0, q1, q2, q3, q4, q5, q6, q7, q8, q9, q10, q11, q12, q13, q14, q15, q16, q17⟩ := kp18 hb q0 q1 q2 q3 q4 q5 q6 q7 q8 q9 q10 q11 q12 q13 q14 q15 q16 q17; clear hb) | (go_at_call 28; refine (tErr _ _).mono ?_; rintro e w3 ⟨t3, a3, rfl, hb⟩; obtain ⟨q0, q1, q2, q3, q4, q5, q6, q7, q8, q9, q10, q11, q12, q13, q14, q15, q16, q17⟩ := kp18 hb q0 q1 q2 q3 q4 q5 q6 q7 q8 q9 q10 q11 q12 q13 q14 q15 q16 q17; clear hb))
              go_meet; exact ⟨by first | rfl | (simp [zeroR, x1]; done) | (simp [zeroR, x1, x2]; done) | (simp [zeroR, x1, x2, x3]; done), by assumption, by assumption, by assumption, by assumption, by assumption, by assumption, by assumption, by assumption, by assumption, by assumption, by assumption, by assumption, by assumption, by assumption, by assumption, by assumption, by assumption, by assumption⟩
          · have z3 : ((c2 : Int) == 0) = false := by simp; omega
            go_wp2_with (first | (go_at_call 81; refine (tPrere _ _ _ _ _ _ _).mono ?_; rintro e w1 ⟨rfl, hb⟩; obtain ⟨q0, q1, q2, q3, q4, q5, q6, q7, q8, q9, q10, q11, q12, q13, q14, q15, q16, q17⟩ := kp18 hb q0 q1 q2 q3 q4 q5 q6 q7 q8 q9 q10 q11 q12 q13 q14 q15 q16 q17; clear hb) | (go_at_call 83; refine (tMajor _ _ _ _ _ _ _).mono ?_; rintro e w1 ⟨rfl, hb⟩; obtain ⟨q0, q1, q2, q3, q4, q5, q6, q7, q8, q9, q10, q11, q12, q13, q14, q15, q16, q17⟩ := kp18 hb q0 q1 q2 q3 q4 q5 q6 q7 q8 q9 q10 q11 q12 q13 q14 q15 q16 q17; clear hb) | (go_at_call 84; refine (tMinor _ _ _ _ _ _ _).mono ?_; rintro e w1 ⟨rfl, hb⟩; obtain ⟨q0, q1, q2, q3, q4, q5, q6, q7, q8, q9, q10, q11, q12, q13, q14, q15, q16, q17⟩ := kp18 hb q0 q1 q2 q3 q4 q5 q6 q7 q8 q9 q10 q11 q12 q13 q14 q15 q16 q17; clear hb) | (go_at_call 85; refine (tPatch _ _ _ _ _ _ _).mono ?_; rintro e w1 ⟨rfl, hb⟩; obtain ⟨q0, q1, q2, q3, q4, q5, q6, q7, q8, q9, q10, q11, q12, q13, q14, q15, q16, q17⟩ := kp18 hb q0 q1 q2 q3 q4 q5 q6 q7 q8 q9 q10 q11 q12 q13 q14 q15 q16 q17; clear hb) | (go_at_call 88; refine (tLess _ V U a b c p m o a2 b2 c2 p2 m2 o2 ⟨q0, q1, q2, q3, q4, q5, q6, q7, q8, q9, q10, q11, Below.refl _ _⟩ hp rel hr).mono ?_; rintro e w2 ⟨rfl, hb⟩; rw [hlt]; obtain ⟨q0, q1, q2, q3, q4, q5, q6, q7, q8, q9, q10, q11, q12, q13, q14, q15, q16, q17⟩ := kp18 hb q0 q1 q2 q3 q4 q5 q6 q7 q8 q9 q10 q11 q12 q13 q14 q15 q16 q17; clear hb) | (go_at_call 28; refine (tErr _ _).mono ?_; rintro e w3 ⟨t3, a3, rfl, hb⟩; obtain ⟨q0, q1, q2, q3, q4, q5, q6, q7, q8, q9, q10, q11, q12, q13, q14, q15, q16, q17⟩ := kp18 hb q0 q1 q2 q3 q4 q5 q6 q7 q8 q9 q10 q11 q12 q13 q14 q15 q16 q17; clear hb))
            go_meet; exact ⟨by first | rfl | (simp [zeroR, x1]; done) | (simp [zeroR, x1, x2]; done) | (simp [zeroR, x1, x2, x3]; done), by assumption, by assumption, by assumption, by assumption, by assumption, by assumption, by assumption, by assumption, by assumption, by assumption, by assumption, by assumption, by assumption, by assumption, by assumption, by assumption, by assumption, by assumption⟩
        · have z2 : ((b2 : Int) == 0) = false := by simp; omega
          go_wp2_with (first | (go_at_call 81; refine (tPrere _ _ _ _ _ _ _).mono ?_; rintro e w1 ⟨rfl, hb⟩; obtain ⟨q0, q1, q2, q3, q4, q5, q6, q7, q8, q9, q10, q11, q12, q13, q14, q15, q16, q17⟩ := kp18 hb q0 q1 q2 q3 q4 q5 q6 q7 q8 q9 q10 q11 q12 q13 q14 q15 q16 q17; clear hb) | (go_at_call 83; refine (tMajor _ _ _ _ _ _ _).mono ?_; rintro e w1 ⟨rfl, hb⟩; obtain ⟨q0, q1, q2, q3, q4, q5, q6, q7, q8, q9, q10, q11, q12, q13, q14, q15, q16, q17⟩ := kp18 hb q0 q1 q2 q3 q4 q5 q6 q7 q8 q9 q10 q11 q12 q13 q14 q15 q16 q17; clear hb) | (go_at_call 84; refine (tMinor _ _ _ _ _ _ _).mono ?_; rintro e w1 ⟨rfl, hb⟩; obtain ⟨q0, q1, q2, q3, q4, q5, q6, q7, q8, q9, q10, q11, q12, q13, q14, q15, q16, q17⟩ := kp18 hb q0 q1 q2 q3 q4 q5 q6 q7 q8 q9 q10 q11 q12 q13 q14 q15 q16 q17; clear hb) | (go_at_call 85; refine (tPatch _ _ _ _ _ _ _).mono ?_; rintro e w1 ⟨rfl, hb⟩; obtain ⟨q0, q1, q2, q3, q4, q5, q6, q7, q8, q9, q10, q11, q12, q13, q14, q15, q16, q17⟩ := kp18 hb q0 q1 q2 q3 q4 q5 q6 q7 q8 q9 q10 q11 q12 q13 q14 q15 q16 q17; clear hb) | (go_at_call 88; refine (tLess _ V U a b c p m o a2 b2 c2 p2 m2 o2 ⟨q0, q1, q2, q3, q4, q5, q6, q7, q8, q9, q10, q11, Below.refl _ _⟩ hp rel hr).mono ?_; rintro e w2 ⟨rfl, hb⟩; rw [hlt]; obtain ⟨q0, q1, q2, q3, q4, q5, q6, q7, q8, q9, q10, q11, q12, q13, q14, q15, q16, q17⟩ := kp18 hb q0 q1 q2 q3 q4 q5 q6 q7 q8 q9 q10 q11 q12 q13 q14 q15 q16 q17; clear hb) | (go_at_call 28; refine (tErr _ _).mono ?_; rintro e w3 ⟨t3, a3, rfl, hb⟩; obtain ⟨q0, q1, q2, q3, q4, q5, q6, q7, q8, q9, q10, q11, q12, q13, q14, q15, q16, q17⟩ := kp18 hb q0 q1 q2 q3 q4 q5 q6 q7 q8 q9 q10 q11 q12 q13 q14 q15 q16 q17; clear hb))
          go_meet; exact ⟨by first | rfl | (simp [zeroR, x1]; done) | (simp [zeroR, x1, x2]; done) | (simp [zeroR, x1, x2, x3]; done), by assumption, by assumption, by assumption, by assumption, by assumption, by assumption, by assumption, by assumption, by assumption, by assumption, by assumption, by assumption, by assumption, by assumption, by assumption, by assumption, by assumption, by assumption⟩
      · have z1 : ((a2 : Int) == 0) = false := by simp; omega
        go_wp2_with (first | (go_at_call 81; refine (tPrere _ _ _ _ _ _ _).mono ?_; rintro e w1 ⟨rfl, hb⟩; obtain ⟨q0, q1, q2, q3, q4, q5, q6, q7, q8, q9, q10, q11, q12, q13, q14, q15, q16, q17⟩ := kp18 hb q0 q1 q2 q3 q4 q5 q6 q7 q8 q9 q10 q11 q12 q13 q14 q15 q16 q17; clear hb) | (go_at_call 83; refine (tMajor _ _ _ _ _ _ _).mono ?_; rintro e w1 ⟨rfl, hb⟩; obtain ⟨q0, q1, q2, q3, q4, q5, q6, q7, q8, q9, q10, q11, q12, q13, q14, q15, q16, q17⟩ := kp18 hb q0 q1 q2 q3 q4 q5 q6 q7 q8 q9 q10 q11 q12 q13 q14 q15 q16 q17; clear hb) | (go_at_call 84; refine (tMinor _ _ _ _ _ _ _).mono ?_; rintro e w1 ⟨rfl, hb⟩; obtain ⟨q0, q1, q2, q3, q4, q5, q6, q7, q8, q9, q10, q11, q12, q13, q14, q15, q16, q17⟩ := kp18 hb q0 q1 q2 q3 q4 q5 q6 q7 q8 q9 q10 q11 q12 q13 q14 q15 q16 q17; clear hb) | (go_at_call 85; refine (tPatch _ _ _ _ _ _ _).mono ?_; rintro e w1 ⟨rfl, hb⟩; obtain ⟨q0, q1, q2, q3, q4, q5, q6, q7, q8, q9, q10, q11, q12, q13, q14, q15, q16, q17⟩ := kp18 hb q0 q1 q2 q3 q4 q5 q6 q7 q8 q9 q10 q11 q12 q13 q14 q15 q16 q17; clear hb) | (go_at_call 88; refine (tLess _ V U a b c p m o a2 b2 c2 p2 m2 o2 ⟨q0, q1, q2, q3, q4, q5, q6, q7, q8, q9, q10, q11, Below.refl _ _⟩ hp rel hr).mono ?_; rintro e w2 ⟨rfl, hb⟩; rw [hlt]; obtain ⟨q0, q1, q2, q3, q4, q5, q6, q7, q8, q9, q10, q11, q12, q13, q14, q15, q16, q17⟩ := kp18 hb q0 q1 q2 q3 q4 q5 q6 q7 q8 q9 q10 q11 q12 q13 q14 q15 q16 q17; clear hb) | (go_at_call 28; refine (tErr _ _).mono ?_; rintro e w3 ⟨t3, a3, rfl, hb⟩; obtain ⟨q0, q1, q2, q3, q4, q5, q6, q7, q8, q9, q10, q11, q12, q13, q14, q15, q16, q17⟩ := kp18 hb q0 q1 q2 q3 q4 q5 q6 q7 q8 q9 q10 q11 q12 q13 q14 q15 q16 q17; clear hb))
        go_meet; exact ⟨by first | rfl | (simp [zeroR, x1]; done) | (simp [zeroR, x1, x2]; done) | (simp [zeroR, x1, x2, x3]; done), by assumption, by assumption, by assumption, by assumption, by assumption, by assumption, by assumption, by assumption, by assumption, by assumption, by assumption, by assumption, by assumption, by assumption, by assumption, by assumption, by assumption, by assumption⟩
    case rest =>
      obtain ⟨rfl, hs3⟩ := hcut
      obtain ⟨q0, q1, q2, q3, q4, q5, q6, q7, q8, q9, q10, q11, q12, q13, q14, q15, q16, q17⟩ := hs3
      rw [hzz]
      clear hzz
      cases zz
      · cases md
        · skip
          by_cases xa : a = a2
          · have za : ((a : Int) != (a2 : Int)) = false := by simp; omega
            by_cases xb : b = b2
            · have zb : ((b : Int) != (b2 : Int)) = false := by simp; omega
              go_upto_region 7 with (first | (go_at_call 81; refine (tPrere _ _ _ _ _ _ _).mono ?_; rintro e w1 ⟨rfl, hb⟩; obtain ⟨q0, q1, q2, q3, q4, q5, q6, q7, q8, q9, q10, q11, q12, q13, q14, q15, q16, q17⟩ := kp18 hb q0 q1 q2 q3 q4 q5 q6 q7 q8 q9 q10 q11 q12 q13 q14 q15 q16 q17; clear hb) | (go_at_call 83; refine (tMajor _ _ _ _ _ _ _).mono ?_; rintro e w1 ⟨rfl, hb⟩; obtain ⟨q0, q1, q2, q3, q4, q5, q6, q7, q8, q9, q10, q11, q12, q13, q14, q15, q16, q17⟩ := kp18 hb q0 q1 q2 q3 q4 q5 q6 q7 q8 q9 q10 q11 q12 q13 q14 q15 q16 q17; clear hb) | (go_at_call 84; refine (tMinor _ _ _ _ _ _ _).mono ?_; rintro e w1 ⟨rfl, hb⟩; obtain ⟨q0, q1, q2, q3, q4, q5, q6, q7, q8, q9, q10, q11, q12, q13, q14, q15, q16, q17⟩ := kp18 hb q0 q1 q2 q3 q4 q5 q6 q7 q8 q9 q10 q11 q12 q13 q14 q15 q16 q17; clear hb) | (go_at_call 85; refine (tPatch _ _ _ _ _ _ _).mono ?_; rintro e w1 ⟨rfl, hb⟩; obtain ⟨q0, q1, q2, q3, q4, q5, q6, q7, q8, q9, q10, q11, q12, q13, q14, q15, q16, q17⟩ := kp18 hb q0 q1 q2 q3 q4 q5 q6 q7 q8 q9 q10 q11 q12 q13 q14 q15 q16 q17; clear hb) | (go_at_call 88; refine (tLess _ V U a b c p m o a2 b2 c2 p2 m2 o2 ⟨q0, q1, q2, q3, q4, q5, q6, q7, q8, q9, q10, q11, Below.refl _ _⟩ hp rel hr).mono ?_; rintro e w2 ⟨rfl, hb⟩; rw [hlt]; obtain ⟨q0, q1, q2, q3, q4, q5, q6, q7, q8, q9, q10, q11, q12, q13, q14, q15, q16, q17⟩ := kp18 hb q0 q1 q2 q3 q4 q5 q6 q7 q8 q9 q10 q11 q12 q13 q14 q15 q16 q17; clear hb) | (go_at_call 28; refine (tErr _ _).mono ?_; rintro e w3 ⟨t3, a3, rfl, hb⟩; obtain ⟨q0, q1, q2, q3, q4, q5, q6, q7, q8, q9, q10, q11, q12, q13, q14, q15, q16, q17⟩ := kp18 hb q0 q1 q2 q3 q4 q5 q6 q7 q8 q9 q10 q11 q12 q13 q14 q15 q16 q17; clear hb))
              go_region_held3 (fun w' => w'.cell? ⟨V, 0, none⟩ = some (.int .u64 a) ∧ w'.cell? ⟨V, 1, none⟩ = some (.int .u64 b) ∧ w'.cell? ⟨V, 2, none⟩ = some (.int .u64 c) ∧ w'.cell? ⟨V, 3, none⟩ = some (.string p) ∧ w'.cell? ⟨V, 4, none⟩ = some (.string m) ∧ w'.cell? ⟨V, 5, none⟩ = some (.string o) ∧ w'.cell? ⟨U, 0, none⟩ = some (.int .u64 a2) ∧ w'.cell? ⟨U, 1, none⟩ = some (.int .u64 b2) ∧ w'.cell? ⟨U, 2, none⟩ = some (.int .u64 c2) ∧ w'.cell? ⟨U, 3, none⟩ = some (.string p2) ∧ w'.cell? ⟨U, 4, none⟩ = some (.string m2) ∧ w'.cell? ⟨U, 5, none⟩ = some (.string o2) ∧ w'.cell? ⟨C, 0, none⟩ = some (.pointer (some ⟨U, 0, none⟩)) ∧ w'.cell? ⟨C, 2, none⟩ = some (.string op) ∧ w'.cell? ⟨C, 3, none⟩ = some (.bool false) ∧ w'.cell? ⟨C, 4, none⟩ = some (.bool d) ∧ w'.cell? ⟨C, 5, none⟩ = some (.bool pd) ∧ Below w.heap.size w w') (refine ⟨?_, ?_, ?_, ?_, ?_, ?_, ?_, ?_, ?_, ?_, ?_, ?_, ?_, ?_, ?_, ?_, ?_, ?_⟩ <;> first | assumption | (rw [World.cell?_drew]; assumption) | (refine Below.drew ?_; assumption)) (first | (go_at_call 83; refine (tMajor _ _ _ _ _ _ _).mono ?_; rintro e w1 ⟨rfl, hb⟩; have HS2 : S3 w V U C a b c p m o a2 b2 c2 p2 m2 o2 op false d pd w1 := (by refine ⟨?_, ?_, ?_, ?_, ?_, ?_, ?_, ?_, ?_, ?_, ?_, ?_, ?_, ?_, ?_, ?_, ?_, ?_⟩ <;> first | exact keepc hb (by first | assumption | (rw [World.cell?_drew]; assumption)) | exact belk hb (by first | assumption | (refine Below.drew ?_; assumption))); clear hb; obtain ⟨q0, q1, q2, q3, q4, q5, q6, q7, q8, q9, q10, q11, q12, q13, q14, q15, q16, q17⟩ := HS2))
              go_upto_region 9 with (go_at_call 28; refine (tErr _ _).mono ?_; rintro e w3 ⟨t3, a3, rfl, hb⟩; have hbb := belk hb (by first | assumption | (refine Below.drew ?_; assumption)); clear hb)
              refine wp_region_held_drew (S := (fun w' => w'.cell? ⟨V, 0, none⟩ = some (.int .u64 a) ∧ w'.cell? ⟨V, 1, none⟩ = some (.int .u64 b) ∧ w'.cell? ⟨V, 2, none⟩ = some (.int .u64 c) ∧ w'.cell? ⟨V, 3, none⟩ = some (.string p) ∧ w'.cell? ⟨V, 4, none⟩ = some (.string m) ∧ w'.cell? ⟨V, 5, none⟩ = some (.string o) ∧ w'.cell? ⟨U, 0, none⟩ = some (.int .u64 a2) ∧ w'.cell? ⟨U, 1, none⟩ = some (.int .u64 b2) ∧ w'.cell? ⟨U, 2, none⟩ = some (.int .u64 c2) ∧ w'.cell? ⟨U, 3, none⟩ = some (.string p2) ∧ w'.cell? ⟨U, 4, none⟩ = some (.string m2) ∧ w'.cell? ⟨U, 5, none⟩ = some (.string o2) ∧ w'.cell? ⟨C, 0, none⟩ = some (.pointer (some ⟨U, 0, none⟩)) ∧ w'.cell? ⟨C, 2, none⟩ = some (.string op) ∧ w'.cell? ⟨C, 3, none⟩ = some (.bool false) ∧ w'.cell? ⟨C, 4, none⟩ = some (.bool d) ∧ w'.cell? ⟨C, 5, none⟩ = some (.bool pd) ∧ Below w.heap.size w w')) (by kernel_rfl) ⟨by first | assumption | (rw [World.cell?_drew]; assumption), by first | assumption | (rw [World.cell?_drew]; assumption), by first | assumption | (rw [World.cell?_drew]; assumption), by first | assumption | (rw [World.cell?_drew]; assumption), by first | assumption | (rw [World.cell?_drew]; assumption), by first | assumption | (rw [World.cell?_drew]; assumption), by first | assumption | (rw [World.cell?_drew]; assumption), by first | assumption | (rw [World.cell?_drew]; assumption), by first | assumption | (rw [World.cell?_drew]; assumption), by first | assumption | (rw [World.cell?_drew]; assumption), by first | assumption | (rw [World.cell?_drew]; assumption), by first | assumption | (rw [World.cell?_drew]; assumption), by first | assumption | (rw [World.cell?_drew]; assumption), by first | assumption | (rw [World.cell?_drew]; assumption), by first | assumption | (rw [World.cell?_drew]; assumption), by first | assumption | (rw [World.cell?_drew]; assumption), by first | assumption | (rw [World.cell?_drew]; assumption), by first | assumption | (refine Below.drew ?_; assumption)⟩ (fun hHeld => ?_)
              refine wpAnyH_take (i := 0) (oi := { dst := some 80, op := Op.move (Operand.tmp 0), type := 53, pos := "constraints.go:474", after := #[], guard := none }) (v := ?_) rfl (by kernel_rfl) (by kernel_rfl) (by kernel_rfl) (fun _ _ _ h => h) (Or.inl ⟨by rfl, ?_⟩) (by assumption) ?_
              rotate_left
              · intro W hSw
                clear hSw
                go_simp
                try with_reducible rfl
              try simp only [Act.put, List.setIfInBounds_toArray, List.set_cons_zero, List.set_cons_succ]
              refine wpAnyH_take (i := 1) (oi := { dst := some 81, op := Op.nilCheck (Operand.tmp 80), type := 0, pos := "constraints.go:474", after := #[{ on := 0, ground := Ground.data }], guard := none }) (v := ?_) rfl (by kernel_rfl) (by kernel_rfl) (by kernel_rfl) (fun _ _ _ h => h) (Or.inl ⟨by rfl, ?_⟩) (by assumption) ?_
              rotate_left
              · intro W hSw
                clear hSw
                go_simp
                try with_reducible rfl
              try simp only [Act.put, List.setIfInBounds_toArray, List.set_cons_zero, List.set_cons_succ]
              refine wpAnyH_take (i := 2) (oi := { dst := some 82, op := Op.load 71 (Operand.tmp 81), type := 71, pos := "constraints.go:474", after := #[{ on := 1, ground := Ground.data }], guard := none }) (v := ?_) rfl (by kernel_rfl) (by kernel_rfl) (by kernel_rfl) (fun _ _ _ h => h) (Or.inl ⟨by rfl, ?_⟩) (by assumption) ?_
              rotate_left
              · intro W hSw
                obtain ⟨s0, s1, s2, s3, s4, s5, s6, s7, s8, s9, s10, s11, s12, s13, s14, s15, s16, s17⟩ := hSw
                go_simp
                try with_reducible rfl
              try simp only [Act.put, List.setIfInBounds_toArray, List.set_cons_zero, List.set_cons_succ]
              refine wpAnyH_take (i := 4) (oi := { dst := some 84, op := Op.move (Operand.tmp 1), type := 67, pos := "constraints.go:474", after := #[], guard := none }) (v := ?_) rfl (by kernel_rfl) (by kernel_rfl) (by kernel_rfl) (fun _ _ _ h => h) (Or.inl ⟨by rfl, ?_⟩) (by assumption) ?_
              rotate_left
              · intro W hSw
                clear hSw
                go_simp
                try with_reducible rfl
              try simp only [Act.put, List.setIfInBounds_toArray, List.set_cons_zero, List.set_cons_succ]
              refine wpAnyH_take (i := 5) (oi := { dst := some 85, op := Op.nilCheck (Operand.tmp 84), type := 0, pos := "constraints.go:474", after := #[{ on := 4, ground := Ground.data }], guard := none }) (v := ?_) rfl (by kernel_rfl) (by kernel_rfl) (by kernel_rfl) (fun _ _ _ h => h) (Or.inl ⟨by rfl, ?_⟩) (by assumption) ?_
              rotate_left
              · intro W hSw
                clear hSw
                go_simp
                try with_reducible rfl
              try simp only [Act.put, List.setIfInBounds_toArray, List.set_cons_zero, List.set_cons_succ]
              refine wpAnyH_take (i := 6) (oi := { dst := some 86, op := Op.fieldAddr 73 (Operand.tmp 85) 0, type := 0, pos := "constraints.go:474", after := #[{ on := 5, ground := Ground.data }], guard := none }) (v := ?_) rfl (by kernel_rfl) (by kernel_rfl) (by kernel_rfl) (fun _ _ _ h => h) (Or.inl ⟨by rfl, ?_⟩) (by assumption) ?_
              rotate_left
              · intro W hSw
                clear hSw
                go_simp
                try with_reducible rfl
              try simp only [Act.put, List.setIfInBounds_toArray, List.set_cons_zero, List.set_cons_succ]
              refine wpAnyH_take (i := 7) (oi := { dst := some 87, op := Op.load 53 (Operand.tmp 86), type := 53, pos := "constraints.go:474", after := #[{ on := 6, ground := Ground.data }], guard := none }) (v := ?_) rfl (by kernel_rfl) (by kernel_rfl) (by kernel_rfl) (fun _ _ _ h => h) (Or.inl ⟨by rfl, ?_⟩) (by assumption) ?_
              rotate_left
              · intro W hSw
                obtain ⟨s0, s1, s2, s3, s4, s5, s6, s7, s8, s9, s10, s11, s12, s13, s14, s15, s16, s17⟩ := hSw
                go_simp
                try with_reducible rfl
              try simp only [Act.put, List.setIfInBounds_toArray, List.set_cons_zero, List.set_cons_succ]
              refine wpAnyH_take (i := 8) (oi := { dst := some 88, op := Op.nilCheck (Operand.tmp 87), type := 0, pos := "constraints.go:474", after := #[{ on := 7, ground := Ground.data }], guard := none }) (v := ?_) rfl (by kernel_rfl) (by kernel_rfl) (by kernel_rfl) (fun _ _ _ h => h) (Or.inl ⟨by rfl, ?_⟩) (by assumption) ?_
              rotate_left
              · intro W hSw
                clear hSw
                go_simp
                try with_reducible rfl
              try simp only [Act.put, List.setIfInBounds_toArray, List.set_cons_zero, List.set_cons_succ]
              refine wpAnyH_take (i := 9) (oi := { dst := some 89, op := Op.load 71 (Operand.tmp 88), type := 71, pos := "constraints.go:474", after := #[{ on := 8, ground := Ground.data }], guard := none }) (v := ?_) rfl (by kernel_rfl) (by kernel_rfl) (by kernel_rfl) (fun _ _ _ h => h) (Or.inl ⟨by rfl, ?_⟩) (by assumption) ?_
              rotate_left
              · intro W hSw
                obtain ⟨s0, s1, s2, s3, s4, s5, s6, s7, s8, s9, s10, s11, s12, s13, s14, s15, s16, s17⟩ := hSw
                go_simp
                try with_reducible rfl
              try simp only [Act.put, List.setIfInBounds_toArray, List.set_cons_zero, List.set_cons_succ]
              refine wpAnyH_ready (rs := [3]) (by kernel_rfl) (by simp) ?_
              refine (AllReadyH.cons (o := { dst := some 83, op := Op.call { callee := Callee.value (Operand.func 84), args := #[Operand.tmp 82], argTypes := #[53] }, type := 23, pos := "constraints.go:474", after := #[{ on := 2, ground := Ground.data }], guard := none }) rfl (fun K hK => ?_) AllReadyH.nil)
              go_simp
              (go_at_call 84; refine (tMinor _ _ _ _ _ _ _).mono ?_; rintro e w1 ⟨rfl, hb⟩; have HS2 : S3 w V U C a b c p m o a2 b2 c2 p2 m2 o2 op false d pd w1 := (by refine ⟨?_, ?_, ?_, ?_, ?_, ?_, ?_, ?_, ?_, ?_, ?_, ?_, ?_, ?_, ?_, ?_, ?_, ?_⟩ <;> first | exact keepc hb (by first | assumption | (rw [World.cell?_drew]; assumption)) | exact belk hb (by first | assumption | (refine Below.drew ?_; assumption))); clear hb; obtain ⟨q0, q1, q2, q3, q4, q5, q6, q7, q8, q9, q10, q11, q12, q13, q14, q15, q16, q17⟩ := HS2)
              refine hK.out _ _ ⟨by assumption, by assumption, by assumption, by assumption, by assumption, by assumption, by assumption, by assumption, by assumption, by assumption, by assumption, by assumption, by assumption, by assumption, by assumption, by assumption, by assumption, by assumption⟩ (fun hHeld => ?_)
              clear hK K
              try simp only [Act.put, List.setIfInBounds_toArray, List.set_cons_zero, List.set_cons_succ]
              refine wpAnyH_ready (rs := [10]) (by kernel_rfl) (by simp) ?_
              refine (AllReadyH.cons (o := { dst := some 90, op := Op.call { callee := Callee.value (Operand.func 84), args := #[Operand.tmp 89], argTypes := #[53] }, type := 23, pos := "constraints.go:474", after := #[{ on := 9, ground := Ground.data }, { on := 3, ground := Ground.chain }], guard := none }) rfl (fun K hK => ?_) AllReadyH.nil)
              go_simp
              (go_at_call 84; refine (tMinor _ _ _ _ _ _ _).mono ?_; rintro e w1 ⟨rfl, hb⟩; have HS2 : S3 w V U C a b c p m o a2 b2 c2 p2 m2 o2 op false d pd w1 := (by refine ⟨?_, ?_, ?_, ?_, ?_, ?_, ?_, ?_, ?_, ?_, ?_, ?_, ?_, ?_, ?_, ?_, ?_, ?_⟩ <;> first | exact keepc hb (by first | assumption | (rw [World.cell?_drew]; assumption)) | exact belk hb (by first | assumption | (refine Below.drew ?_; assumption))); clear hb; obtain ⟨q0, q1, q2, q3, q4, q5, q6, q7, q8, q9, q10, q11, q12, q13, q14, q15, q16, q17⟩ := HS2)
              refine hK.out _ _ ⟨by assumption, by assumption, by assumption, by assumption, by assumption, by assumption, by assumption, by assumption, by assumption, by assumption, by assumption, by assumption, by assumption, by assumption, by assumption, by assumption, by assumption, by assumption⟩ (fun hHeld => ?_)
              clear hK K
              try simp only [Act.put, List.setIfInBounds_toArray, List.set_cons_zero, List.set_cons_succ]
              refine wpAnyH_take (i := 11) (oi := { dst := some 91, op := Op.binOp BinOp.neq 23 (Operand.tmp 83) (Operand.tmp 90) 23, type := 4, pos := "constraints.go:474", after := #[{ on := 3, ground := Ground.data }, { on := 10, ground := Ground.data }], guard := none }) (v := ?_) rfl (by kernel_rfl) (by kernel_rfl) (by kernel_rfl) (fun _ _ _ h => h) (Or.inl ⟨by rfl, ?_⟩) (by assumption) ?_
              rotate_left
              · intro W hSw
                clear hSw
                go_simp
                try with_reducible rfl
              try simp only [Act.put, List.setIfInBounds_toArray, List.set_cons_zero, List.set_cons_succ]
              refine wpAnyH_take (i := 12) (oi := { dst := some 92, op := Op.move (Operand.tmp 91), type := 4, pos := "constraints.go:474", after := #[{ on := 11, ground := Ground.data }, { on := 10, ground := Ground.chain }], guard := none }) (v := ?_) rfl (by kernel_rfl) (by kernel_rfl) (by kernel_rfl) (fun _ _ _ h => h) (Or.inl ⟨by rfl, ?_⟩) (by assumption) ?_
              rotate_left
              · intro W hSw
                clear hSw
                go_simp
                try with_reducible rfl
              try simp only [Act.put, List.setIfInBounds_toArray, List.set_cons_zero, List.set_cons_succ]
              refine wpAnyH_take (i := 13) (oi := { dst := some 93, op := Op.move (Operand.tmp 1), type := 67, pos := "constraints.go:474", after := #[{ on := 12, ground := Ground.guard }], guard := some (12, true) }) (v := undef) rfl (by kernel_rfl) (by kernel_rfl) (by kernel_rfl) (fun _ _ _ h => h) (Or.inr ⟨by rfl, rfl⟩) (by assumption) ?_
              try simp only [Act.put, List.setIfInBounds_toArray, List.set_cons_zero, List.set_cons_succ]
              refine wpAnyH_take (i := 14) (oi := { dst := some 94, op := Op.nilCheck (Operand.tmp 93), type := 0, pos := "constraints.go:474", after := #[{ on := 13, ground := Ground.data }, { on := 12, ground := Ground.guard }], guard := some (12, true) }) (v := undef) rfl (by kernel_rfl) (by kernel_rfl) (by kernel_rfl) (fun _ _ _ h => h) (Or.inr ⟨by rfl, rfl⟩) (by assumption) ?_
              try simp only [Act.put, List.setIfInBounds_toArray, List.set_cons_zero, List.set_cons_succ]
              refine wpAnyH_take (i := 15) (oi := { dst := some 95, op := Op.fieldAddr 73 (Operand.tmp 94) 3, type := 0, pos := "constraints.go:474", after := #[{ on := 14, ground := Ground.data }, { on := 12, ground := Ground.guard }], guard := some (12, true) }) (v := undef) rfl (by kernel_rfl) (by kernel_rfl) (by kernel_rfl) (fun _ _ _ h => h) (Or.inr ⟨by rfl, rfl⟩) (by assumption) ?_
              try simp only [Act.put, List.setIfInBounds_toArray, List.set_cons_zero, List.set_cons_succ]
              refine wpAnyH_take (i := 16) (oi := { dst := some 96, op := Op.load 4 (Operand.tmp 95), type := 4, pos := "constraints.go:474", after := #[{ on := 15, ground := Ground.data }, { on := 12, ground := Ground.guard }], guard := some (12, true) }) (v := undef) rfl (by kernel_rfl) (by kernel_rfl) (by kernel_rfl) (fun _ _ _ h => h) (Or.inr ⟨by rfl, rfl⟩) (by assumption) ?_
              try simp only [Act.put, List.setIfInBounds_toArray, List.set_cons_zero, List.set_cons_succ]
              refine wpAnyH_take (i := 17) (oi := { dst := some 97, op := Op.unOp UnOp.not 4 (Operand.tmp 96), type := 4, pos := "constraints.go:474", after := #[{ on := 16, ground := Ground.data }, { on := 12, ground := Ground.guard }], guard := some (12, true) }) (v := undef) rfl (by kernel_rfl) (by kernel_rfl) (by kernel_rfl) (fun _ _ _ h => h) (Or.inr ⟨by rfl, rfl⟩) (by assumption) ?_
              try simp only [Act.put, List.setIfInBounds_toArray, List.set_cons_zero, List.set_cons_succ]
              refine wpAnyH_take (i := 18) (oi := { dst := some 98, op := Op.pick (Operand.tmp 92) (Operand.tmp 97) (Operand.const (Value.bool false)), type := 4, pos := "constraints.go:474", after := #[{ on := 12, ground := Ground.data }, { on := 17, ground := Ground.data }], guard := none }) (v := ?_) rfl (by kernel_rfl) (by kernel_rfl) (by kernel_rfl) (fun _ _ _ h => h) (Or.inl ⟨by rfl, ?_⟩) (by assumption) ?_
              rotate_left
              · intro W hSw
                clear hSw
                go_simp
                try with_reducible rfl
              try simp only [Act.put, List.setIfInBounds_toArray, List.set_cons_zero, List.set_cons_succ]
              refine wpAnyH_done (by kernel_rfl) ?_ _
              go_wp2_with (go_at_call 28; refine (tErr _ _).mono ?_; rintro e w3 ⟨t3, a3, rfl, hb⟩; have hbb := belk hb (by first | assumption | (refine Below.drew ?_; assumption)); clear hb)
              all_goals (go_ret2; refine ret_bool (r := res) ?_ (by first | assumption | (refine Below.drew ?_; assumption)); rw [← HRES.out, tilde_nz (by have := HN.out; omega) HZZ.out, if_neg (by simp [xa]), if_neg (by simp [xb])])
            · have zb : ((b : Int) != (b2 : Int)) = true := by simp; omega
              go_upto_region 7 with (first | (go_at_call 81; refine (tPrere _ _ _ _ _ _ _).mono ?_; rintro e w1 ⟨rfl, hb⟩; obtain ⟨q0, q1, q2, q3, q4, q5, q6, q7, q8, q9, q10, q11, q12, q13, q14, q15, q16, q17⟩ := kp18 hb q0 q1 q2 q3 q4 q5 q6 q7 q8 q9 q10 q11 q12 q13 q14 q15 q16 q17; clear hb) | (go_at_call 83; refine (tMajor _ _ _ _ _ _ _).mono ?_; rintro e w1 ⟨rfl, hb⟩; obtain ⟨q0, q1, q2, q3, q4, q5, q6, q7, q8, q9, q10, q11, q12, q13, q14, q15, q16, q17⟩ := kp18 hb q0 q1 q2 q3 q4 q5 q6 q7 q8 q9 q10 q11 q12 q13 q14 q15 q16 q17; clear hb) | (go_at_call 84; refine (tMinor _ _ _ _ _ _ _).mono ?_; rintro e w1 ⟨rfl, hb⟩; obtain ⟨q0, q1, q2, q3, q4, q5, q6, q7, q8, q9, q10, q11, q12, q13, q14, q15, q16, q17⟩ := kp18 hb q0 q1 q2 q3 q4 q5 q6 q7 q8 q9 q10 q11 q12 q13 q14 q15 q16 q17; clear hb) | (go_at_call 85; refine (tPatch _ _ _ _ _ _ _).mono ?_; rintro e w1 ⟨rfl, hb⟩; obtain ⟨q0, q1, q2, q3, q4, q5, q6, q7, q8, q9, q10, q11, q12, q13, q14, q15, q16, q17⟩ := kp18 hb q0 q1 q2 q3 q4 q5 q6 q7 q8 q9 q10 q11 q12 q13 q14 q15 q16 q17; clear hb) | (go_at_call 88; refine (tLess _ V U a b c p m o a2 b2 c2 p2 m2 o2 ⟨q0, q1, q2, q3, q4, q5, q6, q7, q8, q9, q10, q11, Below.refl _ _⟩ hp rel hr).mono ?_; rintro e w2 ⟨rfl, hb⟩; rw [hlt]; obtain ⟨q0, q1, q2, q3, q4, q5, q6, q7, q8, q9, q10, q11, q12, q13, q14, q15, q16, q17⟩ := kp18 hb q0 q1 q2 q3 q4 q5 q6 q7 q8 q9 q10 q11 q12 q13 q14 q15 q16 q17; clear hb) | (go_at_call 28; refine (tErr _ _).mono ?_; rintro e w3 ⟨t3, a3, rfl, hb⟩; obtain ⟨q0, q1, q2, q3, q4, q5, q6, q7, q8, q9, q10, q11, q12, q13, q14, q15, q16, q17⟩ := kp18 hb q0 q1 q2 q3 q4 q5 q6 q7 q8 q9 q10 q11 q12 q13 q14 q15 q16 q17; clear hb))
              go_region_held3 (fun w' => w'.cell? ⟨V, 0, none⟩ = some (.int .u64 a) ∧ w'.cell? ⟨V, 1, none⟩ = some (.int .u64 b) ∧ w'.cell? ⟨V, 2, none⟩ = some (.int .u64 c) ∧ w'.cell? ⟨V, 3, none⟩ = some (.string p) ∧ w'.cell? ⟨V, 4, none⟩ = some (.string m) ∧ w'.cell? ⟨V, 5, none⟩ = some (.string o) ∧ w'.cell? ⟨U, 0, none⟩ = some (.int .u64 a2) ∧ w'.cell? ⟨U, 1, none⟩ = some (.int .u64 b2) ∧ w'.cell? ⟨U, 2, none⟩ = some (.int .u64 c2) ∧ w'.cell? ⟨U, 3, none⟩ = some (.string p2) ∧ w'.cell? ⟨U, 4, none⟩ = some (.string m2) ∧ w'.cell? ⟨U, 5, none⟩ = some (.string o2) ∧ w'.cell? ⟨C, 0, none⟩ = some (.pointer (some ⟨U, 0, none⟩)) ∧ w'.cell? ⟨C, 2, none⟩ = some (.string op) ∧ w'.cell? ⟨C, 3, none⟩ = some (.bool false) ∧ w'.cell? ⟨C, 4, none⟩ = some (.bool d) ∧ w'.cell? ⟨C, 5, none⟩ = some (.bool pd) ∧ Below w.heap.size w w') (refine ⟨?_, ?_, ?_, ?_, ?_, ?_, ?_, ?_, ?_, ?_, ?_, ?_, ?_, ?_, ?_, ?_, ?_, ?_⟩ <;> first | assumption | (rw [World.cell?_drew]; assumption) | (refine Below.drew ?_; assumption)) (first | (go_at_call 83; refine (tMajor _ _ _ _ _ _ _).mono ?_; rintro e w1 ⟨rfl, hb⟩; have HS2 : S3 w V U C a b c p m o a2 b2 c2 p2 m2 o2 op false d pd w1 := (by refine ⟨?_, ?_, ?_, ?_, ?_, ?_, ?_, ?_, ?_, ?_, ?_, ?_, ?_, ?_, ?_, ?_, ?_, ?_⟩ <;> first | exact keepc hb (by first | assumption | (rw [World.cell?_drew]; assumption)) | exact belk hb (by first | assumption | (refine Below.drew ?_; assumption))); clear hb; obtain ⟨q0, q1, q2, q3, q4, q5, q6, q7, q8, q9, q10, q11, q12, q13, q14, q15, q16, q17⟩ := HS2))
              go_upto_region 9 with (go_at_call 28; refine (tErr _ _).mono ?_; rintro e w3 ⟨t3, a3, rfl, hb⟩; have hbb := belk hb (by first | assumption | (refine Below.drew ?_; assumption)); clear hb)
              go_region_held3 (fun w' => w'.cell? ⟨V, 0, none⟩ = some (.int .u64 a) ∧ w'.cell? ⟨V, 1, none⟩ = some (.int .u64 b) ∧ w'.cell? ⟨V, 2, none⟩ = some (.int .u64 c) ∧ w'.cell? ⟨V, 3, none⟩ = some (.string p) ∧ w'.cell? ⟨V, 4, none⟩ = some (.string m) ∧ w'.cell? ⟨V, 5, none⟩ = some (.string o) ∧ w'.cell? ⟨U, 0, none⟩ = some (.int .u64 a2) ∧ w'.cell? ⟨U, 1, none⟩ = some (.int .u64 b2) ∧ w'.cell? ⟨U, 2, none⟩ = some (.int .u64 c2) ∧ w'.cell? ⟨U, 3, none⟩ = some (.string p2) ∧ w'.cell? ⟨U, 4, none⟩ = some (.string m2) ∧ w'.cell? ⟨U, 5, none⟩ = some (.string o2) ∧ w'.cell? ⟨C, 0, none⟩ = some (.pointer (some ⟨U, 0, none⟩)) ∧ w'.cell? ⟨C, 2, none⟩ = some (.string op) ∧ w'.cell? ⟨C, 3, none⟩ = some (.bool false) ∧ w'.cell? ⟨C, 4, none⟩ = some (.bool d) ∧ w'.cell? ⟨C, 5, none⟩ = some (.bool pd) ∧ Below w.heap.size w w') (refine ⟨?_, ?_, ?_, ?_, ?_, ?_, ?_, ?_, ?_, ?_, ?_, ?_, ?_, ?_, ?_, ?_, ?_, ?_⟩ <;> first | assumption | (rw [World.cell?_drew]; assumption) | (refine Below.drew ?_; assumption)) (first | (go_at_call 84; refine (tMinor _ _ _ _ _ _ _).mono ?_; rintro e w1 ⟨rfl, hb⟩; have HS2 : S3 w V U C a b c p m o a2 b2 c2 p2 m2 o2 op false d pd w1 := (by refine ⟨?_, ?_, ?_, ?_, ?_, ?_, ?_, ?_, ?_, ?_, ?_, ?_, ?_, ?_, ?_, ?_, ?_, ?_⟩ <;> first | exact keepc hb (by first | assumption | (rw [World.cell?_drew]; assumption)) | exact belk hb (by first | assumption | (refine Below.drew ?_; assumption))); clear hb; obtain ⟨q0, q1, q2, q3, q4, q5, q6, q7, q8, q9, q10, q11, q12, q13, q14, q15, q16, q17⟩ := HS2))
              go_wp2_with (go_at_call 28; refine (tErr _ _).mono ?_; rintro e w3 ⟨t3, a3, rfl, hb⟩; have hbb := belk hb (by first | assumption | (refine Below.drew ?_; assumption)); clear hb)
              all_goals (go_ret2; refine ret_bool (r := res) ?_ (by first | assumption | (refine Below.drew ?_; assumption)); rw [← HRES.out, tilde_nz (by have := HN.out; omega) HZZ.out, if_neg (by simp [xa])])
              all_goals first | rw [if_pos ⟨xb, rfl⟩] | rw [if_neg (by simp)]
          · have za : ((a : Int) != (a2 : Int)) = true := by simp; omega
            go_upto_region 7 with (first | (go_at_call 81; refine (tPrere _ _ _ _ _ _ _).mono ?_; rintro e w1 ⟨rfl, hb⟩; obtain ⟨q0, q1, q2, q3, q4, q5, q6, q7, q8, q9, q10, q11, q12, q13, q14, q15, q16, q17⟩ := kp18 hb q0 q1 q2 q3 q4 q5 q6 q7 q8 q9 q10 q11 q12 q13 q14 q15 q16 q17; clear hb) | (go_at_call 83; refine (tMajor _ _ _ _ _ _ _).mono ?_; rintro e w1 ⟨rfl, hb⟩; obtain ⟨q0, q1, q2, q3, q4, q5, q6, q7, q8, q9, q10, q11, q12, q13, q14, q15, q16, q17⟩ := kp18 hb q0 q1 q2 q3 q4 q5 q6 q7 q8 q9 q10 q11 q12 q13 q14 q15 q16 q17; clear hb) | (go_at_call 84; refine (tMinor _ _ _ _ _ _ _).mono ?_; rintro e w1 ⟨rfl, hb⟩; obtain ⟨q0, q1, q2, q3, q4, q5, q6, q7, q8, q9, q10, q11, q12, q13, q14, q15, q16, q17⟩ := kp18 hb q0 q1 q2 q3 q4 q5 q6 q7 q8 q9 q10 q11 q12 q13 q14 q15 q16 q17; clear hb) | (go_at_call 85; refine (tPatch _ _ _ _ _ _ _).mono ?_; rintro e w1 ⟨rfl, hb⟩; obtain ⟨q0, q1, q2, q3, q4, q5, q6, q7, q8, q9, q10, q11, q12, q13, q14, q15, q16, q17⟩ := kp18 hb q0 q1 q2 q3 q4 q5 q6 q7 q8 q9 q10 q11 q12 q13 q14 q15 q16 q17; clear hb) | (go_at_call 88; refine (tLess _ V U a b c p m o a2 b2 c2 p2 m2 o2 ⟨q0, q1, q2, q3, q4, q5, q6, q7, q8, q9, q10, q11, Below.refl _ _⟩ hp rel hr).mono ?_; rintro e w2 ⟨rfl, hb⟩; rw [hlt]; obtain ⟨q0, q1, q2, q3, q4, q5, q6, q7, q8, q9, q10, q11, q12, q13, q14, q15, q16, q17⟩ := kp18 hb q0 q1 q2 q3 q4 q5 q6 q7 q8 q9 q10 q11 q12 q13 q14 q15 q16 q17; clear hb) | (go_at_call 28; refine (tErr _ _).mono ?_; rintro e w3 ⟨t3, a3, rfl, hb⟩; obtain ⟨q0, q1, q2, q3, q4, q5, q6, q7, q8, q9, q10, q11, q12, q13, q14, q15, q16, q17⟩ := kp18 hb q0 q1 q2 q3 q4 q5 q6 q7 q8 q9 q10 q11 q12 q13 q14 q15 q16 q17; clear hb))
            go_region_held3 (fun w' => w'.cell? ⟨V, 0, none⟩ = some (.int .u64 a) ∧ w'.cell? ⟨V, 1, none⟩ = some (.int .u64 b) ∧ w'.cell? ⟨V, 2, none⟩ = some (.int .u64 c) ∧ w'.cell? ⟨V, 3, none⟩ = some (.string p) ∧ w'.cell? ⟨V, 4, none⟩ = some (.string m) ∧ w'.cell? ⟨V, 5, none⟩ = some (.string o) ∧ w'.cell? ⟨U, 0, none⟩ = some (.int .u64 a2) ∧ w'.cell? ⟨U, 1, none⟩ = some (.int .u64 b2) ∧ w'.cell? ⟨U, 2, none⟩ = some (.int .u64 c2) ∧ w'.cell? ⟨U, 3, none⟩ = some (.string p2) ∧ w'.cell? ⟨U, 4, none⟩ = some (.string m2) ∧ w'.cell? ⟨U, 5, none⟩ = some (.string o2) ∧ w'.cell? ⟨C, 0, none⟩ = some (.pointer (some ⟨U, 0, none⟩)) ∧ w'.cell? ⟨C, 2, none⟩ = some (.string op) ∧ w'.cell? ⟨C, 3, none⟩ = some (.bool false) ∧ w'.cell? ⟨C, 4, none⟩ = some (.bool d) ∧ w'.cell? ⟨C, 5, none⟩ = some (.bool pd) ∧ Below w.heap.size w w') (refine ⟨?_, ?_, ?_, ?_, ?_, ?_, ?_, ?_, ?_, ?_, ?_, ?_, ?_, ?_, ?_, ?_, ?_, ?_⟩ <;> first | assumption | (rw [World.cell?_drew]; assumption) | (refine Below.drew ?_; assumption)) (first | (go_at_call 83; refine (tMajor _ _ _ _ _ _ _).mono ?_; rintro e w1 ⟨rfl, hb⟩; have HS2 : S3 w V U C a b c p m o a2 b2 c2 p2 m2 o2 op false d pd w1 := (by refine ⟨?_, ?_, ?_, ?_, ?_, ?_, ?_, ?_, ?_, ?_, ?_, ?_, ?_, ?_, ?_, ?_, ?_, ?_⟩ <;> first | exact keepc hb (by first | assumption | (rw [World.cell?_drew]; assumption)) | exact belk hb (by first | assumption | (refine Below.drew ?_; assumption))); clear hb; obtain ⟨q0, q1, q2, q3, q4, q5, q6, q7, q8, q9, q10, q11, q12, q13, q14, q15, q16, q17⟩ := HS2))
            go_wp2_with (go_at_call 28; refine (tErr _ _).mono ?_; rintro e w3 ⟨t3, a3, rfl, hb⟩; have hbb := belk hb (by first | assumption | (refine Below.drew ?_; assumption)); clear hb)
            all_goals (go_ret2; refine ret_bool (r := res) ?_ (by first | assumption | (refine Below.drew ?_; assumption)); rw [← HRES.out, tilde_nz (by have := HN.out; omega) HZZ.out, if_pos xa])
        · skip
          by_cases xa : a = a2
          · have za : ((a : Int) != (a2 : Int)) = false := by simp; omega
            by_cases xb : b = b2
            · have zb : ((b : Int) != (b2 : Int)) = false := by simp; omega
              go_upto_region 7 with (first | (go_at_call 81; refine (tPrere _ _ _ _ _ _ _).mono ?_; rintro e w1 ⟨rfl, hb⟩; obtain ⟨q0, q1, q2, q3, q4, q5, q6, q7, q8, q9, q10, q11, q12, q13, q14, q15, q16, q17⟩ := kp18 hb q0 q1 q2 q3 q4 q5 q6 q7 q8 q9 q10 q11 q12 q13 q14 q15 q16 q17; clear hb) | (go_at_call 83; refine (tMajor _ _ _ _ _ _ _).mono ?_; rintro e w1 ⟨rfl, hb⟩; obtain ⟨q0, q1, q2, q3, q4, q5, q6, q7, q8, q9, q10, q11, q12, q13, q14, q15, q16, q17⟩ := kp18 hb q0 q1 q2 q3 q4 q5 q6 q7 q8 q9 q10 q11 q12 q13 q14 q15 q16 q17; clear hb) | (go_at_call 84; refine (tMinor _ _ _ _ _ _ _).mono ?_; rintro e w1 ⟨rfl, hb⟩; obtain ⟨q0, q1, q2, q3, q4, q5, q6, q7, q8, q9, q10, q11, q12, q13, q14, q15, q16, q17⟩ := kp18 hb q0 q1 q2 q3 q4 q5 q6 q7 q8 q9 q10 q11 q12 q13 q14 q15 q16 q17; clear hb) | (go_at_call 85; refine (tPatch _ _ _ _ _ _ _).mono ?_; rintro e w1 ⟨rfl, hb⟩; obtain ⟨q0, q1, q2, q3, q4, q5, q6, q7, q8, q9, q10, q11, q12, q13, q14, q15, q16, q17⟩ := kp18 hb q0 q1 q2 q3 q4 q5 q6 q7 q8 q9 q10 q11 q12 q13 q14 q15 q16 q17; clear hb) | (go_at_call 88; refine (tLess _ V U a b c p m o a2 b2 c2 p2 m2 o2 ⟨q0, q1, q2, q3, q4, q5, q6, q7, q8, q9, q10, q11, Below.refl _ _⟩ hp rel hr).mono ?_; rintro e w2 ⟨rfl, hb⟩; rw [hlt]; obtain ⟨q0, q1, q2, q3, q4, q5, q6, q7, q8, q9, q10, q11, q12, q13, q14, q15, q16, q17⟩ := kp18 hb q0 q1 q2 q3 q4 q5 q6 q7 q8 q9 q10 q11 q12 q13 q14 q15 q16 q17; clear hb) | (go_at_call 28; refine (tErr _ _).mono ?_; rintro e w3 ⟨t3, a3, rfl, hb⟩; obtain ⟨q0, q1, q2, q3, q4, q5, q6, q7, q8, q9, q10, q11, q12, q13, q14, q15, q16, q17⟩ := kp18 hb q0 q1 q2 q3 q4 q5 q6 q7 q8 q9 q10 q11 q12 q13 q14 q15 q16 q17; clear hb))
              go_region_held3 (fun w' => w'.cell? ⟨V, 0, none⟩ = some (.int .u64 a) ∧ w'.cell? ⟨V, 1, none⟩ = some (.int .u64 b) ∧ w'.cell? ⟨V, 2, none⟩ = some (.int .u64 c) ∧ w'.cell? ⟨V, 3, none⟩ = some (.string p) ∧ w'.cell? ⟨V, 4, none⟩ = some (.string m) ∧ w'.cell? ⟨V, 5, none⟩ = some (.string o) ∧ w'.cell? ⟨U, 0, none⟩ = some (.int .u64 a2) ∧ w'.cell? ⟨U, 1, none⟩ = some (.int .u64 b2) ∧ w'.cell? ⟨U, 2, none⟩ = some (.int .u64 c2) ∧ w'.cell? ⟨U, 3, none⟩ = some (.string p2) ∧ w'.cell? ⟨U, 4, none⟩ = some (.string m2) ∧ w'.cell? ⟨U, 5, none⟩ = some (.string o2) ∧ w'.cell? ⟨C, 0, none⟩ = some (.pointer (some ⟨U, 0, none⟩)) ∧ w'.cell? ⟨C, 2, none⟩ = some (.string op) ∧ w'.cell? ⟨C, 3, none⟩ = some (.bool true) ∧ w'.cell? ⟨C, 4, none⟩ = some (.bool d) ∧ w'.cell? ⟨C, 5, none⟩ = some (.bool pd) ∧ Below w.heap.size w w') (refine ⟨?_, ?_, ?_, ?_, ?_, ?_, ?_, ?_, ?_, ?_, ?_, ?_, ?_, ?_, ?_, ?_, ?_, ?_⟩ <;> first | assumption | (rw [World.cell?_drew]; assumption) | (refine Below.drew ?_; assumption)) (first | (go_at_call 83; refine (tMajor _ _ _ _ _ _ _).mono ?_; rintro e w1 ⟨rfl, hb⟩; have HS2 : S3 w V U C a b c p m o a2 b2 c2 p2 m2 o2 op true d pd w1 := (by refine ⟨?_, ?_, ?_, ?_, ?_, ?_, ?_, ?_, ?_, ?_, ?_, ?_, ?_, ?_, ?_, ?_, ?_, ?_⟩ <;> first | exact keepc hb (by first | assumption | (rw [World.cell?_drew]; assumption)) | exact belk hb (by first | assumption | (refine Below.drew ?_; assumption))); clear hb; obtain ⟨q0, q1, q2, q3, q4, q5, q6, q7, q8, q9, q10, q11, q12, q13, q14, q15, q16, q17⟩ := HS2))
              go_upto_region 9 with (go_at_call 28; refine (tErr _ _).mono ?_; rintro e w3 ⟨t3, a3, rfl, hb⟩; have hbb := belk hb (by first | assumption | (refine Below.drew ?_; assumption)); clear hb)
              refine wp_region_held_drew (S := (fun w' => w'.cell? ⟨V, 0, none⟩ = some (.int .u64 a) ∧ w'.cell? ⟨V, 1, none⟩ = some (.int .u64 b) ∧ w'.cell? ⟨V, 2, none⟩ = some (.int .u64 c) ∧ w'.cell? ⟨V, 3, none⟩ = some (.string p) ∧ w'.cell? ⟨V, 4, none⟩ = some (.string m) ∧ w'.cell? ⟨V, 5, none⟩ = some (.string o) ∧ w'.cell? ⟨U, 0, none⟩ = some (.int .u64 a2) ∧ w'.cell? ⟨U, 1, none⟩ = some (.int .u64 b2) ∧ w'.cell? ⟨U, 2, none⟩ = some (.int .u64 c2) ∧ w'.cell? ⟨U, 3, none⟩ = some (.string p2) ∧ w'.cell? ⟨U, 4, none⟩ = some (.string m2) ∧ w'.cell? ⟨U, 5, none⟩ = some (.string o2) ∧ w'.cell? ⟨C, 0, none⟩ = some (.pointer (some ⟨U, 0, none⟩)) ∧ w'.cell? ⟨C, 2, none⟩ = some (.string op) ∧ w'.cell? ⟨C, 3, none⟩ = some (.bool true) ∧ w'.cell? ⟨C, 4, none⟩ = some (.bool d) ∧ w'.cell? ⟨C, 5, none⟩ = some (.bool pd) ∧ Below w.heap.size w w')) (by kernel_rfl) ⟨by first | assumption | (rw [World.cell?_drew]; assumption), by first | assumption | (rw [World.cell?_drew]; assumption), by first | assumption | (rw [World.cell?_drew]; assumption), by first | assumption | (rw [World.cell?_drew]; assumption), by first | assumption | (rw [World.cell?_drew]; assumption), by first | assumption | (rw [World.cell?_drew]; assumption), by first | assumption | (rw [World.cell?_drew]; assumption), by first | assumption | (rw [World.cell?_drew]; assumption), by first | assumption | (rw [World.cell?_drew]; assumption), by first | assumption | (rw [World.cell?_drew]; assumption), by first | assumption | (rw [World.cell?_drew]; assumption), by first | assumption | (rw [World.cell?_drew]; assumption), by first | assumption | (rw [World.cell?_drew]; assumption), by first | assumption | (rw [World.cell?_drew]; assumption), by first | assumption | (rw [World.cell?_drew]; assumption), by first | assumption | (rw [World.cell?_drew]; assumption), by first | assumption | (rw [World.cell?_drew]; assumption), by first | assumption | (refine Below.drew ?_; assumption)⟩ (fun hHeld => ?_)
              refine wpAnyH_take (i := 0) (oi := { dst := some 80, op := Op.move (Operand.tmp 0), type := 53, pos := "constraints.go:474", after := #[], guard := none }) (v := ?_) rfl (by kernel_rfl) (by kernel_rfl) (by kernel_rfl) (fun _ _ _ h => h) (Or.inl ⟨by rfl, ?_⟩) (by assumption) ?_
              rotate_left
              · intro W hSw
                clear hSw
                go_simp
                try with_reducible rfl
              try simp only [Act.put, List.setIfInBounds_toArray, List.set_cons_zero, List.set_cons_succ]
              refine wpAnyH_take (i := 1) (oi := { dst := some 81, op := Op.nilCheck (Operand.tmp 80), type := 0, pos := "constraints.go:474", after := #[{ on := 0, ground := Ground.data }], guard := none }) (v := ?_) rfl (by kernel_rfl) (by kernel_rfl) (by kernel_rfl) (fun _ _ _ h => h) (Or.inl ⟨by rfl, ?_⟩) (by assumption) ?_
              rotate_left
              · intro W hSw
                clear hSw
                go_simp
                try with_reducible rfl
              try simp only [Act.put, List.setIfInBounds_toArray, List.set_cons_zero, List.set_cons_succ]
              refine wpAnyH_take (i := 2) (oi := { dst := some 82, op := Op.load 71 (Operand.tmp 81), type := 71, pos := "constraints.go:474", after := #[{ on := 1, ground := Ground.data }], guard := none }) (v := ?_) rfl (by kernel_rfl) (by kernel_rfl) (by kernel_rfl) (fun _ _ _ h => h) (Or.inl ⟨by rfl, ?_⟩) (by assumption) ?_
              rotate_left
              · intro W hSw
                obtain ⟨s0, s1, s2, s3, s4, s5, s6, s7, s8, s9, s10, s11, s12, s13, s14, s15, s16, s17⟩ := hSw
                go_simp
                try with_reducible rfl
              try simp only [Act.put, List.setIfInBounds_toArray, List.set_cons_zero, List.set_cons_succ]
              refine wpAnyH_take (i := 4) (oi := { dst := some 84, op := Op.move (Operand.tmp 1), type := 67, pos := "constraints.go:474", after := #[], guard := none }) (v := ?_) rfl (by kernel_rfl) (by kernel_rfl) (by kernel_rfl) (fun _ _ _ h => h) (Or.inl ⟨by rfl, ?_⟩) (by assumption) ?_
              rotate_left
              · intro W hSw
                clear hSw
                go_simp
                try with_reducible rfl
              try simp only [Act.put, List.setIfInBounds_toArray, List.set_cons_zero, List.set_cons_succ]
              refine wpAnyH_take (i := 5) (oi := { dst := some 85, op := Op.nilCheck (Operand.tmp 84), type := 0, pos := "constraints.go:474", after := #[{ on := 4, ground := Ground.data }], guard := none }) (v := ?_) rfl (by kernel_rfl) (by kernel_rfl) (by kernel_rfl) (fun _ _ _ h => h) (Or.inl ⟨by rfl, ?_⟩) (by assumption) ?_
              rotate_left
              · intro W hSw
                clear hSw
                go_simp
                try with_reducible rfl
              try simp only [Act.put, List.setIfInBounds_toArray, List.set_cons_zero, List.set_cons_succ]
              refine wpAnyH_take (i := 6) (oi := { dst := some 86, op := Op.fieldAddr 73 (Operand.tmp 85) 0, type := 0, pos := "constraints.go:474", after := #[{ on := 5, ground := Ground.data }], guard := none }) (v := ?_) rfl (by kernel_rfl) (by kernel_rfl) (by kernel_rfl) (fun _ _ _ h => h) (Or.inl ⟨by rfl, ?_⟩) (by assumption) ?_
              rotate_left
              · intro W hSw
                clear hSw
                go_simp
                try with_reducible rfl
              try simp only [Act.put, List.setIfInBounds_toArray, List.set_cons_zero, List.set_cons_succ]
              refine wpAnyH_take (i := 7) (oi := { dst := some 87, op := Op.load 53 (Operand.tmp 86), type := 53, pos := "constraints.go:474", after := #[{ on := 6, ground := Ground.data }], guard := none }) (v := ?_) rfl (by kernel_rfl) (by kernel_rfl) (by kernel_rfl) (fun _ _ _ h => h) (Or.inl ⟨by rfl, ?_⟩) (by assumption) ?_
              rotate_left
              · intro W hSw
                obtain ⟨s0, s1, s2, s3, s4, s5, s6, s7, s8, s9, s10, s11, s12, s13, s14, s15, s16, s17⟩ := hSw
                go_simp
                try with_reducible rfl
              try simp only [Act.put, List.setIfInBounds_toArray, List.set_cons_zero, List.set_cons_succ]
              refine wpAnyH_take (i := 8) (oi := { dst := some 88, op := Op.nilCheck (Operand.tmp 87), type := 0, pos := "constraints.go:474", after := #[{ on := 7, ground := Ground.data }], guard := none }) (v := ?_) rfl (by kernel_rfl) (by kernel_rfl) (by kernel_rfl) (fun _ _ _ h => h) (Or.inl ⟨by rfl, ?_⟩) (by assumption) ?_
              rotate_left
              · intro W hSw
                clear hSw
                go_simp
                try with_reducible rfl
              try simp only [Act.put, List.setIfInBounds_toArray, List.set_cons_zero, List.set_cons_succ]
              refine wpAnyH_take (i := 9) (oi := { dst := some 89, op := Op.load 71 (Operand.tmp 88), type := 71, pos := "constraints.go:474", after := #[{ on := 8, ground := Ground.data }], guard := none }) (v := ?_) rfl (by kernel_rfl) (by kernel_rfl) (by kernel_rfl) (fun _ _ _ h => h) (Or.inl ⟨by rfl, ?_⟩) (by assumption) ?_
              rotate_left
              · intro W hSw
                obtain ⟨s0, s1, s2, s3, s4, s5, s6, s7, s8, s9, s10, s11, s12, s13, s14, s15, s16, s17⟩ := hSw
                go_simp
                try with_reducible rfl
              try simp only [Act.put, List.setIfInBounds_toArray, List.set_cons_zero, List.set_cons_succ]
              refine wpAnyH_ready (rs := [3]) (by kernel_rfl) (by simp) ?_
              refine (AllReadyH.cons (o := { dst := some 83, op := Op.call { callee := Callee.value (Operand.func 84), args := #[Operand.tmp 82], argTypes := #[53] }, type := 23, pos := "constraints.go:474", after := #[{ on := 2, ground := Ground.data }], guard := none }) rfl (fun K hK => ?_) AllReadyH.nil)
              go_simp
              (go_at_call 84; refine (tMinor _ _ _ _ _ _ _).mono ?_; rintro e w1 ⟨rfl, hb⟩; have HS2 : S3 w V U C a b c p m o a2 b2 c2 p2 m2 o2 op true d pd w1 := (by refine ⟨?_, ?_, ?_, ?_, ?_, ?_, ?_, ?_, ?_, ?_, ?_, ?_, ?_, ?_, ?_, ?_, ?_, ?_⟩ <;> first | exact keepc hb (by first | assumption | (rw [World.cell?_drew]; assumption)) | exact belk hb (by first | assumption | (refine Below.drew ?_; assumption))); clear hb; obtain ⟨q0, q1, q2, q3, q4, q5, q6, q7, q8, q9, q10, q11, q12, q13, q14, q15, q16, q17⟩ := HS2)
              refine hK.out _ _ ⟨by assumption, by assumption, by assumption, by assumption, by assumption, by assumption, by assumption, by assumption, by assumption, by assumption, by assumption, by assumption, by assumption, by assumption, by assumption, by assumption, by assumption, by assumption⟩ (fun hHeld => ?_)
              clear hK K
              try simp only [Act.put, List.setIfInBounds_toArray, List.set_cons_zero, List.set_cons_succ]
              refine wpAnyH_ready (rs := [10]) (by kernel_rfl) (by simp) ?_
              refine (AllReadyH.cons (o := { dst := some 90, op := Op.call { callee := Callee.value (Operand.func 84), args := #[Operand.tmp 89], argTypes := #[53] }, type := 23, pos := "constraints.go:474", after := #[{ on := 9, ground := Ground.data }, { on := 3, ground := Ground.chain }], guard := none }) rfl (fun K hK => ?_) AllReadyH.nil)
              go_simp
              (go_at_call 84; refine (tMinor _ _ _ _ _ _ _).mono ?_; rintro e w1 ⟨rfl, hb⟩; have HS2 : S3 w V U C a b c p m o a2 b2 c2 p2 m2 o2 op true d pd w1 := (by refine ⟨?_, ?_, ?_, ?_, ?_, ?_, ?_, ?_, ?_, ?_, ?_, ?_, ?_, ?_, ?_, ?_, ?_, ?_⟩ <;> first | exact keepc hb (by first | assumption | (rw [World.cell?_drew]; assumption)) | exact belk hb (by first | assumption | (refine Below.drew ?_; assumption))); clear hb; obtain ⟨q0, q1, q2, q3, q4, q5, q6, q7, q8, q9, q10, q11, q12, q13, q14, q15, q16, q17⟩ := HS2)
              refine hK.out _ _ ⟨by assumption, by assumption, by assumption, by assumption, by assumption, by assumption, by assumption, by assumption, by assumption, by assumption, by assumption, by assumption, by assumption, by assumption, by assumption, by assumption, by assumption, by assumption⟩ (fun hHeld => ?_)
              clear hK K
              try simp only [Act.put, List.setIfInBounds_toArray, List.set_cons_zero, List.set_cons_succ]
              refine wpAnyH_take (i := 11) (oi := { dst := some 91, op := Op.binOp BinOp.neq 23 (Operand.tmp 83) (Operand.tmp 90) 23, type := 4, pos := "constraints.go:474", after := #[{ on := 3, ground := Ground.data }, { on := 10, ground := Ground.data }], guard := none }) (v := ?_) rfl (by kernel_rfl) (by kernel_rfl) (by kernel_rfl) (fun _ _ _ h => h) (Or.inl ⟨by rfl, ?_⟩) (by assumption) ?_
              rotate_left
              · intro W hSw
                clear hSw
                go_simp
                try with_reducible rfl
              try simp only [Act.put, List.setIfInBounds_toArray, List.set_cons_zero, List.set_cons_succ]
              refine wpAnyH_take (i := 12) (oi := { dst := some 92, op := Op.move (Operand.tmp 91), type := 4, pos := "constraints.go:474", after := #[{ on := 11, ground := Ground.data }, { on := 10, ground := Ground.chain }], guard := none }) (v := ?_) rfl (by kernel_rfl) (by kernel_rfl) (by kernel_rfl) (fun _ _ _ h => h) (Or.inl ⟨by rfl, ?_⟩) (by assumption) ?_
              rotate_left
              · intro W hSw
                clear hSw
                go_simp
                try with_reducible rfl
              try simp only [Act.put, List.setIfInBounds_toArray, List.set_cons_zero, List.set_cons_succ]
              refine wpAnyH_take (i := 13) (oi := { dst := some 93, op := Op.move (Operand.tmp 1), type := 67, pos := "constraints.go:474", after := #[{ on := 12, ground := Ground.guard }], guard := some (12, true) }) (v := undef) rfl (by kernel_rfl) (by kernel_rfl) (by kernel_rfl) (fun _ _ _ h => h) (Or.inr ⟨by rfl, rfl⟩) (by assumption) ?_
              try simp only [Act.put, List.setIfInBounds_toArray, List.set_cons_zero, List.set_cons_succ]
              refine wpAnyH_take (i := 14) (oi := { dst := some 94, op := Op.nilCheck (Operand.tmp 93), type := 0, pos := "constraints.go:474", after := #[{ on := 13, ground := Ground.data }, { on := 12, ground := Ground.guard }], guard := some (12, true) }) (v := undef) rfl (by kernel_rfl) (by kernel_rfl) (by kernel_rfl) (fun _ _ _ h => h) (Or.inr ⟨by rfl, rfl⟩) (by assumption) ?_
              try simp only [Act.put, List.setIfInBounds_toArray, List.set_cons_zero, List.set_cons_succ]
              refine wpAnyH_take (i := 15) (oi := { dst := some 95, op := Op.fieldAddr 73 (Operand.tmp 94) 3, type := 0, pos := "constraints.go:474", after := #[{ on := 14, ground := Ground.data }, { on := 12, ground := Ground.guard }], guard := some (12, true) }) (v := undef) rfl (by kernel_rfl) (by kernel_rfl) (by kernel_rfl) (fun _ _ _ h => h) (Or.inr ⟨by rfl, rfl⟩) (by assumption) ?_
              try simp only [Act.put, List.setIfInBounds_toArray, List.set_cons_zero, List.set_cons_succ]
              refine wpAnyH_take (i := 16) (oi := { dst := some 96, op := Op.load 4 (Operand.tmp 95), type := 4, pos := "constraints.go:474", after := #[{ on := 15, ground := Ground.data }, { on := 12, ground := Ground.guard }], guard := some (12, true) }) (v := undef) rfl (by kernel_rfl) (by kernel_rfl) (by kernel_rfl) (fun _ _ _ h => h) (Or.inr ⟨by rfl, rfl⟩) (by assumption) ?_
              try simp only [Act.put, List.setIfInBounds_toArray, List.set_cons_zero, List.set_cons_succ]
              refine wpAnyH_take (i := 17) (oi := { dst := some 97, op := Op.unOp UnOp.not 4 (Operand.tmp 96), type := 4, pos := "constraints.go:474", after := #[{ on := 16, ground := Ground.data }, { on := 12, ground := Ground.guard }], guard := some (12, true) }) (v := undef) rfl (by kernel_rfl) (by kernel_rfl) (by kernel_rfl) (fun _ _ _ h => h) (Or.inr ⟨by rfl, rfl⟩) (by assumption) ?_
              try simp only [Act.put, List.setIfInBounds_toArray, List.set_cons_zero, List.set_cons_succ]
              refine wpAnyH_take (i := 18) (oi := { dst := some 98, op := Op.pick (Operand.tmp 92) (Operand.tmp 97) (Operand.const (Value.bool false)), type := 4, pos := "constraints.go:474", after := #[{ on := 12, ground := Ground.data }, { on := 17, ground := Ground.data }], guard := none }) (v := ?_) rfl (by kernel_rfl) (by kernel_rfl) (by kernel_rfl) (fun _ _ _ h => h) (Or.inl ⟨by rfl, ?_⟩) (by assumption) ?_
              rotate_left
              · intro W hSw
                clear hSw
                go_simp
                try with_reducible rfl
              try simp only [Act.put, List.setIfInBounds_toArray, List.set_cons_zero, List.set_cons_succ]
              refine wpAnyH_done (by kernel_rfl) ?_ _
              go_wp2_with (go_at_call 28; refine (tErr _ _).mono ?_; rintro e w3 ⟨t3, a3, rfl, hb⟩; have hbb := belk hb (by first | assumption | (refine Below.drew ?_; assumption)); clear hb)
              all_goals (go_ret2; refine ret_bool (r := res) ?_ (by first | assumption | (refine Below.drew ?_; assumption)); rw [← HRES.out, tilde_nz (by have := HN.out; omega) HZZ.out, if_neg (by simp [xa]), if_neg (by simp [xb])])
            · have zb : ((b : Int) != (b2 : Int)) = true := by simp; omega
              go_upto_region 7 with (first | (go_at_call 81; refine (tPrere _ _ _ _ _ _ _).mono ?_; rintro e w1 ⟨rfl, hb⟩; obtain ⟨q0, q1, q2, q3, q4, q5, q6, q7, q8, q9, q10, q11, q12, q13, q14, q15, q16, q17⟩ := kp18 hb q0 q1 q2 q3 q4 q5 q6 q7 q8 q9 q10 q11 q12 q13 q14 q15 q16 q17; clear hb) | (go_at_call 83; refine (tMajor _ _ _ _ _ _ _).mono ?_; rintro e w1 ⟨rfl, hb⟩; obtain ⟨q0, q1, q2, q3, q4, q5, q6, q7, q8, q9, q10, q11, q12, q13, q14, q15, q16, q17⟩ := kp18 hb q0 q1 q2 q3 q4 q5 q6 q7 q8 q9 q10 q11 q12 q13 q14 q15 q16 q17; clear hb) | (go_at_call 84; refine (tMinor _ _ _ _ _ _ _).mono ?_; rintro e w1 ⟨rfl, hb⟩; obtain ⟨q0, q1, q2, q3, q4, q5, q6, q7, q8, q9, q10, q11, q12, q13, q14, q15, q16, q17⟩ := kp18 hb q0 q1 q2 q3 q4 q5 q6 q7 q8 q9 q10 q11 q12 q13 q14 q15 q16 q17; clear hb) | (go_at_call 85; refine (tPatch _ _ _ _ _ _ _).mono ?_; rintro e w1 ⟨rfl, hb⟩; obtain ⟨q0, q1, q2, q3, q4, q5, q6, q7, q8, q9, q10, q11, q12, q13, q14, q15, q16, q17⟩ := kp18 hb q0 q1 q2 q3 q4 q5 q6 q7 q8 q9 q10 q11 q12 q13 q14 q15 q16 q17; clear hb) | (go_at_call 88; refine (tLess _ V U a b c p m o a2 b2 c2 p2 m2 o2 ⟨q0, q1, q2, q3, q4, q5, q6, q7, q8, q9, q10, q11, Below.refl _ _⟩ hp rel hr).mono ?_; rintro e w2 ⟨rfl, hb⟩; rw [hlt]; obtain ⟨q0, q1, q2, q3, q4, q5, q6, q7, q8, q9, q10, q11, q12, q13, q14, q15, q16, q17⟩ := kp18 hb q0 q1 q2 q3 q4 q5 q6 q7 q8 q9 q10 q11 q12 q13 q14 q15 q16 q17; clear hb) | (go_at_call 28; refine (tErr _ _).mono ?_; rintro e w3 ⟨t3, a3, rfl, hb⟩; obtain ⟨q0, q1, q2, q3, q4, q5, q6, q7, q8, q9, q10, q11, q12, q13, q14, q15, q16, q17⟩ := kp18 hb q0 q1 q2 q3 q4 q5 q6 q7 q8 q9 q10 q11 q12 q13 q14 q15 q16 q17; clear hb))
              go_region_held3 (fun w' => w'.cell? ⟨V, 0, none⟩ = some (.int .u64 a) ∧ w'.cell? ⟨V, 1, none⟩ = some (.int .u64 b) ∧ w'.cell? ⟨V, 2, none⟩ = some (.int .u64 c) ∧ w'.cell? ⟨V, 3, none⟩ = some (.string p) ∧ w'.cell? ⟨V, 4, none⟩ = some (.string m) ∧ w'.cell? ⟨V, 5, none⟩ = some (.string o) ∧ w'.cell? ⟨U, 0, none⟩ = some (.int .u64 a2) ∧ w'.cell? ⟨U, 1, none⟩ = some (.int .u64 b2) ∧ w'.cell? ⟨U, 2, none⟩ = some (.int .u64 c2) ∧ w'.cell? ⟨U, 3, none⟩ = some (.string p2) ∧ w'.cell? ⟨U, 4, none⟩ = some (.string m2) ∧ w'.cell? ⟨U, 5, none⟩ = some (.string o2) ∧ w'.cell? ⟨C, 0, none⟩ = some (.pointer (some ⟨U, 0, none⟩)) ∧ w'.cell? ⟨C, 2, none⟩ = some (.string op) ∧ w'.cell? ⟨C, 3, none⟩ = some (.bool true) ∧ w'.cell? ⟨C, 4, none⟩ = some (.bool d) ∧ w'.cell? ⟨C, 5, none⟩ = some (.bool pd) ∧ Below w.heap.size w w') (refine ⟨?_, ?_, ?_, ?_, ?_, ?_, ?_, ?_, ?_, ?_, ?_, ?_, ?_, ?_, ?_, ?_, ?_, ?_⟩ <;> first | assumption | (rw [World.cell?_drew]; assumption) | (refine Below.drew ?_; assumption)) (first | (go_at_call 83; refine (tMajor _ _ _ _ _ _ _).mono ?_; rintro e w1 ⟨rfl, hb⟩; have HS2 : S3 w V U C a b c p m o a2 b2 c2 p2 m2 o2 op true d pd w1 := (by refine ⟨?_, ?_, ?_, ?_, ?_, ?_, ?_, ?_, ?_, ?_, ?_, ?_, ?_, ?_, ?_, ?_, ?_, ?_⟩ <;> first | exact keepc hb (by first | assumption | (rw [World.cell?_drew]; assumption)) | exact belk hb (by first | assumption | (refine Below.drew ?_; assumption))); clear hb; obtain ⟨q0, q1, q2, q3, q4, q5, q6, q7, q8, q9, q10, q11, q12, q13, q14, q15, q16, q17⟩ := HS2))
              go_upto_region 9 with (go_at_call 28; refine (tErr _ _).mono ?_; rintro e w3 ⟨t3, a3, rfl, hb⟩; have hbb := belk hb (by first | assumption | (refine Below.drew ?_; assumption)); clear hb)
              go_region_held3 (fun w' => w'.cell? ⟨V, 0, none⟩ = some (.int .u64 a) ∧ w'.cell? ⟨V, 1, none⟩ = some (.int .u64 b) ∧ w'.cell? ⟨V, 2, none⟩ = some (.int .u64 c) ∧ w'.cell? ⟨V, 3, none⟩ = some (.string p) ∧ w'.cell? ⟨V, 4, none⟩ = some (.string m) ∧ w'.cell? ⟨V, 5, none⟩ = some (.string o) ∧ w'.cell? ⟨U, 0, none⟩ = some (.int .u64 a2) ∧ w'.cell? ⟨U, 1, none⟩ = some (.int .u64 b2) ∧ w'.cell? ⟨U, 2, none⟩ = some (.int .u64 c2) ∧ w'.cell? ⟨U, 3, none⟩ = some (.string p2) ∧ w'.cell? ⟨U, 4, none⟩ = some (.string m2) ∧ w'.cell? ⟨U, 5, none⟩ = some (.string o2) ∧ w'.cell? ⟨C, 0, none⟩ = some (.pointer (some ⟨U, 0, none⟩)) ∧ w'.cell? ⟨C, 2, none⟩ = some (.string op) ∧ w'.cell? ⟨C, 3, none⟩ = some (.bool true) ∧ w'.cell? ⟨C, 4, none⟩ = some (.bool d) ∧ w'.cell? ⟨C, 5, none⟩ = some (.bool pd) ∧ Below w.heap.size w w') (refine ⟨?_, ?_, ?_, ?_, ?_, ?_, ?_, ?_, ?_, ?_, ?_, ?_, ?_, ?_, ?_, ?_, ?_, ?_⟩ <;> first | assumption | (rw [World.cell?_drew]; assumption) | (refine Below.drew ?_; assumption)) (first | (go_at_call 84; refine (tMinor _ _ _ _ _ _ _).mono ?_; rintro e w1 ⟨rfl, hb⟩; have HS2 : S3 w V U C a b c p m o a2 b2 c2 p2 m2 o2 op true d pd w1 := (by refine ⟨?_, ?_, ?_, ?_, ?_, ?_, ?_, ?_, ?_, ?_, ?_, ?_, ?_, ?_, ?_, ?_, ?_, ?_⟩ <;> first | exact keepc hb (by first | assumption | (rw [World.cell?_drew]; assumption)) | exact belk hb (by first | assumption | (refine Below.drew ?_; assumption))); clear hb; obtain ⟨q0, q1, q2, q3, q4, q5, q6, q7, q8, q9, q10, q11, q12, q13, q14, q15, q16, q17⟩ := HS2))
              go_wp2_with (go_at_call 28; refine (tErr _ _).mono ?_; rintro e w3 ⟨t3, a3, rfl, hb⟩; have hbb := belk hb (by first | assumption | (refine Below.drew ?_; assumption)); clear hb)
              all_goals (go_ret2; refine ret_bool (r := res) ?_ (by first | assumption | (refine Below.drew ?_; assumption)); rw [← HRES.out, tilde_nz (by have := HN.out; omega) HZZ.out, if_neg (by simp [xa])])
              all_goals first | rw [if_pos ⟨xb, rfl⟩] | rw [if_neg (by simp)]
          · have za : ((a : Int) != (a2 : Int)) = true := by simp; omega
            go_upto_region 7 with (first | (go_at_call 81; refine (tPrere _ _ _ _ _ _ _).mono ?_; rintro e w1 ⟨rfl, hb⟩; obtain ⟨q0, q1, q2, q3, q4, q5, q6, q7, q8, q9, q10, q11, q12, q13, q14, q15, q16, q17⟩ := kp18 hb q0 q1 q2 q3 q4 q5 q6 q7 q8 q9 q10 q11 q12 q13 q14 q15 q16 q17; clear hb) | (go_at_call 83; refine (tMajor _ _ _ _ _ _ _).mono ?_; rintro e w1 ⟨rfl, hb⟩; obtain ⟨q0, q1, q2, q3, q4, q5, q6, q7, q8, q9, q10, q11, q12, q13, q14, q15, q16, q17⟩ := kp18 hb q0 q1 q2 q3 q4 q5 q6 q7 q8 q9 q10 q11 q12 q13 q14 q15 q16 q17; clear hb) | (go_at_call 84; refine (tMinor _ _ _ _ _ _ _).mono ?_; rintro e w1 ⟨rfl, hb⟩; obtain ⟨q0, q1, q2, q3, q4, q5, q6, q7, q8, q9, q10, q11, q12, q13, q14, q15, q16, q17⟩ := kp18 hb q0 q1 q2 q3 q4 q5 q6 q7 q8 q9 q10 q11 q12 q13 q14 q15 q16 q17; clear hb) | (go_at_call 85; refine (tPatch _ _ _ _ _ _ _).mono ?_; rintro e w1 ⟨rfl, hb⟩; obtain ⟨q0, q1, q2, q3, q4, q5, q6, q7, q8, q9, q10, q11, q12, q13, q14, q15, q16, q17⟩ := kp18 hb q0 q1 q2 q3 q4 q5 q6 q7 q8 q9 q10 q11 q12 q13 q14 q15 q16 q17; clear hb) | (go_at_call 88; refine (tLess _ V U a b c p m o a2 b2 c2 p2 m2 o2 ⟨q0, q1, q2, q3, q4, q5, q6, q7, q8, q9, q10, q11, Below.refl _ _⟩ hp rel hr).mono ?_; rintro e w2 ⟨rfl, hb⟩; rw [hlt]; obtain ⟨q0, q1, q2, q3, q4, q5, q6, q7, q8, q9, q10, q11, q12, q13, q14, q15, q16, q17⟩ := kp18 hb q0 q1 q2 q3 q4 q5 q6 q7 q8 q9 q10 q11 q12 q13 q14 q15 q16 q17; clear hb) | (go_at_call 28; refine (tErr _ _).mono ?_; rintro e w3 ⟨t3, a3, rfl, hb⟩; obtain ⟨q0, q1, q2, q3, q4, q5, q6, q7, q8, q9, q10, q11, q12, q13, q14, q15, q16, q17⟩ := kp18 hb q0 q1 q2 q3 q4 q5 q6 q7 q8 q9 q10 q11 q12 q13 q14 q15 q16 q17; clear hb))
            go_region_held3 (fun w' => w'.cell? ⟨V, 0, none⟩ = some (.int .u64 a) ∧ w'.cell? ⟨V, 1, none⟩ = some (.int .u64 b) ∧ w'.cell? ⟨V, 2, none⟩ = some (.int .u64 c) ∧ w'.cell? ⟨V, 3, none⟩ = some (.string p) ∧ w'.cell? ⟨V, 4, none⟩ = some (.string m) ∧ w'.cell? ⟨V, 5, none⟩ = some (.string o) ∧ w'.cell? ⟨U, 0, none⟩ = some (.int .u64 a2) ∧ w'.cell? ⟨U, 1, none⟩ = some (.int .u64 b2) ∧ w'.cell? ⟨U, 2, none⟩ = some (.int .u64 c2) ∧ w'.cell? ⟨U, 3, none⟩ = some (.string p2) ∧ w'.cell? ⟨U, 4, none⟩ = some (.string m2) ∧ w'.cell? ⟨U, 5, none⟩ = some (.string o2) ∧ w'.cell? ⟨C, 0, none⟩ = some (.pointer (some ⟨U, 0, none⟩)) ∧ w'.cell? ⟨C, 2, none⟩ = some (.string op) ∧ w'.cell? ⟨C, 3, none⟩ = some (.bool true) ∧ w'.cell? ⟨C, 4, none⟩ = some (.bool d) ∧ w'.cell? ⟨C, 5, none⟩ = some (.bool pd) ∧ Below w.heap.size w w') (refine ⟨?_, ?_, ?_, ?_, ?_, ?_, ?_, ?_, ?_, ?_, ?_, ?_, ?_, ?_, ?_, ?_, ?_, ?_⟩ <;> first | assumption | (rw [World.cell?_drew]; assumption) | (refine Below.drew ?_; assumption)) (first | (go_at_call 83; refine (tMajor _ _ _ _ _ _ _).mono ?_; rintro e w1 ⟨rfl, hb⟩; have HS2 : S3 w V U C a b c p m o a2 b2 c2 p2 m2 o2 op true d pd w1 := (by refine ⟨?_, ?_, ?_, ?_, ?_, ?_, ?_, ?_, ?_, ?_, ?_, ?_, ?_, ?_, ?_, ?_, ?_, ?_⟩ <;> first | exact keepc hb (by first | assumption | (rw [World.cell?_drew]; assumption)) | exact belk hb (by first | assumption | (refine Below.drew ?_; assumption))); clear hb; obtain ⟨q0, q1, q2, q3, q4, q5, q6, q7, q8, q9, q10, q11, q12, q13, q14, q15, q16, q17⟩ := HS2))
            go_wp2_with (go_at_call 28; refine (tErr _ _).mono ?_; rintro e w3 ⟨t3, a3, rfl, hb⟩; have hbb := belk hb (by first | assumption | (refine Below.drew ?_; assumption)); clear hb)
            all_goals (go_ret2; refine ret_bool (r := res) ?_ (by first | assumption | (refine Below.drew ?_; assumption)); rw [← HRES.out, tilde_nz (by have := HN.out; omega) HZZ.out, if_pos xa])
      · go_wp2
        all_goals (go_ret2; refine ret_bool (r := res) ?_ (by assumption); rw [← HRES.out, tilde_z (by have := HN.out; omega) HZZ.out])
  · go_wp2_with (first | (go_at_call 81; refine (tPrere _ _ _ _ _ _ _).mono ?_; rintro e w1 ⟨rfl, hb⟩; obtain ⟨q0, q1, q2, q3, q4, q5, q6, q7, q8, q9, q10, q11, q12, q13, q14, q15, q16, q17⟩ := kp18 hb q0 q1 q2 q3 q4 q5 q6 q7 q8 q9 q10 q11 q12 q13 q14 q15 q16 q17; clear hb) | (go_at_call 83; refine (tMajor _ _ _ _ _ _ _).mono ?_; rintro e w1 ⟨rfl, hb⟩; obtain ⟨q0, q1, q2, q3, q4, q5, q6, q7, q8, q9, q10, q11, q12, q13, q14, q15, q16, q17⟩ := kp18 hb q0 q1 q2 q3 q4 q5 q6 q7 q8 q9 q10 q11 q12 q13 q14 q15 q16 q17; clear hb) | (go_at_call 84; refine (tMinor _ _ _ _ _ _ _).mono ?_; rintro e w1 ⟨rfl, hb⟩; obtain ⟨q0, q1, q2, q3, q4, q5, q6, q7, q8, q9, q10, q11, q12, q13, q14, q15, q16, q17⟩ := kp18 hb q0 q1 q2 q3 q4 q5 q6 q7 q8 q9 q10 q11 q12 q13 q14 q15 q16 q17; clear hb) | (go_at_call 85; refine (tPatch _ _ _ _ _ _ _).mono ?_; rintro e w1 ⟨rfl, hb⟩; obtain ⟨q0, q1, q2, q3, q4, q5, q6, q7, q8, q9, q10, q11, q12, q13, q14, q15, q16, q17⟩ := kp18 hb q0 q1 q2 q3 q4 q5 q6 q7 q8 q9 q10 q11 q12 q13 q14 q15 q16 q17; clear hb) | (go_at_call 88; refine (tLess _ V U a b c p m o a2 b2 c2 p2 m2 o2 ⟨q0, q1, q2, q3, q4, q5, q6, q7, q8, q9, q10, q11, Below.refl _ _⟩ hp rel hr).mono ?_; rintro e w2 ⟨rfl, hb⟩; rw [hlt]; obtain ⟨q0, q1, q2, q3, q4, q5, q6, q7, q8, q9, q10, q11, q12, q13, q14, q15, q16, q17⟩ := kp18 hb q0 q1 q2 q3 q4 q5 q6 q7 q8 q9 q10 q11 q12 q13 q14 q15 q16 q17; clear hb) | (go_at_call 28; refine (tErr _ _).mono ?_; rintro e w3 ⟨t3, a3, rfl, hb⟩; obtain ⟨q0, q1, q2, q3, q4, q5, q6, q7, q8, q9, q10, q11, q12, q13, q14, q15, q16, q17⟩ := kp18 hb q0 q1 q2 q3 q4 q5 q6 q7 q8 q9 q10 q11 q12 q13 q14 q15 q16 q17; clear hb))
    go_ret2
    refine ret_bool (r := res) ?_ (by assumption)
    rw [← HRES.out, tildeR, if_pos (of_decide_eq_true HLT.out)]
end Go.Proofs.YtnamjojceadgdaaGreatDoor.Sv
end
section
set_option linter.unusedVariables false
set_option linter.unusedSimpArgs false
/- check of one term -/
namespace Go.Proofs.YtnamjojceadgdaaGreatDoor.Sv
open Go Go.RowKit Rx
set_option maxRecDepth 100000
end Go.Proofs.YtnamjojceadgdaaGreatDoor.Sv
end
section
set_option linter.unusedVariables false
set_option linter.unusedSimpArgs false
/- Check: one list at least holds -/
namespace Go.Proofs.YtnamjojceadgdaaGreatDoor.Sv
open Go Go.RowKit Rx
set_option maxRecDepth 100000
theorem ptrRow_get {Cs : List Nat} {n i C : Nat} (h : Cs[i]? = some C) : (ptrRow Cs n)[i]? = some (ptr C) := by
  have hl := (List.getElem?_eq_some_iff.1 h).1
  unfold ptrRow
  rw [List.getElem?_toArray, List.getElem?_append_left (by simpa using hl), List.getElem?_map, h]
  rfl
/-- what holds of the constraint's blocks -/
structure CS (OR HP : Nat) (Xs : List Nat) (gs : List (List TD)) (VP : World → Prop) (T : Nat) (inc : Bool) (W : World) : Prop where
  r : W.heap[OR]? = some (.cells (rowVals Xs gs).toArray 66 (0, 0))
  p : W.heap[HP]? = some (.cells ((gs.map anyPre).map Value.bool).toArray 4 (0, 0))
  rows : Rows W Xs gs
  v : VP W
  t : W.heap[T]? = some (.cells #[.slice (some ⟨OR, 0, none⟩) gs.length gs.length, .slice (some ⟨HP, 0, none⟩) gs.length gs.length, .bool inc] 51 (0, 0))
theorem CS.keep {OR HP : Nat} {Xs : List Nat} {gs : List (List TD)} {VP : World → Prop} {T : Nat} {inc : Bool} {W W' : World} (hVP : ∀ W W', VP W → Below W.heap.size W W' → VP W') (h : CS OR HP Xs gs VP T inc W) (hb : Below W.heap.size W W') : CS OR HP Xs gs VP T inc W' :=
  ⟨blk hb h.r, blk hb h.p, h.rows.keep hb, hVP _ _ h.v hb, blk hb h.t⟩
set_option maxHeartbeats 4000000 in
theorem t32 {gs : List (List TD)} {OR HP V : Nat} {Xs : List Nat} {inc : Bool} (R : TD → Bool → Bool) (VP : World → Prop) (hVP : ∀ W W', VP W → Below W.heap.size W W' → VP W')
    (hchk : ∀ ts ∈ gs, ∀ t ∈ ts, ∀ C i W, TDAt W C t → VP W → Calls Tryz.prog 32 #[.pointer (some ⟨C, 0, none⟩), .pointer (some ⟨V, 0, none⟩), .bool i] W fun e w' => ∃ ev, e = .returned (.tuple #[.bool (R t i), ev]) ∧ Below W.heap.size W w')
    (hl1 : gs.length ≤ 1000) (hl2 : ∀ ts ∈ gs, ts.length ≤ 1000) (w : World) (hr : w.heap[OR]? = some (.cells (rowVals Xs gs).toArray 66 (0, 0))) (hp : w.heap[HP]? = some (.cells ((gs.map anyPre).map Value.bool).toArray 4 (0, 0)))
    (hrows : Rows w Xs gs) (hv : VP w) :
    Calls Tryz.prog 17 #[.agg #[.slice (some ⟨OR, 0, none⟩) gs.length gs.length, .slice (some ⟨HP, 0, none⟩) gs.length gs.length, .bool inc], .pointer (some ⟨V, 0, none⟩)] w fun e w' =>
      e = .returned (.bool (gs.any fun ts => ts.all fun t => R t (inc || anyPre ts))) ∧ Below w.heap.size w w' := by
  have hal := (Below.refl _ w).alloc (Nat.le_refl _) (.cells #[.slice (some ⟨OR, 0, none⟩) gs.length gs.length, .slice (some ⟨HP, 0, none⟩) gs.length gs.length, .bool inc] 51)
  have H0 : CS OR HP Xs gs VP w.heap.size inc (w.alloc (.cells #[.slice (some ⟨OR, 0, none⟩) gs.length gs.length, .slice (some ⟨HP, 0, none⟩) gs.length gs.length, .bool inc] 51)) :=
    ⟨blk hal hr, blk hal hp, hrows.keep hal, hVP _ _ hv hal, heap_alloc_new w _⟩
  have HV := Lib.hid hVP
  have HC := Lib.hid hchk
  have HL := Lib.hid hl2
  generalize hres : (gs.any fun ts => ts.all fun t => R t (inc || anyPre ts)) = res
  have HRES := Lib.hid hres
  clear hVP hchk hl2 hr hp hrows hv hres
  have hlen : (gs.length : Int) ≤ 1000 := by omega
  go_enter Tryz.func17, Tryz.ntmps17
  go_upto_region 1 with fail
  generalize hw0 : w.alloc (.cells #[.slice (some ⟨OR, 0, none⟩) gs.length gs.length, .slice (some ⟨HP, 0, none⟩) gs.length gs.length, .bool inc] 51) = w0 at *
  clear hw0
  have HB := Lib.hid hal
  clear hal
  generalize w.heap.size = T at H0 ⊢
  have c0 : w0.cell? ⟨T, 0, none⟩ = some (.slice (some ⟨OR, 0, none⟩) gs.length gs.length) := cell_of_row _ _ 0 _ _ _ H0.t
  have HS := Lib.hid H0
  clear H0
  go_wp2
  clear c0
  go_loopw [15] (fun kv W => ∃ (k : Nat), kv = .int .i64 k ∧ Hid (k ≤ gs.length ∧ ((gs.take k).any fun ts => ts.all fun t => R t (inc || anyPre ts)) = false ∧ Below w0.heap.size w0 W)) (fun kv _ => 2000 - (intOf kv).toNat)
  case atStart => exact ⟨0, rfl, Lib.hid ⟨Nat.zero_le _, rfl, Below.refl _ _⟩⟩
  case round =>
    obtain ⟨k, rfl, HK⟩ := hrel
    by_cases c : k < gs.length
    · have c1 : (k : Int) < (gs.length : Int) := by omega
      obtain ⟨ts, hts⟩ : ∃ ts, gs[k]? = some ts := ⟨_, List.getElem?_eq_getElem c⟩
      have hmem : ts ∈ gs := List.mem_of_getElem? hts
      have hcs := HS.out.keep HV.out HK.out.2.2
      obtain ⟨X, hX, hRow⟩ := hcs.rows.get hts
      obtain ⟨Cs, hCs, hTD⟩ := hRow
      have q0 : wr.cell? ⟨OR, k, none⟩ = some (.slice (some ⟨X, 0, none⟩) ts.length ts.length) := by
        rw [cell_of_row _ _ _ _ _ _ hcs.r, List.getElem?_toArray, rowVals_get hX hts]; rfl
      have hn : ts.length ≤ 1000 := HL.out ts hmem
      have hnI : (ts.length : Int) ≤ 1000 := by omega
      have hstep : ((gs.take (k + 1)).any fun ts => ts.all fun t => R t (inc || anyPre ts)) = (ts.all fun t => R t (inc || anyPre ts)) := by
        rw [List.take_add_one, hts, List.any_append, HK.out.2.1]; simp
      have hall : (ts.all fun t => R t (inc || anyPre ts)) = true → res = true := fun h => by
        rw [← HRES.out, List.any_eq_true]; exact ⟨ts, hmem, h⟩
      have HN := Lib.hid (And.intro c (And.intro hts (And.intro hmem (And.intro hstep hall))))
      have HX := Lib.hid (And.intro hCs hTD)
      clear hts hmem hcs hX hCs hTD hstep hall c
      go_upto_region 5 with fail
      go_wp2
      clear q0
      go_loopw [7, 22] (fun jv iv W => ∃ (i : Nat), jv = .bool true ∧ iv = .int .i64 i ∧ Hid (i ≤ ts.length ∧ ((ts.take i).all fun t => R t (inc || anyPre ts)) = true ∧ Below wr.heap.size wr W)) (fun _ iv _ => 2000 - (intOf iv).toNat)
      case atStart => exact ⟨0, rfl, rfl, Lib.hid ⟨Nat.zero_le _, rfl, Below.refl _ _⟩⟩
      case round =>
        obtain ⟨i, rfl, rfl, HI⟩ := hrel
        have hbb := belk HI.out.2.2 HK.out.2.2
        have hcs := HS.out.keep HV.out hbb
        by_cases c : i < ts.length
        · have c2 : (i : Int) < (ts.length : Int) := by omega
          obtain ⟨t, ht⟩ : ∃ t, ts[i]? = some t := ⟨_, List.getElem?_eq_getElem c⟩
          obtain ⟨C, hC, hTC⟩ := HX.out.2.get ht
          have q0 : wr.cell? ⟨X, i, none⟩ = some (.pointer (some ⟨C, 0, none⟩)) := by
            rw [cell_of_row _ _ _ _ _ _ (blk HI.out.2.2 HX.out.1)]; exact ptrRow_get hC
          have q1 : wr.cell? ⟨T, 2, none⟩ = some (.bool inc) := cell_of_row _ _ 2 _ _ _ hcs.t
          have q2 : wr.cell? ⟨T, 1, none⟩ = some (.slice (some ⟨HP, 0, none⟩) gs.length gs.length) := cell_of_row _ _ 1 _ _ _ hcs.t
          have q3 : wr.cell? ⟨HP, k, none⟩ = some (.bool (anyPre ts)) := by
            rw [cell_of_row _ _ _ _ _ _ hcs.p, List.getElem?_toArray, List.getElem?_map, List.getElem?_map, HN.out.2.1]; rfl
          have HCK := Lib.hid (fun j => HC.out ts HN.out.2.2.1 t (List.mem_of_getElem? ht) C j wr (hTC.keep HI.out.2.2) hcs.v)
          have hst : ((ts.take (i + 1)).all fun t => R t (inc || anyPre ts)) = R t (inc || anyPre ts) := by
            rw [List.take_add_one, ht, List.all_append, HI.out.2.1]; simp
          have hno : R t (inc || anyPre ts) = false → (ts.all fun t => R t (inc || anyPre ts)) = false := fun h => by
            rw [List.all_eq_false]; exact ⟨t, List.mem_of_getElem? ht, by simp [h]⟩
          have HST := Lib.hid (And.intro c (And.intro hst hno))
          have HBB := Lib.hid hbb
          clear hst hno hcs hC hTC ht c hbb
          cases inc
          · have HCJ := Lib.hid (HCK.out (anyPre ts))
            have HJ := Lib.hid HST.out
            clear HCK HST
            cases hR : R t (anyPre ts) with
            | true =>
              rw [hR] at HCJ
              have hst : ((ts.take (i + 1)).all fun t => R t (false || anyPre ts)) = true := HJ.out.2.1.trans hR
              have HT := Lib.hid hst
              clear hst hR
              go_wp2_with (go_at_call 32; refine HCJ.out.mono ?_; rintro e w9 ⟨ev, rfl, hb9⟩; have H9 := Lib.hid (belk hb9 HI.out.2.2); clear hb9)
              exact ⟨⟨i + 1, rfl, by simp, Lib.hid ⟨HJ.out.1, HT.out, H9.out⟩⟩, by simp only [intOf]; have := HJ.out.1; omega⟩
            | false =>
              rw [hR] at HCJ
              have hst : ((gs.take (k + 1)).any fun ts => ts.all fun t => R t (false || anyPre ts)) = false := HN.out.2.2.2.1.trans (HJ.out.2.2 hR)
              have HT := Lib.hid hst
              clear hst hR
              go_wp2_with (go_at_call 32; refine HCJ.out.mono ?_; rintro e w9 ⟨ev, rfl, hb9⟩; have H9 := Lib.hid (belk hb9 HBB.out); clear hb9)
              exact ⟨⟨k + 1, by simp, Lib.hid ⟨HN.out.1, HT.out, H9.out⟩⟩, by simp only [intOf]; have := HN.out.1; omega⟩
          · have HCJ := Lib.hid (HCK.out true)
            have HJ := Lib.hid HST.out
            clear HCK HST
            cases hR : R t true with
            | true =>
              rw [hR] at HCJ
              have hst : ((ts.take (i + 1)).all fun t => R t (true || anyPre ts)) = true := HJ.out.2.1.trans hR
              have HT := Lib.hid hst
              clear hst hR
              go_wp2_with (go_at_call 32; refine HCJ.out.mono ?_; rintro e w9 ⟨ev, rfl, hb9⟩; have H9 := Lib.hid (belk hb9 HI.out.2.2); clear hb9)
              exact ⟨⟨i + 1, rfl, by simp, Lib.hid ⟨HJ.out.1, HT.out, H9.out⟩⟩, by simp only [intOf]; have := HJ.out.1; omega⟩
            | false =>
              rw [hR] at HCJ
              have hst : ((gs.take (k + 1)).any fun ts => ts.all fun t => R t (true || anyPre ts)) = false := HN.out.2.2.2.1.trans (HJ.out.2.2 hR)
              have HT := Lib.hid hst
              clear hst hR
              go_wp2_with (go_at_call 32; refine HCJ.out.mono ?_; rintro e w9 ⟨ev, rfl, hb9⟩; have H9 := Lib.hid (belk hb9 HBB.out); clear hb9)
              exact ⟨⟨k + 1, by simp, Lib.hid ⟨HN.out.1, HT.out, H9.out⟩⟩, by simp only [intOf]; have := HN.out.1; omega⟩
        · have hin : i = ts.length := by have := HI.out.1; omega
          have hr : res = true := HN.out.2.2.2.2 (by have := HI.out.2.1; rw [hin, List.take_length] at this; exact this)
          have HR := Lib.hid hr
          have c2 : ¬ (i : Int) < (ts.length : Int) := by omega
          have HBB := Lib.hid hbb
          clear hr c hin hcs hbb
          go_wp2
          go_ret
          exact ⟨by rw [HR.out]; rfl, belk HBB.out HB.out⟩
    · have hkn : k = gs.length := by have := HK.out.1; omega
      subst hkn
      have hr : res = false := by rw [← HRES.out, ← HK.out.2.1, List.take_length]
      have HR := Lib.hid hr
      clear hr c
      go_wp2
      go_ret
      exact ⟨by rw [HR.out]; rfl, belk HK.out.2.2 HB.out⟩
end Go.Proofs.YtnamjojceadgdaaGreatDoor.Sv
end
section
set_option linter.unusedVariables false
set_option linter.unusedSimpArgs false
/- CheckText -/
namespace Go.Proofs.YtnamjojceadgdaaGreatDoor.Sv
open Go Go.RowKit Rx
set_option maxRecDepth 100000
/-- a version's row -/
def vrow (a b c : Nat) (p m : ByteArray) : Obj := .cells #[.int .u64 a, .int .u64 b, .int .u64 c, .string p, .string m, .string e0] 71 (0, 0)
set_option maxHeartbeats 4000000 in
theorem t19 {s : ByteArray} {gs : List (List TD)} {a b c : Nat} {p m : ByteArray} {pre : Bool} (R : TD → Bool → Bool)
    (h31 : ∀ w, Lib.Utf8Tabs 11 12 w → Calls Tryz.prog 16 #[.string s] w fun e w' => ∃ O, e = .returned (.tuple #[ptr O, .nilIface]) ∧ w.heap.size ≤ O ∧ ConsAt w' O gs false ∧ Below w.heap.size w w')
    (hchk : ∀ ts ∈ gs, ∀ t ∈ ts, ∀ V C i W, TDAt W C t → W.heap[V]? = some (vrow a b c p m) → Calls Tryz.prog 32 #[.pointer (some ⟨C, 0, none⟩), .pointer (some ⟨V, 0, none⟩), .bool i] W fun e w' => ∃ ev, e = .returned (.tuple #[.bool (R t i), ev]) ∧ Below W.heap.size W w')
    (hl1 : gs.length ≤ 1000) (hl2 : ∀ ts ∈ gs, ts.length ≤ 1000) (w : World) (hT : Lib.Utf8Tabs 11 12 w) :
    Calls Tryz.prog 10 #[.string s, iv a b c p m, .bool pre] w fun e w' =>
      e = .returned (.tuple #[.bool (gs.any fun ts => ts.all fun t => R t (pre || anyPre ts)), .bool true]) ∧ Below w.heap.size w w' := by
  have hal := (Below.refl _ w).alloc (Nat.le_refl _) (.cells #[.int .u64 a, .int .u64 b, .int .u64 c, .string p, .string m] 25)
  have H31 := Lib.hid (h31 _ (Utf8Tabs_below hT hal))
  have HC := Lib.hid (fun V OR HP Xs => t32 (OR := OR) (HP := HP) (Xs := Xs) (inc := pre) (V := V) R (fun W => W.heap[V]? = some (vrow a b c p m)) (fun W W' h hb => blk hb h) (fun ts hts t ht C i W h1 h2 => hchk ts hts t ht V C i W h1 h2) hl1 hl2)
  generalize (gs.any fun ts => ts.all fun t => R t (pre || anyPre ts)) = res at *
  clear h31 hchk hl1 hl2 hT
  have hrow := heap_alloc_new w (.cells #[.int .u64 a, .int .u64 b, .int .u64 c, .string p, .string m] 25)
  have HL := Lib.hid (fun V => l13 a b c p m V)
  unfold iv
  go_enter Tryz.func10, Tryz.ntmps10
  go_upto_region 1 with fail
  generalize hw0 : w.alloc (.cells #[.int .u64 a, .int .u64 b, .int .u64 c, .string p, .string m] 25) = w0 at *
  clear hw0
  have HB := Lib.hid hal
  have HR := Lib.hid hrow
  clear hal hrow
  generalize w.heap.size = T at HR ⊢
  go_upto_region 4 with (go_at_call 16; refine H31.out.mono ?_; rintro e w1 ⟨O, rfl, hO, hcons, hb⟩; simp only [ptr]; obtain ⟨OR, HP, Xs, hO1, hOR, hHP, hRows⟩ := hcons; have HK := Lib.hid (And.intro hO1 (And.intro hOR (And.intro hHP (And.intro hRows (And.intro hO hb))))); clear hO1 hOR hHP hRows hO hb)
  have o2 : w1.cell? ⟨O, 2, none⟩ = some (.bool false) := cell_of_row _ _ 2 _ _ _ HK.out.1
  have f2 := frozen_of_row _ _ 2 _ _ HK.out.1
  go_upto_region 5 with fail
  have H5 : (w1.setCell ⟨O, 2, none⟩ (.bool pre)).heap[O]? = some (.cells #[.slice (some ⟨OR, 0, none⟩) gs.length gs.length, .slice (some ⟨HP, 0, none⟩) gs.length gs.length, .bool pre] 51 (0, 0)) ∧ (w1.setCell ⟨O, 2, none⟩ (.bool pre)).heap[OR]? = some (.cells (rowVals Xs gs).toArray 66 (0, 0)) ∧ (w1.setCell ⟨O, 2, none⟩ (.bool pre)).heap[HP]? = some (.cells ((gs.map anyPre).map Value.bool).toArray 4 (0, 0)) ∧ Rows (w1.setCell ⟨O, 2, none⟩ (.bool pre)) Xs gs ∧ Below w0.heap.size w0 (w1.setCell ⟨O, 2, none⟩ (.bool pre)) := by
    obtain ⟨h1, h2, h3, h4, h5, h6⟩ := HK.out
    have hfr := free_of h1 (by decide) (by decide)
    refine ⟨heap_setCell_same _ _ 2 _ _ _ h1, oth h2 (typ_ne h2 h1 (by decide)), oth h3 (typ_ne h3 h1 (by decide)), h4.kp (Kp.setCell O 2 w1 _) hfr ?_, h6.setCell h5 _⟩
    intro hm
    obtain ⟨cs, hc⟩ := h4.mem_lt O hm
    rw [h1] at hc
    simp at hc
  generalize w1.setCell ⟨O, 2, none⟩ (.bool pre) = w5 at *
  clear o2 f2
  obtain ⟨h1, h2, h3, h4, h5⟩ := H5
  have hrT := blk h5 HR.out
  have q0 : w5.cell? ⟨O, 0, none⟩ = some (.slice (some ⟨OR, 0, none⟩) gs.length gs.length) := cell_of_row _ _ 0 _ _ _ h1
  have q1 : w5.cell? ⟨O, 1, none⟩ = some (.slice (some ⟨HP, 0, none⟩) gs.length gs.length) := cell_of_row _ _ 1 _ _ _ h1
  have q2 : w5.cell? ⟨O, 2, none⟩ = some (.bool pre) := cell_of_row _ _ 2 _ _ _ h1
  have q3 : w5.cell? ⟨T, 0, none⟩ = some (.int .u64 a) := cell_of_row _ _ 0 _ _ _ hrT
  have q4 : w5.cell? ⟨T, 1, none⟩ = some (.int .u64 b) := cell_of_row _ _ 1 _ _ _ hrT
  have q5 : w5.cell? ⟨T, 2, none⟩ = some (.int .u64 c) := cell_of_row _ _ 2 _ _ _ hrT
  have q6 : w5.cell? ⟨T, 3, none⟩ = some (.string p) := cell_of_row _ _ 3 _ _ _ hrT
  have q7 : w5.cell? ⟨T, 4, none⟩ = some (.string m) := cell_of_row _ _ 4 _ _ _ hrT
  have q8 := Below.refl w5.heap.size w5
  have HM := Lib.hid (And.intro h2 (And.intro h3 h4))
  have HB5 := Lib.hid h5
  clear h1 h2 h3 h4 h5 hrT
  go_region_held3 (fun W => W.cell? ⟨O, 0, none⟩ = some (.slice (some ⟨OR, 0, none⟩) gs.length gs.length) ∧ W.cell? ⟨O, 1, none⟩ = some (.slice (some ⟨HP, 0, none⟩) gs.length gs.length) ∧ W.cell? ⟨O, 2, none⟩ = some (.bool pre) ∧ W.cell? ⟨T, 0, none⟩ = some (.int .u64 a) ∧ W.cell? ⟨T, 1, none⟩ = some (.int .u64 b) ∧ W.cell? ⟨T, 2, none⟩ = some (.int .u64 c) ∧ W.cell? ⟨T, 3, none⟩ = some (.string p) ∧ W.cell? ⟨T, 4, none⟩ = some (.string m) ∧ Below w5.heap.size w5 W) (first | exact ⟨by assumption, by assumption, by assumption, by assumption, by assumption, by assumption, by assumption, by assumption, by assumption⟩ | exact ⟨by first | assumption | (rw [World.cell?_drew]; assumption), by first | assumption | (rw [World.cell?_drew]; assumption), by first | assumption | (rw [World.cell?_drew]; assumption), by first | assumption | (rw [World.cell?_drew]; assumption), by first | assumption | (rw [World.cell?_drew]; assumption), by first | assumption | (rw [World.cell?_drew]; assumption), by first | assumption | (rw [World.cell?_drew]; assumption), by first | assumption | (rw [World.cell?_drew]; assumption), by first | assumption | exact Below.drew (by assumption)⟩) (first
    | (go_at_call 18; (with_reducible refine (HL.out _).mono ?_); rintro e w6 ⟨V, rfl, hV, hr, hb⟩; have HVR := Lib.hid hr; clear hr hV; have HS2 : (fun W => W.cell? ⟨O, 0, none⟩ = some (.slice (some ⟨OR, 0, none⟩) gs.length gs.length) ∧ W.cell? ⟨O, 1, none⟩ = some (.slice (some ⟨HP, 0, none⟩) gs.length gs.length) ∧ W.cell? ⟨O, 2, none⟩ = some (.bool pre) ∧ W.cell? ⟨T, 0, none⟩ = some (.int .u64 a) ∧ W.cell? ⟨T, 1, none⟩ = some (.int .u64 b) ∧ W.cell? ⟨T, 2, none⟩ = some (.int .u64 c) ∧ W.cell? ⟨T, 3, none⟩ = some (.string p) ∧ W.cell? ⟨T, 4, none⟩ = some (.string m) ∧ Below w5.heap.size w5 W) w6 := ⟨keepc hb (by first | assumption | (rw [World.cell?_drew]; assumption)), keepc hb (by first | assumption | (rw [World.cell?_drew]; assumption)), keepc hb (by first | assumption | (rw [World.cell?_drew]; assumption)), keepc hb (by first | assumption | (rw [World.cell?_drew]; assumption)), keepc hb (by first | assumption | (rw [World.cell?_drew]; assumption)), keepc hb (by first | assumption | (rw [World.cell?_drew]; assumption)), keepc hb (by first | assumption | (rw [World.cell?_drew]; assumption)), keepc hb (by first | assumption | (rw [World.cell?_drew]; assumption)), belk hb (by first | assumption | exact Below.drew (by assumption))⟩; obtain ⟨q0, q1, q2, q3, q4, q5, q6, q7, q8⟩ := HS2; clear hb)
    | (go_at_call 17; (with_reducible refine (HC.out _ _ _ _ _ (blk q8 HM.out.1) (blk q8 HM.out.2.1) (HM.out.2.2.keep q8) HVR.out).mono ?_); rintro e w7 ⟨rfl, hb⟩; have HS2 : (fun W => W.cell? ⟨O, 0, none⟩ = some (.slice (some ⟨OR, 0, none⟩) gs.length gs.length) ∧ W.cell? ⟨O, 1, none⟩ = some (.slice (some ⟨HP, 0, none⟩) gs.length gs.length) ∧ W.cell? ⟨O, 2, none⟩ = some (.bool pre) ∧ W.cell? ⟨T, 0, none⟩ = some (.int .u64 a) ∧ W.cell? ⟨T, 1, none⟩ = some (.int .u64 b) ∧ W.cell? ⟨T, 2, none⟩ = some (.int .u64 c) ∧ W.cell? ⟨T, 3, none⟩ = some (.string p) ∧ W.cell? ⟨T, 4, none⟩ = some (.string m) ∧ Below w5.heap.size w5 W) w7 := ⟨keepc hb (by first | assumption | (rw [World.cell?_drew]; assumption)), keepc hb (by first | assumption | (rw [World.cell?_drew]; assumption)), keepc hb (by first | assumption | (rw [World.cell?_drew]; assumption)), keepc hb (by first | assumption | (rw [World.cell?_drew]; assumption)), keepc hb (by first | assumption | (rw [World.cell?_drew]; assumption)), keepc hb (by first | assumption | (rw [World.cell?_drew]; assumption)), keepc hb (by first | assumption | (rw [World.cell?_drew]; assumption)), keepc hb (by first | assumption | (rw [World.cell?_drew]; assumption)), belk hb (by first | assumption | exact Below.drew (by assumption))⟩; obtain ⟨q0, q1, q2, q3, q4, q5, q6, q7, q8⟩ := HS2; clear hb))
  all_goals go_wp2
  all_goals go_ret2
  all_goals exact ⟨rfl, belk (belk (by assumption) HB5.out) HB.out⟩
end Go.Proofs.YtnamjojceadgdaaGreatDoor.Sv
end
