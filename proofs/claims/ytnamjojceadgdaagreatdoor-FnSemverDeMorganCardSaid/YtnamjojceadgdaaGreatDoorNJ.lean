/- a part of the proof: FnSemverDeMorgan: for every list of terms, every style and every version the law's function returns true and leaves its arguments as they were. No condition is added: the statement is the given one, the tied card. -/
import Derived.Test.YtnamjojceadgdaaGreatDoorNI
import Derived.Deep.CutRange
import Derived.LaidEqlPtr
section
set_option linter.unusedVariables false
set_option linter.unusedSimpArgs false
/- the operators = != > <=, of a release, with numbers missing or not -/
namespace Go.Proofs.YtnamjojceadgdaaGreatDoor.Sv
open Go Go.RowKit Rx
set_option maxRecDepth 100000
def leR (a b c a2 b2 c2 : Nat) (rel md d pd : Bool) : Bool := if d = false then decide (cmpRel a b c a2 b2 c2 rel ≤ 0) else if a2 < a then false else if a = a2 ∧ b2 < b ∧ md = false then false else true
set_option maxHeartbeats 8000000 in
theorem tLe (w : World) (V U C a b c : Nat) (p m o : ByteArray) (a2 b2 c2 : Nat) (p2 m2 o2 op : ByteArray) (md d pd inc : Bool) (h : S3 w V U C a b c p m o a2 b2 c2 p2 m2 o2 op md d pd w) (hp : p.toList.isEmpty = true) (rel : Bool) (hr : p2.toList.isEmpty = rel) :
    Calls Tryz.prog 60 #[.pointer (some ⟨V, 0, none⟩), .pointer (some ⟨C, 0, none⟩), .bool inc] w fun e w' => ∃ ev, e = .returned (.tuple #[.bool (leR a b c a2 b2 c2 rel md d pd), ev]) ∧ Below w.heap.size w w' := by
  obtain ⟨q0, q1, q2, q3, q4, q5, q6, q7, q8, q9, q10, q11, q12, q13, q14, q15, q16, q17⟩ := h
  generalize hres : leR a b c a2 b2 c2 rel md d pd = res
  have HRES := Lib.hid hres
  clear hres
  cases d
  · go_enter Tryz.func60, Tryz.ntmps60
    go_wp2_with (first | (go_at_call 81; refine (tPrere _ _ _ _ _ _ _).mono ?_; rintro e w1 ⟨rfl, hb⟩; obtain ⟨q0, q1, q2, q3, q4, q5, q6, q7, q8, q9, q10, q11, q12, q13, q14, q15, q16, q17⟩ := kp18 hb q0 q1 q2 q3 q4 q5 q6 q7 q8 q9 q10 q11 q12 q13 q14 q15 q16 q17; clear hb) | (go_at_call 87; refine (tCmp _ V U a b c p m o a2 b2 c2 p2 m2 o2 ⟨(by first | assumption | (rw [World.cell?_drew]; assumption)), (by first | assumption | (rw [World.cell?_drew]; assumption)), (by first | assumption | (rw [World.cell?_drew]; assumption)), (by first | assumption | (rw [World.cell?_drew]; assumption)), (by first | assumption | (rw [World.cell?_drew]; assumption)), (by first | assumption | (rw [World.cell?_drew]; assumption)), (by first | assumption | (rw [World.cell?_drew]; assumption)), (by first | assumption | (rw [World.cell?_drew]; assumption)), (by first | assumption | (rw [World.cell?_drew]; assumption)), (by first | assumption | (rw [World.cell?_drew]; assumption)), (by first | assumption | (rw [World.cell?_drew]; assumption)), (by first | assumption | (rw [World.cell?_drew]; assumption)), Below.refl _ _⟩ hp rel hr).mono ?_; rintro e w2 ⟨rfl, hb⟩; obtain ⟨q0, q1, q2, q3, q4, q5, q6, q7, q8, q9, q10, q11, q12, q13, q14, q15, q16, q17⟩ := kp18 hb q0 q1 q2 q3 q4 q5 q6 q7 q8 q9 q10 q11 q12 q13 q14 q15 q16 q17; clear hb) | (go_at_call 28; refine (tErr _ _).mono ?_; rintro e w3 ⟨t3, a3, rfl, hb⟩; obtain ⟨q0, q1, q2, q3, q4, q5, q6, q7, q8, q9, q10, q11, q12, q13, q14, q15, q16, q17⟩ := kp18 hb q0 q1 q2 q3 q4 q5 q6 q7 q8 q9 q10 q11 q12 q13 q14 q15 q16 q17; clear hb))
    all_goals (go_ret2; refine ret_bool (r := res) ?_ (by first | assumption | (refine Below.drew ?_; assumption)); rw [← HRES.out, leR, if_pos rfl])
    all_goals first | (rw [decide_eq_true (show cmpRel a b c a2 b2 c2 rel ≤ 0 by first | assumption | omega)]) | (rw [decide_eq_false (show ¬ (cmpRel a b c a2 b2 c2 rel ≤ 0) by first | assumption | omega)])
  go_enter Tryz.func60, Tryz.ntmps60
  by_cases x1 : a2 < a
  · have y1 : (a2 : Int) < (a : Int) := by omega
    go_upto_region 9 with (first | (go_at_call 81; refine (tPrere _ _ _ _ _ _ _).mono ?_; rintro e w1 ⟨rfl, hb⟩; obtain ⟨q0, q1, q2, q3, q4, q5, q6, q7, q8, q9, q10, q11, q12, q13, q14, q15, q16, q17⟩ := kp18 hb q0 q1 q2 q3 q4 q5 q6 q7 q8 q9 q10 q11 q12 q13 q14 q15 q16 q17; clear hb) | (go_at_call 83; refine (tMajor _ _ _ _ _ _ _).mono ?_; rintro e w1 ⟨rfl, hb⟩; obtain ⟨q0, q1, q2, q3, q4, q5, q6, q7, q8, q9, q10, q11, q12, q13, q14, q15, q16, q17⟩ := kp18 hb q0 q1 q2 q3 q4 q5 q6 q7 q8 q9 q10 q11 q12 q13 q14 q15 q16 q17; clear hb) | (go_at_call 84; refine (tMinor _ _ _ _ _ _ _).mono ?_; rintro e w1 ⟨rfl, hb⟩; obtain ⟨q0, q1, q2, q3, q4, q5, q6, q7, q8, q9, q10, q11, q12, q13, q14, q15, q16, q17⟩ := kp18 hb q0 q1 q2 q3 q4 q5 q6 q7 q8 q9 q10 q11 q12 q13 q14 q15 q16 q17; clear hb) | (go_at_call 85; refine (tPatch _ _ _ _ _ _ _).mono ?_; rintro e w1 ⟨rfl, hb⟩; obtain ⟨q0, q1, q2, q3, q4, q5, q6, q7, q8, q9, q10, q11, q12, q13, q14, q15, q16, q17⟩ := kp18 hb q0 q1 q2 q3 q4 q5 q6 q7 q8 q9 q10 q11 q12 q13 q14 q15 q16 q17; clear hb) | (go_at_call 87; refine (tCmp _ V U a b c p m o a2 b2 c2 p2 m2 o2 ⟨(by first | assumption | (rw [World.cell?_drew]; assumption)), (by first | assumption | (rw [World.cell?_drew]; assumption)), (by first | assumption | (rw [World.cell?_drew]; assumption)), (by first | assumption | (rw [World.cell?_drew]; assumption)), (by first | assumption | (rw [World.cell?_drew]; assumption)), (by first | assumption | (rw [World.cell?_drew]; assumption)), (by first | assumption | (rw [World.cell?_drew]; assumption)), (by first | assumption | (rw [World.cell?_drew]; assumption)), (by first | assumption | (rw [World.cell?_drew]; assumption)), (by first | assumption | (rw [World.cell?_drew]; assumption)), (by first | assumption | (rw [World.cell?_drew]; assumption)), (by first | assumption | (rw [World.cell?_drew]; assumption)), Below.refl _ _⟩ hp rel hr).mono ?_; rintro e w2 ⟨rfl, hb⟩; obtain ⟨q0, q1, q2, q3, q4, q5, q6, q7, q8, q9, q10, q11, q12, q13, q14, q15, q16, q17⟩ := kp18 hb q0 q1 q2 q3 q4 q5 q6 q7 q8 q9 q10 q11 q12 q13 q14 q15 q16 q17; clear hb) | (go_at_call 28; refine (tErr _ _).mono ?_; rintro e w3 ⟨t3, a3, rfl, hb⟩; obtain ⟨q0, q1, q2, q3, q4, q5, q6, q7, q8, q9, q10, q11, q12, q13, q14, q15, q16, q17⟩ := kp18 hb q0 q1 q2 q3 q4 q5 q6 q7 q8 q9 q10 q11 q12 q13 q14 q15 q16 q17; clear hb))
    go_region_held3 (fun w' => w'.cell? ⟨V, 0, none⟩ = some (.int .u64 a) ∧ w'.cell? ⟨V, 1, none⟩ = some (.int .u64 b) ∧ w'.cell? ⟨V, 2, none⟩ = some (.int .u64 c) ∧ w'.cell? ⟨V, 3, none⟩ = some (.string p) ∧ w'.cell? ⟨V, 4, none⟩ = some (.string m) ∧ w'.cell? ⟨V, 5, none⟩ = some (.string o) ∧ w'.cell? ⟨U, 0, none⟩ = some (.int .u64 a2) ∧ w'.cell? ⟨U, 1, none⟩ = some (.int .u64 b2) ∧ w'.cell? ⟨U, 2, none⟩ = some (.int .u64 c2) ∧ w'.cell? ⟨U, 3, none⟩ = some (.string p2) ∧ w'.cell? ⟨U, 4, none⟩ = some (.string m2) ∧ w'.cell? ⟨U, 5, none⟩ = some (.string o2) ∧ w'.cell? ⟨C, 0, none⟩ = some (.pointer (some ⟨U, 0, none⟩)) ∧ w'.cell? ⟨C, 2, none⟩ = some (.string op) ∧ w'.cell? ⟨C, 3, none⟩ = some (.bool md) ∧ w'.cell? ⟨C, 4, none⟩ = some (.bool true) ∧ w'.cell? ⟨C, 5, none⟩ = some (.bool pd) ∧ Below w.heap.size w w') (refine ⟨?_, ?_, ?_, ?_, ?_, ?_, ?_, ?_, ?_, ?_, ?_, ?_, ?_, ?_, ?_, ?_, ?_, ?_⟩ <;> first | assumption | (rw [World.cell?_drew]; assumption) | (refine Below.drew ?_; assumption)) (first | (go_at_call 83; refine (tMajor _ _ _ _ _ _ _).mono ?_; rintro e w1 ⟨rfl, hb⟩; have HS2 : S3 w V U C a b c p m o a2 b2 c2 p2 m2 o2 op md true pd w1 := (by refine ⟨?_, ?_, ?_, ?_, ?_, ?_, ?_, ?_, ?_, ?_, ?_, ?_, ?_, ?_, ?_, ?_, ?_, ?_⟩ <;> first | exact keepc hb (by first | assumption | (rw [World.cell?_drew]; assumption)) | exact belk hb (by first | assumption | (refine Below.drew ?_; assumption))); clear hb; obtain ⟨q0, q1, q2, q3, q4, q5, q6, q7, q8, q9, q10, q11, q12, q13, q14, q15, q16, q17⟩ := HS2))
    all_goals go_wp2_with (go_at_call 28; refine (tErr _ _).mono ?_; rintro e w3 ⟨t3, a3, rfl, hb⟩; have hbb := belk hb (by first | assumption | (refine Below.drew ?_; assumption)); clear hb)
    all_goals (go_ret2; refine ret_bool (r := res) ?_ (by first | assumption | (refine Below.drew ?_; assumption)); rw [← HRES.out, leR, if_neg (by simp), if_pos x1])
  · have y1 : ¬ (a2 : Int) < (a : Int) := by omega
    by_cases x2 : a = a2
    · have y2 : ((a : Int) == (a2 : Int)) = true := by simp; omega
      by_cases x3 : b2 < b
      · have y3 : (b2 : Int) < (b : Int) := by omega
        go_upto_region 9 with (first | (go_at_call 81; refine (tPrere _ _ _ _ _ _ _).mono ?_; rintro e w1 ⟨rfl, hb⟩; obtain ⟨q0, q1, q2, q3, q4, q5, q6, q7, q8, q9, q10, q11, q12, q13, q14, q15, q16, q17⟩ := kp18 hb q0 q1 q2 q3 q4 q5 q6 q7 q8 q9 q10 q11 q12 q13 q14 q15 q16 q17; clear hb) | (go_at_call 83; refine (tMajor _ _ _ _ _ _ _).mono ?_; rintro e w1 ⟨rfl, hb⟩; obtain ⟨q0, q1, q2, q3, q4, q5, q6, q7, q8, q9, q10, q11, q12, q13, q14, q15, q16, q17⟩ := kp18 hb q0 q1 q2 q3 q4 q5 q6 q7 q8 q9 q10 q11 q12 q13 q14 q15 q16 q17; clear hb) | (go_at_call 84; refine (tMinor _ _ _ _ _ _ _).mono ?_; rintro e w1 ⟨rfl, hb⟩; obtain ⟨q0, q1, q2, q3, q4, q5, q6, q7, q8, q9, q10, q11, q12, q13, q14, q15, q16, q17⟩ := kp18 hb q0 q1 q2 q3 q4 q5 q6 q7 q8 q9 q10 q11 q12 q13 q14 q15 q16 q17; clear hb) | (go_at_call 85; refine (tPatch _ _ _ _ _ _ _).mono ?_; rintro e w1 ⟨rfl, hb⟩; obtain ⟨q0, q1, q2, q3, q4, q5, q6, q7, q8, q9, q10, q11, q12, q13, q14, q15, q16, q17⟩ := kp18 hb q0 q1 q2 q3 q4 q5 q6 q7 q8 q9 q10 q11 q12 q13 q14 q15 q16 q17; clear hb) | (go_at_call 87; refine (tCmp _ V U a b c p m o a2 b2 c2 p2 m2 o2 ⟨(by first | assumption | (rw [World.cell?_drew]; assumption)), (by first | assumption | (rw [World.cell?_drew]; assumption)), (by first | assumption | (rw [World.cell?_drew]; assumption)), (by first | assumption | (rw [World.cell?_drew]; assumption)), (by first | assumption | (rw [World.cell?_drew]; assumption)), (by first | assumption | (rw [World.cell?_drew]; assumption)), (by first | assumption | (rw [World.cell?_drew]; assumption)), (by first | assumption | (rw [World.cell?_drew]; assumption)), (by first | assumption | (rw [World.cell?_drew]; assumption)), (by first | assumption | (rw [World.cell?_drew]; assumption)), (by first | assumption | (rw [World.cell?_drew]; assumption)), (by first | assumption | (rw [World.cell?_drew]; assumption)), Below.refl _ _⟩ hp rel hr).mono ?_; rintro e w2 ⟨rfl, hb⟩; obtain ⟨q0, q1, q2, q3, q4, q5, q6, q7, q8, q9, q10, q11, q12, q13, q14, q15, q16, q17⟩ := kp18 hb q0 q1 q2 q3 q4 q5 q6 q7 q8 q9 q10 q11 q12 q13 q14 q15 q16 q17; clear hb) | (go_at_call 28; refine (tErr _ _).mono ?_; rintro e w3 ⟨t3, a3, rfl, hb⟩; obtain ⟨q0, q1, q2, q3, q4, q5, q6, q7, q8, q9, q10, q11, q12, q13, q14, q15, q16, q17⟩ := kp18 hb q0 q1 q2 q3 q4 q5 q6 q7 q8 q9 q10 q11 q12 q13 q14 q15 q16 q17; clear hb))
        go_region_held3 (fun w' => w'.cell? ⟨V, 0, none⟩ = some (.int .u64 a) ∧ w'.cell? ⟨V, 1, none⟩ = some (.int .u64 b) ∧ w'.cell? ⟨V, 2, none⟩ = some (.int .u64 c) ∧ w'.cell? ⟨V, 3, none⟩ = some (.string p) ∧ w'.cell? ⟨V, 4, none⟩ = some (.string m) ∧ w'.cell? ⟨V, 5, none⟩ = some (.string o) ∧ w'.cell? ⟨U, 0, none⟩ = some (.int .u64 a2) ∧ w'.cell? ⟨U, 1, none⟩ = some (.int .u64 b2) ∧ w'.cell? ⟨U, 2, none⟩ = some (.int .u64 c2) ∧ w'.cell? ⟨U, 3, none⟩ = some (.string p2) ∧ w'.cell? ⟨U, 4, none⟩ = some (.string m2) ∧ w'.cell? ⟨U, 5, none⟩ = some (.string o2) ∧ w'.cell? ⟨C, 0, none⟩ = some (.pointer (some ⟨U, 0, none⟩)) ∧ w'.cell? ⟨C, 2, none⟩ = some (.string op) ∧ w'.cell? ⟨C, 3, none⟩ = some (.bool md) ∧ w'.cell? ⟨C, 4, none⟩ = some (.bool true) ∧ w'.cell? ⟨C, 5, none⟩ = some (.bool pd) ∧ Below w.heap.size w w') (refine ⟨?_, ?_, ?_, ?_, ?_, ?_, ?_, ?_, ?_, ?_, ?_, ?_, ?_, ?_, ?_, ?_, ?_, ?_⟩ <;> first | assumption | (rw [World.cell?_drew]; assumption) | (refine Below.drew ?_; assumption)) (first | (go_at_call 83; refine (tMajor _ _ _ _ _ _ _).mono ?_; rintro e w1 ⟨rfl, hb⟩; have HS2 : S3 w V U C a b c p m o a2 b2 c2 p2 m2 o2 op md true pd w1 := (by refine ⟨?_, ?_, ?_, ?_, ?_, ?_, ?_, ?_, ?_, ?_, ?_, ?_, ?_, ?_, ?_, ?_, ?_, ?_⟩ <;> first | exact keepc hb (by first | assumption | (rw [World.cell?_drew]; assumption)) | exact belk hb (by first | assumption | (refine Below.drew ?_; assumption))); clear hb; obtain ⟨q0, q1, q2, q3, q4, q5, q6, q7, q8, q9, q10, q11, q12, q13, q14, q15, q16, q17⟩ := HS2))
        go_upto_region 11 with fail
        go_region_held3 (fun w' => w'.cell? ⟨V, 0, none⟩ = some (.int .u64 a) ∧ w'.cell? ⟨V, 1, none⟩ = some (.int .u64 b) ∧ w'.cell? ⟨V, 2, none⟩ = some (.int .u64 c) ∧ w'.cell? ⟨V, 3, none⟩ = some (.string p) ∧ w'.cell? ⟨V, 4, none⟩ = some (.string m) ∧ w'.cell? ⟨V, 5, none⟩ = some (.string o) ∧ w'.cell? ⟨U, 0, none⟩ = some (.int .u64 a2) ∧ w'.cell? ⟨U, 1, none⟩ = some (.int .u64 b2) ∧ w'.cell? ⟨U, 2, none⟩ = some (.int .u64 c2) ∧ w'.cell? ⟨U, 3, none⟩ = some (.string p2) ∧ w'.cell? ⟨U, 4, none⟩ = some (.string m2) ∧ w'.cell? ⟨U, 5, none⟩ = some (.string o2) ∧ w'.cell? ⟨C, 0, none⟩ = some (.pointer (some ⟨U, 0, none⟩)) ∧ w'.cell? ⟨C, 2, none⟩ = some (.string op) ∧ w'.cell? ⟨C, 3, none⟩ = some (.bool md) ∧ w'.cell? ⟨C, 4, none⟩ = some (.bool true) ∧ w'.cell? ⟨C, 5, none⟩ = some (.bool pd) ∧ Below w.heap.size w w') (refine ⟨?_, ?_, ?_, ?_, ?_, ?_, ?_, ?_, ?_, ?_, ?_, ?_, ?_, ?_, ?_, ?_, ?_, ?_⟩ <;> first | assumption | (rw [World.cell?_drew]; assumption) | (refine Below.drew ?_; assumption)) (first | (go_at_call 83; refine (tMajor _ _ _ _ _ _ _).mono ?_; rintro e w1 ⟨rfl, hb⟩; have HS2 : S3 w V U C a b c p m o a2 b2 c2 p2 m2 o2 op md true pd w1 := (by refine ⟨?_, ?_, ?_, ?_, ?_, ?_, ?_, ?_, ?_, ?_, ?_, ?_, ?_, ?_, ?_, ?_, ?_, ?_⟩ <;> first | exact keepc hb (by first | assumption | (rw [World.cell?_drew]; assumption)) | exact belk hb (by first | assumption | (refine Below.drew ?_; assumption))); clear hb; obtain ⟨q0, q1, q2, q3, q4, q5, q6, q7, q8, q9, q10, q11, q12, q13, q14, q15, q16, q17⟩ := HS2) | (go_at_call 84; refine (tMinor _ _ _ _ _ _ _).mono ?_; rintro e w1 ⟨rfl, hb⟩; have HS2 : S3 w V U C a b c p m o a2 b2 c2 p2 m2 o2 op md true pd w1 := (by refine ⟨?_, ?_, ?_, ?_, ?_, ?_, ?_, ?_, ?_, ?_, ?_, ?_, ?_, ?_, ?_, ?_, ?_, ?_⟩ <;> first | exact keepc hb (by first | assumption | (rw [World.cell?_drew]; assumption)) | exact belk hb (by first | assumption | (refine Below.drew ?_; assumption))); clear hb; obtain ⟨q0, q1, q2, q3, q4, q5, q6, q7, q8, q9, q10, q11, q12, q13, q14, q15, q16, q17⟩ := HS2))
        all_goals cases md
        all_goals go_wp2_with (go_at_call 28; refine (tErr _ _).mono ?_; rintro e w3 ⟨t3, a3, rfl, hb⟩; have hbb := belk hb (by first | assumption | (refine Below.drew ?_; assumption)); clear hb)
        all_goals (go_ret2; refine ret_bool (r := res) ?_ (by first | assumption | (refine Below.drew ?_; assumption)); rw [← HRES.out, leR, if_neg (by simp), if_neg x1])
        all_goals first | (rw [if_pos ⟨x2, x3, rfl⟩]) | (rw [if_neg (by simp)])
      · have y3 : ¬ (b2 : Int) < (b : Int) := by omega
        go_upto_region 9 with (first | (go_at_call 81; refine (tPrere _ _ _ _ _ _ _).mono ?_; rintro e w1 ⟨rfl, hb⟩; obtain ⟨q0, q1, q2, q3, q4, q5, q6, q7, q8, q9, q10, q11, q12, q13, q14, q15, q16, q17⟩ := kp18 hb q0 q1 q2 q3 q4 q5 q6 q7 q8 q9 q10 q11 q12 q13 q14 q15 q16 q17; clear hb) | (go_at_call 83; refine (tMajor _ _ _ _ _ _ _).mono ?_; rintro e w1 ⟨rfl, hb⟩; obtain ⟨q0, q1, q2, q3, q4, q5, q6, q7, q8, q9, q10, q11, q12, q13, q14, q15, q16, q17⟩ := kp18 hb q0 q1 q2 q3 q4 q5 q6 q7 q8 q9 q10 q11 q12 q13 q14 q15 q16 q17; clear hb) | (go_at_call 84; refine (tMinor _ _ _ _ _ _ _).mono ?_; rintro e w1 ⟨rfl, hb⟩; obtain ⟨q0, q1, q2, q3, q4, q5, q6, q7, q8, q9, q10, q11, q12, q13, q14, q15, q16, q17⟩ := kp18 hb q0 q1 q2 q3 q4 q5 q6 q7 q8 q9 q10 q11 q12 q13 q14 q15 q16 q17; clear hb) | (go_at_call 85; refine (tPatch _ _ _ _ _ _ _).mono ?_; rintro e w1 ⟨rfl, hb⟩; obtain ⟨q0, q1, q2, q3, q4, q5, q6, q7, q8, q9, q10, q11, q12, q13, q14, q15, q16, q17⟩ := kp18 hb q0 q1 q2 q3 q4 q5 q6 q7 q8 q9 q10 q11 q12 q13 q14 q15 q16 q17; clear hb) | (go_at_call 87; refine (tCmp _ V U a b c p m o a2 b2 c2 p2 m2 o2 ⟨(by first | assumption | (rw [World.cell?_drew]; assumption)), (by first | assumption | (rw [World.cell?_drew]; assumption)), (by first | assumption | (rw [World.cell?_drew]; assumption)), (by first | assumption | (rw [World.cell?_drew]; assumption)), (by first | assumption | (rw [World.cell?_drew]; assumption)), (by first | assumption | (rw [World.cell?_drew]; assumption)), (by first | assumption | (rw [World.cell?_drew]; assumption)), (by first | assumption | (rw [World.cell?_drew]; assumption)), (by first | assumption | (rw [World.cell?_drew]; assumption)), (by first | assumption | (rw [World.cell?_drew]; assumption)), (by first | assumption | (rw [World.cell?_drew]; assumption)), (by first | assumption | (rw [World.cell?_drew]; assumption)), Below.refl _ _⟩ hp rel hr).mono ?_; rintro e w2 ⟨rfl, hb⟩; obtain ⟨q0, q1, q2, q3, q4, q5, q6, q7, q8, q9, q10, q11, q12, q13, q14, q15, q16, q17⟩ := kp18 hb q0 q1 q2 q3 q4 q5 q6 q7 q8 q9 q10 q11 q12 q13 q14 q15 q16 q17; clear hb) | (go_at_call 28; refine (tErr _ _).mono ?_; rintro e w3 ⟨t3, a3, rfl, hb⟩; obtain ⟨q0, q1, q2, q3, q4, q5, q6, q7, q8, q9, q10, q11, q12, q13, q14, q15, q16, q17⟩ := kp18 hb q0 q1 q2 q3 q4 q5 q6 q7 q8 q9 q10 q11 q12 q13 q14 q15 q16 q17; clear hb))
        go_region_held3 (fun w' => w'.cell? ⟨V, 0, none⟩ = some (.int .u64 a) ∧ w'.cell? ⟨V, 1, none⟩ = some (.int .u64 b) ∧ w'.cell? ⟨V, 2, none⟩ = some (.int .u64 c) ∧ w'.cell? ⟨V, 3, none⟩ = some (.string p) ∧ w'.cell? ⟨V, 4, none⟩ = some (.string m) ∧ w'.cell? ⟨V, 5, none⟩ = some (.string o) ∧ w'.cell? ⟨U, 0, none⟩ = some (.int .u64 a2) ∧ w'.cell? ⟨U, 1, none⟩ = some (.int .u64 b2) ∧ w'.cell? ⟨U, 2, none⟩ = some (.int .u64 c2) ∧ w'.cell? ⟨U, 3, none⟩ = some (.string p2) ∧ w'.cell? ⟨U, 4, none⟩ = some (.string m2) ∧ w'.cell? ⟨U, 5, none⟩ = some (.string o2) ∧ w'.cell? ⟨C, 0, none⟩ = some (.pointer (some ⟨U, 0, none⟩)) ∧ w'.cell? ⟨C, 2, none⟩ = some (.string op) ∧ w'.cell? ⟨C, 3, none⟩ = some (.bool md) ∧ w'.cell? ⟨C, 4, none⟩ = some (.bool true) ∧ w'.cell? ⟨C, 5, none⟩ = some (.bool pd) ∧ Below w.heap.size w w') (refine ⟨?_, ?_, ?_, ?_, ?_, ?_, ?_, ?_, ?_, ?_, ?_, ?_, ?_, ?_, ?_, ?_, ?_, ?_⟩ <;> first | assumption | (rw [World.cell?_drew]; assumption) | (refine Below.drew ?_; assumption)) (first | (go_at_call 83; refine (tMajor _ _ _ _ _ _ _).mono ?_; rintro e w1 ⟨rfl, hb⟩; have HS2 : S3 w V U C a b c p m o a2 b2 c2 p2 m2 o2 op md true pd w1 := (by refine ⟨?_, ?_, ?_, ?_, ?_, ?_, ?_, ?_, ?_, ?_, ?_, ?_, ?_, ?_, ?_, ?_, ?_, ?_⟩ <;> first | exact keepc hb (by first | assumption | (rw [World.cell?_drew]; assumption)) | exact belk hb (by first | assumption | (refine Below.drew ?_; assumption))); clear hb; obtain ⟨q0, q1, q2, q3, q4, q5, q6, q7, q8, q9, q10, q11, q12, q13, q14, q15, q16, q17⟩ := HS2))
        go_upto_region 11 with fail
        refine wp_region_held_drew (S := (fun w' => w'.cell? ⟨V, 0, none⟩ = some (.int .u64 a) ∧ w'.cell? ⟨V, 1, none⟩ = some (.int .u64 b) ∧ w'.cell? ⟨V, 2, none⟩ = some (.int .u64 c) ∧ w'.cell? ⟨V, 3, none⟩ = some (.string p) ∧ w'.cell? ⟨V, 4, none⟩ = some (.string m) ∧ w'.cell? ⟨V, 5, none⟩ = some (.string o) ∧ w'.cell? ⟨U, 0, none⟩ = some (.int .u64 a2) ∧ w'.cell? ⟨U, 1, none⟩ = some (.int .u64 b2) ∧ w'.cell? ⟨U, 2, none⟩ = some (.int .u64 c2) ∧ w'.cell? ⟨U, 3, none⟩ = some (.string p2) ∧ w'.cell? ⟨U, 4, none⟩ = some (.string m2) ∧ w'.cell? ⟨U, 5, none⟩ = some (.string o2) ∧ w'.cell? ⟨C, 0, none⟩ = some (.pointer (some ⟨U, 0, none⟩)) ∧ w'.cell? ⟨C, 2, none⟩ = some (.string op) ∧ w'.cell? ⟨C, 3, none⟩ = some (.bool md) ∧ w'.cell? ⟨C, 4, none⟩ = some (.bool true) ∧ w'.cell? ⟨C, 5, none⟩ = some (.bool pd) ∧ Below w.heap.size w w')) (by kernel_rfl) ⟨by first | assumption | (rw [World.cell?_drew]; assumption), by first | assumption | (rw [World.cell?_drew]; assumption), by first | assumption | (rw [World.cell?_drew]; assumption), by first | assumption | (rw [World.cell?_drew]; assumption), by first | assumption | (rw [World.cell?_drew]; assumption), by first | assumption | (rw [World.cell?_drew]; assumption), by first | assumption | (rw [World.cell?_drew]; assumption), by first | assumption | (rw [World.cell?_drew]; assumption), by first | assumption | (rw [World.cell?_drew]; assumption), by first | assumption | (rw [World.cell?_drew]; assumption), by first | assumption | (rw [World.cell?_drew]; assumption), by first | assumption | (rw [World.cell?_drew]; assumption), by first | assumption | (rw [World.cell?_drew]; assumption), by first | assumption | (rw [World.cell?_drew]; assumption), by first | assumption | (rw [World.cell?_drew]; assumption), by first | assumption | (rw [World.cell?_drew]; assumption), by first | assumption | (rw [World.cell?_drew]; assumption), by first | assumption | (refine Below.drew ?_; assumption)⟩ (fun hHeld => ?_)
        refine wpAnyH_take (i := 0) (oi := { dst := some 46, op := Op.move (Operand.tmp 0), type := 53, pos := "constraints.go:439", after := #[], guard := none }) (v := ?_) rfl (by kernel_rfl) (by kernel_rfl) (by kernel_rfl) (fun _ _ _ h => h) (Or.inl ⟨by rfl, ?_⟩) (by assumption) ?_
        rotate_left
        · intro W hSw
          clear hSw
          go_simp
          try with_reducible rfl
        try simp only [Act.put, List.setIfInBounds_toArray, List.set_cons_zero, List.set_cons_succ]
        refine wpAnyH_take (i := 1) (oi := { dst := some 47, op := Op.nilCheck (Operand.tmp 46), type := 0, pos := "constraints.go:439", after := #[{ on := 0, ground := Ground.data }], guard := none }) (v := ?_) rfl (by kernel_rfl) (by kernel_rfl) (by kernel_rfl) (fun _ _ _ h => h) (Or.inl ⟨by rfl, ?_⟩) (by assumption) ?_
        rotate_left
        · intro W hSw
          clear hSw
          go_simp
          try with_reducible rfl
        try simp only [Act.put, List.setIfInBounds_toArray, List.set_cons_zero, List.set_cons_succ]
        refine wpAnyH_take (i := 2) (oi := { dst := some 48, op := Op.load 71 (Operand.tmp 47), type := 71, pos := "constraints.go:439", after := #[{ on := 1, ground := Ground.data }], guard := none }) (v := ?_) rfl (by kernel_rfl) (by kernel_rfl) (by kernel_rfl) (fun _ _ _ h => h) (Or.inl ⟨by rfl, ?_⟩) (by assumption) ?_
        rotate_left
        · intro W hSw
          obtain ⟨s0, s1, s2, s3, s4, s5, s6, s7, s8, s9, s10, s11, s12, s13, s14, s15, s16, s17⟩ := hSw
          go_simp
          try with_reducible rfl
        try simp only [Act.put, List.setIfInBounds_toArray, List.set_cons_zero, List.set_cons_succ]
        refine wpAnyH_take (i := 4) (oi := { dst := some 50, op := Op.move (Operand.tmp 1), type := 67, pos := "constraints.go:439", after := #[], guard := none }) (v := ?_) rfl (by kernel_rfl) (by kernel_rfl) (by kernel_rfl) (fun _ _ _ h => h) (Or.inl ⟨by rfl, ?_⟩) (by assumption) ?_
        rotate_left
        · intro W hSw
          clear hSw
          go_simp
          try with_reducible rfl
        try simp only [Act.put, List.setIfInBounds_toArray, List.set_cons_zero, List.set_cons_succ]
        refine wpAnyH_take (i := 5) (oi := { dst := some 51, op := Op.nilCheck (Operand.tmp 50), type := 0, pos := "constraints.go:439", after := #[{ on := 4, ground := Ground.data }], guard := none }) (v := ?_) rfl (by kernel_rfl) (by kernel_rfl) (by kernel_rfl) (fun _ _ _ h => h) (Or.inl ⟨by rfl, ?_⟩) (by assumption) ?_
        rotate_left
        · intro W hSw
          clear hSw
          go_simp
          try with_reducible rfl
        try simp only [Act.put, List.setIfInBounds_toArray, List.set_cons_zero, List.set_cons_succ]
        refine wpAnyH_take (i := 6) (oi := { dst := some 52, op := Op.fieldAddr 73 (Operand.tmp 51) 0, type := 0, pos := "constraints.go:439", after := #[{ on := 5, ground := Ground.data }], guard := none }) (v := ?_) rfl (by kernel_rfl) (by kernel_rfl) (by kernel_rfl) (fun _ _ _ h => h) (Or.inl ⟨by rfl, ?_⟩) (by assumption) ?_
        rotate_left
        · intro W hSw
          clear hSw
          go_simp
          try with_reducible rfl
        try simp only [Act.put, List.setIfInBounds_toArray, List.set_cons_zero, List.set_cons_succ]
        refine wpAnyH_take (i := 7) (oi := { dst := some 53, op := Op.load 53 (Operand.tmp 52), type := 53, pos := "constraints.go:439", after := #[{ on := 6, ground := Ground.data }], guard := none }) (v := ?_) rfl (by kernel_rfl) (by kernel_rfl) (by kernel_rfl) (fun _ _ _ h => h) (Or.inl ⟨by rfl, ?_⟩) (by assumption) ?_
        rotate_left
        · intro W hSw
          obtain ⟨s0, s1, s2, s3, s4, s5, s6, s7, s8, s9, s10, s11, s12, s13, s14, s15, s16, s17⟩ := hSw
          go_simp
          try with_reducible rfl
        try simp only [Act.put, List.setIfInBounds_toArray, List.set_cons_zero, List.set_cons_succ]
        refine wpAnyH_take (i := 8) (oi := { dst := some 54, op := Op.nilCheck (Operand.tmp 53), type := 0, pos := "constraints.go:439", after := #[{ on := 7, ground := Ground.data }], guard := none }) (v := ?_) rfl (by kernel_rfl) (by kernel_rfl) (by kernel_rfl) (fun _ _ _ h => h) (Or.inl ⟨by rfl, ?_⟩) (by assumption) ?_
        rotate_left
        · intro W hSw
          clear hSw
          go_simp
          try with_reducible rfl
        try simp only [Act.put, List.setIfInBounds_toArray, List.set_cons_zero, List.set_cons_succ]
        refine wpAnyH_take (i := 9) (oi := { dst := some 55, op := Op.load 71 (Operand.tmp 54), type := 71, pos := "constraints.go:439", after := #[{ on := 8, ground := Ground.data }], guard := none }) (v := ?_) rfl (by kernel_rfl) (by kernel_rfl) (by kernel_rfl) (fun _ _ _ h => h) (Or.inl ⟨by rfl, ?_⟩) (by assumption) ?_
        rotate_left
        · intro W hSw
          obtain ⟨s0, s1, s2, s3, s4, s5, s6, s7, s8, s9, s10, s11, s12, s13, s14, s15, s16, s17⟩ := hSw
          go_simp
          try with_reducible rfl
        try simp only [Act.put, List.setIfInBounds_toArray, List.set_cons_zero, List.set_cons_succ]
        refine wpAnyH_ready (rs := [3]) (by kernel_rfl) (by simp) ?_
        refine (AllReadyH.cons (o := { dst := some 49, op := Op.call { callee := Callee.value (Operand.func 83), args := #[Operand.tmp 48], argTypes := #[53] }, type := 23, pos := "constraints.go:439", after := #[{ on := 2, ground := Ground.data }], guard := none }) rfl (fun K hK => ?_) AllReadyH.nil)
        go_simp
        (go_at_call 83; refine (tMajor _ _ _ _ _ _ _).mono ?_; rintro e w1 ⟨rfl, hb⟩; have HS2 : S3 w V U C a b c p m o a2 b2 c2 p2 m2 o2 op md true pd w1 := (by refine ⟨?_, ?_, ?_, ?_, ?_, ?_, ?_, ?_, ?_, ?_, ?_, ?_, ?_, ?_, ?_, ?_, ?_, ?_⟩ <;> first | exact keepc hb (by first | assumption | (rw [World.cell?_drew]; assumption)) | exact belk hb (by first | assumption | (refine Below.drew ?_; assumption))); clear hb; obtain ⟨q0, q1, q2, q3, q4, q5, q6, q7, q8, q9, q10, q11, q12, q13, q14, q15, q16, q17⟩ := HS2)
        refine hK.out _ _ ⟨by assumption, by assumption, by assumption, by assumption, by assumption, by assumption, by assumption, by assumption, by assumption, by assumption, by assumption, by assumption, by assumption, by assumption, by assumption, by assumption, by assumption, by assumption⟩ (fun hHeld => ?_)
        clear hK K
        try simp only [Act.put, List.setIfInBounds_toArray, List.set_cons_zero, List.set_cons_succ]
        refine wpAnyH_ready (rs := [10]) (by kernel_rfl) (by simp) ?_
        refine (AllReadyH.cons (o := { dst := some 56, op := Op.call { callee := Callee.value (Operand.func 83), args := #[Operand.tmp 55], argTypes := #[53] }, type := 23, pos := "constraints.go:439", after := #[{ on := 9, ground := Ground.data }, { on := 3, ground := Ground.chain }], guard := none }) rfl (fun K hK => ?_) AllReadyH.nil)
        go_simp
        (go_at_call 83; refine (tMajor _ _ _ _ _ _ _).mono ?_; rintro e w1 ⟨rfl, hb⟩; have HS2 : S3 w V U C a b c p m o a2 b2 c2 p2 m2 o2 op md true pd w1 := (by refine ⟨?_, ?_, ?_, ?_, ?_, ?_, ?_, ?_, ?_, ?_, ?_, ?_, ?_, ?_, ?_, ?_, ?_, ?_⟩ <;> first | exact keepc hb (by first | assumption | (rw [World.cell?_drew]; assumption)) | exact belk hb (by first | assumption | (refine Below.drew ?_; assumption))); clear hb; obtain ⟨q0, q1, q2, q3, q4, q5, q6, q7, q8, q9, q10, q11, q12, q13, q14, q15, q16, q17⟩ := HS2)
        refine hK.out _ _ ⟨by assumption, by assumption, by assumption, by assumption, by assumption, by assumption, by assumption, by assumption, by assumption, by assumption, by assumption, by assumption, by assumption, by assumption, by assumption, by assumption, by assumption, by assumption⟩ (fun hHeld => ?_)
        clear hK K
        try simp only [Act.put, List.setIfInBounds_toArray, List.set_cons_zero, List.set_cons_succ]
        refine wpAnyH_take (i := 11) (oi := { dst := some 57, op := Op.binOp BinOp.eql 23 (Operand.tmp 49) (Operand.tmp 56) 23, type := 4, pos := "constraints.go:439", after := #[{ on := 3, ground := Ground.data }, { on := 10, ground := Ground.data }], guard := none }) (v := ?_) rfl (by kernel_rfl) (by kernel_rfl) (by kernel_rfl) (fun _ _ _ h => h) (Or.inl ⟨by rfl, ?_⟩) (by assumption) ?_
        rotate_left
        · intro W hSw
          clear hSw
          go_simp
          try with_reducible rfl
        try simp only [Act.put, List.setIfInBounds_toArray, List.set_cons_zero, List.set_cons_succ]
        refine wpAnyH_take (i := 12) (oi := { dst := some 58, op := Op.move (Operand.tmp 57), type := 4, pos := "constraints.go:439", after := #[{ on := 11, ground := Ground.data }, { on := 10, ground := Ground.chain }], guard := none }) (v := ?_) rfl (by kernel_rfl) (by kernel_rfl) (by kernel_rfl) (fun _ _ _ h => h) (Or.inl ⟨by rfl, ?_⟩) (by assumption) ?_
        rotate_left
        · intro W hSw
          clear hSw
          go_simp
          try with_reducible rfl
        try simp only [Act.put, List.setIfInBounds_toArray, List.set_cons_zero, List.set_cons_succ]
        refine wpAnyH_take (i := 13) (oi := { dst := some 59, op := Op.move (Operand.tmp 0), type := 53, pos := "constraints.go:439", after := #[{ on := 12, ground := Ground.guard }], guard := some (12, true) }) (v := ?_) rfl (by kernel_rfl) (by kernel_rfl) (by kernel_rfl) (fun _ _ _ h => h) (Or.inl ⟨by rfl, ?_⟩) (by assumption) ?_
        rotate_left
        · intro W hSw
          clear hSw
          go_simp
          try with_reducible rfl
        try simp only [Act.put, List.setIfInBounds_toArray, List.set_cons_zero, List.set_cons_succ]
        refine wpAnyH_take (i := 14) (oi := { dst := some 60, op := Op.nilCheck (Operand.tmp 59), type := 0, pos := "constraints.go:439", after := #[{ on := 13, ground := Ground.data }, { on := 12, ground := Ground.guard }], guard := some (12, true) }) (v := ?_) rfl (by kernel_rfl) (by kernel_rfl) (by kernel_rfl) (fun _ _ _ h => h) (Or.inl ⟨by rfl, ?_⟩) (by assumption) ?_
        rotate_left
        · intro W hSw
          clear hSw
          go_simp
          try with_reducible rfl
        try simp only [Act.put, List.setIfInBounds_toArray, List.set_cons_zero, List.set_cons_succ]
        refine wpAnyH_take (i := 15) (oi := { dst := some 61, op := Op.load 71 (Operand.tmp 60), type := 71, pos := "constraints.go:439", after := #[{ on := 14, ground := Ground.data }, { on := 12, ground := Ground.guard }], guard := some (12, true) }) (v := ?_) rfl (by kernel_rfl) (by kernel_rfl) (by kernel_rfl) (fun _ _ _ h => h) (Or.inl ⟨by rfl, ?_⟩) (by assumption) ?_
        rotate_left
        · intro W hSw
          obtain ⟨s0, s1, s2, s3, s4, s5, s6, s7, s8, s9, s10, s11, s12, s13, s14, s15, s16, s17⟩ := hSw
          go_simp
          try with_reducible rfl
        try simp only [Act.put, List.setIfInBounds_toArray, List.set_cons_zero, List.set_cons_succ]
        refine wpAnyH_take (i := 17) (oi := { dst := some 63, op := Op.move (Operand.tmp 1), type := 67, pos := "constraints.go:439", after := #[{ on := 12, ground := Ground.guard }], guard := some (12, true) }) (v := ?_) rfl (by kernel_rfl) (by kernel_rfl) (by kernel_rfl) (fun _ _ _ h => h) (Or.inl ⟨by rfl, ?_⟩) (by assumption) ?_
        rotate_left
        · intro W hSw
          clear hSw
          go_simp
          try with_reducible rfl
        try simp only [Act.put, List.setIfInBounds_toArray, List.set_cons_zero, List.set_cons_succ]
        refine wpAnyH_take (i := 18) (oi := { dst := some 64, op := Op.nilCheck (Operand.tmp 63), type := 0, pos := "constraints.go:439", after := #[{ on := 17, ground := Ground.data }, { on := 12, ground := Ground.guard }], guard := some (12, true) }) (v := ?_) rfl (by kernel_rfl) (by kernel_rfl) (by kernel_rfl) (fun _ _ _ h => h) (Or.inl ⟨by rfl, ?_⟩) (by assumption) ?_
        rotate_left
        · intro W hSw
          clear hSw
          go_simp
          try with_reducible rfl
        try simp only [Act.put, List.setIfInBounds_toArray, List.set_cons_zero, List.set_cons_succ]
        refine wpAnyH_take (i := 19) (oi := { dst := some 65, op := Op.fieldAddr 73 (Operand.tmp 64) 0, type := 0, pos := "constraints.go:439", after := #[{ on := 18, ground := Ground.data }, { on := 12, ground := Ground.guard }], guard := some (12, true) }) (v := ?_) rfl (by kernel_rfl) (by kernel_rfl) (by kernel_rfl) (fun _ _ _ h => h) (Or.inl ⟨by rfl, ?_⟩) (by assumption) ?_
        rotate_left
        · intro W hSw
          clear hSw
          go_simp
          try with_reducible rfl
        try simp only [Act.put, List.setIfInBounds_toArray, List.set_cons_zero, List.set_cons_succ]
        refine wpAnyH_take (i := 20) (oi := { dst := some 66, op := Op.load 53 (Operand.tmp 65), type := 53, pos := "constraints.go:439", after := #[{ on := 19, ground := Ground.data }, { on := 12, ground := Ground.guard }], guard := some (12, true) }) (v := ?_) rfl (by kernel_rfl) (by kernel_rfl) (by kernel_rfl) (fun _ _ _ h => h) (Or.inl ⟨by rfl, ?_⟩) (by assumption) ?_
        rotate_left
        · intro W hSw
          obtain ⟨s0, s1, s2, s3, s4, s5, s6, s7, s8, s9, s10, s11, s12, s13, s14, s15, s16, s17⟩ := hSw
          go_simp
          try with_reducible rfl
        try simp only [Act.put, List.setIfInBounds_toArray, List.set_cons_zero, List.set_cons_succ]
        refine wpAnyH_take (i := 21) (oi := { dst := some 67, op := Op.nilCheck (Operand.tmp 66), type := 0, pos := "constraints.go:439", after := #[{ on := 20, ground := Ground.data }, { on := 12, ground := Ground.guard }], guard := some (12, true) }) (v := ?_) rfl (by kernel_rfl) (by kernel_rfl) (by kernel_rfl) (fun _ _ _ h => h) (Or.inl ⟨by rfl, ?_⟩) (by assumption) ?_
        rotate_left
        · intro W hSw
          clear hSw
          go_simp
          try with_reducible rfl
        try simp only [Act.put, List.setIfInBounds_toArray, List.set_cons_zero, List.set_cons_succ]
        refine wpAnyH_take (i := 22) (oi := { dst := some 68, op := Op.load 71 (Operand.tmp 67), type := 71, pos := "constraints.go:439", after := #[{ on := 21, ground := Ground.data }, { on := 12, ground := Ground.guard }], guard := some (12, true) }) (v := ?_) rfl (by kernel_rfl) (by kernel_rfl) (by kernel_rfl) (fun _ _ _ h => h) (Or.inl ⟨by rfl, ?_⟩) (by assumption) ?_
        rotate_left
        · intro W hSw
          obtain ⟨s0, s1, s2, s3, s4, s5, s6, s7, s8, s9, s10, s11, s12, s13, s14, s15, s16, s17⟩ := hSw
          go_simp
          try with_reducible rfl
        try simp only [Act.put, List.setIfInBounds_toArray, List.set_cons_zero, List.set_cons_succ]
        refine wpAnyH_ready (rs := [16]) (by kernel_rfl) (by simp) ?_
        refine (AllReadyH.cons (o := { dst := some 62, op := Op.call { callee := Callee.value (Operand.func 84), args := #[Operand.tmp 61], argTypes := #[53] }, type := 23, pos := "constraints.go:439", after := #[{ on := 15, ground := Ground.data }, { on := 12, ground := Ground.chain }, { on := 12, ground := Ground.guard }], guard := some (12, true) }) rfl (fun K hK => ?_) AllReadyH.nil)
        go_simp
        (go_at_call 84; refine (tMinor _ _ _ _ _ _ _).mono ?_; rintro e w1 ⟨rfl, hb⟩; have HS2 : S3 w V U C a b c p m o a2 b2 c2 p2 m2 o2 op md true pd w1 := (by refine ⟨?_, ?_, ?_, ?_, ?_, ?_, ?_, ?_, ?_, ?_, ?_, ?_, ?_, ?_, ?_, ?_, ?_, ?_⟩ <;> first | exact keepc hb (by first | assumption | (rw [World.cell?_drew]; assumption)) | exact belk hb (by first | assumption | (refine Below.drew ?_; assumption))); clear hb; obtain ⟨q0, q1, q2, q3, q4, q5, q6, q7, q8, q9, q10, q11, q12, q13, q14, q15, q16, q17⟩ := HS2)
        refine hK.out _ _ ⟨by assumption, by assumption, by assumption, by assumption, by assumption, by assumption, by assumption, by assumption, by assumption, by assumption, by assumption, by assumption, by assumption, by assumption, by assumption, by assumption, by assumption, by assumption⟩ (fun hHeld => ?_)
        clear hK K
        try simp only [Act.put, List.setIfInBounds_toArray, List.set_cons_zero, List.set_cons_succ]
        refine wpAnyH_ready (rs := [23]) (by kernel_rfl) (by simp) ?_
        refine (AllReadyH.cons (o := { dst := some 69, op := Op.call { callee := Callee.value (Operand.func 84), args := #[Operand.tmp 68], argTypes := #[53] }, type := 23, pos := "constraints.go:439", after := #[{ on := 22, ground := Ground.data }, { on := 16, ground := Ground.chain }, { on := 12, ground := Ground.guard }], guard := some (12, true) }) rfl (fun K hK => ?_) AllReadyH.nil)
        go_simp
        (go_at_call 84; refine (tMinor _ _ _ _ _ _ _).mono ?_; rintro e w1 ⟨rfl, hb⟩; have HS2 : S3 w V U C a b c p m o a2 b2 c2 p2 m2 o2 op md true pd w1 := (by refine ⟨?_, ?_, ?_, ?_, ?_, ?_, ?_, ?_, ?_, ?_, ?_, ?_, ?_, ?_, ?_, ?_, ?_, ?_⟩ <;> first | exact keepc hb (by first | assumption | (rw [World.cell?_drew]; assumption)) | exact belk hb (by first | assumption | (refine Below.drew ?_; assumption))); clear hb; obtain ⟨q0, q1, q2, q3, q4, q5, q6, q7, q8, q9, q10, q11, q12, q13, q14, q15, q16, q17⟩ := HS2)
        refine hK.out _ _ ⟨by assumption, by assumption, by assumption, by assumption, by assumption, by assumption, by assumption, by assumption, by assumption, by assumption, by assumption, by assumption, by assumption, by assumption, by assumption, by assumption, by assumption, by assumption⟩ (fun hHeld => ?_)
        clear hK K
        try simp only [Act.put, List.setIfInBounds_toArray, List.set_cons_zero, List.set_cons_succ]
        refine wpAnyH_take (i := 24) (oi := { dst := some 70, op := Op.binOp BinOp.gtr 23 (Operand.tmp 62) (Operand.tmp 69) 23, type := 4, pos := "constraints.go:439", after := #[{ on := 16, ground := Ground.data }, { on := 23, ground := Ground.data }, { on := 12, ground := Ground.guard }], guard := some (12, true) }) (v := ?_) rfl (by kernel_rfl) (by kernel_rfl) (by kernel_rfl) (fun _ _ _ h => h) (Or.inl ⟨by rfl, ?_⟩) (by assumption) ?_
        rotate_left
        · intro W hSw
          clear hSw
          go_simp
          try with_reducible rfl
        try simp only [Act.put, List.setIfInBounds_toArray, List.set_cons_zero, List.set_cons_succ]
        refine wpAnyH_take (i := 25) (oi := { dst := some 71, op := Op.pick (Operand.tmp 58) (Operand.tmp 70) (Operand.const (Value.bool false)), type := 4, pos := "constraints.go:439", after := #[{ on := 12, ground := Ground.data }, { on := 24, ground := Ground.data }], guard := none }) (v := ?_) rfl (by kernel_rfl) (by kernel_rfl) (by kernel_rfl) (fun _ _ _ h => h) (Or.inl ⟨by rfl, ?_⟩) (by assumption) ?_
        rotate_left
        · intro W hSw
          clear hSw
          go_simp
          try with_reducible rfl
        try simp only [Act.put, List.setIfInBounds_toArray, List.set_cons_zero, List.set_cons_succ]
        refine wpAnyH_take (i := 26) (oi := { dst := some 72, op := Op.move (Operand.tmp 71), type := 4, pos := "constraints.go:439", after := #[{ on := 25, ground := Ground.data }, { on := 23, ground := Ground.chain }], guard := none }) (v := ?_) rfl (by kernel_rfl) (by kernel_rfl) (by kernel_rfl) (fun _ _ _ h => h) (Or.inl ⟨by rfl, ?_⟩) (by assumption) ?_
        rotate_left
        · intro W hSw
          clear hSw
          go_simp
          try with_reducible rfl
        try simp only [Act.put, List.setIfInBounds_toArray, List.set_cons_zero, List.set_cons_succ]
        refine wpAnyH_take (i := 27) (oi := { dst := some 73, op := Op.move (Operand.tmp 1), type := 67, pos := "constraints.go:439", after := #[{ on := 26, ground := Ground.guard }], guard := some (26, true) }) (v := undef) rfl (by kernel_rfl) (by kernel_rfl) (by kernel_rfl) (fun _ _ _ h => h) (Or.inr ⟨by rfl, rfl⟩) (by assumption) ?_
        try simp only [Act.put, List.setIfInBounds_toArray, List.set_cons_zero, List.set_cons_succ]
        refine wpAnyH_take (i := 28) (oi := { dst := some 74, op := Op.nilCheck (Operand.tmp 73), type := 0, pos := "constraints.go:439", after := #[{ on := 27, ground := Ground.data }, { on := 26, ground := Ground.guard }], guard := some (26, true) }) (v := undef) rfl (by kernel_rfl) (by kernel_rfl) (by kernel_rfl) (fun _ _ _ h => h) (Or.inr ⟨by rfl, rfl⟩) (by assumption) ?_
        try simp only [Act.put, List.setIfInBounds_toArray, List.set_cons_zero, List.set_cons_succ]
        refine wpAnyH_take (i := 29) (oi := { dst := some 75, op := Op.fieldAddr 73 (Operand.tmp 74) 3, type := 0, pos := "constraints.go:439", after := #[{ on := 28, ground := Ground.data }, { on := 26, ground := Ground.guard }], guard := some (26, true) }) (v := undef) rfl (by kernel_rfl) (by kernel_rfl) (by kernel_rfl) (fun _ _ _ h => h) (Or.inr ⟨by rfl, rfl⟩) (by assumption) ?_
        try simp only [Act.put, List.setIfInBounds_toArray, List.set_cons_zero, List.set_cons_succ]
        refine wpAnyH_take (i := 30) (oi := { dst := some 76, op := Op.load 4 (Operand.tmp 75), type := 4, pos := "constraints.go:439", after := #[{ on := 29, ground := Ground.data }, { on := 26, ground := Ground.guard }], guard := some (26, true) }) (v := undef) rfl (by kernel_rfl) (by kernel_rfl) (by kernel_rfl) (fun _ _ _ h => h) (Or.inr ⟨by rfl, rfl⟩) (by assumption) ?_
        try simp only [Act.put, List.setIfInBounds_toArray, List.set_cons_zero, List.set_cons_succ]
        refine wpAnyH_take (i := 31) (oi := { dst := some 77, op := Op.unOp UnOp.not 4 (Operand.tmp 76), type := 4, pos := "constraints.go:439", after := #[{ on := 30, ground := Ground.data }, { on := 26, ground := Ground.guard }], guard := some (26, true) }) (v := undef) rfl (by kernel_rfl) (by kernel_rfl) (by kernel_rfl) (fun _ _ _ h => h) (Or.inr ⟨by rfl, rfl⟩) (by assumption) ?_
        try simp only [Act.put, List.setIfInBounds_toArray, List.set_cons_zero, List.set_cons_succ]
        refine wpAnyH_take (i := 32) (oi := { dst := some 78, op := Op.pick (Operand.tmp 72) (Operand.tmp 77) (Operand.const (Value.bool false)), type := 4, pos := "constraints.go:439", after := #[{ on := 26, ground := Ground.data }, { on := 31, ground := Ground.data }], guard := none }) (v := ?_) rfl (by kernel_rfl) (by kernel_rfl) (by kernel_rfl) (fun _ _ _ h => h) (Or.inl ⟨by rfl, ?_⟩) (by assumption) ?_
        rotate_left
        · intro W hSw
          clear hSw
          go_simp
          try with_reducible rfl
        try simp only [Act.put, List.setIfInBounds_toArray, List.set_cons_zero, List.set_cons_succ]
        refine wpAnyH_done (by kernel_rfl) ?_ _
        go_wp2
        all_goals (go_ret2; refine ret_bool (r := res) ?_ (by first | assumption | (refine Below.drew ?_; assumption)); rw [← HRES.out, leR, if_neg (by simp), if_neg x1, if_neg (by simp [x3])])
    · have y2 : ((a : Int) == (a2 : Int)) = false := by simp; omega
      go_upto_region 9 with (first | (go_at_call 81; refine (tPrere _ _ _ _ _ _ _).mono ?_; rintro e w1 ⟨rfl, hb⟩; obtain ⟨q0, q1, q2, q3, q4, q5, q6, q7, q8, q9, q10, q11, q12, q13, q14, q15, q16, q17⟩ := kp18 hb q0 q1 q2 q3 q4 q5 q6 q7 q8 q9 q10 q11 q12 q13 q14 q15 q16 q17; clear hb) | (go_at_call 83; refine (tMajor _ _ _ _ _ _ _).mono ?_; rintro e w1 ⟨rfl, hb⟩; obtain ⟨q0, q1, q2, q3, q4, q5, q6, q7, q8, q9, q10, q11, q12, q13, q14, q15, q16, q17⟩ := kp18 hb q0 q1 q2 q3 q4 q5 q6 q7 q8 q9 q10 q11 q12 q13 q14 q15 q16 q17; clear hb) | (go_at_call 84; refine (tMinor _ _ _ _ _ _ _).mono ?_; rintro e w1 ⟨rfl, hb⟩; obtain ⟨q0, q1, q2, q3, q4, q5, q6, q7, q8, q9, q10, q11, q12, q13, q14, q15, q16, q17⟩ := kp18 hb q0 q1 q2 q3 q4 q5 q6 q7 q8 q9 q10 q11 q12 q13 q14 q15 q16 q17; clear hb) | (go_at_call 85; refine (tPatch _ _ _ _ _ _ _).mono ?_; rintro e w1 ⟨rfl, hb⟩; obtain ⟨q0, q1, q2, q3, q4, q5, q6, q7, q8, q9, q10, q11, q12, q13, q14, q15, q16, q17⟩ := kp18 hb q0 q1 q2 q3 q4 q5 q6 q7 q8 q9 q10 q11 q12 q13 q14 q15 q16 q17; clear hb) | (go_at_call 87; refine (tCmp _ V U a b c p m o a2 b2 c2 p2 m2 o2 ⟨(by first | assumption | (rw [World.cell?_drew]; assumption)), (by first | assumption | (rw [World.cell?_drew]; assumption)), (by first | assumption | (rw [World.cell?_drew]; assumption)), (by first | assumption | (rw [World.cell?_drew]; assumption)), (by first | assumption | (rw [World.cell?_drew]; assumption)), (by first | assumption | (rw [World.cell?_drew]; assumption)), (by first | assumption | (rw [World.cell?_drew]; assumption)), (by first | assumption | (rw [World.cell?_drew]; assumption)), (by first | assumption | (rw [World.cell?_drew]; assumption)), (by first | assumption | (rw [World.cell?_drew]; assumption)), (by first | assumption | (rw [World.cell?_drew]; assumption)), (by first | assumption | (rw [World.cell?_drew]; assumption)), Below.refl _ _⟩ hp rel hr).mono ?_; rintro e w2 ⟨rfl, hb⟩; obtain ⟨q0, q1, q2, q3, q4, q5, q6, q7, q8, q9, q10, q11, q12, q13, q14, q15, q16, q17⟩ := kp18 hb q0 q1 q2 q3 q4 q5 q6 q7 q8 q9 q10 q11 q12 q13 q14 q15 q16 q17; clear hb) | (go_at_call 28; refine (tErr _ _).mono ?_; rintro e w3 ⟨t3, a3, rfl, hb⟩; obtain ⟨q0, q1, q2, q3, q4, q5, q6, q7, q8, q9, q10, q11, q12, q13, q14, q15, q16, q17⟩ := kp18 hb q0 q1 q2 q3 q4 q5 q6 q7 q8 q9 q10 q11 q12 q13 q14 q15 q16 q17; clear hb))
      go_region_held3 (fun w' => w'.cell? ⟨V, 0, none⟩ = some (.int .u64 a) ∧ w'.cell? ⟨V, 1, none⟩ = some (.int .u64 b) ∧ w'.cell? ⟨V, 2, none⟩ = some (.int .u64 c) ∧ w'.cell? ⟨V, 3, none⟩ = some (.string p) ∧ w'.cell? ⟨V, 4, none⟩ = some (.string m) ∧ w'.cell? ⟨V, 5, none⟩ = some (.string o) ∧ w'.cell? ⟨U, 0, none⟩ = some (.int .u64 a2) ∧ w'.cell? ⟨U, 1, none⟩ = some (.int .u64 b2) ∧ w'.cell? ⟨U, 2, none⟩ = some (.int .u64 c2) ∧ w'.cell? ⟨U, 3, none⟩ = some (.string p2) ∧ w'.cell? ⟨U, 4, none⟩ = some (.string m2) ∧ w'.cell? ⟨U, 5, none⟩ = some (.string o2) ∧ w'.cell? ⟨C, 0, none⟩ = some (.pointer (some ⟨U, 0, none⟩)) ∧ w'.cell? ⟨C, 2, none⟩ = some (.string op) ∧ w'.cell? ⟨C, 3, none⟩ = some (.bool md) ∧ w'.cell? ⟨C, 4, none⟩ = some (.bool true) ∧ w'.cell? ⟨C, 5, none⟩ = some (.bool pd) ∧ Below w.heap.size w w') (refine ⟨?_, ?_, ?_, ?_, ?_, ?_, ?_, ?_, ?_, ?_, ?_, ?_, ?_, ?_, ?_, ?_, ?_, ?_⟩ <;> first | assumption | (rw [World.cell?_drew]; assumption) | (refine Below.drew ?_; assumption)) (first | (go_at_call 83; refine (tMajor _ _ _ _ _ _ _).mono ?_; rintro e w1 ⟨rfl, hb⟩; have HS2 : S3 w V U C a b c p m o a2 b2 c2 p2 m2 o2 op md true pd w1 := (by refine ⟨?_, ?_, ?_, ?_, ?_, ?_, ?_, ?_, ?_, ?_, ?_, ?_, ?_, ?_, ?_, ?_, ?_, ?_⟩ <;> first | exact keepc hb (by first | assumption | (rw [World.cell?_drew]; assumption)) | exact belk hb (by first | assumption | (refine Below.drew ?_; assumption))); clear hb; obtain ⟨q0, q1, q2, q3, q4, q5, q6, q7, q8, q9, q10, q11, q12, q13, q14, q15, q16, q17⟩ := HS2))
      go_upto_region 11 with fail
      refine wp_region_held_drew (S := (fun w' => w'.cell? ⟨V, 0, none⟩ = some (.int .u64 a) ∧ w'.cell? ⟨V, 1, none⟩ = some (.int .u64 b) ∧ w'.cell? ⟨V, 2, none⟩ = some (.int .u64 c) ∧ w'.cell? ⟨V, 3, none⟩ = some (.string p) ∧ w'.cell? ⟨V, 4, none⟩ = some (.string m) ∧ w'.cell? ⟨V, 5, none⟩ = some (.string o) ∧ w'.cell? ⟨U, 0, none⟩ = some (.int .u64 a2) ∧ w'.cell? ⟨U, 1, none⟩ = some (.int .u64 b2) ∧ w'.cell? ⟨U, 2, none⟩ = some (.int .u64 c2) ∧ w'.cell? ⟨U, 3, none⟩ = some (.string p2) ∧ w'.cell? ⟨U, 4, none⟩ = some (.string m2) ∧ w'.cell? ⟨U, 5, none⟩ = some (.string o2) ∧ w'.cell? ⟨C, 0, none⟩ = some (.pointer (some ⟨U, 0, none⟩)) ∧ w'.cell? ⟨C, 2, none⟩ = some (.string op) ∧ w'.cell? ⟨C, 3, none⟩ = some (.bool md) ∧ w'.cell? ⟨C, 4, none⟩ = some (.bool true) ∧ w'.cell? ⟨C, 5, none⟩ = some (.bool pd) ∧ Below w.heap.size w w')) (by kernel_rfl) ⟨by first | assumption | (rw [World.cell?_drew]; assumption), by first | assumption | (rw [World.cell?_drew]; assumption), by first | assumption | (rw [World.cell?_drew]; assumption), by first | assumption | (rw [World.cell?_drew]; assumption), by first | assumption | (rw [World.cell?_drew]; assumption), by first | assumption | (rw [World.cell?_drew]; assumption), by first | assumption | (rw [World.cell?_drew]; assumption), by first | assumption | (rw [World.cell?_drew]; assumption), by first | assumption | (rw [World.cell?_drew]; assumption), by first | assumption | (rw [World.cell?_drew]; assumption), by first | assumption | (rw [World.cell?_drew]; assumption), by first | assumption | (rw [World.cell?_drew]; assumption), by first | assumption | (rw [World.cell?_drew]; assumption), by first | assumption | (rw [World.cell?_drew]; assumption), by first | assumption | (rw [World.cell?_drew]; assumption), by first | assumption | (rw [World.cell?_drew]; assumption), by first | assumption | (rw [World.cell?_drew]; assumption), by first | assumption | (refine Below.drew ?_; assumption)⟩ (fun hHeld => ?_)
      refine wpAnyH_take (i := 0) (oi := { dst := some 46, op := Op.move (Operand.tmp 0), type := 53, pos := "constraints.go:439", after := #[], guard := none }) (v := ?_) rfl (by kernel_rfl) (by kernel_rfl) (by kernel_rfl) (fun _ _ _ h => h) (Or.inl ⟨by rfl, ?_⟩) (by assumption) ?_
      rotate_left
      · intro W hSw
        clear hSw
        go_simp
        try with_reducible rfl
      try simp only [Act.put, List.setIfInBounds_toArray, List.set_cons_zero, List.set_cons_succ]
      refine wpAnyH_take (i := 1) (oi := { dst := some 47, op := Op.nilCheck (Operand.tmp 46), type := 0, pos := "constraints.go:439", after := #[{ on := 0, ground := Ground.data }], guard := none }) (v := ?_) rfl (by kernel_rfl) (by kernel_rfl) (by kernel_rfl) (fun _ _ _ h => h) (Or.inl ⟨by rfl, ?_⟩) (by assumption) ?_
      rotate_left
      · intro W hSw
        clear hSw
        go_simp
        try with_reducible rfl
      try simp only [Act.put, List.setIfInBounds_toArray, List.set_cons_zero, List.set_cons_succ]
      refine wpAnyH_take (i := 2) (oi := { dst := some 48, op := Op.load 71 (Operand.tmp 47), type := 71, pos := "constraints.go:439", after := #[{ on := 1, ground := Ground.data }], guard := none }) (v := ?_) rfl (by kernel_rfl) (by kernel_rfl) (by kernel_rfl) (fun _ _ _ h => h) (Or.inl ⟨by rfl, ?_⟩) (by assumption) ?_
      rotate_left
      · intro W hSw
        obtain ⟨s0, s1, s2, s3, s4, s5, s6, s7, s8, s9, s10, s11, s12, s13, s14, s15, s16, s17⟩ := hSw
        go_simp
        try with_reducible rfl
      try simp only [Act.put, List.setIfInBounds_toArray, List.set_cons_zero, List.set_cons_succ]
      refine wpAnyH_take (i := 4) (oi := { dst := some 50, op := Op.move (Operand.tmp 1), type := 67, pos := "constraints.go:439", after := #[], guard := none }) (v := ?_) rfl (by kernel_rfl) (by kernel_rfl) (by kernel_rfl) (fun _ _ _ h => h) (Or.inl ⟨by rfl, ?_⟩) (by assumption) ?_
      rotate_left
      · intro W hSw
        clear hSw
        go_simp
        try with_reducible rfl
      try simp only [Act.put, List.setIfInBounds_toArray, List.set_cons_zero, List.set_cons_succ]
      refine wpAnyH_take (i := 5) (oi := { dst := some 51, op := Op.nilCheck (Operand.tmp 50), type := 0, pos := "constraints.go:439", after := #[{ on := 4, ground := Ground.data }], guard := none }) (v := ?_) rfl (by kernel_rfl) (by kernel_rfl) (by kernel_rfl) (fun _ _ _ h => h) (Or.inl ⟨by rfl, ?_⟩) (by assumption) ?_
      rotate_left
      · intro W hSw
        clear hSw
        go_simp
        try with_reducible rfl
      try simp only [Act.put, List.setIfInBounds_toArray, List.set_cons_zero, List.set_cons_succ]
      refine wpAnyH_take (i := 6) (oi := { dst := some 52, op := Op.fieldAddr 73 (Operand.tmp 51) 0, type := 0, pos := "constraints.go:439", after := #[{ on := 5, ground := Ground.data }], guard := none }) (v := ?_) rfl (by kernel_rfl) (by kernel_rfl) (by kernel_rfl) (fun _ _ _ h => h) (Or.inl ⟨by rfl, ?_⟩) (by assumption) ?_
      rotate_left
      · intro W hSw
        clear hSw
        go_simp
        try with_reducible rfl
      try simp only [Act.put, List.setIfInBounds_toArray, List.set_cons_zero, List.set_cons_succ]
      refine wpAnyH_take (i := 7) (oi := { dst := some 53, op := Op.load 53 (Operand.tmp 52), type := 53, pos := "constraints.go:439", after := #[{ on := 6, ground := Ground.data }], guard := none }) (v := ?_) rfl (by kernel_rfl) (by kernel_rfl) (by kernel_rfl) (fun _ _ _ h => h) (Or.inl ⟨by rfl, ?_⟩) (by assumption) ?_
      rotate_left
      · intro W hSw
        obtain ⟨s0, s1, s2, s3, s4, s5, s6, s7, s8, s9, s10, s11, s12, s13, s14, s15, s16, s17⟩ := hSw
        go_simp
        try with_reducible rfl
      try simp only [Act.put, List.setIfInBounds_toArray, List.set_cons_zero, List.set_cons_succ]
      refine wpAnyH_take (i := 8) (oi := { dst := some 54, op := Op.nilCheck (Operand.tmp 53), type := 0, pos := "constraints.go:439", after := #[{ on := 7, ground := Ground.data }], guard := none }) (v := ?_) rfl (by kernel_rfl) (by kernel_rfl) (by kernel_rfl) (fun _ _ _ h => h) (Or.inl ⟨by rfl, ?_⟩) (by assumption) ?_
      rotate_left
      · intro W hSw
        clear hSw
        go_simp
        try with_reducible rfl
      try simp only [Act.put, List.setIfInBounds_toArray, List.set_cons_zero, List.set_cons_succ]
      refine wpAnyH_take (i := 9) (oi := { dst := some 55, op := Op.load 71 (Operand.tmp 54), type := 71, pos := "constraints.go:439", after := #[{ on := 8, ground := Ground.data }], guard := none }) (v := ?_) rfl (by kernel_rfl) (by kernel_rfl) (by kernel_rfl) (fun _ _ _ h => h) (Or.inl ⟨by rfl, ?_⟩) (by assumption) ?_
      rotate_left
      · intro W hSw
        obtain ⟨s0, s1, s2, s3, s4, s5, s6, s7, s8, s9, s10, s11, s12, s13, s14, s15, s16, s17⟩ := hSw
        go_simp
        try with_reducible rfl
      try simp only [Act.put, List.setIfInBounds_toArray, List.set_cons_zero, List.set_cons_succ]
      refine wpAnyH_ready (rs := [3]) (by kernel_rfl) (by simp) ?_
      refine (AllReadyH.cons (o := { dst := some 49, op := Op.call { callee := Callee.value (Operand.func 83), args := #[Operand.tmp 48], argTypes := #[53] }, type := 23, pos := "constraints.go:439", after := #[{ on := 2, ground := Ground.data }], guard := none }) rfl (fun K hK => ?_) AllReadyH.nil)
      go_simp
      (go_at_call 83; refine (tMajor _ _ _ _ _ _ _).mono ?_; rintro e w1 ⟨rfl, hb⟩; have HS2 : S3 w V U C a b c p m o a2 b2 c2 p2 m2 o2 op md true pd w1 := (by refine ⟨?_, ?_, ?_, ?_, ?_, ?_, ?_, ?_, ?_, ?_, ?_, ?_, ?_, ?_, ?_, ?_, ?_, ?_⟩ <;> first | exact keepc hb (by first | assumption | (rw [World.cell?_drew]; assumption)) | exact belk hb (by first | assumption | (refine Below.drew ?_; assumption))); clear hb; obtain ⟨q0, q1, q2, q3, q4, q5, q6, q7, q8, q9, q10, q11, q12, q13, q14, q15, q16, q17⟩ := HS2)
      refine hK.out _ _ ⟨by assumption, by assumption, by assumption, by assumption, by assumption, by assumption, by assumption, by assumption, by assumption, by assumption, by assumption, by assumption, by assumption, by assumption, by assumption, by assumption, by assumption, by assumption⟩ (fun hHeld => ?_)
      clear hK K
      try simp only [Act.put, List.setIfInBounds_toArray, List.set_cons_zero, List.set_cons_succ]
      refine wpAnyH_ready (rs := [10]) (by kernel_rfl) (by simp) ?_
      refine (AllReadyH.cons (o := { dst := some 56, op := Op.call { callee := Callee.value (Operand.func 83), args := #[Operand.tmp 55], argTypes := #[53] }, type := 23, pos := "constraints.go:439", after := #[{ on := 9, ground := Ground.data }, { on := 3, ground := Ground.chain }], guard := none }) rfl (fun K hK => ?_) AllReadyH.nil)
      go_simp
      (go_at_call 83; refine (tMajor _ _ _ _ _ _ _).mono ?_; rintro e w1 ⟨rfl, hb⟩; have HS2 : S3 w V U C a b c p m o a2 b2 c2 p2 m2 o2 op md true pd w1 := (by refine ⟨?_, ?_, ?_, ?_, ?_, ?_, ?_, ?_, ?_, ?_, ?_, ?_, ?_, ?_, ?_, ?_, ?_, ?_⟩ <;> first | exact keepc hb (by first | assumption | (rw [World.cell?_drew]; assumption)) | exact belk hb (by first | assumption | (refine Below.drew ?_; assumption))); clear hb; obtain ⟨q0, q1, q2, q3, q4, q5, q6, q7, q8, q9, q10, q11, q12, q13, q14, q15, q16, q17⟩ := HS2)
      refine hK.out _ _ ⟨by assumption, by assumption, by assumption, by assumption, by assumption, by assumption, by assumption, by assumption, by assumption, by assumption, by assumption, by assumption, by assumption, by assumption, by assumption, by assumption, by assumption, by assumption⟩ (fun hHeld => ?_)
      clear hK K
      try simp only [Act.put, List.setIfInBounds_toArray, List.set_cons_zero, List.set_cons_succ]
      refine wpAnyH_take (i := 11) (oi := { dst := some 57, op := Op.binOp BinOp.eql 23 (Operand.tmp 49) (Operand.tmp 56) 23, type := 4, pos := "constraints.go:439", after := #[{ on := 3, ground := Ground.data }, { on := 10, ground := Ground.data }], guard := none }) (v := ?_) rfl (by kernel_rfl) (by kernel_rfl) (by kernel_rfl) (fun _ _ _ h => h) (Or.inl ⟨by rfl, ?_⟩) (by assumption) ?_
      rotate_left
      · intro W hSw
        clear hSw
        go_simp
        try with_reducible rfl
      try simp only [Act.put, List.setIfInBounds_toArray, List.set_cons_zero, List.set_cons_succ]
      refine wpAnyH_take (i := 12) (oi := { dst := some 58, op := Op.move (Operand.tmp 57), type := 4, pos := "constraints.go:439", after := #[{ on := 11, ground := Ground.data }, { on := 10, ground := Ground.chain }], guard := none }) (v := ?_) rfl (by kernel_rfl) (by kernel_rfl) (by kernel_rfl) (fun _ _ _ h => h) (Or.inl ⟨by rfl, ?_⟩) (by assumption) ?_
      rotate_left
      · intro W hSw
        clear hSw
        go_simp
        try with_reducible rfl
      try simp only [Act.put, List.setIfInBounds_toArray, List.set_cons_zero, List.set_cons_succ]
      refine wpAnyH_take (i := 13) (oi := { dst := some 59, op := Op.move (Operand.tmp 0), type := 53, pos := "constraints.go:439", after := #[{ on := 12, ground := Ground.guard }], guard := some (12, true) }) (v := undef) rfl (by kernel_rfl) (by kernel_rfl) (by kernel_rfl) (fun _ _ _ h => h) (Or.inr ⟨by rfl, rfl⟩) (by assumption) ?_
      try simp only [Act.put, List.setIfInBounds_toArray, List.set_cons_zero, List.set_cons_succ]
      refine wpAnyH_take (i := 14) (oi := { dst := some 60, op := Op.nilCheck (Operand.tmp 59), type := 0, pos := "constraints.go:439", after := #[{ on := 13, ground := Ground.data }, { on := 12, ground := Ground.guard }], guard := some (12, true) }) (v := undef) rfl (by kernel_rfl) (by kernel_rfl) (by kernel_rfl) (fun _ _ _ h => h) (Or.inr ⟨by rfl, rfl⟩) (by assumption) ?_
      try simp only [Act.put, List.setIfInBounds_toArray, List.set_cons_zero, List.set_cons_succ]
      refine wpAnyH_take (i := 15) (oi := { dst := some 61, op := Op.load 71 (Operand.tmp 60), type := 71, pos := "constraints.go:439", after := #[{ on := 14, ground := Ground.data }, { on := 12, ground := Ground.guard }], guard := some (12, true) }) (v := undef) rfl (by kernel_rfl) (by kernel_rfl) (by kernel_rfl) (fun _ _ _ h => h) (Or.inr ⟨by rfl, rfl⟩) (by assumption) ?_
      try simp only [Act.put, List.setIfInBounds_toArray, List.set_cons_zero, List.set_cons_succ]
      refine wpAnyH_take (i := 16) (oi := { dst := some 62, op := Op.call { callee := Callee.value (Operand.func 84), args := #[Operand.tmp 61], argTypes := #[53] }, type := 23, pos := "constraints.go:439", after := #[{ on := 15, ground := Ground.data }, { on := 12, ground := Ground.chain }, { on := 12, ground := Ground.guard }], guard := some (12, true) }) (v := undef) rfl (by kernel_rfl) (by kernel_rfl) (by kernel_rfl) (fun _ _ _ h => h) (Or.inr ⟨by rfl, rfl⟩) (by assumption) ?_
      try simp only [Act.put, List.setIfInBounds_toArray, List.set_cons_zero, List.set_cons_succ]
      refine wpAnyH_take (i := 17) (oi := { dst := some 63, op := Op.move (Operand.tmp 1), type := 67, pos := "constraints.go:439", after := #[{ on := 12, ground := Ground.guard }], guard := some (12, true) }) (v := undef) rfl (by kernel_rfl) (by kernel_rfl) (by kernel_rfl) (fun _ _ _ h => h) (Or.inr ⟨by rfl, rfl⟩) (by assumption) ?_
      try simp only [Act.put, List.setIfInBounds_toArray, List.set_cons_zero, List.set_cons_succ]
      refine wpAnyH_take (i := 18) (oi := { dst := some 64, op := Op.nilCheck (Operand.tmp 63), type := 0, pos := "constraints.go:439", after := #[{ on := 17, ground := Ground.data }, { on := 12, ground := Ground.guard }], guard := some (12, true) }) (v := undef) rfl (by kernel_rfl) (by kernel_rfl) (by kernel_rfl) (fun _ _ _ h => h) (Or.inr ⟨by rfl, rfl⟩) (by assumption) ?_
      try simp only [Act.put, List.setIfInBounds_toArray, List.set_cons_zero, List.set_cons_succ]
      refine wpAnyH_take (i := 19) (oi := { dst := some 65, op := Op.fieldAddr 73 (Operand.tmp 64) 0, type := 0, pos := "constraints.go:439", after := #[{ on := 18, ground := Ground.data }, { on := 12, ground := Ground.guard }], guard := some (12, true) }) (v := undef) rfl (by kernel_rfl) (by kernel_rfl) (by kernel_rfl) (fun _ _ _ h => h) (Or.inr ⟨by rfl, rfl⟩) (by assumption) ?_
      try simp only [Act.put, List.setIfInBounds_toArray, List.set_cons_zero, List.set_cons_succ]
      refine wpAnyH_take (i := 20) (oi := { dst := some 66, op := Op.load 53 (Operand.tmp 65), type := 53, pos := "constraints.go:439", after := #[{ on := 19, ground := Ground.data }, { on := 12, ground := Ground.guard }], guard := some (12, true) }) (v := undef) rfl (by kernel_rfl) (by kernel_rfl) (by kernel_rfl) (fun _ _ _ h => h) (Or.inr ⟨by rfl, rfl⟩) (by assumption) ?_
      try simp only [Act.put, List.setIfInBounds_toArray, List.set_cons_zero, List.set_cons_succ]
      refine wpAnyH_take (i := 21) (oi := { dst := some 67, op := Op.nilCheck (Operand.tmp 66), type := 0, pos := "constraints.go:439", after := #[{ on := 20, ground := Ground.data }, { on := 12, ground := Ground.guard }], guard := some (12, true) }) (v := undef) rfl (by kernel_rfl) (by kernel_rfl) (by kernel_rfl) (fun _ _ _ h => h) (Or.inr ⟨by rfl, rfl⟩) (by assumption) ?_
      try simp only [Act.put, List.setIfInBounds_toArray, List.set_cons_zero, List.set_cons_succ]
      refine wpAnyH_take (i := 22) (oi := { dst := some 68, op := Op.load 71 (Operand.tmp 67), type := 71, pos := "constraints.go:439", after := #[{ on := 21, ground := Ground.data }, { on := 12, ground := Ground.guard }], guard := some (12, true) }) (v := undef) rfl (by kernel_rfl) (by kernel_rfl) (by kernel_rfl) (fun _ _ _ h => h) (Or.inr ⟨by rfl, rfl⟩) (by assumption) ?_
      try simp only [Act.put, List.setIfInBounds_toArray, List.set_cons_zero, List.set_cons_succ]
      refine wpAnyH_take (i := 23) (oi := { dst := some 69, op := Op.call { callee := Callee.value (Operand.func 84), args := #[Operand.tmp 68], argTypes := #[53] }, type := 23, pos := "constraints.go:439", after := #[{ on := 22, ground := Ground.data }, { on := 16, ground := Ground.chain }, { on := 12, ground := Ground.guard }], guard := some (12, true) }) (v := undef) rfl (by kernel_rfl) (by kernel_rfl) (by kernel_rfl) (fun _ _ _ h => h) (Or.inr ⟨by rfl, rfl⟩) (by assumption) ?_
      try simp only [Act.put, List.setIfInBounds_toArray, List.set_cons_zero, List.set_cons_succ]
      refine wpAnyH_take (i := 24) (oi := { dst := some 70, op := Op.binOp BinOp.gtr 23 (Operand.tmp 62) (Operand.tmp 69) 23, type := 4, pos := "constraints.go:439", after := #[{ on := 16, ground := Ground.data }, { on := 23, ground := Ground.data }, { on := 12, ground := Ground.guard }], guard := some (12, true) }) (v := undef) rfl (by kernel_rfl) (by kernel_rfl) (by kernel_rfl) (fun _ _ _ h => h) (Or.inr ⟨by rfl, rfl⟩) (by assumption) ?_
      try simp only [Act.put, List.setIfInBounds_toArray, List.set_cons_zero, List.set_cons_succ]
      refine wpAnyH_take (i := 25) (oi := { dst := some 71, op := Op.pick (Operand.tmp 58) (Operand.tmp 70) (Operand.const (Value.bool false)), type := 4, pos := "constraints.go:439", after := #[{ on := 12, ground := Ground.data }, { on := 24, ground := Ground.data }], guard := none }) (v := ?_) rfl (by kernel_rfl) (by kernel_rfl) (by kernel_rfl) (fun _ _ _ h => h) (Or.inl ⟨by rfl, ?_⟩) (by assumption) ?_
      rotate_left
      · intro W hSw
        clear hSw
        go_simp
        try with_reducible rfl
      try simp only [Act.put, List.setIfInBounds_toArray, List.set_cons_zero, List.set_cons_succ]
      refine wpAnyH_take (i := 26) (oi := { dst := some 72, op := Op.move (Operand.tmp 71), type := 4, pos := "constraints.go:439", after := #[{ on := 25, ground := Ground.data }, { on := 23, ground := Ground.chain }], guard := none }) (v := ?_) rfl (by kernel_rfl) (by kernel_rfl) (by kernel_rfl) (fun _ _ _ h => h) (Or.inl ⟨by rfl, ?_⟩) (by assumption) ?_
      rotate_left
      · intro W hSw
        clear hSw
        go_simp
        try with_reducible rfl
      try simp only [Act.put, List.setIfInBounds_toArray, List.set_cons_zero, List.set_cons_succ]
      refine wpAnyH_take (i := 27) (oi := { dst := some 73, op := Op.move (Operand.tmp 1), type := 67, pos := "constraints.go:439", after := #[{ on := 26, ground := Ground.guard }], guard := some (26, true) }) (v := undef) rfl (by kernel_rfl) (by kernel_rfl) (by kernel_rfl) (fun _ _ _ h => h) (Or.inr ⟨by rfl, rfl⟩) (by assumption) ?_
      try simp only [Act.put, List.setIfInBounds_toArray, List.set_cons_zero, List.set_cons_succ]
      refine wpAnyH_take (i := 28) (oi := { dst := some 74, op := Op.nilCheck (Operand.tmp 73), type := 0, pos := "constraints.go:439", after := #[{ on := 27, ground := Ground.data }, { on := 26, ground := Ground.guard }], guard := some (26, true) }) (v := undef) rfl (by kernel_rfl) (by kernel_rfl) (by kernel_rfl) (fun _ _ _ h => h) (Or.inr ⟨by rfl, rfl⟩) (by assumption) ?_
      try simp only [Act.put, List.setIfInBounds_toArray, List.set_cons_zero, List.set_cons_succ]
      refine wpAnyH_take (i := 29) (oi := { dst := some 75, op := Op.fieldAddr 73 (Operand.tmp 74) 3, type := 0, pos := "constraints.go:439", after := #[{ on := 28, ground := Ground.data }, { on := 26, ground := Ground.guard }], guard := some (26, true) }) (v := undef) rfl (by kernel_rfl) (by kernel_rfl) (by kernel_rfl) (fun _ _ _ h => h) (Or.inr ⟨by rfl, rfl⟩) (by assumption) ?_
      try simp only [Act.put, List.setIfInBounds_toArray, List.set_cons_zero, List.set_cons_succ]
      refine wpAnyH_take (i := 30) (oi := { dst := some 76, op := Op.load 4 (Operand.tmp 75), type := 4, pos := "constraints.go:439", after := #[{ on := 29, ground := Ground.data }, { on := 26, ground := Ground.guard }], guard := some (26, true) }) (v := undef) rfl (by kernel_rfl) (by kernel_rfl) (by kernel_rfl) (fun _ _ _ h => h) (Or.inr ⟨by rfl, rfl⟩) (by assumption) ?_
      try simp only [Act.put, List.setIfInBounds_toArray, List.set_cons_zero, List.set_cons_succ]
      refine wpAnyH_take (i := 31) (oi := { dst := some 77, op := Op.unOp UnOp.not 4 (Operand.tmp 76), type := 4, pos := "constraints.go:439", after := #[{ on := 30, ground := Ground.data }, { on := 26, ground := Ground.guard }], guard := some (26, true) }) (v := undef) rfl (by kernel_rfl) (by kernel_rfl) (by kernel_rfl) (fun _ _ _ h => h) (Or.inr ⟨by rfl, rfl⟩) (by assumption) ?_
      try simp only [Act.put, List.setIfInBounds_toArray, List.set_cons_zero, List.set_cons_succ]
      refine wpAnyH_take (i := 32) (oi := { dst := some 78, op := Op.pick (Operand.tmp 72) (Operand.tmp 77) (Operand.const (Value.bool false)), type := 4, pos := "constraints.go:439", after := #[{ on := 26, ground := Ground.data }, { on := 31, ground := Ground.data }], guard := none }) (v := ?_) rfl (by kernel_rfl) (by kernel_rfl) (by kernel_rfl) (fun _ _ _ h => h) (Or.inl ⟨by rfl, ?_⟩) (by assumption) ?_
      rotate_left
      · intro W hSw
        clear hSw
        go_simp
        try with_reducible rfl
      try simp only [Act.put, List.setIfInBounds_toArray, List.set_cons_zero, List.set_cons_succ]
      refine wpAnyH_done (by kernel_rfl) ?_ _
      go_wp2
      all_goals (go_ret2; refine ret_bool (r := res) ?_ (by first | assumption | (refine Below.drew ?_; assumption)); rw [← HRES.out, leR, if_neg (by simp), if_neg x1, if_neg (by simp [x2])])
end Go.Proofs.YtnamjojceadgdaaGreatDoor.Sv
end
