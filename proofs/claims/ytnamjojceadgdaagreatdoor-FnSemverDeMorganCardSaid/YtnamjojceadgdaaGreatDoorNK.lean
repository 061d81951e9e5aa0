/- a part of the proof: FnSemverDeMorgan: for every list of terms, every style and every version the law's function returns true and leaves its arguments as they were. No condition is added: the statement is the given one, the tied card. -/
import Derived.Test.YtnamjojceadgdaaGreatDoorNJ
import Derived.Test.YtnamjojceadgdaaGreatDoorNI
import Derived.Deep.CutRange
import Derived.LaidEqlPtr
import Derived.Test.YtnamjojceadgdaaGreatDoorNF
import Derived.Test.YtnamjojceadgdaaGreatDoorNC
import Derived.Lib.OthersKept
import Derived.Lib.TrimU
import Derived.Deep.LoopGhost
section
set_option linter.unusedVariables false
set_option linter.unusedSimpArgs false
/- the operators = != > <=, of a release, with numbers missing or not -/
namespace Go.Proofs.YtnamjojceadgdaaGreatDoor.Sv
open Go Go.RowKit Rx
set_option maxRecDepth 100000
theorem info71 : (Tryz.prog.info? 71).map (·.size) = some 6 := by kernel_rfl
theorem rowk {w W : World} {V : Nat} (h : ∃ cs t, w.heap[V]? = some (.cells cs t (0, 0))) (hb : Below w.heap.size w W) : ∃ cs t, W.heap[V]? = some (.cells cs t (0, 0)) := by
  obtain ⟨cs, t, h1⟩ := h
  exact ⟨cs, t, (hb.block V (Array.getElem?_eq_some_iff.1 h1).1).trans h1⟩
set_option maxHeartbeats 4000000 in
theorem tEqual (w : World) (V U a b c : Nat) (p m o : ByteArray) (a2 b2 c2 : Nat) (p2 m2 o2 : ByteArray) (h : S2 w V U a b c p m o a2 b2 c2 p2 m2 o2 w) (hp : p.toList.isEmpty = true) (rel : Bool) (hr : p2.toList.isEmpty = rel) (hV : ∃ cs t, w.heap[V]? = some (.cells cs t (0, 0))) (hU : ∃ cs t, w.heap[U]? = some (.cells cs t (0, 0))) :
    Calls Tryz.prog 82 #[.pointer (some ⟨V, 0, none⟩), .pointer (some ⟨U, 0, none⟩)] w fun e w' => e = .returned (.bool (cmpRel a b c a2 b2 c2 rel == 0)) ∧ Below w.heap.size w w' := by
  obtain ⟨j, hj, hjs⟩ := Option.map_eq_some_iff.1 info71
  have hb0 := Lib.hid (Below.refl w.heap.size w)
  by_cases hVU : V = U
  · subst hVU
    obtain ⟨q0, q1, q2, q3, q4, q5, q6, q7, q8, q9, q10, q11, q12⟩ := h
    have e0 := q0.symm.trans q6
    have e1 := q1.symm.trans q7
    have e2 := q2.symm.trans q8
    have e3 := q3.symm.trans q9
    obtain rfl : a = a2 := by simp at e0; omega
    obtain rfl : b = b2 := by simp at e1; omega
    obtain rfl : c = c2 := by simp at e2; omega
    obtain rfl : p = p2 := by simpa using e3
    have hrel : rel = true := by rw [← hr]; exact hp
    subst hrel
    have hz : (cmpRel a b c a b c true == 0) = true := by simp [cmpRel, seg_eq]
    rw [hz]
    have heq := run_eql_ptr_same (P := Tryz.prog) w ⟨V, 0, none⟩ Tryz.underlying53 hj
    clear q0 q1 q2 q3 q4 q5 q6 q7 q8 q9 q10 q11 q12 e0 e1 e2 e3 hV hU hp hr hz
    go_enter Tryz.func82, Tryz.ntmps82
    go_wp2
    go_ret
    exact ⟨rfl, hb0.out⟩
  · obtain ⟨cV, tV, hV⟩ := hV
    obtain ⟨cU, tU, hU⟩ := hU
    have heq := run_eql_ptr_other (P := Tryz.prog) w (a := ⟨V, 0, none⟩) (b := ⟨U, 0, none⟩) Tryz.underlying53 hj (by rw [hjs]; decide) (fun e => hVU (by injection e)) hV hU
    have HC := Lib.hid (tCmp w V U a b c p m o a2 b2 c2 p2 m2 o2 h hp rel hr)
    generalize cmpRel a b c a2 b2 c2 rel = r at *
    clear hV hU h hp hr
    go_enter Tryz.func82, Tryz.ntmps82
    go_wp2_with (go_at_call 87; refine HC.out.mono ?_; rintro e w2 ⟨rfl, hb⟩; have HB := Lib.hid hb; clear hb)
    go_ret
    exact ⟨rfl, HB.out⟩
def eqR (a b c a2 b2 c2 : Nat) (rel md d pd : Bool) : Bool := if d = false then cmpRel a b c a2 b2 c2 rel == 0 else tildeR a b c a2 b2 c2 rel md pd
def neR (a b c a2 b2 c2 : Nat) (rel md d pd : Bool) : Bool := if d = false then !(cmpRel a b c a2 b2 c2 rel == 0) else if a ≠ a2 then true else decide (b ≠ b2 ∧ md = false)
set_option maxHeartbeats 8000000 in
theorem tEqW (w : World) (V U C a b c : Nat) (p m o : ByteArray) (a2 b2 c2 : Nat) (p2 m2 o2 op : ByteArray) (md d pd inc : Bool) (h : S3 w V U C a b c p m o a2 b2 c2 p2 m2 o2 op md d pd w) (hp : p.toList.isEmpty = true) (rel : Bool) (hr : p2.toList.isEmpty = rel) (hV : ∃ cs t, w.heap[V]? = some (.cells cs t (0, 0))) (hU : ∃ cs t, w.heap[U]? = some (.cells cs t (0, 0))) :
    Calls Tryz.prog 55 #[.pointer (some ⟨V, 0, none⟩), .pointer (some ⟨C, 0, none⟩), .bool inc] w fun e w' => ∃ ev, e = .returned (.tuple #[.bool (eqR a b c a2 b2 c2 rel md d pd), ev]) ∧ Below w.heap.size w w' := by
  have HR := Lib.hid (fun (W : World) (hb : Below w.heap.size w W) => (And.intro (rowk hV hb) (rowk hU hb) : (∃ cs t, W.heap[V]? = some (.cells cs t (0, 0))) ∧ (∃ cs t, W.heap[U]? = some (.cells cs t (0, 0)))))
  clear hV hU
  obtain ⟨q0, q1, q2, q3, q4, q5, q6, q7, q8, q9, q10, q11, q12, q13, q14, q15, q16, q17⟩ := h
  generalize hres : eqR a b c a2 b2 c2 rel md d pd = res
  have HRES := Lib.hid hres
  clear hres
  cases d
  · go_enter Tryz.func55, Tryz.ntmps55
    go_wp2_with (first | (go_at_call 81; refine (tPrere _ _ _ _ _ _ _).mono ?_; rintro e w1 ⟨rfl, hb⟩; obtain ⟨q0, q1, q2, q3, q4, q5, q6, q7, q8, q9, q10, q11, q12, q13, q14, q15, q16, q17⟩ := kp18 hb q0 q1 q2 q3 q4 q5 q6 q7 q8 q9 q10 q11 q12 q13 q14 q15 q16 q17; clear hb) | (go_at_call 82; refine (tEqual _ V U a b c p m o a2 b2 c2 p2 m2 o2 ⟨(by first | assumption | (rw [World.cell?_drew]; assumption)), (by first | assumption | (rw [World.cell?_drew]; assumption)), (by first | assumption | (rw [World.cell?_drew]; assumption)), (by first | assumption | (rw [World.cell?_drew]; assumption)), (by first | assumption | (rw [World.cell?_drew]; assumption)), (by first | assumption | (rw [World.cell?_drew]; assumption)), (by first | assumption | (rw [World.cell?_drew]; assumption)), (by first | assumption | (rw [World.cell?_drew]; assumption)), (by first | assumption | (rw [World.cell?_drew]; assumption)), (by first | assumption | (rw [World.cell?_drew]; assumption)), (by first | assumption | (rw [World.cell?_drew]; assumption)), (by first | assumption | (rw [World.cell?_drew]; assumption)), Below.refl _ _⟩ hp rel hr (HR.out _ (by first | assumption | (refine Below.drew ?_; assumption))).1 (HR.out _ (by first | assumption | (refine Below.drew ?_; assumption))).2).mono ?_; rintro e w2 ⟨rfl, hb⟩; obtain ⟨q0, q1, q2, q3, q4, q5, q6, q7, q8, q9, q10, q11, q12, q13, q14, q15, q16, q17⟩ := kp18 hb q0 q1 q2 q3 q4 q5 q6 q7 q8 q9 q10 q11 q12 q13 q14 q15 q16 q17; clear hb) | (go_at_call 28; refine (tErr _ _).mono ?_; rintro e w3 ⟨t3, a3, rfl, hb⟩; obtain ⟨q0, q1, q2, q3, q4, q5, q6, q7, q8, q9, q10, q11, q12, q13, q14, q15, q16, q17⟩ := kp18 hb q0 q1 q2 q3 q4 q5 q6 q7 q8 q9 q10 q11 q12 q13 q14 q15 q16 q17; clear hb))
    all_goals (go_ret2; refine ret_bool (r := res) ?_ (by first | assumption | (refine Below.drew ?_; assumption)); rw [← HRES.out, eqR, if_pos rfl])
    all_goals first | (rw [show (cmpRel a b c a2 b2 c2 rel == 0) = true by assumption]) | (rw [show (cmpRel a b c a2 b2 c2 rel == 0) = false by assumption])
  · go_enter Tryz.func55, Tryz.ntmps55
    go_wp2_with (first | (go_at_call 81; refine (tPrere _ _ _ _ _ _ _).mono ?_; rintro e w1 ⟨rfl, hb⟩; obtain ⟨q0, q1, q2, q3, q4, q5, q6, q7, q8, q9, q10, q11, q12, q13, q14, q15, q16, q17⟩ := kp18 hb q0 q1 q2 q3 q4 q5 q6 q7 q8 q9 q10 q11 q12 q13 q14 q15 q16 q17; clear hb) | (go_at_call 61; refine (tTilde _ V U C a b c p m o a2 b2 c2 p2 m2 o2 op md true pd inc ⟨(by first | assumption | (rw [World.cell?_drew]; assumption)), (by first | assumption | (rw [World.cell?_drew]; assumption)), (by first | assumption | (rw [World.cell?_drew]; assumption)), (by first | assumption | (rw [World.cell?_drew]; assumption)), (by first | assumption | (rw [World.cell?_drew]; assumption)), (by first | assumption | (rw [World.cell?_drew]; assumption)), (by first | assumption | (rw [World.cell?_drew]; assumption)), (by first | assumption | (rw [World.cell?_drew]; assumption)), (by first | assumption | (rw [World.cell?_drew]; assumption)), (by first | assumption | (rw [World.cell?_drew]; assumption)), (by first | assumption | (rw [World.cell?_drew]; assumption)), (by first | assumption | (rw [World.cell?_drew]; assumption)), (by first | assumption | (rw [World.cell?_drew]; assumption)), (by first | assumption | (rw [World.cell?_drew]; assumption)), (by first | assumption | (rw [World.cell?_drew]; assumption)), (by first | assumption | (rw [World.cell?_drew]; assumption)), (by first | assumption | (rw [World.cell?_drew]; assumption)), Below.refl _ _⟩ hp rel hr).mono ?_; rintro e w2 ⟨ev, rfl, hb⟩; have hbb := belk hb (by first | assumption | (refine Below.drew ?_; assumption)); clear hb))
    all_goals (go_ret2; refine ret_bool (r := res) ?_ (by first | assumption | (refine Below.drew ?_; assumption)); rw [← HRES.out, eqR, if_neg (by simp)])
set_option maxHeartbeats 8000000 in
theorem tNeW (w : World) (V U C a b c : Nat) (p m o : ByteArray) (a2 b2 c2 : Nat) (p2 m2 o2 op : ByteArray) (md d pd inc : Bool) (h : S3 w V U C a b c p m o a2 b2 c2 p2 m2 o2 op md d pd w) (hp : p.toList.isEmpty = true) (rel : Bool) (hr : p2.toList.isEmpty = rel) (hV : ∃ cs t, w.heap[V]? = some (.cells cs t (0, 0))) (hU : ∃ cs t, w.heap[U]? = some (.cells cs t (0, 0))) (hmp : d = true → md = true ∨ pd = true) (hdr : d = true → rel = true) :
    Calls Tryz.prog 56 #[.pointer (some ⟨V, 0, none⟩), .pointer (some ⟨C, 0, none⟩), .bool inc] w fun e w' => ∃ ev, e = .returned (.tuple #[.bool (neR a b c a2 b2 c2 rel md d pd), ev]) ∧ Below w.heap.size w w' := by
  have HR := Lib.hid (fun (W : World) (hb : Below w.heap.size w W) => (And.intro (rowk hV hb) (rowk hU hb) : (∃ cs t, W.heap[V]? = some (.cells cs t (0, 0))) ∧ (∃ cs t, W.heap[U]? = some (.cells cs t (0, 0)))))
  clear hV hU
  obtain ⟨q0, q1, q2, q3, q4, q5, q6, q7, q8, q9, q10, q11, q12, q13, q14, q15, q16, q17⟩ := h
  generalize hres : neR a b c a2 b2 c2 rel md d pd = res
  have HRES := Lib.hid hres
  clear hres
  cases d
  · clear hmp hdr
    go_enter Tryz.func56, Tryz.ntmps56
    go_wp2_with (first | (go_at_call 81; refine (tPrere _ _ _ _ _ _ _).mono ?_; rintro e w1 ⟨rfl, hb⟩; obtain ⟨q0, q1, q2, q3, q4, q5, q6, q7, q8, q9, q10, q11, q12, q13, q14, q15, q16, q17⟩ := kp18 hb q0 q1 q2 q3 q4 q5 q6 q7 q8 q9 q10 q11 q12 q13 q14 q15 q16 q17; clear hb) | (go_at_call 82; refine (tEqual _ V U a b c p m o a2 b2 c2 p2 m2 o2 ⟨(by first | assumption | (rw [World.cell?_drew]; assumption)), (by first | assumption | (rw [World.cell?_drew]; assumption)), (by first | assumption | (rw [World.cell?_drew]; assumption)), (by first | assumption | (rw [World.cell?_drew]; assumption)), (by first | assumption | (rw [World.cell?_drew]; assumption)), (by first | assumption | (rw [World.cell?_drew]; assumption)), (by first | assumption | (rw [World.cell?_drew]; assumption)), (by first | assumption | (rw [World.cell?_drew]; assumption)), (by first | assumption | (rw [World.cell?_drew]; assumption)), (by first | assumption | (rw [World.cell?_drew]; assumption)), (by first | assumption | (rw [World.cell?_drew]; assumption)), (by first | assumption | (rw [World.cell?_drew]; assumption)), Below.refl _ _⟩ hp rel hr (HR.out _ (by first | assumption | (refine Below.drew ?_; assumption))).1 (HR.out _ (by first | assumption | (refine Below.drew ?_; assumption))).2).mono ?_; rintro e w2 ⟨rfl, hb⟩; obtain ⟨q0, q1, q2, q3, q4, q5, q6, q7, q8, q9, q10, q11, q12, q13, q14, q15, q16, q17⟩ := kp18 hb q0 q1 q2 q3 q4 q5 q6 q7 q8 q9 q10 q11 q12 q13 q14 q15 q16 q17; clear hb) | (go_at_call 28; refine (tErr _ _).mono ?_; rintro e w3 ⟨t3, a3, rfl, hb⟩; obtain ⟨q0, q1, q2, q3, q4, q5, q6, q7, q8, q9, q10, q11, q12, q13, q14, q15, q16, q17⟩ := kp18 hb q0 q1 q2 q3 q4 q5 q6 q7 q8 q9 q10 q11 q12 q13 q14 q15 q16 q17; clear hb))
    all_goals (go_ret2; refine ret_bool (r := res) ?_ (by first | assumption | (refine Below.drew ?_; assumption)); rw [← HRES.out, neR, if_pos rfl])
    all_goals first | (rw [show (cmpRel a b c a2 b2 c2 rel == 0) = true by assumption]; rfl) | (rw [show (cmpRel a b c a2 b2 c2 rel == 0) = false by assumption]; rfl)
  obtain rfl := hdr rfl
  have HMP := Lib.hid (hmp rfl)
  clear hmp hdr
  go_enter Tryz.func56, Tryz.ntmps56
  by_cases x1 : a = a2
  · have y1 : ((a2 : Int) != (a : Int)) = false := by simp; omega
    cases md
    · have hpd : pd = true := by rcases HMP.out with h | h; cases h; exact h
      subst hpd
      by_cases x2 : b = b2
      · have y2 : ((b2 : Int) != (b : Int)) = false := by simp; omega
        go_upto_region 4 with (first | (go_at_call 81; refine (tPrere _ _ _ _ _ _ _).mono ?_; rintro e w1 ⟨rfl, hb⟩; obtain ⟨q0, q1, q2, q3, q4, q5, q6, q7, q8, q9, q10, q11, q12, q13, q14, q15, q16, q17⟩ := kp18 hb q0 q1 q2 q3 q4 q5 q6 q7 q8 q9 q10 q11 q12 q13 q14 q15 q16 q17; clear hb) | (go_at_call 83; refine (tMajor _ _ _ _ _ _ _).mono ?_; rintro e w1 ⟨rfl, hb⟩; obtain ⟨q0, q1, q2, q3, q4, q5, q6, q7, q8, q9, q10, q11, q12, q13, q14, q15, q16, q17⟩ := kp18 hb q0 q1 q2 q3 q4 q5 q6 q7 q8 q9 q10 q11 q12 q13 q14 q15 q16 q17; clear hb) | (go_at_call 84; refine (tMinor _ _ _ _ _ _ _).mono ?_; rintro e w1 ⟨rfl, hb⟩; obtain ⟨q0, q1, q2, q3, q4, q5, q6, q7, q8, q9, q10, q11, q12, q13, q14, q15, q16, q17⟩ := kp18 hb q0 q1 q2 q3 q4 q5 q6 q7 q8 q9 q10 q11 q12 q13 q14 q15 q16 q17; clear hb) | (go_at_call 85; refine (tPatch _ _ _ _ _ _ _).mono ?_; rintro e w1 ⟨rfl, hb⟩; obtain ⟨q0, q1, q2, q3, q4, q5, q6, q7, q8, q9, q10, q11, q12, q13, q14, q15, q16, q17⟩ := kp18 hb q0 q1 q2 q3 q4 q5 q6 q7 q8 q9 q10 q11 q12 q13 q14 q15 q16 q17; clear hb) | (go_at_call 87; refine (tCmp _ V U a b c p m o a2 b2 c2 p2 m2 o2 ⟨(by first | assumption | (rw [World.cell?_drew]; assumption)), (by first | assumption | (rw [World.cell?_drew]; assumption)), (by first | assumption | (rw [World.cell?_drew]; assumption)), (by first | assumption | (rw [World.cell?_drew]; assumption)), (by first | assumption | (rw [World.cell?_drew]; assumption)), (by first | assumption | (rw [World.cell?_drew]; assumption)), (by first | assumption | (rw [World.cell?_drew]; assumption)), (by first | assumption | (rw [World.cell?_drew]; assumption)), (by first | assumption | (rw [World.cell?_drew]; assumption)), (by first | assumption | (rw [World.cell?_drew]; assumption)), (by first | assumption | (rw [World.cell?_drew]; assumption)), (by first | assumption | (rw [World.cell?_drew]; assumption)), Below.refl _ _⟩ hp rel hr).mono ?_; rintro e w2 ⟨rfl, hb⟩; obtain ⟨q0, q1, q2, q3, q4, q5, q6, q7, q8, q9, q10, q11, q12, q13, q14, q15, q16, q17⟩ := kp18 hb q0 q1 q2 q3 q4 q5 q6 q7 q8 q9 q10 q11 q12 q13 q14 q15 q16 q17; clear hb) | (go_at_call 28; refine (tErr _ _).mono ?_; rintro e w3 ⟨t3, a3, rfl, hb⟩; obtain ⟨q0, q1, q2, q3, q4, q5, q6, q7, q8, q9, q10, q11, q12, q13, q14, q15, q16, q17⟩ := kp18 hb q0 q1 q2 q3 q4 q5 q6 q7 q8 q9 q10 q11 q12 q13 q14 q15 q16 q17; clear hb))
        go_region_held3 (fun w' => w'.cell? ⟨V, 0, none⟩ = some (.int .u64 a) ∧ w'.cell? ⟨V, 1, none⟩ = some (.int .u64 b) ∧ w'.cell? ⟨V, 2, none⟩ = some (.int .u64 c) ∧ w'.cell? ⟨V, 3, none⟩ = some (.string p) ∧ w'.cell? ⟨V, 4, none⟩ = some (.string m) ∧ w'.cell? ⟨V, 5, none⟩ = some (.string o) ∧ w'.cell? ⟨U, 0, none⟩ = some (.int .u64 a2) ∧ w'.cell? ⟨U, 1, none⟩ = some (.int .u64 b2) ∧ w'.cell? ⟨U, 2, none⟩ = some (.int .u64 c2) ∧ w'.cell? ⟨U, 3, none⟩ = some (.string p2) ∧ w'.cell? ⟨U, 4, none⟩ = some (.string m2) ∧ w'.cell? ⟨U, 5, none⟩ = some (.string o2) ∧ w'.cell? ⟨C, 0, none⟩ = some (.pointer (some ⟨U, 0, none⟩)) ∧ w'.cell? ⟨C, 2, none⟩ = some (.string op) ∧ w'.cell? ⟨C, 3, none⟩ = some (.bool false) ∧ w'.cell? ⟨C, 4, none⟩ = some (.bool true) ∧ w'.cell? ⟨C, 5, none⟩ = some (.bool true) ∧ Below w.heap.size w w') (refine ⟨?_, ?_, ?_, ?_, ?_, ?_, ?_, ?_, ?_, ?_, ?_, ?_, ?_, ?_, ?_, ?_, ?_, ?_⟩ <;> first | assumption | (rw [World.cell?_drew]; assumption) | (refine Below.drew ?_; assumption)) (first | (go_at_call 83; refine (tMajor _ _ _ _ _ _ _).mono ?_; rintro e w1 ⟨rfl, hb⟩; have HS2 : S3 w V U C a b c p m o a2 b2 c2 p2 m2 o2 op false true true w1 := (by refine ⟨?_, ?_, ?_, ?_, ?_, ?_, ?_, ?_, ?_, ?_, ?_, ?_, ?_, ?_, ?_, ?_, ?_, ?_⟩ <;> first | exact keepc hb (by first | assumption | (rw [World.cell?_drew]; assumption)) | exact belk hb (by first | assumption | (refine Below.drew ?_; assumption))); clear hb; obtain ⟨q0, q1, q2, q3, q4, q5, q6, q7, q8, q9, q10, q11, q12, q13, q14, q15, q16, q17⟩ := HS2))
        go_upto_region 6 with fail
        refine wp_region_held_drew (S := (fun w' => w'.cell? ⟨V, 0, none⟩ = some (.int .u64 a) ∧ w'.cell? ⟨V, 1, none⟩ = some (.int .u64 b) ∧ w'.cell? ⟨V, 2, none⟩ = some (.int .u64 c) ∧ w'.cell? ⟨V, 3, none⟩ = some (.string p) ∧ w'.cell? ⟨V, 4, none⟩ = some (.string m) ∧ w'.cell? ⟨V, 5, none⟩ = some (.string o) ∧ w'.cell? ⟨U, 0, none⟩ = some (.int .u64 a2) ∧ w'.cell? ⟨U, 1, none⟩ = some (.int .u64 b2) ∧ w'.cell? ⟨U, 2, none⟩ = some (.int .u64 c2) ∧ w'.cell? ⟨U, 3, none⟩ = some (.string p2) ∧ w'.cell? ⟨U, 4, none⟩ = some (.string m2) ∧ w'.cell? ⟨U, 5, none⟩ = some (.string o2) ∧ w'.cell? ⟨C, 0, none⟩ = some (.pointer (some ⟨U, 0, none⟩)) ∧ w'.cell? ⟨C, 2, none⟩ = some (.string op) ∧ w'.cell? ⟨C, 3, none⟩ = some (.bool false) ∧ w'.cell? ⟨C, 4, none⟩ = some (.bool true) ∧ w'.cell? ⟨C, 5, none⟩ = some (.bool true) ∧ Below w.heap.size w w')) (by kernel_rfl) ⟨by first | assumption | (rw [World.cell?_drew]; assumption), by first | assumption | (rw [World.cell?_drew]; assumption), by first | assumption | (rw [World.cell?_drew]; assumption), by first | assumption | (rw [World.cell?_drew]; assumption), by first | assumption | (rw [World.cell?_drew]; assumption), by first | assumption | (rw [World.cell?_drew]; assumption), by first | assumption | (rw [World.cell?_drew]; assumption), by first | assumption | (rw [World.cell?_drew]; assumption), by first | assumption | (rw [World.cell?_drew]; assumption), by first | assumption | (rw [World.cell?_drew]; assumption), by first | assumption | (rw [World.cell?_drew]; assumption), by first | assumption | (rw [World.cell?_drew]; assumption), by first | assumption | (rw [World.cell?_drew]; assumption), by first | assumption | (rw [World.cell?_drew]; assumption), by first | assumption | (rw [World.cell?_drew]; assumption), by first | assumption | (rw [World.cell?_drew]; assumption), by first | assumption | (rw [World.cell?_drew]; assumption), by first | assumption | (refine Below.drew ?_; assumption)⟩ (fun hHeld => ?_)
        refine wpAnyH_take (i := 0) (oi := { dst := some 36, op := Op.move (Operand.tmp 1), type := 67, pos := "constraints.go:319", after := #[], guard := none }) (v := ?_) rfl (by kernel_rfl) (by kernel_rfl) (by kernel_rfl) (fun _ _ _ h => h) (Or.inl ⟨by rfl, ?_⟩) (by assumption) ?_
        rotate_left
        · intro W hSw
          clear hSw
          go_simp
          try with_reducible rfl
        try simp only [Act.put, List.setIfInBounds_toArray, List.set_cons_zero, List.set_cons_succ]
        refine wpAnyH_take (i := 1) (oi := { dst := some 37, op := Op.nilCheck (Operand.tmp 36), type := 0, pos := "constraints.go:319", after := #[{ on := 0, ground := Ground.data }], guard := none }) (v := ?_) rfl (by kernel_rfl) (by kernel_rfl) (by kernel_rfl) (fun _ _ _ h => h) (Or.inl ⟨by rfl, ?_⟩) (by assumption) ?_
        rotate_left
        · intro W hSw
          clear hSw
          go_simp
          try with_reducible rfl
        try simp only [Act.put, List.setIfInBounds_toArray, List.set_cons_zero, List.set_cons_succ]
        refine wpAnyH_take (i := 2) (oi := { dst := some 38, op := Op.fieldAddr 73 (Operand.tmp 37) 0, type := 0, pos := "constraints.go:319", after := #[{ on := 1, ground := Ground.data }], guard := none }) (v := ?_) rfl (by kernel_rfl) (by kernel_rfl) (by kernel_rfl) (fun _ _ _ h => h) (Or.inl ⟨by rfl, ?_⟩) (by assumption) ?_
        rotate_left
        · intro W hSw
          clear hSw
          go_simp
          try with_reducible rfl
        try simp only [Act.put, List.setIfInBounds_toArray, List.set_cons_zero, List.set_cons_succ]
        refine wpAnyH_take (i := 3) (oi := { dst := some 39, op := Op.load 53 (Operand.tmp 38), type := 53, pos := "constraints.go:319", after := #[{ on := 2, ground := Ground.data }], guard := none }) (v := ?_) rfl (by kernel_rfl) (by kernel_rfl) (by kernel_rfl) (fun _ _ _ h => h) (Or.inl ⟨by rfl, ?_⟩) (by assumption) ?_
        rotate_left
        · intro W hSw
          obtain ⟨s0, s1, s2, s3, s4, s5, s6, s7, s8, s9, s10, s11, s12, s13, s14, s15, s16, s17⟩ := hSw
          go_simp
          try with_reducible rfl
        try simp only [Act.put, List.setIfInBounds_toArray, List.set_cons_zero, List.set_cons_succ]
        refine wpAnyH_take (i := 4) (oi := { dst := some 40, op := Op.nilCheck (Operand.tmp 39), type := 0, pos := "constraints.go:319", after := #[{ on := 3, ground := Ground.data }], guard := none }) (v := ?_) rfl (by kernel_rfl) (by kernel_rfl) (by kernel_rfl) (fun _ _ _ h => h) (Or.inl ⟨by rfl, ?_⟩) (by assumption) ?_
        rotate_left
        · intro W hSw
          clear hSw
          go_simp
          try with_reducible rfl
        try simp only [Act.put, List.setIfInBounds_toArray, List.set_cons_zero, List.set_cons_succ]
        refine wpAnyH_take (i := 5) (oi := { dst := some 41, op := Op.load 71 (Operand.tmp 40), type := 71, pos := "constraints.go:319", after := #[{ on := 4, ground := Ground.data }], guard := none }) (v := ?_) rfl (by kernel_rfl) (by kernel_rfl) (by kernel_rfl) (fun _ _ _ h => h) (Or.inl ⟨by rfl, ?_⟩) (by assumption) ?_
        rotate_left
        · intro W hSw
          obtain ⟨s0, s1, s2, s3, s4, s5, s6, s7, s8, s9, s10, s11, s12, s13, s14, s15, s16, s17⟩ := hSw
          go_simp
          try with_reducible rfl
        try simp only [Act.put, List.setIfInBounds_toArray, List.set_cons_zero, List.set_cons_succ]
        refine wpAnyH_take (i := 7) (oi := { dst := some 43, op := Op.move (Operand.tmp 0), type := 53, pos := "constraints.go:319", after := #[], guard := none }) (v := ?_) rfl (by kernel_rfl) (by kernel_rfl) (by kernel_rfl) (fun _ _ _ h => h) (Or.inl ⟨by rfl, ?_⟩) (by assumption) ?_
        rotate_left
        · intro W hSw
          clear hSw
          go_simp
          try with_reducible rfl
        try simp only [Act.put, List.setIfInBounds_toArray, List.set_cons_zero, List.set_cons_succ]
        refine wpAnyH_take (i := 8) (oi := { dst := some 44, op := Op.nilCheck (Operand.tmp 43), type := 0, pos := "constraints.go:319", after := #[{ on := 7, ground := Ground.data }], guard := none }) (v := ?_) rfl (by kernel_rfl) (by kernel_rfl) (by kernel_rfl) (fun _ _ _ h => h) (Or.inl ⟨by rfl, ?_⟩) (by assumption) ?_
        rotate_left
        · intro W hSw
          clear hSw
          go_simp
          try with_reducible rfl
        try simp only [Act.put, List.setIfInBounds_toArray, List.set_cons_zero, List.set_cons_succ]
        refine wpAnyH_take (i := 9) (oi := { dst := some 45, op := Op.load 71 (Operand.tmp 44), type := 71, pos := "constraints.go:319", after := #[{ on := 8, ground := Ground.data }], guard := none }) (v := ?_) rfl (by kernel_rfl) (by kernel_rfl) (by kernel_rfl) (fun _ _ _ h => h) (Or.inl ⟨by rfl, ?_⟩) (by assumption) ?_
        rotate_left
        · intro W hSw
          obtain ⟨s0, s1, s2, s3, s4, s5, s6, s7, s8, s9, s10, s11, s12, s13, s14, s15, s16, s17⟩ := hSw
          go_simp
          try with_reducible rfl
        try simp only [Act.put, List.setIfInBounds_toArray, List.set_cons_zero, List.set_cons_succ]
        refine wpAnyH_ready (rs := [6]) (by kernel_rfl) (by simp) ?_
        refine (AllReadyH.cons (o := { dst := some 42, op := Op.call { callee := Callee.value (Operand.func 84), args := #[Operand.tmp 41], argTypes := #[53] }, type := 23, pos := "constraints.go:319", after := #[{ on := 5, ground := Ground.data }], guard := none }) rfl (fun K hK => ?_) AllReadyH.nil)
        go_simp
        (go_at_call 84; refine (tMinor _ _ _ _ _ _ _).mono ?_; rintro e w1 ⟨rfl, hb⟩; have HS2 : S3 w V U C a b c p m o a2 b2 c2 p2 m2 o2 op false true true w1 := (by refine ⟨?_, ?_, ?_, ?_, ?_, ?_, ?_, ?_, ?_, ?_, ?_, ?_, ?_, ?_, ?_, ?_, ?_, ?_⟩ <;> first | exact keepc hb (by first | assumption | (rw [World.cell?_drew]; assumption)) | exact belk hb (by first | assumption | (refine Below.drew ?_; assumption))); clear hb; obtain ⟨q0, q1, q2, q3, q4, q5, q6, q7, q8, q9, q10, q11, q12, q13, q14, q15, q16, q17⟩ := HS2)
        refine hK.out _ _ ⟨by assumption, by assumption, by assumption, by assumption, by assumption, by assumption, by assumption, by assumption, by assumption, by assumption, by assumption, by assumption, by assumption, by assumption, by assumption, by assumption, by assumption, by assumption⟩ (fun hHeld => ?_)
        clear hK K
        try simp only [Act.put, List.setIfInBounds_toArray, List.set_cons_zero, List.set_cons_succ]
        refine wpAnyH_ready (rs := [10]) (by kernel_rfl) (by simp) ?_
        refine (AllReadyH.cons (o := { dst := some 46, op := Op.call { callee := Callee.value (Operand.func 84), args := #[Operand.tmp 45], argTypes := #[53] }, type := 23, pos := "constraints.go:319", after := #[{ on := 9, ground := Ground.data }, { on := 6, ground := Ground.chain }], guard := none }) rfl (fun K hK => ?_) AllReadyH.nil)
        go_simp
        (go_at_call 84; refine (tMinor _ _ _ _ _ _ _).mono ?_; rintro e w1 ⟨rfl, hb⟩; have HS2 : S3 w V U C a b c p m o a2 b2 c2 p2 m2 o2 op false true true w1 := (by refine ⟨?_, ?_, ?_, ?_, ?_, ?_, ?_, ?_, ?_, ?_, ?_, ?_, ?_, ?_, ?_, ?_, ?_, ?_⟩ <;> first | exact keepc hb (by first | assumption | (rw [World.cell?_drew]; assumption)) | exact belk hb (by first | assumption | (refine Below.drew ?_; assumption))); clear hb; obtain ⟨q0, q1, q2, q3, q4, q5, q6, q7, q8, q9, q10, q11, q12, q13, q14, q15, q16, q17⟩ := HS2)
        refine hK.out _ _ ⟨by assumption, by assumption, by assumption, by assumption, by assumption, by assumption, by assumption, by assumption, by assumption, by assumption, by assumption, by assumption, by assumption, by assumption, by assumption, by assumption, by assumption, by assumption⟩ (fun hHeld => ?_)
        clear hK K
        try simp only [Act.put, List.setIfInBounds_toArray, List.set_cons_zero, List.set_cons_succ]
        refine wpAnyH_take (i := 11) (oi := { dst := some 47, op := Op.binOp BinOp.neq 23 (Operand.tmp 42) (Operand.tmp 46) 23, type := 4, pos := "constraints.go:319", after := #[{ on := 6, ground := Ground.data }, { on := 10, ground := Ground.data }], guard := none }) (v := ?_) rfl (by kernel_rfl) (by kernel_rfl) (by kernel_rfl) (fun _ _ _ h => h) (Or.inl ⟨by rfl, ?_⟩) (by assumption) ?_
        rotate_left
        · intro W hSw
          clear hSw
          go_simp
          try with_reducible rfl
        try simp only [Act.put, List.setIfInBounds_toArray, List.set_cons_zero, List.set_cons_succ]
        refine wpAnyH_take (i := 12) (oi := { dst := some 48, op := Op.move (Operand.tmp 47), type := 4, pos := "constraints.go:319", after := #[{ on := 11, ground := Ground.data }, { on := 10, ground := Ground.chain }], guard := none }) (v := ?_) rfl (by kernel_rfl) (by kernel_rfl) (by kernel_rfl) (fun _ _ _ h => h) (Or.inl ⟨by rfl, ?_⟩) (by assumption) ?_
        rotate_left
        · intro W hSw
          clear hSw
          go_simp
          try with_reducible rfl
        try simp only [Act.put, List.setIfInBounds_toArray, List.set_cons_zero, List.set_cons_succ]
        refine wpAnyH_take (i := 13) (oi := { dst := some 49, op := Op.move (Operand.tmp 1), type := 67, pos := "constraints.go:319", after := #[{ on := 12, ground := Ground.guard }], guard := some (12, true) }) (v := undef) rfl (by kernel_rfl) (by kernel_rfl) (by kernel_rfl) (fun _ _ _ h => h) (Or.inr ⟨by rfl, rfl⟩) (by assumption) ?_
        try simp only [Act.put, List.setIfInBounds_toArray, List.set_cons_zero, List.set_cons_succ]
        refine wpAnyH_take (i := 14) (oi := { dst := some 50, op := Op.nilCheck (Operand.tmp 49), type := 0, pos := "constraints.go:319", after := #[{ on := 13, ground := Ground.data }, { on := 12, ground := Ground.guard }], guard := some (12, true) }) (v := undef) rfl (by kernel_rfl) (by kernel_rfl) (by kernel_rfl) (fun _ _ _ h => h) (Or.inr ⟨by rfl, rfl⟩) (by assumption) ?_
        try simp only [Act.put, List.setIfInBounds_toArray, List.set_cons_zero, List.set_cons_succ]
        refine wpAnyH_take (i := 15) (oi := { dst := some 51, op := Op.fieldAddr 73 (Operand.tmp 50) 3, type := 0, pos := "constraints.go:319", after := #[{ on := 14, ground := Ground.data }, { on := 12, ground := Ground.guard }], guard := some (12, true) }) (v := undef) rfl (by kernel_rfl) (by kernel_rfl) (by kernel_rfl) (fun _ _ _ h => h) (Or.inr ⟨by rfl, rfl⟩) (by assumption) ?_
        try simp only [Act.put, List.setIfInBounds_toArray, List.set_cons_zero, List.set_cons_succ]
        refine wpAnyH_take (i := 16) (oi := { dst := some 52, op := Op.load 4 (Operand.tmp 51), type := 4, pos := "constraints.go:319", after := #[{ on := 15, ground := Ground.data }, { on := 12, ground := Ground.guard }], guard := some (12, true) }) (v := undef) rfl (by kernel_rfl) (by kernel_rfl) (by kernel_rfl) (fun _ _ _ h => h) (Or.inr ⟨by rfl, rfl⟩) (by assumption) ?_
        try simp only [Act.put, List.setIfInBounds_toArray, List.set_cons_zero, List.set_cons_succ]
        refine wpAnyH_take (i := 17) (oi := { dst := some 53, op := Op.unOp UnOp.not 4 (Operand.tmp 52), type := 4, pos := "constraints.go:319", after := #[{ on := 16, ground := Ground.data }, { on := 12, ground := Ground.guard }], guard := some (12, true) }) (v := undef) rfl (by kernel_rfl) (by kernel_rfl) (by kernel_rfl) (fun _ _ _ h => h) (Or.inr ⟨by rfl, rfl⟩) (by assumption) ?_
        try simp only [Act.put, List.setIfInBounds_toArray, List.set_cons_zero, List.set_cons_succ]
        refine wpAnyH_take (i := 18) (oi := { dst := some 54, op := Op.pick (Operand.tmp 48) (Operand.tmp 53) (Operand.const (Value.bool false)), type := 4, pos := "constraints.go:319", after := #[{ on := 12, ground := Ground.data }, { on := 17, ground := Ground.data }], guard := none }) (v := ?_) rfl (by kernel_rfl) (by kernel_rfl) (by kernel_rfl) (fun _ _ _ h => h) (Or.inl ⟨by rfl, ?_⟩) (by assumption) ?_
        rotate_left
        · intro W hSw
          clear hSw
          go_simp
          try with_reducible rfl
        try simp only [Act.put, List.setIfInBounds_toArray, List.set_cons_zero, List.set_cons_succ]
        refine wpAnyH_done (by kernel_rfl) ?_ _
        go_upto_region 10 with fail
        by_cases x3 : c = c2
        · have y3 : ((c2 : Int) != (c : Int)) = false := by simp; omega
          refine wp_region_held_drew (S := (fun w' => w'.cell? ⟨V, 0, none⟩ = some (.int .u64 a) ∧ w'.cell? ⟨V, 1, none⟩ = some (.int .u64 b) ∧ w'.cell? ⟨V, 2, none⟩ = some (.int .u64 c) ∧ w'.cell? ⟨V, 3, none⟩ = some (.string p) ∧ w'.cell? ⟨V, 4, none⟩ = some (.string m) ∧ w'.cell? ⟨V, 5, none⟩ = some (.string o) ∧ w'.cell? ⟨U, 0, none⟩ = some (.int .u64 a2) ∧ w'.cell? ⟨U, 1, none⟩ = some (.int .u64 b2) ∧ w'.cell? ⟨U, 2, none⟩ = some (.int .u64 c2) ∧ w'.cell? ⟨U, 3, none⟩ = some (.string p2) ∧ w'.cell? ⟨U, 4, none⟩ = some (.string m2) ∧ w'.cell? ⟨U, 5, none⟩ = some (.string o2) ∧ w'.cell? ⟨C, 0, none⟩ = some (.pointer (some ⟨U, 0, none⟩)) ∧ w'.cell? ⟨C, 2, none⟩ = some (.string op) ∧ w'.cell? ⟨C, 3, none⟩ = some (.bool false) ∧ w'.cell? ⟨C, 4, none⟩ = some (.bool true) ∧ w'.cell? ⟨C, 5, none⟩ = some (.bool true) ∧ Below w.heap.size w w')) (by kernel_rfl) ⟨by first | assumption | (rw [World.cell?_drew]; assumption), by first | assumption | (rw [World.cell?_drew]; assumption), by first | assumption | (rw [World.cell?_drew]; assumption), by first | assumption | (rw [World.cell?_drew]; assumption), by first | assumption | (rw [World.cell?_drew]; assumption), by first | assumption | (rw [World.cell?_drew]; assumption), by first | assumption | (rw [World.cell?_drew]; assumption), by first | assumption | (rw [World.cell?_drew]; assumption), by first | assumption | (rw [World.cell?_drew]; assumption), by first | assumption | (rw [World.cell?_drew]; assumption), by first | assumption | (rw [World.cell?_drew]; assumption), by first | assumption | (rw [World.cell?_drew]; assumption), by first | assumption | (rw [World.cell?_drew]; assumption), by first | assumption | (rw [World.cell?_drew]; assumption), by first | assumption | (rw [World.cell?_drew]; assumption), by first | assumption | (rw [World.cell?_drew]; assumption), by first | assumption | (rw [World.cell?_drew]; assumption), by first | assumption | (refine Below.drew ?_; assumption)⟩ (fun hHeld => ?_)
          refine wpAnyH_take (i := 0) (oi := { dst := some 60, op := Op.move (Operand.tmp 1), type := 67, pos := "constraints.go:323", after := #[], guard := none }) (v := ?_) rfl (by kernel_rfl) (by kernel_rfl) (by kernel_rfl) (fun _ _ _ h => h) (Or.inl ⟨by rfl, ?_⟩) (by assumption) ?_
          rotate_left
          · intro W hSw
            clear hSw
            go_simp
            try with_reducible rfl
          try simp only [Act.put, List.setIfInBounds_toArray, List.set_cons_zero, List.set_cons_succ]
          refine wpAnyH_take (i := 1) (oi := { dst := some 61, op := Op.nilCheck (Operand.tmp 60), type := 0, pos := "constraints.go:323", after := #[{ on := 0, ground := Ground.data }], guard := none }) (v := ?_) rfl (by kernel_rfl) (by kernel_rfl) (by kernel_rfl) (fun _ _ _ h => h) (Or.inl ⟨by rfl, ?_⟩) (by assumption) ?_
          rotate_left
          · intro W hSw
            clear hSw
            go_simp
            try with_reducible rfl
          try simp only [Act.put, List.setIfInBounds_toArray, List.set_cons_zero, List.set_cons_succ]
          refine wpAnyH_take (i := 2) (oi := { dst := some 62, op := Op.fieldAddr 73 (Operand.tmp 61) 0, type := 0, pos := "constraints.go:323", after := #[{ on := 1, ground := Ground.data }], guard := none }) (v := ?_) rfl (by kernel_rfl) (by kernel_rfl) (by kernel_rfl) (fun _ _ _ h => h) (Or.inl ⟨by rfl, ?_⟩) (by assumption) ?_
          rotate_left
          · intro W hSw
            clear hSw
            go_simp
            try with_reducible rfl
          try simp only [Act.put, List.setIfInBounds_toArray, List.set_cons_zero, List.set_cons_succ]
          refine wpAnyH_take (i := 3) (oi := { dst := some 63, op := Op.load 53 (Operand.tmp 62), type := 53, pos := "constraints.go:323", after := #[{ on := 2, ground := Ground.data }], guard := none }) (v := ?_) rfl (by kernel_rfl) (by kernel_rfl) (by kernel_rfl) (fun _ _ _ h => h) (Or.inl ⟨by rfl, ?_⟩) (by assumption) ?_
          rotate_left
          · intro W hSw
            obtain ⟨s0, s1, s2, s3, s4, s5, s6, s7, s8, s9, s10, s11, s12, s13, s14, s15, s16, s17⟩ := hSw
            go_simp
            try with_reducible rfl
          try simp only [Act.put, List.setIfInBounds_toArray, List.set_cons_zero, List.set_cons_succ]
          refine wpAnyH_take (i := 4) (oi := { dst := some 64, op := Op.nilCheck (Operand.tmp 63), type := 0, pos := "constraints.go:323", after := #[{ on := 3, ground := Ground.data }], guard := none }) (v := ?_) rfl (by kernel_rfl) (by kernel_rfl) (by kernel_rfl) (fun _ _ _ h => h) (Or.inl ⟨by rfl, ?_⟩) (by assumption) ?_
          rotate_left
          · intro W hSw
            clear hSw
            go_simp
            try with_reducible rfl
          try simp only [Act.put, List.setIfInBounds_toArray, List.set_cons_zero, List.set_cons_succ]
          refine wpAnyH_take (i := 5) (oi := { dst := some 65, op := Op.load 71 (Operand.tmp 64), type := 71, pos := "constraints.go:323", after := #[{ on := 4, ground := Ground.data }], guard := none }) (v := ?_) rfl (by kernel_rfl) (by kernel_rfl) (by kernel_rfl) (fun _ _ _ h => h) (Or.inl ⟨by rfl, ?_⟩) (by assumption) ?_
          rotate_left
          · intro W hSw
            obtain ⟨s0, s1, s2, s3, s4, s5, s6, s7, s8, s9, s10, s11, s12, s13, s14, s15, s16, s17⟩ := hSw
            go_simp
            try with_reducible rfl
          try simp only [Act.put, List.setIfInBounds_toArray, List.set_cons_zero, List.set_cons_succ]
          refine wpAnyH_take (i := 7) (oi := { dst := some 67, op := Op.move (Operand.tmp 0), type := 53, pos := "constraints.go:323", after := #[], guard := none }) (v := ?_) rfl (by kernel_rfl) (by kernel_rfl) (by kernel_rfl) (fun _ _ _ h => h) (Or.inl ⟨by rfl, ?_⟩) (by assumption) ?_
          rotate_left
          · intro W hSw
            clear hSw
            go_simp
            try with_reducible rfl
          try simp only [Act.put, List.setIfInBounds_toArray, List.set_cons_zero, List.set_cons_succ]
          refine wpAnyH_take (i := 8) (oi := { dst := some 68, op := Op.nilCheck (Operand.tmp 67), type := 0, pos := "constraints.go:323", after := #[{ on := 7, ground := Ground.data }], guard := none }) (v := ?_) rfl (by kernel_rfl) (by kernel_rfl) (by kernel_rfl) (fun _ _ _ h => h) (Or.inl ⟨by rfl, ?_⟩) (by assumption) ?_
          rotate_left
          · intro W hSw
            clear hSw
            go_simp
            try with_reducible rfl
          try simp only [Act.put, List.setIfInBounds_toArray, List.set_cons_zero, List.set_cons_succ]
          refine wpAnyH_take (i := 9) (oi := { dst := some 69, op := Op.load 71 (Operand.tmp 68), type := 71, pos := "constraints.go:323", after := #[{ on := 8, ground := Ground.data }], guard := none }) (v := ?_) rfl (by kernel_rfl) (by kernel_rfl) (by kernel_rfl) (fun _ _ _ h => h) (Or.inl ⟨by rfl, ?_⟩) (by assumption) ?_
          rotate_left
          · intro W hSw
            obtain ⟨s0, s1, s2, s3, s4, s5, s6, s7, s8, s9, s10, s11, s12, s13, s14, s15, s16, s17⟩ := hSw
            go_simp
            try with_reducible rfl
          try simp only [Act.put, List.setIfInBounds_toArray, List.set_cons_zero, List.set_cons_succ]
          refine wpAnyH_ready (rs := [6]) (by kernel_rfl) (by simp) ?_
          refine (AllReadyH.cons (o := { dst := some 66, op := Op.call { callee := Callee.value (Operand.func 85), args := #[Operand.tmp 65], argTypes := #[53] }, type := 23, pos := "constraints.go:323", after := #[{ on := 5, ground := Ground.data }], guard := none }) rfl (fun K hK => ?_) AllReadyH.nil)
          go_simp
          (go_at_call 85; refine (tPatch _ _ _ _ _ _ _).mono ?_; rintro e w1 ⟨rfl, hb⟩; have HS2 : S3 w V U C a b c p m o a2 b2 c2 p2 m2 o2 op false true true w1 := (by refine ⟨?_, ?_, ?_, ?_, ?_, ?_, ?_, ?_, ?_, ?_, ?_, ?_, ?_, ?_, ?_, ?_, ?_, ?_⟩ <;> first | exact keepc hb (by first | assumption | (rw [World.cell?_drew]; assumption)) | exact belk hb (by first | assumption | (refine Below.drew ?_; assumption))); clear hb; obtain ⟨q0, q1, q2, q3, q4, q5, q6, q7, q8, q9, q10, q11, q12, q13, q14, q15, q16, q17⟩ := HS2)
          refine hK.out _ _ ⟨by assumption, by assumption, by assumption, by assumption, by assumption, by assumption, by assumption, by assumption, by assumption, by assumption, by assumption, by assumption, by assumption, by assumption, by assumption, by assumption, by assumption, by assumption⟩ (fun hHeld => ?_)
          clear hK K
          try simp only [Act.put, List.setIfInBounds_toArray, List.set_cons_zero, List.set_cons_succ]
          refine wpAnyH_ready (rs := [10]) (by kernel_rfl) (by simp) ?_
          refine (AllReadyH.cons (o := { dst := some 70, op := Op.call { callee := Callee.value (Operand.func 85), args := #[Operand.tmp 69], argTypes := #[53] }, type := 23, pos := "constraints.go:323", after := #[{ on := 9, ground := Ground.data }, { on := 6, ground := Ground.chain }], guard := none }) rfl (fun K hK => ?_) AllReadyH.nil)
          go_simp
          (go_at_call 85; refine (tPatch _ _ _ _ _ _ _).mono ?_; rintro e w1 ⟨rfl, hb⟩; have HS2 : S3 w V U C a b c p m o a2 b2 c2 p2 m2 o2 op false true true w1 := (by refine ⟨?_, ?_, ?_, ?_, ?_, ?_, ?_, ?_, ?_, ?_, ?_, ?_, ?_, ?_, ?_, ?_, ?_, ?_⟩ <;> first | exact keepc hb (by first | assumption | (rw [World.cell?_drew]; assumption)) | exact belk hb (by first | assumption | (refine Below.drew ?_; assumption))); clear hb; obtain ⟨q0, q1, q2, q3, q4, q5, q6, q7, q8, q9, q10, q11, q12, q13, q14, q15, q16, q17⟩ := HS2)
          refine hK.out _ _ ⟨by assumption, by assumption, by assumption, by assumption, by assumption, by assumption, by assumption, by assumption, by assumption, by assumption, by assumption, by assumption, by assumption, by assumption, by assumption, by assumption, by assumption, by assumption⟩ (fun hHeld => ?_)
          clear hK K
          try simp only [Act.put, List.setIfInBounds_toArray, List.set_cons_zero, List.set_cons_succ]
          refine wpAnyH_take (i := 11) (oi := { dst := some 71, op := Op.binOp BinOp.neq 23 (Operand.tmp 66) (Operand.tmp 70) 23, type := 4, pos := "constraints.go:323", after := #[{ on := 6, ground := Ground.data }, { on := 10, ground := Ground.data }], guard := none }) (v := ?_) rfl (by kernel_rfl) (by kernel_rfl) (by kernel_rfl) (fun _ _ _ h => h) (Or.inl ⟨by rfl, ?_⟩) (by assumption) ?_
          rotate_left
          · intro W hSw
            clear hSw
            go_simp
            try with_reducible rfl
          try simp only [Act.put, List.setIfInBounds_toArray, List.set_cons_zero, List.set_cons_succ]
          refine wpAnyH_take (i := 12) (oi := { dst := some 72, op := Op.move (Operand.tmp 71), type := 4, pos := "constraints.go:323", after := #[{ on := 11, ground := Ground.data }, { on := 10, ground := Ground.chain }], guard := none }) (v := ?_) rfl (by kernel_rfl) (by kernel_rfl) (by kernel_rfl) (fun _ _ _ h => h) (Or.inl ⟨by rfl, ?_⟩) (by assumption) ?_
          rotate_left
          · intro W hSw
            clear hSw
            go_simp
            try with_reducible rfl
          try simp only [Act.put, List.setIfInBounds_toArray, List.set_cons_zero, List.set_cons_succ]
          refine wpAnyH_take (i := 13) (oi := { dst := some 73, op := Op.move (Operand.tmp 1), type := 67, pos := "constraints.go:323", after := #[{ on := 12, ground := Ground.guard }], guard := some (12, true) }) (v := undef) rfl (by kernel_rfl) (by kernel_rfl) (by kernel_rfl) (fun _ _ _ h => h) (Or.inr ⟨by rfl, rfl⟩) (by assumption) ?_
          try simp only [Act.put, List.setIfInBounds_toArray, List.set_cons_zero, List.set_cons_succ]
          refine wpAnyH_take (i := 14) (oi := { dst := some 74, op := Op.nilCheck (Operand.tmp 73), type := 0, pos := "constraints.go:323", after := #[{ on := 13, ground := Ground.data }, { on := 12, ground := Ground.guard }], guard := some (12, true) }) (v := undef) rfl (by kernel_rfl) (by kernel_rfl) (by kernel_rfl) (fun _ _ _ h => h) (Or.inr ⟨by rfl, rfl⟩) (by assumption) ?_
          try simp only [Act.put, List.setIfInBounds_toArray, List.set_cons_zero, List.set_cons_succ]
          refine wpAnyH_take (i := 15) (oi := { dst := some 75, op := Op.fieldAddr 73 (Operand.tmp 74) 5, type := 0, pos := "constraints.go:323", after := #[{ on := 14, ground := Ground.data }, { on := 12, ground := Ground.guard }], guard := some (12, true) }) (v := undef) rfl (by kernel_rfl) (by kernel_rfl) (by kernel_rfl) (fun _ _ _ h => h) (Or.inr ⟨by rfl, rfl⟩) (by assumption) ?_
          try simp only [Act.put, List.setIfInBounds_toArray, List.set_cons_zero, List.set_cons_succ]
          refine wpAnyH_take (i := 16) (oi := { dst := some 76, op := Op.load 4 (Operand.tmp 75), type := 4, pos := "constraints.go:323", after := #[{ on := 15, ground := Ground.data }, { on := 12, ground := Ground.guard }], guard := some (12, true) }) (v := undef) rfl (by kernel_rfl) (by kernel_rfl) (by kernel_rfl) (fun _ _ _ h => h) (Or.inr ⟨by rfl, rfl⟩) (by assumption) ?_
          try simp only [Act.put, List.setIfInBounds_toArray, List.set_cons_zero, List.set_cons_succ]
          refine wpAnyH_take (i := 17) (oi := { dst := some 77, op := Op.unOp UnOp.not 4 (Operand.tmp 76), type := 4, pos := "constraints.go:323", after := #[{ on := 16, ground := Ground.data }, { on := 12, ground := Ground.guard }], guard := some (12, true) }) (v := undef) rfl (by kernel_rfl) (by kernel_rfl) (by kernel_rfl) (fun _ _ _ h => h) (Or.inr ⟨by rfl, rfl⟩) (by assumption) ?_
          try simp only [Act.put, List.setIfInBounds_toArray, List.set_cons_zero, List.set_cons_succ]
          refine wpAnyH_take (i := 18) (oi := { dst := some 78, op := Op.pick (Operand.tmp 72) (Operand.tmp 77) (Operand.const (Value.bool false)), type := 4, pos := "constraints.go:323", after := #[{ on := 12, ground := Ground.data }, { on := 17, ground := Ground.data }], guard := none }) (v := ?_) rfl (by kernel_rfl) (by kernel_rfl) (by kernel_rfl) (fun _ _ _ h => h) (Or.inl ⟨by rfl, ?_⟩) (by assumption) ?_
          rotate_left
          · intro W hSw
            clear hSw
            go_simp
            try with_reducible rfl
          try simp only [Act.put, List.setIfInBounds_toArray, List.set_cons_zero, List.set_cons_succ]
          refine wpAnyH_done (by kernel_rfl) ?_ _
          go_wp2_with (first | (go_at_call 81; refine (tPrere _ _ _ _ _ _ _).mono ?_; rintro e w1 ⟨rfl, hb⟩; obtain ⟨q0, q1, q2, q3, q4, q5, q6, q7, q8, q9, q10, q11, q12, q13, q14, q15, q16, q17⟩ := kp18 hb q0 q1 q2 q3 q4 q5 q6 q7 q8 q9 q10 q11 q12 q13 q14 q15 q16 q17; clear hb) | (go_at_call 28; refine (tErr _ _).mono ?_; rintro e w3 ⟨t3, a3, rfl, hb⟩; obtain ⟨q0, q1, q2, q3, q4, q5, q6, q7, q8, q9, q10, q11, q12, q13, q14, q15, q16, q17⟩ := kp18 hb q0 q1 q2 q3 q4 q5 q6 q7 q8 q9 q10 q11 q12 q13 q14 q15 q16 q17; clear hb))
          all_goals (go_ret2; refine ret_bool (r := res) ?_ (by first | assumption | (refine Below.drew ?_; assumption)); rw [← HRES.out, neR, if_neg (by simp), if_neg (by simp [x1]), decide_eq_false (by simp [x2])])
        · have y3 : ((c2 : Int) != (c : Int)) = true := by simp; omega
          go_region_held3 (fun w' => w'.cell? ⟨V, 0, none⟩ = some (.int .u64 a) ∧ w'.cell? ⟨V, 1, none⟩ = some (.int .u64 b) ∧ w'.cell? ⟨V, 2, none⟩ = some (.int .u64 c) ∧ w'.cell? ⟨V, 3, none⟩ = some (.string p) ∧ w'.cell? ⟨V, 4, none⟩ = some (.string m) ∧ w'.cell? ⟨V, 5, none⟩ = some (.string o) ∧ w'.cell? ⟨U, 0, none⟩ = some (.int .u64 a2) ∧ w'.cell? ⟨U, 1, none⟩ = some (.int .u64 b2) ∧ w'.cell? ⟨U, 2, none⟩ = some (.int .u64 c2) ∧ w'.cell? ⟨U, 3, none⟩ = some (.string p2) ∧ w'.cell? ⟨U, 4, none⟩ = some (.string m2) ∧ w'.cell? ⟨U, 5, none⟩ = some (.string o2) ∧ w'.cell? ⟨C, 0, none⟩ = some (.pointer (some ⟨U, 0, none⟩)) ∧ w'.cell? ⟨C, 2, none⟩ = some (.string op) ∧ w'.cell? ⟨C, 3, none⟩ = some (.bool false) ∧ w'.cell? ⟨C, 4, none⟩ = some (.bool true) ∧ w'.cell? ⟨C, 5, none⟩ = some (.bool true) ∧ Below w.heap.size w w') (refine ⟨?_, ?_, ?_, ?_, ?_, ?_, ?_, ?_, ?_, ?_, ?_, ?_, ?_, ?_, ?_, ?_, ?_, ?_⟩ <;> first | assumption | (rw [World.cell?_drew]; assumption) | (refine Below.drew ?_; assumption)) (first | (go_at_call 85; refine (tPatch _ _ _ _ _ _ _).mono ?_; rintro e w1 ⟨rfl, hb⟩; have HS2 : S3 w V U C a b c p m o a2 b2 c2 p2 m2 o2 op false true true w1 := (by refine ⟨?_, ?_, ?_, ?_, ?_, ?_, ?_, ?_, ?_, ?_, ?_, ?_, ?_, ?_, ?_, ?_, ?_, ?_⟩ <;> first | exact keepc hb (by first | assumption | (rw [World.cell?_drew]; assumption)) | exact belk hb (by first | assumption | (refine Below.drew ?_; assumption))); clear hb; obtain ⟨q0, q1, q2, q3, q4, q5, q6, q7, q8, q9, q10, q11, q12, q13, q14, q15, q16, q17⟩ := HS2))
          all_goals go_wp2_with (first | (go_at_call 81; refine (tPrere _ _ _ _ _ _ _).mono ?_; rintro e w1 ⟨rfl, hb⟩; obtain ⟨q0, q1, q2, q3, q4, q5, q6, q7, q8, q9, q10, q11, q12, q13, q14, q15, q16, q17⟩ := kp18 hb q0 q1 q2 q3 q4 q5 q6 q7 q8 q9 q10 q11 q12 q13 q14 q15 q16 q17; clear hb) | (go_at_call 28; refine (tErr _ _).mono ?_; rintro e w3 ⟨t3, a3, rfl, hb⟩; obtain ⟨q0, q1, q2, q3, q4, q5, q6, q7, q8, q9, q10, q11, q12, q13, q14, q15, q16, q17⟩ := kp18 hb q0 q1 q2 q3 q4 q5 q6 q7 q8 q9 q10 q11 q12 q13 q14 q15 q16 q17; clear hb))
          all_goals (go_ret2; refine ret_bool (r := res) ?_ (by first | assumption | (refine Below.drew ?_; assumption)); rw [← HRES.out, neR, if_neg (by simp), if_neg (by simp [x1]), decide_eq_false (by simp [x2])])
      · have y2 : ((b2 : Int) != (b : Int)) = true := by simp; omega
        go_upto_region 4 with (first | (go_at_call 81; refine (tPrere _ _ _ _ _ _ _).mono ?_; rintro e w1 ⟨rfl, hb⟩; obtain ⟨q0, q1, q2, q3, q4, q5, q6, q7, q8, q9, q10, q11, q12, q13, q14, q15, q16, q17⟩ := kp18 hb q0 q1 q2 q3 q4 q5 q6 q7 q8 q9 q10 q11 q12 q13 q14 q15 q16 q17; clear hb) | (go_at_call 83; refine (tMajor _ _ _ _ _ _ _).mono ?_; rintro e w1 ⟨rfl, hb⟩; obtain ⟨q0, q1, q2, q3, q4, q5, q6, q7, q8, q9, q10, q11, q12, q13, q14, q15, q16, q17⟩ := kp18 hb q0 q1 q2 q3 q4 q5 q6 q7 q8 q9 q10 q11 q12 q13 q14 q15 q16 q17; clear hb) | (go_at_call 84; refine (tMinor _ _ _ _ _ _ _).mono ?_; rintro e w1 ⟨rfl, hb⟩; obtain ⟨q0, q1, q2, q3, q4, q5, q6, q7, q8, q9, q10, q11, q12, q13, q14, q15, q16, q17⟩ := kp18 hb q0 q1 q2 q3 q4 q5 q6 q7 q8 q9 q10 q11 q12 q13 q14 q15 q16 q17; clear hb) | (go_at_call 85; refine (tPatch _ _ _ _ _ _ _).mono ?_; rintro e w1 ⟨rfl, hb⟩; obtain ⟨q0, q1, q2, q3, q4, q5, q6, q7, q8, q9, q10, q11, q12, q13, q14, q15, q16, q17⟩ := kp18 hb q0 q1 q2 q3 q4 q5 q6 q7 q8 q9 q10 q11 q12 q13 q14 q15 q16 q17; clear hb) | (go_at_call 87; refine (tCmp _ V U a b c p m o a2 b2 c2 p2 m2 o2 ⟨(by first | assumption | (rw [World.cell?_drew]; assumption)), (by first | assumption | (rw [World.cell?_drew]; assumption)), (by first | assumption | (rw [World.cell?_drew]; assumption)), (by first | assumption | (rw [World.cell?_drew]; assumption)), (by first | assumption | (rw [World.cell?_drew]; assumption)), (by first | assumption | (rw [World.cell?_drew]; assumption)), (by first | assumption | (rw [World.cell?_drew]; assumption)), (by first | assumption | (rw [World.cell?_drew]; assumption)), (by first | assumption | (rw [World.cell?_drew]; assumption)), (by first | assumption | (rw [World.cell?_drew]; assumption)), (by first | assumption | (rw [World.cell?_drew]; assumption)), (by first | assumption | (rw [World.cell?_drew]; assumption)), Below.refl _ _⟩ hp rel hr).mono ?_; rintro e w2 ⟨rfl, hb⟩; obtain ⟨q0, q1, q2, q3, q4, q5, q6, q7, q8, q9, q10, q11, q12, q13, q14, q15, q16, q17⟩ := kp18 hb q0 q1 q2 q3 q4 q5 q6 q7 q8 q9 q10 q11 q12 q13 q14 q15 q16 q17; clear hb) | (go_at_call 28; refine (tErr _ _).mono ?_; rintro e w3 ⟨t3, a3, rfl, hb⟩; obtain ⟨q0, q1, q2, q3, q4, q5, q6, q7, q8, q9, q10, q11, q12, q13, q14, q15, q16, q17⟩ := kp18 hb q0 q1 q2 q3 q4 q5 q6 q7 q8 q9 q10 q11 q12 q13 q14 q15 q16 q17; clear hb))
        go_region_held3 (fun w' => w'.cell? ⟨V, 0, none⟩ = some (.int .u64 a) ∧ w'.cell? ⟨V, 1, none⟩ = some (.int .u64 b) ∧ w'.cell? ⟨V, 2, none⟩ = some (.int .u64 c) ∧ w'.cell? ⟨V, 3, none⟩ = some (.string p) ∧ w'.cell? ⟨V, 4, none⟩ = some (.string m) ∧ w'.cell? ⟨V, 5, none⟩ = some (.string o) ∧ w'.cell? ⟨U, 0, none⟩ = some (.int .u64 a2) ∧ w'.cell? ⟨U, 1, none⟩ = some (.int .u64 b2) ∧ w'.cell? ⟨U, 2, none⟩ = some (.int .u64 c2) ∧ w'.cell? ⟨U, 3, none⟩ = some (.string p2) ∧ w'.cell? ⟨U, 4, none⟩ = some (.string m2) ∧ w'.cell? ⟨U, 5, none⟩ = some (.string o2) ∧ w'.cell? ⟨C, 0, none⟩ = some (.pointer (some ⟨U, 0, none⟩)) ∧ w'.cell? ⟨C, 2, none⟩ = some (.string op) ∧ w'.cell? ⟨C, 3, none⟩ = some (.bool false) ∧ w'.cell? ⟨C, 4, none⟩ = some (.bool true) ∧ w'.cell? ⟨C, 5, none⟩ = some (.bool true) ∧ Below w.heap.size w w') (refine ⟨?_, ?_, ?_, ?_, ?_, ?_, ?_, ?_, ?_, ?_, ?_, ?_, ?_, ?_, ?_, ?_, ?_, ?_⟩ <;> first | assumption | (rw [World.cell?_drew]; assumption) | (refine Below.drew ?_; assumption)) (first | (go_at_call 83; refine (tMajor _ _ _ _ _ _ _).mono ?_; rintro e w1 ⟨rfl, hb⟩; have HS2 : S3 w V U C a b c p m o a2 b2 c2 p2 m2 o2 op false true true w1 := (by refine ⟨?_, ?_, ?_, ?_, ?_, ?_, ?_, ?_, ?_, ?_, ?_, ?_, ?_, ?_, ?_, ?_, ?_, ?_⟩ <;> first | exact keepc hb (by first | assumption | (rw [World.cell?_drew]; assumption)) | exact belk hb (by first | assumption | (refine Below.drew ?_; assumption))); clear hb; obtain ⟨q0, q1, q2, q3, q4, q5, q6, q7, q8, q9, q10, q11, q12, q13, q14, q15, q16, q17⟩ := HS2))
        go_upto_region 6 with fail
        go_region_held3 (fun w' => w'.cell? ⟨V, 0, none⟩ = some (.int .u64 a) ∧ w'.cell? ⟨V, 1, none⟩ = some (.int .u64 b) ∧ w'.cell? ⟨V, 2, none⟩ = some (.int .u64 c) ∧ w'.cell? ⟨V, 3, none⟩ = some (.string p) ∧ w'.cell? ⟨V, 4, none⟩ = some (.string m) ∧ w'.cell? ⟨V, 5, none⟩ = some (.string o) ∧ w'.cell? ⟨U, 0, none⟩ = some (.int .u64 a2) ∧ w'.cell? ⟨U, 1, none⟩ = some (.int .u64 b2) ∧ w'.cell? ⟨U, 2, none⟩ = some (.int .u64 c2) ∧ w'.cell? ⟨U, 3, none⟩ = some (.string p2) ∧ w'.cell? ⟨U, 4, none⟩ = some (.string m2) ∧ w'.cell? ⟨U, 5, none⟩ = some (.string o2) ∧ w'.cell? ⟨C, 0, none⟩ = some (.pointer (some ⟨U, 0, none⟩)) ∧ w'.cell? ⟨C, 2, none⟩ = some (.string op) ∧ w'.cell? ⟨C, 3, none⟩ = some (.bool false) ∧ w'.cell? ⟨C, 4, none⟩ = some (.bool true) ∧ w'.cell? ⟨C, 5, none⟩ = some (.bool true) ∧ Below w.heap.size w w') (refine ⟨?_, ?_, ?_, ?_, ?_, ?_, ?_, ?_, ?_, ?_, ?_, ?_, ?_, ?_, ?_, ?_, ?_, ?_⟩ <;> first | assumption | (rw [World.cell?_drew]; assumption) | (refine Below.drew ?_; assumption)) (first | (go_at_call 84; refine (tMinor _ _ _ _ _ _ _).mono ?_; rintro e w1 ⟨rfl, hb⟩; have HS2 : S3 w V U C a b c p m o a2 b2 c2 p2 m2 o2 op false true true w1 := (by refine ⟨?_, ?_, ?_, ?_, ?_, ?_, ?_, ?_, ?_, ?_, ?_, ?_, ?_, ?_, ?_, ?_, ?_, ?_⟩ <;> first | exact keepc hb (by first | assumption | (rw [World.cell?_drew]; assumption)) | exact belk hb (by first | assumption | (refine Below.drew ?_; assumption))); clear hb; obtain ⟨q0, q1, q2, q3, q4, q5, q6, q7, q8, q9, q10, q11, q12, q13, q14, q15, q16, q17⟩ := HS2))
        all_goals go_wp2
        all_goals (go_ret2; refine ret_bool (r := res) ?_ (by first | assumption | (refine Below.drew ?_; assumption)); rw [← HRES.out, neR, if_neg (by simp), if_neg (by simp [x1]), decide_eq_true ⟨x2, rfl⟩])
    · by_cases x2 : b = b2
      · have y2 : ((b2 : Int) != (b : Int)) = false := by simp; omega
        go_upto_region 4 with (first | (go_at_call 81; refine (tPrere _ _ _ _ _ _ _).mono ?_; rintro e w1 ⟨rfl, hb⟩; obtain ⟨q0, q1, q2, q3, q4, q5, q6, q7, q8, q9, q10, q11, q12, q13, q14, q15, q16, q17⟩ := kp18 hb q0 q1 q2 q3 q4 q5 q6 q7 q8 q9 q10 q11 q12 q13 q14 q15 q16 q17; clear hb) | (go_at_call 83; refine (tMajor _ _ _ _ _ _ _).mono ?_; rintro e w1 ⟨rfl, hb⟩; obtain ⟨q0, q1, q2, q3, q4, q5, q6, q7, q8, q9, q10, q11, q12, q13, q14, q15, q16, q17⟩ := kp18 hb q0 q1 q2 q3 q4 q5 q6 q7 q8 q9 q10 q11 q12 q13 q14 q15 q16 q17; clear hb) | (go_at_call 84; refine (tMinor _ _ _ _ _ _ _).mono ?_; rintro e w1 ⟨rfl, hb⟩; obtain ⟨q0, q1, q2, q3, q4, q5, q6, q7, q8, q9, q10, q11, q12, q13, q14, q15, q16, q17⟩ := kp18 hb q0 q1 q2 q3 q4 q5 q6 q7 q8 q9 q10 q11 q12 q13 q14 q15 q16 q17; clear hb) | (go_at_call 85; refine (tPatch _ _ _ _ _ _ _).mono ?_; rintro e w1 ⟨rfl, hb⟩; obtain ⟨q0, q1, q2, q3, q4, q5, q6, q7, q8, q9, q10, q11, q12, q13, q14, q15, q16, q17⟩ := kp18 hb q0 q1 q2 q3 q4 q5 q6 q7 q8 q9 q10 q11 q12 q13 q14 q15 q16 q17; clear hb) | (go_at_call 87; refine (tCmp _ V U a b c p m o a2 b2 c2 p2 m2 o2 ⟨(by first | assumption | (rw [World.cell?_drew]; assumption)), (by first | assumption | (rw [World.cell?_drew]; assumption)), (by first | assumption | (rw [World.cell?_drew]; assumption)), (by first | assumption | (rw [World.cell?_drew]; assumption)), (by first | assumption | (rw [World.cell?_drew]; assumption)), (by first | assumption | (rw [World.cell?_drew]; assumption)), (by first | assumption | (rw [World.cell?_drew]; assumption)), (by first | assumption | (rw [World.cell?_drew]; assumption)), (by first | assumption | (rw [World.cell?_drew]; assumption)), (by first | assumption | (rw [World.cell?_drew]; assumption)), (by first | assumption | (rw [World.cell?_drew]; assumption)), (by first | assumption | (rw [World.cell?_drew]; assumption)), Below.refl _ _⟩ hp rel hr).mono ?_; rintro e w2 ⟨rfl, hb⟩; obtain ⟨q0, q1, q2, q3, q4, q5, q6, q7, q8, q9, q10, q11, q12, q13, q14, q15, q16, q17⟩ := kp18 hb q0 q1 q2 q3 q4 q5 q6 q7 q8 q9 q10 q11 q12 q13 q14 q15 q16 q17; clear hb) | (go_at_call 28; refine (tErr _ _).mono ?_; rintro e w3 ⟨t3, a3, rfl, hb⟩; obtain ⟨q0, q1, q2, q3, q4, q5, q6, q7, q8, q9, q10, q11, q12, q13, q14, q15, q16, q17⟩ := kp18 hb q0 q1 q2 q3 q4 q5 q6 q7 q8 q9 q10 q11 q12 q13 q14 q15 q16 q17; clear hb))
        go_region_held3 (fun w' => w'.cell? ⟨V, 0, none⟩ = some (.int .u64 a) ∧ w'.cell? ⟨V, 1, none⟩ = some (.int .u64 b) ∧ w'.cell? ⟨V, 2, none⟩ = some (.int .u64 c) ∧ w'.cell? ⟨V, 3, none⟩ = some (.string p) ∧ w'.cell? ⟨V, 4, none⟩ = some (.string m) ∧ w'.cell? ⟨V, 5, none⟩ = some (.string o) ∧ w'.cell? ⟨U, 0, none⟩ = some (.int .u64 a2) ∧ w'.cell? ⟨U, 1, none⟩ = some (.int .u64 b2) ∧ w'.cell? ⟨U, 2, none⟩ = some (.int .u64 c2) ∧ w'.cell? ⟨U, 3, none⟩ = some (.string p2) ∧ w'.cell? ⟨U, 4, none⟩ = some (.string m2) ∧ w'.cell? ⟨U, 5, none⟩ = some (.string o2) ∧ w'.cell? ⟨C, 0, none⟩ = some (.pointer (some ⟨U, 0, none⟩)) ∧ w'.cell? ⟨C, 2, none⟩ = some (.string op) ∧ w'.cell? ⟨C, 3, none⟩ = some (.bool true) ∧ w'.cell? ⟨C, 4, none⟩ = some (.bool true) ∧ w'.cell? ⟨C, 5, none⟩ = some (.bool pd) ∧ Below w.heap.size w w') (refine ⟨?_, ?_, ?_, ?_, ?_, ?_, ?_, ?_, ?_, ?_, ?_, ?_, ?_, ?_, ?_, ?_, ?_, ?_⟩ <;> first | assumption | (rw [World.cell?_drew]; assumption) | (refine Below.drew ?_; assumption)) (first | (go_at_call 83; refine (tMajor _ _ _ _ _ _ _).mono ?_; rintro e w1 ⟨rfl, hb⟩; have HS2 : S3 w V U C a b c p m o a2 b2 c2 p2 m2 o2 op true true pd w1 := (by refine ⟨?_, ?_, ?_, ?_, ?_, ?_, ?_, ?_, ?_, ?_, ?_, ?_, ?_, ?_, ?_, ?_, ?_, ?_⟩ <;> first | exact keepc hb (by first | assumption | (rw [World.cell?_drew]; assumption)) | exact belk hb (by first | assumption | (refine Below.drew ?_; assumption))); clear hb; obtain ⟨q0, q1, q2, q3, q4, q5, q6, q7, q8, q9, q10, q11, q12, q13, q14, q15, q16, q17⟩ := HS2))
        go_upto_region 6 with fail
        refine wp_region_held_drew (S := (fun w' => w'.cell? ⟨V, 0, none⟩ = some (.int .u64 a) ∧ w'.cell? ⟨V, 1, none⟩ = some (.int .u64 b) ∧ w'.cell? ⟨V, 2, none⟩ = some (.int .u64 c) ∧ w'.cell? ⟨V, 3, none⟩ = some (.string p) ∧ w'.cell? ⟨V, 4, none⟩ = some (.string m) ∧ w'.cell? ⟨V, 5, none⟩ = some (.string o) ∧ w'.cell? ⟨U, 0, none⟩ = some (.int .u64 a2) ∧ w'.cell? ⟨U, 1, none⟩ = some (.int .u64 b2) ∧ w'.cell? ⟨U, 2, none⟩ = some (.int .u64 c2) ∧ w'.cell? ⟨U, 3, none⟩ = some (.string p2) ∧ w'.cell? ⟨U, 4, none⟩ = some (.string m2) ∧ w'.cell? ⟨U, 5, none⟩ = some (.string o2) ∧ w'.cell? ⟨C, 0, none⟩ = some (.pointer (some ⟨U, 0, none⟩)) ∧ w'.cell? ⟨C, 2, none⟩ = some (.string op) ∧ w'.cell? ⟨C, 3, none⟩ = some (.bool true) ∧ w'.cell? ⟨C, 4, none⟩ = some (.bool true) ∧ w'.cell? ⟨C, 5, none⟩ = some (.bool pd) ∧ Below w.heap.size w w')) (by kernel_rfl) ⟨by first | assumption | (rw [World.cell?_drew]; assumption), by first | assumption | (rw [World.cell?_drew]; assumption), by first | assumption | (rw [World.cell?_drew]; assumption), by first | assumption | (rw [World.cell?_drew]; assumption), by first | assumption | (rw [World.cell?_drew]; assumption), by first | assumption | (rw [World.cell?_drew]; assumption), by first | assumption | (rw [World.cell?_drew]; assumption), by first | assumption | (rw [World.cell?_drew]; assumption), by first | assumption | (rw [World.cell?_drew]; assumption), by first | assumption | (rw [World.cell?_drew]; assumption), by first | assumption | (rw [World.cell?_drew]; assumption), by first | assumption | (rw [World.cell?_drew]; assumption), by first | assumption | (rw [World.cell?_drew]; assumption), by first | assumption | (rw [World.cell?_drew]; assumption), by first | assumption | (rw [World.cell?_drew]; assumption), by first | assumption | (rw [World.cell?_drew]; assumption), by first | assumption | (rw [World.cell?_drew]; assumption), by first | assumption | (refine Below.drew ?_; assumption)⟩ (fun hHeld => ?_)
        refine wpAnyH_take (i := 0) (oi := { dst := some 36, op := Op.move (Operand.tmp 1), type := 67, pos := "constraints.go:319", after := #[], guard := none }) (v := ?_) rfl (by kernel_rfl) (by kernel_rfl) (by kernel_rfl) (fun _ _ _ h => h) (Or.inl ⟨by rfl, ?_⟩) (by assumption) ?_
        rotate_left
        · intro W hSw
          clear hSw
          go_simp
          try with_reducible rfl
        try simp only [Act.put, List.setIfInBounds_toArray, List.set_cons_zero, List.set_cons_succ]
        refine wpAnyH_take (i := 1) (oi := { dst := some 37, op := Op.nilCheck (Operand.tmp 36), type := 0, pos := "constraints.go:319", after := #[{ on := 0, ground := Ground.data }], guard := none }) (v := ?_) rfl (by kernel_rfl) (by kernel_rfl) (by kernel_rfl) (fun _ _ _ h => h) (Or.inl ⟨by rfl, ?_⟩) (by assumption) ?_
        rotate_left
        · intro W hSw
          clear hSw
          go_simp
          try with_reducible rfl
        try simp only [Act.put, List.setIfInBounds_toArray, List.set_cons_zero, List.set_cons_succ]
        refine wpAnyH_take (i := 2) (oi := { dst := some 38, op := Op.fieldAddr 73 (Operand.tmp 37) 0, type := 0, pos := "constraints.go:319", after := #[{ on := 1, ground := Ground.data }], guard := none }) (v := ?_) rfl (by kernel_rfl) (by kernel_rfl) (by kernel_rfl) (fun _ _ _ h => h) (Or.inl ⟨by rfl, ?_⟩) (by assumption) ?_
        rotate_left
        · intro W hSw
          clear hSw
          go_simp
          try with_reducible rfl
        try simp only [Act.put, List.setIfInBounds_toArray, List.set_cons_zero, List.set_cons_succ]
        refine wpAnyH_take (i := 3) (oi := { dst := some 39, op := Op.load 53 (Operand.tmp 38), type := 53, pos := "constraints.go:319", after := #[{ on := 2, ground := Ground.data }], guard := none }) (v := ?_) rfl (by kernel_rfl) (by kernel_rfl) (by kernel_rfl) (fun _ _ _ h => h) (Or.inl ⟨by rfl, ?_⟩) (by assumption) ?_
        rotate_left
        · intro W hSw
          obtain ⟨s0, s1, s2, s3, s4, s5, s6, s7, s8, s9, s10, s11, s12, s13, s14, s15, s16, s17⟩ := hSw
          go_simp
          try with_reducible rfl
        try simp only [Act.put, List.setIfInBounds_toArray, List.set_cons_zero, List.set_cons_succ]
        refine wpAnyH_take (i := 4) (oi := { dst := some 40, op := Op.nilCheck (Operand.tmp 39), type := 0, pos := "constraints.go:319", after := #[{ on := 3, ground := Ground.data }], guard := none }) (v := ?_) rfl (by kernel_rfl) (by kernel_rfl) (by kernel_rfl) (fun _ _ _ h => h) (Or.inl ⟨by rfl, ?_⟩) (by assumption) ?_
        rotate_left
        · intro W hSw
          clear hSw
          go_simp
          try with_reducible rfl
        try simp only [Act.put, List.setIfInBounds_toArray, List.set_cons_zero, List.set_cons_succ]
        refine wpAnyH_take (i := 5) (oi := { dst := some 41, op := Op.load 71 (Operand.tmp 40), type := 71, pos := "constraints.go:319", after := #[{ on := 4, ground := Ground.data }], guard := none }) (v := ?_) rfl (by kernel_rfl) (by kernel_rfl) (by kernel_rfl) (fun _ _ _ h => h) (Or.inl ⟨by rfl, ?_⟩) (by assumption) ?_
        rotate_left
        · intro W hSw
          obtain ⟨s0, s1, s2, s3, s4, s5, s6, s7, s8, s9, s10, s11, s12, s13, s14, s15, s16, s17⟩ := hSw
          go_simp
          try with_reducible rfl
        try simp only [Act.put, List.setIfInBounds_toArray, List.set_cons_zero, List.set_cons_succ]
        refine wpAnyH_take (i := 7) (oi := { dst := some 43, op := Op.move (Operand.tmp 0), type := 53, pos := "constraints.go:319", after := #[], guard := none }) (v := ?_) rfl (by kernel_rfl) (by kernel_rfl) (by kernel_rfl) (fun _ _ _ h => h) (Or.inl ⟨by rfl, ?_⟩) (by assumption) ?_
        rotate_left
        · intro W hSw
          clear hSw
          go_simp
          try with_reducible rfl
        try simp only [Act.put, List.setIfInBounds_toArray, List.set_cons_zero, List.set_cons_succ]
        refine wpAnyH_take (i := 8) (oi := { dst := some 44, op := Op.nilCheck (Operand.tmp 43), type := 0, pos := "constraints.go:319", after := #[{ on := 7, ground := Ground.data }], guard := none }) (v := ?_) rfl (by kernel_rfl) (by kernel_rfl) (by kernel_rfl) (fun _ _ _ h => h) (Or.inl ⟨by rfl, ?_⟩) (by assumption) ?_
        rotate_left
        · intro W hSw
          clear hSw
          go_simp
          try with_reducible rfl
        try simp only [Act.put, List.setIfInBounds_toArray, List.set_cons_zero, List.set_cons_succ]
        refine wpAnyH_take (i := 9) (oi := { dst := some 45, op := Op.load 71 (Operand.tmp 44), type := 71, pos := "constraints.go:319", after := #[{ on := 8, ground := Ground.data }], guard := none }) (v := ?_) rfl (by kernel_rfl) (by kernel_rfl) (by kernel_rfl) (fun _ _ _ h => h) (Or.inl ⟨by rfl, ?_⟩) (by assumption) ?_
        rotate_left
        · intro W hSw
          obtain ⟨s0, s1, s2, s3, s4, s5, s6, s7, s8, s9, s10, s11, s12, s13, s14, s15, s16, s17⟩ := hSw
          go_simp
          try with_reducible rfl
        try simp only [Act.put, List.setIfInBounds_toArray, List.set_cons_zero, List.set_cons_succ]
        refine wpAnyH_ready (rs := [6]) (by kernel_rfl) (by simp) ?_
        refine (AllReadyH.cons (o := { dst := some 42, op := Op.call { callee := Callee.value (Operand.func 84), args := #[Operand.tmp 41], argTypes := #[53] }, type := 23, pos := "constraints.go:319", after := #[{ on := 5, ground := Ground.data }], guard := none }) rfl (fun K hK => ?_) AllReadyH.nil)
        go_simp
        (go_at_call 84; refine (tMinor _ _ _ _ _ _ _).mono ?_; rintro e w1 ⟨rfl, hb⟩; have HS2 : S3 w V U C a b c p m o a2 b2 c2 p2 m2 o2 op true true pd w1 := (by refine ⟨?_, ?_, ?_, ?_, ?_, ?_, ?_, ?_, ?_, ?_, ?_, ?_, ?_, ?_, ?_, ?_, ?_, ?_⟩ <;> first | exact keepc hb (by first | assumption | (rw [World.cell?_drew]; assumption)) | exact belk hb (by first | assumption | (refine Below.drew ?_; assumption))); clear hb; obtain ⟨q0, q1, q2, q3, q4, q5, q6, q7, q8, q9, q10, q11, q12, q13, q14, q15, q16, q17⟩ := HS2)
        refine hK.out _ _ ⟨by assumption, by assumption, by assumption, by assumption, by assumption, by assumption, by assumption, by assumption, by assumption, by assumption, by assumption, by assumption, by assumption, by assumption, by assumption, by assumption, by assumption, by assumption⟩ (fun hHeld => ?_)
        clear hK K
        try simp only [Act.put, List.setIfInBounds_toArray, List.set_cons_zero, List.set_cons_succ]
        refine wpAnyH_ready (rs := [10]) (by kernel_rfl) (by simp) ?_
        refine (AllReadyH.cons (o := { dst := some 46, op := Op.call { callee := Callee.value (Operand.func 84), args := #[Operand.tmp 45], argTypes := #[53] }, type := 23, pos := "constraints.go:319", after := #[{ on := 9, ground := Ground.data }, { on := 6, ground := Ground.chain }], guard := none }) rfl (fun K hK => ?_) AllReadyH.nil)
        go_simp
        (go_at_call 84; refine (tMinor _ _ _ _ _ _ _).mono ?_; rintro e w1 ⟨rfl, hb⟩; have HS2 : S3 w V U C a b c p m o a2 b2 c2 p2 m2 o2 op true true pd w1 := (by refine ⟨?_, ?_, ?_, ?_, ?_, ?_, ?_, ?_, ?_, ?_, ?_, ?_, ?_, ?_, ?_, ?_, ?_, ?_⟩ <;> first | exact keepc hb (by first | assumption | (rw [World.cell?_drew]; assumption)) | exact belk hb (by first | assumption | (refine Below.drew ?_; assumption))); clear hb; obtain ⟨q0, q1, q2, q3, q4, q5, q6, q7, q8, q9, q10, q11, q12, q13, q14, q15, q16, q17⟩ := HS2)
        refine hK.out _ _ ⟨by assumption, by assumption, by assumption, by assumption, by assumption, by assumption, by assumption, by assumption, by assumption, by assumption, by assumption, by assumption, by assumption, by assumption, by assumption, by assumption, by assumption, by assumption⟩ (fun hHeld => ?_)
        clear hK K
        try simp only [Act.put, List.setIfInBounds_toArray, List.set_cons_zero, List.set_cons_succ]
        refine wpAnyH_take (i := 11) (oi := { dst := some 47, op := Op.binOp BinOp.neq 23 (Operand.tmp 42) (Operand.tmp 46) 23, type := 4, pos := "constraints.go:319", after := #[{ on := 6, ground := Ground.data }, { on := 10, ground := Ground.data }], guard := none }) (v := ?_) rfl (by kernel_rfl) (by kernel_rfl) (by kernel_rfl) (fun _ _ _ h => h) (Or.inl ⟨by rfl, ?_⟩) (by assumption) ?_
        rotate_left
        · intro W hSw
          clear hSw
          go_simp
          try with_reducible rfl
        try simp only [Act.put, List.setIfInBounds_toArray, List.set_cons_zero, List.set_cons_succ]
        refine wpAnyH_take (i := 12) (oi := { dst := some 48, op := Op.move (Operand.tmp 47), type := 4, pos := "constraints.go:319", after := #[{ on := 11, ground := Ground.data }, { on := 10, ground := Ground.chain }], guard := none }) (v := ?_) rfl (by kernel_rfl) (by kernel_rfl) (by kernel_rfl) (fun _ _ _ h => h) (Or.inl ⟨by rfl, ?_⟩) (by assumption) ?_
        rotate_left
        · intro W hSw
          clear hSw
          go_simp
          try with_reducible rfl
        try simp only [Act.put, List.setIfInBounds_toArray, List.set_cons_zero, List.set_cons_succ]
        refine wpAnyH_take (i := 13) (oi := { dst := some 49, op := Op.move (Operand.tmp 1), type := 67, pos := "constraints.go:319", after := #[{ on := 12, ground := Ground.guard }], guard := some (12, true) }) (v := undef) rfl (by kernel_rfl) (by kernel_rfl) (by kernel_rfl) (fun _ _ _ h => h) (Or.inr ⟨by rfl, rfl⟩) (by assumption) ?_
        try simp only [Act.put, List.setIfInBounds_toArray, List.set_cons_zero, List.set_cons_succ]
        refine wpAnyH_take (i := 14) (oi := { dst := some 50, op := Op.nilCheck (Operand.tmp 49), type := 0, pos := "constraints.go:319", after := #[{ on := 13, ground := Ground.data }, { on := 12, ground := Ground.guard }], guard := some (12, true) }) (v := undef) rfl (by kernel_rfl) (by kernel_rfl) (by kernel_rfl) (fun _ _ _ h => h) (Or.inr ⟨by rfl, rfl⟩) (by assumption) ?_
        try simp only [Act.put, List.setIfInBounds_toArray, List.set_cons_zero, List.set_cons_succ]
        refine wpAnyH_take (i := 15) (oi := { dst := some 51, op := Op.fieldAddr 73 (Operand.tmp 50) 3, type := 0, pos := "constraints.go:319", after := #[{ on := 14, ground := Ground.data }, { on := 12, ground := Ground.guard }], guard := some (12, true) }) (v := undef) rfl (by kernel_rfl) (by kernel_rfl) (by kernel_rfl) (fun _ _ _ h => h) (Or.inr ⟨by rfl, rfl⟩) (by assumption) ?_
        try simp only [Act.put, List.setIfInBounds_toArray, List.set_cons_zero, List.set_cons_succ]
        refine wpAnyH_take (i := 16) (oi := { dst := some 52, op := Op.load 4 (Operand.tmp 51), type := 4, pos := "constraints.go:319", after := #[{ on := 15, ground := Ground.data }, { on := 12, ground := Ground.guard }], guard := some (12, true) }) (v := undef) rfl (by kernel_rfl) (by kernel_rfl) (by kernel_rfl) (fun _ _ _ h => h) (Or.inr ⟨by rfl, rfl⟩) (by assumption) ?_
        try simp only [Act.put, List.setIfInBounds_toArray, List.set_cons_zero, List.set_cons_succ]
        refine wpAnyH_take (i := 17) (oi := { dst := some 53, op := Op.unOp UnOp.not 4 (Operand.tmp 52), type := 4, pos := "constraints.go:319", after := #[{ on := 16, ground := Ground.data }, { on := 12, ground := Ground.guard }], guard := some (12, true) }) (v := undef) rfl (by kernel_rfl) (by kernel_rfl) (by kernel_rfl) (fun _ _ _ h => h) (Or.inr ⟨by rfl, rfl⟩) (by assumption) ?_
        try simp only [Act.put, List.setIfInBounds_toArray, List.set_cons_zero, List.set_cons_succ]
        refine wpAnyH_take (i := 18) (oi := { dst := some 54, op := Op.pick (Operand.tmp 48) (Operand.tmp 53) (Operand.const (Value.bool false)), type := 4, pos := "constraints.go:319", after := #[{ on := 12, ground := Ground.data }, { on := 17, ground := Ground.data }], guard := none }) (v := ?_) rfl (by kernel_rfl) (by kernel_rfl) (by kernel_rfl) (fun _ _ _ h => h) (Or.inl ⟨by rfl, ?_⟩) (by assumption) ?_
        rotate_left
        · intro W hSw
          clear hSw
          go_simp
          try with_reducible rfl
        try simp only [Act.put, List.setIfInBounds_toArray, List.set_cons_zero, List.set_cons_succ]
        refine wpAnyH_done (by kernel_rfl) ?_ _
        go_wp2_with (go_at_call 28; refine (tErr _ _).mono ?_; rintro e w3 ⟨t3, a3, rfl, hb⟩; have hbb := belk hb (by first | assumption | (refine Below.drew ?_; assumption)); clear hb)
        all_goals (go_ret2; refine ret_bool (r := res) ?_ (by first | assumption | (refine Below.drew ?_; assumption)); rw [← HRES.out, neR, if_neg (by simp), if_neg (by simp [x1]), decide_eq_false (by simp)])
      · have y2 : ((b2 : Int) != (b : Int)) = true := by simp; omega
        go_upto_region 4 with (first | (go_at_call 81; refine (tPrere _ _ _ _ _ _ _).mono ?_; rintro e w1 ⟨rfl, hb⟩; obtain ⟨q0, q1, q2, q3, q4, q5, q6, q7, q8, q9, q10, q11, q12, q13, q14, q15, q16, q17⟩ := kp18 hb q0 q1 q2 q3 q4 q5 q6 q7 q8 q9 q10 q11 q12 q13 q14 q15 q16 q17; clear hb) | (go_at_call 83; refine (tMajor _ _ _ _ _ _ _).mono ?_; rintro e w1 ⟨rfl, hb⟩; obtain ⟨q0, q1, q2, q3, q4, q5, q6, q7, q8, q9, q10, q11, q12, q13, q14, q15, q16, q17⟩ := kp18 hb q0 q1 q2 q3 q4 q5 q6 q7 q8 q9 q10 q11 q12 q13 q14 q15 q16 q17; clear hb) | (go_at_call 84; refine (tMinor _ _ _ _ _ _ _).mono ?_; rintro e w1 ⟨rfl, hb⟩; obtain ⟨q0, q1, q2, q3, q4, q5, q6, q7, q8, q9, q10, q11, q12, q13, q14, q15, q16, q17⟩ := kp18 hb q0 q1 q2 q3 q4 q5 q6 q7 q8 q9 q10 q11 q12 q13 q14 q15 q16 q17; clear hb) | (go_at_call 85; refine (tPatch _ _ _ _ _ _ _).mono ?_; rintro e w1 ⟨rfl, hb⟩; obtain ⟨q0, q1, q2, q3, q4, q5, q6, q7, q8, q9, q10, q11, q12, q13, q14, q15, q16, q17⟩ := kp18 hb q0 q1 q2 q3 q4 q5 q6 q7 q8 q9 q10 q11 q12 q13 q14 q15 q16 q17; clear hb) | (go_at_call 87; refine (tCmp _ V U a b c p m o a2 b2 c2 p2 m2 o2 ⟨(by first | assumption | (rw [World.cell?_drew]; assumption)), (by first | assumption | (rw [World.cell?_drew]; assumption)), (by first | assumption | (rw [World.cell?_drew]; assumption)), (by first | assumption | (rw [World.cell?_drew]; assumption)), (by first | assumption | (rw [World.cell?_drew]; assumption)), (by first | assumption | (rw [World.cell?_drew]; assumption)), (by first | assumption | (rw [World.cell?_drew]; assumption)), (by first | assumption | (rw [World.cell?_drew]; assumption)), (by first | assumption | (rw [World.cell?_drew]; assumption)), (by first | assumption | (rw [World.cell?_drew]; assumption)), (by first | assumption | (rw [World.cell?_drew]; assumption)), (by first | assumption | (rw [World.cell?_drew]; assumption)), Below.refl _ _⟩ hp rel hr).mono ?_; rintro e w2 ⟨rfl, hb⟩; obtain ⟨q0, q1, q2, q3, q4, q5, q6, q7, q8, q9, q10, q11, q12, q13, q14, q15, q16, q17⟩ := kp18 hb q0 q1 q2 q3 q4 q5 q6 q7 q8 q9 q10 q11 q12 q13 q14 q15 q16 q17; clear hb) | (go_at_call 28; refine (tErr _ _).mono ?_; rintro e w3 ⟨t3, a3, rfl, hb⟩; obtain ⟨q0, q1, q2, q3, q4, q5, q6, q7, q8, q9, q10, q11, q12, q13, q14, q15, q16, q17⟩ := kp18 hb q0 q1 q2 q3 q4 q5 q6 q7 q8 q9 q10 q11 q12 q13 q14 q15 q16 q17; clear hb))
        go_region_held3 (fun w' => w'.cell? ⟨V, 0, none⟩ = some (.int .u64 a) ∧ w'.cell? ⟨V, 1, none⟩ = some (.int .u64 b) ∧ w'.cell? ⟨V, 2, none⟩ = some (.int .u64 c) ∧ w'.cell? ⟨V, 3, none⟩ = some (.string p) ∧ w'.cell? ⟨V, 4, none⟩ = some (.string m) ∧ w'.cell? ⟨V, 5, none⟩ = some (.string o) ∧ w'.cell? ⟨U, 0, none⟩ = some (.int .u64 a2) ∧ w'.cell? ⟨U, 1, none⟩ = some (.int .u64 b2) ∧ w'.cell? ⟨U, 2, none⟩ = some (.int .u64 c2) ∧ w'.cell? ⟨U, 3, none⟩ = some (.string p2) ∧ w'.cell? ⟨U, 4, none⟩ = some (.string m2) ∧ w'.cell? ⟨U, 5, none⟩ = some (.string o2) ∧ w'.cell? ⟨C, 0, none⟩ = some (.pointer (some ⟨U, 0, none⟩)) ∧ w'.cell? ⟨C, 2, none⟩ = some (.string op) ∧ w'.cell? ⟨C, 3, none⟩ = some (.bool true) ∧ w'.cell? ⟨C, 4, none⟩ = some (.bool true) ∧ w'.cell? ⟨C, 5, none⟩ = some (.bool pd) ∧ Below w.heap.size w w') (refine ⟨?_, ?_, ?_, ?_, ?_, ?_, ?_, ?_, ?_, ?_, ?_, ?_, ?_, ?_, ?_, ?_, ?_, ?_⟩ <;> first | assumption | (rw [World.cell?_drew]; assumption) | (refine Below.drew ?_; assumption)) (first | (go_at_call 83; refine (tMajor _ _ _ _ _ _ _).mono ?_; rintro e w1 ⟨rfl, hb⟩; have HS2 : S3 w V U C a b c p m o a2 b2 c2 p2 m2 o2 op true true pd w1 := (by refine ⟨?_, ?_, ?_, ?_, ?_, ?_, ?_, ?_, ?_, ?_, ?_, ?_, ?_, ?_, ?_, ?_, ?_, ?_⟩ <;> first | exact keepc hb (by first | assumption | (rw [World.cell?_drew]; assumption)) | exact belk hb (by first | assumption | (refine Below.drew ?_; assumption))); clear hb; obtain ⟨q0, q1, q2, q3, q4, q5, q6, q7, q8, q9, q10, q11, q12, q13, q14, q15, q16, q17⟩ := HS2))
        go_upto_region 6 with fail
        go_region_held3 (fun w' => w'.cell? ⟨V, 0, none⟩ = some (.int .u64 a) ∧ w'.cell? ⟨V, 1, none⟩ = some (.int .u64 b) ∧ w'.cell? ⟨V, 2, none⟩ = some (.int .u64 c) ∧ w'.cell? ⟨V, 3, none⟩ = some (.string p) ∧ w'.cell? ⟨V, 4, none⟩ = some (.string m) ∧ w'.cell? ⟨V, 5, none⟩ = some (.string o) ∧ w'.cell? ⟨U, 0, none⟩ = some (.int .u64 a2) ∧ w'.cell? ⟨U, 1, none⟩ = some (.int .u64 b2) ∧ w'.cell? ⟨U, 2, none⟩ = some (.int .u64 c2) ∧ w'.cell? ⟨U, 3, none⟩ = some (.string p2) ∧ w'.cell? ⟨U, 4, none⟩ = some (.string m2) ∧ w'.cell? ⟨U, 5, none⟩ = some (.string o2) ∧ w'.cell? ⟨C, 0, none⟩ = some (.pointer (some ⟨U, 0, none⟩)) ∧ w'.cell? ⟨C, 2, none⟩ = some (.string op) ∧ w'.cell? ⟨C, 3, none⟩ = some (.bool true) ∧ w'.cell? ⟨C, 4, none⟩ = some (.bool true) ∧ w'.cell? ⟨C, 5, none⟩ = some (.bool pd) ∧ Below w.heap.size w w') (refine ⟨?_, ?_, ?_, ?_, ?_, ?_, ?_, ?_, ?_, ?_, ?_, ?_, ?_, ?_, ?_, ?_, ?_, ?_⟩ <;> first | assumption | (rw [World.cell?_drew]; assumption) | (refine Below.drew ?_; assumption)) (first | (go_at_call 84; refine (tMinor _ _ _ _ _ _ _).mono ?_; rintro e w1 ⟨rfl, hb⟩; have HS2 : S3 w V U C a b c p m o a2 b2 c2 p2 m2 o2 op true true pd w1 := (by refine ⟨?_, ?_, ?_, ?_, ?_, ?_, ?_, ?_, ?_, ?_, ?_, ?_, ?_, ?_, ?_, ?_, ?_, ?_⟩ <;> first | exact keepc hb (by first | assumption | (rw [World.cell?_drew]; assumption)) | exact belk hb (by first | assumption | (refine Below.drew ?_; assumption))); clear hb; obtain ⟨q0, q1, q2, q3, q4, q5, q6, q7, q8, q9, q10, q11, q12, q13, q14, q15, q16, q17⟩ := HS2))
        all_goals go_wp2_with (go_at_call 28; refine (tErr _ _).mono ?_; rintro e w3 ⟨t3, a3, rfl, hb⟩; have hbb := belk hb (by first | assumption | (refine Below.drew ?_; assumption)); clear hb)
        all_goals (go_ret2; refine ret_bool (r := res) ?_ (by first | assumption | (refine Below.drew ?_; assumption)); rw [← HRES.out, neR, if_neg (by simp), if_neg (by simp [x1]), decide_eq_false (by simp)])
  · have y1 : ((a2 : Int) != (a : Int)) = true := by simp; omega
    go_upto_region 4 with (first | (go_at_call 81; refine (tPrere _ _ _ _ _ _ _).mono ?_; rintro e w1 ⟨rfl, hb⟩; obtain ⟨q0, q1, q2, q3, q4, q5, q6, q7, q8, q9, q10, q11, q12, q13, q14, q15, q16, q17⟩ := kp18 hb q0 q1 q2 q3 q4 q5 q6 q7 q8 q9 q10 q11 q12 q13 q14 q15 q16 q17; clear hb) | (go_at_call 83; refine (tMajor _ _ _ _ _ _ _).mono ?_; rintro e w1 ⟨rfl, hb⟩; obtain ⟨q0, q1, q2, q3, q4, q5, q6, q7, q8, q9, q10, q11, q12, q13, q14, q15, q16, q17⟩ := kp18 hb q0 q1 q2 q3 q4 q5 q6 q7 q8 q9 q10 q11 q12 q13 q14 q15 q16 q17; clear hb) | (go_at_call 84; refine (tMinor _ _ _ _ _ _ _).mono ?_; rintro e w1 ⟨rfl, hb⟩; obtain ⟨q0, q1, q2, q3, q4, q5, q6, q7, q8, q9, q10, q11, q12, q13, q14, q15, q16, q17⟩ := kp18 hb q0 q1 q2 q3 q4 q5 q6 q7 q8 q9 q10 q11 q12 q13 q14 q15 q16 q17; clear hb) | (go_at_call 85; refine (tPatch _ _ _ _ _ _ _).mono ?_; rintro e w1 ⟨rfl, hb⟩; obtain ⟨q0, q1, q2, q3, q4, q5, q6, q7, q8, q9, q10, q11, q12, q13, q14, q15, q16, q17⟩ := kp18 hb q0 q1 q2 q3 q4 q5 q6 q7 q8 q9 q10 q11 q12 q13 q14 q15 q16 q17; clear hb) | (go_at_call 87; refine (tCmp _ V U a b c p m o a2 b2 c2 p2 m2 o2 ⟨(by first | assumption | (rw [World.cell?_drew]; assumption)), (by first | assumption | (rw [World.cell?_drew]; assumption)), (by first | assumption | (rw [World.cell?_drew]; assumption)), (by first | assumption | (rw [World.cell?_drew]; assumption)), (by first | assumption | (rw [World.cell?_drew]; assumption)), (by first | assumption | (rw [World.cell?_drew]; assumption)), (by first | assumption | (rw [World.cell?_drew]; assumption)), (by first | assumption | (rw [World.cell?_drew]; assumption)), (by first | assumption | (rw [World.cell?_drew]; assumption)), (by first | assumption | (rw [World.cell?_drew]; assumption)), (by first | assumption | (rw [World.cell?_drew]; assumption)), (by first | assumption | (rw [World.cell?_drew]; assumption)), Below.refl _ _⟩ hp rel hr).mono ?_; rintro e w2 ⟨rfl, hb⟩; obtain ⟨q0, q1, q2, q3, q4, q5, q6, q7, q8, q9, q10, q11, q12, q13, q14, q15, q16, q17⟩ := kp18 hb q0 q1 q2 q3 q4 q5 q6 q7 q8 q9 q10 q11 q12 q13 q14 q15 q16 q17; clear hb) | (go_at_call 28; refine (tErr _ _).mono ?_; rintro e w3 ⟨t3, a3, rfl, hb⟩; obtain ⟨q0, q1, q2, q3, q4, q5, q6, q7, q8, q9, q10, q11, q12, q13, q14, q15, q16, q17⟩ := kp18 hb q0 q1 q2 q3 q4 q5 q6 q7 q8 q9 q10 q11 q12 q13 q14 q15 q16 q17; clear hb))
    go_region_held3 (fun w' => w'.cell? ⟨V, 0, none⟩ = some (.int .u64 a) ∧ w'.cell? ⟨V, 1, none⟩ = some (.int .u64 b) ∧ w'.cell? ⟨V, 2, none⟩ = some (.int .u64 c) ∧ w'.cell? ⟨V, 3, none⟩ = some (.string p) ∧ w'.cell? ⟨V, 4, none⟩ = some (.string m) ∧ w'.cell? ⟨V, 5, none⟩ = some (.string o) ∧ w'.cell? ⟨U, 0, none⟩ = some (.int .u64 a2) ∧ w'.cell? ⟨U, 1, none⟩ = some (.int .u64 b2) ∧ w'.cell? ⟨U, 2, none⟩ = some (.int .u64 c2) ∧ w'.cell? ⟨U, 3, none⟩ = some (.string p2) ∧ w'.cell? ⟨U, 4, none⟩ = some (.string m2) ∧ w'.cell? ⟨U, 5, none⟩ = some (.string o2) ∧ w'.cell? ⟨C, 0, none⟩ = some (.pointer (some ⟨U, 0, none⟩)) ∧ w'.cell? ⟨C, 2, none⟩ = some (.string op) ∧ w'.cell? ⟨C, 3, none⟩ = some (.bool md) ∧ w'.cell? ⟨C, 4, none⟩ = some (.bool true) ∧ w'.cell? ⟨C, 5, none⟩ = some (.bool pd) ∧ Below w.heap.size w w') (refine ⟨?_, ?_, ?_, ?_, ?_, ?_, ?_, ?_, ?_, ?_, ?_, ?_, ?_, ?_, ?_, ?_, ?_, ?_⟩ <;> first | assumption | (rw [World.cell?_drew]; assumption) | (refine Below.drew ?_; assumption)) (first | (go_at_call 83; refine (tMajor _ _ _ _ _ _ _).mono ?_; rintro e w1 ⟨rfl, hb⟩; have HS2 : S3 w V U C a b c p m o a2 b2 c2 p2 m2 o2 op md true pd w1 := (by refine ⟨?_, ?_, ?_, ?_, ?_, ?_, ?_, ?_, ?_, ?_, ?_, ?_, ?_, ?_, ?_, ?_, ?_, ?_⟩ <;> first | exact keepc hb (by first | assumption | (rw [World.cell?_drew]; assumption)) | exact belk hb (by first | assumption | (refine Below.drew ?_; assumption))); clear hb; obtain ⟨q0, q1, q2, q3, q4, q5, q6, q7, q8, q9, q10, q11, q12, q13, q14, q15, q16, q17⟩ := HS2))
    all_goals go_wp2
    all_goals (go_ret2; refine ret_bool (r := res) ?_ (by first | assumption | (refine Below.drew ?_; assumption)); rw [← HRES.out, neR, if_neg (by simp), if_pos x1])
end Go.Proofs.YtnamjojceadgdaaGreatDoor.Sv
end
section
set_option linter.unusedVariables false
set_option linter.unusedSimpArgs false
/- check of a release, whatever the operator -/
namespace Go.Proofs.YtnamjojceadgdaaGreatDoor.Sv
open Go Go.RowKit Rx
set_option maxRecDepth 100000
set_option maxHeartbeats 4000000 in
theorem chk_eqA (w : World) (V U C a b c : Nat) (p m o : ByteArray) (a2 b2 c2 : Nat) (p2 m2 o2 : ByteArray) (md d pd inc : Bool) (h : S3 w V U C a b c p m o a2 b2 c2 p2 m2 o2 ⟨#[]⟩ md d pd w) (hp : p.toList.isEmpty = true) (rel : Bool) (hr : p2.toList.isEmpty = rel) (hV : ∃ cs t, w.heap[V]? = some (.cells cs t (0, 0))) (hU : ∃ cs t, w.heap[U]? = some (.cells cs t (0, 0))) :
    Calls Tryz.prog 32 #[.pointer (some ⟨C, 0, none⟩), .pointer (some ⟨V, 0, none⟩), .bool inc] w fun e w' => ∃ ev, e = .returned (.tuple #[.bool (eqR a b c a2 b2 c2 rel md d pd), ev]) ∧ Below w.heap.size w w' := by
  have H := Lib.hid (tEqW w V U C a b c p m o a2 b2 c2 p2 m2 o2 ⟨#[]⟩ md d pd inc h hp rel hr hV hU)
  obtain ⟨q0, q1, q2, q3, q4, q5, q6, q7, q8, q9, q10, q11, q12, q13, q14, q15, q16, q17⟩ := h
  clear q0 q1 q2 q3 q4 q5 q6 q7 q8 q9 q10 q11 q12 q14 q15 q16 q17 hp hr hV hU
  generalize (eqR a b c a2 b2 c2 rel md d pd) = r at *
  go_enter Tryz.func32, Tryz.ntmps32
  go_wp2_with (go_at_call 55; refine H.out.mono ?_; rintro e w1 ⟨ev, rfl, hb⟩; have HB := Lib.hid hb; clear hb)
  go_ret2
  exact ⟨_, rfl, HB.out⟩
set_option maxHeartbeats 4000000 in
theorem chk_eqB (w : World) (V U C a b c : Nat) (p m o : ByteArray) (a2 b2 c2 : Nat) (p2 m2 o2 : ByteArray) (md d pd inc : Bool) (h : S3 w V U C a b c p m o a2 b2 c2 p2 m2 o2 ⟨#[61]⟩ md d pd w) (hp : p.toList.isEmpty = true) (rel : Bool) (hr : p2.toList.isEmpty = rel) (hV : ∃ cs t, w.heap[V]? = some (.cells cs t (0, 0))) (hU : ∃ cs t, w.heap[U]? = some (.cells cs t (0, 0))) :
    Calls Tryz.prog 32 #[.pointer (some ⟨C, 0, none⟩), .pointer (some ⟨V, 0, none⟩), .bool inc] w fun e w' => ∃ ev, e = .returned (.tuple #[.bool (eqR a b c a2 b2 c2 rel md d pd), ev]) ∧ Below w.heap.size w w' := by
  have H := Lib.hid (tEqW w V U C a b c p m o a2 b2 c2 p2 m2 o2 ⟨#[61]⟩ md d pd inc h hp rel hr hV hU)
  obtain ⟨q0, q1, q2, q3, q4, q5, q6, q7, q8, q9, q10, q11, q12, q13, q14, q15, q16, q17⟩ := h
  clear q0 q1 q2 q3 q4 q5 q6 q7 q8 q9 q10 q11 q12 q14 q15 q16 q17 hp hr hV hU
  generalize (eqR a b c a2 b2 c2 rel md d pd) = r at *
  go_enter Tryz.func32, Tryz.ntmps32
  go_wp2_with (go_at_call 55; refine H.out.mono ?_; rintro e w1 ⟨ev, rfl, hb⟩; have HB := Lib.hid hb; clear hb)
  go_ret2
  exact ⟨_, rfl, HB.out⟩
set_option maxHeartbeats 4000000 in
theorem chk_ne (w : World) (V U C a b c : Nat) (p m o : ByteArray) (a2 b2 c2 : Nat) (p2 m2 o2 : ByteArray) (md d pd inc : Bool) (h : S3 w V U C a b c p m o a2 b2 c2 p2 m2 o2 ⟨#[33, 61]⟩ md d pd w) (hp : p.toList.isEmpty = true) (rel : Bool) (hr : p2.toList.isEmpty = rel) (hV : ∃ cs t, w.heap[V]? = some (.cells cs t (0, 0))) (hU : ∃ cs t, w.heap[U]? = some (.cells cs t (0, 0))) (hmp : d = true → md = true ∨ pd = true) (hdr : d = true → rel = true) :
    Calls Tryz.prog 32 #[.pointer (some ⟨C, 0, none⟩), .pointer (some ⟨V, 0, none⟩), .bool inc] w fun e w' => ∃ ev, e = .returned (.tuple #[.bool (neR a b c a2 b2 c2 rel md d pd), ev]) ∧ Below w.heap.size w w' := by
  have H := Lib.hid (tNeW w V U C a b c p m o a2 b2 c2 p2 m2 o2 ⟨#[33, 61]⟩ md d pd inc h hp rel hr hV hU hmp hdr)
  obtain ⟨q0, q1, q2, q3, q4, q5, q6, q7, q8, q9, q10, q11, q12, q13, q14, q15, q16, q17⟩ := h
  clear q0 q1 q2 q3 q4 q5 q6 q7 q8 q9 q10 q11 q12 q14 q15 q16 q17 hp hr hV hU hmp hdr
  generalize (neR a b c a2 b2 c2 rel md d pd) = r at *
  go_enter Tryz.func32, Tryz.ntmps32
  go_wp2_with (go_at_call 56; refine H.out.mono ?_; rintro e w1 ⟨ev, rfl, hb⟩; have HB := Lib.hid hb; clear hb)
  go_ret2
  exact ⟨_, rfl, HB.out⟩
set_option maxHeartbeats 4000000 in
theorem chk_gt (w : World) (V U C a b c : Nat) (p m o : ByteArray) (a2 b2 c2 : Nat) (p2 m2 o2 : ByteArray) (md d pd inc : Bool) (h : S3 w V U C a b c p m o a2 b2 c2 p2 m2 o2 ⟨#[62]⟩ md d pd w) (hp : p.toList.isEmpty = true) (rel : Bool) (hr : p2.toList.isEmpty = rel) :
    Calls Tryz.prog 32 #[.pointer (some ⟨C, 0, none⟩), .pointer (some ⟨V, 0, none⟩), .bool inc] w fun e w' => ∃ ev, e = .returned (.tuple #[.bool (gtR a b c a2 b2 c2 rel md d pd), ev]) ∧ Below w.heap.size w w' := by
  have H := Lib.hid (tGtW w V U C a b c p m o a2 b2 c2 p2 m2 o2 ⟨#[62]⟩ md d pd inc h hp rel hr)
  obtain ⟨q0, q1, q2, q3, q4, q5, q6, q7, q8, q9, q10, q11, q12, q13, q14, q15, q16, q17⟩ := h
  clear q0 q1 q2 q3 q4 q5 q6 q7 q8 q9 q10 q11 q12 q14 q15 q16 q17 hp hr
  generalize (gtR a b c a2 b2 c2 rel md d pd) = r at *
  go_enter Tryz.func32, Tryz.ntmps32
  go_wp2_with (go_at_call 57; refine H.out.mono ?_; rintro e w1 ⟨ev, rfl, hb⟩; have HB := Lib.hid hb; clear hb)
  go_ret2
  exact ⟨_, rfl, HB.out⟩
set_option maxHeartbeats 4000000 in
theorem chk_lt (w : World) (V U C a b c : Nat) (p m o : ByteArray) (a2 b2 c2 : Nat) (p2 m2 o2 : ByteArray) (md d pd inc : Bool) (h : S3 w V U C a b c p m o a2 b2 c2 p2 m2 o2 ⟨#[60]⟩ md d pd w) (hp : p.toList.isEmpty = true) (rel : Bool) (hr : p2.toList.isEmpty = rel) :
    Calls Tryz.prog 32 #[.pointer (some ⟨C, 0, none⟩), .pointer (some ⟨V, 0, none⟩), .bool inc] w fun e w' => ∃ ev, e = .returned (.tuple #[.bool (decide (cmpRel a b c a2 b2 c2 rel < 0)), ev]) ∧ Below w.heap.size w w' := by
  have H := Lib.hid (tLt w V U C a b c p m o a2 b2 c2 p2 m2 o2 ⟨#[60]⟩ md d pd inc h hp rel hr)
  obtain ⟨q0, q1, q2, q3, q4, q5, q6, q7, q8, q9, q10, q11, q12, q13, q14, q15, q16, q17⟩ := h
  clear q0 q1 q2 q3 q4 q5 q6 q7 q8 q9 q10 q11 q12 q14 q15 q16 q17 hp hr
  generalize (decide (cmpRel a b c a2 b2 c2 rel < 0)) = r at *
  go_enter Tryz.func32, Tryz.ntmps32
  go_wp2_with (go_at_call 58; refine H.out.mono ?_; rintro e w1 ⟨ev, rfl, hb⟩; have HB := Lib.hid hb; clear hb)
  go_ret2
  exact ⟨_, rfl, HB.out⟩
set_option maxHeartbeats 4000000 in
theorem chk_geA (w : World) (V U C a b c : Nat) (p m o : ByteArray) (a2 b2 c2 : Nat) (p2 m2 o2 : ByteArray) (md d pd inc : Bool) (h : S3 w V U C a b c p m o a2 b2 c2 p2 m2 o2 ⟨#[62, 61]⟩ md d pd w) (hp : p.toList.isEmpty = true) (rel : Bool) (hr : p2.toList.isEmpty = rel) :
    Calls Tryz.prog 32 #[.pointer (some ⟨C, 0, none⟩), .pointer (some ⟨V, 0, none⟩), .bool inc] w fun e w' => ∃ ev, e = .returned (.tuple #[.bool (decide (0 ≤ cmpRel a b c a2 b2 c2 rel)), ev]) ∧ Below w.heap.size w w' := by
  have H := Lib.hid (tGe w V U C a b c p m o a2 b2 c2 p2 m2 o2 ⟨#[62, 61]⟩ md d pd inc h hp rel hr)
  obtain ⟨q0, q1, q2, q3, q4, q5, q6, q7, q8, q9, q10, q11, q12, q13, q14, q15, q16, q17⟩ := h
  clear q0 q1 q2 q3 q4 q5 q6 q7 q8 q9 q10 q11 q12 q14 q15 q16 q17 hp hr
  generalize (decide (0 ≤ cmpRel a b c a2 b2 c2 rel)) = r at *
  go_enter Tryz.func32, Tryz.ntmps32
  go_wp2_with (go_at_call 59; refine H.out.mono ?_; rintro e w1 ⟨ev, rfl, hb⟩; have HB := Lib.hid hb; clear hb)
  go_ret2
  exact ⟨_, rfl, HB.out⟩
set_option maxHeartbeats 4000000 in
theorem chk_geB (w : World) (V U C a b c : Nat) (p m o : ByteArray) (a2 b2 c2 : Nat) (p2 m2 o2 : ByteArray) (md d pd inc : Bool) (h : S3 w V U C a b c p m o a2 b2 c2 p2 m2 o2 ⟨#[61, 62]⟩ md d pd w) (hp : p.toList.isEmpty = true) (rel : Bool) (hr : p2.toList.isEmpty = rel) :
    Calls Tryz.prog 32 #[.pointer (some ⟨C, 0, none⟩), .pointer (some ⟨V, 0, none⟩), .bool inc] w fun e w' => ∃ ev, e = .returned (.tuple #[.bool (decide (0 ≤ cmpRel a b c a2 b2 c2 rel)), ev]) ∧ Below w.heap.size w w' := by
  have H := Lib.hid (tGe w V U C a b c p m o a2 b2 c2 p2 m2 o2 ⟨#[61, 62]⟩ md d pd inc h hp rel hr)
  obtain ⟨q0, q1, q2, q3, q4, q5, q6, q7, q8, q9, q10, q11, q12, q13, q14, q15, q16, q17⟩ := h
  clear q0 q1 q2 q3 q4 q5 q6 q7 q8 q9 q10 q11 q12 q14 q15 q16 q17 hp hr
  generalize (decide (0 ≤ cmpRel a b c a2 b2 c2 rel)) = r at *
  go_enter Tryz.func32, Tryz.ntmps32
  go_wp2_with (go_at_call 59; refine H.out.mono ?_; rintro e w1 ⟨ev, rfl, hb⟩; have HB := Lib.hid hb; clear hb)
  go_ret2
  exact ⟨_, rfl, HB.out⟩
set_option maxHeartbeats 4000000 in
theorem chk_leA (w : World) (V U C a b c : Nat) (p m o : ByteArray) (a2 b2 c2 : Nat) (p2 m2 o2 : ByteArray) (md d pd inc : Bool) (h : S3 w V U C a b c p m o a2 b2 c2 p2 m2 o2 ⟨#[60, 61]⟩ md d pd w) (hp : p.toList.isEmpty = true) (rel : Bool) (hr : p2.toList.isEmpty = rel) :
    Calls Tryz.prog 32 #[.pointer (some ⟨C, 0, none⟩), .pointer (some ⟨V, 0, none⟩), .bool inc] w fun e w' => ∃ ev, e = .returned (.tuple #[.bool (leR a b c a2 b2 c2 rel md d pd), ev]) ∧ Below w.heap.size w w' := by
  have H := Lib.hid (tLe w V U C a b c p m o a2 b2 c2 p2 m2 o2 ⟨#[60, 61]⟩ md d pd inc h hp rel hr)
  obtain ⟨q0, q1, q2, q3, q4, q5, q6, q7, q8, q9, q10, q11, q12, q13, q14, q15, q16, q17⟩ := h
  clear q0 q1 q2 q3 q4 q5 q6 q7 q8 q9 q10 q11 q12 q14 q15 q16 q17 hp hr
  generalize (leR a b c a2 b2 c2 rel md d pd) = r at *
  go_enter Tryz.func32, Tryz.ntmps32
  go_wp2_with (go_at_call 60; refine H.out.mono ?_; rintro e w1 ⟨ev, rfl, hb⟩; have HB := Lib.hid hb; clear hb)
  go_ret2
  exact ⟨_, rfl, HB.out⟩
set_option maxHeartbeats 4000000 in
theorem chk_leB (w : World) (V U C a b c : Nat) (p m o : ByteArray) (a2 b2 c2 : Nat) (p2 m2 o2 : ByteArray) (md d pd inc : Bool) (h : S3 w V U C a b c p m o a2 b2 c2 p2 m2 o2 ⟨#[61, 60]⟩ md d pd w) (hp : p.toList.isEmpty = true) (rel : Bool) (hr : p2.toList.isEmpty = rel) :
    Calls Tryz.prog 32 #[.pointer (some ⟨C, 0, none⟩), .pointer (some ⟨V, 0, none⟩), .bool inc] w fun e w' => ∃ ev, e = .returned (.tuple #[.bool (leR a b c a2 b2 c2 rel md d pd), ev]) ∧ Below w.heap.size w w' := by
  have H := Lib.hid (tLe w V U C a b c p m o a2 b2 c2 p2 m2 o2 ⟨#[61, 60]⟩ md d pd inc h hp rel hr)
  obtain ⟨q0, q1, q2, q3, q4, q5, q6, q7, q8, q9, q10, q11, q12, q13, q14, q15, q16, q17⟩ := h
  clear q0 q1 q2 q3 q4 q5 q6 q7 q8 q9 q10 q11 q12 q14 q15 q16 q17 hp hr
  generalize (leR a b c a2 b2 c2 rel md d pd) = r at *
  go_enter Tryz.func32, Tryz.ntmps32
  go_wp2_with (go_at_call 60; refine H.out.mono ?_; rintro e w1 ⟨ev, rfl, hb⟩; have HB := Lib.hid hb; clear hb)
  go_ret2
  exact ⟨_, rfl, HB.out⟩
set_option maxHeartbeats 4000000 in
theorem chk_tiA (w : World) (V U C a b c : Nat) (p m o : ByteArray) (a2 b2 c2 : Nat) (p2 m2 o2 : ByteArray) (md d pd inc : Bool) (h : S3 w V U C a b c p m o a2 b2 c2 p2 m2 o2 ⟨#[126]⟩ md d pd w) (hp : p.toList.isEmpty = true) (rel : Bool) (hr : p2.toList.isEmpty = rel) :
    Calls Tryz.prog 32 #[.pointer (some ⟨C, 0, none⟩), .pointer (some ⟨V, 0, none⟩), .bool inc] w fun e w' => ∃ ev, e = .returned (.tuple #[.bool (tildeR a b c a2 b2 c2 rel md pd), ev]) ∧ Below w.heap.size w w' := by
  have H := Lib.hid (tTilde w V U C a b c p m o a2 b2 c2 p2 m2 o2 ⟨#[126]⟩ md d pd inc h hp rel hr)
  obtain ⟨q0, q1, q2, q3, q4, q5, q6, q7, q8, q9, q10, q11, q12, q13, q14, q15, q16, q17⟩ := h
  clear q0 q1 q2 q3 q4 q5 q6 q7 q8 q9 q10 q11 q12 q14 q15 q16 q17 hp hr
  generalize (tildeR a b c a2 b2 c2 rel md pd) = r at *
  go_enter Tryz.func32, Tryz.ntmps32
  go_wp2_with (go_at_call 61; refine H.out.mono ?_; rintro e w1 ⟨ev, rfl, hb⟩; have HB := Lib.hid hb; clear hb)
  go_ret2
  exact ⟨_, rfl, HB.out⟩
set_option maxHeartbeats 4000000 in
theorem chk_tiB (w : World) (V U C a b c : Nat) (p m o : ByteArray) (a2 b2 c2 : Nat) (p2 m2 o2 : ByteArray) (md d pd inc : Bool) (h : S3 w V U C a b c p m o a2 b2 c2 p2 m2 o2 ⟨#[126, 62]⟩ md d pd w) (hp : p.toList.isEmpty = true) (rel : Bool) (hr : p2.toList.isEmpty = rel) :
    Calls Tryz.prog 32 #[.pointer (some ⟨C, 0, none⟩), .pointer (some ⟨V, 0, none⟩), .bool inc] w fun e w' => ∃ ev, e = .returned (.tuple #[.bool (tildeR a b c a2 b2 c2 rel md pd), ev]) ∧ Below w.heap.size w w' := by
  have H := Lib.hid (tTilde w V U C a b c p m o a2 b2 c2 p2 m2 o2 ⟨#[126, 62]⟩ md d pd inc h hp rel hr)
  obtain ⟨q0, q1, q2, q3, q4, q5, q6, q7, q8, q9, q10, q11, q12, q13, q14, q15, q16, q17⟩ := h
  clear q0 q1 q2 q3 q4 q5 q6 q7 q8 q9 q10 q11 q12 q14 q15 q16 q17 hp hr
  generalize (tildeR a b c a2 b2 c2 rel md pd) = r at *
  go_enter Tryz.func32, Tryz.ntmps32
  go_wp2_with (go_at_call 61; refine H.out.mono ?_; rintro e w1 ⟨ev, rfl, hb⟩; have HB := Lib.hid hb; clear hb)
  go_ret2
  exact ⟨_, rfl, HB.out⟩
set_option maxHeartbeats 4000000 in
theorem chk_ca (w : World) (V U C a b c : Nat) (p m o : ByteArray) (a2 b2 c2 : Nat) (p2 m2 o2 : ByteArray) (md d pd inc : Bool) (h : S3 w V U C a b c p m o a2 b2 c2 p2 m2 o2 ⟨#[94]⟩ md d pd w) (hp : p.toList.isEmpty = true) (rel : Bool) (hr : p2.toList.isEmpty = rel) :
    Calls Tryz.prog 32 #[.pointer (some ⟨C, 0, none⟩), .pointer (some ⟨V, 0, none⟩), .bool inc] w fun e w' => ∃ ev, e = .returned (.tuple #[.bool (caretR a b c a2 b2 c2 rel md pd), ev]) ∧ Below w.heap.size w w' := by
  have H := Lib.hid (tCaret w V U C a b c p m o a2 b2 c2 p2 m2 o2 ⟨#[94]⟩ md d pd inc h hp rel hr)
  obtain ⟨q0, q1, q2, q3, q4, q5, q6, q7, q8, q9, q10, q11, q12, q13, q14, q15, q16, q17⟩ := h
  clear q0 q1 q2 q3 q4 q5 q6 q7 q8 q9 q10 q11 q12 q14 q15 q16 q17 hp hr
  generalize (caretR a b c a2 b2 c2 rel md pd) = r at *
  go_enter Tryz.func32, Tryz.ntmps32
  go_wp2_with (go_at_call 62; refine H.out.mono ?_; rintro e w1 ⟨ev, rfl, hb⟩; have HB := Lib.hid hb; clear hb)
  go_ret2
  exact ⟨_, rfl, HB.out⟩
/-- what a term says of a release -/
def tdR8 (x y z : Nat) (t : TD) : Bool :=
  if t.op = [] ∨ t.op = [61] then eqR x y z t.a t.b t.c t.pre.isEmpty t.md t.d t.pd
  else if t.op = [33, 61] then neR x y z t.a t.b t.c t.pre.isEmpty t.md t.d t.pd
  else if t.op = [62] then gtR x y z t.a t.b t.c t.pre.isEmpty t.md t.d t.pd
  else if t.op = [60] then decide (cmpRel x y z t.a t.b t.c t.pre.isEmpty < 0)
  else if t.op = [62, 61] ∨ t.op = [61, 62] then decide (0 ≤ cmpRel x y z t.a t.b t.c t.pre.isEmpty)
  else if t.op = [60, 61] ∨ t.op = [61, 60] then leR x y z t.a t.b t.c t.pre.isEmpty t.md t.d t.pd
  else if t.op = [126] ∨ t.op = [126, 62] then tildeR x y z t.a t.b t.c t.pre.isEmpty t.md t.pd
  else caretR x y z t.a t.b t.c t.pre.isEmpty t.md t.pd
theorem chk8 {t : TD} (ho : t.op ∈ opTexts) (hne : t.op = [33, 61] → t.d = true → t.md = true ∨ t.pd = true) (hdr : t.d = true → t.pre = []) (x y z V C : Nat) (m : ByteArray) (i : Bool) (W : World) (hC : TDAt W C t) (hV : W.heap[V]? = some (vrow x y z e0 m)) :
    Calls Tryz.prog 32 #[.pointer (some ⟨C, 0, none⟩), .pointer (some ⟨V, 0, none⟩), .bool i] W fun e w' => ∃ ev, e = .returned (.tuple #[.bool (tdR8 x y z t), ev]) ∧ Below W.heap.size W w' := by
  obtain ⟨op, orig, md, d, pd, a, b, c, pre, me, vt⟩ := t
  simp only at ho hne hdr
  obtain ⟨U, hc, hu⟩ := hC
  unfold ConAt at hc
  unfold VerAt at hu
  unfold vrow at hV
  have h3 : S3 W V U C x y z e0 m e0 a b c (bytesOf pre) (bytesOf me) (bytesOf vt) (bytesOf op) md d pd W :=
    ⟨cell_of_row _ _ 0 _ _ _ hV, cell_of_row _ _ 1 _ _ _ hV, cell_of_row _ _ 2 _ _ _ hV, cell_of_row _ _ 3 _ _ _ hV, cell_of_row _ _ 4 _ _ _ hV, cell_of_row _ _ 5 _ _ _ hV,
      cell_of_row _ _ 0 _ _ _ hu, cell_of_row _ _ 1 _ _ _ hu, cell_of_row _ _ 2 _ _ _ hu, cell_of_row _ _ 3 _ _ _ hu, cell_of_row _ _ 4 _ _ _ hu, cell_of_row _ _ 5 _ _ _ hu,
      cell_of_row _ _ 0 _ _ _ hc, cell_of_row _ _ 2 _ _ _ hc, cell_of_row _ _ 3 _ _ _ hc, cell_of_row _ _ 4 _ _ _ hc, cell_of_row _ _ 5 _ _ _ hc, Below.refl _ _⟩
  have hp : e0.toList.isEmpty = true := by rw [show e0.toList = [] from ByteArray.toList_mk []]; rfl
  have hr : (bytesOf pre).toList.isEmpty = pre.isEmpty := by rw [bytesOf_toList]
  have hVr : ∃ cs t, W.heap[V]? = some (.cells cs t (0, 0)) := ⟨_, _, hV⟩
  have hUr : ∃ cs t, W.heap[U]? = some (.cells cs t (0, 0)) := ⟨_, _, hu⟩
  have hdr' : d = true → pre.isEmpty = true := fun h => by rw [hdr h]; rfl
  simp only [opTexts, List.mem_cons, List.not_mem_nil, or_false] at ho
  rcases ho with rfl | rfl | rfl | rfl | rfl | rfl | rfl | rfl | rfl | rfl | rfl | rfl
  · exact chk_eqA W V U C x y z e0 m e0 a b c _ _ _ md d pd i h3 hp _ hr hVr hUr
  · exact chk_eqB W V U C x y z e0 m e0 a b c _ _ _ md d pd i h3 hp _ hr hVr hUr
  · exact chk_ne W V U C x y z e0 m e0 a b c _ _ _ md d pd i h3 hp _ hr hVr hUr (hne rfl) hdr'
  · exact chk_gt W V U C x y z e0 m e0 a b c _ _ _ md d pd i h3 hp _ hr
  · exact chk_lt W V U C x y z e0 m e0 a b c _ _ _ md d pd i h3 hp _ hr
  · exact chk_geA W V U C x y z e0 m e0 a b c _ _ _ md d pd i h3 hp _ hr
  · exact chk_geB W V U C x y z e0 m e0 a b c _ _ _ md d pd i h3 hp _ hr
  · exact chk_leA W V U C x y z e0 m e0 a b c _ _ _ md d pd i h3 hp _ hr
  · exact chk_leB W V U C x y z e0 m e0 a b c _ _ _ md d pd i h3 hp _ hr
  · exact chk_tiA W V U C x y z e0 m e0 a b c _ _ _ md d pd i h3 hp _ hr
  · exact chk_tiB W V U C x y z e0 m e0 a b c _ _ _ md d pd i h3 hp _ hr
  · exact chk_ca W V U C x y z e0 m e0 a b c _ _ _ md d pd i h3 hp _ hr
end Go.Proofs.YtnamjojceadgdaaGreatDoor.Sv
end
section
set_option linter.unusedVariables false
set_option linter.unusedSimpArgs false
/- the identifiers between the dots of a text -/
namespace Go.Proofs.YtnamjojceadgdaaGreatDoor.Sv
open Go Go.RowKit Rx
set_option maxRecDepth 100000
def idents : Bs → List Bs
  | [] => [[]]
  | x :: l => if x = 46 then [] :: idents l else match idents l with
    | [] => [[x]]
    | y :: r => (x :: y) :: r
theorem idents_ne : ∀ l : Bs, idents l ≠ []
  | [] => by simp [idents]
  | x :: l => by
    unfold idents
    split
    · simp
    · split <;> simp
theorem idents_none : ∀ {a : Bs}, (∀ y ∈ a, y ≠ 46) → idents a = [a]
  | [], _ => rfl
  | x :: l, h => by
    have h1 : x ≠ 46 := h x (by simp)
    have h2 := idents_none (a := l) fun y hy => h y (List.mem_cons_of_mem _ hy)
    simp [idents, h1, h2]
theorem idents_at : ∀ {a b : Bs}, (∀ y ∈ a, y ≠ 46) → idents (a ++ 46 :: b) = a :: idents b
  | [], b, _ => by simp [idents]
  | x :: l, b, h => by
    have h1 : x ≠ 46 := h x (by simp)
    have h2 := idents_at (a := l) (b := b) fun y hy => h y (List.mem_cons_of_mem _ hy)
    simp [idents, h1, h2]
theorem dot_split : ∀ s : Bs, (∀ y ∈ s, y ≠ 46) ∨ ∃ a b, s = a ++ 46 :: b ∧ ∀ y ∈ a, y ≠ 46
  | [] => .inl (by simp)
  | x :: l => by
    by_cases hx : x = 46
    · subst hx; exact .inr ⟨[], l, rfl, by simp⟩
    · rcases dot_split l with h | ⟨a, b, rfl, h⟩
      · exact .inl fun y hy => by
          rcases List.mem_cons.1 hy with rfl | hy
          · exact hx
          · exact h y hy
      · exact .inr ⟨x :: a, b, rfl, fun y hy => by
          rcases List.mem_cons.1 hy with rfl | hy
          · exact hx
          · exact h y hy⟩
theorem idents_join : ∀ (n : Nat) (s : Bs), s.length ≤ n → ∃ x r, idents s = x :: r ∧ s = x ++ dots r
  | 0, s, h => by
    obtain rfl : s = [] := List.length_eq_zero_iff.1 (by omega)
    exact ⟨[], [], rfl, rfl⟩
  | n + 1, s, h => by
    rcases dot_split s with h1 | ⟨a, b, rfl, h1⟩
    · exact ⟨s, [], idents_none h1, by simp [dots]⟩
    · obtain ⟨x, r, e1, e2⟩ := idents_join n b (by simp at h; omega)
      exact ⟨a, x :: r, by rw [idents_at h1, e1], by rw [e2]; simp [dots]⟩
theorem ext1 {s : Bs} {i : Nat} (h : i < s.length) : ((bytesOf s).extract i (i + 1)).toList = [s[i]] := by
  rw [extract_eq (A := s.take i) (B := [s[i]]) (C := s.drop (i + 1)) (by
    show s.toArray.toList = _
    rw [List.toList_toArray, List.singleton_append, ← List.drop_eq_getElem_cons h, List.take_append_drop]) (by simp; omega) (by simp)]
  exact ByteArray.toList_mk _
theorem sep1 : (⟨#[46]⟩ : ByteArray).size = 1 ∧ (⟨#[46]⟩ : ByteArray).toList = [46] := ⟨rfl, ByteArray.toList_mk [46]⟩
theorem first_dot {a b : Bs} (h : ∀ y ∈ a, y ≠ 46) : First (bytesOf (a ++ 46 :: b)) ⟨#[46]⟩ (some a.length) := by
  unfold First
  rw [sep1.1, sep1.2]
  refine ⟨by rw [bytesOf_size]; simp, by rw [ext1 (by simp)]; simp, fun i hi => ?_⟩
  rw [ext1 (by simp; omega)]
  have := h a[i] (List.getElem_mem hi)
  simp [List.getElem_append_left hi, this]
theorem first_nodot {a : Bs} (h : ∀ y ∈ a, y ≠ 46) : First (bytesOf a) ⟨#[46]⟩ none := by
  unfold First
  rw [sep1.1, sep1.2]
  intro i hi
  rw [bytesOf_size] at hi
  rw [ext1 (by omega)]
  have := h a[i] (List.getElem_mem (by omega))
  simp [this]
theorem parted_dot : ∀ (n : Nat) (s : Bs), s.length ≤ n → Parted ⟨#[46]⟩ (bytesOf s) ((idents s).map bytesOf)
  | 0, s, h => by
    rw [List.length_eq_zero_iff.1 (show s.length = 0 by omega)]
    exact .last _ (first_nodot (by simp))
  | n + 1, s, h => by
    rcases dot_split s with h1 | ⟨a, b, rfl, h1⟩
    · rw [idents_none h1]
      exact .last _ (first_nodot h1)
    · rw [idents_at h1]
      have e0 : (bytesOf (a ++ 46 :: b)).extract 0 a.length = bytesOf a := extract_eq (A := []) (B := a) (C := 46 :: b) (by show (a ++ 46 :: b).toArray.toList = _; simp) (by simp) (by simp)
      have e1 : (bytesOf (a ++ 46 :: b)).extract (a.length + (⟨#[46]⟩ : ByteArray).size) (bytesOf (a ++ 46 :: b)).size = bytesOf b := extract_eq (A := a ++ [46]) (B := b) (C := []) (by show (a ++ 46 :: b).toArray.toList = _; simp) (by rw [sep1.1]; simp) (by rw [sep1.1, bytesOf_size]; simp; omega)
      have h2 := parted_dot n b (by simp at h; omega)
      rw [← e1] at h2
      have := Parted.more _ a.length _ (first_dot (b := b) h1) h2
      rw [e0] at this
      exact this
/-- an identifier of a prerelease: its bytes, and no zero ahead of a number -/
def idOk (i : Bs) : Prop := okPart iB i ∧ ¬ ((∀ y ∈ i, dB y = true) ∧ 1 < i.length ∧ i.head? = some 48)
def PreOk (s : Bs) : Prop := ∀ i ∈ idents s, idOk i
theorem PreOk.grp {s : Bs} (h : PreOk s) : ∃ x r, idents s = x :: r ∧ s = x ++ dots r ∧ okGrp iB (some (x, r)) := by
  obtain ⟨x, r, e1, e2⟩ := idents_join s.length s (Nat.le_refl _)
  exact ⟨x, r, e1, e2, (h x (by rw [e1]; simp)).1, fun y hy => (h y (by rw [e1]; exact List.mem_cons_of_mem _ hy)).1⟩
/-! a zero ahead of a number -/
theorem parse_zero (a : Nat) (ha : a < 18446744073709551616) : Lib.parseUintB 64 (48 :: Lib.decDigits a) = .ok a := by
  have h := parse_dec64 a ha
  unfold Lib.parseUintB at h ⊢
  rw [if_neg (decDigits_ne a)] at h
  rw [if_neg (by simp)]
  unfold Lib.parseUintM
  simpa using h
end Go.Proofs.YtnamjojceadgdaaGreatDoor.Sv
end
section
set_option linter.unusedVariables false
set_option linter.unusedSimpArgs false
/- does a text hold none but the bytes of another -/
namespace Go.Proofs.YtnamjojceadgdaaGreatDoor.Sv
open Go Go.RowKit Rx
set_option maxRecDepth 100000
theorem iter_next {wr : World} {k : Nat} {s : Bs} {pos : Nat} (hk : wr.heap[k]? = some (.stringIter (bytesOf s) pos)) (h : pos < s.length) (ha : (s[pos]'h).toNat < 128) (ty : TypeId) :
    (Instr.next (.pointer (some ⟨k, 0, none⟩)) true ty).run Tryz.prog wr = .ok (.tuple #[.bool true, .int .i64 pos, .int .i32 (((s[pos]'h).toNat : Nat) : Int)]) (wr.iterAt k (bytesOf s) (pos + 1)) := by
  have hs : pos < (bytesOf s).size := by rw [bytesOf_size]; exact h
  have e : (bytesOf s)[pos]'hs = s[pos]'h := by simp [bytesOf]; rfl
  rw [Lib.run_next_any_at wr k _ pos ty hk hs, decode_ascii _ pos hs (by rw [e]; exact ha), e]
theorem iter_end {wr : World} {k : Nat} {s : Bs} {pos : Nat} (hk : wr.heap[k]? = some (.stringIter (bytesOf s) pos)) (h : ¬ pos < s.length) (ty : TypeId) :
    (Instr.next (.pointer (some ⟨k, 0, none⟩)) true ty).run Tryz.prog wr = .ok (.tuple #[.bool false]) wr :=
  Lib.run_next_end_at wr k _ pos ty hk (by rw [bytesOf_size]; exact h)
theorem jblk' {W W' : World} {j : Nat} {o : Obj} (hb : Below W.heap.size W W') (h : W.heap[j]? = some o) : W'.heap[j]? = some o := (hb.block j (Array.getElem?_eq_some_iff.1 h).1).trans h
set_option maxHeartbeats 2000000 in
theorem k122 (c : Bs) (hc : ∀ y ∈ c, y.toNat < 128) (n : Nat) (hn : n < 128) (w : World) : Calls Tryz.prog 114 #[.string (bytesOf c), .int .i32 (n : Int)] w fun e w' => (∃ i : Int, e = .returned (.int .i64 i) ∧ (0 ≤ i ↔ ∃ y ∈ c, y.toNat = n)) ∧ Below w.heap.size w w' := by
  have HC := Lib.hid hc
  have c1 : ((n : Int) != 65533) = true := by simp; omega
  have c2 : ¬ (n : Int) < 0 := by omega
  have c3 : ¬ (1114111 : Int) < (n : Int) := by omega
  have c4 : ¬ (55296 : Int) ≤ (n : Int) := by omega
  clear hc
  go_enter Tryz.func114, Tryz.ntmps114
  go_wp2
  go_loopg [] c.length (fun gf wx => ∃ pos : Nat, pos + gf = c.length ∧ wx.heap[w.heap.size]? = some (.stringIter (bytesOf c) pos) ∧ Below w.heap.size w wx ∧ ∀ i (h : i < c.length), i < pos → (c[i]'h).toNat ≠ n)
  case atStart => exact ⟨0, by omega, World.iter_heap w _ 0, (Below.refl _ w).alloc (Nat.le_refl _) _, fun i h h' => by omega⟩
  case round =>
    obtain ⟨pos, hpg, hit, hbw, hleft⟩ := hrel
    have HL := Lib.hid hleft
    clear hleft
    by_cases hps : pos < c.length
    · obtain ⟨g', rfl⟩ : ∃ g', gk = g' + 1 := ⟨gk - 1, by omega⟩
      have hnx := iter_next hit hps (HC.out _ (List.getElem_mem hps))
      have hit2 := Lib.iterAt_heap wr w.heap.size _ pos (pos + 1) hit
      have hbw2 := Lib.below_iterAt hbw (k := w.heap.size) (Nat.le_refl _) (bytesOf c) (pos + 1)
      obtain ⟨W, hWd⟩ : ∃ W, wr.iterAt w.heap.size (bytesOf c) (pos + 1) = W := ⟨_, rfl⟩
      rw [hWd] at hnx hit2 hbw2
      have HY := Lib.hid (List.getElem_mem hps)
      obtain ⟨y, hy⟩ : ∃ y, c[pos]'hps = y := ⟨_, rfl⟩
      have HYE := Lib.hid hy
      rw [hy] at hnx HY
      have HB := Lib.hid (And.intro hit2 hbw2)
      clear hy hWd hbw hit hit2 hbw2
      by_cases he : y.toNat = n
      · have c5 : ((y.toNat : Int) == (n : Int)) = true := by simp; omega
        have HE := Lib.hid he
        clear he
        go_wp2
        go_ret
        exact ⟨⟨_, rfl, ⟨fun _ => ⟨y, HY.out, HE.out⟩, fun _ => by omega⟩⟩, HB.out.2⟩
      · have c5 : ((y.toNat : Int) == (n : Int)) = false := by simp; omega
        have HE := Lib.hid he
        clear he
        go_wp2
        go_roundg g'
        case measure => omega
        case rel =>
          refine ⟨pos + 1, by omega, HB.out.1, HB.out.2, fun i h h' => ?_⟩
          by_cases hi : i = pos
          · subst hi; rw [HYE.out]; exact HE.out
          · exact HL.out i h (by omega)
    · have hnx := iter_end hit hps
      have HB := Lib.hid hbw
      clear hbw
      go_wp2
      go_ret
      refine ⟨⟨_, rfl, ⟨fun h => by omega, fun ⟨y, h1, h2⟩ => ?_⟩⟩, HB.out⟩
      obtain ⟨i, hi, rfl⟩ := List.getElem_of_mem h1
      exact absurd h2 (HL.out i hi (by omega))
theorem k110 (c : Bs) (hc : ∀ y ∈ c, y.toNat < 128) (n : Nat) (hn : n < 128) (w : World) : Calls Tryz.prog 101 #[.string (bytesOf c), .int .i32 (n : Int)] w fun e w' => e = .returned (.bool (c.any fun y => y.toNat == n)) ∧ Below w.heap.size w w' := by
  have H := Lib.hid (k122 c hc n hn w)
  clear hc hn
  go_enter Tryz.func101, Tryz.ntmps101
  go_wp2_with (go_at_call 114; refine H.out.mono ?_; rintro e w1 ⟨⟨i, rfl, hi⟩, hb⟩; have HB := Lib.hid (And.intro hi hb); clear hi hb)
  go_ret
  refine ⟨?_, HB.out.2⟩
  have h := HB.out.1
  have e : (c.any fun y => y.toNat == n) = decide (0 ≤ i) := by
    rw [Bool.eq_iff_iff]
    simp [h]
  rw [e]
  rfl
theorem k109 (c : Bs) (hc : ∀ y ∈ c, y.toNat < 128) (n : Nat) (hn : n < 128) (B : Nat) (w : World) (h0 : w.cell? ⟨B, 0, none⟩ = some (.string (bytesOf c))) : Calls Tryz.prog 100 #[.int .i32 (n : Int), .pointer (some ⟨B, 0, none⟩)] w fun e w' => e = .returned (.bool (!(c.any fun y => y.toNat == n))) ∧ Below w.heap.size w w' := by
  have H := Lib.hid (fun w => k110 c hc n hn w)
  generalize (c.any fun y => y.toNat == n) = r at *
  clear hc hn
  go_enter Tryz.func100, Tryz.ntmps100
  go_wp2_with (go_at_call 101; refine (H.out _).mono ?_; rintro e w1 ⟨rfl, hb⟩; have HB := Lib.hid hb; clear hb)
  go_ret
  exact ⟨rfl, HB.out⟩
set_option maxHeartbeats 2000000 in
theorem k121 (c s : Bs) (hc : ∀ y ∈ c, y.toNat < 128) (hs : ∀ y ∈ s, y.toNat < 128) (B : Nat) (w : World) (h0 : w.cell? ⟨B, 0, none⟩ = some (.string (bytesOf c))) :
    Calls Tryz.prog 113 #[.string (bytesOf s), .func (.func 100) #[] #[.pointer (some ⟨B, 0, none⟩)], .bool true] w fun e w' => (∃ i : Int, e = .returned (.int .i64 i) ∧ (i = -1 ↔ ∀ y ∈ s, (c.any fun z => z.toNat == y.toNat) = true)) ∧ Below w.heap.size w w' := by
  have HC := Lib.hid (And.intro hc hs)
  have HB0 := Lib.hid (And.intro h0 (World.block_lt_of_cell? w _ h0))
  clear hc hs h0
  go_enter Tryz.func113, Tryz.ntmps113
  go_wp2
  go_loopg [] s.length (fun gf wx => ∃ pos : Nat, pos + gf = s.length ∧ wx.heap[w.heap.size]? = some (.stringIter (bytesOf s) pos) ∧ Below w.heap.size w wx ∧ ∀ i (h : i < s.length), i < pos → (c.any fun z => z.toNat == (s[i]'h).toNat) = true)
  case atStart => exact ⟨0, by omega, World.iter_heap w _ 0, (Below.refl _ w).alloc (Nat.le_refl _) _, fun i h h' => by omega⟩
  case round =>
    obtain ⟨pos, hpg, hit, hbw, hleft⟩ := hrel
    have HL := Lib.hid hleft
    clear hleft
    by_cases hps : pos < s.length
    · obtain ⟨g', rfl⟩ : ∃ g', gk = g' + 1 := ⟨gk - 1, by omega⟩
      have hnx := iter_next hit hps (HC.out.2 _ (List.getElem_mem hps))
      have hit2 := Lib.iterAt_heap wr w.heap.size _ pos (pos + 1) hit
      have hbw2 := Lib.below_iterAt hbw (k := w.heap.size) (Nat.le_refl _) (bytesOf s) (pos + 1)
      obtain ⟨W, hWd⟩ : ∃ W, wr.iterAt w.heap.size (bytesOf s) (pos + 1) = W := ⟨_, rfl⟩
      rw [hWd] at hnx hit2 hbw2
      have HY := Lib.hid (List.getElem_mem hps)
      obtain ⟨y, hy⟩ : ∃ y, s[pos]'hps = y := ⟨_, rfl⟩
      have HYE := Lib.hid hy
      rw [hy] at hnx HY
      have HB := Lib.hid (And.intro hit2 hbw2)
      have H := Lib.hid (k109 c HC.out.1 y.toNat (HC.out.2 y HY.out) B W ((hbw2.cell (p := ⟨B, 0, none⟩) HB0.out.2).trans HB0.out.1))
      obtain ⟨r, hr⟩ : ∃ r, (c.any fun z => z.toNat == y.toNat) = r := ⟨_, rfl⟩
      rw [hr] at H
      have HR := Lib.hid hr
      clear hr hy hWd hbw hit hit2 hbw2
      cases r
      · go_wp2_with (refine H.out.mono ?_; rintro e w2 ⟨rfl, hb⟩; have HW := Lib.hid hb; clear hb)
        go_ret
        refine ⟨⟨_, rfl, ⟨fun h => by omega, fun h => ?_⟩⟩, HB.out.2.trans (HW.out.mono HB.out.2.size)⟩
        have := h y HY.out
        rw [HR.out] at this; cases this
      · go_wp2_with (refine H.out.mono ?_; rintro e w2 ⟨rfl, hb⟩; have HW := Lib.hid hb; clear hb)
        go_roundg g'
        case measure => omega
        case rel =>
          refine ⟨pos + 1, by omega, jblk' HW.out HB.out.1, HB.out.2.trans (HW.out.mono HB.out.2.size), fun i h h' => ?_⟩
          by_cases hi : i = pos
          · subst hi; rw [HYE.out]; exact HR.out
          · exact HL.out i h (by omega)
    · have hnx := iter_end hit hps
      have HB := Lib.hid hbw
      clear hbw
      go_wp2
      go_ret
      refine ⟨⟨_, rfl, ⟨fun _ y hy => ?_, fun _ => rfl⟩⟩, HB.out⟩
      obtain ⟨i, hi, rfl⟩ := List.getElem_of_mem hy
      exact HL.out i hi (by omega)
theorem k92 (c s : Bs) (hc : ∀ y ∈ c, y.toNat < 128) (hs : ∀ y ∈ s, y.toNat < 128) (w : World) :
    Calls Tryz.prog 79 #[.string (bytesOf s), .string (bytesOf c)] w fun e w' => e = .returned (.bool (s.all fun y => c.any fun z => z.toNat == y.toNat)) ∧ Below w.heap.size w w' := by
  have hal := (Below.refl _ w).alloc (Nat.le_refl _) (.cells #[.string (bytesOf c)] 9)
  have H := Lib.hid (k121 c s hc hs w.heap.size (w.alloc (.cells #[.string (bytesOf c)] 9)) (cell_of_row _ _ 0 _ _ _ (heap_alloc_new w _)))
  have HA := Lib.hid hal
  clear hc hs hal
  go_enter Tryz.func79, Tryz.ntmps79
  go_wp2_with (first
    | (go_at_call 99; go_in)
    | (go_at_call 113; refine H.out.mono ?_; rintro e w1 ⟨⟨i, rfl, hi⟩, hb⟩; have HB := Lib.hid (And.intro hi hb); clear hi hb)
    | go_in)
  go_ret
  refine ⟨?_, HA.out.trans (HB.out.2.mono HA.out.size)⟩
  have h := HB.out.1
  have e : (s.all fun y => c.any fun z => z.toNat == y.toNat) = (i == -1) := by
    rw [Bool.eq_iff_iff]
    simp [h]
  rw [e]
  rfl
end Go.Proofs.YtnamjojceadgdaaGreatDoor.Sv
end
