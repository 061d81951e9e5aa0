/- a part of the proof: FnCronListNext: for every six words, kind of field, part and instant the law function returns true and leaves its arguments as they were. No condition is added: the statement is the given one, the tied card. -/
import Derived.Test.YtjmgebhjkbcpcaaGreatDoorNB
import Derived.Test.YtjmgebhjkbcpcaaGreatDoorNC
section
namespace Go.Proofs.YtjmgebhjkbcpcaaGreatDoor.PCronParse
open Go.RowKit Go.Proofs.YtjmgebhjkbcpcaaGreatDoorW.PrintWords Go.Proofs.YtjmgebhjkbcpcaaGreatDoorW.PrintLast Go.Proofs.YtjmgebhjkbcpcaaGreatDoorW.PrintMore
attribute [local go_sem] max2_int min2_int max_two min_two max_three min_three max_four min_four   -- for this text's walks alone
set_option linter.unusedVariables false
set_option linter.unusedSimpArgs false


/-! ### spec_cronEnds: function 95 -/
def spec_cronEnds.j0 : Nat → List ByteArray → Bool → Int → Int → Int → Option (Int × Int × Bool × Bool × Int)
  | 0, _, _, _, _, _ => none
  | k + 1, x9, x23, x143000, x143001, x143002 => if x23 = true then (if (x9.length : Int) > 1 then (some (x143000, x143001, true, ((x9.length : Int) == 1), 2)) else (if 0 < (x9.length : Int) then (if (rdOf ByteArray.empty x9 0).toList = ([63] : List UInt8) then (if x143002 = 3 then (some (x143000, x143001, true, ((x9.length : Int) == 1), 1)) else (if x143002 = 5 then (some (x143000, x143001, true, ((x9.length : Int) == 1), 1)) else (some (x143000, x143001, true, ((x9.length : Int) == 1), 2)))) else (some (x143000, x143001, true, ((x9.length : Int) == 1), 1))) else (none))) else (if 0 < (x9.length : Int) then ((spec_CronValue.f k x143002 (rdOf ByteArray.empty x9 0)).bind fun bt150 => (if (x9.length : Int) = 1 then (some (bt150.1, bt150.1, false, true, bt150.2)) else (if (x9.length : Int) = 2 then (if 1 < (x9.length : Int) then ((spec_CronValue.f k x143002 (rdOf ByteArray.empty x9 1)).bind fun bt153 => ((spec_worse.f bt150.2 bt153.2).bind fun t155 => (some (bt150.1, bt153.1, false, false, t155)))) else (none)) else (some (0, 0, false, false, 0))))) else (none))
def spec_cronEnds.f (k : Nat) (a0_0 : Int) (a0_1 : Int) (a0_2 : Int) (a1 : ByteArray) : Option (Int × Int × Bool × Bool × Int) := (spec_cronPieces.f k a1 45).bind fun t143 => (if 0 < (t143.length : Int) then (if (rdOf ByteArray.empty t143 0).toList = ([42] : List UInt8) then (spec_cronEnds.j0 k t143 true a0_0 a0_1 a0_2) else (spec_cronEnds.j0 k t143 ((rdOf ByteArray.empty t143 0).toList == ([63] : List UInt8)) a0_0 a0_1 a0_2)) else (none))
def spec_cronEnds.T6 : Bool × List (List Nat × List Nat) := (true, [([], []), ([0], [0]), ([], []), ([2], [2]), ([], []), ([4], [4]), ([5], [5]), ([], []), ([1, 0, 1], [1]), ([3, 8, 0, 1, 2, 3, 8], [3]), ([9, 0, 1, 2, 3, 8, 9], []), ([6, 10, 0, 1, 2, 3, 4, 5, 6, 8, 9, 10], [6]), ([7, 11, 0, 1, 2, 3, 4, 5, 6, 7, 8, 9, 10, 11], [7])])
def spec_cronEnds.B6 : List Nat := [0, 1, 0, 4, 0, 16, 48, 0, 3, 271, 783, 1919, 4095]
theorem spec_cronEnds.tab6 : rtab .any (opsOf Tryz.f95 6) = spec_cronEnds.T6 := by kernel_rfl
theorem spec_cronEnds.bits6 : waitsOk spec_cronEnds.T6.2 spec_cronEnds.B6 = true := by kernel_rfl
def spec_cronEnds.T7 : Bool × List (List Nat × List Nat) := (true, [([], []), ([0], [0]), ([], []), ([2], [2]), ([3], [3]), ([1, 4], [1, 4]), ([5], [5]), ([6], [6]), ([6], [6]), ([7, 5, 0, 1, 2, 3, 4, 5, 6, 7], [7]), ([8, 9, 0, 1, 2, 3, 4, 5, 6, 7, 8, 9], [8])])
def spec_cronEnds.B7 : List Nat := [0, 1, 0, 4, 12, 31, 63, 127, 127, 255, 1023]
theorem spec_cronEnds.tab7 : rtab .any (opsOf Tryz.f95 7) = spec_cronEnds.T7 := by kernel_rfl
theorem spec_cronEnds.bits7 : waitsOk spec_cronEnds.T7.2 spec_cronEnds.B7 = true := by kernel_rfl
def spec_cronEnds.T12 : Bool × List (List Nat × List Nat) := (true, [([], []), ([0], [0]), ([], []), ([2], [2]), ([3], [3]), ([1, 4], [1, 4]), ([5], [5]), ([6], [6]), ([6], [6]), ([7, 5, 0, 1, 2, 3, 4, 5, 6, 7], [7]), ([8, 9, 0, 1, 2, 3, 4, 5, 6, 7, 8, 9], [8])])
def spec_cronEnds.B12 : List Nat := [0, 1, 0, 4, 12, 31, 63, 127, 127, 255, 1023]
theorem spec_cronEnds.tab12 : rtab .any (opsOf Tryz.f95 12) = spec_cronEnds.T12 := by kernel_rfl
theorem spec_cronEnds.bits12 : waitsOk spec_cronEnds.T12.2 spec_cronEnds.B12 = true := by kernel_rfl
set_option maxHeartbeats 8000000 in
set_option maxRecDepth 100000 in
theorem spec_cronEnds.calls (k : Nat) (a0_0 : Int) (a0_1 : Int) (a0_2 : Int) (a1 : ByteArray) (r1 : Int) (r2 : Int) (r3 : Bool) (r4 : Bool) (r5 : Int) (w : World) (h : spec_cronEnds.f k a0_0 a0_1 a0_2 a1 = some (r1, r2, r3, r4, r5)) :
    Calls Tryz.prog 95 #[.agg #[.int .i64 a0_0, .int .i64 a0_1, .int .i64 a0_2], .string a1] w fun e w' => e = .returned (.tuple #[.int .i64 r1, .int .i64 r2, .bool r3, .bool r4, .int .i64 r5]) ∧ Below w.heap.size w w' := by
  have hu78 := Tryz.underlying78
  have HB := Aside0.mk (Below.refl w.heap.size w)
  have H : ((spec_cronPieces.f k a1 45).bind fun t143 => (if 0 < (t143.length : Int) then (if (rdOf ByteArray.empty t143 0).toList = ([42] : List UInt8) then (spec_cronEnds.j0 k t143 true a0_0 a0_1 a0_2) else (spec_cronEnds.j0 k t143 ((rdOf ByteArray.empty t143 0).toList == ([63] : List UInt8)) a0_0 a0_1 a0_2)) else (none))) = some (r1, r2, r3, r4, r5) := h
  clear h
  replace H := Option.bind_eq_some_iff.mp H
  obtain ⟨t143, A30, H⟩ := H
  replace H : (if 0 < (t143.length : Int) then (if (rdOf ByteArray.empty t143 0).toList = ([42] : List UInt8) then (spec_cronEnds.j0 k t143 true a0_0 a0_1 a0_2) else (spec_cronEnds.j0 k t143 ((rdOf ByteArray.empty t143 0).toList == ([63] : List UInt8)) a0_0 a0_1 a0_2)) else (none)) = some (r1, r2, r3, r4, r5) := H
  have A3 := Aside0.mk A30
  clear A30
  have HC4 := Aside0.mk H
  clear H
  go_enter Tryz.func95, Tryz.ntmps95
  go_upto_region 2 with (first | ((with_reducible refine gate_dst (N := 2) rfl ?_); refine box_event ?hg (N := 2) ?hd (cs := #[.int .i64 a0_0, .int .i64 a0_1, .int .i64 a0_2]) (t := 78) ?hr ?_; (case hd => rfl); (case hg => rfl); (case hr => first | (go_simp; done) | (go_simp; rfl)); intro gb142 hg w5 hbox hb; have n0_ := Aside0.mk (below_step (by repeat (first | (with_reducible first | exact HB.out | apply below_alloc | apply pw_below_drewN | apply below_drew1) | exact HB.out)) hb); have n1_ := Aside0.mk (hbox); have n2_ := Aside0.mk ((by rw [hg]; exact (below_size (by repeat (first | (with_reducible first | exact HB.out | apply below_alloc | apply pw_below_drewN | apply below_drew1) | exact HB.out))) : w.heap.size ≤ gb142)); have n3_ := Aside0.mk ((by rw [hg]; exact (below_size (by repeat (first | (with_reducible first | exact HB.out | apply below_alloc | apply pw_below_drewN | apply below_drew1) | exact HB.out))) : w.heap.size ≤ gb142)); clear HB; have HB := n0_; have BK142 := n1_; have GW142 := n2_; have GE142 := n3_; clear n0_ n1_ n2_ n3_; clear hb hbox hg) | ((with_reducible refine gate_callee (f := 59) rfl ?_); refine goesL_ (some 13) rfl rfl Tryz.func59 (by kernel_rfl) rfl #[.string a1, .int .u8 45] rfl (by (try simp only [List.map_toArray, List.map_cons, List.map_nil]); first | done | rfl | (simp only [List.length_drop, List.length_take]; rfl)) ?_; (with_reducible refine (spec_cronPieces.calls k a1 45 t143 _ A3.out).mono ?_); rintro e w6 ⟨v144, rfl, ho0, hb⟩; refine ⟨_, rfl, ?_⟩; have n0_ := Aside0.mk (Kd.R_lower ho0 (below_size (by repeat (first | (with_reducible first | exact HB.out | apply below_alloc | apply pw_below_drewN | apply below_drew1 | refine below_set ?_ GE142.out) | exact HB.out)))); have n1_ := Aside0.mk (blk_below (g := gb142) (o := .cells #[.int .i64 a0_0, .int .i64 a0_1, .int .i64 a0_2] 78 (0, 0)) (by (with_reducible repeat (first | refine blk_drewN ?_ _ | refine blk_drew ?_ | refine blk_alloc ?_ _)); exact BK142.out) hb); have n2_ := Aside0.mk (below_step (by repeat (first | (with_reducible first | exact HB.out | apply below_alloc | apply pw_below_drewN | apply below_drew1 | refine below_set ?_ GE142.out) | exact HB.out)) hb); clear BK142; clear HB; have HO145 := n0_; have BK142 := n1_; have HB := n2_; clear n0_ n1_ n2_; (try clear hb); (try clear hb2); (try clear hk); (try clear hi); (try clear ho0)))
  (try simp only [Act.put, List.setIfInBounds_toArray, List.set_cons_zero, List.set_cons_succ])
  go_cut [23] (fun v23 wc => ∃ (kq : Nat) (x23_3 : Bool), v23 = .bool x23_3 ∧ Aside0 (spec_cronEnds.j0 kq t143 x23_3 a0_0 a0_1 a0_2 = some (r1, r2, r3, r4, r5)) ∧ Aside0 (kq ≤ k) ∧ Aside0 (Kd.R Kd.string 9 wc w.heap.size (fun _ => True) v144 t143) ∧ Aside0 (wc.heap[gb142]? = some (.cells #[.int .i64 a0_0, .int .i64 a0_1, .int .i64 a0_2] 78 (0, 0))) ∧ Aside0 (Below w.heap.size w wc))
  case first =>
    have H := HC4.out
    clear HC4
    by_cases c7 : 0 < (t143.length : Int)
    · rw [if_pos c7] at H
      have c7b0 : decide (0 < (t143.length : Int)) = true := decide_eq_true c7
      have c7b1 : decide (0 < t143.length) = true := decide_eq_true (by omega)
      clear c7
      (first | rw [c7b0] | (simp only [i64_w, i32_w]; rw [c7b0]) | skip)
      by_cases c8 : (rdOf ByteArray.empty t143 0).toList = ([42] : List UInt8)
      · rw [if_pos c8] at H
        have c8b0 : ((rdOf ByteArray.empty t143 0).toList == ([42] : List UInt8)) = true := beq_iff_eq.mpr c8
        have c8b1 : ((rdOf ByteArray.empty t143 0).toList != ([42] : List UInt8)) = false := bne_eq_false_iff_eq.mpr c8
        clear c8
        have H' := Aside0.mk H
        clear H
        obtain ⟨Ao9, co9, eo9⟩ := Kd.R_slice HO145.out
        subst eo9
        have p146 : 0 ≤ (0 : Int) := (by omega)
        have q146 : 0 < (t143.length : Int) := of_decide_eq_true (by first | (with_reducible assumption) | assumption)
        obtain ⟨ad146, e146, hx146_0⟩ := Kd.at_string (Kd.R_reads' HO145.out).2.2 0 p146 q146
        cases e146
        have qi146 : (0 < t143.length) = True := eq_true (by omega)
        (try rw [show ((0 : Int)).toNat = 0 from rfl] at hx146_0)
        (try rw [Addr.add_zero'] at hx146_0)
        replace p146 := eq_true p146
        replace q146 := eq_true q146
        go_wp2
        go_meet
        case rel => exact ⟨_, (true), (by first | rfl | (simp; done) | (simp [*]; done)), H', ⟨by first | omega | exact Nat.le_refl _⟩, ⟨by (with_reducible repeat (first | apply Kd.R_alloc | apply Kd.R_drewN | apply Kd.R_drew)); exact HO145.out⟩, ⟨by (with_reducible repeat (first | refine blk_drewN ?_ _ | refine blk_drew ?_ | refine blk_alloc ?_ _)); exact BK142.out⟩, ⟨by repeat (first | (with_reducible first | exact HB.out | apply below_alloc | apply pw_below_drewN | apply below_drew1 | refine below_set ?_ GE142.out) | exact HB.out)⟩⟩
      · rw [if_neg c8] at H
        have c8b0 : ((rdOf ByteArray.empty t143 0).toList == ([42] : List UInt8)) = false := beq_eq_false_iff_ne.mpr c8
        have c8b1 : ((rdOf ByteArray.empty t143 0).toList != ([42] : List UInt8)) = true := bne_iff_ne.mpr c8
        have H' := Aside0.mk H
        clear H
        obtain ⟨Ao10, co10, eo10⟩ := Kd.R_slice HO145.out
        subst eo10
        have p146 : 0 ≤ (0 : Int) := (by omega)
        have q146 : 0 < (t143.length : Int) := of_decide_eq_true (by first | (with_reducible assumption) | assumption)
        obtain ⟨ad146, e146, hx146_0⟩ := Kd.at_string (Kd.R_reads' HO145.out).2.2 0 p146 q146
        cases e146
        have qi146 : (0 < t143.length) = True := eq_true (by omega)
        (try rw [show ((0 : Int)).toNat = 0 from rfl] at hx146_0)
        (try rw [Addr.add_zero'] at hx146_0)
        replace p146 := eq_true p146
        replace q146 := eq_true q146
        have p147 : 0 ≤ (0 : Int) := (by omega)
        have q147 : 0 < (t143.length : Int) := of_decide_eq_true (by first | (with_reducible assumption) | assumption)
        obtain ⟨ad147, e147, hx147_0⟩ := Kd.at_string (Kd.R_reads' HO145.out).2.2 0 p147 q147
        obtain rfl : ad146 = ad147 := (by injection e147)
        have qi147 : (0 < t143.length) = True := eq_true (by omega)
        (try rw [show ((0 : Int)).toNat = 0 from rfl] at hx147_0)
        (try rw [Addr.add_zero'] at hx147_0)
        replace p147 := eq_true p147
        replace q147 := eq_true q147
        go_wp2
        go_meet
        case rel => exact ⟨_, (((rdOf ByteArray.empty t143 0).toList == ([63] : List UInt8))), (by first | rfl | (simp; done) | (simp [*]; done)), H', ⟨by first | omega | exact Nat.le_refl _⟩, ⟨by (with_reducible repeat (first | apply Kd.R_alloc | apply Kd.R_drewN | apply Kd.R_drew)); exact HO145.out⟩, ⟨by (with_reducible repeat (first | refine blk_drewN ?_ _ | refine blk_drew ?_ | refine blk_alloc ?_ _)); exact BK142.out⟩, ⟨by repeat (first | (with_reducible first | exact HB.out | apply below_alloc | apply pw_below_drewN | apply below_drew1 | refine below_set ?_ GE142.out) | exact HB.out)⟩⟩
    · rw [if_neg c7] at H
      exact absurd H (by simp)
  case rest =>
    clear HC4
    try clear p1
    try clear q1
    try clear hx1
    try clear qi1
    try clear p2
    try clear c5
    try clear c7
    try clear c7b0
    try clear c7b1
    try clear c8
    try clear c8b0
    try clear c8b1
    try clear c9
    try clear hx146_0
    try clear hx147_0
    try clear p146
    try clear p147
    try clear q146
    try clear q147
    obtain ⟨kq, x23_3, rfl, HA, HJ3, HO_9, BK142, HB⟩ := hcut
    cases kq with
    | zero => exact absurd HA.out (by simp [spec_cronEnds.j0])
    | succ kj3 =>
      have H := HA.out
      clear HA
      simp only [spec_cronEnds.j0] at H
      by_cases c11 : x23_3 = true
      · subst c11
        have H1 : (if (t143.length : Int) > 1 then (some (a0_0, a0_1, true, ((t143.length : Int) == 1), 2)) else (if 0 < (t143.length : Int) then (if (rdOf ByteArray.empty t143 0).toList = ([63] : List UInt8) then (if a0_2 = 3 then (some (a0_0, a0_1, true, ((t143.length : Int) == 1), 1)) else (if a0_2 = 5 then (some (a0_0, a0_1, true, ((t143.length : Int) == 1), 1)) else (some (a0_0, a0_1, true, ((t143.length : Int) == 1), 2)))) else (some (a0_0, a0_1, true, ((t143.length : Int) == 1), 1))) else (none))) = some (r1, r2, r3, r4, r5) := by rw [if_pos rfl] at H; exact H
        clear H
        have H := H1
        clear H1
        by_cases c12 : (t143.length : Int) > 1
        · rw [if_pos c12] at H
          have c12b0 : decide (1 < (t143.length : Int)) = true := decide_eq_true c12
          have c12b1 : decide (1 < t143.length) = true := decide_eq_true (by omega)
          clear c12
          simp only [Option.some.injEq, Prod.mk.injEq] at H
          obtain ⟨rfl, rfl, rfl, rfl, rfl⟩ := H
          obtain ⟨Ao13, co13, eo13⟩ := Kd.R_slice HO_9.out
          subst eo13
          try go_wp2
          have n0_ := Aside0.mk (Kd.R_drew HO_9.out)
          have n1_ := Aside0.mk (blk_drew BK142.out)
          have n2_ := Aside0.mk (below_drew1 HB.out)
          clear HO_9
          clear BK142
          clear HB
          have HO_9 := n0_
          have BK142 := n1_
          have HB := n2_
          clear n0_ n1_ n2_
          refine start_ (n := 13) (S := fun w' => w'.cell? ⟨gb142, 0, none⟩ = some (.int .i64 a0_0) ∧ w'.cell? ⟨gb142, 1, none⟩ = some (.int .i64 a0_1) ∧ w'.cell? ⟨gb142, 2, none⟩ = some (.int .i64 a0_2)) (ds := []) #[false, false, false, false, false, false, false, false, false, false, false, false, false] (by kernel_rfl) rfl rfl ⟨(blk_cell BK142.out 0).trans rfl, (blk_cell BK142.out 1).trans rfl, (blk_cell BK142.out 2).trans rfl⟩ (fun hHeld => ?_); refine with_tabW spec_cronEnds.tab6 spec_cronEnds.bits6 (fun HT_ HW_ => ?_)
          generalize wc.drew = w14 at HO_9 BK142 HB hHeld ⊢
          refine pure_ (i := 0) (N := some 43) (v := ?_) (a' := ?_) #[true, false, false, false, false, false, false, false, false, false, false, false, false] rfl rfl (any_of HT_.out (by kernel_rfl)) (fun _ _ _ h => h) (Or.inl ⟨by rfl, ?_⟩) ?_ ?_
          rotate_left
          · intro w'
            go_simp
            with_reducible rfl
          rotate_left
          · simp only [Act.put, List.setIfInBounds_toArray, List.set_cons_zero, List.set_cons_succ, i64_w, i32_w]
            rfl
          refine pure_ (i := 2) (N := some 45) (v := ?_) (a' := ?_) #[true, false, true, false, false, false, false, false, false, false, false, false, false] rfl rfl (any_of HT_.out (by kernel_rfl)) (fun _ _ _ h => h) (Or.inl ⟨by rfl, ?_⟩) ?_ ?_
          rotate_left
          · intro w'
            go_simp
            with_reducible rfl
          rotate_left
          · simp only [Act.put, List.setIfInBounds_toArray, List.set_cons_zero, List.set_cons_succ, i64_w, i32_w]
            rfl
          refine pure_ (i := 4) (N := some 47) (v := ?_) (a' := ?_) #[true, false, true, false, true, false, false, false, false, false, false, false, false] rfl rfl (any_of HT_.out (by kernel_rfl)) (fun _ _ _ h => h) (Or.inl ⟨by rfl, ?_⟩) ?_ ?_
          rotate_left
          · intro w'
            go_simp
            with_reducible rfl
          rotate_left
          · simp only [Act.put, List.setIfInBounds_toArray, List.set_cons_zero, List.set_cons_succ, i64_w, i32_w]
            rfl
          refine pure_ (i := 5) (N := some 48) (v := ?_) (a' := ?_) #[true, false, true, false, true, true, false, false, false, false, false, false, false] rfl rfl (any_of HT_.out (by kernel_rfl)) (fun _ _ _ h => h) (Or.inl ⟨by rfl, ?_⟩) ?_ ?_
          rotate_left
          · intro w'
            go_simp
            with_reducible rfl
          rotate_left
          · simp only [Act.put, List.setIfInBounds_toArray, List.set_cons_zero, List.set_cons_succ, i64_w, i32_w]
            rfl
          refine pure_ (i := 6) (N := some 49) (v := ?_) (a' := ?_) #[true, false, true, false, true, true, true, false, false, false, false, false, false] rfl rfl (any_of HT_.out (by kernel_rfl)) (fun _ _ _ h => h) (Or.inl ⟨by rfl, ?_⟩) ?_ ?_
          rotate_left
          · intro w'
            go_simp
            with_reducible rfl
          rotate_left
          · simp only [Act.put, List.setIfInBounds_toArray, List.set_cons_zero, List.set_cons_succ, i64_w, i32_w]
            rfl
          refine pure_ (i := 7) (N := some 50) (v := ?_) (a' := ?_) #[true, false, true, false, true, true, true, true, false, false, false, false, false] rfl rfl (any_of HT_.out (by kernel_rfl)) (fun _ _ _ h => h) (Or.inl ⟨by rfl, ?_⟩) ?_ ?_
          rotate_left
          · intro w'
            go_simp
            with_reducible rfl
          rotate_left
          · simp only [Act.put, List.setIfInBounds_toArray, List.set_cons_zero, List.set_cons_succ, i64_w, i32_w]
            rfl
          refine take_ (i := 1) (N := some 44) (v := ?_) (a' := ?_) #[true, true, true, false, true, true, true, true, false, false, false, false, false] rfl rfl (take_ofW HT_.out HW_.out (by kernel_rfl)) (fun _ _ _ h => h) (Or.inl ⟨by rfl, ?_⟩) hHeld ?_ ?_
          rotate_left
          · rintro w' ⟨s0, s1, s2⟩
            go_simp
            with_reducible rfl
          rotate_left
          · simp only [Act.put, List.setIfInBounds_toArray, List.set_cons_zero, List.set_cons_succ, i64_w, i32_w]
            rfl
          refine pure_ (i := 8) (N := some 4) (v := ?_) (a' := ?_) #[true, true, true, false, true, true, true, true, true, false, false, false, false] rfl rfl (any_of HT_.out (by kernel_rfl)) (fun _ _ _ h => h) (Or.inl ⟨by rfl, ?_⟩) ?_ ?_
          rotate_left
          · intro w'
            go_simp
            with_reducible rfl
          rotate_left
          · simp only [Act.put, List.setIfInBounds_toArray, List.set_cons_zero, List.set_cons_succ, i64_w, i32_w]
            rfl
          refine take_ (i := 3) (N := some 46) (v := ?_) (a' := ?_) #[true, true, true, true, true, true, true, true, true, false, false, false, false] rfl rfl (take_ofW HT_.out HW_.out (by kernel_rfl)) (fun _ _ _ h => h) (Or.inl ⟨by rfl, ?_⟩) hHeld ?_ ?_
          rotate_left
          · rintro w' ⟨s0, s1, s2⟩
            go_simp
            with_reducible rfl
          rotate_left
          · simp only [Act.put, List.setIfInBounds_toArray, List.set_cons_zero, List.set_cons_succ, i64_w, i32_w]
            rfl
          refine pure_ (i := 9) (N := some 5) (v := ?_) (a' := ?_) #[true, true, true, true, true, true, true, true, true, true, false, false, false] rfl rfl (any_of HT_.out (by kernel_rfl)) (fun _ _ _ h => h) (Or.inl ⟨by rfl, ?_⟩) ?_ ?_
          rotate_left
          · intro w'
            go_simp
            with_reducible rfl
          rotate_left
          · simp only [Act.put, List.setIfInBounds_toArray, List.set_cons_zero, List.set_cons_succ, i64_w, i32_w]
            rfl
          refine pure_ (i := 10) (N := some 6) (v := ?_) (a' := ?_) #[true, true, true, true, true, true, true, true, true, true, true, false, false] rfl rfl (any_of HT_.out (by kernel_rfl)) (fun _ _ _ h => h) (Or.inl ⟨by rfl, ?_⟩) ?_ ?_
          rotate_left
          · intro w'
            go_simp
            with_reducible rfl
          rotate_left
          · simp only [Act.put, List.setIfInBounds_toArray, List.set_cons_zero, List.set_cons_succ, i64_w, i32_w]
            rfl
          refine pure_ (i := 11) (N := some 7) (v := ?_) (a' := ?_) #[true, true, true, true, true, true, true, true, true, true, true, true, false] rfl rfl (any_of HT_.out (by kernel_rfl)) (fun _ _ _ h => h) (Or.inl ⟨by rfl, ?_⟩) ?_ ?_
          rotate_left
          · intro w'
            go_simp
            with_reducible rfl
          rotate_left
          · simp only [Act.put, List.setIfInBounds_toArray, List.set_cons_zero, List.set_cons_succ, i64_w, i32_w]
            rfl
          refine pure_ (i := 12) (N := some 8) (v := ?_) (a' := ?_) #[true, true, true, true, true, true, true, true, true, true, true, true, true] rfl rfl (any_of HT_.out (by kernel_rfl)) (fun _ _ _ h => h) (Or.inl ⟨by rfl, ?_⟩) ?_ ?_
          rotate_left
          · intro w'
            go_simp
            with_reducible rfl
          rotate_left
          · simp only [Act.put, List.setIfInBounds_toArray, List.set_cons_zero, List.set_cons_succ, i64_w, i32_w]
            rfl
          refine done_ (done_of HT_.out (by kernel_rfl)) ?_
          try go_wp2
          refine bodyPost_ret (results_list (rs := [.tmp 4, .tmp 5, .tmp 6, .tmp 7, .tmp 8]) rfl (by simp) (.tmp (.tmp (.tmp (.tmp (.tmp .nil)))))) rfl ?_
          exact ⟨by first | rfl | (simp [errW_none, errW_some] <;> rfl) | (simp [*, errW_none, errW_some] <;> rfl), by repeat (first | (with_reducible first | exact HB.out | apply below_alloc | apply pw_below_drewN | apply below_drew1 | refine below_set ?_ GE142.out) | exact HB.out)⟩
        · rw [if_neg c12] at H
          have c12b0 : decide (1 < (t143.length : Int)) = false := decide_eq_false c12
          have c12b1 : decide (1 < t143.length) = false := decide_eq_false (by omega)
          clear c12
          by_cases c15 : 0 < (t143.length : Int)
          · rw [if_pos c15] at H
            have c15b0 : decide (0 < (t143.length : Int)) = true := decide_eq_true c15
            have c15b1 : decide (0 < t143.length) = true := decide_eq_true (by omega)
            clear c15
            by_cases c16 : (rdOf ByteArray.empty t143 0).toList = ([63] : List UInt8)
            · rw [if_pos c16] at H
              have c16b0 : ((rdOf ByteArray.empty t143 0).toList == ([63] : List UInt8)) = true := beq_iff_eq.mpr c16
              have c16b1 : ((rdOf ByteArray.empty t143 0).toList != ([63] : List UInt8)) = false := bne_eq_false_iff_eq.mpr c16
              clear c16
              by_cases c17 : a0_2 = 3
              · rw [if_pos c17] at H
                have c17b0 : (a0_2 == 3) = true := beq_iff_eq.mpr c17
                have c17b1 : (a0_2 != 3) = false := bne_eq_false_iff_eq.mpr c17
                clear c17
                simp only [Option.some.injEq, Prod.mk.injEq] at H
                obtain ⟨rfl, rfl, rfl, rfl, rfl⟩ := H
                obtain ⟨Ao18, co18, eo18⟩ := Kd.R_slice HO_9.out
                subst eo18
                have p148 : 0 ≤ (0 : Int) := (by omega)
                have q148 : 0 < (t143.length : Int) := of_decide_eq_true (by first | (with_reducible assumption) | assumption)
                obtain ⟨ad148, e148, hx148_0⟩ := Kd.at_string (Kd.R_reads' HO_9.out).2.2 0 p148 q148
                cases e148
                have qi148 : (0 < t143.length) = True := eq_true (by omega)
                (try rw [show ((0 : Int)).toNat = 0 from rfl] at hx148_0)
                (try rw [Addr.add_zero'] at hx148_0)
                replace p148 := eq_true p148
                replace q148 := eq_true q148
                have hcz19_0 : wc.cell? ⟨gb142, 0, none⟩ = some (.int .i64 a0_0) := (blk_cell BK142.out 0).trans rfl
                have hcz19_1 : wc.cell? ⟨gb142, 1, none⟩ = some (.int .i64 a0_1) := (blk_cell BK142.out 1).trans rfl
                have hcz19_2 : wc.cell? ⟨gb142, 2, none⟩ = some (.int .i64 a0_2) := (blk_cell BK142.out 2).trans rfl
                have hfz19_0 := blk_frozen BK142.out 0
                have hfz19_1 := blk_frozen BK142.out 1
                have hfz19_2 := blk_frozen BK142.out 2
                try go_wp2
                have n0_ := Aside0.mk (Kd.R_drew HO_9.out)
                have n1_ := Aside0.mk (blk_drew BK142.out)
                have n2_ := Aside0.mk (below_drew1 HB.out)
                clear HO_9
                clear BK142
                clear HB
                have HO_9 := n0_
                have BK142 := n1_
                have HB := n2_
                clear n0_ n1_ n2_
                refine start_ (n := 13) (S := fun w' => w'.cell? ⟨gb142, 0, none⟩ = some (.int .i64 a0_0) ∧ w'.cell? ⟨gb142, 1, none⟩ = some (.int .i64 a0_1) ∧ w'.cell? ⟨gb142, 2, none⟩ = some (.int .i64 a0_2)) (ds := []) #[false, false, false, false, false, false, false, false, false, false, false, false, false] (by kernel_rfl) rfl rfl ⟨(blk_cell BK142.out 0).trans rfl, (blk_cell BK142.out 1).trans rfl, (blk_cell BK142.out 2).trans rfl⟩ (fun hHeld => ?_); refine with_tabW spec_cronEnds.tab6 spec_cronEnds.bits6 (fun HT_ HW_ => ?_)
                generalize wc.drew = w20 at HO_9 BK142 HB hHeld ⊢
                refine pure_ (i := 0) (N := some 43) (v := ?_) (a' := ?_) #[true, false, false, false, false, false, false, false, false, false, false, false, false] rfl rfl (any_of HT_.out (by kernel_rfl)) (fun _ _ _ h => h) (Or.inl ⟨by rfl, ?_⟩) ?_ ?_
                rotate_left
                · intro w'
                  go_simp
                  with_reducible rfl
                rotate_left
                · simp only [Act.put, List.setIfInBounds_toArray, List.set_cons_zero, List.set_cons_succ, i64_w, i32_w]
                  rfl
                refine pure_ (i := 2) (N := some 45) (v := ?_) (a' := ?_) #[true, false, true, false, false, false, false, false, false, false, false, false, false] rfl rfl (any_of HT_.out (by kernel_rfl)) (fun _ _ _ h => h) (Or.inl ⟨by rfl, ?_⟩) ?_ ?_
                rotate_left
                · intro w'
                  go_simp
                  with_reducible rfl
                rotate_left
                · simp only [Act.put, List.setIfInBounds_toArray, List.set_cons_zero, List.set_cons_succ, i64_w, i32_w]
                  rfl
                refine pure_ (i := 4) (N := some 47) (v := ?_) (a' := ?_) #[true, false, true, false, true, false, false, false, false, false, false, false, false] rfl rfl (any_of HT_.out (by kernel_rfl)) (fun _ _ _ h => h) (Or.inl ⟨by rfl, ?_⟩) ?_ ?_
                rotate_left
                · intro w'
                  go_simp
                  with_reducible rfl
                rotate_left
                · simp only [Act.put, List.setIfInBounds_toArray, List.set_cons_zero, List.set_cons_succ, i64_w, i32_w]
                  rfl
                refine pure_ (i := 5) (N := some 48) (v := ?_) (a' := ?_) #[true, false, true, false, true, true, false, false, false, false, false, false, false] rfl rfl (any_of HT_.out (by kernel_rfl)) (fun _ _ _ h => h) (Or.inl ⟨by rfl, ?_⟩) ?_ ?_
                rotate_left
                · intro w'
                  go_simp
                  with_reducible rfl
                rotate_left
                · simp only [Act.put, List.setIfInBounds_toArray, List.set_cons_zero, List.set_cons_succ, i64_w, i32_w]
                  rfl
                refine pure_ (i := 6) (N := some 49) (v := ?_) (a' := ?_) #[true, false, true, false, true, true, true, false, false, false, false, false, false] rfl rfl (any_of HT_.out (by kernel_rfl)) (fun _ _ _ h => h) (Or.inl ⟨by rfl, ?_⟩) ?_ ?_
                rotate_left
                · intro w'
                  go_simp
                  with_reducible rfl
                rotate_left
                · simp only [Act.put, List.setIfInBounds_toArray, List.set_cons_zero, List.set_cons_succ, i64_w, i32_w]
                  rfl
                refine pure_ (i := 7) (N := some 50) (v := ?_) (a' := ?_) #[true, false, true, false, true, true, true, true, false, false, false, false, false] rfl rfl (any_of HT_.out (by kernel_rfl)) (fun _ _ _ h => h) (Or.inl ⟨by rfl, ?_⟩) ?_ ?_
                rotate_left
                · intro w'
                  go_simp
                  with_reducible rfl
                rotate_left
                · simp only [Act.put, List.setIfInBounds_toArray, List.set_cons_zero, List.set_cons_succ, i64_w, i32_w]
                  rfl
                refine take_ (i := 1) (N := some 44) (v := ?_) (a' := ?_) #[true, true, true, false, true, true, true, true, false, false, false, false, false] rfl rfl (take_ofW HT_.out HW_.out (by kernel_rfl)) (fun _ _ _ h => h) (Or.inl ⟨by rfl, ?_⟩) hHeld ?_ ?_
                rotate_left
                · rintro w' ⟨s0, s1, s2⟩
                  go_simp
                  with_reducible rfl
                rotate_left
                · simp only [Act.put, List.setIfInBounds_toArray, List.set_cons_zero, List.set_cons_succ, i64_w, i32_w]
                  rfl
                refine pure_ (i := 8) (N := some 4) (v := ?_) (a' := ?_) #[true, true, true, false, true, true, true, true, true, false, false, false, false] rfl rfl (any_of HT_.out (by kernel_rfl)) (fun _ _ _ h => h) (Or.inl ⟨by rfl, ?_⟩) ?_ ?_
                rotate_left
                · intro w'
                  go_simp
                  with_reducible rfl
                rotate_left
                · simp only [Act.put, List.setIfInBounds_toArray, List.set_cons_zero, List.set_cons_succ, i64_w, i32_w]
                  rfl
                refine take_ (i := 3) (N := some 46) (v := ?_) (a' := ?_) #[true, true, true, true, true, true, true, true, true, false, false, false, false] rfl rfl (take_ofW HT_.out HW_.out (by kernel_rfl)) (fun _ _ _ h => h) (Or.inl ⟨by rfl, ?_⟩) hHeld ?_ ?_
                rotate_left
                · rintro w' ⟨s0, s1, s2⟩
                  go_simp
                  with_reducible rfl
                rotate_left
                · simp only [Act.put, List.setIfInBounds_toArray, List.set_cons_zero, List.set_cons_succ, i64_w, i32_w]
                  rfl
                refine pure_ (i := 9) (N := some 5) (v := ?_) (a' := ?_) #[true, true, true, true, true, true, true, true, true, true, false, false, false] rfl rfl (any_of HT_.out (by kernel_rfl)) (fun _ _ _ h => h) (Or.inl ⟨by rfl, ?_⟩) ?_ ?_
                rotate_left
                · intro w'
                  go_simp
                  with_reducible rfl
                rotate_left
                · simp only [Act.put, List.setIfInBounds_toArray, List.set_cons_zero, List.set_cons_succ, i64_w, i32_w]
                  rfl
                refine pure_ (i := 10) (N := some 6) (v := ?_) (a' := ?_) #[true, true, true, true, true, true, true, true, true, true, true, false, false] rfl rfl (any_of HT_.out (by kernel_rfl)) (fun _ _ _ h => h) (Or.inl ⟨by rfl, ?_⟩) ?_ ?_
                rotate_left
                · intro w'
                  go_simp
                  with_reducible rfl
                rotate_left
                · simp only [Act.put, List.setIfInBounds_toArray, List.set_cons_zero, List.set_cons_succ, i64_w, i32_w]
                  rfl
                refine pure_ (i := 11) (N := some 7) (v := ?_) (a' := ?_) #[true, true, true, true, true, true, true, true, true, true, true, true, false] rfl rfl (any_of HT_.out (by kernel_rfl)) (fun _ _ _ h => h) (Or.inl ⟨by rfl, ?_⟩) ?_ ?_
                rotate_left
                · intro w'
                  go_simp
                  with_reducible rfl
                rotate_left
                · simp only [Act.put, List.setIfInBounds_toArray, List.set_cons_zero, List.set_cons_succ, i64_w, i32_w]
                  rfl
                refine pure_ (i := 12) (N := some 8) (v := ?_) (a' := ?_) #[true, true, true, true, true, true, true, true, true, true, true, true, true] rfl rfl (any_of HT_.out (by kernel_rfl)) (fun _ _ _ h => h) (Or.inl ⟨by rfl, ?_⟩) ?_ ?_
                rotate_left
                · intro w'
                  go_simp
                  with_reducible rfl
                rotate_left
                · simp only [Act.put, List.setIfInBounds_toArray, List.set_cons_zero, List.set_cons_succ, i64_w, i32_w]
                  rfl
                refine done_ (done_of HT_.out (by kernel_rfl)) ?_
                try go_wp2
                refine bodyPost_ret (results_list (rs := [.tmp 4, .tmp 5, .tmp 6, .tmp 7, .tmp 8]) rfl (by simp) (.tmp (.tmp (.tmp (.tmp (.tmp .nil)))))) rfl ?_
                exact ⟨by first | rfl | (simp [errW_none, errW_some] <;> rfl) | (simp [*, errW_none, errW_some] <;> rfl), by repeat (first | (with_reducible first | exact HB.out | apply below_alloc | apply pw_below_drewN | apply below_drew1 | refine below_set ?_ GE142.out) | exact HB.out)⟩
              · rw [if_neg c17] at H
                have c17b0 : (a0_2 == 3) = false := beq_eq_false_iff_ne.mpr c17
                have c17b1 : (a0_2 != 3) = true := bne_iff_ne.mpr c17
                by_cases c21 : a0_2 = 5
                · rw [if_pos c21] at H
                  have c21b0 : (a0_2 == 5) = true := beq_iff_eq.mpr c21
                  have c21b1 : (a0_2 != 5) = false := bne_eq_false_iff_eq.mpr c21
                  clear c21
                  simp only [Option.some.injEq, Prod.mk.injEq] at H
                  obtain ⟨rfl, rfl, rfl, rfl, rfl⟩ := H
                  obtain ⟨Ao22, co22, eo22⟩ := Kd.R_slice HO_9.out
                  subst eo22
                  have p148 : 0 ≤ (0 : Int) := (by omega)
                  have q148 : 0 < (t143.length : Int) := of_decide_eq_true (by first | (with_reducible assumption) | assumption)
                  obtain ⟨ad148, e148, hx148_0⟩ := Kd.at_string (Kd.R_reads' HO_9.out).2.2 0 p148 q148
                  cases e148
                  have qi148 : (0 < t143.length) = True := eq_true (by omega)
                  (try rw [show ((0 : Int)).toNat = 0 from rfl] at hx148_0)
                  (try rw [Addr.add_zero'] at hx148_0)
                  replace p148 := eq_true p148
                  replace q148 := eq_true q148
                  have hcz23_0 : wc.cell? ⟨gb142, 0, none⟩ = some (.int .i64 a0_0) := (blk_cell BK142.out 0).trans rfl
                  have hcz23_1 : wc.cell? ⟨gb142, 1, none⟩ = some (.int .i64 a0_1) := (blk_cell BK142.out 1).trans rfl
                  have hcz23_2 : wc.cell? ⟨gb142, 2, none⟩ = some (.int .i64 a0_2) := (blk_cell BK142.out 2).trans rfl
                  have hfz23_0 := blk_frozen BK142.out 0
                  have hfz23_1 := blk_frozen BK142.out 1
                  have hfz23_2 := blk_frozen BK142.out 2
                  try go_wp2
                  have n0_ := Aside0.mk (Kd.R_drew HO_9.out)
                  have n1_ := Aside0.mk (blk_drew BK142.out)
                  have n2_ := Aside0.mk (below_drew1 HB.out)
                  clear HO_9
                  clear BK142
                  clear HB
                  have HO_9 := n0_
                  have BK142 := n1_
                  have HB := n2_
                  clear n0_ n1_ n2_
                  refine start_ (n := 13) (S := fun w' => w'.cell? ⟨gb142, 0, none⟩ = some (.int .i64 a0_0) ∧ w'.cell? ⟨gb142, 1, none⟩ = some (.int .i64 a0_1) ∧ w'.cell? ⟨gb142, 2, none⟩ = some (.int .i64 a0_2)) (ds := []) #[false, false, false, false, false, false, false, false, false, false, false, false, false] (by kernel_rfl) rfl rfl ⟨(blk_cell BK142.out 0).trans rfl, (blk_cell BK142.out 1).trans rfl, (blk_cell BK142.out 2).trans rfl⟩ (fun hHeld => ?_); refine with_tabW spec_cronEnds.tab6 spec_cronEnds.bits6 (fun HT_ HW_ => ?_)
                  generalize wc.drew = w24 at HO_9 BK142 HB hHeld ⊢
                  refine pure_ (i := 0) (N := some 43) (v := ?_) (a' := ?_) #[true, false, false, false, false, false, false, false, false, false, false, false, false] rfl rfl (any_of HT_.out (by kernel_rfl)) (fun _ _ _ h => h) (Or.inl ⟨by rfl, ?_⟩) ?_ ?_
                  rotate_left
                  · intro w'
                    go_simp
                    with_reducible rfl
                  rotate_left
                  · simp only [Act.put, List.setIfInBounds_toArray, List.set_cons_zero, List.set_cons_succ, i64_w, i32_w]
                    rfl
                  refine pure_ (i := 2) (N := some 45) (v := ?_) (a' := ?_) #[true, false, true, false, false, false, false, false, false, false, false, false, false] rfl rfl (any_of HT_.out (by kernel_rfl)) (fun _ _ _ h => h) (Or.inl ⟨by rfl, ?_⟩) ?_ ?_
                  rotate_left
                  · intro w'
                    go_simp
                    with_reducible rfl
                  rotate_left
                  · simp only [Act.put, List.setIfInBounds_toArray, List.set_cons_zero, List.set_cons_succ, i64_w, i32_w]
                    rfl
                  refine pure_ (i := 4) (N := some 47) (v := ?_) (a' := ?_) #[true, false, true, false, true, false, false, false, false, false, false, false, false] rfl rfl (any_of HT_.out (by kernel_rfl)) (fun _ _ _ h => h) (Or.inl ⟨by rfl, ?_⟩) ?_ ?_
                  rotate_left
                  · intro w'
                    go_simp
                    with_reducible rfl
                  rotate_left
                  · simp only [Act.put, List.setIfInBounds_toArray, List.set_cons_zero, List.set_cons_succ, i64_w, i32_w]
                    rfl
                  refine pure_ (i := 5) (N := some 48) (v := ?_) (a' := ?_) #[true, false, true, false, true, true, false, false, false, false, false, false, false] rfl rfl (any_of HT_.out (by kernel_rfl)) (fun _ _ _ h => h) (Or.inl ⟨by rfl, ?_⟩) ?_ ?_
                  rotate_left
                  · intro w'
                    go_simp
                    with_reducible rfl
                  rotate_left
                  · simp only [Act.put, List.setIfInBounds_toArray, List.set_cons_zero, List.set_cons_succ, i64_w, i32_w]
                    rfl
                  refine pure_ (i := 6) (N := some 49) (v := ?_) (a' := ?_) #[true, false, true, false, true, true, true, false, false, false, false, false, false] rfl rfl (any_of HT_.out (by kernel_rfl)) (fun _ _ _ h => h) (Or.inl ⟨by rfl, ?_⟩) ?_ ?_
                  rotate_left
                  · intro w'
                    go_simp
                    with_reducible rfl
                  rotate_left
                  · simp only [Act.put, List.setIfInBounds_toArray, List.set_cons_zero, List.set_cons_succ, i64_w, i32_w]
                    rfl
                  refine pure_ (i := 7) (N := some 50) (v := ?_) (a' := ?_) #[true, false, true, false, true, true, true, true, false, false, false, false, false] rfl rfl (any_of HT_.out (by kernel_rfl)) (fun _ _ _ h => h) (Or.inl ⟨by rfl, ?_⟩) ?_ ?_
                  rotate_left
                  · intro w'
                    go_simp
                    with_reducible rfl
                  rotate_left
                  · simp only [Act.put, List.setIfInBounds_toArray, List.set_cons_zero, List.set_cons_succ, i64_w, i32_w]
                    rfl
                  refine take_ (i := 1) (N := some 44) (v := ?_) (a' := ?_) #[true, true, true, false, true, true, true, true, false, false, false, false, false] rfl rfl (take_ofW HT_.out HW_.out (by kernel_rfl)) (fun _ _ _ h => h) (Or.inl ⟨by rfl, ?_⟩) hHeld ?_ ?_
                  rotate_left
                  · rintro w' ⟨s0, s1, s2⟩
                    go_simp
                    with_reducible rfl
                  rotate_left
                  · simp only [Act.put, List.setIfInBounds_toArray, List.set_cons_zero, List.set_cons_succ, i64_w, i32_w]
                    rfl
                  refine pure_ (i := 8) (N := some 4) (v := ?_) (a' := ?_) #[true, true, true, false, true, true, true, true, true, false, false, false, false] rfl rfl (any_of HT_.out (by kernel_rfl)) (fun _ _ _ h => h) (Or.inl ⟨by rfl, ?_⟩) ?_ ?_
                  rotate_left
                  · intro w'
                    go_simp
                    with_reducible rfl
                  rotate_left
                  · simp only [Act.put, List.setIfInBounds_toArray, List.set_cons_zero, List.set_cons_succ, i64_w, i32_w]
                    rfl
                  refine take_ (i := 3) (N := some 46) (v := ?_) (a' := ?_) #[true, true, true, true, true, true, true, true, true, false, false, false, false] rfl rfl (take_ofW HT_.out HW_.out (by kernel_rfl)) (fun _ _ _ h => h) (Or.inl ⟨by rfl, ?_⟩) hHeld ?_ ?_
                  rotate_left
                  · rintro w' ⟨s0, s1, s2⟩
                    go_simp
                    with_reducible rfl
                  rotate_left
                  · simp only [Act.put, List.setIfInBounds_toArray, List.set_cons_zero, List.set_cons_succ, i64_w, i32_w]
                    rfl
                  refine pure_ (i := 9) (N := some 5) (v := ?_) (a' := ?_) #[true, true, true, true, true, true, true, true, true, true, false, false, false] rfl rfl (any_of HT_.out (by kernel_rfl)) (fun _ _ _ h => h) (Or.inl ⟨by rfl, ?_⟩) ?_ ?_
                  rotate_left
                  · intro w'
                    go_simp
                    with_reducible rfl
                  rotate_left
                  · simp only [Act.put, List.setIfInBounds_toArray, List.set_cons_zero, List.set_cons_succ, i64_w, i32_w]
                    rfl
                  refine pure_ (i := 10) (N := some 6) (v := ?_) (a' := ?_) #[true, true, true, true, true, true, true, true, true, true, true, false, false] rfl rfl (any_of HT_.out (by kernel_rfl)) (fun _ _ _ h => h) (Or.inl ⟨by rfl, ?_⟩) ?_ ?_
                  rotate_left
                  · intro w'
                    go_simp
                    with_reducible rfl
                  rotate_left
                  · simp only [Act.put, List.setIfInBounds_toArray, List.set_cons_zero, List.set_cons_succ, i64_w, i32_w]
                    rfl
                  refine pure_ (i := 11) (N := some 7) (v := ?_) (a' := ?_) #[true, true, true, true, true, true, true, true, true, true, true, true, false] rfl rfl (any_of HT_.out (by kernel_rfl)) (fun _ _ _ h => h) (Or.inl ⟨by rfl, ?_⟩) ?_ ?_
                  rotate_left
                  · intro w'
                    go_simp
                    with_reducible rfl
                  rotate_left
                  · simp only [Act.put, List.setIfInBounds_toArray, List.set_cons_zero, List.set_cons_succ, i64_w, i32_w]
                    rfl
                  refine pure_ (i := 12) (N := some 8) (v := ?_) (a' := ?_) #[true, true, true, true, true, true, true, true, true, true, true, true, true] rfl rfl (any_of HT_.out (by kernel_rfl)) (fun _ _ _ h => h) (Or.inl ⟨by rfl, ?_⟩) ?_ ?_
                  rotate_left
                  · intro w'
                    go_simp
                    with_reducible rfl
                  rotate_left
                  · simp only [Act.put, List.setIfInBounds_toArray, List.set_cons_zero, List.set_cons_succ, i64_w, i32_w]
                    rfl
                  refine done_ (done_of HT_.out (by kernel_rfl)) ?_
                  try go_wp2
                  refine bodyPost_ret (results_list (rs := [.tmp 4, .tmp 5, .tmp 6, .tmp 7, .tmp 8]) rfl (by simp) (.tmp (.tmp (.tmp (.tmp (.tmp .nil)))))) rfl ?_
                  exact ⟨by first | rfl | (simp [errW_none, errW_some] <;> rfl) | (simp [*, errW_none, errW_some] <;> rfl), by repeat (first | (with_reducible first | exact HB.out | apply below_alloc | apply pw_below_drewN | apply below_drew1 | refine below_set ?_ GE142.out) | exact HB.out)⟩
                · rw [if_neg c21] at H
                  have c21b0 : (a0_2 == 5) = false := beq_eq_false_iff_ne.mpr c21
                  have c21b1 : (a0_2 != 5) = true := bne_iff_ne.mpr c21
                  simp only [Option.some.injEq, Prod.mk.injEq] at H
                  obtain ⟨rfl, rfl, rfl, rfl, rfl⟩ := H
                  obtain ⟨Ao25, co25, eo25⟩ := Kd.R_slice HO_9.out
                  subst eo25
                  have p148 : 0 ≤ (0 : Int) := (by omega)
                  have q148 : 0 < (t143.length : Int) := of_decide_eq_true (by first | (with_reducible assumption) | assumption)
                  obtain ⟨ad148, e148, hx148_0⟩ := Kd.at_string (Kd.R_reads' HO_9.out).2.2 0 p148 q148
                  cases e148
                  have qi148 : (0 < t143.length) = True := eq_true (by omega)
                  (try rw [show ((0 : Int)).toNat = 0 from rfl] at hx148_0)
                  (try rw [Addr.add_zero'] at hx148_0)
                  replace p148 := eq_true p148
                  replace q148 := eq_true q148
                  have hcz26_0 : wc.cell? ⟨gb142, 0, none⟩ = some (.int .i64 a0_0) := (blk_cell BK142.out 0).trans rfl
                  have hcz26_1 : wc.cell? ⟨gb142, 1, none⟩ = some (.int .i64 a0_1) := (blk_cell BK142.out 1).trans rfl
                  have hcz26_2 : wc.cell? ⟨gb142, 2, none⟩ = some (.int .i64 a0_2) := (blk_cell BK142.out 2).trans rfl
                  have hfz26_0 := blk_frozen BK142.out 0
                  have hfz26_1 := blk_frozen BK142.out 1
                  have hfz26_2 := blk_frozen BK142.out 2
                  try go_wp2
                  have n0_ := Aside0.mk (Kd.R_drew HO_9.out)
                  have n1_ := Aside0.mk (blk_drew BK142.out)
                  have n2_ := Aside0.mk (below_drew1 HB.out)
                  clear HO_9
                  clear BK142
                  clear HB
                  have HO_9 := n0_
                  have BK142 := n1_
                  have HB := n2_
                  clear n0_ n1_ n2_
                  refine start_ (n := 13) (S := fun w' => w'.cell? ⟨gb142, 0, none⟩ = some (.int .i64 a0_0) ∧ w'.cell? ⟨gb142, 1, none⟩ = some (.int .i64 a0_1) ∧ w'.cell? ⟨gb142, 2, none⟩ = some (.int .i64 a0_2)) (ds := []) #[false, false, false, false, false, false, false, false, false, false, false, false, false] (by kernel_rfl) rfl rfl ⟨(blk_cell BK142.out 0).trans rfl, (blk_cell BK142.out 1).trans rfl, (blk_cell BK142.out 2).trans rfl⟩ (fun hHeld => ?_); refine with_tabW spec_cronEnds.tab6 spec_cronEnds.bits6 (fun HT_ HW_ => ?_)
                  generalize wc.drew = w27 at HO_9 BK142 HB hHeld ⊢
                  refine pure_ (i := 0) (N := some 43) (v := ?_) (a' := ?_) #[true, false, false, false, false, false, false, false, false, false, false, false, false] rfl rfl (any_of HT_.out (by kernel_rfl)) (fun _ _ _ h => h) (Or.inl ⟨by rfl, ?_⟩) ?_ ?_
                  rotate_left
                  · intro w'
                    go_simp
                    with_reducible rfl
                  rotate_left
                  · simp only [Act.put, List.setIfInBounds_toArray, List.set_cons_zero, List.set_cons_succ, i64_w, i32_w]
                    rfl
                  refine pure_ (i := 2) (N := some 45) (v := ?_) (a' := ?_) #[true, false, true, false, false, false, false, false, false, false, false, false, false] rfl rfl (any_of HT_.out (by kernel_rfl)) (fun _ _ _ h => h) (Or.inl ⟨by rfl, ?_⟩) ?_ ?_
                  rotate_left
                  · intro w'
                    go_simp
                    with_reducible rfl
                  rotate_left
                  · simp only [Act.put, List.setIfInBounds_toArray, List.set_cons_zero, List.set_cons_succ, i64_w, i32_w]
                    rfl
                  refine pure_ (i := 4) (N := some 47) (v := ?_) (a' := ?_) #[true, false, true, false, true, false, false, false, false, false, false, false, false] rfl rfl (any_of HT_.out (by kernel_rfl)) (fun _ _ _ h => h) (Or.inl ⟨by rfl, ?_⟩) ?_ ?_
                  rotate_left
                  · intro w'
                    go_simp
                    with_reducible rfl
                  rotate_left
                  · simp only [Act.put, List.setIfInBounds_toArray, List.set_cons_zero, List.set_cons_succ, i64_w, i32_w]
                    rfl
                  refine pure_ (i := 5) (N := some 48) (v := ?_) (a' := ?_) #[true, false, true, false, true, true, false, false, false, false, false, false, false] rfl rfl (any_of HT_.out (by kernel_rfl)) (fun _ _ _ h => h) (Or.inl ⟨by rfl, ?_⟩) ?_ ?_
                  rotate_left
                  · intro w'
                    go_simp
                    with_reducible rfl
                  rotate_left
                  · simp only [Act.put, List.setIfInBounds_toArray, List.set_cons_zero, List.set_cons_succ, i64_w, i32_w]
                    rfl
                  refine pure_ (i := 6) (N := some 49) (v := ?_) (a' := ?_) #[true, false, true, false, true, true, true, false, false, false, false, false, false] rfl rfl (any_of HT_.out (by kernel_rfl)) (fun _ _ _ h => h) (Or.inl ⟨by rfl, ?_⟩) ?_ ?_
                  rotate_left
                  · intro w'
                    go_simp
                    with_reducible rfl
                  rotate_left
                  · simp only [Act.put, List.setIfInBounds_toArray, List.set_cons_zero, List.set_cons_succ, i64_w, i32_w]
                    rfl
                  refine pure_ (i := 7) (N := some 50) (v := ?_) (a' := ?_) #[true, false, true, false, true, true, true, true, false, false, false, false, false] rfl rfl (any_of HT_.out (by kernel_rfl)) (fun _ _ _ h => h) (Or.inl ⟨by rfl, ?_⟩) ?_ ?_
                  rotate_left
                  · intro w'
                    go_simp
                    with_reducible rfl
                  rotate_left
                  · simp only [Act.put, List.setIfInBounds_toArray, List.set_cons_zero, List.set_cons_succ, i64_w, i32_w]
                    rfl
                  refine take_ (i := 1) (N := some 44) (v := ?_) (a' := ?_) #[true, true, true, false, true, true, true, true, false, false, false, false, false] rfl rfl (take_ofW HT_.out HW_.out (by kernel_rfl)) (fun _ _ _ h => h) (Or.inl ⟨by rfl, ?_⟩) hHeld ?_ ?_
                  rotate_left
                  · rintro w' ⟨s0, s1, s2⟩
                    go_simp
                    with_reducible rfl
                  rotate_left
                  · simp only [Act.put, List.setIfInBounds_toArray, List.set_cons_zero, List.set_cons_succ, i64_w, i32_w]
                    rfl
                  refine pure_ (i := 8) (N := some 4) (v := ?_) (a' := ?_) #[true, true, true, false, true, true, true, true, true, false, false, false, false] rfl rfl (any_of HT_.out (by kernel_rfl)) (fun _ _ _ h => h) (Or.inl ⟨by rfl, ?_⟩) ?_ ?_
                  rotate_left
                  · intro w'
                    go_simp
                    with_reducible rfl
                  rotate_left
                  · simp only [Act.put, List.setIfInBounds_toArray, List.set_cons_zero, List.set_cons_succ, i64_w, i32_w]
                    rfl
                  refine take_ (i := 3) (N := some 46) (v := ?_) (a' := ?_) #[true, true, true, true, true, true, true, true, true, false, false, false, false] rfl rfl (take_ofW HT_.out HW_.out (by kernel_rfl)) (fun _ _ _ h => h) (Or.inl ⟨by rfl, ?_⟩) hHeld ?_ ?_
                  rotate_left
                  · rintro w' ⟨s0, s1, s2⟩
                    go_simp
                    with_reducible rfl
                  rotate_left
                  · simp only [Act.put, List.setIfInBounds_toArray, List.set_cons_zero, List.set_cons_succ, i64_w, i32_w]
                    rfl
                  refine pure_ (i := 9) (N := some 5) (v := ?_) (a' := ?_) #[true, true, true, true, true, true, true, true, true, true, false, false, false] rfl rfl (any_of HT_.out (by kernel_rfl)) (fun _ _ _ h => h) (Or.inl ⟨by rfl, ?_⟩) ?_ ?_
                  rotate_left
                  · intro w'
                    go_simp
                    with_reducible rfl
                  rotate_left
                  · simp only [Act.put, List.setIfInBounds_toArray, List.set_cons_zero, List.set_cons_succ, i64_w, i32_w]
                    rfl
                  refine pure_ (i := 10) (N := some 6) (v := ?_) (a' := ?_) #[true, true, true, true, true, true, true, true, true, true, true, false, false] rfl rfl (any_of HT_.out (by kernel_rfl)) (fun _ _ _ h => h) (Or.inl ⟨by rfl, ?_⟩) ?_ ?_
                  rotate_left
                  · intro w'
                    go_simp
                    with_reducible rfl
                  rotate_left
                  · simp only [Act.put, List.setIfInBounds_toArray, List.set_cons_zero, List.set_cons_succ, i64_w, i32_w]
                    rfl
                  refine pure_ (i := 11) (N := some 7) (v := ?_) (a' := ?_) #[true, true, true, true, true, true, true, true, true, true, true, true, false] rfl rfl (any_of HT_.out (by kernel_rfl)) (fun _ _ _ h => h) (Or.inl ⟨by rfl, ?_⟩) ?_ ?_
                  rotate_left
                  · intro w'
                    go_simp
                    with_reducible rfl
                  rotate_left
                  · simp only [Act.put, List.setIfInBounds_toArray, List.set_cons_zero, List.set_cons_succ, i64_w, i32_w]
                    rfl
                  refine pure_ (i := 12) (N := some 8) (v := ?_) (a' := ?_) #[true, true, true, true, true, true, true, true, true, true, true, true, true] rfl rfl (any_of HT_.out (by kernel_rfl)) (fun _ _ _ h => h) (Or.inl ⟨by rfl, ?_⟩) ?_ ?_
                  rotate_left
                  · intro w'
                    go_simp
                    with_reducible rfl
                  rotate_left
                  · simp only [Act.put, List.setIfInBounds_toArray, List.set_cons_zero, List.set_cons_succ, i64_w, i32_w]
                    rfl
                  refine done_ (done_of HT_.out (by kernel_rfl)) ?_
                  try go_wp2
                  refine bodyPost_ret (results_list (rs := [.tmp 4, .tmp 5, .tmp 6, .tmp 7, .tmp 8]) rfl (by simp) (.tmp (.tmp (.tmp (.tmp (.tmp .nil)))))) rfl ?_
                  exact ⟨by first | rfl | (simp [errW_none, errW_some] <;> rfl) | (simp [*, errW_none, errW_some] <;> rfl), by repeat (first | (with_reducible first | exact HB.out | apply below_alloc | apply pw_below_drewN | apply below_drew1 | refine below_set ?_ GE142.out) | exact HB.out)⟩
            · rw [if_neg c16] at H
              have c16b0 : ((rdOf ByteArray.empty t143 0).toList == ([63] : List UInt8)) = false := beq_eq_false_iff_ne.mpr c16
              have c16b1 : ((rdOf ByteArray.empty t143 0).toList != ([63] : List UInt8)) = true := bne_iff_ne.mpr c16
              simp only [Option.some.injEq, Prod.mk.injEq] at H
              obtain ⟨rfl, rfl, rfl, rfl, rfl⟩ := H
              obtain ⟨Ao28, co28, eo28⟩ := Kd.R_slice HO_9.out
              subst eo28
              have p148 : 0 ≤ (0 : Int) := (by omega)
              have q148 : 0 < (t143.length : Int) := of_decide_eq_true (by first | (with_reducible assumption) | assumption)
              obtain ⟨ad148, e148, hx148_0⟩ := Kd.at_string (Kd.R_reads' HO_9.out).2.2 0 p148 q148
              cases e148
              have qi148 : (0 < t143.length) = True := eq_true (by omega)
              (try rw [show ((0 : Int)).toNat = 0 from rfl] at hx148_0)
              (try rw [Addr.add_zero'] at hx148_0)
              replace p148 := eq_true p148
              replace q148 := eq_true q148
              try go_wp2
              have n0_ := Aside0.mk (Kd.R_drew HO_9.out)
              have n1_ := Aside0.mk (blk_drew BK142.out)
              have n2_ := Aside0.mk (below_drew1 HB.out)
              clear HO_9
              clear BK142
              clear HB
              have HO_9 := n0_
              have BK142 := n1_
              have HB := n2_
              clear n0_ n1_ n2_
              refine start_ (n := 13) (S := fun w' => w'.cell? ⟨gb142, 0, none⟩ = some (.int .i64 a0_0) ∧ w'.cell? ⟨gb142, 1, none⟩ = some (.int .i64 a0_1) ∧ w'.cell? ⟨gb142, 2, none⟩ = some (.int .i64 a0_2)) (ds := []) #[false, false, false, false, false, false, false, false, false, false, false, false, false] (by kernel_rfl) rfl rfl ⟨(blk_cell BK142.out 0).trans rfl, (blk_cell BK142.out 1).trans rfl, (blk_cell BK142.out 2).trans rfl⟩ (fun hHeld => ?_); refine with_tabW spec_cronEnds.tab6 spec_cronEnds.bits6 (fun HT_ HW_ => ?_)
              generalize wc.drew = w29 at HO_9 BK142 HB hHeld ⊢
              refine pure_ (i := 0) (N := some 43) (v := ?_) (a' := ?_) #[true, false, false, false, false, false, false, false, false, false, false, false, false] rfl rfl (any_of HT_.out (by kernel_rfl)) (fun _ _ _ h => h) (Or.inl ⟨by rfl, ?_⟩) ?_ ?_
              rotate_left
              · intro w'
                go_simp
                with_reducible rfl
              rotate_left
              · simp only [Act.put, List.setIfInBounds_toArray, List.set_cons_zero, List.set_cons_succ, i64_w, i32_w]
                rfl
              refine pure_ (i := 2) (N := some 45) (v := ?_) (a' := ?_) #[true, false, true, false, false, false, false, false, false, false, false, false, false] rfl rfl (any_of HT_.out (by kernel_rfl)) (fun _ _ _ h => h) (Or.inl ⟨by rfl, ?_⟩) ?_ ?_
              rotate_left
              · intro w'
                go_simp
                with_reducible rfl
              rotate_left
              · simp only [Act.put, List.setIfInBounds_toArray, List.set_cons_zero, List.set_cons_succ, i64_w, i32_w]
                rfl
              refine pure_ (i := 4) (N := some 47) (v := ?_) (a' := ?_) #[true, false, true, false, true, false, false, false, false, false, false, false, false] rfl rfl (any_of HT_.out (by kernel_rfl)) (fun _ _ _ h => h) (Or.inl ⟨by rfl, ?_⟩) ?_ ?_
              rotate_left
              · intro w'
                go_simp
                with_reducible rfl
              rotate_left
              · simp only [Act.put, List.setIfInBounds_toArray, List.set_cons_zero, List.set_cons_succ, i64_w, i32_w]
                rfl
              refine pure_ (i := 5) (N := some 48) (v := ?_) (a' := ?_) #[true, false, true, false, true, true, false, false, false, false, false, false, false] rfl rfl (any_of HT_.out (by kernel_rfl)) (fun _ _ _ h => h) (Or.inl ⟨by rfl, ?_⟩) ?_ ?_
              rotate_left
              · intro w'
                go_simp
                with_reducible rfl
              rotate_left
              · simp only [Act.put, List.setIfInBounds_toArray, List.set_cons_zero, List.set_cons_succ, i64_w, i32_w]
                rfl
              refine pure_ (i := 6) (N := some 49) (v := ?_) (a' := ?_) #[true, false, true, false, true, true, true, false, false, false, false, false, false] rfl rfl (any_of HT_.out (by kernel_rfl)) (fun _ _ _ h => h) (Or.inl ⟨by rfl, ?_⟩) ?_ ?_
              rotate_left
              · intro w'
                go_simp
                with_reducible rfl
              rotate_left
              · simp only [Act.put, List.setIfInBounds_toArray, List.set_cons_zero, List.set_cons_succ, i64_w, i32_w]
                rfl
              refine pure_ (i := 7) (N := some 50) (v := ?_) (a' := ?_) #[true, false, true, false, true, true, true, true, false, false, false, false, false] rfl rfl (any_of HT_.out (by kernel_rfl)) (fun _ _ _ h => h) (Or.inl ⟨by rfl, ?_⟩) ?_ ?_
              rotate_left
              · intro w'
                go_simp
                with_reducible rfl
              rotate_left
              · simp only [Act.put, List.setIfInBounds_toArray, List.set_cons_zero, List.set_cons_succ, i64_w, i32_w]
                rfl
              refine take_ (i := 1) (N := some 44) (v := ?_) (a' := ?_) #[true, true, true, false, true, true, true, true, false, false, false, false, false] rfl rfl (take_ofW HT_.out HW_.out (by kernel_rfl)) (fun _ _ _ h => h) (Or.inl ⟨by rfl, ?_⟩) hHeld ?_ ?_
              rotate_left
              · rintro w' ⟨s0, s1, s2⟩
                go_simp
                with_reducible rfl
              rotate_left
              · simp only [Act.put, List.setIfInBounds_toArray, List.set_cons_zero, List.set_cons_succ, i64_w, i32_w]
                rfl
              refine pure_ (i := 8) (N := some 4) (v := ?_) (a' := ?_) #[true, true, true, false, true, true, true, true, true, false, false, false, false] rfl rfl (any_of HT_.out (by kernel_rfl)) (fun _ _ _ h => h) (Or.inl ⟨by rfl, ?_⟩) ?_ ?_
              rotate_left
              · intro w'
                go_simp
                with_reducible rfl
              rotate_left
              · simp only [Act.put, List.setIfInBounds_toArray, List.set_cons_zero, List.set_cons_succ, i64_w, i32_w]
                rfl
              refine take_ (i := 3) (N := some 46) (v := ?_) (a' := ?_) #[true, true, true, true, true, true, true, true, true, false, false, false, false] rfl rfl (take_ofW HT_.out HW_.out (by kernel_rfl)) (fun _ _ _ h => h) (Or.inl ⟨by rfl, ?_⟩) hHeld ?_ ?_
              rotate_left
              · rintro w' ⟨s0, s1, s2⟩
                go_simp
                with_reducible rfl
              rotate_left
              · simp only [Act.put, List.setIfInBounds_toArray, List.set_cons_zero, List.set_cons_succ, i64_w, i32_w]
                rfl
              refine pure_ (i := 9) (N := some 5) (v := ?_) (a' := ?_) #[true, true, true, true, true, true, true, true, true, true, false, false, false] rfl rfl (any_of HT_.out (by kernel_rfl)) (fun _ _ _ h => h) (Or.inl ⟨by rfl, ?_⟩) ?_ ?_
              rotate_left
              · intro w'
                go_simp
                with_reducible rfl
              rotate_left
              · simp only [Act.put, List.setIfInBounds_toArray, List.set_cons_zero, List.set_cons_succ, i64_w, i32_w]
                rfl
              refine pure_ (i := 10) (N := some 6) (v := ?_) (a' := ?_) #[true, true, true, true, true, true, true, true, true, true, true, false, false] rfl rfl (any_of HT_.out (by kernel_rfl)) (fun _ _ _ h => h) (Or.inl ⟨by rfl, ?_⟩) ?_ ?_
              rotate_left
              · intro w'
                go_simp
                with_reducible rfl
              rotate_left
              · simp only [Act.put, List.setIfInBounds_toArray, List.set_cons_zero, List.set_cons_succ, i64_w, i32_w]
                rfl
              refine pure_ (i := 11) (N := some 7) (v := ?_) (a' := ?_) #[true, true, true, true, true, true, true, true, true, true, true, true, false] rfl rfl (any_of HT_.out (by kernel_rfl)) (fun _ _ _ h => h) (Or.inl ⟨by rfl, ?_⟩) ?_ ?_
              rotate_left
              · intro w'
                go_simp
                with_reducible rfl
              rotate_left
              · simp only [Act.put, List.setIfInBounds_toArray, List.set_cons_zero, List.set_cons_succ, i64_w, i32_w]
                rfl
              refine pure_ (i := 12) (N := some 8) (v := ?_) (a' := ?_) #[true, true, true, true, true, true, true, true, true, true, true, true, true] rfl rfl (any_of HT_.out (by kernel_rfl)) (fun _ _ _ h => h) (Or.inl ⟨by rfl, ?_⟩) ?_ ?_
              rotate_left
              · intro w'
                go_simp
                with_reducible rfl
              rotate_left
              · simp only [Act.put, List.setIfInBounds_toArray, List.set_cons_zero, List.set_cons_succ, i64_w, i32_w]
                rfl
              refine done_ (done_of HT_.out (by kernel_rfl)) ?_
              try go_wp2
              refine bodyPost_ret (results_list (rs := [.tmp 4, .tmp 5, .tmp 6, .tmp 7, .tmp 8]) rfl (by simp) (.tmp (.tmp (.tmp (.tmp (.tmp .nil)))))) rfl ?_
              exact ⟨by first | rfl | (simp [errW_none, errW_some] <;> rfl) | (simp [*, errW_none, errW_some] <;> rfl), by repeat (first | (with_reducible first | exact HB.out | apply below_alloc | apply pw_below_drewN | apply below_drew1 | refine below_set ?_ GE142.out) | exact HB.out)⟩
          · rw [if_neg c15] at H
            exact absurd H (by simp)
      · replace c11 := Bool.eq_false_iff.mpr c11
        subst c11
        have H1 : (if 0 < (t143.length : Int) then ((spec_CronValue.f kj3 a0_2 (rdOf ByteArray.empty t143 0)).bind fun bt150 => (if (t143.length : Int) = 1 then (some (bt150.1, bt150.1, false, true, bt150.2)) else (if (t143.length : Int) = 2 then (if 1 < (t143.length : Int) then ((spec_CronValue.f kj3 a0_2 (rdOf ByteArray.empty t143 1)).bind fun bt153 => ((spec_worse.f bt150.2 bt153.2).bind fun t155 => (some (bt150.1, bt153.1, false, false, t155)))) else (none)) else (some (0, 0, false, false, 0))))) else (none)) = some (r1, r2, r3, r4, r5) := by rw [if_neg (show ¬ (false = true) by decide)] at H; exact H
        clear H
        have H := H1
        clear H1
        by_cases c30 : 0 < (t143.length : Int)
        · rw [if_pos c30] at H
          have c30b0 : decide (0 < (t143.length : Int)) = true := decide_eq_true c30
          have c30b1 : decide (0 < t143.length) = true := decide_eq_true (by omega)
          clear c30
          replace H := Option.bind_eq_some_iff.mp H
          obtain ⟨⟨t150, t151⟩, A310, H⟩ := H
          replace H : (if (t143.length : Int) = 1 then (some (t150, t150, false, true, t151)) else (if (t143.length : Int) = 2 then (if 1 < (t143.length : Int) then ((spec_CronValue.f kj3 a0_2 (rdOf ByteArray.empty t143 1)).bind fun bt153 => ((spec_worse.f t151 bt153.2).bind fun t155 => (some (t150, bt153.1, false, false, t155)))) else (none)) else (some (0, 0, false, false, 0)))) = some (r1, r2, r3, r4, r5) := H
          have A31 := Aside0.mk A310
          clear A310
          by_cases c32 : (t143.length : Int) = 1
          · rw [if_pos c32] at H
            have c32b0 : ((t143.length : Int) == 1) = true := beq_iff_eq.mpr c32
            have c32b1 : ((t143.length : Int) != 1) = false := bne_eq_false_iff_eq.mpr c32
            clear c32
            simp only [Option.some.injEq, Prod.mk.injEq] at H
            obtain ⟨rfl, rfl, rfl, rfl, rfl⟩ := H
            try go_wp2
            have n0_ := Aside0.mk (Kd.R_drew HO_9.out)
            have n1_ := Aside0.mk (blk_drew BK142.out)
            have n2_ := Aside0.mk (below_drew1 HB.out)
            clear HO_9
            clear BK142
            clear HB
            have HO_9 := n0_
            have BK142 := n1_
            have HB := n2_
            clear n0_ n1_ n2_
            obtain ⟨Ao34, co34, eo34⟩ := Kd.R_slice HO_9.out
            (first | subst eo34 | (injection eo34 with f1_ f2_ f3_; have f4_ := f1_.symm; have f5_ := f3_.symm; clear f1_ f2_ f3_; subst f4_; subst f5_))
            have p149 : 0 ≤ (0 : Int) := (by omega)
            have q149 : 0 < (t143.length : Int) := of_decide_eq_true (by first | (with_reducible assumption) | assumption)
            obtain ⟨ad149, e149, hx149_0⟩ := Kd.at_string (Kd.R_reads' HO_9.out).2.2 0 p149 q149
            cases e149
            have qi149 : (0 < t143.length) = True := eq_true (by omega)
            (try rw [show ((0 : Int)).toNat = 0 from rfl] at hx149_0)
            (try rw [Addr.add_zero'] at hx149_0)
            replace p149 := eq_true p149
            replace q149 := eq_true q149
            refine start_ (n := 11) (S := fun w' => w'.cell? ⟨gb142, 0, none⟩ = some (.int .i64 a0_0) ∧ w'.cell? ⟨gb142, 1, none⟩ = some (.int .i64 a0_1) ∧ w'.cell? ⟨gb142, 2, none⟩ = some (.int .i64 a0_2) ∧ w'.cell? ad149 = some (.string (rdOf ByteArray.empty t143 0))) (ds := []) #[false, false, false, false, false, false, false, false, false, false, false] (by kernel_rfl) rfl rfl ⟨(blk_cell BK142.out 0).trans rfl, (blk_cell BK142.out 1).trans rfl, (blk_cell BK142.out 2).trans rfl, hx149_0⟩ (fun hHeld => ?_); refine with_tabW spec_cronEnds.tab7 spec_cronEnds.bits7 (fun HT_ HW_ => ?_)
            generalize wc.drew = w33 at HO_9 BK142 HB hx149_0 hHeld ⊢
            refine pure_ (i := 0) (N := some 52) (v := ?_) (a' := ?_) #[true, false, false, false, false, false, false, false, false, false, false] rfl rfl (any_of HT_.out (by kernel_rfl)) (fun _ _ _ h => h) (Or.inl ⟨by rfl, ?_⟩) ?_ ?_
            rotate_left
            · intro w'
              go_simp
              with_reducible rfl
            rotate_left
            · simp only [Act.put, List.setIfInBounds_toArray, List.set_cons_zero, List.set_cons_succ, i64_w, i32_w]
              rfl
            refine pure_ (i := 2) (N := some 54) (v := ?_) (a' := ?_) #[true, false, true, false, false, false, false, false, false, false, false] rfl rfl (any_of HT_.out (by kernel_rfl)) (fun _ _ _ h => h) (Or.inl ⟨by rfl, ?_⟩) ?_ ?_
            rotate_left
            · intro w'
              go_simp
              with_reducible rfl
            rotate_left
            · simp only [Act.put, List.setIfInBounds_toArray, List.set_cons_zero, List.set_cons_succ, i64_w, i32_w]
              rfl
            refine pure_ (i := 3) (N := some 55) (v := ?_) (a' := ?_) #[true, false, true, true, false, false, false, false, false, false, false] rfl rfl (any_of HT_.out (by kernel_rfl)) (fun _ _ _ h => h) (Or.inl ⟨by rfl, ?_⟩) ?_ ?_
            rotate_left
            · intro w'
              go_simp
              with_reducible rfl
            rotate_left
            · simp only [Act.put, List.setIfInBounds_toArray, List.set_cons_zero, List.set_cons_succ, i64_w, i32_w]
              rfl
            refine take_ (i := 1) (N := some 53) (v := ?_) (a' := ?_) #[true, true, true, true, false, false, false, false, false, false, false] rfl rfl (take_ofW HT_.out HW_.out (by kernel_rfl)) (fun _ _ _ h => h) (Or.inl ⟨by rfl, ?_⟩) hHeld ?_ ?_
            rotate_left
            · rintro w' ⟨s0, s1, s2, s3⟩
              go_simp
              with_reducible rfl
            rotate_left
            · simp only [Act.put, List.setIfInBounds_toArray, List.set_cons_zero, List.set_cons_succ, i64_w, i32_w]
              rfl
            refine take_ (i := 4) (N := some 56) (v := ?_) (a' := ?_) #[true, true, true, true, true, false, false, false, false, false, false] rfl rfl (take_ofW HT_.out HW_.out (by kernel_rfl)) (fun _ _ _ h => h) (Or.inl ⟨by rfl, ?_⟩) hHeld ?_ ?_
            rotate_left
            · rintro w' ⟨s0, s1, s2, s3⟩
              go_simp
              with_reducible rfl
            rotate_left
            · simp only [Act.put, List.setIfInBounds_toArray, List.set_cons_zero, List.set_cons_succ, i64_w, i32_w]
              rfl
            refine one_ (i := 5) (N := some 57) #[true, true, true, true, true, true, false, false, false, false, false] rfl rfl (one_of HT_.out (by kernel_rfl)) (by decide) (fun K hK => ?_)
            refine goes_ Tryz.func118 (by kernel_rfl) rfl #[.int .i64 a0_2, .string (rdOf ByteArray.empty t143 0)] (by rfl) rfl rfl (by (try simp only [List.map_toArray, List.map_cons, List.map_nil]); first | done | rfl | (simp only [List.length_drop, List.length_take]; rfl)) ?_
            with_reducible refine (spec_CronValue.calls kj3 a0_2 (rdOf ByteArray.empty t143 0) t150 t151 _ A31.out).mono ?_
            rintro e w35 ⟨rfl, hb⟩
            have HS3_ := (hb.cell (World.block_lt_of_cell? _ _ (hHeld.2.2.2))).trans (hHeld.2.2.2)
            refine ⟨_, rfl, ?_⟩
            have n0_ := Aside0.mk (Kd.R_below (by (with_reducible repeat (first | apply Kd.R_alloc | apply Kd.R_drewN | apply Kd.R_drew)); exact HO_9.out) hb)
            have n1_ := Aside0.mk (blk_below (g := gb142) (o := .cells #[.int .i64 a0_0, .int .i64 a0_1, .int .i64 a0_2] 78 (0, 0)) (by (with_reducible repeat (first | refine blk_drewN ?_ _ | refine blk_drew ?_ | refine blk_alloc ?_ _)); exact BK142.out) hb)
            have n2_ := Aside0.mk (below_step (by repeat (first | (with_reducible first | exact HB.out | apply below_alloc | apply pw_below_drewN | apply below_drew1 | refine below_set ?_ GE142.out) | exact HB.out)) hb)
            clear HO_9
            clear BK142
            clear HB
            have HO_9 := n0_
            have BK142 := n1_
            have HB := n2_
            clear n0_ n1_ n2_
            (try clear hb)
            (try clear hb2)
            (try clear hk)
            (try clear hi)
            refine hK.out _ _ ⟨(blk_cell BK142.out 0).trans rfl, (blk_cell BK142.out 1).trans rfl, (blk_cell BK142.out 2).trans rfl, HS3_⟩ (fun hHeld => ?_)
            clear hK K
            refine norm_ (a' := ?_) ?_ ?_
            rotate_left
            · show Act.put _ (some 57) _ = _
              simp only [Act.put, List.setIfInBounds_toArray, List.set_cons_zero, List.set_cons_succ, i64_w, i32_w]
              rfl
            refine pure_ (i := 6) (N := some 51) (v := ?_) (a' := ?_) #[true, true, true, true, true, true, true, false, false, false, false] rfl rfl (any_of HT_.out (by kernel_rfl)) (fun _ _ _ h => h) (Or.inl ⟨by rfl, ?_⟩) ?_ ?_
            rotate_left
            · intro w'
              go_simp
              with_reducible rfl
            rotate_left
            · simp only [Act.put, List.setIfInBounds_toArray, List.set_cons_zero, List.set_cons_succ, i64_w, i32_w]
              rfl
            refine pure_ (i := 7) (N := some 58) (v := ?_) (a' := ?_) #[true, true, true, true, true, true, true, true, false, false, false] rfl rfl (any_of HT_.out (by kernel_rfl)) (fun _ _ _ h => h) (Or.inl ⟨by rfl, ?_⟩) ?_ ?_
            rotate_left
            · intro w'
              go_simp
              with_reducible rfl
            rotate_left
            · simp only [Act.put, List.setIfInBounds_toArray, List.set_cons_zero, List.set_cons_succ, i64_w, i32_w]
              rfl
            refine pure_ (i := 8) (N := some 59) (v := ?_) (a' := ?_) #[true, true, true, true, true, true, true, true, true, false, false] rfl rfl (any_of HT_.out (by kernel_rfl)) (fun _ _ _ h => h) (Or.inl ⟨by rfl, ?_⟩) ?_ ?_
            rotate_left
            · intro w'
              go_simp
              with_reducible rfl
            rotate_left
            · simp only [Act.put, List.setIfInBounds_toArray, List.set_cons_zero, List.set_cons_succ, i64_w, i32_w]
              rfl
            refine pure_ (i := 9) (N := some 4) (v := ?_) (a' := ?_) #[true, true, true, true, true, true, true, true, true, true, false] rfl rfl (any_of HT_.out (by kernel_rfl)) (fun _ _ _ h => h) (Or.inl ⟨by rfl, ?_⟩) ?_ ?_
            rotate_left
            · intro w'
              go_simp
              with_reducible rfl
            rotate_left
            · simp only [Act.put, List.setIfInBounds_toArray, List.set_cons_zero, List.set_cons_succ, i64_w, i32_w]
              rfl
            refine pure_ (i := 10) (N := some 8) (v := ?_) (a' := ?_) #[true, true, true, true, true, true, true, true, true, true, true] rfl rfl (any_of HT_.out (by kernel_rfl)) (fun _ _ _ h => h) (Or.inl ⟨by rfl, ?_⟩) ?_ ?_
            rotate_left
            · intro w'
              go_simp
              with_reducible rfl
            rotate_left
            · simp only [Act.put, List.setIfInBounds_toArray, List.set_cons_zero, List.set_cons_succ, i64_w, i32_w]
              rfl
            refine done_ (done_of HT_.out (by kernel_rfl)) ?_
            try go_wp2
            refine bodyPost_ret (results_list (rs := [.tmp 4, .tmp 5, .tmp 6, .tmp 7, .tmp 8]) rfl (by simp) (.tmp (.tmp (.tmp (.tmp (.tmp .nil)))))) rfl ?_
            exact ⟨by first | rfl | (simp [errW_none, errW_some] <;> rfl) | (simp [*, errW_none, errW_some] <;> rfl), by repeat (first | (with_reducible first | exact HB.out | apply below_alloc | apply pw_below_drewN | apply below_drew1 | refine below_set ?_ GE142.out) | exact HB.out)⟩
          · rw [if_neg c32] at H
            have c32b0 : ((t143.length : Int) == 1) = false := beq_eq_false_iff_ne.mpr c32
            have c32b1 : ((t143.length : Int) != 1) = true := bne_iff_ne.mpr c32
            by_cases c36 : (t143.length : Int) = 2
            · rw [if_pos c36] at H
              have c36b0 : ((t143.length : Int) == 2) = true := beq_iff_eq.mpr c36
              have c36b1 : ((t143.length : Int) != 2) = false := bne_eq_false_iff_eq.mpr c36
              clear c36
              by_cases c37 : 1 < (t143.length : Int)
              · rw [if_pos c37] at H
                have c37b0 : decide (1 < (t143.length : Int)) = true := decide_eq_true c37
                have c37b1 : decide (1 < t143.length) = true := decide_eq_true (by omega)
                clear c37
                replace H := Option.bind_eq_some_iff.mp H
                obtain ⟨⟨t153, t154⟩, A380, H⟩ := H
                replace H : ((spec_worse.f t151 t154).bind fun t155 => (some (t150, t153, false, false, t155))) = some (r1, r2, r3, r4, r5) := H
                have A38 := Aside0.mk A380
                clear A380
                replace H := Option.bind_eq_some_iff.mp H
                obtain ⟨t155, A390, H⟩ := H
                replace H : (some (t150, t153, false, false, t155)) = some (r1, r2, r3, r4, r5) := H
                have A39 := Aside0.mk A390
                clear A390
                simp only [Option.some.injEq, Prod.mk.injEq] at H
                obtain ⟨rfl, rfl, rfl, rfl, rfl⟩ := H
                try go_wp2
                have n0_ := Aside0.mk (Kd.R_drew HO_9.out)
                have n1_ := Aside0.mk (blk_drew BK142.out)
                have n2_ := Aside0.mk (below_drew1 HB.out)
                clear HO_9
                clear BK142
                clear HB
                have HO_9 := n0_
                have BK142 := n1_
                have HB := n2_
                clear n0_ n1_ n2_
                obtain ⟨Ao41, co41, eo41⟩ := Kd.R_slice HO_9.out
                (first | subst eo41 | (injection eo41 with f1_ f2_ f3_; have f4_ := f1_.symm; have f5_ := f3_.symm; clear f1_ f2_ f3_; subst f4_; subst f5_))
                have p149 : 0 ≤ (0 : Int) := (by omega)
                have q149 : 0 < (t143.length : Int) := of_decide_eq_true (by first | (with_reducible assumption) | assumption)
                obtain ⟨ad149, e149, hx149_0⟩ := Kd.at_string (Kd.R_reads' HO_9.out).2.2 0 p149 q149
                cases e149
                have qi149 : (0 < t143.length) = True := eq_true (by omega)
                (try rw [show ((0 : Int)).toNat = 0 from rfl] at hx149_0)
                (try rw [Addr.add_zero'] at hx149_0)
                replace p149 := eq_true p149
                replace q149 := eq_true q149
                refine start_ (n := 11) (S := fun w' => w'.cell? ⟨gb142, 0, none⟩ = some (.int .i64 a0_0) ∧ w'.cell? ⟨gb142, 1, none⟩ = some (.int .i64 a0_1) ∧ w'.cell? ⟨gb142, 2, none⟩ = some (.int .i64 a0_2) ∧ w'.cell? ad149 = some (.string (rdOf ByteArray.empty t143 0))) (ds := []) #[false, false, false, false, false, false, false, false, false, false, false] (by kernel_rfl) rfl rfl ⟨(blk_cell BK142.out 0).trans rfl, (blk_cell BK142.out 1).trans rfl, (blk_cell BK142.out 2).trans rfl, hx149_0⟩ (fun hHeld => ?_); refine with_tabW spec_cronEnds.tab7 spec_cronEnds.bits7 (fun HT_ HW_ => ?_)
                generalize wc.drew = w40 at HO_9 BK142 HB hx149_0 hHeld ⊢
                refine pure_ (i := 0) (N := some 52) (v := ?_) (a' := ?_) #[true, false, false, false, false, false, false, false, false, false, false] rfl rfl (any_of HT_.out (by kernel_rfl)) (fun _ _ _ h => h) (Or.inl ⟨by rfl, ?_⟩) ?_ ?_
                rotate_left
                · intro w'
                  go_simp
                  with_reducible rfl
                rotate_left
                · simp only [Act.put, List.setIfInBounds_toArray, List.set_cons_zero, List.set_cons_succ, i64_w, i32_w]
                  rfl
                refine pure_ (i := 2) (N := some 54) (v := ?_) (a' := ?_) #[true, false, true, false, false, false, false, false, false, false, false] rfl rfl (any_of HT_.out (by kernel_rfl)) (fun _ _ _ h => h) (Or.inl ⟨by rfl, ?_⟩) ?_ ?_
                rotate_left
                · intro w'
                  go_simp
                  with_reducible rfl
                rotate_left
                · simp only [Act.put, List.setIfInBounds_toArray, List.set_cons_zero, List.set_cons_succ, i64_w, i32_w]
                  rfl
                refine pure_ (i := 3) (N := some 55) (v := ?_) (a' := ?_) #[true, false, true, true, false, false, false, false, false, false, false] rfl rfl (any_of HT_.out (by kernel_rfl)) (fun _ _ _ h => h) (Or.inl ⟨by rfl, ?_⟩) ?_ ?_
                rotate_left
                · intro w'
                  go_simp
                  with_reducible rfl
                rotate_left
                · simp only [Act.put, List.setIfInBounds_toArray, List.set_cons_zero, List.set_cons_succ, i64_w, i32_w]
                  rfl
                refine take_ (i := 1) (N := some 53) (v := ?_) (a' := ?_) #[true, true, true, true, false, false, false, false, false, false, false] rfl rfl (take_ofW HT_.out HW_.out (by kernel_rfl)) (fun _ _ _ h => h) (Or.inl ⟨by rfl, ?_⟩) hHeld ?_ ?_
                rotate_left
                · rintro w' ⟨s0, s1, s2, s3⟩
                  go_simp
                  with_reducible rfl
                rotate_left
                · simp only [Act.put, List.setIfInBounds_toArray, List.set_cons_zero, List.set_cons_succ, i64_w, i32_w]
                  rfl
                refine take_ (i := 4) (N := some 56) (v := ?_) (a' := ?_) #[true, true, true, true, true, false, false, false, false, false, false] rfl rfl (take_ofW HT_.out HW_.out (by kernel_rfl)) (fun _ _ _ h => h) (Or.inl ⟨by rfl, ?_⟩) hHeld ?_ ?_
                rotate_left
                · rintro w' ⟨s0, s1, s2, s3⟩
                  go_simp
                  with_reducible rfl
                rotate_left
                · simp only [Act.put, List.setIfInBounds_toArray, List.set_cons_zero, List.set_cons_succ, i64_w, i32_w]
                  rfl
                refine one_ (i := 5) (N := some 57) #[true, true, true, true, true, true, false, false, false, false, false] rfl rfl (one_of HT_.out (by kernel_rfl)) (by decide) (fun K hK => ?_)
                refine goes_ Tryz.func118 (by kernel_rfl) rfl #[.int .i64 a0_2, .string (rdOf ByteArray.empty t143 0)] (by rfl) rfl rfl (by (try simp only [List.map_toArray, List.map_cons, List.map_nil]); first | done | rfl | (simp only [List.length_drop, List.length_take]; rfl)) ?_
                with_reducible refine (spec_CronValue.calls kj3 a0_2 (rdOf ByteArray.empty t143 0) t150 t151 _ A31.out).mono ?_
                rintro e w42 ⟨rfl, hb⟩
                have HS3_ := (hb.cell (World.block_lt_of_cell? _ _ (hHeld.2.2.2))).trans (hHeld.2.2.2)
                refine ⟨_, rfl, ?_⟩
                have n0_ := Aside0.mk (Kd.R_below (by (with_reducible repeat (first | apply Kd.R_alloc | apply Kd.R_drewN | apply Kd.R_drew)); exact HO_9.out) hb)
                have n1_ := Aside0.mk (blk_below (g := gb142) (o := .cells #[.int .i64 a0_0, .int .i64 a0_1, .int .i64 a0_2] 78 (0, 0)) (by (with_reducible repeat (first | refine blk_drewN ?_ _ | refine blk_drew ?_ | refine blk_alloc ?_ _)); exact BK142.out) hb)
                have n2_ := Aside0.mk (below_step (by repeat (first | (with_reducible first | exact HB.out | apply below_alloc | apply pw_below_drewN | apply below_drew1 | refine below_set ?_ GE142.out) | exact HB.out)) hb)
                clear HO_9
                clear BK142
                clear HB
                have HO_9 := n0_
                have BK142 := n1_
                have HB := n2_
                clear n0_ n1_ n2_
                (try clear hb)
                (try clear hb2)
                (try clear hk)
                (try clear hi)
                refine hK.out _ _ ⟨(blk_cell BK142.out 0).trans rfl, (blk_cell BK142.out 1).trans rfl, (blk_cell BK142.out 2).trans rfl, HS3_⟩ (fun hHeld => ?_)
                clear hK K
                refine norm_ (a' := ?_) ?_ ?_
                rotate_left
                · show Act.put _ (some 57) _ = _
                  simp only [Act.put, List.setIfInBounds_toArray, List.set_cons_zero, List.set_cons_succ, i64_w, i32_w]
                  rfl
                refine pure_ (i := 6) (N := some 51) (v := ?_) (a' := ?_) #[true, true, true, true, true, true, true, false, false, false, false] rfl rfl (any_of HT_.out (by kernel_rfl)) (fun _ _ _ h => h) (Or.inl ⟨by rfl, ?_⟩) ?_ ?_
                rotate_left
                · intro w'
                  go_simp
                  with_reducible rfl
                rotate_left
                · simp only [Act.put, List.setIfInBounds_toArray, List.set_cons_zero, List.set_cons_succ, i64_w, i32_w]
                  rfl
                refine pure_ (i := 7) (N := some 58) (v := ?_) (a' := ?_) #[true, true, true, true, true, true, true, true, false, false, false] rfl rfl (any_of HT_.out (by kernel_rfl)) (fun _ _ _ h => h) (Or.inl ⟨by rfl, ?_⟩) ?_ ?_
                rotate_left
                · intro w'
                  go_simp
                  with_reducible rfl
                rotate_left
                · simp only [Act.put, List.setIfInBounds_toArray, List.set_cons_zero, List.set_cons_succ, i64_w, i32_w]
                  rfl
                refine pure_ (i := 8) (N := some 59) (v := ?_) (a' := ?_) #[true, true, true, true, true, true, true, true, true, false, false] rfl rfl (any_of HT_.out (by kernel_rfl)) (fun _ _ _ h => h) (Or.inl ⟨by rfl, ?_⟩) ?_ ?_
                rotate_left
                · intro w'
                  go_simp
                  with_reducible rfl
                rotate_left
                · simp only [Act.put, List.setIfInBounds_toArray, List.set_cons_zero, List.set_cons_succ, i64_w, i32_w]
                  rfl
                refine pure_ (i := 9) (N := some 4) (v := ?_) (a' := ?_) #[true, true, true, true, true, true, true, true, true, true, false] rfl rfl (any_of HT_.out (by kernel_rfl)) (fun _ _ _ h => h) (Or.inl ⟨by rfl, ?_⟩) ?_ ?_
                rotate_left
                · intro w'
                  go_simp
                  with_reducible rfl
                rotate_left
                · simp only [Act.put, List.setIfInBounds_toArray, List.set_cons_zero, List.set_cons_succ, i64_w, i32_w]
                  rfl
                refine pure_ (i := 10) (N := some 8) (v := ?_) (a' := ?_) #[true, true, true, true, true, true, true, true, true, true, true] rfl rfl (any_of HT_.out (by kernel_rfl)) (fun _ _ _ h => h) (Or.inl ⟨by rfl, ?_⟩) ?_ ?_
                rotate_left
                · intro w'
                  go_simp
                  with_reducible rfl
                rotate_left
                · simp only [Act.put, List.setIfInBounds_toArray, List.set_cons_zero, List.set_cons_succ, i64_w, i32_w]
                  rfl
                refine done_ (done_of HT_.out (by kernel_rfl)) ?_
                try go_wp2
                have n0_ := Aside0.mk (Kd.R_drew HO_9.out)
                have n1_ := Aside0.mk (blk_drew BK142.out)
                have n2_ := Aside0.mk (below_drew1 HB.out)
                clear HO_9
                clear BK142
                clear HB
                have HO_9 := n0_
                have BK142 := n1_
                have HB := n2_
                clear n0_ n1_ n2_
                have p152 : 0 ≤ (1 : Int) := (by omega)
                have q152 : 1 < (t143.length : Int) := of_decide_eq_true (by first | (with_reducible assumption) | assumption)
                obtain ⟨ad152, e152, hx152_0⟩ := Kd.at_string (Kd.R_reads' HO_9.out).2.2 1 p152 q152
                obtain rfl : ad149 = ad152 := (by injection e152)
                (try simp only [show (1 : Int).toNat = 1 from rfl, Nat.reduceMul, Nat.reduceEqDiff, Go.Addr.add, ↓reduceIte] at hx152_0)
                have qi152 : (1 < t143.length) = True := eq_true (by omega)
                (try rw [show ((1 : Int)).toNat = 1 from rfl] at hx152_0)
                replace p152 := eq_true p152
                replace q152 := eq_true q152
                refine start_ (n := 11) (S := fun w' => w'.cell? ⟨gb142, 0, none⟩ = some (.int .i64 a0_0) ∧ w'.cell? ⟨gb142, 1, none⟩ = some (.int .i64 a0_1) ∧ w'.cell? ⟨gb142, 2, none⟩ = some (.int .i64 a0_2) ∧ w'.cell? ⟨ad149.block, ad149.off + 1, none⟩ = some (.string (rdOf ByteArray.empty t143 1))) (ds := []) #[false, false, false, false, false, false, false, false, false, false, false] (by kernel_rfl) rfl rfl ⟨(blk_cell BK142.out 0).trans rfl, (blk_cell BK142.out 1).trans rfl, (blk_cell BK142.out 2).trans rfl, hx152_0⟩ (fun hHeld => ?_); refine with_tabW spec_cronEnds.tab12 spec_cronEnds.bits12 (fun HT_ HW_ => ?_)
                generalize w42.drew = w43 at HO_9 BK142 HB hx152_0 hHeld ⊢
                refine pure_ (i := 0) (N := some 70) (v := ?_) (a' := ?_) #[true, false, false, false, false, false, false, false, false, false, false] rfl rfl (any_of HT_.out (by kernel_rfl)) (fun _ _ _ h => h) (Or.inl ⟨by rfl, ?_⟩) ?_ ?_
                rotate_left
                · intro w'
                  go_simp
                  with_reducible rfl
                rotate_left
                · simp only [Act.put, List.setIfInBounds_toArray, List.set_cons_zero, List.set_cons_succ, i64_w, i32_w]
                  rfl
                refine pure_ (i := 2) (N := some 72) (v := ?_) (a' := ?_) #[true, false, true, false, false, false, false, false, false, false, false] rfl rfl (any_of HT_.out (by kernel_rfl)) (fun _ _ _ h => h) (Or.inl ⟨by rfl, ?_⟩) ?_ ?_
                rotate_left
                · intro w'
                  go_simp
                  with_reducible rfl
                rotate_left
                · simp only [Act.put, List.setIfInBounds_toArray, List.set_cons_zero, List.set_cons_succ, i64_w, i32_w]
                  rfl
                refine pure_ (i := 3) (N := some 73) (v := ?_) (a' := ?_) #[true, false, true, true, false, false, false, false, false, false, false] rfl rfl (any_of HT_.out (by kernel_rfl)) (fun _ _ _ h => h) (Or.inl ⟨by rfl, ?_⟩) ?_ ?_
                rotate_left
                · intro w'
                  go_simp
                  with_reducible rfl
                rotate_left
                · simp only [Act.put, List.setIfInBounds_toArray, List.set_cons_zero, List.set_cons_succ, i64_w, i32_w]
                  rfl
                refine take_ (i := 1) (N := some 71) (v := ?_) (a' := ?_) #[true, true, true, true, false, false, false, false, false, false, false] rfl rfl (take_ofW HT_.out HW_.out (by kernel_rfl)) (fun _ _ _ h => h) (Or.inl ⟨by rfl, ?_⟩) hHeld ?_ ?_
                rotate_left
                · rintro w' ⟨s0, s1, s2, s3⟩
                  go_simp
                  with_reducible rfl
                rotate_left
                · simp only [Act.put, List.setIfInBounds_toArray, List.set_cons_zero, List.set_cons_succ, i64_w, i32_w]
                  rfl
                refine take_ (i := 4) (N := some 74) (v := ?_) (a' := ?_) #[true, true, true, true, true, false, false, false, false, false, false] rfl rfl (take_ofW HT_.out HW_.out (by kernel_rfl)) (fun _ _ _ h => h) (Or.inl ⟨by rfl, ?_⟩) hHeld ?_ ?_
                rotate_left
                · rintro w' ⟨s0, s1, s2, s3⟩
                  go_simp
                  with_reducible rfl
                rotate_left
                · simp only [Act.put, List.setIfInBounds_toArray, List.set_cons_zero, List.set_cons_succ, i64_w, i32_w]
                  rfl
                refine one_ (i := 5) (N := some 75) #[true, true, true, true, true, true, false, false, false, false, false] rfl rfl (one_of HT_.out (by kernel_rfl)) (by decide) (fun K hK => ?_)
                refine goes_ Tryz.func118 (by kernel_rfl) rfl #[.int .i64 a0_2, .string (rdOf ByteArray.empty t143 1)] (by rfl) rfl rfl (by (try simp only [List.map_toArray, List.map_cons, List.map_nil]); first | done | rfl | (simp only [List.length_drop, List.length_take]; rfl)) ?_
                with_reducible refine (spec_CronValue.calls kj3 a0_2 (rdOf ByteArray.empty t143 1) t153 t154 _ A38.out).mono ?_
                rintro e w44 ⟨rfl, hb⟩
                have HS3_ := (hb.cell (World.block_lt_of_cell? _ _ (hHeld.2.2.2))).trans (hHeld.2.2.2)
                refine ⟨_, rfl, ?_⟩
                have n0_ := Aside0.mk (Kd.R_below (by (with_reducible repeat (first | apply Kd.R_alloc | apply Kd.R_drewN | apply Kd.R_drew)); exact HO_9.out) hb)
                have n1_ := Aside0.mk (blk_below (g := gb142) (o := .cells #[.int .i64 a0_0, .int .i64 a0_1, .int .i64 a0_2] 78 (0, 0)) (by (with_reducible repeat (first | refine blk_drewN ?_ _ | refine blk_drew ?_ | refine blk_alloc ?_ _)); exact BK142.out) hb)
                have n2_ := Aside0.mk (below_step (by repeat (first | (with_reducible first | exact HB.out | apply below_alloc | apply pw_below_drewN | apply below_drew1 | refine below_set ?_ GE142.out) | exact HB.out)) hb)
                clear HO_9
                clear BK142
                clear HB
                have HO_9 := n0_
                have BK142 := n1_
                have HB := n2_
                clear n0_ n1_ n2_
                (try clear hb)
                (try clear hb2)
                (try clear hk)
                (try clear hi)
                refine hK.out _ _ ⟨(blk_cell BK142.out 0).trans rfl, (blk_cell BK142.out 1).trans rfl, (blk_cell BK142.out 2).trans rfl, HS3_⟩ (fun hHeld => ?_)
                clear hK K
                refine norm_ (a' := ?_) ?_ ?_
                rotate_left
                · show Act.put _ (some 75) _ = _
                  simp only [Act.put, List.setIfInBounds_toArray, List.set_cons_zero, List.set_cons_succ, i64_w, i32_w]
                  rfl
                refine pure_ (i := 6) (N := some 69) (v := ?_) (a' := ?_) #[true, true, true, true, true, true, true, false, false, false, false] rfl rfl (any_of HT_.out (by kernel_rfl)) (fun _ _ _ h => h) (Or.inl ⟨by rfl, ?_⟩) ?_ ?_
                rotate_left
                · intro w'
                  go_simp
                  with_reducible rfl
                rotate_left
                · simp only [Act.put, List.setIfInBounds_toArray, List.set_cons_zero, List.set_cons_succ, i64_w, i32_w]
                  rfl
                refine pure_ (i := 7) (N := some 76) (v := ?_) (a' := ?_) #[true, true, true, true, true, true, true, true, false, false, false] rfl rfl (any_of HT_.out (by kernel_rfl)) (fun _ _ _ h => h) (Or.inl ⟨by rfl, ?_⟩) ?_ ?_
                rotate_left
                · intro w'
                  go_simp
                  with_reducible rfl
                rotate_left
                · simp only [Act.put, List.setIfInBounds_toArray, List.set_cons_zero, List.set_cons_succ, i64_w, i32_w]
                  rfl
                refine pure_ (i := 8) (N := some 77) (v := ?_) (a' := ?_) #[true, true, true, true, true, true, true, true, true, false, false] rfl rfl (any_of HT_.out (by kernel_rfl)) (fun _ _ _ h => h) (Or.inl ⟨by rfl, ?_⟩) ?_ ?_
                rotate_left
                · intro w'
                  go_simp
                  with_reducible rfl
                rotate_left
                · simp only [Act.put, List.setIfInBounds_toArray, List.set_cons_zero, List.set_cons_succ, i64_w, i32_w]
                  rfl
                refine pure_ (i := 9) (N := some 10) (v := ?_) (a' := ?_) #[true, true, true, true, true, true, true, true, true, true, false] rfl rfl (any_of HT_.out (by kernel_rfl)) (fun _ _ _ h => h) (Or.inl ⟨by rfl, ?_⟩) ?_ ?_
                rotate_left
                · intro w'
                  go_simp
                  with_reducible rfl
                rotate_left
                · simp only [Act.put, List.setIfInBounds_toArray, List.set_cons_zero, List.set_cons_succ, i64_w, i32_w]
                  rfl
                refine pure_ (i := 10) (N := some 11) (v := ?_) (a' := ?_) #[true, true, true, true, true, true, true, true, true, true, true] rfl rfl (any_of HT_.out (by kernel_rfl)) (fun _ _ _ h => h) (Or.inl ⟨by rfl, ?_⟩) ?_ ?_
                rotate_left
                · intro w'
                  go_simp
                  with_reducible rfl
                rotate_left
                · simp only [Act.put, List.setIfInBounds_toArray, List.set_cons_zero, List.set_cons_succ, i64_w, i32_w]
                  rfl
                refine done_ (done_of HT_.out (by kernel_rfl)) ?_
                try go_wp2_with (first | ((with_reducible refine gate_callee (f := 22) rfl ?_); refine goesL_ (some 82) rfl rfl Tryz.func22 (by kernel_rfl) rfl #[.int .i64 t151, .int .i64 t154] rfl (by (try simp only [List.map_toArray, List.map_cons, List.map_nil]); first | done | rfl | (simp only [List.length_drop, List.length_take]; rfl)) ?_; (with_reducible refine (spec_worse.calls t151 t154 t155 _ A39.out).mono ?_); rintro e w45 ⟨rfl, hb⟩; refine ⟨_, rfl, ?_⟩; have n0_ := Aside0.mk (Kd.R_below (by (with_reducible repeat (first | apply Kd.R_alloc | apply Kd.R_drewN | apply Kd.R_drew)); exact HO_9.out) hb); have n1_ := Aside0.mk (blk_below (g := gb142) (o := .cells #[.int .i64 a0_0, .int .i64 a0_1, .int .i64 a0_2] 78 (0, 0)) (by (with_reducible repeat (first | refine blk_drewN ?_ _ | refine blk_drew ?_ | refine blk_alloc ?_ _)); exact BK142.out) hb); have n2_ := Aside0.mk (below_step (by repeat (first | (with_reducible first | exact HB.out | apply below_alloc | apply pw_below_drewN | apply below_drew1 | refine below_set ?_ GE142.out) | exact HB.out)) hb); clear HO_9; clear BK142; clear HB; have HO_9 := n0_; have BK142 := n1_; have HB := n2_; clear n0_ n1_ n2_; (try clear hb); (try clear hb2); (try clear hk); (try clear hi)))
                refine bodyPost_ret (results_list (rs := [.tmp 4, .tmp 5, .tmp 6, .tmp 7, .tmp 8]) rfl (by simp) (.tmp (.tmp (.tmp (.tmp (.tmp .nil)))))) rfl ?_
                exact ⟨by first | rfl | (simp [errW_none, errW_some] <;> rfl) | (simp [*, errW_none, errW_some] <;> rfl), by repeat (first | (with_reducible first | exact HB.out | apply below_alloc | apply pw_below_drewN | apply below_drew1 | refine below_set ?_ GE142.out) | exact HB.out)⟩
              · rw [if_neg c37] at H
                exact absurd H (by simp)
            · rw [if_neg c36] at H
              have c36b0 : ((t143.length : Int) == 2) = false := beq_eq_false_iff_ne.mpr c36
              have c36b1 : ((t143.length : Int) != 2) = true := bne_iff_ne.mpr c36
              simp only [Option.some.injEq, Prod.mk.injEq] at H
              obtain ⟨rfl, rfl, rfl, rfl, rfl⟩ := H
              try go_wp2
              have n0_ := Aside0.mk (Kd.R_drew HO_9.out)
              have n1_ := Aside0.mk (blk_drew BK142.out)
              have n2_ := Aside0.mk (below_drew1 HB.out)
              clear HO_9
              clear BK142
              clear HB
              have HO_9 := n0_
              have BK142 := n1_
              have HB := n2_
              clear n0_ n1_ n2_
              obtain ⟨Ao47, co47, eo47⟩ := Kd.R_slice HO_9.out
              (first | subst eo47 | (injection eo47 with f1_ f2_ f3_; have f4_ := f1_.symm; have f5_ := f3_.symm; clear f1_ f2_ f3_; subst f4_; subst f5_))
              have p149 : 0 ≤ (0 : Int) := (by omega)
              have q149 : 0 < (t143.length : Int) := of_decide_eq_true (by first | (with_reducible assumption) | assumption)
              obtain ⟨ad149, e149, hx149_0⟩ := Kd.at_string (Kd.R_reads' HO_9.out).2.2 0 p149 q149
              cases e149
              have qi149 : (0 < t143.length) = True := eq_true (by omega)
              (try rw [show ((0 : Int)).toNat = 0 from rfl] at hx149_0)
              (try rw [Addr.add_zero'] at hx149_0)
              replace p149 := eq_true p149
              replace q149 := eq_true q149
              refine start_ (n := 11) (S := fun w' => w'.cell? ⟨gb142, 0, none⟩ = some (.int .i64 a0_0) ∧ w'.cell? ⟨gb142, 1, none⟩ = some (.int .i64 a0_1) ∧ w'.cell? ⟨gb142, 2, none⟩ = some (.int .i64 a0_2) ∧ w'.cell? ad149 = some (.string (rdOf ByteArray.empty t143 0))) (ds := []) #[false, false, false, false, false, false, false, false, false, false, false] (by kernel_rfl) rfl rfl ⟨(blk_cell BK142.out 0).trans rfl, (blk_cell BK142.out 1).trans rfl, (blk_cell BK142.out 2).trans rfl, hx149_0⟩ (fun hHeld => ?_); refine with_tabW spec_cronEnds.tab7 spec_cronEnds.bits7 (fun HT_ HW_ => ?_)
              generalize wc.drew = w46 at HO_9 BK142 HB hx149_0 hHeld ⊢
              refine pure_ (i := 0) (N := some 52) (v := ?_) (a' := ?_) #[true, false, false, false, false, false, false, false, false, false, false] rfl rfl (any_of HT_.out (by kernel_rfl)) (fun _ _ _ h => h) (Or.inl ⟨by rfl, ?_⟩) ?_ ?_
              rotate_left
              · intro w'
                go_simp
                with_reducible rfl
              rotate_left
              · simp only [Act.put, List.setIfInBounds_toArray, List.set_cons_zero, List.set_cons_succ, i64_w, i32_w]
                rfl
              refine pure_ (i := 2) (N := some 54) (v := ?_) (a' := ?_) #[true, false, true, false, false, false, false, false, false, false, false] rfl rfl (any_of HT_.out (by kernel_rfl)) (fun _ _ _ h => h) (Or.inl ⟨by rfl, ?_⟩) ?_ ?_
              rotate_left
              · intro w'
                go_simp
                with_reducible rfl
              rotate_left
              · simp only [Act.put, List.setIfInBounds_toArray, List.set_cons_zero, List.set_cons_succ, i64_w, i32_w]
                rfl
              refine pure_ (i := 3) (N := some 55) (v := ?_) (a' := ?_) #[true, false, true, true, false, false, false, false, false, false, false] rfl rfl (any_of HT_.out (by kernel_rfl)) (fun _ _ _ h => h) (Or.inl ⟨by rfl, ?_⟩) ?_ ?_
              rotate_left
              · intro w'
                go_simp
                with_reducible rfl
              rotate_left
              · simp only [Act.put, List.setIfInBounds_toArray, List.set_cons_zero, List.set_cons_succ, i64_w, i32_w]
                rfl
              refine take_ (i := 1) (N := some 53) (v := ?_) (a' := ?_) #[true, true, true, true, false, false, false, false, false, false, false] rfl rfl (take_ofW HT_.out HW_.out (by kernel_rfl)) (fun _ _ _ h => h) (Or.inl ⟨by rfl, ?_⟩) hHeld ?_ ?_
              rotate_left
              · rintro w' ⟨s0, s1, s2, s3⟩
                go_simp
                with_reducible rfl
              rotate_left
              · simp only [Act.put, List.setIfInBounds_toArray, List.set_cons_zero, List.set_cons_succ, i64_w, i32_w]
                rfl
              refine take_ (i := 4) (N := some 56) (v := ?_) (a' := ?_) #[true, true, true, true, true, false, false, false, false, false, false] rfl rfl (take_ofW HT_.out HW_.out (by kernel_rfl)) (fun _ _ _ h => h) (Or.inl ⟨by rfl, ?_⟩) hHeld ?_ ?_
              rotate_left
              · rintro w' ⟨s0, s1, s2, s3⟩
                go_simp
                with_reducible rfl
              rotate_left
              · simp only [Act.put, List.setIfInBounds_toArray, List.set_cons_zero, List.set_cons_succ, i64_w, i32_w]
                rfl
              refine one_ (i := 5) (N := some 57) #[true, true, true, true, true, true, false, false, false, false, false] rfl rfl (one_of HT_.out (by kernel_rfl)) (by decide) (fun K hK => ?_)
              refine goes_ Tryz.func118 (by kernel_rfl) rfl #[.int .i64 a0_2, .string (rdOf ByteArray.empty t143 0)] (by rfl) rfl rfl (by (try simp only [List.map_toArray, List.map_cons, List.map_nil]); first | done | rfl | (simp only [List.length_drop, List.length_take]; rfl)) ?_
              with_reducible refine (spec_CronValue.calls kj3 a0_2 (rdOf ByteArray.empty t143 0) t150 t151 _ A31.out).mono ?_
              rintro e w48 ⟨rfl, hb⟩
              have HS3_ := (hb.cell (World.block_lt_of_cell? _ _ (hHeld.2.2.2))).trans (hHeld.2.2.2)
              refine ⟨_, rfl, ?_⟩
              have n0_ := Aside0.mk (Kd.R_below (by (with_reducible repeat (first | apply Kd.R_alloc | apply Kd.R_drewN | apply Kd.R_drew)); exact HO_9.out) hb)
              have n1_ := Aside0.mk (blk_below (g := gb142) (o := .cells #[.int .i64 a0_0, .int .i64 a0_1, .int .i64 a0_2] 78 (0, 0)) (by (with_reducible repeat (first | refine blk_drewN ?_ _ | refine blk_drew ?_ | refine blk_alloc ?_ _)); exact BK142.out) hb)
              have n2_ := Aside0.mk (below_step (by repeat (first | (with_reducible first | exact HB.out | apply below_alloc | apply pw_below_drewN | apply below_drew1 | refine below_set ?_ GE142.out) | exact HB.out)) hb)
              clear HO_9
              clear BK142
              clear HB
              have HO_9 := n0_
              have BK142 := n1_
              have HB := n2_
              clear n0_ n1_ n2_
              (try clear hb)
              (try clear hb2)
              (try clear hk)
              (try clear hi)
              refine hK.out _ _ ⟨(blk_cell BK142.out 0).trans rfl, (blk_cell BK142.out 1).trans rfl, (blk_cell BK142.out 2).trans rfl, HS3_⟩ (fun hHeld => ?_)
              clear hK K
              refine norm_ (a' := ?_) ?_ ?_
              rotate_left
              · show Act.put _ (some 57) _ = _
                simp only [Act.put, List.setIfInBounds_toArray, List.set_cons_zero, List.set_cons_succ, i64_w, i32_w]
                rfl
              refine pure_ (i := 6) (N := some 51) (v := ?_) (a' := ?_) #[true, true, true, true, true, true, true, false, false, false, false] rfl rfl (any_of HT_.out (by kernel_rfl)) (fun _ _ _ h => h) (Or.inl ⟨by rfl, ?_⟩) ?_ ?_
              rotate_left
              · intro w'
                go_simp
                with_reducible rfl
              rotate_left
              · simp only [Act.put, List.setIfInBounds_toArray, List.set_cons_zero, List.set_cons_succ, i64_w, i32_w]
                rfl
              refine pure_ (i := 7) (N := some 58) (v := ?_) (a' := ?_) #[true, true, true, true, true, true, true, true, false, false, false] rfl rfl (any_of HT_.out (by kernel_rfl)) (fun _ _ _ h => h) (Or.inl ⟨by rfl, ?_⟩) ?_ ?_
              rotate_left
              · intro w'
                go_simp
                with_reducible rfl
              rotate_left
              · simp only [Act.put, List.setIfInBounds_toArray, List.set_cons_zero, List.set_cons_succ, i64_w, i32_w]
                rfl
              refine pure_ (i := 8) (N := some 59) (v := ?_) (a' := ?_) #[true, true, true, true, true, true, true, true, true, false, false] rfl rfl (any_of HT_.out (by kernel_rfl)) (fun _ _ _ h => h) (Or.inl ⟨by rfl, ?_⟩) ?_ ?_
              rotate_left
              · intro w'
                go_simp
                with_reducible rfl
              rotate_left
              · simp only [Act.put, List.setIfInBounds_toArray, List.set_cons_zero, List.set_cons_succ, i64_w, i32_w]
                rfl
              refine pure_ (i := 9) (N := some 4) (v := ?_) (a' := ?_) #[true, true, true, true, true, true, true, true, true, true, false] rfl rfl (any_of HT_.out (by kernel_rfl)) (fun _ _ _ h => h) (Or.inl ⟨by rfl, ?_⟩) ?_ ?_
              rotate_left
              · intro w'
                go_simp
                with_reducible rfl
              rotate_left
              · simp only [Act.put, List.setIfInBounds_toArray, List.set_cons_zero, List.set_cons_succ, i64_w, i32_w]
                rfl
              refine pure_ (i := 10) (N := some 8) (v := ?_) (a' := ?_) #[true, true, true, true, true, true, true, true, true, true, true] rfl rfl (any_of HT_.out (by kernel_rfl)) (fun _ _ _ h => h) (Or.inl ⟨by rfl, ?_⟩) ?_ ?_
              rotate_left
              · intro w'
                go_simp
                with_reducible rfl
              rotate_left
              · simp only [Act.put, List.setIfInBounds_toArray, List.set_cons_zero, List.set_cons_succ, i64_w, i32_w]
                rfl
              refine done_ (done_of HT_.out (by kernel_rfl)) ?_
              try go_wp2
              refine bodyPost_ret (results_list (rs := [.tmp 4, .tmp 5, .tmp 6, .tmp 7, .tmp 8]) rfl (by simp) (.tmp (.tmp (.tmp (.tmp (.tmp .nil)))))) rfl ?_
              exact ⟨by first | rfl | (simp [errW_none, errW_some] <;> rfl) | (simp [*, errW_none, errW_some] <;> rfl), by repeat (first | (with_reducible first | exact HB.out | apply below_alloc | apply pw_below_drewN | apply below_drew1 | refine below_set ?_ GE142.out) | exact HB.out)⟩
        · rw [if_neg c30] at H
          exact absurd H (by simp)

/-! ### spec_CronStep: function 96 -/
def spec_CronStep.j0 : Nat → Int → Int → Bool → Option (Int × Int)
  | 0, _, _, _ => none
  | k + 1, x4, x5, x16 => if x16 = true then (some (0, 0)) else (if x4 = 1099511627776 then (some (0, 2)) else (some (x4, x5)))
def spec_CronStep.f (k : Nat) (a0 : ByteArray) : Option (Int × Int) := (spec_CronNumber.f k a0).bind fun bt156 => (if bt156.2 = 0 then (spec_CronStep.j0 k bt156.1 bt156.2 true) else (spec_CronStep.j0 k bt156.1 bt156.2 (bt156.1 == 0)))
set_option maxHeartbeats 8000000 in
set_option maxRecDepth 100000 in
theorem spec_CronStep.calls (k : Nat) (a0 : ByteArray) (r1 : Int) (r2 : Int) (w : World) (h : spec_CronStep.f k a0 = some (r1, r2)) :
    Calls Tryz.prog 96 #[.string a0] w fun e w' => e = .returned (.tuple #[.int .i64 r1, .int .i64 r2]) ∧ Below w.heap.size w w' := by
  have HB := Aside0.mk (Below.refl w.heap.size w)
  have H : ((spec_CronNumber.f k a0).bind fun bt156 => (if bt156.2 = 0 then (spec_CronStep.j0 k bt156.1 bt156.2 true) else (spec_CronStep.j0 k bt156.1 bt156.2 (bt156.1 == 0)))) = some (r1, r2) := h
  clear h
  replace H := Option.bind_eq_some_iff.mp H
  obtain ⟨⟨t156, t157⟩, A20, H⟩ := H
  replace H : (if t157 = 0 then (spec_CronStep.j0 k t156 t157 true) else (spec_CronStep.j0 k t156 t157 (t156 == 0))) = some (r1, r2) := H
  have A2 := Aside0.mk A20
  clear A20
  have HC3 := Aside0.mk H
  clear H
  go_enter Tryz.func96, Tryz.ntmps96
  go_upto_region 2 with (first | ((with_reducible refine gate_callee (f := 119) rfl ?_); refine goesL_ (some 8) rfl rfl Tryz.func119 (by kernel_rfl) rfl #[.string a0] rfl (by (try simp only [List.map_toArray, List.map_cons, List.map_nil]); first | done | rfl | (simp only [List.length_drop, List.length_take]; rfl)) ?_; (with_reducible refine (spec_CronNumber.calls k a0 t156 t157 _ A2.out).mono ?_); rintro e w4 ⟨rfl, hb⟩; refine ⟨_, rfl, ?_⟩; have n0_ := Aside0.mk (below_step (by repeat (first | (with_reducible first | exact HB.out | apply below_alloc | apply pw_below_drewN | apply below_drew1) | exact HB.out)) hb); clear HB; have HB := n0_; clear n0_; (try clear hb); (try clear hb2); (try clear hk); (try clear hi)))
  (try simp only [Act.put, List.setIfInBounds_toArray, List.set_cons_zero, List.set_cons_succ])
  go_cut [16] (fun v16 wc => ∃ (kq : Nat) (x16_2 : Bool), v16 = .bool x16_2 ∧ Aside0 (spec_CronStep.j0 kq t156 t157 x16_2 = some (r1, r2)) ∧ Aside0 (kq ≤ k) ∧ Aside0 (Below w.heap.size w wc))
  case first =>
    have H := HC3.out
    clear HC3
    by_cases c5 : t157 = 0
    · rw [if_pos c5] at H
      have c5b0 : (t157 == 0) = true := beq_iff_eq.mpr c5
      have c5b1 : (t157 != 0) = false := bne_eq_false_iff_eq.mpr c5
      clear c5
      (first | rw [c5b0] | (simp only [i64_w, i32_w]; rw [c5b0]) | skip)
      have H' := Aside0.mk H
      clear H
      go_wp2
      go_meet
      case rel => exact ⟨_, (true), (by first | rfl | (simp; done) | (simp [*]; done)), H', ⟨by first | omega | exact Nat.le_refl _⟩, ⟨by repeat (first | (with_reducible first | exact HB.out | apply below_alloc | apply pw_below_drewN | apply below_drew1) | exact HB.out)⟩⟩
    · rw [if_neg c5] at H
      have c5b0 : (t157 == 0) = false := beq_eq_false_iff_ne.mpr c5
      have c5b1 : (t157 != 0) = true := bne_iff_ne.mpr c5
      (first | rw [c5b0] | (simp only [i64_w, i32_w]; rw [c5b0]) | skip)
      have H' := Aside0.mk H
      clear H
      go_wp2
      go_meet
      case rel => exact ⟨_, ((t156 == 0)), (by first | rfl | (simp; done) | (simp [*]; done)), H', ⟨by first | omega | exact Nat.le_refl _⟩, ⟨by repeat (first | (with_reducible first | exact HB.out | apply below_alloc | apply pw_below_drewN | apply below_drew1) | exact HB.out)⟩⟩
  case rest =>
    clear HC3
    try clear c1
    try clear p2
    try clear c5
    try clear c5b0
    try clear c5b1
    obtain ⟨kq, x16_2, rfl, HA, HJ2, HB⟩ := hcut
    cases kq with
    | zero => exact absurd HA.out (by simp [spec_CronStep.j0])
    | succ kj2 =>
      have H := HA.out
      clear HA
      simp only [spec_CronStep.j0] at H
      by_cases c6 : x16_2 = true
      · subst c6
        have H1 : (some (0, 0)) = some (r1, r2) := by rw [if_pos rfl] at H; exact H
        clear H
        have H := H1
        clear H1
        simp only [Option.some.injEq, Prod.mk.injEq] at H
        obtain ⟨rfl, rfl⟩ := H
        go_wp2
        go_ret2
        exact ⟨by first | rfl | (simp [errW_none, errW_some] <;> rfl) | (simp [*, errW_none, errW_some] <;> rfl), by repeat (first | (with_reducible first | exact HB.out | apply below_alloc | apply pw_below_drewN | apply below_drew1) | exact HB.out)⟩
      · replace c6 := Bool.eq_false_iff.mpr c6
        subst c6
        have H1 : (if t156 = 1099511627776 then (some (0, 2)) else (some (t156, t157))) = some (r1, r2) := by rw [if_neg (show ¬ (false = true) by decide)] at H; exact H
        clear H
        have H := H1
        clear H1
        by_cases c7 : t156 = 1099511627776
        · rw [if_pos c7] at H
          have c7b0 : (t156 == 1099511627776) = true := beq_iff_eq.mpr c7
          have c7b1 : (t156 != 1099511627776) = false := bne_eq_false_iff_eq.mpr c7
          clear c7
          simp only [Option.some.injEq, Prod.mk.injEq] at H
          obtain ⟨rfl, rfl⟩ := H
          go_wp2
          go_ret2
          exact ⟨by first | rfl | (simp [errW_none, errW_some] <;> rfl) | (simp [*, errW_none, errW_some] <;> rfl), by repeat (first | (with_reducible first | exact HB.out | apply below_alloc | apply pw_below_drewN | apply below_drew1) | exact HB.out)⟩
        · rw [if_neg c7] at H
          have c7b0 : (t156 == 1099511627776) = false := beq_eq_false_iff_ne.mpr c7
          have c7b1 : (t156 != 1099511627776) = true := bne_iff_ne.mpr c7
          simp only [Option.some.injEq, Prod.mk.injEq] at H
          obtain ⟨rfl, rfl⟩ := H
          go_wp2
          go_ret2
          exact ⟨by first | rfl | (simp [errW_none, errW_some] <;> rfl) | (simp [*, errW_none, errW_some] <;> rfl), by repeat (first | (with_reducible first | exact HB.out | apply below_alloc | apply pw_below_drewN | apply below_drew1) | exact HB.out)⟩

-- NOT PRINTED: function 60 (spec_CronItem)

-- NOT PRINTED: function 61 (spec_CronUnion)

-- NOT PRINTED: function 26 (spec_CronField)


end Go.Proofs.YtjmgebhjkbcpcaaGreatDoor.PCronParse
end
