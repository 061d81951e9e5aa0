-- PRINTED BY print.sh 35421559b90ae4d0a3588c463048766b98c2df88dd9212a6774a882060cdf62d: not written by this session
import Derived.Test.YtjmgebhjkbcpcaaPFnCronNextManyx0
namespace Go.Proofs.Ytjmgebhjkbcpcaa.PFnCronNextMany
open Go.RowKit Go.Proofs.YtjmgebhjkbcpcaaW.PrintWords Go.Proofs.YtjmgebhjkbcpcaaW.PrintLast Go.Proofs.YtjmgebhjkbcpcaaW.PrintMore
attribute [local go_sem] max2_int min2_int max_two min_two max_three min_three max_four min_four   -- for this text's walks alone
set_option linter.unusedVariables false
set_option linter.unusedSimpArgs false

/-! ### spec_GoodZone: function 6 -/
mutual
def spec_GoodZone.j0 : Nat → Bool → List Int → List Bool → List Int → List Int → Option (Bool)
  | 0, _, _, _, _, _ => none
  | k + 1, x67, x104000, x104001, x104002, x104003 => if x67 = true then (some false) else (spec_GoodZone.l0 k x104000 (x104000.length : Int) 0 x104000 x104001 x104002 x104003)
def spec_GoodZone.l0 : Nat → List Int → Int → Int → List Int → List Bool → List Int → List Int → Option (Bool)
  | 0, _, _, _, _, _, _, _ => none
  | k + 1, x69, x70, x71, x104000, x104001, x104002, x104003 => if x71 < x70 then (if 0 ≤ x71 then (if x71 < (x69.length : Int) then (if (rd x69 x71) < (-86400) then (some false) else (if (rd x69 x71) > 86400 then (some false) else (spec_GoodZone.l0 k x69 x70 (wrap64 (x71 + 1)) x104000 x104001 x104002 x104003))) else (none)) else (none)) else (spec_GoodZone.l1 k x104003 (x104003.length : Int) 0 x104000 x104001 x104002 x104003)
def spec_GoodZone.l1 : Nat → List Int → Int → Int → List Int → List Bool → List Int → List Int → Option (Bool)
  | 0, _, _, _, _, _, _, _ => none
  | k + 1, x83, x84, x85, x104000, x104001, x104002, x104003 => if x85 < x84 then (if 0 ≤ x85 then (if x85 < (x83.length : Int) then (if (rd x83 x85) < 0 then (some false) else (if (rd x83 x85) ≥ (x104000.length : Int) then (some false) else (if x85 > 0 then (if 0 ≤ (wrap64 (x85 - 1)) then (if (wrap64 (x85 - 1)) < (x104002.length : Int) then (if x85 < (x104002.length : Int) then (if (rd x104002 (wrap64 (x85 - 1))) ≥ (rd x104002 x85) then (some false) else (spec_GoodZone.l1 k x83 x84 (wrap64 (x85 + 1)) x104000 x104001 x104002 x104003)) else (none)) else (none)) else (none)) else (spec_GoodZone.l1 k x83 x84 (wrap64 (x85 + 1)) x104000 x104001 x104002 x104003)))) else (none)) else (none)) else (some true)
end
def spec_GoodZone.f (k : Nat) (l0_0 : List Int) (l0_1 : List Bool) (l0_2 : List Int) (l0_3 : List Int) : Option (Bool) := if (l0_0.length : Int) = 0 then (if (l0_1.length : Int) = 0 then (if (l0_2.length : Int) = 0 then (some ((l0_3.length : Int) == 0)) else (some false)) else (some false)) else (if (l0_0.length : Int) > 64 then (spec_GoodZone.j0 k true l0_0 l0_1 l0_2 l0_3) else (if (l0_1.length : Int) = (l0_0.length : Int) then (if (l0_2.length : Int) = 0 then (spec_GoodZone.j0 k true l0_0 l0_1 l0_2 l0_3) else (if (l0_2.length : Int) > 4096 then (spec_GoodZone.j0 k true l0_0 l0_1 l0_2 l0_3) else (if (l0_3.length : Int) = (l0_2.length : Int) then (if 0 < (l0_2.length : Int) then (spec_GoodZone.j0 k ((rd l0_2 0) != (-9223372036854775808)) l0_0 l0_1 l0_2 l0_3) else (none)) else (spec_GoodZone.j0 k true l0_0 l0_1 l0_2 l0_3)))) else (spec_GoodZone.j0 k true l0_0 l0_1 l0_2 l0_3)))
theorem spec_GoodZone.mono_l : ∀ k, (∀ y0 y1 y2 y3 y4, LeO (spec_GoodZone.j0 k y0 y1 y2 y3 y4) (spec_GoodZone.j0 (k + 1) y0 y1 y2 y3 y4)) ∧ (∀ y0 y1 y2 y3 y4 y5 y6, LeO (spec_GoodZone.l0 k y0 y1 y2 y3 y4 y5 y6) (spec_GoodZone.l0 (k + 1) y0 y1 y2 y3 y4 y5 y6)) ∧ (∀ y0 y1 y2 y3 y4 y5 y6, LeO (spec_GoodZone.l1 k y0 y1 y2 y3 y4 y5 y6) (spec_GoodZone.l1 (k + 1) y0 y1 y2 y3 y4 y5 y6))
  | 0 => ⟨fun _ _ _ _ _ r h => by simp [spec_GoodZone.j0] at h, fun _ _ _ _ _ _ _ r h => by simp [spec_GoodZone.l0] at h, fun _ _ _ _ _ _ _ r h => by simp [spec_GoodZone.l1] at h⟩
  | k + 1 => by
    obtain ⟨ih0, ih1, ih2⟩ := spec_GoodZone.mono_l k
    refine ⟨?_, ?_, ?_⟩
    · intro y0 y1 y2 y3 y4
      unfold spec_GoodZone.j0
      repeat' first
      | (with_reducible exact ih0 _ _ _ _ _)
      | (with_reducible exact ih1 _ _ _ _ _ _ _)
      | (with_reducible exact ih2 _ _ _ _ _ _ _)
      | (with_reducible exact LeO.refl _)
      | (with_reducible exact LeO.none _)
      | (with_reducible refine LeO.ite ?_ ?_)
      | (with_reducible refine LeO.bind ?_ (fun _ => ?_))
      | exact ih0 _ _ _ _ _
      | exact ih1 _ _ _ _ _ _ _
      | exact ih2 _ _ _ _ _ _ _
      | exact LeO.none _
      | refine LeO.ite ?_ ?_
      | refine LeO.bind ?_ (fun _ => ?_)
    · intro y0 y1 y2 y3 y4 y5 y6
      unfold spec_GoodZone.l0
      repeat' first
      | (with_reducible exact ih0 _ _ _ _ _)
      | (with_reducible exact ih1 _ _ _ _ _ _ _)
      | (with_reducible exact ih2 _ _ _ _ _ _ _)
      | (with_reducible exact LeO.refl _)
      | (with_reducible exact LeO.none _)
      | (with_reducible refine LeO.ite ?_ ?_)
      | (with_reducible refine LeO.bind ?_ (fun _ => ?_))
      | exact ih0 _ _ _ _ _
      | exact ih1 _ _ _ _ _ _ _
      | exact ih2 _ _ _ _ _ _ _
      | exact LeO.none _
      | refine LeO.ite ?_ ?_
      | refine LeO.bind ?_ (fun _ => ?_)
    · intro y0 y1 y2 y3 y4 y5 y6
      unfold spec_GoodZone.l1
      repeat' first
      | (with_reducible exact ih0 _ _ _ _ _)
      | (with_reducible exact ih1 _ _ _ _ _ _ _)
      | (with_reducible exact ih2 _ _ _ _ _ _ _)
      | (with_reducible exact LeO.refl _)
      | (with_reducible exact LeO.none _)
      | (with_reducible refine LeO.ite ?_ ?_)
      | (with_reducible refine LeO.bind ?_ (fun _ => ?_))
      | exact ih0 _ _ _ _ _
      | exact ih1 _ _ _ _ _ _ _
      | exact ih2 _ _ _ _ _ _ _
      | exact LeO.none _
      | refine LeO.ite ?_ ?_
      | refine LeO.bind ?_ (fun _ => ?_)
theorem spec_GoodZone.mono : ∀ a0 a1 a2 a3 k, LeO (spec_GoodZone.f k a0 a1 a2 a3) (spec_GoodZone.f (k + 1) a0 a1 a2 a3) := by
  intro a0 a1 a2 a3 k
  obtain ⟨ih0, ih1, ih2⟩ := spec_GoodZone.mono_l k
  unfold spec_GoodZone.f
  repeat' first
      | (with_reducible exact ih0 _ _ _ _ _)
      | (with_reducible exact ih1 _ _ _ _ _ _ _)
      | (with_reducible exact ih2 _ _ _ _ _ _ _)
      | (with_reducible exact LeO.refl _)
      | (with_reducible exact LeO.none _)
      | (with_reducible refine LeO.ite ?_ ?_)
      | (with_reducible refine LeO.bind ?_ (fun _ => ?_))
      | exact ih0 _ _ _ _ _
      | exact ih1 _ _ _ _ _ _ _
      | exact ih2 _ _ _ _ _ _ _
      | exact LeO.none _
      | refine LeO.ite ?_ ?_
      | refine LeO.bind ?_ (fun _ => ?_)
set_option maxHeartbeats 8000000 in
set_option maxRecDepth 100000 in
theorem spec_GoodZone.calls (k : Nat) (A0_0 : Option Addr) (c0_0 : Nat) (l0_0 : List Int) (A0_1 : Option Addr) (c0_1 : Nat) (l0_1 : List Bool) (A0_2 : Option Addr) (c0_2 : Nat) (l0_2 : List Int) (A0_3 : Option Addr) (c0_3 : Nat) (l0_3 : List Int) (r : Bool) (w : World) (hr0_0 : Kd.C (Kd.int .i64) w A0_0 l0_0.length l0_0) (hc0_0 : l0_0.length ≤ c0_0) (hr0_1 : Kd.C Kd.bool w A0_1 l0_1.length l0_1) (hc0_1 : l0_1.length ≤ c0_1) (hr0_2 : Kd.C (Kd.int .i64) w A0_2 l0_2.length l0_2) (hc0_2 : l0_2.length ≤ c0_2) (hr0_3 : Kd.C (Kd.int .i64) w A0_3 l0_3.length l0_3) (hc0_3 : l0_3.length ≤ c0_3) (h : spec_GoodZone.f k l0_0 l0_1 l0_2 l0_3 = some r) :
    Calls Try.prog 6 #[.agg #[.slice A0_0 l0_0.length c0_0, .slice A0_1 l0_1.length c0_1, .slice A0_2 l0_2.length c0_2, .slice A0_3 l0_3.length c0_3]] w fun e w' => e = .returned (.bool r) ∧ Below w.heap.size w w' := by
  have hu31 := Try.underlying31
  have HR0_0 := Aside0.mk hr0_0
  have HC0_0 := Aside0.mk hc0_0
  clear hr0_0 hc0_0
  have HR0_1 := Aside0.mk hr0_1
  have HC0_1 := Aside0.mk hc0_1
  clear hr0_1 hc0_1
  have HR0_2 := Aside0.mk hr0_2
  have HC0_2 := Aside0.mk hc0_2
  clear hr0_2 hc0_2
  have HR0_3 := Aside0.mk hr0_3
  have HC0_3 := Aside0.mk hc0_3
  clear hr0_3 hc0_3
  have HB := Aside0.mk (Below.refl w.heap.size w)
  have H : (if (l0_0.length : Int) = 0 then (if (l0_1.length : Int) = 0 then (if (l0_2.length : Int) = 0 then (some ((l0_3.length : Int) == 0)) else (some false)) else (some false)) else (if (l0_0.length : Int) > 64 then (spec_GoodZone.j0 k true l0_0 l0_1 l0_2 l0_3) else (if (l0_1.length : Int) = (l0_0.length : Int) then (if (l0_2.length : Int) = 0 then (spec_GoodZone.j0 k true l0_0 l0_1 l0_2 l0_3) else (if (l0_2.length : Int) > 4096 then (spec_GoodZone.j0 k true l0_0 l0_1 l0_2 l0_3) else (if (l0_3.length : Int) = (l0_2.length : Int) then (if 0 < (l0_2.length : Int) then (spec_GoodZone.j0 k ((rd l0_2 0) != (-9223372036854775808)) l0_0 l0_1 l0_2 l0_3) else (none)) else (spec_GoodZone.j0 k true l0_0 l0_1 l0_2 l0_3)))) else (spec_GoodZone.j0 k true l0_0 l0_1 l0_2 l0_3)))) = some r := h
  clear h
  by_cases c2 : (l0_0.length : Int) = 0
  · rw [if_pos c2] at H
    have c2b0 : ((l0_0.length : Int) == 0) = true := beq_iff_eq.mpr c2
    have c2b1 : ((l0_0.length : Int) != 0) = false := bne_eq_false_iff_eq.mpr c2
    clear c2
    by_cases c3 : (l0_1.length : Int) = 0
    · rw [if_pos c3] at H
      have c3b0 : ((l0_1.length : Int) == 0) = true := beq_iff_eq.mpr c3
      have c3b1 : ((l0_1.length : Int) != 0) = false := bne_eq_false_iff_eq.mpr c3
      clear c3
      by_cases c4 : (l0_2.length : Int) = 0
      · rw [if_pos c4] at H
        have c4b0 : ((l0_2.length : Int) == 0) = true := beq_iff_eq.mpr c4
        have c4b1 : ((l0_2.length : Int) != 0) = false := bne_eq_false_iff_eq.mpr c4
        clear c4
        obtain rfl := Option.some.inj H
        go_enter Try.func6, Try.ntmps6
        go_wp2_with (first | ((with_reducible refine gate_dst (N := 1) rfl ?_); (try (refine gate_guard (by rfl) ?_; dsimp only)); refine box_event ?hg (N := 1) ?hd (cs := #[.slice A0_0 l0_0.length c0_0, .slice A0_1 l0_1.length c0_1, .slice A0_2 l0_2.length c0_2, .slice A0_3 l0_3.length c0_3]) (t := 31) ?hr ?_; (case hd => rfl); (case hg => rfl); (case hr => first | (go_simp; done) | (go_simp; rfl)); intro gb103 hg w5 hbox hb; have n0_ := Aside0.mk (below_step (by repeat (first | (with_reducible first | exact HB.out | apply below_alloc | apply pw_below_drewN | apply below_drew1) | exact HB.out)) hb); have n1_ := Aside0.mk (hbox); have n2_ := Aside0.mk ((by rw [hg]; exact (below_size (by repeat (first | (with_reducible first | exact HB.out | apply below_alloc | apply pw_below_drewN | apply below_drew1) | exact HB.out))) : w.heap.size ≤ gb103)); have n3_ := Aside0.mk ((by rw [hg]; exact (below_size (by repeat (first | (with_reducible first | exact HB.out | apply below_alloc | apply pw_below_drewN | apply below_drew1) | exact HB.out))) : w.heap.size ≤ gb103)); clear HB; have HB := n0_; have BK103 := n1_; have GW103 := n2_; have GE103 := n3_; clear n0_ n1_ n2_ n3_; clear hb hbox hg; have hcz6_0 : w5.cell? ⟨gb103, 0, none⟩ = some (.slice A0_0 l0_0.length c0_0) := (blk_cell BK103.out 0).trans rfl; have hcz6_1 : w5.cell? ⟨gb103, 1, none⟩ = some (.slice A0_1 l0_1.length c0_1) := (blk_cell BK103.out 1).trans rfl; have hcz6_2 : w5.cell? ⟨gb103, 2, none⟩ = some (.slice A0_2 l0_2.length c0_2) := (blk_cell BK103.out 2).trans rfl; have hcz6_3 : w5.cell? ⟨gb103, 3, none⟩ = some (.slice A0_3 l0_3.length c0_3) := (blk_cell BK103.out 3).trans rfl; have hfz6_0 := blk_frozen BK103.out 0; have hfz6_1 := blk_frozen BK103.out 1; have hfz6_2 := blk_frozen BK103.out 2; have hfz6_3 := blk_frozen BK103.out 3))
        repeat (go_quiet (first | ((with_reducible refine gate_dst (N := 1) rfl ?_); (try (refine gate_guard (by rfl) ?_; dsimp only)); refine box_event ?hg (N := 1) ?hd (cs := #[.slice A0_0 l0_0.length c0_0, .slice A0_1 l0_1.length c0_1, .slice A0_2 l0_2.length c0_2, .slice A0_3 l0_3.length c0_3]) (t := 31) ?hr ?_; (case hd => rfl); (case hg => rfl); (case hr => first | (go_simp; done) | (go_simp; rfl)); intro gb103 hg w5 hbox hb; have n0_ := Aside0.mk (below_step (by repeat (first | (with_reducible first | exact HB.out | apply below_alloc | apply pw_below_drewN | apply below_drew1) | exact HB.out)) hb); have n1_ := Aside0.mk (hbox); have n2_ := Aside0.mk ((by rw [hg]; exact (below_size (by repeat (first | (with_reducible first | exact HB.out | apply below_alloc | apply pw_below_drewN | apply below_drew1) | exact HB.out))) : w.heap.size ≤ gb103)); have n3_ := Aside0.mk ((by rw [hg]; exact (below_size (by repeat (first | (with_reducible first | exact HB.out | apply below_alloc | apply pw_below_drewN | apply below_drew1) | exact HB.out))) : w.heap.size ≤ gb103)); clear HB; have HB := n0_; have BK103 := n1_; have GW103 := n2_; have GE103 := n3_; clear n0_ n1_ n2_ n3_; clear hb hbox hg; have hcz6_0 : w5.cell? ⟨gb103, 0, none⟩ = some (.slice A0_0 l0_0.length c0_0) := (blk_cell BK103.out 0).trans rfl; have hcz6_1 : w5.cell? ⟨gb103, 1, none⟩ = some (.slice A0_1 l0_1.length c0_1) := (blk_cell BK103.out 1).trans rfl; have hcz6_2 : w5.cell? ⟨gb103, 2, none⟩ = some (.slice A0_2 l0_2.length c0_2) := (blk_cell BK103.out 2).trans rfl; have hcz6_3 : w5.cell? ⟨gb103, 3, none⟩ = some (.slice A0_3 l0_3.length c0_3) := (blk_cell BK103.out 3).trans rfl; have hfz6_0 := blk_frozen BK103.out 0; have hfz6_1 := blk_frozen BK103.out 1; have hfz6_2 := blk_frozen BK103.out 2; have hfz6_3 := blk_frozen BK103.out 3)); try go_wp2_with (first | ((with_reducible refine gate_dst (N := 1) rfl ?_); (try (refine gate_guard (by rfl) ?_; dsimp only)); refine box_event ?hg (N := 1) ?hd (cs := #[.slice A0_0 l0_0.length c0_0, .slice A0_1 l0_1.length c0_1, .slice A0_2 l0_2.length c0_2, .slice A0_3 l0_3.length c0_3]) (t := 31) ?hr ?_; (case hd => rfl); (case hg => rfl); (case hr => first | (go_simp; done) | (go_simp; rfl)); intro gb103 hg w5 hbox hb; have n0_ := Aside0.mk (below_step (by repeat (first | (with_reducible first | exact HB.out | apply below_alloc | apply pw_below_drewN | apply below_drew1) | exact HB.out)) hb); have n1_ := Aside0.mk (hbox); have n2_ := Aside0.mk ((by rw [hg]; exact (below_size (by repeat (first | (with_reducible first | exact HB.out | apply below_alloc | apply pw_below_drewN | apply below_drew1) | exact HB.out))) : w.heap.size ≤ gb103)); have n3_ := Aside0.mk ((by rw [hg]; exact (below_size (by repeat (first | (with_reducible first | exact HB.out | apply below_alloc | apply pw_below_drewN | apply below_drew1) | exact HB.out))) : w.heap.size ≤ gb103)); clear HB; have HB := n0_; have BK103 := n1_; have GW103 := n2_; have GE103 := n3_; clear n0_ n1_ n2_ n3_; clear hb hbox hg; have hcz6_0 : w5.cell? ⟨gb103, 0, none⟩ = some (.slice A0_0 l0_0.length c0_0) := (blk_cell BK103.out 0).trans rfl; have hcz6_1 : w5.cell? ⟨gb103, 1, none⟩ = some (.slice A0_1 l0_1.length c0_1) := (blk_cell BK103.out 1).trans rfl; have hcz6_2 : w5.cell? ⟨gb103, 2, none⟩ = some (.slice A0_2 l0_2.length c0_2) := (blk_cell BK103.out 2).trans rfl; have hcz6_3 : w5.cell? ⟨gb103, 3, none⟩ = some (.slice A0_3 l0_3.length c0_3) := (blk_cell BK103.out 3).trans rfl; have hfz6_0 := blk_frozen BK103.out 0; have hfz6_1 := blk_frozen BK103.out 1; have hfz6_2 := blk_frozen BK103.out 2; have hfz6_3 := blk_frozen BK103.out 3)))
        go_ret
        exact ⟨by first | rfl | (simp [errW_none, errW_some] <;> rfl) | (simp [*, errW_none, errW_some] <;> rfl), by repeat (first | (with_reducible first | exact HB.out | apply below_alloc | apply pw_below_drewN | apply below_drew1 | refine below_set ?_ GE103.out) | exact HB.out)⟩
      · rw [if_neg c4] at H
        have c4b0 : ((l0_2.length : Int) == 0) = false := beq_eq_false_iff_ne.mpr c4
        have c4b1 : ((l0_2.length : Int) != 0) = true := bne_iff_ne.mpr c4
        have c4b2 : ¬ (l0_2 = []) := fun h_ => c4 (by rw [h_]; rfl)
        obtain rfl := Option.some.inj H
        go_enter Try.func6, Try.ntmps6
        go_wp2_with (first | ((with_reducible refine gate_dst (N := 1) rfl ?_); (try (refine gate_guard (by rfl) ?_; dsimp only)); refine box_event ?hg (N := 1) ?hd (cs := #[.slice A0_0 l0_0.length c0_0, .slice A0_1 l0_1.length c0_1, .slice A0_2 l0_2.length c0_2, .slice A0_3 l0_3.length c0_3]) (t := 31) ?hr ?_; (case hd => rfl); (case hg => rfl); (case hr => first | (go_simp; done) | (go_simp; rfl)); intro gb103 hg w7 hbox hb; have n0_ := Aside0.mk (below_step (by repeat (first | (with_reducible first | exact HB.out | apply below_alloc | apply pw_below_drewN | apply below_drew1) | exact HB.out)) hb); have n1_ := Aside0.mk (hbox); have n2_ := Aside0.mk ((by rw [hg]; exact (below_size (by repeat (first | (with_reducible first | exact HB.out | apply below_alloc | apply pw_below_drewN | apply below_drew1) | exact HB.out))) : w.heap.size ≤ gb103)); have n3_ := Aside0.mk ((by rw [hg]; exact (below_size (by repeat (first | (with_reducible first | exact HB.out | apply below_alloc | apply pw_below_drewN | apply below_drew1) | exact HB.out))) : w.heap.size ≤ gb103)); clear HB; have HB := n0_; have BK103 := n1_; have GW103 := n2_; have GE103 := n3_; clear n0_ n1_ n2_ n3_; clear hb hbox hg; have hcz8_0 : w7.cell? ⟨gb103, 0, none⟩ = some (.slice A0_0 l0_0.length c0_0) := (blk_cell BK103.out 0).trans rfl; have hcz8_1 : w7.cell? ⟨gb103, 1, none⟩ = some (.slice A0_1 l0_1.length c0_1) := (blk_cell BK103.out 1).trans rfl; have hcz8_2 : w7.cell? ⟨gb103, 2, none⟩ = some (.slice A0_2 l0_2.length c0_2) := (blk_cell BK103.out 2).trans rfl; have hcz8_3 : w7.cell? ⟨gb103, 3, none⟩ = some (.slice A0_3 l0_3.length c0_3) := (blk_cell BK103.out 3).trans rfl; have hfz8_0 := blk_frozen BK103.out 0; have hfz8_1 := blk_frozen BK103.out 1; have hfz8_2 := blk_frozen BK103.out 2; have hfz8_3 := blk_frozen BK103.out 3))
        repeat (go_quiet (first | ((with_reducible refine gate_dst (N := 1) rfl ?_); (try (refine gate_guard (by rfl) ?_; dsimp only)); refine box_event ?hg (N := 1) ?hd (cs := #[.slice A0_0 l0_0.length c0_0, .slice A0_1 l0_1.length c0_1, .slice A0_2 l0_2.length c0_2, .slice A0_3 l0_3.length c0_3]) (t := 31) ?hr ?_; (case hd => rfl); (case hg => rfl); (case hr => first | (go_simp; done) | (go_simp; rfl)); intro gb103 hg w7 hbox hb; have n0_ := Aside0.mk (below_step (by repeat (first | (with_reducible first | exact HB.out | apply below_alloc | apply pw_below_drewN | apply below_drew1) | exact HB.out)) hb); have n1_ := Aside0.mk (hbox); have n2_ := Aside0.mk ((by rw [hg]; exact (below_size (by repeat (first | (with_reducible first | exact HB.out | apply below_alloc | apply pw_below_drewN | apply below_drew1) | exact HB.out))) : w.heap.size ≤ gb103)); have n3_ := Aside0.mk ((by rw [hg]; exact (below_size (by repeat (first | (with_reducible first | exact HB.out | apply below_alloc | apply pw_below_drewN | apply below_drew1) | exact HB.out))) : w.heap.size ≤ gb103)); clear HB; have HB := n0_; have BK103 := n1_; have GW103 := n2_; have GE103 := n3_; clear n0_ n1_ n2_ n3_; clear hb hbox hg; have hcz8_0 : w7.cell? ⟨gb103, 0, none⟩ = some (.slice A0_0 l0_0.length c0_0) := (blk_cell BK103.out 0).trans rfl; have hcz8_1 : w7.cell? ⟨gb103, 1, none⟩ = some (.slice A0_1 l0_1.length c0_1) := (blk_cell BK103.out 1).trans rfl; have hcz8_2 : w7.cell? ⟨gb103, 2, none⟩ = some (.slice A0_2 l0_2.length c0_2) := (blk_cell BK103.out 2).trans rfl; have hcz8_3 : w7.cell? ⟨gb103, 3, none⟩ = some (.slice A0_3 l0_3.length c0_3) := (blk_cell BK103.out 3).trans rfl; have hfz8_0 := blk_frozen BK103.out 0; have hfz8_1 := blk_frozen BK103.out 1; have hfz8_2 := blk_frozen BK103.out 2; have hfz8_3 := blk_frozen BK103.out 3)); try go_wp2_with (first | ((with_reducible refine gate_dst (N := 1) rfl ?_); (try (refine gate_guard (by rfl) ?_; dsimp only)); refine box_event ?hg (N := 1) ?hd (cs := #[.slice A0_0 l0_0.length c0_0, .slice A0_1 l0_1.length c0_1, .slice A0_2 l0_2.length c0_2, .slice A0_3 l0_3.length c0_3]) (t := 31) ?hr ?_; (case hd => rfl); (case hg => rfl); (case hr => first | (go_simp; done) | (go_simp; rfl)); intro gb103 hg w7 hbox hb; have n0_ := Aside0.mk (below_step (by repeat (first | (with_reducible first | exact HB.out | apply below_alloc | apply pw_below_drewN | apply below_drew1) | exact HB.out)) hb); have n1_ := Aside0.mk (hbox); have n2_ := Aside0.mk ((by rw [hg]; exact (below_size (by repeat (first | (with_reducible first | exact HB.out | apply below_alloc | apply pw_below_drewN | apply below_drew1) | exact HB.out))) : w.heap.size ≤ gb103)); have n3_ := Aside0.mk ((by rw [hg]; exact (below_size (by repeat (first | (with_reducible first | exact HB.out | apply below_alloc | apply pw_below_drewN | apply below_drew1) | exact HB.out))) : w.heap.size ≤ gb103)); clear HB; have HB := n0_; have BK103 := n1_; have GW103 := n2_; have GE103 := n3_; clear n0_ n1_ n2_ n3_; clear hb hbox hg; have hcz8_0 : w7.cell? ⟨gb103, 0, none⟩ = some (.slice A0_0 l0_0.length c0_0) := (blk_cell BK103.out 0).trans rfl; have hcz8_1 : w7.cell? ⟨gb103, 1, none⟩ = some (.slice A0_1 l0_1.length c0_1) := (blk_cell BK103.out 1).trans rfl; have hcz8_2 : w7.cell? ⟨gb103, 2, none⟩ = some (.slice A0_2 l0_2.length c0_2) := (blk_cell BK103.out 2).trans rfl; have hcz8_3 : w7.cell? ⟨gb103, 3, none⟩ = some (.slice A0_3 l0_3.length c0_3) := (blk_cell BK103.out 3).trans rfl; have hfz8_0 := blk_frozen BK103.out 0; have hfz8_1 := blk_frozen BK103.out 1; have hfz8_2 := blk_frozen BK103.out 2; have hfz8_3 := blk_frozen BK103.out 3)))
        go_ret
        exact ⟨by first | rfl | (simp [errW_none, errW_some] <;> rfl) | (simp [*, errW_none, errW_some] <;> rfl), by repeat (first | (with_reducible first | exact HB.out | apply below_alloc | apply pw_below_drewN | apply below_drew1 | refine below_set ?_ GE103.out) | exact HB.out)⟩
    · rw [if_neg c3] at H
      have c3b0 : ((l0_1.length : Int) == 0) = false := beq_eq_false_iff_ne.mpr c3
      have c3b1 : ((l0_1.length : Int) != 0) = true := bne_iff_ne.mpr c3
      have c3b2 : ¬ (l0_1 = []) := fun h_ => c3 (by rw [h_]; rfl)
      obtain rfl := Option.some.inj H
      go_enter Try.func6, Try.ntmps6
      go_wp2_with (first | ((with_reducible refine gate_dst (N := 1) rfl ?_); (try (refine gate_guard (by rfl) ?_; dsimp only)); refine box_event ?hg (N := 1) ?hd (cs := #[.slice A0_0 l0_0.length c0_0, .slice A0_1 l0_1.length c0_1, .slice A0_2 l0_2.length c0_2, .slice A0_3 l0_3.length c0_3]) (t := 31) ?hr ?_; (case hd => rfl); (case hg => rfl); (case hr => first | (go_simp; done) | (go_simp; rfl)); intro gb103 hg w9 hbox hb; have n0_ := Aside0.mk (below_step (by repeat (first | (with_reducible first | exact HB.out | apply below_alloc | apply pw_below_drewN | apply below_drew1) | exact HB.out)) hb); have n1_ := Aside0.mk (hbox); have n2_ := Aside0.mk ((by rw [hg]; exact (below_size (by repeat (first | (with_reducible first | exact HB.out | apply below_alloc | apply pw_below_drewN | apply below_drew1) | exact HB.out))) : w.heap.size ≤ gb103)); have n3_ := Aside0.mk ((by rw [hg]; exact (below_size (by repeat (first | (with_reducible first | exact HB.out | apply below_alloc | apply pw_below_drewN | apply below_drew1) | exact HB.out))) : w.heap.size ≤ gb103)); clear HB; have HB := n0_; have BK103 := n1_; have GW103 := n2_; have GE103 := n3_; clear n0_ n1_ n2_ n3_; clear hb hbox hg; have hcz10_0 : w9.cell? ⟨gb103, 0, none⟩ = some (.slice A0_0 l0_0.length c0_0) := (blk_cell BK103.out 0).trans rfl; have hcz10_1 : w9.cell? ⟨gb103, 1, none⟩ = some (.slice A0_1 l0_1.length c0_1) := (blk_cell BK103.out 1).trans rfl; have hcz10_2 : w9.cell? ⟨gb103, 2, none⟩ = some (.slice A0_2 l0_2.length c0_2) := (blk_cell BK103.out 2).trans rfl; have hcz10_3 : w9.cell? ⟨gb103, 3, none⟩ = some (.slice A0_3 l0_3.length c0_3) := (blk_cell BK103.out 3).trans rfl; have hfz10_0 := blk_frozen BK103.out 0; have hfz10_1 := blk_frozen BK103.out 1; have hfz10_2 := blk_frozen BK103.out 2; have hfz10_3 := blk_frozen BK103.out 3))
      repeat (go_quiet (first | ((with_reducible refine gate_dst (N := 1) rfl ?_); (try (refine gate_guard (by rfl) ?_; dsimp only)); refine box_event ?hg (N := 1) ?hd (cs := #[.slice A0_0 l0_0.length c0_0, .slice A0_1 l0_1.length c0_1, .slice A0_2 l0_2.length c0_2, .slice A0_3 l0_3.length c0_3]) (t := 31) ?hr ?_; (case hd => rfl); (case hg => rfl); (case hr => first | (go_simp; done) | (go_simp; rfl)); intro gb103 hg w9 hbox hb; have n0_ := Aside0.mk (below_step (by repeat (first | (with_reducible first | exact HB.out | apply below_alloc | apply pw_below_drewN | apply below_drew1) | exact HB.out)) hb); have n1_ := Aside0.mk (hbox); have n2_ := Aside0.mk ((by rw [hg]; exact (below_size (by repeat (first | (with_reducible first | exact HB.out | apply below_alloc | apply pw_below_drewN | apply below_drew1) | exact HB.out))) : w.heap.size ≤ gb103)); have n3_ := Aside0.mk ((by rw [hg]; exact (below_size (by repeat (first | (with_reducible first | exact HB.out | apply below_alloc | apply pw_below_drewN | apply below_drew1) | exact HB.out))) : w.heap.size ≤ gb103)); clear HB; have HB := n0_; have BK103 := n1_; have GW103 := n2_; have GE103 := n3_; clear n0_ n1_ n2_ n3_; clear hb hbox hg; have hcz10_0 : w9.cell? ⟨gb103, 0, none⟩ = some (.slice A0_0 l0_0.length c0_0) := (blk_cell BK103.out 0).trans rfl; have hcz10_1 : w9.cell? ⟨gb103, 1, none⟩ = some (.slice A0_1 l0_1.length c0_1) := (blk_cell BK103.out 1).trans rfl; have hcz10_2 : w9.cell? ⟨gb103, 2, none⟩ = some (.slice A0_2 l0_2.length c0_2) := (blk_cell BK103.out 2).trans rfl; have hcz10_3 : w9.cell? ⟨gb103, 3, none⟩ = some (.slice A0_3 l0_3.length c0_3) := (blk_cell BK103.out 3).trans rfl; have hfz10_0 := blk_frozen BK103.out 0; have hfz10_1 := blk_frozen BK103.out 1; have hfz10_2 := blk_frozen BK103.out 2; have hfz10_3 := blk_frozen BK103.out 3)); try go_wp2_with (first | ((with_reducible refine gate_dst (N := 1) rfl ?_); (try (refine gate_guard (by rfl) ?_; dsimp only)); refine box_event ?hg (N := 1) ?hd (cs := #[.slice A0_0 l0_0.length c0_0, .slice A0_1 l0_1.length c0_1, .slice A0_2 l0_2.length c0_2, .slice A0_3 l0_3.length c0_3]) (t := 31) ?hr ?_; (case hd => rfl); (case hg => rfl); (case hr => first | (go_simp; done) | (go_simp; rfl)); intro gb103 hg w9 hbox hb; have n0_ := Aside0.mk (below_step (by repeat (first | (with_reducible first | exact HB.out | apply below_alloc | apply pw_below_drewN | apply below_drew1) | exact HB.out)) hb); have n1_ := Aside0.mk (hbox); have n2_ := Aside0.mk ((by rw [hg]; exact (below_size (by repeat (first | (with_reducible first | exact HB.out | apply below_alloc | apply pw_below_drewN | apply below_drew1) | exact HB.out))) : w.heap.size ≤ gb103)); have n3_ := Aside0.mk ((by rw [hg]; exact (below_size (by repeat (first | (with_reducible first | exact HB.out | apply below_alloc | apply pw_below_drewN | apply below_drew1) | exact HB.out))) : w.heap.size ≤ gb103)); clear HB; have HB := n0_; have BK103 := n1_; have GW103 := n2_; have GE103 := n3_; clear n0_ n1_ n2_ n3_; clear hb hbox hg; have hcz10_0 : w9.cell? ⟨gb103, 0, none⟩ = some (.slice A0_0 l0_0.length c0_0) := (blk_cell BK103.out 0).trans rfl; have hcz10_1 : w9.cell? ⟨gb103, 1, none⟩ = some (.slice A0_1 l0_1.length c0_1) := (blk_cell BK103.out 1).trans rfl; have hcz10_2 : w9.cell? ⟨gb103, 2, none⟩ = some (.slice A0_2 l0_2.length c0_2) := (blk_cell BK103.out 2).trans rfl; have hcz10_3 : w9.cell? ⟨gb103, 3, none⟩ = some (.slice A0_3 l0_3.length c0_3) := (blk_cell BK103.out 3).trans rfl; have hfz10_0 := blk_frozen BK103.out 0; have hfz10_1 := blk_frozen BK103.out 1; have hfz10_2 := blk_frozen BK103.out 2; have hfz10_3 := blk_frozen BK103.out 3)))
      go_ret
      exact ⟨by first | rfl | (simp [errW_none, errW_some] <;> rfl) | (simp [*, errW_none, errW_some] <;> rfl), by repeat (first | (with_reducible first | exact HB.out | apply below_alloc | apply pw_below_drewN | apply below_drew1 | refine below_set ?_ GE103.out) | exact HB.out)⟩
  · rw [if_neg c2] at H
    have c2b0 : ((l0_0.length : Int) == 0) = false := beq_eq_false_iff_ne.mpr c2
    have c2b1 : ((l0_0.length : Int) != 0) = true := bne_iff_ne.mpr c2
    have c2b2 : ¬ (l0_0 = []) := fun h_ => c2 (by rw [h_]; rfl)
    have HC11 := Aside0.mk H
    clear H
    go_enter Try.func6, Try.ntmps6
    go_upto_region 3 with (first | ((with_reducible refine gate_dst (N := 1) rfl ?_); (try (refine gate_guard (by rfl) ?_; dsimp only)); refine box_event ?hg (N := 1) ?hd (cs := #[.slice A0_0 l0_0.length c0_0, .slice A0_1 l0_1.length c0_1, .slice A0_2 l0_2.length c0_2, .slice A0_3 l0_3.length c0_3]) (t := 31) ?hr ?_; (case hd => rfl); (case hg => rfl); (case hr => first | (go_simp; done) | (go_simp; rfl)); intro gb103 hg w12 hbox hb; have n0_ := Aside0.mk (below_step (by repeat (first | (with_reducible first | exact HB.out | apply below_alloc | apply pw_below_drewN | apply below_drew1) | exact HB.out)) hb); have n1_ := Aside0.mk (hbox); have n2_ := Aside0.mk ((by rw [hg]; exact (below_size (by repeat (first | (with_reducible first | exact HB.out | apply below_alloc | apply pw_below_drewN | apply below_drew1) | exact HB.out))) : w.heap.size ≤ gb103)); have n3_ := Aside0.mk ((by rw [hg]; exact (below_size (by repeat (first | (with_reducible first | exact HB.out | apply below_alloc | apply pw_below_drewN | apply below_drew1) | exact HB.out))) : w.heap.size ≤ gb103)); clear HB; have HB := n0_; have BK103 := n1_; have GW103 := n2_; have GE103 := n3_; clear n0_ n1_ n2_ n3_; clear hb hbox hg; have hcz13_0 : w12.cell? ⟨gb103, 0, none⟩ = some (.slice A0_0 l0_0.length c0_0) := (blk_cell BK103.out 0).trans rfl; have hcz13_1 : w12.cell? ⟨gb103, 1, none⟩ = some (.slice A0_1 l0_1.length c0_1) := (blk_cell BK103.out 1).trans rfl; have hcz13_2 : w12.cell? ⟨gb103, 2, none⟩ = some (.slice A0_2 l0_2.length c0_2) := (blk_cell BK103.out 2).trans rfl; have hcz13_3 : w12.cell? ⟨gb103, 3, none⟩ = some (.slice A0_3 l0_3.length c0_3) := (blk_cell BK103.out 3).trans rfl; have hfz13_0 := blk_frozen BK103.out 0; have hfz13_1 := blk_frozen BK103.out 1; have hfz13_2 := blk_frozen BK103.out 2; have hfz13_3 := blk_frozen BK103.out 3))
    repeat (go_quiet (first | ((with_reducible refine gate_dst (N := 1) rfl ?_); (try (refine gate_guard (by rfl) ?_; dsimp only)); refine box_event ?hg (N := 1) ?hd (cs := #[.slice A0_0 l0_0.length c0_0, .slice A0_1 l0_1.length c0_1, .slice A0_2 l0_2.length c0_2, .slice A0_3 l0_3.length c0_3]) (t := 31) ?hr ?_; (case hd => rfl); (case hg => rfl); (case hr => first | (go_simp; done) | (go_simp; rfl)); intro gb103 hg w12 hbox hb; have n0_ := Aside0.mk (below_step (by repeat (first | (with_reducible first | exact HB.out | apply below_alloc | apply pw_below_drewN | apply below_drew1) | exact HB.out)) hb); have n1_ := Aside0.mk (hbox); have n2_ := Aside0.mk ((by rw [hg]; exact (below_size (by repeat (first | (with_reducible first | exact HB.out | apply below_alloc | apply pw_below_drewN | apply below_drew1) | exact HB.out))) : w.heap.size ≤ gb103)); have n3_ := Aside0.mk ((by rw [hg]; exact (below_size (by repeat (first | (with_reducible first | exact HB.out | apply below_alloc | apply pw_below_drewN | apply below_drew1) | exact HB.out))) : w.heap.size ≤ gb103)); clear HB; have HB := n0_; have BK103 := n1_; have GW103 := n2_; have GE103 := n3_; clear n0_ n1_ n2_ n3_; clear hb hbox hg; have hcz13_0 : w12.cell? ⟨gb103, 0, none⟩ = some (.slice A0_0 l0_0.length c0_0) := (blk_cell BK103.out 0).trans rfl; have hcz13_1 : w12.cell? ⟨gb103, 1, none⟩ = some (.slice A0_1 l0_1.length c0_1) := (blk_cell BK103.out 1).trans rfl; have hcz13_2 : w12.cell? ⟨gb103, 2, none⟩ = some (.slice A0_2 l0_2.length c0_2) := (blk_cell BK103.out 2).trans rfl; have hcz13_3 : w12.cell? ⟨gb103, 3, none⟩ = some (.slice A0_3 l0_3.length c0_3) := (blk_cell BK103.out 3).trans rfl; have hfz13_0 := blk_frozen BK103.out 0; have hfz13_1 := blk_frozen BK103.out 1; have hfz13_2 := blk_frozen BK103.out 2; have hfz13_3 := blk_frozen BK103.out 3)); go_upto_region 3 with (first | ((with_reducible refine gate_dst (N := 1) rfl ?_); (try (refine gate_guard (by rfl) ?_; dsimp only)); refine box_event ?hg (N := 1) ?hd (cs := #[.slice A0_0 l0_0.length c0_0, .slice A0_1 l0_1.length c0_1, .slice A0_2 l0_2.length c0_2, .slice A0_3 l0_3.length c0_3]) (t := 31) ?hr ?_; (case hd => rfl); (case hg => rfl); (case hr => first | (go_simp; done) | (go_simp; rfl)); intro gb103 hg w12 hbox hb; have n0_ := Aside0.mk (below_step (by repeat (first | (with_reducible first | exact HB.out | apply below_alloc | apply pw_below_drewN | apply below_drew1) | exact HB.out)) hb); have n1_ := Aside0.mk (hbox); have n2_ := Aside0.mk ((by rw [hg]; exact (below_size (by repeat (first | (with_reducible first | exact HB.out | apply below_alloc | apply pw_below_drewN | apply below_drew1) | exact HB.out))) : w.heap.size ≤ gb103)); have n3_ := Aside0.mk ((by rw [hg]; exact (below_size (by repeat (first | (with_reducible first | exact HB.out | apply below_alloc | apply pw_below_drewN | apply below_drew1) | exact HB.out))) : w.heap.size ≤ gb103)); clear HB; have HB := n0_; have BK103 := n1_; have GW103 := n2_; have GE103 := n3_; clear n0_ n1_ n2_ n3_; clear hb hbox hg; have hcz13_0 : w12.cell? ⟨gb103, 0, none⟩ = some (.slice A0_0 l0_0.length c0_0) := (blk_cell BK103.out 0).trans rfl; have hcz13_1 : w12.cell? ⟨gb103, 1, none⟩ = some (.slice A0_1 l0_1.length c0_1) := (blk_cell BK103.out 1).trans rfl; have hcz13_2 : w12.cell? ⟨gb103, 2, none⟩ = some (.slice A0_2 l0_2.length c0_2) := (blk_cell BK103.out 2).trans rfl; have hcz13_3 : w12.cell? ⟨gb103, 3, none⟩ = some (.slice A0_3 l0_3.length c0_3) := (blk_cell BK103.out 3).trans rfl; have hfz13_0 := blk_frozen BK103.out 0; have hfz13_1 := blk_frozen BK103.out 1; have hfz13_2 := blk_frozen BK103.out 2; have hfz13_3 := blk_frozen BK103.out 3)))
    (try simp only [Act.put, List.setIfInBounds_toArray, List.set_cons_zero, List.set_cons_succ])
    go_cut [67] (fun v67 wc => ∃ (kq : Nat) (x67_10 : Bool), v67 = .bool x67_10 ∧ Aside0 (spec_GoodZone.j0 kq x67_10 l0_0 l0_1 l0_2 l0_3 = some r) ∧ Aside0 (kq ≤ k) ∧ Aside0 (wc.heap[gb103]? = some (.cells #[(.slice A0_0 l0_0.length c0_0), (.slice A0_1 l0_1.length c0_1), (.slice A0_2 l0_2.length c0_2), (.slice A0_3 l0_3.length c0_3)] 31 (0, 0))) ∧ Aside0 (Below w.heap.size w wc))
    case first =>
      have H := HC11.out
      clear HC11
      by_cases c14 : (l0_0.length : Int) > 64
      · rw [if_pos c14] at H
        have c14b0 : decide (64 < (l0_0.length : Int)) = true := decide_eq_true c14
        have c14b1 : decide (64 < l0_0.length) = true := decide_eq_true (by omega)
        clear c14
        (first | rw [c14b0] | (simp only [i64_w, i32_w]; rw [c14b0]) | skip)
        have H' := Aside0.mk H
        clear H
        have hcz15_0 : w12.cell? ⟨gb103, 0, none⟩ = some (.slice A0_0 l0_0.length c0_0) := (blk_cell BK103.out 0).trans rfl
        have hcz15_1 : w12.cell? ⟨gb103, 1, none⟩ = some (.slice A0_1 l0_1.length c0_1) := (blk_cell BK103.out 1).trans rfl
        have hcz15_2 : w12.cell? ⟨gb103, 2, none⟩ = some (.slice A0_2 l0_2.length c0_2) := (blk_cell BK103.out 2).trans rfl
        have hcz15_3 : w12.cell? ⟨gb103, 3, none⟩ = some (.slice A0_3 l0_3.length c0_3) := (blk_cell BK103.out 3).trans rfl
        have hfz15_0 := blk_frozen BK103.out 0
        have hfz15_1 := blk_frozen BK103.out 1
        have hfz15_2 := blk_frozen BK103.out 2
        have hfz15_3 := blk_frozen BK103.out 3
        go_wp2
        repeat (go_quiet (fail); try go_wp2)
        go_meet
        case rel => exact ⟨_, (true), (by first | rfl | (simp; done) | (simp [*]; done)), H', ⟨by first | omega | exact Nat.le_refl _⟩, ⟨by (with_reducible repeat (first | refine blk_drewN ?_ _ | refine blk_drew ?_ | refine blk_alloc ?_ _)); exact BK103.out⟩, ⟨by repeat (first | (with_reducible first | exact HB.out | apply below_alloc | apply pw_below_drewN | apply below_drew1 | refine below_set ?_ GE103.out) | exact HB.out)⟩⟩
      · rw [if_neg c14] at H
        have c14b0 : decide (64 < (l0_0.length : Int)) = false := decide_eq_false c14
        have c14b1 : decide (64 < l0_0.length) = false := decide_eq_false (by omega)
        clear c14
        (first | rw [c14b0] | (simp only [i64_w, i32_w]; rw [c14b0]) | skip)
        by_cases c16 : (l0_1.length : Int) = (l0_0.length : Int)
        · rw [if_pos c16] at H
          have c16b0 : ((l0_1.length : Int) == (l0_0.length : Int)) = true := beq_iff_eq.mpr c16
          have c16b1 : ((l0_1.length : Int) != (l0_0.length : Int)) = false := bne_eq_false_iff_eq.mpr c16
          have c16b2 : (l0_1.length == l0_0.length) = true := by first | simpa using c16 | (simp at c16 ⊢; omega)
          clear c16
          by_cases c17 : (l0_2.length : Int) = 0
          · rw [if_pos c17] at H
            have c17b0 : ((l0_2.length : Int) == 0) = true := beq_iff_eq.mpr c17
            have c17b1 : ((l0_2.length : Int) != 0) = false := bne_eq_false_iff_eq.mpr c17
            clear c17
            have H' := Aside0.mk H
            clear H
            have hcz18_0 : w12.cell? ⟨gb103, 0, none⟩ = some (.slice A0_0 l0_0.length c0_0) := (blk_cell BK103.out 0).trans rfl
            have hcz18_1 : w12.cell? ⟨gb103, 1, none⟩ = some (.slice A0_1 l0_1.length c0_1) := (blk_cell BK103.out 1).trans rfl
            have hcz18_2 : w12.cell? ⟨gb103, 2, none⟩ = some (.slice A0_2 l0_2.length c0_2) := (blk_cell BK103.out 2).trans rfl
            have hcz18_3 : w12.cell? ⟨gb103, 3, none⟩ = some (.slice A0_3 l0_3.length c0_3) := (blk_cell BK103.out 3).trans rfl
            have hfz18_0 := blk_frozen BK103.out 0
            have hfz18_1 := blk_frozen BK103.out 1
            have hfz18_2 := blk_frozen BK103.out 2
            have hfz18_3 := blk_frozen BK103.out 3
            go_wp2
            repeat (go_quiet (fail); try go_wp2)
            go_meet
            case rel => exact ⟨_, (true), (by first | rfl | (simp; done) | (simp [*]; done)), H', ⟨by first | omega | exact Nat.le_refl _⟩, ⟨by (with_reducible repeat (first | refine blk_drewN ?_ _ | refine blk_drew ?_ | refine blk_alloc ?_ _)); exact BK103.out⟩, ⟨by repeat (first | (with_reducible first | exact HB.out | apply below_alloc | apply pw_below_drewN | apply below_drew1 | refine below_set ?_ GE103.out) | exact HB.out)⟩⟩
          · rw [if_neg c17] at H
            have c17b0 : ((l0_2.length : Int) == 0) = false := beq_eq_false_iff_ne.mpr c17
            have c17b1 : ((l0_2.length : Int) != 0) = true := bne_iff_ne.mpr c17
            have c17b2 : ¬ (l0_2 = []) := fun h_ => c17 (by rw [h_]; rfl)
            by_cases c19 : (l0_2.length : Int) > 4096
            · rw [if_pos c19] at H
              have c19b0 : decide (4096 < (l0_2.length : Int)) = true := decide_eq_true c19
              have c19b1 : decide (4096 < l0_2.length) = true := decide_eq_true (by omega)
              clear c19
              have H' := Aside0.mk H
              clear H
              have hcz20_0 : w12.cell? ⟨gb103, 0, none⟩ = some (.slice A0_0 l0_0.length c0_0) := (blk_cell BK103.out 0).trans rfl
              have hcz20_1 : w12.cell? ⟨gb103, 1, none⟩ = some (.slice A0_1 l0_1.length c0_1) := (blk_cell BK103.out 1).trans rfl
              have hcz20_2 : w12.cell? ⟨gb103, 2, none⟩ = some (.slice A0_2 l0_2.length c0_2) := (blk_cell BK103.out 2).trans rfl
              have hcz20_3 : w12.cell? ⟨gb103, 3, none⟩ = some (.slice A0_3 l0_3.length c0_3) := (blk_cell BK103.out 3).trans rfl
              have hfz20_0 := blk_frozen BK103.out 0
              have hfz20_1 := blk_frozen BK103.out 1
              have hfz20_2 := blk_frozen BK103.out 2
              have hfz20_3 := blk_frozen BK103.out 3
              go_wp2
              repeat (go_quiet (fail); try go_wp2)
              go_meet
              case rel => exact ⟨_, (true), (by first | rfl | (simp; done) | (simp [*]; done)), H', ⟨by first | omega | exact Nat.le_refl _⟩, ⟨by (with_reducible repeat (first | refine blk_drewN ?_ _ | refine blk_drew ?_ | refine blk_alloc ?_ _)); exact BK103.out⟩, ⟨by repeat (first | (with_reducible first | exact HB.out | apply below_alloc | apply pw_below_drewN | apply below_drew1 | refine below_set ?_ GE103.out) | exact HB.out)⟩⟩
            · rw [if_neg c19] at H
              have c19b0 : decide (4096 < (l0_2.length : Int)) = false := decide_eq_false c19
              have c19b1 : decide (4096 < l0_2.length) = false := decide_eq_false (by omega)
              clear c19
              by_cases c21 : (l0_3.length : Int) = (l0_2.length : Int)
              · rw [if_pos c21] at H
                have c21b0 : ((l0_3.length : Int) == (l0_2.length : Int)) = true := beq_iff_eq.mpr c21
                have c21b1 : ((l0_3.length : Int) != (l0_2.length : Int)) = false := bne_eq_false_iff_eq.mpr c21
                have c21b2 : (l0_3.length == l0_2.length) = true := by first | simpa using c21 | (simp at c21 ⊢; omega)
                clear c21
                by_cases c22 : 0 < (l0_2.length : Int)
                · rw [if_pos c22] at H
                  have c22b0 : decide (0 < (l0_2.length : Int)) = true := decide_eq_true c22
                  have c22b1 : decide (0 < l0_2.length) = true := decide_eq_true (by omega)
                  clear c22
                  have H' := Aside0.mk H
                  clear H
                  have hcz23_0 : w12.cell? ⟨gb103, 0, none⟩ = some (.slice A0_0 l0_0.length c0_0) := (blk_cell BK103.out 0).trans rfl
                  have hcz23_1 : w12.cell? ⟨gb103, 1, none⟩ = some (.slice A0_1 l0_1.length c0_1) := (blk_cell BK103.out 1).trans rfl
                  have hcz23_2 : w12.cell? ⟨gb103, 2, none⟩ = some (.slice A0_2 l0_2.length c0_2) := (blk_cell BK103.out 2).trans rfl
                  have hcz23_3 : w12.cell? ⟨gb103, 3, none⟩ = some (.slice A0_3 l0_3.length c0_3) := (blk_cell BK103.out 3).trans rfl
                  have hfz23_0 := blk_frozen BK103.out 0
                  have hfz23_1 := blk_frozen BK103.out 1
                  have hfz23_2 := blk_frozen BK103.out 2
                  have hfz23_3 := blk_frozen BK103.out 3
                  have p104 : 0 ≤ (0 : Int) := (by omega)
                  have q104 : 0 < (l0_2.length : Int) := of_decide_eq_true (by first | (with_reducible assumption) | assumption)
                  obtain ⟨ad104, e104, hx104_0⟩ := Kd.at_int HR0_2.out 0 p104 q104
                  cases e104
                  have qi104 : (0 < l0_2.length) = True := eq_true (by omega)
                  (try rw [show ((0 : Int)).toNat = 0 from rfl] at hx104_0)
                  (try rw [Addr.add_zero'] at hx104_0)
                  replace hx104_0 := (HB.out.cell (World.block_lt_of_cell? w _ hx104_0)).trans hx104_0
                  replace p104 := eq_true p104
                  replace q104 := eq_true q104
                  go_wp2
                  repeat (go_quiet (fail); try go_wp2)
                  go_meet
                  case rel => exact ⟨_, (((rd l0_2 0) != (-9223372036854775808))), (by first | rfl | (simp; done) | (simp [*]; done)), H', ⟨by first | omega | exact Nat.le_refl _⟩, ⟨by (with_reducible repeat (first | refine blk_drewN ?_ _ | refine blk_drew ?_ | refine blk_alloc ?_ _)); exact BK103.out⟩, ⟨by repeat (first | (with_reducible first | exact HB.out | apply below_alloc | apply pw_below_drewN | apply below_drew1 | refine below_set ?_ GE103.out) | exact HB.out)⟩⟩
                · rw [if_neg c22] at H
                  exact absurd H (by simp)
              · rw [if_neg c21] at H
                have c21b0 : ((l0_3.length : Int) == (l0_2.length : Int)) = false := beq_eq_false_iff_ne.mpr c21
                have c21b1 : ((l0_3.length : Int) != (l0_2.length : Int)) = true := bne_iff_ne.mpr c21
                have c21b2 : (l0_3.length == l0_2.length) = false := by first | simpa using c21 | (simp at c21 ⊢; omega)
                have H' := Aside0.mk H
                clear H
                have hcz24_0 : w12.cell? ⟨gb103, 0, none⟩ = some (.slice A0_0 l0_0.length c0_0) := (blk_cell BK103.out 0).trans rfl
                have hcz24_1 : w12.cell? ⟨gb103, 1, none⟩ = some (.slice A0_1 l0_1.length c0_1) := (blk_cell BK103.out 1).trans rfl
                have hcz24_2 : w12.cell? ⟨gb103, 2, none⟩ = some (.slice A0_2 l0_2.length c0_2) := (blk_cell BK103.out 2).trans rfl
                have hcz24_3 : w12.cell? ⟨gb103, 3, none⟩ = some (.slice A0_3 l0_3.length c0_3) := (blk_cell BK103.out 3).trans rfl
                have hfz24_0 := blk_frozen BK103.out 0
                have hfz24_1 := blk_frozen BK103.out 1
                have hfz24_2 := blk_frozen BK103.out 2
                have hfz24_3 := blk_frozen BK103.out 3
                go_wp2
                repeat (go_quiet (fail); try go_wp2)
                go_meet
                case rel => exact ⟨_, (true), (by first | rfl | (simp; done) | (simp [*]; done)), H', ⟨by first | omega | exact Nat.le_refl _⟩, ⟨by (with_reducible repeat (first | refine blk_drewN ?_ _ | refine blk_drew ?_ | refine blk_alloc ?_ _)); exact BK103.out⟩, ⟨by repeat (first | (with_reducible first | exact HB.out | apply below_alloc | apply pw_below_drewN | apply below_drew1 | refine below_set ?_ GE103.out) | exact HB.out)⟩⟩
        · rw [if_neg c16] at H
          have c16b0 : ((l0_1.length : Int) == (l0_0.length : Int)) = false := beq_eq_false_iff_ne.mpr c16
          have c16b1 : ((l0_1.length : Int) != (l0_0.length : Int)) = true := bne_iff_ne.mpr c16
          have c16b2 : (l0_1.length == l0_0.length) = false := by first | simpa using c16 | (simp at c16 ⊢; omega)
          have H' := Aside0.mk H
          clear H
          have hcz25_0 : w12.cell? ⟨gb103, 0, none⟩ = some (.slice A0_0 l0_0.length c0_0) := (blk_cell BK103.out 0).trans rfl
          have hcz25_1 : w12.cell? ⟨gb103, 1, none⟩ = some (.slice A0_1 l0_1.length c0_1) := (blk_cell BK103.out 1).trans rfl
          have hcz25_2 : w12.cell? ⟨gb103, 2, none⟩ = some (.slice A0_2 l0_2.length c0_2) := (blk_cell BK103.out 2).trans rfl
          have hcz25_3 : w12.cell? ⟨gb103, 3, none⟩ = some (.slice A0_3 l0_3.length c0_3) := (blk_cell BK103.out 3).trans rfl
          have hfz25_0 := blk_frozen BK103.out 0
          have hfz25_1 := blk_frozen BK103.out 1
          have hfz25_2 := blk_frozen BK103.out 2
          have hfz25_3 := blk_frozen BK103.out 3
          go_wp2
          repeat (go_quiet (fail); try go_wp2)
          go_meet
          case rel => exact ⟨_, (true), (by first | rfl | (simp; done) | (simp [*]; done)), H', ⟨by first | omega | exact Nat.le_refl _⟩, ⟨by (with_reducible repeat (first | refine blk_drewN ?_ _ | refine blk_drew ?_ | refine blk_alloc ?_ _)); exact BK103.out⟩, ⟨by repeat (first | (with_reducible first | exact HB.out | apply below_alloc | apply pw_below_drewN | apply below_drew1 | refine below_set ?_ GE103.out) | exact HB.out)⟩⟩
    case rest =>
      clear HC11
      try clear c1
      try clear p1
      try clear q1
      try clear hx1
      try clear qi1
      try clear c2
      try clear c2b0
      try clear c2b1
      try clear c2b2
      try clear p2
      try clear c3
      try clear c3b0
      try clear c3b1
      try clear c3b2
      try clear c4
      try clear c4b0
      try clear c4b1
      try clear c4b2
      try clear c6
      try clear p10
      try clear q10
      try clear hx10
      try clear qi10
      try clear c14
      try clear c14b0
      try clear c14b1
      try clear c16
      try clear c16b0
      try clear c16b1
      try clear c16b2
      try clear c17
      try clear c17b0
      try clear c17b1
      try clear c17b2
      try clear c19
      try clear c19b0
      try clear c19b1
      try clear c21
      try clear c21b0
      try clear c21b1
      try clear c21b2
      try clear c22
      try clear c22b0
      try clear c22b1
      try clear hcz10_0
      try clear hcz10_1
      try clear hcz10_2
      try clear hcz10_3
      try clear hcz13_0
      try clear hcz13_1
      try clear hcz13_2
      try clear hcz13_3
      try clear hcz15_0
      try clear hcz15_1
      try clear hcz15_2
      try clear hcz15_3
      try clear hcz18_0
      try clear hcz18_1
      try clear hcz18_2
      try clear hcz18_3
      try clear hcz20_0
      try clear hcz20_1
      try clear hcz20_2
      try clear hcz20_3
      try clear hcz23_0
      try clear hcz23_1
      try clear hcz23_2
      try clear hcz23_3
      try clear hcz24_0
      try clear hcz24_1
      try clear hcz24_2
      try clear hcz24_3
      try clear hcz25_0
      try clear hcz25_1
      try clear hcz25_2
      try clear hcz25_3
      try clear hcz6_0
      try clear hcz6_1
      try clear hcz6_2
      try clear hcz6_3
      try clear hcz8_0
      try clear hcz8_1
      try clear hcz8_2
      try clear hcz8_3
      try clear hfz10_0
      try clear hfz10_1
      try clear hfz10_2
      try clear hfz10_3
      try clear hfz13_0
      try clear hfz13_1
      try clear hfz13_2
      try clear hfz13_3
      try clear hfz15_0
      try clear hfz15_1
      try clear hfz15_2
      try clear hfz15_3
      try clear hfz18_0
      try clear hfz18_1
      try clear hfz18_2
      try clear hfz18_3
      try clear hfz20_0
      try clear hfz20_1
      try clear hfz20_2
      try clear hfz20_3
      try clear hfz23_0
      try clear hfz23_1
      try clear hfz23_2
      try clear hfz23_3
      try clear hfz24_0
      try clear hfz24_1
      try clear hfz24_2
      try clear hfz24_3
      try clear hfz25_0
      try clear hfz25_1
      try clear hfz25_2
      try clear hfz25_3
      try clear hfz6_0
      try clear hfz6_1
      try clear hfz6_2
      try clear hfz6_3
      try clear hfz8_0
      try clear hfz8_1
      try clear hfz8_2
      try clear hfz8_3
      try clear hx104_0
      try clear p104
      try clear q104
      obtain ⟨kq, x67_10, rfl, HA, HJ10, BK103, HB⟩ := hcut
      cases kq with
      | zero => exact absurd HA.out (by simp [spec_GoodZone.j0])
      | succ kj10 =>
        have H := HA.out
        clear HA
        simp only [spec_GoodZone.j0] at H
        by_cases c26 : x67_10 = true
        · subst c26
          have H1 : (some false) = some r := by rw [if_pos rfl] at H; exact H
          clear H
          have H := H1
          clear H1
          obtain rfl := Option.some.inj H
          go_wp2
          repeat (go_quiet (fail); try go_wp2)
          go_ret
          exact ⟨by first | rfl | (simp [errW_none, errW_some] <;> rfl) | (simp [*, errW_none, errW_some] <;> rfl), by repeat (first | (with_reducible first | exact HB.out | apply below_alloc | apply pw_below_drewN | apply below_drew1 | refine below_set ?_ GE103.out) | exact HB.out)⟩
        · replace c26 := Bool.eq_false_iff.mpr c26
          subst c26
          have H1 : (spec_GoodZone.l0 kj10 l0_0 (l0_0.length : Int) 0 l0_0 l0_1 l0_2 l0_3) = some r := by rw [if_neg (show ¬ (false = true) by decide)] at H; exact H
          clear H
          have H := H1
          clear H1
          have H' := Aside0.mk H
          clear H
          have hcz27_0 : wc.cell? ⟨gb103, 0, none⟩ = some (.slice A0_0 l0_0.length c0_0) := (blk_cell BK103.out 0).trans rfl
          have hcz27_1 : wc.cell? ⟨gb103, 1, none⟩ = some (.slice A0_1 l0_1.length c0_1) := (blk_cell BK103.out 1).trans rfl
          have hcz27_2 : wc.cell? ⟨gb103, 2, none⟩ = some (.slice A0_2 l0_2.length c0_2) := (blk_cell BK103.out 2).trans rfl
          have hcz27_3 : wc.cell? ⟨gb103, 3, none⟩ = some (.slice A0_3 l0_3.length c0_3) := (blk_cell BK103.out 3).trans rfl
          have hfz27_0 := blk_frozen BK103.out 0
          have hfz27_1 := blk_frozen BK103.out 1
          have hfz27_2 := blk_frozen BK103.out 2
          have hfz27_3 := blk_frozen BK103.out 3
          go_wp2
          repeat (go_quiet (fail); try go_wp2)
          go_loopg [71] kj10 (fun kq v71 w' => ∃ (x71_2 : Int), v71 = .int .i64 x71_2 ∧ Aside0 (spec_GoodZone.l0 kq l0_0 (l0_0.length : Int) x71_2 l0_0 l0_1 l0_2 l0_3 = some r) ∧ Aside0 (kq ≤ kj10) ∧ Aside0 (w'.heap[gb103]? = some (.cells #[(.slice A0_0 l0_0.length c0_0), (.slice A0_1 l0_1.length c0_1), (.slice A0_2 l0_2.length c0_2), (.slice A0_3 l0_3.length c0_3)] 31 (0, 0))) ∧ Aside0 (Below w.heap.size w w'))
          case atStart => exact ⟨(0), (by first | rfl | (simp; done) | (simp [*]; done)), H', ⟨Nat.le_refl _⟩, ⟨by (with_reducible repeat (first | refine blk_drewN ?_ _ | refine blk_drew ?_ | refine blk_alloc ?_ _)); exact BK103.out⟩, ⟨by repeat (first | (with_reducible first | exact HB.out | apply below_alloc | apply pw_below_drewN | apply below_drew1 | refine below_set ?_ GE103.out) | exact HB.out)⟩⟩
          case round =>
            clear H'
            try clear c1
            try clear p1
            try clear q1
            try clear hx1
            try clear qi1
            try clear c2
            try clear c2b0
            try clear c2b1
            try clear c2b2
            try clear p2
            try clear c3
            try clear c3b0
            try clear c3b1
            try clear c3b2
            try clear c4
            try clear c4b0
            try clear c4b1
            try clear c4b2
            try clear c6
            try clear p10
            try clear q10
            try clear hx10
            try clear qi10
            try clear c14
            try clear c14b0
            try clear c14b1
            try clear c16
            try clear c16b0
            try clear c16b1
            try clear c16b2
            try clear c17
            try clear c17b0
            try clear c17b1
            try clear c17b2
            try clear c19
            try clear c19b0
            try clear c19b1
            try clear c21
            try clear c21b0
            try clear c21b1
            try clear c21b2
            try clear c22
            try clear c22b0
            try clear c22b1
            try clear c26
            try clear hcz10_0
            try clear hcz10_1
            try clear hcz10_2
            try clear hcz10_3
            try clear hcz13_0
            try clear hcz13_1
            try clear hcz13_2
            try clear hcz13_3
            try clear hcz15_0
            try clear hcz15_1
            try clear hcz15_2
            try clear hcz15_3
            try clear hcz18_0
            try clear hcz18_1
            try clear hcz18_2
            try clear hcz18_3
            try clear hcz20_0
            try clear hcz20_1
            try clear hcz20_2
            try clear hcz20_3
            try clear hcz23_0
            try clear hcz23_1
            try clear hcz23_2
            try clear hcz23_3
            try clear hcz24_0
            try clear hcz24_1
            try clear hcz24_2
            try clear hcz24_3
            try clear hcz25_0
            try clear hcz25_1
            try clear hcz25_2
            try clear hcz25_3
            try clear hcz27_0
            try clear hcz27_1
            try clear hcz27_2
            try clear hcz27_3
            try clear hcz6_0
            try clear hcz6_1
            try clear hcz6_2
            try clear hcz6_3
            try clear hcz8_0
            try clear hcz8_1
            try clear hcz8_2
            try clear hcz8_3
            try clear hfz10_0
            try clear hfz10_1
            try clear hfz10_2
            try clear hfz10_3
            try clear hfz13_0
            try clear hfz13_1
            try clear hfz13_2
            try clear hfz13_3
            try clear hfz15_0
            try clear hfz15_1
            try clear hfz15_2
            try clear hfz15_3
            try clear hfz18_0
            try clear hfz18_1
            try clear hfz18_2
            try clear hfz18_3
            try clear hfz20_0
            try clear hfz20_1
            try clear hfz20_2
            try clear hfz20_3
            try clear hfz23_0
            try clear hfz23_1
            try clear hfz23_2
            try clear hfz23_3
            try clear hfz24_0
            try clear hfz24_1
            try clear hfz24_2
            try clear hfz24_3
            try clear hfz25_0
            try clear hfz25_1
            try clear hfz25_2
            try clear hfz25_3
            try clear hfz27_0
            try clear hfz27_1
            try clear hfz27_2
            try clear hfz27_3
            try clear hfz6_0
            try clear hfz6_1
            try clear hfz6_2
            try clear hfz6_3
            try clear hfz8_0
            try clear hfz8_1
            try clear hfz8_2
            try clear hfz8_3
            try clear hx104_0
            try clear p1
            try clear p10
            try clear p104
            try clear p2
            try clear q1
            try clear q10
            try clear q104
            obtain ⟨x71_2, rfl, HA, HK2, BK103, HB⟩ := hrel
            cases gk with
            | zero => exact absurd HA.out (by simp [spec_GoodZone.l0])
            | succ k2 =>
              have H := HA.out
              clear HA
              simp only [spec_GoodZone.l0] at H
              by_cases c28 : x71_2 < (l0_0.length : Int)
              · rw [if_pos c28] at H
                have c28b0 : decide (x71_2 < (l0_0.length : Int)) = true := decide_eq_true c28
                clear c28
                by_cases c29 : 0 ≤ x71_2
                · rw [if_pos c29] at H
                  have c29b0 : decide (0 ≤ x71_2) = true := decide_eq_true c29
                  clear c29
                  by_cases c30 : x71_2 < (l0_0.length : Int)
                  · rw [if_pos c30] at H
                    have c30b0 : decide (x71_2 < (l0_0.length : Int)) = true := decide_eq_true c30
                    clear c30
                    by_cases c31 : (rd l0_0 x71_2) < (-86400)
                    · rw [if_pos c31] at H
                      have c31b0 : decide ((rd l0_0 x71_2) < (-86400)) = true := decide_eq_true c31
                      clear c31
                      obtain rfl := Option.some.inj H
                      have p105 : 0 ≤ (x71_2 : Int) := of_decide_eq_true (by first | (with_reducible assumption) | assumption)
                      have q105 : x71_2 < (l0_0.length : Int) := of_decide_eq_true (by first | (with_reducible assumption) | assumption)
                      obtain ⟨ad105, e105, hx105_0⟩ := Kd.at_int HR0_0.out x71_2 p105 q105
                      cases e105
                      replace hx105_0 := (HB.out.cell (World.block_lt_of_cell? w _ hx105_0)).trans hx105_0
                      replace p105 := eq_true p105
                      replace q105 := eq_true q105
                      go_wp2
                      repeat (go_quiet (fail); try go_wp2)
                      go_ret
                      exact ⟨by first | rfl | (simp [errW_none, errW_some] <;> rfl) | (simp [*, errW_none, errW_some] <;> rfl), by repeat (first | (with_reducible first | exact HB.out | apply below_alloc | apply pw_below_drewN | apply below_drew1 | refine below_set ?_ GE103.out) | exact HB.out)⟩
                    · rw [if_neg c31] at H
                      have c31b0 : decide ((rd l0_0 x71_2) < (-86400)) = false := decide_eq_false c31
                      clear c31
                      by_cases c32 : (rd l0_0 x71_2) > 86400
                      · rw [if_pos c32] at H
                        have c32b0 : decide (86400 < (rd l0_0 x71_2)) = true := decide_eq_true c32
                        clear c32
                        obtain rfl := Option.some.inj H
                        have p105 : 0 ≤ (x71_2 : Int) := of_decide_eq_true (by first | (with_reducible assumption) | assumption)
                        have q105 : x71_2 < (l0_0.length : Int) := of_decide_eq_true (by first | (with_reducible assumption) | assumption)
                        obtain ⟨ad105, e105, hx105_0⟩ := Kd.at_int HR0_0.out x71_2 p105 q105
                        cases e105
                        replace hx105_0 := (HB.out.cell (World.block_lt_of_cell? w _ hx105_0)).trans hx105_0
                        replace p105 := eq_true p105
                        replace q105 := eq_true q105
                        go_wp2
                        repeat (go_quiet (fail); try go_wp2)
                        go_ret
                        exact ⟨by first | rfl | (simp [errW_none, errW_some] <;> rfl) | (simp [*, errW_none, errW_some] <;> rfl), by repeat (first | (with_reducible first | exact HB.out | apply below_alloc | apply pw_below_drewN | apply below_drew1 | refine below_set ?_ GE103.out) | exact HB.out)⟩
                      · rw [if_neg c32] at H
                        have c32b0 : decide (86400 < (rd l0_0 x71_2)) = false := decide_eq_false c32
                        clear c32
                        have H' := Aside0.mk H
                        clear H
                        have p105 : 0 ≤ (x71_2 : Int) := of_decide_eq_true (by first | (with_reducible assumption) | assumption)
                        have q105 : x71_2 < (l0_0.length : Int) := of_decide_eq_true (by first | (with_reducible assumption) | assumption)
                        obtain ⟨ad105, e105, hx105_0⟩ := Kd.at_int HR0_0.out x71_2 p105 q105
                        cases e105
                        replace hx105_0 := (HB.out.cell (World.block_lt_of_cell? w _ hx105_0)).trans hx105_0
                        replace p105 := eq_true p105
                        replace q105 := eq_true q105
                        go_wp2
                        repeat (go_quiet (fail); try go_wp2)
                        go_roundg k2
                        case measure => have := HJ10.out; have := HK2.out; omega
                        case rel => exact ⟨(wrap64 (x71_2 + 1)), (by first | rfl | (simp; done) | (simp [*]; done)), H', ⟨by have := HJ10.out; have := HK2.out; omega⟩, ⟨by (with_reducible repeat (first | refine blk_drewN ?_ _ | refine blk_drew ?_ | refine blk_alloc ?_ _)); exact BK103.out⟩, ⟨by repeat (first | (with_reducible first | exact HB.out | apply below_alloc | apply pw_below_drewN | apply below_drew1 | refine below_set ?_ GE103.out) | exact HB.out)⟩⟩
                  · rw [if_neg c30] at H
                    exact absurd H (by simp)
                · rw [if_neg c29] at H
                  exact absurd H (by simp)
              · rw [if_neg c28] at H
                have c28b0 : decide (x71_2 < (l0_0.length : Int)) = false := decide_eq_false c28
                clear c28
                have H' := Aside0.mk H
                clear H
                have hcz33_0 : wr.cell? ⟨gb103, 0, none⟩ = some (.slice A0_0 l0_0.length c0_0) := (blk_cell BK103.out 0).trans rfl
                have hcz33_1 : wr.cell? ⟨gb103, 1, none⟩ = some (.slice A0_1 l0_1.length c0_1) := (blk_cell BK103.out 1).trans rfl
                have hcz33_2 : wr.cell? ⟨gb103, 2, none⟩ = some (.slice A0_2 l0_2.length c0_2) := (blk_cell BK103.out 2).trans rfl
                have hcz33_3 : wr.cell? ⟨gb103, 3, none⟩ = some (.slice A0_3 l0_3.length c0_3) := (blk_cell BK103.out 3).trans rfl
                have hfz33_0 := blk_frozen BK103.out 0
                have hfz33_1 := blk_frozen BK103.out 1
                have hfz33_2 := blk_frozen BK103.out 2
                have hfz33_3 := blk_frozen BK103.out 3
                go_wp2
                repeat (go_quiet (fail); try go_wp2)
                go_loopg [85] k2 (fun kq v85 w' => ∃ (x85_3 : Int), v85 = .int .i64 x85_3 ∧ Aside0 (spec_GoodZone.l1 kq l0_3 (l0_3.length : Int) x85_3 l0_0 l0_1 l0_2 l0_3 = some r) ∧ Aside0 (kq ≤ k2) ∧ Aside0 (w'.heap[gb103]? = some (.cells #[(.slice A0_0 l0_0.length c0_0), (.slice A0_1 l0_1.length c0_1), (.slice A0_2 l0_2.length c0_2), (.slice A0_3 l0_3.length c0_3)] 31 (0, 0))) ∧ Aside0 (Below w.heap.size w w'))
                case atStart => exact ⟨(0), (by first | rfl | (simp; done) | (simp [*]; done)), H', ⟨Nat.le_refl _⟩, ⟨by (with_reducible repeat (first | refine blk_drewN ?_ _ | refine blk_drew ?_ | refine blk_alloc ?_ _)); exact BK103.out⟩, ⟨by repeat (first | (with_reducible first | exact HB.out | apply below_alloc | apply pw_below_drewN | apply below_drew1 | refine below_set ?_ GE103.out) | exact HB.out)⟩⟩
                case round =>
                  clear H'
                  try clear c1
                  try clear p1
                  try clear q1
                  try clear hx1
                  try clear qi1
                  try clear c2
                  try clear c2b0
                  try clear c2b1
                  try clear c2b2
                  try clear p2
                  try clear c3
                  try clear c3b0
                  try clear c3b1
                  try clear c3b2
                  try clear c4
                  try clear c4b0
                  try clear c4b1
                  try clear c4b2
                  try clear c6
                  try clear p6
                  try clear p10
                  try clear q10
                  try clear hx10
                  try clear qi10
                  try clear c14
                  try clear c14b0
                  try clear c14b1
                  try clear c16
                  try clear c16b0
                  try clear c16b1
                  try clear c16b2
                  try clear c17
                  try clear c17b0
                  try clear c17b1
                  try clear c17b2
                  try clear c19
                  try clear c19b0
                  try clear c19b1
                  try clear c21
                  try clear c21b0
                  try clear c21b1
                  try clear c21b2
                  try clear c22
                  try clear c22b0
                  try clear c22b1
                  try clear c26
                  try clear c28
                  try clear c28b0
                  try clear c29
                  try clear c29b0
                  try clear c30
                  try clear c30b0
                  try clear c31
                  try clear c31b0
                  try clear c32
                  try clear c32b0
                  try clear hcz10_0
                  try clear hcz10_1
                  try clear hcz10_2
                  try clear hcz10_3
                  try clear hcz13_0
                  try clear hcz13_1
                  try clear hcz13_2
                  try clear hcz13_3
                  try clear hcz15_0
                  try clear hcz15_1
                  try clear hcz15_2
                  try clear hcz15_3
                  try clear hcz18_0
                  try clear hcz18_1
                  try clear hcz18_2
                  try clear hcz18_3
                  try clear hcz20_0
                  try clear hcz20_1
                  try clear hcz20_2
                  try clear hcz20_3
                  try clear hcz23_0
                  try clear hcz23_1
                  try clear hcz23_2
                  try clear hcz23_3
                  try clear hcz24_0
                  try clear hcz24_1
                  try clear hcz24_2
                  try clear hcz24_3
                  try clear hcz25_0
                  try clear hcz25_1
                  try clear hcz25_2
                  try clear hcz25_3
                  try clear hcz27_0
                  try clear hcz27_1
                  try clear hcz27_2
                  try clear hcz27_3
                  try clear hcz33_0
                  try clear hcz33_1
                  try clear hcz33_2
                  try clear hcz33_3
                  try clear hcz6_0
                  try clear hcz6_1
                  try clear hcz6_2
                  try clear hcz6_3
                  try clear hcz8_0
                  try clear hcz8_1
                  try clear hcz8_2
                  try clear hcz8_3
                  try clear hfz10_0
                  try clear hfz10_1
                  try clear hfz10_2
                  try clear hfz10_3
                  try clear hfz13_0
                  try clear hfz13_1
                  try clear hfz13_2
                  try clear hfz13_3
                  try clear hfz15_0
                  try clear hfz15_1
                  try clear hfz15_2
                  try clear hfz15_3
                  try clear hfz18_0
                  try clear hfz18_1
                  try clear hfz18_2
                  try clear hfz18_3
                  try clear hfz20_0
                  try clear hfz20_1
                  try clear hfz20_2
                  try clear hfz20_3
                  try clear hfz23_0
                  try clear hfz23_1
                  try clear hfz23_2
                  try clear hfz23_3
                  try clear hfz24_0
                  try clear hfz24_1
                  try clear hfz24_2
                  try clear hfz24_3
                  try clear hfz25_0
                  try clear hfz25_1
                  try clear hfz25_2
                  try clear hfz25_3
                  try clear hfz27_0
                  try clear hfz27_1
                  try clear hfz27_2
                  try clear hfz27_3
                  try clear hfz33_0
                  try clear hfz33_1
                  try clear hfz33_2
                  try clear hfz33_3
                  try clear hfz6_0
                  try clear hfz6_1
                  try clear hfz6_2
                  try clear hfz6_3
                  try clear hfz8_0
                  try clear hfz8_1
                  try clear hfz8_2
                  try clear hfz8_3
                  try clear hx104_0
                  try clear hx105_0
                  try clear p1
                  try clear p10
                  try clear p104
                  try clear p105
                  try clear p2
                  try clear q1
                  try clear q10
                  try clear q104
                  try clear q105
                  obtain ⟨x85_3, rfl, HA, HK3, BK103, HB⟩ := hrel
                  cases gk with
                  | zero => exact absurd HA.out (by simp [spec_GoodZone.l1])
                  | succ k3 =>
                    have H := HA.out
                    clear HA
                    simp only [spec_GoodZone.l1] at H
                    by_cases c34 : x85_3 < (l0_3.length : Int)
                    · rw [if_pos c34] at H
                      have c34b0 : decide (x85_3 < (l0_3.length : Int)) = true := decide_eq_true c34
                      clear c34
                      by_cases c35 : 0 ≤ x85_3
                      · rw [if_pos c35] at H
                        have c35b0 : decide (0 ≤ x85_3) = true := decide_eq_true c35
                        clear c35
                        by_cases c36 : x85_3 < (l0_3.length : Int)
                        · rw [if_pos c36] at H
                          have c36b0 : decide (x85_3 < (l0_3.length : Int)) = true := decide_eq_true c36
                          clear c36
                          by_cases c37 : (rd l0_3 x85_3) < 0
                          · rw [if_pos c37] at H
                            have c37b0 : decide ((rd l0_3 x85_3) < 0) = true := decide_eq_true c37
                            clear c37
                            obtain rfl := Option.some.inj H
                            have p106 : 0 ≤ (x85_3 : Int) := of_decide_eq_true (by first | (with_reducible assumption) | assumption)
                            have q106 : x85_3 < (l0_3.length : Int) := of_decide_eq_true (by first | (with_reducible assumption) | assumption)
                            obtain ⟨ad106, e106, hx106_0⟩ := Kd.at_int HR0_3.out x85_3 p106 q106
                            cases e106
                            replace hx106_0 := (HB.out.cell (World.block_lt_of_cell? w _ hx106_0)).trans hx106_0
                            replace p106 := eq_true p106
                            replace q106 := eq_true q106
                            go_wp2
                            repeat (go_quiet (fail); try go_wp2)
                            go_ret
                            exact ⟨by first | rfl | (simp [errW_none, errW_some] <;> rfl) | (simp [*, errW_none, errW_some] <;> rfl), by repeat (first | (with_reducible first | exact HB.out | apply below_alloc | apply pw_below_drewN | apply below_drew1 | refine below_set ?_ GE103.out) | exact HB.out)⟩
                          · rw [if_neg c37] at H
                            have c37b0 : decide ((rd l0_3 x85_3) < 0) = false := decide_eq_false c37
                            clear c37
                            by_cases c38 : (rd l0_3 x85_3) ≥ (l0_0.length : Int)
                            · rw [if_pos c38] at H
                              have c38b0 : decide ((l0_0.length : Int) ≤ (rd l0_3 x85_3)) = true := decide_eq_true c38
                              clear c38
                              obtain rfl := Option.some.inj H
                              have p106 : 0 ≤ (x85_3 : Int) := of_decide_eq_true (by first | (with_reducible assumption) | assumption)
                              have q106 : x85_3 < (l0_3.length : Int) := of_decide_eq_true (by first | (with_reducible assumption) | assumption)
                              obtain ⟨ad106, e106, hx106_0⟩ := Kd.at_int HR0_3.out x85_3 p106 q106
                              cases e106
                              replace hx106_0 := (HB.out.cell (World.block_lt_of_cell? w _ hx106_0)).trans hx106_0
                              replace p106 := eq_true p106
                              replace q106 := eq_true q106
                              have hcz39_0 : wr.cell? ⟨gb103, 0, none⟩ = some (.slice A0_0 l0_0.length c0_0) := (blk_cell BK103.out 0).trans rfl
                              have hcz39_1 : wr.cell? ⟨gb103, 1, none⟩ = some (.slice A0_1 l0_1.length c0_1) := (blk_cell BK103.out 1).trans rfl
                              have hcz39_2 : wr.cell? ⟨gb103, 2, none⟩ = some (.slice A0_2 l0_2.length c0_2) := (blk_cell BK103.out 2).trans rfl
                              have hcz39_3 : wr.cell? ⟨gb103, 3, none⟩ = some (.slice (some ad106) l0_3.length c0_3) := (blk_cell BK103.out 3).trans rfl
                              have hfz39_0 := blk_frozen BK103.out 0
                              have hfz39_1 := blk_frozen BK103.out 1
                              have hfz39_2 := blk_frozen BK103.out 2
                              have hfz39_3 := blk_frozen BK103.out 3
                              go_wp2
                              repeat (go_quiet (fail); try go_wp2)
                              go_ret
                              exact ⟨by first | rfl | (simp [errW_none, errW_some] <;> rfl) | (simp [*, errW_none, errW_some] <;> rfl), by repeat (first | (with_reducible first | exact HB.out | apply below_alloc | apply pw_below_drewN | apply below_drew1 | refine below_set ?_ GE103.out) | exact HB.out)⟩
                            · rw [if_neg c38] at H
                              have c38b0 : decide ((l0_0.length : Int) ≤ (rd l0_3 x85_3)) = false := decide_eq_false c38
                              clear c38
                              by_cases c40 : x85_3 > 0
                              · rw [if_pos c40] at H
                                have c40b0 : decide (0 < x85_3) = true := decide_eq_true c40
                                clear c40
                                obtain ⟨ji41, hji41⟩ : ∃ j_ : Int, (wrap64 (x85_3 - 1)) = j_ := ⟨_, rfl⟩
                                replace H : (if 0 ≤ (ji41) then (if (ji41) < (l0_2.length : Int) then (if x85_3 < (l0_2.length : Int) then (if (rd l0_2 (ji41)) ≥ (rd l0_2 x85_3) then (some false) else (spec_GoodZone.l1 k3 l0_3 (l0_3.length : Int) (wrap64 (x85_3 + 1)) l0_0 l0_1 l0_2 l0_3)) else (none)) else (none)) else (none)) = some r := by first | (rw [hji41] at H; exact H) | (simp only [hji41] at H ⊢; exact H)
                                have hji41w : (IntKind.i64.wrap (x85_3 - 1)) = ji41 := (i64_w _).trans hji41
                                by_cases c42 : 0 ≤ (ji41)
                                · rw [if_pos c42] at H
                                  have c42b0 : decide (0 ≤ (ji41)) = true := decide_eq_true c42
                                  clear c42
                                  by_cases c43 : (ji41) < (l0_2.length : Int)
                                  · rw [if_pos c43] at H
                                    have c43b0 : decide ((ji41) < (l0_2.length : Int)) = true := decide_eq_true c43
                                    clear c43
                                    by_cases c44 : x85_3 < (l0_2.length : Int)
                                    · rw [if_pos c44] at H
                                      have c44b0 : decide (x85_3 < (l0_2.length : Int)) = true := decide_eq_true c44
                                      clear c44
                                      by_cases c45 : (rd l0_2 (ji41)) ≥ (rd l0_2 x85_3)
                                      · rw [if_pos c45] at H
                                        have c45b0 : decide ((rd l0_2 x85_3) ≤ (rd l0_2 (ji41))) = true := decide_eq_true c45
                                        clear c45
                                        obtain rfl := Option.some.inj H
                                        have p106 : 0 ≤ (x85_3 : Int) := of_decide_eq_true (by first | (with_reducible assumption) | assumption)
                                        have q106 : x85_3 < (l0_3.length : Int) := of_decide_eq_true (by first | (with_reducible assumption) | assumption)
                                        obtain ⟨ad106, e106, hx106_0⟩ := Kd.at_int HR0_3.out x85_3 p106 q106
                                        cases e106
                                        replace hx106_0 := (HB.out.cell (World.block_lt_of_cell? w _ hx106_0)).trans hx106_0
                                        replace p106 := eq_true p106
                                        replace q106 := eq_true q106
                                        have hcz46_0 : wr.cell? ⟨gb103, 0, none⟩ = some (.slice A0_0 l0_0.length c0_0) := (blk_cell BK103.out 0).trans rfl
                                        have hcz46_1 : wr.cell? ⟨gb103, 1, none⟩ = some (.slice A0_1 l0_1.length c0_1) := (blk_cell BK103.out 1).trans rfl
                                        have hcz46_2 : wr.cell? ⟨gb103, 2, none⟩ = some (.slice A0_2 l0_2.length c0_2) := (blk_cell BK103.out 2).trans rfl
                                        have hcz46_3 : wr.cell? ⟨gb103, 3, none⟩ = some (.slice (some ad106) l0_3.length c0_3) := (blk_cell BK103.out 3).trans rfl
                                        have hfz46_0 := blk_frozen BK103.out 0
                                        have hfz46_1 := blk_frozen BK103.out 1
                                        have hfz46_2 := blk_frozen BK103.out 2
                                        have hfz46_3 := blk_frozen BK103.out 3
                                        have p107 : 0 ≤ ((ji41) : Int) := of_decide_eq_true (by first | (with_reducible assumption) | assumption)
                                        have q107 : (ji41) < (l0_2.length : Int) := of_decide_eq_true (by first | (with_reducible assumption) | assumption)
                                        obtain ⟨ad107, e107, hx107_0⟩ := Kd.at_int HR0_2.out (ji41) p107 q107
                                        cases e107
                                        replace hx107_0 := (HB.out.cell (World.block_lt_of_cell? w _ hx107_0)).trans hx107_0
                                        replace p107 := eq_true p107
                                        replace q107 := eq_true q107
                                        have p108 : 0 ≤ (x85_3 : Int) := of_decide_eq_true (by first | (with_reducible assumption) | assumption)
                                        have q108 : x85_3 < (l0_2.length : Int) := of_decide_eq_true (by first | (with_reducible assumption) | assumption)
                                        obtain ⟨ad108, e108, hx108_0⟩ := Kd.at_int HR0_2.out x85_3 p108 q108
                                        obtain rfl : ad107 = ad108 := (by injection e108)
                                        replace hx108_0 := (HB.out.cell (World.block_lt_of_cell? w _ hx108_0)).trans hx108_0
                                        replace p108 := eq_true p108
                                        replace q108 := eq_true q108
                                        go_wp2
                                        repeat (go_quiet (fail); try go_wp2)
                                        go_ret
                                        exact ⟨by first | rfl | (simp [errW_none, errW_some] <;> rfl) | (simp only [← hji41]; first | rfl | (simp [errW_none, errW_some] <;> rfl)) | (simp [*, errW_none, errW_some] <;> rfl), by repeat (first | (with_reducible first | exact HB.out | apply below_alloc | apply pw_below_drewN | apply below_drew1 | refine below_set ?_ GE103.out) | exact HB.out)⟩
                                      · rw [if_neg c45] at H
                                        have c45b0 : decide ((rd l0_2 x85_3) ≤ (rd l0_2 (ji41))) = false := decide_eq_false c45
                                        clear c45
                                        have H' := Aside0.mk H
                                        clear H
                                        have p106 : 0 ≤ (x85_3 : Int) := of_decide_eq_true (by first | (with_reducible assumption) | assumption)
                                        have q106 : x85_3 < (l0_3.length : Int) := of_decide_eq_true (by first | (with_reducible assumption) | assumption)
                                        obtain ⟨ad106, e106, hx106_0⟩ := Kd.at_int HR0_3.out x85_3 p106 q106
                                        cases e106
                                        replace hx106_0 := (HB.out.cell (World.block_lt_of_cell? w _ hx106_0)).trans hx106_0
                                        replace p106 := eq_true p106
                                        replace q106 := eq_true q106
                                        have hcz47_0 : wr.cell? ⟨gb103, 0, none⟩ = some (.slice A0_0 l0_0.length c0_0) := (blk_cell BK103.out 0).trans rfl
                                        have hcz47_1 : wr.cell? ⟨gb103, 1, none⟩ = some (.slice A0_1 l0_1.length c0_1) := (blk_cell BK103.out 1).trans rfl
                                        have hcz47_2 : wr.cell? ⟨gb103, 2, none⟩ = some (.slice A0_2 l0_2.length c0_2) := (blk_cell BK103.out 2).trans rfl
                                        have hcz47_3 : wr.cell? ⟨gb103, 3, none⟩ = some (.slice (some ad106) l0_3.length c0_3) := (blk_cell BK103.out 3).trans rfl
                                        have hfz47_0 := blk_frozen BK103.out 0
                                        have hfz47_1 := blk_frozen BK103.out 1
                                        have hfz47_2 := blk_frozen BK103.out 2
                                        have hfz47_3 := blk_frozen BK103.out 3
                                        have p107 : 0 ≤ ((ji41) : Int) := of_decide_eq_true (by first | (with_reducible assumption) | assumption)
                                        have q107 : (ji41) < (l0_2.length : Int) := of_decide_eq_true (by first | (with_reducible assumption) | assumption)
                                        obtain ⟨ad107, e107, hx107_0⟩ := Kd.at_int HR0_2.out (ji41) p107 q107
                                        cases e107
                                        replace hx107_0 := (HB.out.cell (World.block_lt_of_cell? w _ hx107_0)).trans hx107_0
                                        replace p107 := eq_true p107
                                        replace q107 := eq_true q107
                                        have p108 : 0 ≤ (x85_3 : Int) := of_decide_eq_true (by first | (with_reducible assumption) | assumption)
                                        have q108 : x85_3 < (l0_2.length : Int) := of_decide_eq_true (by first | (with_reducible assumption) | assumption)
                                        obtain ⟨ad108, e108, hx108_0⟩ := Kd.at_int HR0_2.out x85_3 p108 q108
                                        obtain rfl : ad107 = ad108 := (by injection e108)
                                        replace hx108_0 := (HB.out.cell (World.block_lt_of_cell? w _ hx108_0)).trans hx108_0
                                        replace p108 := eq_true p108
                                        replace q108 := eq_true q108
                                        go_wp2
                                        repeat (go_quiet (fail); try go_wp2)
                                        go_roundg k3
                                        case measure => have := HJ10.out; have := HK2.out; have := HK3.out; omega
                                        case rel => exact ⟨(wrap64 (x85_3 + 1)), (by first | rfl | (simp; done) | (simp [*]; done)), H', ⟨by have := HJ10.out; have := HK2.out; have := HK3.out; omega⟩, ⟨by (with_reducible repeat (first | refine blk_drewN ?_ _ | refine blk_drew ?_ | refine blk_alloc ?_ _)); exact BK103.out⟩, ⟨by repeat (first | (with_reducible first | exact HB.out | apply below_alloc | apply pw_below_drewN | apply below_drew1 | refine below_set ?_ GE103.out) | exact HB.out)⟩⟩
                                    · rw [if_neg c44] at H
                                      exact absurd H (by simp)
                                  · rw [if_neg c43] at H
                                    exact absurd H (by simp)
                                · rw [if_neg c42] at H
                                  exact absurd H (by simp)
                              · rw [if_neg c40] at H
                                have c40b0 : decide (0 < x85_3) = false := decide_eq_false c40
                                clear c40
                                have H' := Aside0.mk H
                                clear H
                                have p106 : 0 ≤ (x85_3 : Int) := of_decide_eq_true (by first | (with_reducible assumption) | assumption)
                                have q106 : x85_3 < (l0_3.length : Int) := of_decide_eq_true (by first | (with_reducible assumption) | assumption)
                                obtain ⟨ad106, e106, hx106_0⟩ := Kd.at_int HR0_3.out x85_3 p106 q106
                                cases e106
                                replace hx106_0 := (HB.out.cell (World.block_lt_of_cell? w _ hx106_0)).trans hx106_0
                                replace p106 := eq_true p106
                                replace q106 := eq_true q106
                                have hcz48_0 : wr.cell? ⟨gb103, 0, none⟩ = some (.slice A0_0 l0_0.length c0_0) := (blk_cell BK103.out 0).trans rfl
                                have hcz48_1 : wr.cell? ⟨gb103, 1, none⟩ = some (.slice A0_1 l0_1.length c0_1) := (blk_cell BK103.out 1).trans rfl
                                have hcz48_2 : wr.cell? ⟨gb103, 2, none⟩ = some (.slice A0_2 l0_2.length c0_2) := (blk_cell BK103.out 2).trans rfl
                                have hcz48_3 : wr.cell? ⟨gb103, 3, none⟩ = some (.slice (some ad106) l0_3.length c0_3) := (blk_cell BK103.out 3).trans rfl
                                have hfz48_0 := blk_frozen BK103.out 0
                                have hfz48_1 := blk_frozen BK103.out 1
                                have hfz48_2 := blk_frozen BK103.out 2
                                have hfz48_3 := blk_frozen BK103.out 3
                                go_wp2
                                repeat (go_quiet (fail); try go_wp2)
                                go_roundg k3
                                case measure => have := HJ10.out; have := HK2.out; have := HK3.out; omega
                                case rel => exact ⟨(wrap64 (x85_3 + 1)), (by first | rfl | (simp; done) | (simp [*]; done)), H', ⟨by have := HJ10.out; have := HK2.out; have := HK3.out; omega⟩, ⟨by (with_reducible repeat (first | refine blk_drewN ?_ _ | refine blk_drew ?_ | refine blk_alloc ?_ _)); exact BK103.out⟩, ⟨by repeat (first | (with_reducible first | exact HB.out | apply below_alloc | apply pw_below_drewN | apply below_drew1 | refine below_set ?_ GE103.out) | exact HB.out)⟩⟩
                        · rw [if_neg c36] at H
                          exact absurd H (by simp)
                      · rw [if_neg c35] at H
                        exact absurd H (by simp)
                    · rw [if_neg c34] at H
                      have c34b0 : decide (x85_3 < (l0_3.length : Int)) = false := decide_eq_false c34
                      clear c34
                      obtain rfl := Option.some.inj H
                      go_wp2
                      repeat (go_quiet (fail); try go_wp2)
                      go_ret
                      exact ⟨by first | rfl | (simp [errW_none, errW_some] <;> rfl) | (simp [*, errW_none, errW_some] <;> rfl), by repeat (first | (with_reducible first | exact HB.out | apply below_alloc | apply pw_below_drewN | apply below_drew1 | refine below_set ?_ GE103.out) | exact HB.out)⟩

end Go.Proofs.Ytjmgebhjkbcpcaa.PFnCronNextMany
