-- PRINTED BY print.sh 35421559b90ae4d0a3588c463048766b98c2df88dd9212a6774a882060cdf62d: not written by this session
import Derived.Test.YtjmgebhjkbcpcaaPFnCronNextManyx0
import Derived.Test.YtjmgebhjkbcpcaaPFnCronNextManyx3
namespace Go.Proofs.Ytjmgebhjkbcpcaa.PFnCronNextMany
open Go.RowKit Go.Proofs.YtjmgebhjkbcpcaaW.PrintWords Go.Proofs.YtjmgebhjkbcpcaaW.PrintLast Go.Proofs.YtjmgebhjkbcpcaaW.PrintMore
attribute [local go_sem] max2_int min2_int max_two min_two max_three min_three max_four min_four   -- for this text's walks alone
set_option linter.unusedVariables false
set_option linter.unusedSimpArgs false

/-! ### spec_CronPlainZone: function 7 -/
mutual
def spec_CronPlainZone.l0 : Nat → List Int → Int → Int → List Int → List Bool → List Int → List Int → Option (Bool)
  | 0, _, _, _, _, _, _, _ => none
  | k + 1, x10, x11, x12, x111000, x111001, x111002, x111003 => if x12 < x11 then (if 0 ≤ x12 then (if x12 < (x10.length : Int) then (if (Int.tmod (rd x10 x12) 60) = 0 then (spec_CronPlainZone.l0 k x10 x11 (wrap64 (x12 + 1)) x111000 x111001 x111002 x111003) else (some false)) else (none)) else (none)) else (spec_CronPlainZone.l1 k 1 x111000 x111001 x111002 x111003)
def spec_CronPlainZone.l1 : Nat → Int → List Int → List Bool → List Int → List Int → Option (Bool)
  | 0, _, _, _, _, _ => none
  | k + 1, x5, x111000, x111001, x111002, x111003 => if x5 < (x111002.length : Int) then (if 0 ≤ x5 then (if (rd x111002 x5) < (-62167596800) then (spec_CronPlainZone.j2 k x5 (rd x111002 x5) true x111000 x111001 x111002 x111003) else (spec_CronPlainZone.j2 k x5 (rd x111002 x5) (decide ((rd x111002 x5) > 253722300799)) x111000 x111001 x111002 x111003)) else (none)) else (some true)
def spec_CronPlainZone.j2 : Nat → Int → Int → Bool → List Int → List Bool → List Int → List Int → Option (Bool)
  | 0, _, _, _, _, _, _, _ => none
  | k + 1, x5, x6, x37, x111000, x111001, x111002, x111003 => if x37 = true then (some false) else (if x5 > 1 then (if 0 ≤ x5 then (if x5 < (x111002.length : Int) then (if 0 ≤ (wrap64 (x5 - 1)) then (if (wrap64 (x5 - 1)) < (x111002.length : Int) then (spec_CronPlainZone.j3 k x5 x6 (decide ((wrap64 ((rd x111002 x5) - (rd x111002 (wrap64 (x5 - 1))))) < 345600)) x111000 x111001 x111002 x111003) else (none)) else (none)) else (none)) else (none)) else (spec_CronPlainZone.j3 k x5 x6 false x111000 x111001 x111002 x111003))
def spec_CronPlainZone.j3 : Nat → Int → Int → Bool → List Int → List Bool → List Int → List Int → Option (Bool)
  | 0, _, _, _, _, _, _, _ => none
  | k + 1, x5, x6, x54, x111000, x111001, x111002, x111003 => if x54 = true then (some false) else (if 0 ≤ (wrap64 (x5 - 1)) then (if (wrap64 (x5 - 1)) < (x111003.length : Int) then (if 0 ≤ (rd x111003 (wrap64 (x5 - 1))) then (if (rd x111003 (wrap64 (x5 - 1))) < (x111000.length : Int) then (if 0 ≤ x5 then (if x5 < (x111003.length : Int) then (if 0 ≤ (rd x111003 x5) then (if (rd x111003 x5) < (x111000.length : Int) then ((spec_floorMod.f (wrap64 (x6 + (rd x111000 (rd x111003 (wrap64 (x5 - 1)))))) 3600).bind fun t119 => (if t119 = 0 then ((spec_floorMod.f (wrap64 (x6 + (rd x111000 (rd x111003 x5)))) 3600).bind fun t120 => (if t120 = 0 then (spec_CronPlainZone.j4 k x5 (wrap64 (x6 + (rd x111000 (rd x111003 (wrap64 (x5 - 1)))))) (wrap64 (x6 + (rd x111000 (rd x111003 x5)))) (decide ((wrap64 (x6 + (rd x111000 (rd x111003 x5)))) < (wrap64 ((wrap64 (x6 + (rd x111000 (rd x111003 (wrap64 (x5 - 1)))))) - 3600)))) x111000 x111001 x111002 x111003) else (spec_CronPlainZone.j4 k x5 (wrap64 (x6 + (rd x111000 (rd x111003 (wrap64 (x5 - 1)))))) (wrap64 (x6 + (rd x111000 (rd x111003 x5)))) true x111000 x111001 x111002 x111003))) else (spec_CronPlainZone.j4 k x5 (wrap64 (x6 + (rd x111000 (rd x111003 (wrap64 (x5 - 1)))))) (wrap64 (x6 + (rd x111000 (rd x111003 x5)))) true x111000 x111001 x111002 x111003))) else (none)) else (none)) else (none)) else (none)) else (none)) else (none)) else (none)) else (none))
def spec_CronPlainZone.j4 : Nat → Int → Int → Int → Bool → List Int → List Bool → List Int → List Int → Option (Bool)
  | 0, _, _, _, _, _, _, _, _ => none
  | k + 1, x5, x7, x8, x91, x111000, x111001, x111002, x111003 => if x91 = true then (some false) else ((spec_floorDiv.f x7 86400).bind fun t121 => ((spec_floorDiv.f x8 86400).bind fun t122 => (if t121 = t122 then ((spec_floorMod.f x7 86400).bind fun t123 => (if t123 < 3600 then (some false) else ((spec_floorMod.f x8 86400).bind fun t124 => (if t124 < 3600 then (some false) else (spec_CronPlainZone.l1 k (wrap64 (x5 + 1)) x111000 x111001 x111002 x111003))))) else (some false))))
end
def spec_CronPlainZone.f (k : Nat) (l0_0 : List Int) (l0_1 : List Bool) (l0_2 : List Int) (l0_3 : List Int) : Option (Bool) := spec_CronPlainZone.l0 k l0_0 (l0_0.length : Int) 0 l0_0 l0_1 l0_2 l0_3
theorem spec_CronPlainZone.mono_l : ∀ k, (∀ y0 y1 y2 y3 y4 y5 y6, LeO (spec_CronPlainZone.l0 k y0 y1 y2 y3 y4 y5 y6) (spec_CronPlainZone.l0 (k + 1) y0 y1 y2 y3 y4 y5 y6)) ∧ (∀ y0 y1 y2 y3 y4, LeO (spec_CronPlainZone.l1 k y0 y1 y2 y3 y4) (spec_CronPlainZone.l1 (k + 1) y0 y1 y2 y3 y4)) ∧ (∀ y0 y1 y2 y3 y4 y5 y6, LeO (spec_CronPlainZone.j2 k y0 y1 y2 y3 y4 y5 y6) (spec_CronPlainZone.j2 (k + 1) y0 y1 y2 y3 y4 y5 y6)) ∧ (∀ y0 y1 y2 y3 y4 y5 y6, LeO (spec_CronPlainZone.j3 k y0 y1 y2 y3 y4 y5 y6) (spec_CronPlainZone.j3 (k + 1) y0 y1 y2 y3 y4 y5 y6)) ∧ (∀ y0 y1 y2 y3 y4 y5 y6 y7, LeO (spec_CronPlainZone.j4 k y0 y1 y2 y3 y4 y5 y6 y7) (spec_CronPlainZone.j4 (k + 1) y0 y1 y2 y3 y4 y5 y6 y7))
  | 0 => ⟨fun _ _ _ _ _ _ _ r h => by simp [spec_CronPlainZone.l0] at h, fun _ _ _ _ _ r h => by simp [spec_CronPlainZone.l1] at h, fun _ _ _ _ _ _ _ r h => by simp [spec_CronPlainZone.j2] at h, fun _ _ _ _ _ _ _ r h => by simp [spec_CronPlainZone.j3] at h, fun _ _ _ _ _ _ _ _ r h => by simp [spec_CronPlainZone.j4] at h⟩
  | k + 1 => by
    obtain ⟨ih0, ih1, ih2, ih3, ih4⟩ := spec_CronPlainZone.mono_l k
    refine ⟨?_, ?_, ?_, ?_, ?_⟩
    · intro y0 y1 y2 y3 y4 y5 y6
      unfold spec_CronPlainZone.l0
      repeat' first
      | (with_reducible exact ih0 _ _ _ _ _ _ _)
      | (with_reducible exact ih1 _ _ _ _ _)
      | (with_reducible exact ih2 _ _ _ _ _ _ _)
      | (with_reducible exact ih3 _ _ _ _ _ _ _)
      | (with_reducible exact ih4 _ _ _ _ _ _ _ _)
      | (with_reducible exact LeO.refl _)
      | (with_reducible exact LeO.none _)
      | (with_reducible refine LeO.ite ?_ ?_)
      | (with_reducible refine LeO.bind ?_ (fun _ => ?_))
      | exact ih0 _ _ _ _ _ _ _
      | exact ih1 _ _ _ _ _
      | exact ih2 _ _ _ _ _ _ _
      | exact ih3 _ _ _ _ _ _ _
      | exact ih4 _ _ _ _ _ _ _ _
      | exact LeO.none _
      | refine LeO.ite ?_ ?_
      | refine LeO.bind ?_ (fun _ => ?_)
    · intro y0 y1 y2 y3 y4
      unfold spec_CronPlainZone.l1
      repeat' first
      | (with_reducible exact ih0 _ _ _ _ _ _ _)
      | (with_reducible exact ih1 _ _ _ _ _)
      | (with_reducible exact ih2 _ _ _ _ _ _ _)
      | (with_reducible exact ih3 _ _ _ _ _ _ _)
      | (with_reducible exact ih4 _ _ _ _ _ _ _ _)
      | (with_reducible exact LeO.refl _)
      | (with_reducible exact LeO.none _)
      | (with_reducible refine LeO.ite ?_ ?_)
      | (with_reducible refine LeO.bind ?_ (fun _ => ?_))
      | exact ih0 _ _ _ _ _ _ _
      | exact ih1 _ _ _ _ _
      | exact ih2 _ _ _ _ _ _ _
      | exact ih3 _ _ _ _ _ _ _
      | exact ih4 _ _ _ _ _ _ _ _
      | exact LeO.none _
      | refine LeO.ite ?_ ?_
      | refine LeO.bind ?_ (fun _ => ?_)
    · intro y0 y1 y2 y3 y4 y5 y6
      unfold spec_CronPlainZone.j2
      repeat' first
      | (with_reducible exact ih0 _ _ _ _ _ _ _)
      | (with_reducible exact ih1 _ _ _ _ _)
      | (with_reducible exact ih2 _ _ _ _ _ _ _)
      | (with_reducible exact ih3 _ _ _ _ _ _ _)
      | (with_reducible exact ih4 _ _ _ _ _ _ _ _)
      | (with_reducible exact LeO.refl _)
      | (with_reducible exact LeO.none _)
      | (with_reducible refine LeO.ite ?_ ?_)
      | (with_reducible refine LeO.bind ?_ (fun _ => ?_))
      | exact ih0 _ _ _ _ _ _ _
      | exact ih1 _ _ _ _ _
      | exact ih2 _ _ _ _ _ _ _
      | exact ih3 _ _ _ _ _ _ _
      | exact ih4 _ _ _ _ _ _ _ _
      | exact LeO.none _
      | refine LeO.ite ?_ ?_
      | refine LeO.bind ?_ (fun _ => ?_)
    · intro y0 y1 y2 y3 y4 y5 y6
      unfold spec_CronPlainZone.j3
      repeat' first
      | (with_reducible exact ih0 _ _ _ _ _ _ _)
      | (with_reducible exact ih1 _ _ _ _ _)
      | (with_reducible exact ih2 _ _ _ _ _ _ _)
      | (with_reducible exact ih3 _ _ _ _ _ _ _)
      | (with_reducible exact ih4 _ _ _ _ _ _ _ _)
      | (with_reducible exact LeO.refl _)
      | (with_reducible exact LeO.none _)
      | (with_reducible refine LeO.ite ?_ ?_)
      | (with_reducible refine LeO.bind ?_ (fun _ => ?_))
      | exact ih0 _ _ _ _ _ _ _
      | exact ih1 _ _ _ _ _
      | exact ih2 _ _ _ _ _ _ _
      | exact ih3 _ _ _ _ _ _ _
      | exact ih4 _ _ _ _ _ _ _ _
      | exact LeO.none _
      | refine LeO.ite ?_ ?_
      | refine LeO.bind ?_ (fun _ => ?_)
    · intro y0 y1 y2 y3 y4 y5 y6 y7
      unfold spec_CronPlainZone.j4
      repeat' first
      | (with_reducible exact ih0 _ _ _ _ _ _ _)
      | (with_reducible exact ih1 _ _ _ _ _)
      | (with_reducible exact ih2 _ _ _ _ _ _ _)
      | (with_reducible exact ih3 _ _ _ _ _ _ _)
      | (with_reducible exact ih4 _ _ _ _ _ _ _ _)
      | (with_reducible exact LeO.refl _)
      | (with_reducible exact LeO.none _)
      | (with_reducible refine LeO.ite ?_ ?_)
      | (with_reducible refine LeO.bind ?_ (fun _ => ?_))
      | exact ih0 _ _ _ _ _ _ _
      | exact ih1 _ _ _ _ _
      | exact ih2 _ _ _ _ _ _ _
      | exact ih3 _ _ _ _ _ _ _
      | exact ih4 _ _ _ _ _ _ _ _
      | exact LeO.none _
      | refine LeO.ite ?_ ?_
      | refine LeO.bind ?_ (fun _ => ?_)
theorem spec_CronPlainZone.mono : ∀ a0 a1 a2 a3 k, LeO (spec_CronPlainZone.f k a0 a1 a2 a3) (spec_CronPlainZone.f (k + 1) a0 a1 a2 a3) := by
  intro a0 a1 a2 a3 k
  obtain ⟨ih0, ih1, ih2, ih3, ih4⟩ := spec_CronPlainZone.mono_l k
  unfold spec_CronPlainZone.f
  repeat' first
      | (with_reducible exact ih0 _ _ _ _ _ _ _)
      | (with_reducible exact ih1 _ _ _ _ _)
      | (with_reducible exact ih2 _ _ _ _ _ _ _)
      | (with_reducible exact ih3 _ _ _ _ _ _ _)
      | (with_reducible exact ih4 _ _ _ _ _ _ _ _)
      | (with_reducible exact LeO.refl _)
      | (with_reducible exact LeO.none _)
      | (with_reducible refine LeO.ite ?_ ?_)
      | (with_reducible refine LeO.bind ?_ (fun _ => ?_))
      | exact ih0 _ _ _ _ _ _ _
      | exact ih1 _ _ _ _ _
      | exact ih2 _ _ _ _ _ _ _
      | exact ih3 _ _ _ _ _ _ _
      | exact ih4 _ _ _ _ _ _ _ _
      | exact LeO.none _
      | refine LeO.ite ?_ ?_
      | refine LeO.bind ?_ (fun _ => ?_)
set_option maxHeartbeats 8000000 in
set_option maxRecDepth 100000 in
theorem spec_CronPlainZone.calls (k : Nat) (A0_0 : Option Addr) (c0_0 : Nat) (l0_0 : List Int) (A0_1 : Option Addr) (c0_1 : Nat) (l0_1 : List Bool) (A0_2 : Option Addr) (c0_2 : Nat) (l0_2 : List Int) (A0_3 : Option Addr) (c0_3 : Nat) (l0_3 : List Int) (r : Bool) (w : World) (hr0_0 : Kd.C (Kd.int .i64) w A0_0 l0_0.length l0_0) (hc0_0 : l0_0.length ≤ c0_0) (hr0_1 : Kd.C Kd.bool w A0_1 l0_1.length l0_1) (hc0_1 : l0_1.length ≤ c0_1) (hr0_2 : Kd.C (Kd.int .i64) w A0_2 l0_2.length l0_2) (hc0_2 : l0_2.length ≤ c0_2) (hr0_3 : Kd.C (Kd.int .i64) w A0_3 l0_3.length l0_3) (hc0_3 : l0_3.length ≤ c0_3) (h : spec_CronPlainZone.f k l0_0 l0_1 l0_2 l0_3 = some r) :
    Calls Try.prog 7 #[.agg #[.slice A0_0 l0_0.length c0_0, .slice A0_1 l0_1.length c0_1, .slice A0_2 l0_2.length c0_2, .slice A0_3 l0_3.length c0_3]] w fun e w' => e = .returned (.bool r) ∧ Below w.heap.size w w' := by
  have hu31 := Try.underlying31
  have HR0_0 := Aside0.mk hr0_0
  have HC0_0 := Aside0.mk hc0_0
  clear hr0_0 hc0_0
  have HR0_1 := Aside0.mk hr0_1
  have HC0_1 := Aside0.mk hc0_1
  clear hr0_1 hc0_1
  have HR0_2 := Aside0.mk hr0_2
  have HC0_2 := Aside0.mk hc0_2
  clear hr0_2 hc0_2
  have HR0_3 := Aside0.mk hr0_3
  have HC0_3 := Aside0.mk hc0_3
  clear hr0_3 hc0_3
  have HB := Aside0.mk (Below.refl w.heap.size w)
  have H : (spec_CronPlainZone.l0 k l0_0 (l0_0.length : Int) 0 l0_0 l0_1 l0_2 l0_3) = some r := h
  clear h
  have H' := Aside0.mk H
  clear H
  go_enter Try.func7, Try.ntmps7
  go_wp2_with (first | ((with_reducible refine gate_dst (N := 1) rfl ?_); refine box_event ?hg (N := 1) ?hd (cs := #[.slice A0_0 l0_0.length c0_0, .slice A0_1 l0_1.length c0_1, .slice A0_2 l0_2.length c0_2, .slice A0_3 l0_3.length c0_3]) (t := 31) ?hr ?_; (case hd => rfl); (case hg => rfl); (case hr => first | (go_simp; done) | (go_simp; rfl)); intro gb110 hg w2 hbox hb; have n0_ := Aside0.mk (below_step (by repeat (first | (with_reducible first | exact HB.out | apply below_alloc | apply pw_below_drewN | apply below_drew1) | exact HB.out)) hb); have n1_ := Aside0.mk (hbox); have n2_ := Aside0.mk ((by rw [hg]; exact (below_size (by repeat (first | (with_reducible first | exact HB.out | apply below_alloc | apply pw_below_drewN | apply below_drew1) | exact HB.out))) : w.heap.size ≤ gb110)); have n3_ := Aside0.mk ((by rw [hg]; exact (below_size (by repeat (first | (with_reducible first | exact HB.out | apply below_alloc | apply pw_below_drewN | apply below_drew1) | exact HB.out))) : w.heap.size ≤ gb110)); clear HB; have HB := n0_; have BK110 := n1_; have GW110 := n2_; have GE110 := n3_; clear n0_ n1_ n2_ n3_; clear hb hbox hg; have hcz3_0 : w2.cell? ⟨gb110, 0, none⟩ = some (.slice A0_0 l0_0.length c0_0) := (blk_cell BK110.out 0).trans rfl; have hcz3_1 : w2.cell? ⟨gb110, 1, none⟩ = some (.slice A0_1 l0_1.length c0_1) := (blk_cell BK110.out 1).trans rfl; have hcz3_2 : w2.cell? ⟨gb110, 2, none⟩ = some (.slice A0_2 l0_2.length c0_2) := (blk_cell BK110.out 2).trans rfl; have hcz3_3 : w2.cell? ⟨gb110, 3, none⟩ = some (.slice A0_3 l0_3.length c0_3) := (blk_cell BK110.out 3).trans rfl; have hfz3_0 := blk_frozen BK110.out 0; have hfz3_1 := blk_frozen BK110.out 1; have hfz3_2 := blk_frozen BK110.out 2; have hfz3_3 := blk_frozen BK110.out 3))
  repeat (go_quiet (first | ((with_reducible refine gate_dst (N := 1) rfl ?_); refine box_event ?hg (N := 1) ?hd (cs := #[.slice A0_0 l0_0.length c0_0, .slice A0_1 l0_1.length c0_1, .slice A0_2 l0_2.length c0_2, .slice A0_3 l0_3.length c0_3]) (t := 31) ?hr ?_; (case hd => rfl); (case hg => rfl); (case hr => first | (go_simp; done) | (go_simp; rfl)); intro gb110 hg w2 hbox hb; have n0_ := Aside0.mk (below_step (by repeat (first | (with_reducible first | exact HB.out | apply below_alloc | apply pw_below_drewN | apply below_drew1) | exact HB.out)) hb); have n1_ := Aside0.mk (hbox); have n2_ := Aside0.mk ((by rw [hg]; exact (below_size (by repeat (first | (with_reducible first | exact HB.out | apply below_alloc | apply pw_below_drewN | apply below_drew1) | exact HB.out))) : w.heap.size ≤ gb110)); have n3_ := Aside0.mk ((by rw [hg]; exact (below_size (by repeat (first | (with_reducible first | exact HB.out | apply below_alloc | apply pw_below_drewN | apply below_drew1) | exact HB.out))) : w.heap.size ≤ gb110)); clear HB; have HB := n0_; have BK110 := n1_; have GW110 := n2_; have GE110 := n3_; clear n0_ n1_ n2_ n3_; clear hb hbox hg; have hcz3_0 : w2.cell? ⟨gb110, 0, none⟩ = some (.slice A0_0 l0_0.length c0_0) := (blk_cell BK110.out 0).trans rfl; have hcz3_1 : w2.cell? ⟨gb110, 1, none⟩ = some (.slice A0_1 l0_1.length c0_1) := (blk_cell BK110.out 1).trans rfl; have hcz3_2 : w2.cell? ⟨gb110, 2, none⟩ = some (.slice A0_2 l0_2.length c0_2) := (blk_cell BK110.out 2).trans rfl; have hcz3_3 : w2.cell? ⟨gb110, 3, none⟩ = some (.slice A0_3 l0_3.length c0_3) := (blk_cell BK110.out 3).trans rfl; have hfz3_0 := blk_frozen BK110.out 0; have hfz3_1 := blk_frozen BK110.out 1; have hfz3_2 := blk_frozen BK110.out 2; have hfz3_3 := blk_frozen BK110.out 3)); try go_wp2_with (first | ((with_reducible refine gate_dst (N := 1) rfl ?_); refine box_event ?hg (N := 1) ?hd (cs := #[.slice A0_0 l0_0.length c0_0, .slice A0_1 l0_1.length c0_1, .slice A0_2 l0_2.length c0_2, .slice A0_3 l0_3.length c0_3]) (t := 31) ?hr ?_; (case hd => rfl); (case hg => rfl); (case hr => first | (go_simp; done) | (go_simp; rfl)); intro gb110 hg w2 hbox hb; have n0_ := Aside0.mk (below_step (by repeat (first | (with_reducible first | exact HB.out | apply below_alloc | apply pw_below_drewN | apply below_drew1) | exact HB.out)) hb); have n1_ := Aside0.mk (hbox); have n2_ := Aside0.mk ((by rw [hg]; exact (below_size (by repeat (first | (with_reducible first | exact HB.out | apply below_alloc | apply pw_below_drewN | apply below_drew1) | exact HB.out))) : w.heap.size ≤ gb110)); have n3_ := Aside0.mk ((by rw [hg]; exact (below_size (by repeat (first | (with_reducible first | exact HB.out | apply below_alloc | apply pw_below_drewN | apply below_drew1) | exact HB.out))) : w.heap.size ≤ gb110)); clear HB; have HB := n0_; have BK110 := n1_; have GW110 := n2_; have GE110 := n3_; clear n0_ n1_ n2_ n3_; clear hb hbox hg; have hcz3_0 : w2.cell? ⟨gb110, 0, none⟩ = some (.slice A0_0 l0_0.length c0_0) := (blk_cell BK110.out 0).trans rfl; have hcz3_1 : w2.cell? ⟨gb110, 1, none⟩ = some (.slice A0_1 l0_1.length c0_1) := (blk_cell BK110.out 1).trans rfl; have hcz3_2 : w2.cell? ⟨gb110, 2, none⟩ = some (.slice A0_2 l0_2.length c0_2) := (blk_cell BK110.out 2).trans rfl; have hcz3_3 : w2.cell? ⟨gb110, 3, none⟩ = some (.slice A0_3 l0_3.length c0_3) := (blk_cell BK110.out 3).trans rfl; have hfz3_0 := blk_frozen BK110.out 0; have hfz3_1 := blk_frozen BK110.out 1; have hfz3_2 := blk_frozen BK110.out 2; have hfz3_3 := blk_frozen BK110.out 3)))
  go_loopg [12] k (fun kq v12 w' => ∃ (x12_1 : Int), v12 = .int .i64 x12_1 ∧ Aside0 (spec_CronPlainZone.l0 kq l0_0 (l0_0.length : Int) x12_1 l0_0 l0_1 l0_2 l0_3 = some r) ∧ Aside0 (kq ≤ k) ∧ Aside0 (w'.heap[gb110]? = some (.cells #[(.slice A0_0 l0_0.length c0_0), (.slice A0_1 l0_1.length c0_1), (.slice A0_2 l0_2.length c0_2), (.slice A0_3 l0_3.length c0_3)] 31 (0, 0))) ∧ Aside0 (Below w.heap.size w w'))
  case atStart => exact ⟨(0), (by first | rfl | (simp; done) | (simp [*]; done)), H', ⟨Nat.le_refl _⟩, ⟨by (with_reducible repeat (first | refine blk_drewN ?_ _ | refine blk_drew ?_ | refine blk_alloc ?_ _)); exact BK110.out⟩, ⟨by repeat (first | (with_reducible first | exact HB.out | apply below_alloc | apply pw_below_drewN | apply below_drew1 | refine below_set ?_ GE110.out) | exact HB.out)⟩⟩
  case round =>
    clear H'
    try clear p2
    try clear hcz3_0
    try clear hcz3_1
    try clear hcz3_2
    try clear hcz3_3
    try clear hfz3_0
    try clear hfz3_1
    try clear hfz3_2
    try clear hfz3_3
    obtain ⟨x12_1, rfl, HA, HK1, BK110, HB⟩ := hrel
    cases gk with
    | zero => exact absurd HA.out (by simp [spec_CronPlainZone.l0])
    | succ k1 =>
      have H := HA.out
      clear HA
      simp only [spec_CronPlainZone.l0] at H
      by_cases c4 : x12_1 < (l0_0.length : Int)
      · rw [if_pos c4] at H
        have c4b0 : decide (x12_1 < (l0_0.length : Int)) = true := decide_eq_true c4
        clear c4
        by_cases c5 : 0 ≤ x12_1
        · rw [if_pos c5] at H
          have c5b0 : decide (0 ≤ x12_1) = true := decide_eq_true c5
          clear c5
          by_cases c6 : x12_1 < (l0_0.length : Int)
          · rw [if_pos c6] at H
            have c6b0 : decide (x12_1 < (l0_0.length : Int)) = true := decide_eq_true c6
            clear c6
            by_cases c7 : (Int.tmod (rd l0_0 x12_1) 60) = 0
            · rw [if_pos c7] at H
              have c7b0 : ((Int.tmod (rd l0_0 x12_1) 60) == 0) = true := beq_iff_eq.mpr c7
              have c7b1 : ((Int.tmod (rd l0_0 x12_1) 60) != 0) = false := bne_eq_false_iff_eq.mpr c7
              clear c7
              have H' := Aside0.mk H
              clear H
              have p111 : 0 ≤ (x12_1 : Int) := of_decide_eq_true (by first | (with_reducible assumption) | assumption)
              have q111 : x12_1 < (l0_0.length : Int) := of_decide_eq_true (by first | (with_reducible assumption) | assumption)
              obtain ⟨ad111, e111, hx111_0⟩ := Kd.at_int HR0_0.out x12_1 p111 q111
              cases e111
              replace hx111_0 := (HB.out.cell (World.block_lt_of_cell? w _ hx111_0)).trans hx111_0
              replace p111 := eq_true p111
              replace q111 := eq_true q111
              go_wp2
              repeat (go_quiet (fail); try go_wp2)
              go_roundg k1
              case measure => have := HK1.out; omega
              case rel => exact ⟨(wrap64 (x12_1 + 1)), (by first | rfl | (simp; done) | (simp [*]; done)), H', ⟨by have := HK1.out; omega⟩, ⟨by (with_reducible repeat (first | refine blk_drewN ?_ _ | refine blk_drew ?_ | refine blk_alloc ?_ _)); exact BK110.out⟩, ⟨by repeat (first | (with_reducible first | exact HB.out | apply below_alloc | apply pw_below_drewN | apply below_drew1 | refine below_set ?_ GE110.out) | exact HB.out)⟩⟩
            · rw [if_neg c7] at H
              have c7b0 : ((Int.tmod (rd l0_0 x12_1) 60) == 0) = false := beq_eq_false_iff_ne.mpr c7
              have c7b1 : ((Int.tmod (rd l0_0 x12_1) 60) != 0) = true := bne_iff_ne.mpr c7
              obtain rfl := Option.some.inj H
              have p111 : 0 ≤ (x12_1 : Int) := of_decide_eq_true (by first | (with_reducible assumption) | assumption)
              have q111 : x12_1 < (l0_0.length : Int) := of_decide_eq_true (by first | (with_reducible assumption) | assumption)
              obtain ⟨ad111, e111, hx111_0⟩ := Kd.at_int HR0_0.out x12_1 p111 q111
              cases e111
              replace hx111_0 := (HB.out.cell (World.block_lt_of_cell? w _ hx111_0)).trans hx111_0
              replace p111 := eq_true p111
              replace q111 := eq_true q111
              go_wp2
              repeat (go_quiet (fail); try go_wp2)
              go_ret
              exact ⟨by first | rfl | (simp [errW_none, errW_some] <;> rfl) | (simp [*, errW_none, errW_some] <;> rfl), by repeat (first | (with_reducible first | exact HB.out | apply below_alloc | apply pw_below_drewN | apply below_drew1 | refine below_set ?_ GE110.out) | exact HB.out)⟩
          · rw [if_neg c6] at H
            exact absurd H (by simp)
        · rw [if_neg c5] at H
          exact absurd H (by simp)
      · rw [if_neg c4] at H
        have c4b0 : decide (x12_1 < (l0_0.length : Int)) = false := decide_eq_false c4
        clear c4
        have H' := Aside0.mk H
        clear H
        go_wp2
        repeat (go_quiet (fail); try go_wp2)
        go_loopg [5] k1 (fun kq v5 w' => ∃ (x5_2 : Int), v5 = .int .i64 x5_2 ∧ Aside0 (spec_CronPlainZone.l1 kq x5_2 l0_0 l0_1 l0_2 l0_3 = some r) ∧ Aside0 (kq ≤ k1) ∧ Aside0 (w'.heap[gb110]? = some (.cells #[(.slice A0_0 l0_0.length c0_0), (.slice A0_1 l0_1.length c0_1), (.slice A0_2 l0_2.length c0_2), (.slice A0_3 l0_3.length c0_3)] 31 (0, 0))) ∧ Aside0 (Below w.heap.size w w'))
        case atStart => exact ⟨(1), (by first | rfl | (simp; done) | (simp [*]; done)), H', ⟨Nat.le_refl _⟩, ⟨by (with_reducible repeat (first | refine blk_drewN ?_ _ | refine blk_drew ?_ | refine blk_alloc ?_ _)); exact BK110.out⟩, ⟨by repeat (first | (with_reducible first | exact HB.out | apply below_alloc | apply pw_below_drewN | apply below_drew1 | refine below_set ?_ GE110.out) | exact HB.out)⟩⟩
        case round =>
          clear H'
          try clear p1
          try clear q1
          try clear hx1
          try clear p2
          try clear c4
          try clear c4b0
          try clear c5
          try clear c5b0
          try clear c6
          try clear c6b0
          try clear p6
          try clear c7
          try clear c7b0
          try clear c7b1
          try clear hcz3_0
          try clear hcz3_1
          try clear hcz3_2
          try clear hcz3_3
          try clear hfz3_0
          try clear hfz3_1
          try clear hfz3_2
          try clear hfz3_3
          try clear hx111_0
          try clear p111
          try clear p2
          try clear q111
          obtain ⟨x5_2, rfl, HA, HK2, BK110, HB⟩ := hrel
          cases gk with
          | zero => exact absurd HA.out (by simp [spec_CronPlainZone.l1])
          | succ k2 =>
            have H := HA.out
            clear HA
            simp only [spec_CronPlainZone.l1] at H
            by_cases c8 : x5_2 < (l0_2.length : Int)
            · rw [if_pos c8] at H
              have c8b0 : decide (x5_2 < (l0_2.length : Int)) = true := decide_eq_true c8
              clear c8
              by_cases c9 : 0 ≤ x5_2
              · rw [if_pos c9] at H
                have c9b0 : decide (0 ≤ x5_2) = true := decide_eq_true c9
                clear c9
                have HC10 := Aside0.mk H
                clear H
                have hcz11_0 : wr.cell? ⟨gb110, 0, none⟩ = some (.slice A0_0 l0_0.length c0_0) := (blk_cell BK110.out 0).trans rfl
                have hcz11_1 : wr.cell? ⟨gb110, 1, none⟩ = some (.slice A0_1 l0_1.length c0_1) := (blk_cell BK110.out 1).trans rfl
                have hcz11_2 : wr.cell? ⟨gb110, 2, none⟩ = some (.slice A0_2 l0_2.length c0_2) := (blk_cell BK110.out 2).trans rfl
                have hcz11_3 : wr.cell? ⟨gb110, 3, none⟩ = some (.slice A0_3 l0_3.length c0_3) := (blk_cell BK110.out 3).trans rfl
                have hfz11_0 := blk_frozen BK110.out 0
                have hfz11_1 := blk_frozen BK110.out 1
                have hfz11_2 := blk_frozen BK110.out 2
                have hfz11_3 := blk_frozen BK110.out 3
                have p112 : 0 ≤ (x5_2 : Int) := of_decide_eq_true (by first | (with_reducible assumption) | assumption)
                have q112 : x5_2 < (l0_2.length : Int) := of_decide_eq_true (by first | (with_reducible assumption) | assumption)
                obtain ⟨ad112, e112, hx112_0⟩ := Kd.at_int HR0_2.out x5_2 p112 q112
                cases e112
                replace hx112_0 := (HB.out.cell (World.block_lt_of_cell? w _ hx112_0)).trans hx112_0
                replace p112 := eq_true p112
                replace q112 := eq_true q112
                go_upto_region 11 with (fail)
                repeat (go_quiet (fail); go_upto_region 11 with (fail))
                go_cut [37] (fun v37 wc => ∃ (kq : Nat) (x37_9 : Bool), v37 = .bool x37_9 ∧ Aside0 (spec_CronPlainZone.j2 kq x5_2 (rd l0_2 x5_2) x37_9 l0_0 l0_1 l0_2 l0_3 = some r) ∧ Aside0 (kq ≤ k2) ∧ Aside0 (wc.heap[gb110]? = some (.cells #[(.slice A0_0 l0_0.length c0_0), (.slice A0_1 l0_1.length c0_1), (.slice (some ad112) l0_2.length c0_2), (.slice A0_3 l0_3.length c0_3)] 31 (0, 0))) ∧ Aside0 (Below w.heap.size w wc))
                case first =>
                  have H := HC10.out
                  clear HC10
                  by_cases c12 : (rd l0_2 x5_2) < (-62167596800)
                  · rw [if_pos c12] at H
                    have c12b0 : decide ((rd l0_2 x5_2) < (-62167596800)) = true := decide_eq_true c12
                    clear c12
                    (first | rw [c12b0] | (simp only [i64_w, i32_w]; rw [c12b0]) | skip)
                    have H' := Aside0.mk H
                    clear H
                    go_wp2
                    repeat (go_quiet (fail); try go_wp2)
                    go_meet
                    case rel => exact ⟨_, (true), (by first | rfl | (simp; done) | (simp [*]; done)), H', ⟨by have := HK1.out; have := HK2.out; first | omega | exact Nat.le_refl _⟩, ⟨by (with_reducible repeat (first | refine blk_drewN ?_ _ | refine blk_drew ?_ | refine blk_alloc ?_ _)); exact BK110.out⟩, ⟨by repeat (first | (with_reducible first | exact HB.out | apply below_alloc | apply pw_below_drewN | apply below_drew1 | refine below_set ?_ GE110.out) | exact HB.out)⟩⟩
                  · rw [if_neg c12] at H
                    have c12b0 : decide ((rd l0_2 x5_2) < (-62167596800)) = false := decide_eq_false c12
                    clear c12
                    (first | rw [c12b0] | (simp only [i64_w, i32_w]; rw [c12b0]) | skip)
                    have H' := Aside0.mk H
                    clear H
                    go_wp2
                    repeat (go_quiet (fail); try go_wp2)
                    go_meet
                    case rel => exact ⟨_, (decide ((rd l0_2 x5_2) > 253722300799)), (by first | rfl | (simp; done) | (simp [*]; done)), H', ⟨by have := HK1.out; have := HK2.out; first | omega | exact Nat.le_refl _⟩, ⟨by (with_reducible repeat (first | refine blk_drewN ?_ _ | refine blk_drew ?_ | refine blk_alloc ?_ _)); exact BK110.out⟩, ⟨by repeat (first | (with_reducible first | exact HB.out | apply below_alloc | apply pw_below_drewN | apply below_drew1 | refine below_set ?_ GE110.out) | exact HB.out)⟩⟩
                case rest =>
                  clear HC10
                  try clear c1
                  try clear p1
                  try clear q1
                  try clear hx1
                  try clear p2
                  try clear c4
                  try clear c4b0
                  try clear c5
                  try clear c5b0
                  try clear c6
                  try clear c6b0
                  try clear p6
                  try clear c7
                  try clear c7b0
                  try clear c7b1
                  try clear c8
                  try clear c8b0
                  try clear c9
                  try clear c9b0
                  try clear p11
                  try clear q11
                  try clear hx11
                  try clear c12
                  try clear c12b0
                  try clear hcz11_0
                  try clear hcz11_1
                  try clear hcz11_2
                  try clear hcz11_3
                  try clear hcz3_0
                  try clear hcz3_1
                  try clear hcz3_2
                  try clear hcz3_3
                  try clear hfz11_0
                  try clear hfz11_1
                  try clear hfz11_2
                  try clear hfz11_3
                  try clear hfz3_0
                  try clear hfz3_1
                  try clear hfz3_2
                  try clear hfz3_3
                  try clear hx111_0
                  try clear hx112_0
                  try clear p1
                  try clear p111
                  try clear p112
                  try clear p2
                  try clear p6
                  try clear q1
                  try clear q111
                  try clear q112
                  obtain ⟨kq, x37_9, rfl, HA, HJ9, BK110, HB⟩ := hcut
                  cases kq with
                  | zero => exact absurd HA.out (by simp [spec_CronPlainZone.j2])
                  | succ kj9 =>
                    have H := HA.out
                    clear HA
                    simp only [spec_CronPlainZone.j2] at H
                    by_cases c13 : x37_9 = true
                    · subst c13
                      have H1 : (some false) = some r := by rw [if_pos rfl] at H; exact H
                      clear H
                      have H := H1
                      clear H1
                      obtain rfl := Option.some.inj H
                      go_wp2
                      repeat (go_quiet (fail); try go_wp2)
                      go_ret
                      exact ⟨by first | rfl | (simp [errW_none, errW_some] <;> rfl) | (simp [*, errW_none, errW_some] <;> rfl), by repeat (first | (with_reducible first | exact HB.out | apply below_alloc | apply pw_below_drewN | apply below_drew1 | refine below_set ?_ GE110.out) | exact HB.out)⟩
                    · replace c13 := Bool.eq_false_iff.mpr c13
                      subst c13
                      have H1 : (if x5_2 > 1 then (if 0 ≤ x5_2 then (if x5_2 < (l0_2.length : Int) then (if 0 ≤ (wrap64 (x5_2 - 1)) then (if (wrap64 (x5_2 - 1)) < (l0_2.length : Int) then (spec_CronPlainZone.j3 kj9 x5_2 (rd l0_2 x5_2) (decide ((wrap64 ((rd l0_2 x5_2) - (rd l0_2 (wrap64 (x5_2 - 1))))) < 345600)) l0_0 l0_1 l0_2 l0_3) else (none)) else (none)) else (none)) else (none)) else (spec_CronPlainZone.j3 kj9 x5_2 (rd l0_2 x5_2) false l0_0 l0_1 l0_2 l0_3)) = some r := by rw [if_neg (show ¬ (false = true) by decide)] at H; exact H
                      clear H
                      have H := H1
                      clear H1
                      have HC14 := Aside0.mk H
                      clear H
                      go_upto_region 13 with (fail)
                      repeat (go_quiet (fail); go_upto_region 13 with (fail))
                      go_cut [54] (fun v54 wc => ∃ (kq : Nat) (x54_13 : Bool), v54 = .bool x54_13 ∧ Aside0 (spec_CronPlainZone.j3 kq x5_2 (rd l0_2 x5_2) x54_13 l0_0 l0_1 l0_2 l0_3 = some r) ∧ Aside0 (kq ≤ kj9) ∧ Aside0 (wc.heap[gb110]? = some (.cells #[(.slice A0_0 l0_0.length c0_0), (.slice A0_1 l0_1.length c0_1), (.slice (some ad112) l0_2.length c0_2), (.slice A0_3 l0_3.length c0_3)] 31 (0, 0))) ∧ Aside0 (Below w.heap.size w wc))
                      case first =>
                        have H := HC14.out
                        clear HC14
                        by_cases c15 : x5_2 > 1
                        · rw [if_pos c15] at H
                          have c15b0 : decide (1 < x5_2) = true := decide_eq_true c15
                          clear c15
                          (first | rw [c15b0] | (simp only [i64_w, i32_w]; rw [c15b0]) | skip)
                          by_cases c16 : 0 ≤ x5_2
                          · rw [if_pos c16] at H
                            have c16b0 : decide (0 ≤ x5_2) = true := decide_eq_true c16
                            clear c16
                            by_cases c17 : x5_2 < (l0_2.length : Int)
                            · rw [if_pos c17] at H
                              have c17b0 : decide (x5_2 < (l0_2.length : Int)) = true := decide_eq_true c17
                              clear c17
                              obtain ⟨ji18, hji18⟩ : ∃ j_ : Int, (wrap64 (x5_2 - 1)) = j_ := ⟨_, rfl⟩
                              replace H : (if 0 ≤ (ji18) then (if (ji18) < (l0_2.length : Int) then (spec_CronPlainZone.j3 kj9 x5_2 (rd l0_2 x5_2) (decide ((wrap64 ((rd l0_2 x5_2) - (rd l0_2 (ji18)))) < 345600)) l0_0 l0_1 l0_2 l0_3) else (none)) else (none)) = some r := by first | (rw [hji18] at H; exact H) | (simp only [hji18] at H ⊢; exact H)
                              have hji18w : (IntKind.i64.wrap (x5_2 - 1)) = ji18 := (i64_w _).trans hji18
                              by_cases c19 : 0 ≤ (ji18)
                              · rw [if_pos c19] at H
                                have c19b0 : decide (0 ≤ (ji18)) = true := decide_eq_true c19
                                clear c19
                                by_cases c20 : (ji18) < (l0_2.length : Int)
                                · rw [if_pos c20] at H
                                  have c20b0 : decide ((ji18) < (l0_2.length : Int)) = true := decide_eq_true c20
                                  clear c20
                                  have H' := Aside0.mk H
                                  clear H
                                  have hcz21_0 : wc.cell? ⟨gb110, 0, none⟩ = some (.slice A0_0 l0_0.length c0_0) := (blk_cell BK110.out 0).trans rfl
                                  have hcz21_1 : wc.cell? ⟨gb110, 1, none⟩ = some (.slice A0_1 l0_1.length c0_1) := (blk_cell BK110.out 1).trans rfl
                                  have hcz21_2 : wc.cell? ⟨gb110, 2, none⟩ = some (.slice (some ad112) l0_2.length c0_2) := (blk_cell BK110.out 2).trans rfl
                                  have hcz21_3 : wc.cell? ⟨gb110, 3, none⟩ = some (.slice A0_3 l0_3.length c0_3) := (blk_cell BK110.out 3).trans rfl
                                  have hfz21_0 := blk_frozen BK110.out 0
                                  have hfz21_1 := blk_frozen BK110.out 1
                                  have hfz21_2 := blk_frozen BK110.out 2
                                  have hfz21_3 := blk_frozen BK110.out 3
                                  have p113 : 0 ≤ (x5_2 : Int) := of_decide_eq_true (by first | (with_reducible assumption) | assumption)
                                  have q113 : x5_2 < (l0_2.length : Int) := of_decide_eq_true (by first | (with_reducible assumption) | assumption)
                                  obtain ⟨ad113, e113, hx113_0⟩ := Kd.at_int HR0_2.out x5_2 p113 q113
                                  obtain rfl : ad112 = ad113 := (by injection e113)
                                  replace hx113_0 := (HB.out.cell (World.block_lt_of_cell? w _ hx113_0)).trans hx113_0
                                  replace p113 := eq_true p113
                                  replace q113 := eq_true q113
                                  have p114 : 0 ≤ ((ji18) : Int) := of_decide_eq_true (by first | (with_reducible assumption) | assumption)
                                  have q114 : (ji18) < (l0_2.length : Int) := of_decide_eq_true (by first | (with_reducible assumption) | assumption)
                                  obtain ⟨ad114, e114, hx114_0⟩ := Kd.at_int HR0_2.out (ji18) p114 q114
                                  obtain rfl : ad112 = ad114 := (by injection e114)
                                  replace hx114_0 := (HB.out.cell (World.block_lt_of_cell? w _ hx114_0)).trans hx114_0
                                  replace p114 := eq_true p114
                                  replace q114 := eq_true q114
                                  go_wp2
                                  repeat (go_quiet (fail); try go_wp2)
                                  go_meet
                                  case rel => exact ⟨_, (decide ((wrap64 ((rd l0_2 x5_2) - (rd l0_2 (ji18)))) < 345600)), (by first | rfl | (simp; done) | (simp only [← hji18] <;> (first | rfl | simp)) | (simp [*]; done)), H', ⟨by have := HK1.out; have := HK2.out; have := HJ9.out; first | omega | exact Nat.le_refl _⟩, ⟨by (with_reducible repeat (first | refine blk_drewN ?_ _ | refine blk_drew ?_ | refine blk_alloc ?_ _)); exact BK110.out⟩, ⟨by repeat (first | (with_reducible first | exact HB.out | apply below_alloc | apply pw_below_drewN | apply below_drew1 | refine below_set ?_ GE110.out) | exact HB.out)⟩⟩
                                · rw [if_neg c20] at H
                                  exact absurd H (by simp)
                              · rw [if_neg c19] at H
                                exact absurd H (by simp)
                            · rw [if_neg c17] at H
                              exact absurd H (by simp)
                          · rw [if_neg c16] at H
                            exact absurd H (by simp)
                        · rw [if_neg c15] at H
                          have c15b0 : decide (1 < x5_2) = false := decide_eq_false c15
                          clear c15
                          (first | rw [c15b0] | (simp only [i64_w, i32_w]; rw [c15b0]) | skip)
                          have H' := Aside0.mk H
                          clear H
                          go_wp2
                          repeat (go_quiet (fail); try go_wp2)
                          go_meet
                          case rel => exact ⟨_, (false), (by first | rfl | (simp; done) | (simp [*]; done)), H', ⟨by have := HK1.out; have := HK2.out; have := HJ9.out; first | omega | exact Nat.le_refl _⟩, ⟨by (with_reducible repeat (first | refine blk_drewN ?_ _ | refine blk_drew ?_ | refine blk_alloc ?_ _)); exact BK110.out⟩, ⟨by repeat (first | (with_reducible first | exact HB.out | apply below_alloc | apply pw_below_drewN | apply below_drew1 | refine below_set ?_ GE110.out) | exact HB.out)⟩⟩
                      case rest =>
                        clear HC14
                        try clear c1
                        try clear p1
                        try clear q1
                        try clear hx1
                        try clear c2
                        try clear p2
                        try clear c4
                        try clear c4b0
                        try clear c5
                        try clear c5b0
                        try clear c6
                        try clear c6b0
                        try clear p6
                        try clear c7
                        try clear c7b0
                        try clear c7b1
                        try clear c8
                        try clear c8b0
                        try clear c9
                        try clear c9b0
                        try clear p11
                        try clear q11
                        try clear hx11
                        try clear c12
                        try clear c12b0
                        try clear c13
                        try clear c15
                        try clear c15b0
                        try clear c16
                        try clear c16b0
                        try clear c17
                        try clear c17b0
                        try clear c19
                        try clear c19b0
                        try clear c20
                        try clear c20b0
                        try clear hcz11_0
                        try clear hcz11_1
                        try clear hcz11_2
                        try clear hcz11_3
                        try clear hcz21_0
                        try clear hcz21_1
                        try clear hcz21_2
                        try clear hcz21_3
                        try clear hcz3_0
                        try clear hcz3_1
                        try clear hcz3_2
                        try clear hcz3_3
                        try clear hfz11_0
                        try clear hfz11_1
                        try clear hfz11_2
                        try clear hfz11_3
                        try clear hfz21_0
                        try clear hfz21_1
                        try clear hfz21_2
                        try clear hfz21_3
                        try clear hfz3_0
                        try clear hfz3_1
                        try clear hfz3_2
                        try clear hfz3_3
                        try clear hx111_0
                        try clear hx112_0
                        try clear hx113_0
                        try clear hx114_0
                        try clear p1
                        try clear p11
                        try clear p111
                        try clear p112
                        try clear p113
                        try clear p114
                        try clear p2
                        try clear p6
                        try clear q1
                        try clear q11
                        try clear q111
                        try clear q112
                        try clear q113
                        try clear q114
                        obtain ⟨kq, x54_13, rfl, HA, HJ13, BK110, HB⟩ := hcut
                        cases kq with
                        | zero => exact absurd HA.out (by simp [spec_CronPlainZone.j3])
                        | succ kj13 =>
                          have H := HA.out
                          clear HA
                          simp only [spec_CronPlainZone.j3] at H
                          by_cases c22 : x54_13 = true
                          · subst c22
                            have H1 : (some false) = some r := by rw [if_pos rfl] at H; exact H
                            clear H
                            have H := H1
                            clear H1
                            obtain rfl := Option.some.inj H
                            go_wp2
                            repeat (go_quiet (fail); try go_wp2)
                            go_ret
                            exact ⟨by first | rfl | (simp [errW_none, errW_some] <;> rfl) | (simp [*, errW_none, errW_some] <;> rfl), by repeat (first | (with_reducible first | exact HB.out | apply below_alloc | apply pw_below_drewN | apply below_drew1 | refine below_set ?_ GE110.out) | exact HB.out)⟩
                          · replace c22 := Bool.eq_false_iff.mpr c22
                            subst c22
                            have H1 : (if 0 ≤ (wrap64 (x5_2 - 1)) then (if (wrap64 (x5_2 - 1)) < (l0_3.length : Int) then (if 0 ≤ (rd l0_3 (wrap64 (x5_2 - 1))) then (if (rd l0_3 (wrap64 (x5_2 - 1))) < (l0_0.length : Int) then (if 0 ≤ x5_2 then (if x5_2 < (l0_3.length : Int) then (if 0 ≤ (rd l0_3 x5_2) then (if (rd l0_3 x5_2) < (l0_0.length : Int) then ((spec_floorMod.f (wrap64 ((rd l0_2 x5_2) + (rd l0_0 (rd l0_3 (wrap64 (x5_2 - 1)))))) 3600).bind fun t119 => (if t119 = 0 then ((spec_floorMod.f (wrap64 ((rd l0_2 x5_2) + (rd l0_0 (rd l0_3 x5_2)))) 3600).bind fun t120 => (if t120 = 0 then (spec_CronPlainZone.j4 kj13 x5_2 (wrap64 ((rd l0_2 x5_2) + (rd l0_0 (rd l0_3 (wrap64 (x5_2 - 1)))))) (wrap64 ((rd l0_2 x5_2) + (rd l0_0 (rd l0_3 x5_2)))) (decide ((wrap64 ((rd l0_2 x5_2) + (rd l0_0 (rd l0_3 x5_2)))) < (wrap64 ((wrap64 ((rd l0_2 x5_2) + (rd l0_0 (rd l0_3 (wrap64 (x5_2 - 1)))))) - 3600)))) l0_0 l0_1 l0_2 l0_3) else (spec_CronPlainZone.j4 kj13 x5_2 (wrap64 ((rd l0_2 x5_2) + (rd l0_0 (rd l0_3 (wrap64 (x5_2 - 1)))))) (wrap64 ((rd l0_2 x5_2) + (rd l0_0 (rd l0_3 x5_2)))) true l0_0 l0_1 l0_2 l0_3))) else (spec_CronPlainZone.j4 kj13 x5_2 (wrap64 ((rd l0_2 x5_2) + (rd l0_0 (rd l0_3 (wrap64 (x5_2 - 1)))))) (wrap64 ((rd l0_2 x5_2) + (rd l0_0 (rd l0_3 x5_2)))) true l0_0 l0_1 l0_2 l0_3))) else (none)) else (none)) else (none)) else (none)) else (none)) else (none)) else (none)) else (none)) = some r := by rw [if_neg (show ¬ (false = true) by decide)] at H; exact H
                            clear H
                            have H := H1
                            clear H1
                            obtain ⟨ji23, hji23⟩ : ∃ j_ : Int, (wrap64 (x5_2 - 1)) = j_ := ⟨_, rfl⟩
                            replace H : (if 0 ≤ (ji23) then (if (ji23) < (l0_3.length : Int) then (if 0 ≤ (rd l0_3 (ji23)) then (if (rd l0_3 (ji23)) < (l0_0.length : Int) then (if 0 ≤ x5_2 then (if x5_2 < (l0_3.length : Int) then (if 0 ≤ (rd l0_3 x5_2) then (if (rd l0_3 x5_2) < (l0_0.length : Int) then ((spec_floorMod.f (wrap64 ((rd l0_2 x5_2) + (rd l0_0 (rd l0_3 (ji23))))) 3600).bind fun t119 => (if t119 = 0 then ((spec_floorMod.f (wrap64 ((rd l0_2 x5_2) + (rd l0_0 (rd l0_3 x5_2)))) 3600).bind fun t120 => (if t120 = 0 then (spec_CronPlainZone.j4 kj13 x5_2 (wrap64 ((rd l0_2 x5_2) + (rd l0_0 (rd l0_3 (ji23))))) (wrap64 ((rd l0_2 x5_2) + (rd l0_0 (rd l0_3 x5_2)))) (decide ((wrap64 ((rd l0_2 x5_2) + (rd l0_0 (rd l0_3 x5_2)))) < (wrap64 ((wrap64 ((rd l0_2 x5_2) + (rd l0_0 (rd l0_3 (ji23))))) - 3600)))) l0_0 l0_1 l0_2 l0_3) else (spec_CronPlainZone.j4 kj13 x5_2 (wrap64 ((rd l0_2 x5_2) + (rd l0_0 (rd l0_3 (ji23))))) (wrap64 ((rd l0_2 x5_2) + (rd l0_0 (rd l0_3 x5_2)))) true l0_0 l0_1 l0_2 l0_3))) else (spec_CronPlainZone.j4 kj13 x5_2 (wrap64 ((rd l0_2 x5_2) + (rd l0_0 (rd l0_3 (ji23))))) (wrap64 ((rd l0_2 x5_2) + (rd l0_0 (rd l0_3 x5_2)))) true l0_0 l0_1 l0_2 l0_3))) else (none)) else (none)) else (none)) else (none)) else (none)) else (none)) else (none)) else (none)) = some r := by first | (rw [hji23] at H; exact H) | (simp only [hji23] at H ⊢; exact H)
                            have hji23w : (IntKind.i64.wrap (x5_2 - 1)) = ji23 := (i64_w _).trans hji23
                            by_cases c24 : 0 ≤ (ji23)
                            · rw [if_pos c24] at H
                              have c24b0 : decide (0 ≤ (ji23)) = true := decide_eq_true c24
                              clear c24
                              by_cases c25 : (ji23) < (l0_3.length : Int)
                              · rw [if_pos c25] at H
                                have c25b0 : decide ((ji23) < (l0_3.length : Int)) = true := decide_eq_true c25
                                clear c25
                                by_cases c26 : 0 ≤ (rd l0_3 (ji23))
                                · rw [if_pos c26] at H
                                  have c26b0 : decide (0 ≤ (rd l0_3 (ji23))) = true := decide_eq_true c26
                                  clear c26
                                  by_cases c27 : (rd l0_3 (ji23)) < (l0_0.length : Int)
                                  · rw [if_pos c27] at H
                                    have c27b0 : decide ((rd l0_3 (ji23)) < (l0_0.length : Int)) = true := decide_eq_true c27
                                    clear c27
                                    by_cases c28 : 0 ≤ x5_2
                                    · rw [if_pos c28] at H
                                      have c28b0 : decide (0 ≤ x5_2) = true := decide_eq_true c28
                                      clear c28
                                      by_cases c29 : x5_2 < (l0_3.length : Int)
                                      · rw [if_pos c29] at H
                                        have c29b0 : decide (x5_2 < (l0_3.length : Int)) = true := decide_eq_true c29
                                        clear c29
                                        by_cases c30 : 0 ≤ (rd l0_3 x5_2)
                                        · rw [if_pos c30] at H
                                          have c30b0 : decide (0 ≤ (rd l0_3 x5_2)) = true := decide_eq_true c30
                                          clear c30
                                          by_cases c31 : (rd l0_3 x5_2) < (l0_0.length : Int)
                                          · rw [if_pos c31] at H
                                            have c31b0 : decide ((rd l0_3 x5_2) < (l0_0.length : Int)) = true := decide_eq_true c31
                                            clear c31
                                            have HC32 := Aside0.mk H
                                            clear H
                                            have hcz33_0 : wc.cell? ⟨gb110, 0, none⟩ = some (.slice A0_0 l0_0.length c0_0) := (blk_cell BK110.out 0).trans rfl
                                            have hcz33_1 : wc.cell? ⟨gb110, 1, none⟩ = some (.slice A0_1 l0_1.length c0_1) := (blk_cell BK110.out 1).trans rfl
                                            have hcz33_2 : wc.cell? ⟨gb110, 2, none⟩ = some (.slice (some ad112) l0_2.length c0_2) := (blk_cell BK110.out 2).trans rfl
                                            have hcz33_3 : wc.cell? ⟨gb110, 3, none⟩ = some (.slice A0_3 l0_3.length c0_3) := (blk_cell BK110.out 3).trans rfl
                                            have hfz33_0 := blk_frozen BK110.out 0
                                            have hfz33_1 := blk_frozen BK110.out 1
                                            have hfz33_2 := blk_frozen BK110.out 2
                                            have hfz33_3 := blk_frozen BK110.out 3
                                            have p115 : 0 ≤ ((ji23) : Int) := of_decide_eq_true (by first | (with_reducible assumption) | assumption)
                                            have q115 : (ji23) < (l0_3.length : Int) := of_decide_eq_true (by first | (with_reducible assumption) | assumption)
                                            obtain ⟨ad115, e115, hx115_0⟩ := Kd.at_int HR0_3.out (ji23) p115 q115
                                            cases e115
                                            replace hx115_0 := (HB.out.cell (World.block_lt_of_cell? w _ hx115_0)).trans hx115_0
                                            replace p115 := eq_true p115
                                            replace q115 := eq_true q115
                                            have p116 : 0 ≤ ((rd l0_3 (ji23)) : Int) := of_decide_eq_true (by first | (with_reducible assumption) | assumption)
                                            have q116 : (rd l0_3 (ji23)) < (l0_0.length : Int) := of_decide_eq_true (by first | (with_reducible assumption) | assumption)
                                            obtain ⟨ad116, e116, hx116_0⟩ := Kd.at_int HR0_0.out (rd l0_3 (ji23)) p116 q116
                                            cases e116
                                            replace hx116_0 := (HB.out.cell (World.block_lt_of_cell? w _ hx116_0)).trans hx116_0
                                            replace p116 := eq_true p116
                                            replace q116 := eq_true q116
                                            have p117 : 0 ≤ (x5_2 : Int) := of_decide_eq_true (by first | (with_reducible assumption) | assumption)
                                            have q117 : x5_2 < (l0_3.length : Int) := of_decide_eq_true (by first | (with_reducible assumption) | assumption)
                                            obtain ⟨ad117, e117, hx117_0⟩ := Kd.at_int HR0_3.out x5_2 p117 q117
                                            obtain rfl : ad115 = ad117 := (by injection e117)
                                            replace hx117_0 := (HB.out.cell (World.block_lt_of_cell? w _ hx117_0)).trans hx117_0
                                            replace p117 := eq_true p117
                                            replace q117 := eq_true q117
                                            have p118 : 0 ≤ ((rd l0_3 x5_2) : Int) := of_decide_eq_true (by first | (with_reducible assumption) | assumption)
                                            have q118 : (rd l0_3 x5_2) < (l0_0.length : Int) := of_decide_eq_true (by first | (with_reducible assumption) | assumption)
                                            obtain ⟨ad118, e118, hx118_0⟩ := Kd.at_int HR0_0.out (rd l0_3 x5_2) p118 q118
                                            obtain rfl : ad116 = ad118 := (by injection e118)
                                            replace hx118_0 := (HB.out.cell (World.block_lt_of_cell? w _ hx118_0)).trans hx118_0
                                            replace p118 := eq_true p118
                                            replace q118 := eq_true q118
                                            go_upto_region 16 with (fail)
                                            repeat (go_quiet (fail); go_upto_region 16 with (fail))
                                            go_cut [91] (fun v91 wc => ∃ (kq : Nat) (x91_31 : Bool), v91 = .bool x91_31 ∧ Aside0 (spec_CronPlainZone.j4 kq x5_2 (wrap64 ((rd l0_2 x5_2) + (rd l0_0 (rd l0_3 (ji23))))) (wrap64 ((rd l0_2 x5_2) + (rd l0_0 (rd l0_3 x5_2)))) x91_31 l0_0 l0_1 l0_2 l0_3 = some r) ∧ Aside0 (kq ≤ kj13) ∧ Aside0 (wc.heap[gb110]? = some (.cells #[(.slice (some ad116) l0_0.length c0_0), (.slice A0_1 l0_1.length c0_1), (.slice (some ad112) l0_2.length c0_2), (.slice (some ad115) l0_3.length c0_3)] 31 (0, 0))) ∧ Aside0 (Below w.heap.size w wc))
                                            case first =>
                                              have H := HC32.out
                                              clear HC32
                                              replace H := Option.bind_eq_some_iff.mp H
                                              obtain ⟨t119, A340, H⟩ := H
                                              replace H : (if t119 = 0 then ((spec_floorMod.f (wrap64 ((rd l0_2 x5_2) + (rd l0_0 (rd l0_3 x5_2)))) 3600).bind fun t120 => (if t120 = 0 then (spec_CronPlainZone.j4 kj13 x5_2 (wrap64 ((rd l0_2 x5_2) + (rd l0_0 (rd l0_3 (ji23))))) (wrap64 ((rd l0_2 x5_2) + (rd l0_0 (rd l0_3 x5_2)))) (decide ((wrap64 ((rd l0_2 x5_2) + (rd l0_0 (rd l0_3 x5_2)))) < (wrap64 ((wrap64 ((rd l0_2 x5_2) + (rd l0_0 (rd l0_3 (ji23))))) - 3600)))) l0_0 l0_1 l0_2 l0_3) else (spec_CronPlainZone.j4 kj13 x5_2 (wrap64 ((rd l0_2 x5_2) + (rd l0_0 (rd l0_3 (ji23))))) (wrap64 ((rd l0_2 x5_2) + (rd l0_0 (rd l0_3 x5_2)))) true l0_0 l0_1 l0_2 l0_3))) else (spec_CronPlainZone.j4 kj13 x5_2 (wrap64 ((rd l0_2 x5_2) + (rd l0_0 (rd l0_3 (ji23))))) (wrap64 ((rd l0_2 x5_2) + (rd l0_0 (rd l0_3 x5_2)))) true l0_0 l0_1 l0_2 l0_3)) = some r := H
                                              have A34 := Aside0.mk A340
                                              clear A340
                                              by_cases c35 : t119 = 0
                                              · rw [if_pos c35] at H
                                                have c35b0 : (t119 == 0) = true := beq_iff_eq.mpr c35
                                                have c35b1 : (t119 != 0) = false := bne_eq_false_iff_eq.mpr c35
                                                clear c35
                                                (first | rw [c35b0] | (simp only [i64_w, i32_w]; rw [c35b0]) | skip)
                                                replace H := Option.bind_eq_some_iff.mp H
                                                obtain ⟨t120, A360, H⟩ := H
                                                replace H : (if t120 = 0 then (spec_CronPlainZone.j4 kj13 x5_2 (wrap64 ((rd l0_2 x5_2) + (rd l0_0 (rd l0_3 (ji23))))) (wrap64 ((rd l0_2 x5_2) + (rd l0_0 (rd l0_3 x5_2)))) (decide ((wrap64 ((rd l0_2 x5_2) + (rd l0_0 (rd l0_3 x5_2)))) < (wrap64 ((wrap64 ((rd l0_2 x5_2) + (rd l0_0 (rd l0_3 (ji23))))) - 3600)))) l0_0 l0_1 l0_2 l0_3) else (spec_CronPlainZone.j4 kj13 x5_2 (wrap64 ((rd l0_2 x5_2) + (rd l0_0 (rd l0_3 (ji23))))) (wrap64 ((rd l0_2 x5_2) + (rd l0_0 (rd l0_3 x5_2)))) true l0_0 l0_1 l0_2 l0_3)) = some r := H
                                                have A36 := Aside0.mk A360
                                                clear A360
                                                by_cases c37 : t120 = 0
                                                · rw [if_pos c37] at H
                                                  have c37b0 : (t120 == 0) = true := beq_iff_eq.mpr c37
                                                  have c37b1 : (t120 != 0) = false := bne_eq_false_iff_eq.mpr c37
                                                  clear c37
                                                  have H' := Aside0.mk H
                                                  clear H
                                                  go_wp2_with (first | (go_at_call 11; (with_reducible refine (spec_floorMod.calls (wrap64 ((rd l0_2 x5_2) + (rd l0_0 (rd l0_3 (ji23))))) 3600 t119 _ A34.out).mono ?_); rintro e w' ⟨rfl, ⟨nd, rfl⟩⟩; (try first | exact ⟨rfl, _, World.drewN_drewN _ _ _⟩ | exact ⟨rfl, _, Eq.trans (World.drewN_drewN _ _ _) (congrArg (World.drewN _) (Nat.add_assoc _ _ _))⟩)) | (go_at_call 11; (with_reducible refine (spec_floorMod.calls (wrap64 ((rd l0_2 x5_2) + (rd l0_0 (rd l0_3 x5_2)))) 3600 t120 _ A36.out).mono ?_); rintro e w' ⟨rfl, ⟨nd, rfl⟩⟩; (try first | exact ⟨rfl, _, World.drewN_drewN _ _ _⟩ | exact ⟨rfl, _, Eq.trans (World.drewN_drewN _ _ _) (congrArg (World.drewN _) (Nat.add_assoc _ _ _))⟩)))
                                                  repeat (go_quiet (first | (go_at_call 11; (with_reducible refine (spec_floorMod.calls (wrap64 ((rd l0_2 x5_2) + (rd l0_0 (rd l0_3 (ji23))))) 3600 t119 _ A34.out).mono ?_); rintro e w' ⟨rfl, ⟨nd, rfl⟩⟩; (try first | exact ⟨rfl, _, World.drewN_drewN _ _ _⟩ | exact ⟨rfl, _, Eq.trans (World.drewN_drewN _ _ _) (congrArg (World.drewN _) (Nat.add_assoc _ _ _))⟩)) | (go_at_call 11; (with_reducible refine (spec_floorMod.calls (wrap64 ((rd l0_2 x5_2) + (rd l0_0 (rd l0_3 x5_2)))) 3600 t120 _ A36.out).mono ?_); rintro e w' ⟨rfl, ⟨nd, rfl⟩⟩; (try first | exact ⟨rfl, _, World.drewN_drewN _ _ _⟩ | exact ⟨rfl, _, Eq.trans (World.drewN_drewN _ _ _) (congrArg (World.drewN _) (Nat.add_assoc _ _ _))⟩))); try go_wp2_with (first | (go_at_call 11; (with_reducible refine (spec_floorMod.calls (wrap64 ((rd l0_2 x5_2) + (rd l0_0 (rd l0_3 (ji23))))) 3600 t119 _ A34.out).mono ?_); rintro e w' ⟨rfl, ⟨nd, rfl⟩⟩; (try first | exact ⟨rfl, _, World.drewN_drewN _ _ _⟩ | exact ⟨rfl, _, Eq.trans (World.drewN_drewN _ _ _) (congrArg (World.drewN _) (Nat.add_assoc _ _ _))⟩)) | (go_at_call 11; (with_reducible refine (spec_floorMod.calls (wrap64 ((rd l0_2 x5_2) + (rd l0_0 (rd l0_3 x5_2)))) 3600 t120 _ A36.out).mono ?_); rintro e w' ⟨rfl, ⟨nd, rfl⟩⟩; (try first | exact ⟨rfl, _, World.drewN_drewN _ _ _⟩ | exact ⟨rfl, _, Eq.trans (World.drewN_drewN _ _ _) (congrArg (World.drewN _) (Nat.add_assoc _ _ _))⟩))))
                                                  go_meet
                                                  case rel => exact ⟨_, (decide ((wrap64 ((rd l0_2 x5_2) + (rd l0_0 (rd l0_3 x5_2)))) < (wrap64 ((wrap64 ((rd l0_2 x5_2) + (rd l0_0 (rd l0_3 (ji23))))) - 3600)))), (by first | rfl | (simp; done) | (simp only [← hji23] <;> (first | rfl | simp)) | (simp [*]; done)), H', ⟨by have := HK1.out; have := HK2.out; have := HJ9.out; have := HJ13.out; first | omega | exact Nat.le_refl _⟩, ⟨by (with_reducible repeat (first | refine blk_drewN ?_ _ | refine blk_drew ?_ | refine blk_alloc ?_ _)); exact BK110.out⟩, ⟨by repeat (first | (with_reducible first | exact HB.out | apply below_alloc | apply pw_below_drewN | apply below_drew1 | refine below_set ?_ GE110.out) | exact HB.out)⟩⟩
                                                · rw [if_neg c37] at H
                                                  have c37b0 : (t120 == 0) = false := beq_eq_false_iff_ne.mpr c37
                                                  have c37b1 : (t120 != 0) = true := bne_iff_ne.mpr c37
                                                  have H' := Aside0.mk H
                                                  clear H
                                                  go_wp2_with (first | (go_at_call 11; (with_reducible refine (spec_floorMod.calls (wrap64 ((rd l0_2 x5_2) + (rd l0_0 (rd l0_3 (ji23))))) 3600 t119 _ A34.out).mono ?_); rintro e w' ⟨rfl, ⟨nd, rfl⟩⟩; (try first | exact ⟨rfl, _, World.drewN_drewN _ _ _⟩ | exact ⟨rfl, _, Eq.trans (World.drewN_drewN _ _ _) (congrArg (World.drewN _) (Nat.add_assoc _ _ _))⟩)) | (go_at_call 11; (with_reducible refine (spec_floorMod.calls (wrap64 ((rd l0_2 x5_2) + (rd l0_0 (rd l0_3 x5_2)))) 3600 t120 _ A36.out).mono ?_); rintro e w' ⟨rfl, ⟨nd, rfl⟩⟩; (try first | exact ⟨rfl, _, World.drewN_drewN _ _ _⟩ | exact ⟨rfl, _, Eq.trans (World.drewN_drewN _ _ _) (congrArg (World.drewN _) (Nat.add_assoc _ _ _))⟩)))
                                                  repeat (go_quiet (first | (go_at_call 11; (with_reducible refine (spec_floorMod.calls (wrap64 ((rd l0_2 x5_2) + (rd l0_0 (rd l0_3 (ji23))))) 3600 t119 _ A34.out).mono ?_); rintro e w' ⟨rfl, ⟨nd, rfl⟩⟩; (try first | exact ⟨rfl, _, World.drewN_drewN _ _ _⟩ | exact ⟨rfl, _, Eq.trans (World.drewN_drewN _ _ _) (congrArg (World.drewN _) (Nat.add_assoc _ _ _))⟩)) | (go_at_call 11; (with_reducible refine (spec_floorMod.calls (wrap64 ((rd l0_2 x5_2) + (rd l0_0 (rd l0_3 x5_2)))) 3600 t120 _ A36.out).mono ?_); rintro e w' ⟨rfl, ⟨nd, rfl⟩⟩; (try first | exact ⟨rfl, _, World.drewN_drewN _ _ _⟩ | exact ⟨rfl, _, Eq.trans (World.drewN_drewN _ _ _) (congrArg (World.drewN _) (Nat.add_assoc _ _ _))⟩))); try go_wp2_with (first | (go_at_call 11; (with_reducible refine (spec_floorMod.calls (wrap64 ((rd l0_2 x5_2) + (rd l0_0 (rd l0_3 (ji23))))) 3600 t119 _ A34.out).mono ?_); rintro e w' ⟨rfl, ⟨nd, rfl⟩⟩; (try first | exact ⟨rfl, _, World.drewN_drewN _ _ _⟩ | exact ⟨rfl, _, Eq.trans (World.drewN_drewN _ _ _) (congrArg (World.drewN _) (Nat.add_assoc _ _ _))⟩)) | (go_at_call 11; (with_reducible refine (spec_floorMod.calls (wrap64 ((rd l0_2 x5_2) + (rd l0_0 (rd l0_3 x5_2)))) 3600 t120 _ A36.out).mono ?_); rintro e w' ⟨rfl, ⟨nd, rfl⟩⟩; (try first | exact ⟨rfl, _, World.drewN_drewN _ _ _⟩ | exact ⟨rfl, _, Eq.trans (World.drewN_drewN _ _ _) (congrArg (World.drewN _) (Nat.add_assoc _ _ _))⟩))))
                                                  go_meet
                                                  case rel => exact ⟨_, (true), (by first | rfl | (simp; done) | (simp [*]; done)), H', ⟨by have := HK1.out; have := HK2.out; have := HJ9.out; have := HJ13.out; first | omega | exact Nat.le_refl _⟩, ⟨by (with_reducible repeat (first | refine blk_drewN ?_ _ | refine blk_drew ?_ | refine blk_alloc ?_ _)); exact BK110.out⟩, ⟨by repeat (first | (with_reducible first | exact HB.out | apply below_alloc | apply pw_below_drewN | apply below_drew1 | refine below_set ?_ GE110.out) | exact HB.out)⟩⟩
                                              · rw [if_neg c35] at H
                                                have c35b0 : (t119 == 0) = false := beq_eq_false_iff_ne.mpr c35
                                                have c35b1 : (t119 != 0) = true := bne_iff_ne.mpr c35
                                                (first | rw [c35b0] | (simp only [i64_w, i32_w]; rw [c35b0]) | skip)
                                                have H' := Aside0.mk H
                                                clear H
                                                go_wp2_with (first | (go_at_call 11; (with_reducible refine (spec_floorMod.calls (wrap64 ((rd l0_2 x5_2) + (rd l0_0 (rd l0_3 (ji23))))) 3600 t119 _ A34.out).mono ?_); rintro e w' ⟨rfl, ⟨nd, rfl⟩⟩; (try first | exact ⟨rfl, _, World.drewN_drewN _ _ _⟩ | exact ⟨rfl, _, Eq.trans (World.drewN_drewN _ _ _) (congrArg (World.drewN _) (Nat.add_assoc _ _ _))⟩)))
                                                repeat (go_quiet (first | (go_at_call 11; (with_reducible refine (spec_floorMod.calls (wrap64 ((rd l0_2 x5_2) + (rd l0_0 (rd l0_3 (ji23))))) 3600 t119 _ A34.out).mono ?_); rintro e w' ⟨rfl, ⟨nd, rfl⟩⟩; (try first | exact ⟨rfl, _, World.drewN_drewN _ _ _⟩ | exact ⟨rfl, _, Eq.trans (World.drewN_drewN _ _ _) (congrArg (World.drewN _) (Nat.add_assoc _ _ _))⟩))); try go_wp2_with (first | (go_at_call 11; (with_reducible refine (spec_floorMod.calls (wrap64 ((rd l0_2 x5_2) + (rd l0_0 (rd l0_3 (ji23))))) 3600 t119 _ A34.out).mono ?_); rintro e w' ⟨rfl, ⟨nd, rfl⟩⟩; (try first | exact ⟨rfl, _, World.drewN_drewN _ _ _⟩ | exact ⟨rfl, _, Eq.trans (World.drewN_drewN _ _ _) (congrArg (World.drewN _) (Nat.add_assoc _ _ _))⟩))))
                                                go_meet
                                                case rel => exact ⟨_, (true), (by first | rfl | (simp; done) | (simp [*]; done)), H', ⟨by have := HK1.out; have := HK2.out; have := HJ9.out; have := HJ13.out; first | omega | exact Nat.le_refl _⟩, ⟨by (with_reducible repeat (first | refine blk_drewN ?_ _ | refine blk_drew ?_ | refine blk_alloc ?_ _)); exact BK110.out⟩, ⟨by repeat (first | (with_reducible first | exact HB.out | apply below_alloc | apply pw_below_drewN | apply below_drew1 | refine below_set ?_ GE110.out) | exact HB.out)⟩⟩
                                            case rest =>
                                              clear HC32
                                              try clear c1
                                              try clear p1
                                              try clear q1
                                              try clear hx1
                                              try clear c2
                                              try clear p2
                                              try clear c3
                                              try clear c4
                                              try clear c4b0
                                              try clear c5
                                              try clear c5b0
                                              try clear c6
                                              try clear c6b0
                                              try clear p6
                                              try clear c7
                                              try clear c7b0
                                              try clear c7b1
                                              try clear c8
                                              try clear c8b0
                                              try clear c9
                                              try clear c9b0
                                              try clear p11
                                              try clear q11
                                              try clear hx11
                                              try clear c12
                                              try clear c12b0
                                              try clear c13
                                              try clear c15
                                              try clear c15b0
                                              try clear c16
                                              try clear c16b0
                                              try clear c17
                                              try clear c17b0
                                              try clear c19
                                              try clear c19b0
                                              try clear c20
                                              try clear c20b0
                                              try clear c22
                                              try clear c24
                                              try clear c24b0
                                              try clear c25
                                              try clear c25b0
                                              try clear c26
                                              try clear c26b0
                                              try clear c27
                                              try clear c27b0
                                              try clear c28
                                              try clear c28b0
                                              try clear c29
                                              try clear c29b0
                                              try clear c30
                                              try clear c30b0
                                              try clear c31
                                              try clear c31b0
                                              try clear c35
                                              try clear c35b0
                                              try clear c35b1
                                              try clear c37
                                              try clear c37b0
                                              try clear c37b1
                                              try clear hcz11_0
                                              try clear hcz11_1
                                              try clear hcz11_2
                                              try clear hcz11_3
                                              try clear hcz21_0
                                              try clear hcz21_1
                                              try clear hcz21_2
                                              try clear hcz21_3
                                              try clear hcz33_0
                                              try clear hcz33_1
                                              try clear hcz33_2
                                              try clear hcz33_3
                                              try clear hcz3_0
                                              try clear hcz3_1
                                              try clear hcz3_2
                                              try clear hcz3_3
                                              try clear hfz11_0
                                              try clear hfz11_1
                                              try clear hfz11_2
                                              try clear hfz11_3
                                              try clear hfz21_0
                                              try clear hfz21_1
                                              try clear hfz21_2
                                              try clear hfz21_3
                                              try clear hfz33_0
                                              try clear hfz33_1
                                              try clear hfz33_2
                                              try clear hfz33_3
                                              try clear hfz3_0
                                              try clear hfz3_1
                                              try clear hfz3_2
                                              try clear hfz3_3
                                              try clear hx111_0
                                              try clear hx112_0
                                              try clear hx113_0
                                              try clear hx114_0
                                              try clear hx115_0
                                              try clear hx116_0
                                              try clear hx117_0
                                              try clear hx118_0
                                              try clear p1
                                              try clear p11
                                              try clear p111
                                              try clear p112
                                              try clear p113
                                              try clear p114
                                              try clear p115
                                              try clear p116
                                              try clear p117
                                              try clear p118
                                              try clear p2
                                              try clear p6
                                              try clear q1
                                              try clear q11
                                              try clear q111
                                              try clear q112
                                              try clear q113
                                              try clear q114
                                              try clear q115
                                              try clear q116
                                              try clear q117
                                              try clear q118
                                              obtain ⟨kq, x91_31, rfl, HA, HJ31, BK110, HB⟩ := hcut
                                              cases kq with
                                              | zero => exact absurd HA.out (by simp [spec_CronPlainZone.j4])
                                              | succ kj31 =>
                                                have H := HA.out
                                                clear HA
                                                simp only [spec_CronPlainZone.j4] at H
                                                by_cases c38 : x91_31 = true
                                                · subst c38
                                                  have H1 : (some false) = some r := by rw [if_pos rfl] at H; exact H
                                                  clear H
                                                  have H := H1
                                                  clear H1
                                                  obtain rfl := Option.some.inj H
                                                  go_wp2
                                                  repeat (go_quiet (fail); try go_wp2)
                                                  go_ret
                                                  exact ⟨by first | rfl | (simp [errW_none, errW_some] <;> rfl) | (simp only [← hji23]; first | rfl | (simp [errW_none, errW_some] <;> rfl)) | (simp [*, errW_none, errW_some] <;> rfl), by repeat (first | (with_reducible first | exact HB.out | apply below_alloc | apply pw_below_drewN | apply below_drew1 | refine below_set ?_ GE110.out) | exact HB.out)⟩
                                                · replace c38 := Bool.eq_false_iff.mpr c38
                                                  subst c38
                                                  have H1 : ((spec_floorDiv.f (wrap64 ((rd l0_2 x5_2) + (rd l0_0 (rd l0_3 (ji23))))) 86400).bind fun t121 => ((spec_floorDiv.f (wrap64 ((rd l0_2 x5_2) + (rd l0_0 (rd l0_3 x5_2)))) 86400).bind fun t122 => (if t121 = t122 then ((spec_floorMod.f (wrap64 ((rd l0_2 x5_2) + (rd l0_0 (rd l0_3 (ji23))))) 86400).bind fun t123 => (if t123 < 3600 then (some false) else ((spec_floorMod.f (wrap64 ((rd l0_2 x5_2) + (rd l0_0 (rd l0_3 x5_2)))) 86400).bind fun t124 => (if t124 < 3600 then (some false) else (spec_CronPlainZone.l1 kj31 (wrap64 (x5_2 + 1)) l0_0 l0_1 l0_2 l0_3))))) else (some false)))) = some r := by rw [if_neg (show ¬ (false = true) by decide)] at H; exact H
                                                  clear H
                                                  have H := H1
                                                  clear H1
                                                  replace H := Option.bind_eq_some_iff.mp H
                                                  obtain ⟨t121, A390, H⟩ := H
                                                  replace H : ((spec_floorDiv.f (wrap64 ((rd l0_2 x5_2) + (rd l0_0 (rd l0_3 x5_2)))) 86400).bind fun t122 => (if t121 = t122 then ((spec_floorMod.f (wrap64 ((rd l0_2 x5_2) + (rd l0_0 (rd l0_3 (ji23))))) 86400).bind fun t123 => (if t123 < 3600 then (some false) else ((spec_floorMod.f (wrap64 ((rd l0_2 x5_2) + (rd l0_0 (rd l0_3 x5_2)))) 86400).bind fun t124 => (if t124 < 3600 then (some false) else (spec_CronPlainZone.l1 kj31 (wrap64 (x5_2 + 1)) l0_0 l0_1 l0_2 l0_3))))) else (some false))) = some r := H
                                                  have A39 := Aside0.mk A390
                                                  clear A390
                                                  replace H := Option.bind_eq_some_iff.mp H
                                                  obtain ⟨t122, A400, H⟩ := H
                                                  replace H : (if t121 = t122 then ((spec_floorMod.f (wrap64 ((rd l0_2 x5_2) + (rd l0_0 (rd l0_3 (ji23))))) 86400).bind fun t123 => (if t123 < 3600 then (some false) else ((spec_floorMod.f (wrap64 ((rd l0_2 x5_2) + (rd l0_0 (rd l0_3 x5_2)))) 86400).bind fun t124 => (if t124 < 3600 then (some false) else (spec_CronPlainZone.l1 kj31 (wrap64 (x5_2 + 1)) l0_0 l0_1 l0_2 l0_3))))) else (some false)) = some r := H
                                                  have A40 := Aside0.mk A400
                                                  clear A400
                                                  by_cases c41 : t121 = t122
                                                  · rw [if_pos c41] at H
                                                    have c41b0 : (t121 == t122) = true := beq_iff_eq.mpr c41
                                                    have c41b1 : (t121 != t122) = false := bne_eq_false_iff_eq.mpr c41
                                                    clear c41
                                                    replace H := Option.bind_eq_some_iff.mp H
                                                    obtain ⟨t123, A420, H⟩ := H
                                                    replace H : (if t123 < 3600 then (some false) else ((spec_floorMod.f (wrap64 ((rd l0_2 x5_2) + (rd l0_0 (rd l0_3 x5_2)))) 86400).bind fun t124 => (if t124 < 3600 then (some false) else (spec_CronPlainZone.l1 kj31 (wrap64 (x5_2 + 1)) l0_0 l0_1 l0_2 l0_3)))) = some r := H
                                                    have A42 := Aside0.mk A420
                                                    clear A420
                                                    by_cases c43 : t123 < 3600
                                                    · rw [if_pos c43] at H
                                                      have c43b0 : decide (t123 < 3600) = true := decide_eq_true c43
                                                      clear c43
                                                      obtain rfl := Option.some.inj H
                                                      go_wp2_with (first | (go_at_call 12; (with_reducible refine (spec_floorDiv.calls (wrap64 ((rd l0_2 x5_2) + (rd l0_0 (rd l0_3 (ji23))))) 86400 t121 _ A39.out).mono ?_); rintro e w' ⟨rfl, ⟨nd, rfl⟩⟩; (try first | exact ⟨rfl, _, World.drewN_drewN _ _ _⟩ | exact ⟨rfl, _, Eq.trans (World.drewN_drewN _ _ _) (congrArg (World.drewN _) (Nat.add_assoc _ _ _))⟩)) | (go_at_call 12; (with_reducible refine (spec_floorDiv.calls (wrap64 ((rd l0_2 x5_2) + (rd l0_0 (rd l0_3 x5_2)))) 86400 t122 _ A40.out).mono ?_); rintro e w' ⟨rfl, ⟨nd, rfl⟩⟩; (try first | exact ⟨rfl, _, World.drewN_drewN _ _ _⟩ | exact ⟨rfl, _, Eq.trans (World.drewN_drewN _ _ _) (congrArg (World.drewN _) (Nat.add_assoc _ _ _))⟩)) | (go_at_call 11; (with_reducible refine (spec_floorMod.calls (wrap64 ((rd l0_2 x5_2) + (rd l0_0 (rd l0_3 (ji23))))) 86400 t123 _ A42.out).mono ?_); rintro e w' ⟨rfl, ⟨nd, rfl⟩⟩; (try first | exact ⟨rfl, _, World.drewN_drewN _ _ _⟩ | exact ⟨rfl, _, Eq.trans (World.drewN_drewN _ _ _) (congrArg (World.drewN _) (Nat.add_assoc _ _ _))⟩)))
                                                      repeat (go_quiet (first | (go_at_call 12; (with_reducible refine (spec_floorDiv.calls (wrap64 ((rd l0_2 x5_2) + (rd l0_0 (rd l0_3 (ji23))))) 86400 t121 _ A39.out).mono ?_); rintro e w' ⟨rfl, ⟨nd, rfl⟩⟩; (try first | exact ⟨rfl, _, World.drewN_drewN _ _ _⟩ | exact ⟨rfl, _, Eq.trans (World.drewN_drewN _ _ _) (congrArg (World.drewN _) (Nat.add_assoc _ _ _))⟩)) | (go_at_call 12; (with_reducible refine (spec_floorDiv.calls (wrap64 ((rd l0_2 x5_2) + (rd l0_0 (rd l0_3 x5_2)))) 86400 t122 _ A40.out).mono ?_); rintro e w' ⟨rfl, ⟨nd, rfl⟩⟩; (try first | exact ⟨rfl, _, World.drewN_drewN _ _ _⟩ | exact ⟨rfl, _, Eq.trans (World.drewN_drewN _ _ _) (congrArg (World.drewN _) (Nat.add_assoc _ _ _))⟩)) | (go_at_call 11; (with_reducible refine (spec_floorMod.calls (wrap64 ((rd l0_2 x5_2) + (rd l0_0 (rd l0_3 (ji23))))) 86400 t123 _ A42.out).mono ?_); rintro e w' ⟨rfl, ⟨nd, rfl⟩⟩; (try first | exact ⟨rfl, _, World.drewN_drewN _ _ _⟩ | exact ⟨rfl, _, Eq.trans (World.drewN_drewN _ _ _) (congrArg (World.drewN _) (Nat.add_assoc _ _ _))⟩))); try go_wp2_with (first | (go_at_call 12; (with_reducible refine (spec_floorDiv.calls (wrap64 ((rd l0_2 x5_2) + (rd l0_0 (rd l0_3 (ji23))))) 86400 t121 _ A39.out).mono ?_); rintro e w' ⟨rfl, ⟨nd, rfl⟩⟩; (try first | exact ⟨rfl, _, World.drewN_drewN _ _ _⟩ | exact ⟨rfl, _, Eq.trans (World.drewN_drewN _ _ _) (congrArg (World.drewN _) (Nat.add_assoc _ _ _))⟩)) | (go_at_call 12; (with_reducible refine (spec_floorDiv.calls (wrap64 ((rd l0_2 x5_2) + (rd l0_0 (rd l0_3 x5_2)))) 86400 t122 _ A40.out).mono ?_); rintro e w' ⟨rfl, ⟨nd, rfl⟩⟩; (try first | exact ⟨rfl, _, World.drewN_drewN _ _ _⟩ | exact ⟨rfl, _, Eq.trans (World.drewN_drewN _ _ _) (congrArg (World.drewN _) (Nat.add_assoc _ _ _))⟩)) | (go_at_call 11; (with_reducible refine (spec_floorMod.calls (wrap64 ((rd l0_2 x5_2) + (rd l0_0 (rd l0_3 (ji23))))) 86400 t123 _ A42.out).mono ?_); rintro e w' ⟨rfl, ⟨nd, rfl⟩⟩; (try first | exact ⟨rfl, _, World.drewN_drewN _ _ _⟩ | exact ⟨rfl, _, Eq.trans (World.drewN_drewN _ _ _) (congrArg (World.drewN _) (Nat.add_assoc _ _ _))⟩))))
                                                      go_ret
                                                      exact ⟨by first | rfl | (simp [errW_none, errW_some] <;> rfl) | (simp only [← hji23]; first | rfl | (simp [errW_none, errW_some] <;> rfl)) | (simp [*, errW_none, errW_some] <;> rfl), by repeat (first | (with_reducible first | exact HB.out | apply below_alloc | apply pw_below_drewN | apply below_drew1 | refine below_set ?_ GE110.out) | exact HB.out)⟩
                                                    · rw [if_neg c43] at H
                                                      have c43b0 : decide (t123 < 3600) = false := decide_eq_false c43
                                                      clear c43
                                                      replace H := Option.bind_eq_some_iff.mp H
                                                      obtain ⟨t124, A440, H⟩ := H
                                                      replace H : (if t124 < 3600 then (some false) else (spec_CronPlainZone.l1 kj31 (wrap64 (x5_2 + 1)) l0_0 l0_1 l0_2 l0_3)) = some r := H
                                                      have A44 := Aside0.mk A440
                                                      clear A440
                                                      by_cases c45 : t124 < 3600
                                                      · rw [if_pos c45] at H
                                                        have c45b0 : decide (t124 < 3600) = true := decide_eq_true c45
                                                        clear c45
                                                        obtain rfl := Option.some.inj H
                                                        go_wp2_with (first | (go_at_call 12; (with_reducible refine (spec_floorDiv.calls (wrap64 ((rd l0_2 x5_2) + (rd l0_0 (rd l0_3 (ji23))))) 86400 t121 _ A39.out).mono ?_); rintro e w' ⟨rfl, ⟨nd, rfl⟩⟩; (try first | exact ⟨rfl, _, World.drewN_drewN _ _ _⟩ | exact ⟨rfl, _, Eq.trans (World.drewN_drewN _ _ _) (congrArg (World.drewN _) (Nat.add_assoc _ _ _))⟩)) | (go_at_call 12; (with_reducible refine (spec_floorDiv.calls (wrap64 ((rd l0_2 x5_2) + (rd l0_0 (rd l0_3 x5_2)))) 86400 t122 _ A40.out).mono ?_); rintro e w' ⟨rfl, ⟨nd, rfl⟩⟩; (try first | exact ⟨rfl, _, World.drewN_drewN _ _ _⟩ | exact ⟨rfl, _, Eq.trans (World.drewN_drewN _ _ _) (congrArg (World.drewN _) (Nat.add_assoc _ _ _))⟩)) | (go_at_call 11; (with_reducible refine (spec_floorMod.calls (wrap64 ((rd l0_2 x5_2) + (rd l0_0 (rd l0_3 (ji23))))) 86400 t123 _ A42.out).mono ?_); rintro e w' ⟨rfl, ⟨nd, rfl⟩⟩; (try first | exact ⟨rfl, _, World.drewN_drewN _ _ _⟩ | exact ⟨rfl, _, Eq.trans (World.drewN_drewN _ _ _) (congrArg (World.drewN _) (Nat.add_assoc _ _ _))⟩)) | (go_at_call 11; (with_reducible refine (spec_floorMod.calls (wrap64 ((rd l0_2 x5_2) + (rd l0_0 (rd l0_3 x5_2)))) 86400 t124 _ A44.out).mono ?_); rintro e w' ⟨rfl, ⟨nd, rfl⟩⟩; (try first | exact ⟨rfl, _, World.drewN_drewN _ _ _⟩ | exact ⟨rfl, _, Eq.trans (World.drewN_drewN _ _ _) (congrArg (World.drewN _) (Nat.add_assoc _ _ _))⟩)))
                                                        repeat (go_quiet (first | (go_at_call 12; (with_reducible refine (spec_floorDiv.calls (wrap64 ((rd l0_2 x5_2) + (rd l0_0 (rd l0_3 (ji23))))) 86400 t121 _ A39.out).mono ?_); rintro e w' ⟨rfl, ⟨nd, rfl⟩⟩; (try first | exact ⟨rfl, _, World.drewN_drewN _ _ _⟩ | exact ⟨rfl, _, Eq.trans (World.drewN_drewN _ _ _) (congrArg (World.drewN _) (Nat.add_assoc _ _ _))⟩)) | (go_at_call 12; (with_reducible refine (spec_floorDiv.calls (wrap64 ((rd l0_2 x5_2) + (rd l0_0 (rd l0_3 x5_2)))) 86400 t122 _ A40.out).mono ?_); rintro e w' ⟨rfl, ⟨nd, rfl⟩⟩; (try first | exact ⟨rfl, _, World.drewN_drewN _ _ _⟩ | exact ⟨rfl, _, Eq.trans (World.drewN_drewN _ _ _) (congrArg (World.drewN _) (Nat.add_assoc _ _ _))⟩)) | (go_at_call 11; (with_reducible refine (spec_floorMod.calls (wrap64 ((rd l0_2 x5_2) + (rd l0_0 (rd l0_3 (ji23))))) 86400 t123 _ A42.out).mono ?_); rintro e w' ⟨rfl, ⟨nd, rfl⟩⟩; (try first | exact ⟨rfl, _, World.drewN_drewN _ _ _⟩ | exact ⟨rfl, _, Eq.trans (World.drewN_drewN _ _ _) (congrArg (World.drewN _) (Nat.add_assoc _ _ _))⟩)) | (go_at_call 11; (with_reducible refine (spec_floorMod.calls (wrap64 ((rd l0_2 x5_2) + (rd l0_0 (rd l0_3 x5_2)))) 86400 t124 _ A44.out).mono ?_); rintro e w' ⟨rfl, ⟨nd, rfl⟩⟩; (try first | exact ⟨rfl, _, World.drewN_drewN _ _ _⟩ | exact ⟨rfl, _, Eq.trans (World.drewN_drewN _ _ _) (congrArg (World.drewN _) (Nat.add_assoc _ _ _))⟩))); try go_wp2_with (first | (go_at_call 12; (with_reducible refine (spec_floorDiv.calls (wrap64 ((rd l0_2 x5_2) + (rd l0_0 (rd l0_3 (ji23))))) 86400 t121 _ A39.out).mono ?_); rintro e w' ⟨rfl, ⟨nd, rfl⟩⟩; (try first | exact ⟨rfl, _, World.drewN_drewN _ _ _⟩ | exact ⟨rfl, _, Eq.trans (World.drewN_drewN _ _ _) (congrArg (World.drewN _) (Nat.add_assoc _ _ _))⟩)) | (go_at_call 12; (with_reducible refine (spec_floorDiv.calls (wrap64 ((rd l0_2 x5_2) + (rd l0_0 (rd l0_3 x5_2)))) 86400 t122 _ A40.out).mono ?_); rintro e w' ⟨rfl, ⟨nd, rfl⟩⟩; (try first | exact ⟨rfl, _, World.drewN_drewN _ _ _⟩ | exact ⟨rfl, _, Eq.trans (World.drewN_drewN _ _ _) (congrArg (World.drewN _) (Nat.add_assoc _ _ _))⟩)) | (go_at_call 11; (with_reducible refine (spec_floorMod.calls (wrap64 ((rd l0_2 x5_2) + (rd l0_0 (rd l0_3 (ji23))))) 86400 t123 _ A42.out).mono ?_); rintro e w' ⟨rfl, ⟨nd, rfl⟩⟩; (try first | exact ⟨rfl, _, World.drewN_drewN _ _ _⟩ | exact ⟨rfl, _, Eq.trans (World.drewN_drewN _ _ _) (congrArg (World.drewN _) (Nat.add_assoc _ _ _))⟩)) | (go_at_call 11; (with_reducible refine (spec_floorMod.calls (wrap64 ((rd l0_2 x5_2) + (rd l0_0 (rd l0_3 x5_2)))) 86400 t124 _ A44.out).mono ?_); rintro e w' ⟨rfl, ⟨nd, rfl⟩⟩; (try first | exact ⟨rfl, _, World.drewN_drewN _ _ _⟩ | exact ⟨rfl, _, Eq.trans (World.drewN_drewN _ _ _) (congrArg (World.drewN _) (Nat.add_assoc _ _ _))⟩))))
                                                        go_ret
                                                        exact ⟨by first | rfl | (simp [errW_none, errW_some] <;> rfl) | (simp only [← hji23]; first | rfl | (simp [errW_none, errW_some] <;> rfl)) | (simp [*, errW_none, errW_some] <;> rfl), by repeat (first | (with_reducible first | exact HB.out | apply below_alloc | apply pw_below_drewN | apply below_drew1 | refine below_set ?_ GE110.out) | exact HB.out)⟩
                                                      · rw [if_neg c45] at H
                                                        have c45b0 : decide (t124 < 3600) = false := decide_eq_false c45
                                                        clear c45
                                                        have H' := Aside0.mk H
                                                        clear H
                                                        go_wp2_with (first | (go_at_call 12; (with_reducible refine (spec_floorDiv.calls (wrap64 ((rd l0_2 x5_2) + (rd l0_0 (rd l0_3 (ji23))))) 86400 t121 _ A39.out).mono ?_); rintro e w' ⟨rfl, ⟨nd, rfl⟩⟩; (try first | exact ⟨rfl, _, World.drewN_drewN _ _ _⟩ | exact ⟨rfl, _, Eq.trans (World.drewN_drewN _ _ _) (congrArg (World.drewN _) (Nat.add_assoc _ _ _))⟩)) | (go_at_call 12; (with_reducible refine (spec_floorDiv.calls (wrap64 ((rd l0_2 x5_2) + (rd l0_0 (rd l0_3 x5_2)))) 86400 t122 _ A40.out).mono ?_); rintro e w' ⟨rfl, ⟨nd, rfl⟩⟩; (try first | exact ⟨rfl, _, World.drewN_drewN _ _ _⟩ | exact ⟨rfl, _, Eq.trans (World.drewN_drewN _ _ _) (congrArg (World.drewN _) (Nat.add_assoc _ _ _))⟩)) | (go_at_call 11; (with_reducible refine (spec_floorMod.calls (wrap64 ((rd l0_2 x5_2) + (rd l0_0 (rd l0_3 (ji23))))) 86400 t123 _ A42.out).mono ?_); rintro e w' ⟨rfl, ⟨nd, rfl⟩⟩; (try first | exact ⟨rfl, _, World.drewN_drewN _ _ _⟩ | exact ⟨rfl, _, Eq.trans (World.drewN_drewN _ _ _) (congrArg (World.drewN _) (Nat.add_assoc _ _ _))⟩)) | (go_at_call 11; (with_reducible refine (spec_floorMod.calls (wrap64 ((rd l0_2 x5_2) + (rd l0_0 (rd l0_3 x5_2)))) 86400 t124 _ A44.out).mono ?_); rintro e w' ⟨rfl, ⟨nd, rfl⟩⟩; (try first | exact ⟨rfl, _, World.drewN_drewN _ _ _⟩ | exact ⟨rfl, _, Eq.trans (World.drewN_drewN _ _ _) (congrArg (World.drewN _) (Nat.add_assoc _ _ _))⟩)))
                                                        repeat (go_quiet (first | (go_at_call 12; (with_reducible refine (spec_floorDiv.calls (wrap64 ((rd l0_2 x5_2) + (rd l0_0 (rd l0_3 (ji23))))) 86400 t121 _ A39.out).mono ?_); rintro e w' ⟨rfl, ⟨nd, rfl⟩⟩; (try first | exact ⟨rfl, _, World.drewN_drewN _ _ _⟩ | exact ⟨rfl, _, Eq.trans (World.drewN_drewN _ _ _) (congrArg (World.drewN _) (Nat.add_assoc _ _ _))⟩)) | (go_at_call 12; (with_reducible refine (spec_floorDiv.calls (wrap64 ((rd l0_2 x5_2) + (rd l0_0 (rd l0_3 x5_2)))) 86400 t122 _ A40.out).mono ?_); rintro e w' ⟨rfl, ⟨nd, rfl⟩⟩; (try first | exact ⟨rfl, _, World.drewN_drewN _ _ _⟩ | exact ⟨rfl, _, Eq.trans (World.drewN_drewN _ _ _) (congrArg (World.drewN _) (Nat.add_assoc _ _ _))⟩)) | (go_at_call 11; (with_reducible refine (spec_floorMod.calls (wrap64 ((rd l0_2 x5_2) + (rd l0_0 (rd l0_3 (ji23))))) 86400 t123 _ A42.out).mono ?_); rintro e w' ⟨rfl, ⟨nd, rfl⟩⟩; (try first | exact ⟨rfl, _, World.drewN_drewN _ _ _⟩ | exact ⟨rfl, _, Eq.trans (World.drewN_drewN _ _ _) (congrArg (World.drewN _) (Nat.add_assoc _ _ _))⟩)) | (go_at_call 11; (with_reducible refine (spec_floorMod.calls (wrap64 ((rd l0_2 x5_2) + (rd l0_0 (rd l0_3 x5_2)))) 86400 t124 _ A44.out).mono ?_); rintro e w' ⟨rfl, ⟨nd, rfl⟩⟩; (try first | exact ⟨rfl, _, World.drewN_drewN _ _ _⟩ | exact ⟨rfl, _, Eq.trans (World.drewN_drewN _ _ _) (congrArg (World.drewN _) (Nat.add_assoc _ _ _))⟩))); try go_wp2_with (first | (go_at_call 12; (with_reducible refine (spec_floorDiv.calls (wrap64 ((rd l0_2 x5_2) + (rd l0_0 (rd l0_3 (ji23))))) 86400 t121 _ A39.out).mono ?_); rintro e w' ⟨rfl, ⟨nd, rfl⟩⟩; (try first | exact ⟨rfl, _, World.drewN_drewN _ _ _⟩ | exact ⟨rfl, _, Eq.trans (World.drewN_drewN _ _ _) (congrArg (World.drewN _) (Nat.add_assoc _ _ _))⟩)) | (go_at_call 12; (with_reducible refine (spec_floorDiv.calls (wrap64 ((rd l0_2 x5_2) + (rd l0_0 (rd l0_3 x5_2)))) 86400 t122 _ A40.out).mono ?_); rintro e w' ⟨rfl, ⟨nd, rfl⟩⟩; (try first | exact ⟨rfl, _, World.drewN_drewN _ _ _⟩ | exact ⟨rfl, _, Eq.trans (World.drewN_drewN _ _ _) (congrArg (World.drewN _) (Nat.add_assoc _ _ _))⟩)) | (go_at_call 11; (with_reducible refine (spec_floorMod.calls (wrap64 ((rd l0_2 x5_2) + (rd l0_0 (rd l0_3 (ji23))))) 86400 t123 _ A42.out).mono ?_); rintro e w' ⟨rfl, ⟨nd, rfl⟩⟩; (try first | exact ⟨rfl, _, World.drewN_drewN _ _ _⟩ | exact ⟨rfl, _, Eq.trans (World.drewN_drewN _ _ _) (congrArg (World.drewN _) (Nat.add_assoc _ _ _))⟩)) | (go_at_call 11; (with_reducible refine (spec_floorMod.calls (wrap64 ((rd l0_2 x5_2) + (rd l0_0 (rd l0_3 x5_2)))) 86400 t124 _ A44.out).mono ?_); rintro e w' ⟨rfl, ⟨nd, rfl⟩⟩; (try first | exact ⟨rfl, _, World.drewN_drewN _ _ _⟩ | exact ⟨rfl, _, Eq.trans (World.drewN_drewN _ _ _) (congrArg (World.drewN _) (Nat.add_assoc _ _ _))⟩))))
                                                        go_roundg kj31
                                                        case measure => have := HK1.out; have := HK2.out; have := HJ9.out; have := HJ13.out; have := HJ31.out; omega
                                                        case rel => exact ⟨(wrap64 (x5_2 + 1)), (by first | rfl | (simp; done) | (simp [*]; done)), H', ⟨by have := HK1.out; have := HK2.out; have := HJ9.out; have := HJ13.out; have := HJ31.out; omega⟩, ⟨by (with_reducible repeat (first | refine blk_drewN ?_ _ | refine blk_drew ?_ | refine blk_alloc ?_ _)); exact BK110.out⟩, ⟨by repeat (first | (with_reducible first | exact HB.out | apply below_alloc | apply pw_below_drewN | apply below_drew1 | refine below_set ?_ GE110.out) | exact HB.out)⟩⟩
                                                  · rw [if_neg c41] at H
                                                    have c41b0 : (t121 == t122) = false := beq_eq_false_iff_ne.mpr c41
                                                    have c41b1 : (t121 != t122) = true := bne_iff_ne.mpr c41
                                                    obtain rfl := Option.some.inj H
                                                    go_wp2_with (first | (go_at_call 12; (with_reducible refine (spec_floorDiv.calls (wrap64 ((rd l0_2 x5_2) + (rd l0_0 (rd l0_3 (ji23))))) 86400 t121 _ A39.out).mono ?_); rintro e w' ⟨rfl, ⟨nd, rfl⟩⟩; (try first | exact ⟨rfl, _, World.drewN_drewN _ _ _⟩ | exact ⟨rfl, _, Eq.trans (World.drewN_drewN _ _ _) (congrArg (World.drewN _) (Nat.add_assoc _ _ _))⟩)) | (go_at_call 12; (with_reducible refine (spec_floorDiv.calls (wrap64 ((rd l0_2 x5_2) + (rd l0_0 (rd l0_3 x5_2)))) 86400 t122 _ A40.out).mono ?_); rintro e w' ⟨rfl, ⟨nd, rfl⟩⟩; (try first | exact ⟨rfl, _, World.drewN_drewN _ _ _⟩ | exact ⟨rfl, _, Eq.trans (World.drewN_drewN _ _ _) (congrArg (World.drewN _) (Nat.add_assoc _ _ _))⟩)))
                                                    repeat (go_quiet (first | (go_at_call 12; (with_reducible refine (spec_floorDiv.calls (wrap64 ((rd l0_2 x5_2) + (rd l0_0 (rd l0_3 (ji23))))) 86400 t121 _ A39.out).mono ?_); rintro e w' ⟨rfl, ⟨nd, rfl⟩⟩; (try first | exact ⟨rfl, _, World.drewN_drewN _ _ _⟩ | exact ⟨rfl, _, Eq.trans (World.drewN_drewN _ _ _) (congrArg (World.drewN _) (Nat.add_assoc _ _ _))⟩)) | (go_at_call 12; (with_reducible refine (spec_floorDiv.calls (wrap64 ((rd l0_2 x5_2) + (rd l0_0 (rd l0_3 x5_2)))) 86400 t122 _ A40.out).mono ?_); rintro e w' ⟨rfl, ⟨nd, rfl⟩⟩; (try first | exact ⟨rfl, _, World.drewN_drewN _ _ _⟩ | exact ⟨rfl, _, Eq.trans (World.drewN_drewN _ _ _) (congrArg (World.drewN _) (Nat.add_assoc _ _ _))⟩))); try go_wp2_with (first | (go_at_call 12; (with_reducible refine (spec_floorDiv.calls (wrap64 ((rd l0_2 x5_2) + (rd l0_0 (rd l0_3 (ji23))))) 86400 t121 _ A39.out).mono ?_); rintro e w' ⟨rfl, ⟨nd, rfl⟩⟩; (try first | exact ⟨rfl, _, World.drewN_drewN _ _ _⟩ | exact ⟨rfl, _, Eq.trans (World.drewN_drewN _ _ _) (congrArg (World.drewN _) (Nat.add_assoc _ _ _))⟩)) | (go_at_call 12; (with_reducible refine (spec_floorDiv.calls (wrap64 ((rd l0_2 x5_2) + (rd l0_0 (rd l0_3 x5_2)))) 86400 t122 _ A40.out).mono ?_); rintro e w' ⟨rfl, ⟨nd, rfl⟩⟩; (try first | exact ⟨rfl, _, World.drewN_drewN _ _ _⟩ | exact ⟨rfl, _, Eq.trans (World.drewN_drewN _ _ _) (congrArg (World.drewN _) (Nat.add_assoc _ _ _))⟩))))
                                                    go_ret
                                                    exact ⟨by first | rfl | (simp [errW_none, errW_some] <;> rfl) | (simp only [← hji23]; first | rfl | (simp [errW_none, errW_some] <;> rfl)) | (simp [*, errW_none, errW_some] <;> rfl), by repeat (first | (with_reducible first | exact HB.out | apply below_alloc | apply pw_below_drewN | apply below_drew1 | refine below_set ?_ GE110.out) | exact HB.out)⟩
                                          · rw [if_neg c31] at H
                                            exact absurd H (by simp)
                                        · rw [if_neg c30] at H
                                          exact absurd H (by simp)
                                      · rw [if_neg c29] at H
                                        exact absurd H (by simp)
                                    · rw [if_neg c28] at H
                                      exact absurd H (by simp)
                                  · rw [if_neg c27] at H
                                    exact absurd H (by simp)
                                · rw [if_neg c26] at H
                                  exact absurd H (by simp)
                              · rw [if_neg c25] at H
                                exact absurd H (by simp)
                            · rw [if_neg c24] at H
                              exact absurd H (by simp)
              · rw [if_neg c9] at H
                exact absurd H (by simp)
            · rw [if_neg c8] at H
              have c8b0 : decide (x5_2 < (l0_2.length : Int)) = false := decide_eq_false c8
              clear c8
              obtain rfl := Option.some.inj H
              have hcz46_0 : wr.cell? ⟨gb110, 0, none⟩ = some (.slice A0_0 l0_0.length c0_0) := (blk_cell BK110.out 0).trans rfl
              have hcz46_1 : wr.cell? ⟨gb110, 1, none⟩ = some (.slice A0_1 l0_1.length c0_1) := (blk_cell BK110.out 1).trans rfl
              have hcz46_2 : wr.cell? ⟨gb110, 2, none⟩ = some (.slice A0_2 l0_2.length c0_2) := (blk_cell BK110.out 2).trans rfl
              have hcz46_3 : wr.cell? ⟨gb110, 3, none⟩ = some (.slice A0_3 l0_3.length c0_3) := (blk_cell BK110.out 3).trans rfl
              have hfz46_0 := blk_frozen BK110.out 0
              have hfz46_1 := blk_frozen BK110.out 1
              have hfz46_2 := blk_frozen BK110.out 2
              have hfz46_3 := blk_frozen BK110.out 3
              go_wp2
              repeat (go_quiet (fail); try go_wp2)
              go_ret
              exact ⟨by first | rfl | (simp [errW_none, errW_some] <;> rfl) | (simp [*, errW_none, errW_some] <;> rfl), by repeat (first | (with_reducible first | exact HB.out | apply below_alloc | apply pw_below_drewN | apply below_drew1 | refine below_set ?_ GE110.out) | exact HB.out)⟩

end Go.Proofs.Ytjmgebhjkbcpcaa.PFnCronNextMany
