/- a part of the proof: FnSemverTilde: for every two versions, number and wildcard the law's function returns true and leaves its arguments as they were; no condition is added, the statement is the given tied card. -/
import Derived.Test.YtpbmbaffncnglaaGreatDoorND
import Derived.Deep.OwnRows
import Derived.Deep.Cut
import Derived.Test.YtpbmbaffncnglaaGreatDoorNB
import Derived.Deep.Upon
import Derived.Scope
import Derived.Deep.LoopGhost
import Derived.Lib.SliceRun
import Derived.WalkSpells
import Derived.RangeFuncNested
import Derived.RangeFuncBound
import Derived.RangeFuncCalls
import Derived.RangeFuncLeaves
import Derived.Shelf.Abstract
import Derived.Shelf.RegionOpen
import Derived.WalkKit
import Derived.OwnWalkIn
import Derived.TacticsInMore
import Derived.LoopNIn
import Derived.LoopIn
import Derived.Maps.AppendAt
section
set_option linter.unusedVariables false
set_option linter.unusedSimpArgs false
/- the search's state laid out anew: reset -/
namespace Go.Proofs.YtpbmbaffncnglaaGreatDoor.Sv
open Go Go.RowKit Rx
set_option maxRecDepth 100000
theorem info91 : (Tryz.prog.info? 88).map (fun i => (i.zero, i.size, i.bytes)) = some (some (.int .u32 0), 1, 4) := by kernel_rfl
theorem info3 : (Tryz.prog.info? 3).map (fun i => (i.zero, i.size, i.bytes)) = some (some (.int .i64 0), 1, 8) := by kernel_rfl
theorem mkJ : ∃ Z : Array Value, Z.size = 768 ∧ ∀ w : World, (Instr.makeSlice 146 (.int .i64 0) (.int .i64 256)).run Tryz.prog w = .ok (.slice (some ⟨w.heap.size, 0, none⟩) 0 256) (w.alloc (.cells Z 170)) := by
  obtain ⟨i0, hi, hz0, hz1, hz2⟩ := info_parts info181
  refine ⟨madeCells (Value.agg #[.int .u32 0, .bool false, .int .i64 0]).cells (256 * i0.size), by rw [size_madeCells, hz1], fun w => ?_⟩
  exact run_makeSlice w 146 170 i0 _ Tryz.underlying146 hi hz0 .i64 .i64 0 256 (by decide) (by decide) (by rw [hz1]; decide) (by rw [hz2]; decide) (by decide)
theorem mkV : ∃ Z : Array Value, Z.size = 8192 ∧ (∀ i, i < 8192 → Z[i]? = some (.int .u32 0)) ∧ ∀ (n : Nat) (_ : n ≤ 8192) (w : World), (Instr.makeSlice 82 (.int .i64 n) (.int .i64 8192)).run Tryz.prog w = .ok (.slice (some ⟨w.heap.size, 0, none⟩) n 8192) (w.alloc (.cells Z 88)) := by
  obtain ⟨i0, hi, hz0, hz1, hz2⟩ := info_parts info91
  refine ⟨madeCells #[.int .u32 0] 8192, by rw [size_madeCells], fun i h => ?_, fun n hn w => ?_⟩
  · rw [← Array.getElem?_toList, toList_madeCells_one, List.getElem?_replicate, if_pos h]
  · have h := run_makeSlice (P := Tryz.prog) w 82 88 i0 _ Tryz.underlying82 hi hz0 .i64 .i64 n 8192 (by omega) (by omega) (by rw [hz1]; decide) (by rw [hz2]; decide) (by decide)
    rw [hz1] at h
    simpa [Value.cells] using h
theorem mkC (n : Nat) (hn : n ≤ 1000) (w : World) : (Instr.makeSlice 114 (.int .i64 n) (.int .i64 n)).run Tryz.prog w = .ok (.slice (some ⟨w.heap.size, 0, none⟩) n n) (w.alloc (.cells (madeCells #[.int .i64 0] n) 3)) :=
  run_make_row' 114 3 (.int .i64 0) 8 Tryz.underlying114 info3 rfl .i64 .i64 n (by omega) (by omega) w
/-- a row that is being filled -/
def fillc (i n : Nat) : Array Value := (ints (List.replicate i (-1) ++ List.replicate (n - i) 0)).toArray
theorem fillc_zero (n : Nat) : fillc 0 n = madeCells #[.int .i64 0] n := by
  apply Array.ext'
  rw [toList_madeCells_one]
  simp [fillc, ints]
theorem fillc_set (i n : Nat) (h : i < n) : (fillc i n).setIfInBounds i (.int .i64 (-1)) = fillc (i + 1) n := by
  unfold fillc ints
  rw [List.setIfInBounds_toArray]
  congr 1
  apply List.ext_getElem?
  intro j
  rw [List.getElem?_set]
  by_cases e : i = j
  · subst e
    rw [if_pos rfl, if_pos (by simp; omega)]
    rw [List.getElem?_map, List.getElem?_append_left (by simp)]
    simp
  · rw [if_neg e]
    simp only [List.getElem?_map]
    congr 1
    by_cases c : j < i
    · rw [List.getElem?_append_left (by simpa using c), List.getElem?_append_left (by simp; omega)]
      simp [c, Nat.lt_succ_of_lt c]
    · rw [List.getElem?_append_right (by simp; omega), List.getElem?_append_right (by simp; omega)]
      simp only [List.length_replicate, List.getElem?_replicate]
      by_cases d : j < n
      · rw [if_pos (by omega), if_pos (by omega)]
      · rw [if_neg (by omega), if_neg (by omega)]
theorem fillc_full (n : Nat) : fillc n n = (ints (List.replicate n (-1))).toArray := by simp [fillc]
structure Fill (wA wr : World) (CB i n : Nat) : Prop where
  grown : wA.grownBy wr (some CB)
  row : 0 < n → wr.heap[CB]? = some (.cells (fillc i n) 3 (0, 0))
theorem Fill.step {wA wr : World} {CB i n : Nat} (h : Fill wA wr CB i n) (hi : i < n) : Fill wA (wr.setCell ⟨CB, i, none⟩ (.int .i64 (-1))) CB (i + 1) n := by
  refine ⟨⟨h.grown.os, h.grown.tape, h.grown.output, by simpa using h.grown.size, fun k hk hne => ?_⟩, fun h0 => ?_⟩
  · rw [heap_setCell_other _ _ _ _ (fun e => hne (by rw [e]))]
    exact h.grown.block k hk hne
  · rw [heap_setCell_same wr CB i _ 3 _ (h.row h0), fillc_set i n hi]
theorem Fill.cell {wA wr : World} {CB i n : Nat} (h : Fill wA wr CB i n) (hi : i < n) : (∃ u, wr.cell? ⟨CB, i, none⟩ = some u) ∧ wr.frozen? ⟨CB, i, none⟩ = false := by
  refine ⟨⟨(fillc i n)[i]'(by simp [fillc, ints]; omega), by rw [cell_of_row _ _ _ _ _ _ (h.row (by omega))]; exact Array.getElem?_eq_getElem _⟩, frozen_of_row _ _ _ _ _ (h.row (by omega))⟩
theorem Fill.keep {wA wr : World} {CB i n B : Nat} {cs : Array Value} {t : TypeId} {f : Nat × Nat} (h : Fill wA wr CB i n) (hb : wA.heap[B]? = some (.cells cs t f)) (hne : B ≠ CB) : wr.heap[B]? = some (.cells cs t f) :=
  (h.grown.block B (Array.getElem?_eq_some_iff.1 hb).1 (fun e => hne (by injection e))).trans hb
theorem phaseA (w : World) (base B vn : Nat) (s : ByteArray) (ZJ ZV : Array Value) (hb : w.heap[B]? = some (.cells #[.int .i64 0, .slice none 0 0, .slice none 0 0, .slice none 0 0, .slice none 0 0, .string s] 150 (0, 0))) (hbase : base ≤ B) (W : World)
    (hW : (((((w.setCell ⟨B, 0, none⟩ (.int .i64 s.size)).setCell ⟨B, 3, none⟩ (.slice (some ⟨w.heap.size, 0, none⟩) 0 256)).setCell ⟨B, 4, none⟩ (.slice (some ⟨w.heap.size + 1, 0, none⟩) vn 8192)).alloc (.cells ZJ 170)).alloc (.cells ZV 88)) = W) :
    W.heap[B]? = some (.cells #[.int .i64 s.size, .slice none 0 0, .slice none 0 0, .slice (some ⟨w.heap.size, 0, none⟩) 0 256, .slice (some ⟨w.heap.size + 1, 0, none⟩) vn 8192, .string s] 150 (0, 0)) ∧
    W.heap[w.heap.size]? = some (.cells ZJ 170 (0, 0)) ∧ W.heap[w.heap.size + 1]? = some (.cells ZV 88 (0, 0)) ∧ W.heap.size = w.heap.size + 2 ∧ Below base w W := by
  subst hW
  have hlt : B < w.heap.size := (Array.getElem?_eq_some_iff.1 hb).1
  have h1 := heap_setCell_same w B 0 _ 150 (.int .i64 s.size) hb
  have h2 := heap_setCell_same _ B 3 _ 150 (.slice (some ⟨w.heap.size, 0, none⟩) 0 256) h1
  have h3 := heap_setCell_same _ B 4 _ 150 (.slice (some ⟨w.heap.size + 1, 0, none⟩) vn 8192) h2
  generalize hY : ((w.setCell ⟨B, 0, none⟩ (.int .i64 s.size)).setCell ⟨B, 3, none⟩ (.slice (some ⟨w.heap.size, 0, none⟩) 0 256)).setCell ⟨B, 4, none⟩ (.slice (some ⟨w.heap.size + 1, 0, none⟩) vn 8192) = Y at *
  have hYs : Y.heap.size = w.heap.size := by rw [← hY]; simp
  have hYb : Below base w Y := by rw [← hY]; exact (((Below.refl base w).setCell (p := ⟨B, 0, none⟩) hbase _).setCell (p := ⟨B, 3, none⟩) hbase _).setCell (p := ⟨B, 4, none⟩) hbase _
  have a1 : (Y.alloc (.cells ZJ 170)).heap.size = w.heap.size + 1 := by simp [hYs]
  refine ⟨?_, ?_, ?_, by simp [hYs], ((hYb.alloc (by omega) _).alloc (by rw [a1]; omega) _)⟩
  · rw [Below.heap_alloc _ _ B (by rw [a1]; omega), Below.heap_alloc _ _ B (by omega), h3]
    rfl
  · rw [Below.heap_alloc _ _ _ (by rw [a1]; omega), ← hYs]
    exact heap_alloc_new Y _
  · rw [← a1]
    exact heap_alloc_new _ _
theorem phaseB (w : World) (base B i c nc : Nat) (ZC : Array Value) (cs : Array Value) (hb : w.heap[B]? = some (.cells cs 150 (0, 0))) (hB : B < w.heap.size) (hbase : base ≤ B) (hsz : base ≤ w.heap.size) (X : World) 
    (hX : (w.setCell ⟨B, i, none⟩ (.slice (some ⟨w.heap.size, 0, none⟩) nc nc)).alloc (.cells ZC 3) = X) :
    X.heap[B]? = some (.cells (cs.setIfInBounds i (.slice (some ⟨w.heap.size, 0, none⟩) nc nc)) 150 (0, 0)) ∧ X.heap[w.heap.size]? = some (.cells ZC 3 (0, 0)) ∧ X.heap.size = w.heap.size + 1 ∧ (∀ k, k < w.heap.size → k ≠ B → X.heap[k]? = w.heap[k]?) ∧ Below base w X := by
  subst hX
  have h1 := heap_setCell_same w B i _ 150 (.slice (some ⟨w.heap.size, 0, none⟩) nc nc) hb
  have ho : ∀ k, k ≠ B → (w.setCell ⟨B, i, none⟩ (.slice (some ⟨w.heap.size, 0, none⟩) nc nc)).heap[k]? = w.heap[k]? := fun k hk => heap_setCell_other _ _ _ _ hk
  generalize hY : w.setCell ⟨B, i, none⟩ (.slice (some ⟨w.heap.size, 0, none⟩) nc nc) = Y at *
  have hYs : Y.heap.size = w.heap.size := by rw [← hY]; simp
  have hYb : Below base w Y := by rw [← hY]; exact (Below.refl base w).setCell (p := ⟨B, i, none⟩) hbase _
  refine ⟨by rw [Below.heap_alloc _ _ B (by omega)]; exact h1, by rw [← hYs]; exact heap_alloc_new Y _, by simp [hYs], fun k hk hne => ?_, hYb.alloc (by omega) _⟩
  rw [Below.heap_alloc _ _ k (by omega)]
  exact ho k hne
set_option maxHeartbeats 400000 in
theorem tReset (w : World) (base B PB IB icap L nc : Nat) (s : ByteArray) (hb : w.heap[B]? = some (.cells #[.int .i64 0, .slice none 0 0, .slice none 0 0, .slice none 0 0, .slice none 0 0, .string s] 150 (0, 0))) (hbase : base ≤ B)
    (p0 : w.cell? ⟨PB, 0, none⟩ = some (.slice (some ⟨IB, 0, none⟩) L icap)) (hL0 : 0 < L) (hL : L ≤ 1000) (hs : s.size ≤ 1000000) (hfit : L * (s.size + 1) ≤ 262144) (hnc : nc ≤ 1000) (hne : PB ≠ B) :
    Calls Tryz.prog 98 #[.pointer (some ⟨B, 0, none⟩), .pointer (some ⟨PB, 0, none⟩), .int .i64 s.size, .int .i64 nc] w fun e w' => (∃ v, e = .returned v) ∧ Below base w w' ∧
      ∃ CB MB VB vn, BS w' base B CB MB VB vn L s [] (fun _ _ => false) (List.replicate nc (-1)) (List.replicate nc (-1)) := by
  obtain ⟨ZJ, hZJ, mJ⟩ := mkJ
  obtain ⟨ZV, hZV, hZV0, mV⟩ := mkV
  obtain ⟨p, hp⟩ : ∃ p, p = L * (s.size + 1) := ⟨_, rfl⟩
  obtain ⟨vn, hvn⟩ : ∃ vn, vn = (p + 31) / 32 := ⟨_, rfl⟩
  have hp0 : 0 < p := by rw [hp]; exact Nat.mul_pos hL0 (by omega)
  rw [← hp] at hfit
  have q0 : (L : Int) * ((s.size : Int) + 1) = (p : Int) := by rw [hp]; push_cast; rfl
  have q1 : IntKind.i64.wrap ((L : Int) * ((s.size : Int) + 1)) = (p : Int) := by rw [q0, IntKind.wrap_i64]; omega
  have q2 : ((p : Int) + 32 - 1).tdiv 32 = (vn : Int) := by rw [Int.tdiv_eq_ediv_of_nonneg (by omega)]; omega
  have hpi : (p : Int) ≤ 262144 := by omega
  have hvl : vn ≤ 8192 := by omega
  have hfit2 : L * (s.size + 1) ≤ 32 * vn := by rw [← hp]; omega
  have hv0 : 0 < vn := by omega
  have hv1 : (vn : Int) ≤ 8192 := by omega
  replace mV := mV vn hvl
  have mC := mkC nc hnc
  obtain ⟨ZC, hZC⟩ : ∃ ZC, ZC = madeCells #[.int .i64 0] nc := ⟨_, rfl⟩
  rw [← hZC] at mC
  have hPs : PB < w.heap.size := Lib.lt_of_cell p0
  have hne' : ¬ PB = B := hne
  have hBs : B < w.heap.size := (Array.getElem?_eq_some_iff.1 hb).1
  have b0 : w.cell? ⟨B, 0, none⟩ = some (.int .i64 0) := cell_of_row _ _ 0 _ _ _ hb
  have b1 : w.cell? ⟨B, 1, none⟩ = some (.slice none 0 0) := cell_of_row _ _ 1 _ _ _ hb
  have b2 : w.cell? ⟨B, 2, none⟩ = some (.slice none 0 0) := cell_of_row _ _ 2 _ _ _ hb
  have b3 : w.cell? ⟨B, 3, none⟩ = some (.slice none 0 0) := cell_of_row _ _ 3 _ _ _ hb
  have b4 : w.cell? ⟨B, 4, none⟩ = some (.slice none 0 0) := cell_of_row _ _ 4 _ _ _ hb
  have f0 : w.frozen? ⟨B, 0, none⟩ = false := frozen_of_row _ _ _ _ _ hb
  have f1 : w.frozen? ⟨B, 1, none⟩ = false := frozen_of_row _ _ _ _ _ hb
  have f2 : w.frozen? ⟨B, 2, none⟩ = false := frozen_of_row _ _ _ _ _ hb
  have f3 : w.frozen? ⟨B, 3, none⟩ = false := frozen_of_row _ _ _ _ _ hb
  have f4 : w.frozen? ⟨B, 4, none⟩ = false := frozen_of_row _ _ _ _ _ hb
  have HB := Lib.hid hb
  have HZ := Lib.hid (And.intro hZJ (And.intro hZV hZV0))
  have HV := Lib.hid (And.intro hvl hfit2)
  have hvi : (0 : Int) < (vn : Int) := by omega
  have HZC := Lib.hid hZC
  clear hZC hb hZJ hZV hZV0 hvl hfit2 hvn hfit hp hp0 q0
  rcases Nat.eq_zero_or_pos nc with rfl | hpos
  · go_enter Tryz.func98, Tryz.ntmps98
    go_upto_region 9 with fail
    generalize hW : ((World.alloc _ _).alloc _) = W
    obtain ⟨hWB, hWJ, hWV, hWs, hWb⟩ := phaseA w base B vn s ZJ ZV HB.out hbase W hW
    clear hW
    have hBW : B < W.heap.size := by omega
    have w1 : W.cell? ⟨B, 1, none⟩ = some (.slice none 0 0) := cell_of_row _ _ 1 _ _ _ hWB
    have w2 : W.cell? ⟨B, 2, none⟩ = some (.slice none 0 0) := cell_of_row _ _ 2 _ _ _ hWB
    have g1 : W.frozen? ⟨B, 1, none⟩ = false := frozen_of_row _ _ _ _ _ hWB
    have g2 : W.frozen? ⟨B, 2, none⟩ = false := frozen_of_row _ _ _ _ _ hWB
    have HWB := Lib.hid (And.intro hWB (And.intro hWJ hWV))
    have HWs := Lib.hid (And.intro hWs hWb)
    clear hWB hWJ hWV hWs hWb
    go_upto_region 12 with fail
    generalize hX : World.setCell W _ _ = X
    have hXB : X.heap[B]? = some (.cells #[.int .i64 s.size, .slice none 0 0, .slice none 0 0, .slice (some ⟨w.heap.size, 0, none⟩) 0 256, .slice (some ⟨w.heap.size + 1, 0, none⟩) vn 8192, .string s] 150 (0, 0)) := by
      rw [← hX, heap_setCell_same W B 1 _ 150 _ HWB.out.1]; rfl
    have hXo : ∀ k, k ≠ B → X.heap[k]? = W.heap[k]? := fun k hk => by rw [← hX]; exact heap_setCell_other _ _ _ _ hk
    have hXs : X.heap.size = W.heap.size := by rw [← hX]; simp
    have hXb : Below base w X := by rw [← hX]; exact HWs.out.2.setCell (p := ⟨B, 1, none⟩) hbase _
    have x1 : X.cell? ⟨B, 1, none⟩ = some (.slice none 0 0) := cell_of_row _ _ 1 _ _ _ hXB
    have x2 : X.cell? ⟨B, 2, none⟩ = some (.slice none 0 0) := cell_of_row _ _ 2 _ _ _ hXB
    have h2 : X.frozen? ⟨B, 2, none⟩ = false := frozen_of_row _ _ _ _ _ hXB
    have HXB := Lib.hid (And.intro hXB (And.intro hXo (And.intro hXs hXb)))
    clear hX hXB hXo hXs hXb
    go_wp2
    go_loopw [95] (fun i wr => i = .int .i64 0 ∧ wr = X) (fun i _ => 0)
    case atStart => exact ⟨rfl, rfl⟩
    case round =>
      obtain ⟨rfl, rfl⟩ := hrel
      go_upto_region 20 with fail
      generalize hY : World.setCell wr _ _ = Y
      have hYB : Y.heap[B]? = some (.cells #[.int .i64 s.size, .slice none 0 0, .slice none 0 0, .slice (some ⟨w.heap.size, 0, none⟩) 0 256, .slice (some ⟨w.heap.size + 1, 0, none⟩) vn 8192, .string s] 150 (0, 0)) := by
        rw [← hY, heap_setCell_same wr B 2 _ 150 _ HXB.out.1]; rfl
      have hYo : ∀ k, k ≠ B → Y.heap[k]? = wr.heap[k]? := fun k hk => by rw [← hY]; exact heap_setCell_other _ _ _ _ hk
      have hYs : Y.heap.size = wr.heap.size := by rw [← hY]; simp
      have hYb : Below base w Y := by rw [← hY]; exact HXB.out.2.2.2.setCell (p := ⟨B, 2, none⟩) hbase _
      have y2 : Y.cell? ⟨B, 2, none⟩ = some (.slice none 0 0) := cell_of_row _ _ 2 _ _ _ hYB
      have HYB := Lib.hid (And.intro hYB (And.intro hYo (And.intro hYs hYb)))
      clear hY hYB hYo hYs hYb
      generalize hww : wr = w3 at *
      clear hww
      go_wp2
      go_loopw [131] (fun i wr => i = .int .i64 0 ∧ wr = Y) (fun i _ => 0)
      case atStart => exact ⟨rfl, rfl⟩
      case round =>
        obtain ⟨rfl, rfl⟩ := hrel
        go_wp2
        go_end0
        have hXs := HXB.out.2.2.1
        have hYs := HYB.out.2.2.1
        have hws := HWs.out.1
        have keepW : ∀ k o, k ≠ B → W.heap[k]? = some o → wr.heap[k]? = some o := fun k o hne h => by rw [HYB.out.2.1 k hne, HXB.out.2.1 k hne]; exact h
        refine ⟨⟨_, rfl⟩, HYB.out.2.2.2, w.heap.size + 2, w.heap.size + 3, w.heap.size + 1, vn, ?_⟩
        refine ⟨⟨.slice (some ⟨w.heap.size, 0, none⟩) 0 256, HYB.out.1, ?_⟩, fun h => absurd h (by simp), fun h => absurd h (by simp), ?_, ?_, hbase, ?_, ?_, ?_, ?_⟩
        · exact ⟨rfl, .inr ⟨w.heap.size, 256, ZJ, rfl, by omega, keepW _ _ (by omega) HWB.out.2.1, Nat.zero_le _, by decide, HZ.out.1, rfl⟩⟩
        · exact ⟨⟨ZV, fun _ => 0, keepW _ _ (by omega) HWB.out.2.2, HZ.out.2.1, fun i hi => HZ.out.2.2 i (by have := HV.out.1; omega), fun _ => by show 0 < 4294967296; decide, fun p q _ _ => by simp⟩, HV.out.1, HV.out.2⟩
        all_goals omega
  · have hni : (0 : Int) < (nc : Int) := by omega
    go_enter Tryz.func98, Tryz.ntmps98
    go_upto_region 9 with fail
    generalize hW : ((World.alloc _ _).alloc _) = W
    obtain ⟨hWB, hWJ, hWV, hWs, hWb⟩ := phaseA w base B vn s ZJ ZV HB.out hbase W hW
    clear hW
    have hBW : B < W.heap.size := by omega
    have w1 : W.cell? ⟨B, 1, none⟩ = some (.slice none 0 0) := cell_of_row _ _ 1 _ _ _ hWB
    have w2 : W.cell? ⟨B, 2, none⟩ = some (.slice none 0 0) := cell_of_row _ _ 2 _ _ _ hWB
    have g1 : W.frozen? ⟨B, 1, none⟩ = false := frozen_of_row _ _ _ _ _ hWB
    have HWB := Lib.hid (And.intro hWB (And.intro hWJ hWV))
    have HWs := Lib.hid (And.intro hWs hWb)
    clear hWB hWJ hWV hWs hWb
    go_upto_region 12 with fail
    generalize hX : World.alloc _ _ = X
    obtain ⟨hXB, hXC, hXs, hXk, hXb⟩ := phaseB W base B 1 W.heap.size nc ZC _ HWB.out.1 hBW hbase (by have := HWs.out.2.size; have := HWs.out.1; omega) X hX
    clear hX
    simp only [List.setIfInBounds_toArray, List.set_cons_succ, List.set_cons_zero] at hXB
    have x1 : X.cell? ⟨B, 1, none⟩ = some (.slice (some ⟨W.heap.size, 0, none⟩) nc nc) := cell_of_row _ _ 1 _ _ _ hXB
    have HXB := Lib.hid hXB
    have HXC := Lib.hid (And.intro hXC (And.intro hXk (And.intro hXs hXb)))
    clear hXB hXC hXs hXk hXb
    go_wp2
    go_loopw [95] (fun i wr => ∃ n : Nat, i = .int .i64 n ∧ Hid (n ≤ nc ∧ Fill X wr W.heap.size n nc)) (fun i _ => 2000 - (intOf i).toNat)
    case atStart => exact ⟨0, rfl, Lib.hid ⟨Nat.zero_le _, ⟨rfl, rfl, rfl, Nat.le_refl _, fun k _ _ => rfl⟩, fun _ => by rw [fillc_zero, ← HZC.out]; exact HXC.out.1⟩⟩
    case round =>
      obtain ⟨n, rfl, HF⟩ := hrel
      have y1 : wr.cell? ⟨B, 1, none⟩ = some (.slice (some ⟨W.heap.size, 0, none⟩) nc nc) := cell_of_row _ _ 1 _ _ _ (HF.out.2.keep HXB.out (by omega))
      by_cases c : n < nc
      · have c1 : (n : Int) < (nc : Int) := by omega
        obtain ⟨⟨u, hu⟩, hf⟩ := HF.out.2.cell c
        have HC := Lib.hid c
        clear c
        go_wp2
        go_roundw
        case measure => simp [intOf]; have := HC.out; omega
        case rel => exact ⟨n + 1, by go_num, Lib.hid ⟨by have := HC.out; omega, HF.out.2.step HC.out⟩⟩
      · have hn : n = nc := by have := HF.out.1; omega
        subst hn
        have hFB := HF.out.2.keep HXB.out (by omega)
        have y2 : wr.cell? ⟨B, 2, none⟩ = some (.slice none 0 0) := cell_of_row _ _ 2 _ _ _ hFB
        have h2 : wr.frozen? ⟨B, 2, none⟩ = false := frozen_of_row _ _ _ _ _ hFB
        have hwz : B < wr.heap.size := Lib.lt_of_cell y1
        have HFB := Lib.hid hFB
        clear c hFB
        go_upto_region 20 with fail
        generalize hY : World.alloc _ _ = Y
        have hXs := HXC.out.2.2.1
        have hgs := HF.out.2.grown.size
        have hWs := HWs.out.1
        obtain ⟨hYB, hYC, hYs, hYk, hYb⟩ := phaseB wr base B 2 wr.heap.size n ZC _ HFB.out hwz hbase (by omega) Y hY
        clear hY
        simp only [List.setIfInBounds_toArray, List.set_cons_succ, List.set_cons_zero] at hYB
        have z1 : Y.cell? ⟨B, 2, none⟩ = some (.slice (some ⟨wr.heap.size, 0, none⟩) n n) := cell_of_row _ _ 2 _ _ _ hYB
        have HYB := Lib.hid hYB
        have HYC := Lib.hid (And.intro hYC (And.intro hYk (And.intro hYs hYb)))
        have HWR := Lib.hid (And.intro HF.out.2 (And.intro hgs hXs))
        have hne2 : B ≠ wr.heap.size := by omega
        clear hYB hYC hYs hYk hYb hXs hgs HF
        generalize hwrr : wr = w3 at *
        clear hwrr
        go_wp2
        go_loopw [131] (fun i wr => ∃ m : Nat, i = .int .i64 m ∧ Hid (m ≤ n ∧ Fill Y wr w3.heap.size m n)) (fun i _ => 2000 - (intOf i).toNat)
        case atStart => exact ⟨0, rfl, Lib.hid ⟨Nat.zero_le _, ⟨rfl, rfl, rfl, Nat.le_refl _, fun k _ _ => rfl⟩, fun _ => by rw [fillc_zero, ← HZC.out]; exact HYC.out.1⟩⟩
        case round =>
          obtain ⟨m, rfl, HF⟩ := hrel
          have y1 : wr.cell? ⟨B, 2, none⟩ = some (.slice (some ⟨w3.heap.size, 0, none⟩) n n) := cell_of_row _ _ 2 _ _ _ (HF.out.2.keep HYB.out hne2)
          by_cases c : m < n
          · have c1 : (m : Int) < (n : Int) := by omega
            obtain ⟨⟨u, hu⟩, hf⟩ := HF.out.2.cell c
            have HC := Lib.hid c
            clear c
            go_wp2
            go_roundw
            case measure => simp [intOf]; have := HC.out; omega
            case rel => exact ⟨m + 1, by go_num, Lib.hid ⟨by have := HC.out; omega, HF.out.2.step HC.out⟩⟩
          · have hn : m = n := by have := HF.out.1; omega
            subst hn
            clear c
            go_wp2
            go_end0
            have hn2 := HF.out.2.grown.size
            have hB2 : base ≤ W.heap.size := by have := HWs.out.1; omega
            have hYs := HYC.out.2.2.1
            have hFs := HWR.out.2.1
            have hXs := HWR.out.2.2
            have hws := HWs.out.1
            have hB3 : base ≤ w3.heap.size := by omega
            refine ⟨⟨_, rfl⟩, ?_, W.heap.size, w3.heap.size, w.heap.size + 1, vn, ?_⟩
            · exact (((HWs.out.2.trans HXC.out.2.2.2).grown HWR.out.1.grown (by omega) (fun k hk => by injection hk with hk; omega)).trans HYC.out.2.2.2).grown HF.out.2.grown (by omega) (fun k hk => by injection hk with hk; omega)
            · have keepW : ∀ k o, k < W.heap.size → k ≠ B → W.heap[k]? = some o → wr.heap[k]? = some o := fun k o hk hne h => by
                rw [HF.out.2.grown.block k (by omega) (by intro e; injection e with e; omega), HYC.out.2.1 k (by omega) hne, HWR.out.1.grown.block k (by omega) (by intro e; injection e with e; omega), HXC.out.2.1 k hk hne]
                exact h
              have hb := HF.out.2.keep HYB.out hne2
              have hsl : ∀ b, sl b m = .slice (some ⟨b, 0, none⟩) m m := fun b => by unfold sl; rw [if_neg (by omega)]
              refine ⟨⟨.slice (some ⟨w.heap.size, 0, none⟩) 0 256, ?_, ?_⟩, fun _ => ?_, fun _ => ?_, ?_, ?_, hbase, hB2, hB3, ?_, ?_⟩
              · rw [List.length_replicate, hsl, hsl]; exact hb
              · refine ⟨rfl, .inr ⟨w.heap.size, 256, ZJ, rfl, by omega, keepW _ _ (by omega) (by omega) HWB.out.2.1, Nat.zero_le _, by decide, HZ.out.1, rfl⟩⟩
              · rw [HF.out.2.grown.block _ (by omega) (by intro e; injection e with e; omega), HYC.out.2.1 _ (by omega) (by omega), HWR.out.1.row (by omega), fillc_full]
              · rw [HF.out.2.row (by omega), fillc_full]
              · exact ⟨⟨ZV, fun _ => 0, keepW _ _ (by omega) (by omega) HWB.out.2.2, HZ.out.2.1, fun i hi => HZ.out.2.2 i (by have := HV.out.1; omega), fun _ => by show 0 < 4294967296; decide, fun p q _ _ => by simp⟩, HV.out.1, HV.out.2⟩
              · omega
              · omega
              · omega
end Go.Proofs.YtpbmbaffncnglaaGreatDoor.Sv
end
section
set_option linter.unusedVariables false
set_option linter.unusedSimpArgs false
/- a match is laid behind a slice; the search from one place, as the program calls it -/
namespace Go.Proofs.YtpbmbaffncnglaaGreatDoor.Sv
open Go Go.RowKit Rx
set_option maxRecDepth 100000
/-- the compiled expression's other fields -/
structure RH (w : World) (R PB : Nat) (cond : Int) (start ncap minl nsub : Nat) : Prop where
  cond : w.cell? ⟨R, 13, none⟩ = some (.int .u8 cond)
  pre : w.cell? ⟨R, 6, none⟩ = some (.string ⟨#[]⟩)
  minl : w.cell? ⟨R, 14, none⟩ = some (.int .i64 minl)
  nsub : w.cell? ⟨R, 3, none⟩ = some (.int .i64 nsub)
  start : w.cell? ⟨PB, 1, none⟩ = some (.int .i64 start)
  ncap : w.cell? ⟨PB, 2, none⟩ = some (.int .i64 ncap)
theorem RH.keep {w w' : World} {R PB : Nat} {cond : Int} {start ncap minl nsub : Nat} (h : RH w R PB cond start ncap minl nsub) (hb : Below w.heap.size w w') : RH w' R PB cond start ncap minl nsub :=
  ⟨keepc hb h.cond, keepc hb h.pre, keepc hb h.minl, keepc hb h.nsub, keepc hb h.start, keepc hb h.ncap⟩
/-- where the places are laid -/
def DstOk (w : World) (base nc : Nat) (dst : Value) : Prop := ∃ g cap, dst = .slice (some ⟨g, 0, none⟩) 0 cap ∧ (nc = 0 ∨ cap < nc ∨ w.ownsRow base 3 1 dst 0 [])
/-- what a find gives -/
def Got (w' : World) (base nc : Nat) (dst v : Value) (r : Option (Nat × List (Nat × Nat))) : Prop := match r with
  | none => v = .slice none 0 0
  | some (p, t) => (nc = 0 → v = dst) ∧ (0 < nc → ∃ g cap, v = .slice (some ⟨g, 0, none⟩) nc cap ∧ w'.ownsRow base 3 1 v nc (ints (applyT t ((List.replicate nc (-1)).set 0 (p : Int)))))
theorem grown_below {w w' : World} (h : Below w.heap.size w w') (row : Option Nat) : w.grownBy w' row := ⟨h.os, h.tape, h.output, h.size, fun k hk _ => h.block k hk⟩
theorem grown_after {w w3 w' : World} {row : Option Nat} (h : Below w.heap.size w w3) (hg : w3.grownBy w' row) : w.grownBy w' row :=
  ⟨hg.os.trans h.os, hg.tape.trans h.tape, hg.output.trans h.output, Nat.le_trans h.size hg.size, fun k hk hne => (hg.block k (Nat.lt_of_lt_of_le hk h.size) hne).trans (h.block k hk)⟩
theorem grown_new {w w' : World} {row : Option Nat} (hg : w.grownBy w' row) (B i : Nat) (v : Value) (hB : w.heap.size ≤ B) : w.grownBy (w'.setCell ⟨B, i, none⟩ v) row :=
  ⟨hg.os, hg.tape, hg.output, by simpa using hg.size, fun k hk hne => by rw [heap_setCell_other _ _ _ _ (show k ≠ B by omega)]; exact hg.block k hk hne⟩
theorem app_eq (w w3 : World) (base nc MB : Nat) (dst : Value) (M : List Int) (hd : DstOk w base nc dst) (hb : Below w.heap.size w w3) (h0 : base ≤ w.heap.size) (hMl : M.length = nc) (hm : 0 < M.length → w3.heap[MB]? = some (.cells (ints M).toArray 3 (0, 0))) (hnc : nc ≤ 1000) :
    ∃ v' w', (Builtin.append_ #[114, 114] 114 #[dst, sl MB M.length]).run Tryz.prog w3 = .ok v' w' ∧ (nc = 0 → v' = dst) ∧ (0 < nc → ∃ g cap, v' = .slice (some ⟨g, 0, none⟩) nc cap ∧ w'.ownsRow base 3 1 v' nc (ints M)) ∧ Below base w w' ∧ w.grownBy w' dst.ownBlock ∧ ∀ k, w.heap.size ≤ k → k < w3.heap.size → w'.heap[k]? = w3.heap[k]? := by
  obtain ⟨g, cap, rfl, hd⟩ := hd
  obtain ⟨i0, hi, hz0, hz1, hz2⟩ := info_parts info3
  have hb' : Below base w w3 := hb.mono h0
  rcases Nat.eq_zero_or_pos nc with hz | hp
  · refine ⟨_, w3, ?_, fun _ => rfl, fun h => by omega, hb', grown_below hb _, fun _ _ _ => rfl⟩
    rw [hMl, hz]
    exact run_append_nothing w3 114 114 114 3 i0 Tryz.underlying114 hi _ 0 cap (Nat.zero_le _) _ (Src.ofNil w3 (e' := 3) Tryz.underlying114 0)
  · have hs : sl MB M.length = .slice (some ⟨MB, 0, none⟩) nc nc := by unfold sl; rw [hMl, if_neg (by omega)]
    rw [hs]
    have hcells : ∀ j u, (ints M)[j]? = some u → w3.cell? ((⟨MB, 0, none⟩ : Addr).add j) = some u := fun j u h => by
      have e : (⟨MB, 0, none⟩ : Addr).add j = ⟨MB, j, none⟩ := by simp [Addr.add]; omega
      rw [e, cell_of_row _ _ _ _ _ _ (hm (by omega)), ← Array.getElem?_toList]
      exact h
    have hone : ∀ u ∈ ints M, u.oneCell' = true := fun u hu => by simp [ints] at hu; obtain ⟨a, _, rfl⟩ := hu; rfl
    have hl : (ints M).length = nc * 1 := by simp [ints, hMl]
    have hsz := hb.size
    by_cases hc : cap < nc
    · obtain ⟨v', w', hr, ho, hg⟩ := run_append_arg_grows (P := Tryz.prog) w3 114 114 3 i0 (.int .i64 0) 1 8 Tryz.underlying114 hi hz0 hz1 hz2 rfl (by decide) ⟨g, 0, none⟩ 0 cap [] rfl (fun j u h => by simp at h) ⟨MB, 0, none⟩ nc nc (ints M) hl hcells (by omega) (by unfold maxLen; omega) (by omega)
      rw [Nat.zero_add, List.nil_append] at ho
      refine ⟨v', w', hr, fun h => by omega, fun _ => ?_, hb'.grown hg (by omega) (fun k h => by cases h), ⟨(grown_after hb hg).os, (grown_after hb hg).tape, (grown_after hb hg).output, (grown_after hb hg).size, fun k hk _ => (grown_after hb hg).block k hk (fun e => by cases e)⟩, fun k _ hk => hg.block k hk (fun e => by cases e)⟩
      obtain ⟨g2, cap2, hv, hb2⟩ := World.ownsRow.form ho (by omega)
      refine ⟨g2, cap2, hv, ?_⟩
      refine ⟨ho.1, ?_⟩
      rcases ho.2 with h | ⟨g', c', cur, e1, e2, e3⟩
      · exact .inl h
      · exact .inr ⟨g', c', cur, e1, by omega, e3⟩
    · have hown0 : w.ownsRow base 3 1 (.slice (some ⟨g, 0, none⟩) 0 cap) 0 [] := by
        rcases hd with h | h | h
        · omega
        · exact absurd h hc
        · exact h
      have hown : w3.ownsRow base 3 1 (.slice (some ⟨g, 0, none⟩) 0 cap) 0 [] := own_of hown0 fun g' cur hg' hcur => hb.block g' (Array.getElem?_eq_some_iff.1 hcur).1
      obtain ⟨v', w', hr, ho, hg, _⟩ := run_append_own (P := Tryz.prog) w3 base 114 114 3 i0 (.int .i64 0) 1 8 Tryz.underlying114 hi hz0 hz1 hz2 rfl (by decide) _ 0 [] hown ⟨MB, 0, none⟩ nc nc (ints M) hl hcells hone (by unfold maxLen; omega) (by omega) (by omega)
      rw [Nat.zero_add, List.nil_append] at ho
      obtain ⟨g2, cap2, hv, _⟩ := World.ownsRow.form ho (by omega)
      exact ⟨v', w', hr, fun h => by omega, fun _ => ⟨g2, cap2, hv, ho⟩, hb'.grown hg (by omega) (fun k h => (hown.lt k h).1), grown_after hb hg, fun k hk hk2 => hg.block k hk2 (fun e => by have := (hown0.lt k e.symm).2; omega)⟩
theorem wpList_append_eq {P : Program} {w : World} {ops : Array Oper} {rest : List Oper} {o : Oper} {a : Act} {Q : Exit → Act → World → Prop} (hgd : o.guard = none) (s x : Operand) (t : TypeId)
    (ho : o.op = .call { callee := .builtin .append, args := #[s, x], argTypes := #[t, t] }) (hty : o.type = t) (vs vx v' : Value) (w' : World) (hs : a.eval s = vs) (hx : a.eval x = vx)
    (hrun : (Builtin.append_ #[t, t] t #[vs, vx]).run P w = .ok v' w') (h : wpList P ops Q rest (a.put o.dst v') w') : wpList P ops Q (o :: rest) a w := by
  refine wpList_plain hgd fun K hK => ?_
  unfold Oper.wp
  simp [execOp, ho, hty, resolve, invoke, builtin, hs, hx, hrun, Result.andThen]
  exact hK _ _ h
/-- what the search stands on -/
structure Sur (w : World) (R PB IB icap : Nat) (T : List I) (s : ByteArray) : Prop where
  pg : PG w R PB IB icap T
  tabs : Lib.Utf8Tabs 11 12 w
  tab : TabOk T
  len : s.size ≤ 1000000
  ok : Rx.Ok (envOf T s) s.size
  emp : ∀ (i o a : Nat), T[i]? = some (.emp o a) → a = 4 ∨ a = 8
  fit : T.length * (s.size + 1) ≤ 262144
theorem Sur.ctx {w w2 : World} {R PB IB icap : Nat} {T : List I} {s : ByteArray} (h : Sur w R PB IB icap T s) (hb : Below w.heap.size w w2) : Ctx w w2 w.heap.size R PB IB icap T s := ⟨rfl, h.pg, h.tabs, hb, h.tab, h.len, h.ok, h.emp⟩
theorem Sur.keep {w w2 : World} {R PB IB icap : Nat} {T : List I} {s : ByteArray} (h : Sur w R PB IB icap T s) (hb : Below w.heap.size w w2) : Sur w2 R PB IB icap T s := ⟨h.pg.keep hb, Utf8Tabs_below h.tabs hb, h.tab, h.len, h.ok, h.emp, h.fit⟩
theorem wrap_u32_small (n : Nat) (h : n < 1000) : IntKind.u32.wrap (n : Int) = (n : Int) := by rw [IntKind.wrap_u32]; omega
theorem tNew (w : World) : Calls Tryz.prog 96 #[] w fun e w' => e = .returned (.pointer (some ⟨w.heap.size, 0, none⟩)) ∧ w' = w.alloc (.cells #[.int .i64 0, .slice none 0 0, .slice none 0 0, .slice none 0 0, .slice none 0 0, .string ⟨#[]⟩] 150) := by
  go_enter Tryz.func96, Tryz.ntmps96
  go_wp2
  go_ret
  exact ⟨rfl, rfl⟩
theorem tInit (w : World) (B : Nat) (s t : ByteArray) (h : w.cell? ⟨B, 5, none⟩ = some (.string t)) (hf : w.frozen? ⟨B, 5, none⟩ = false) :
    Calls Tryz.prog 97 #[.pointer (some ⟨B, 5, none⟩), .nilIface, .slice none 0 0, .string s] w fun e w' => e = .returned (.tuple #[.iface 156 (.pointer (some ⟨B, 5, none⟩)), .int .i64 s.size]) ∧ w' = w.setCell ⟨B, 5, none⟩ (.string s) := by
  go_enter Tryz.func97, Tryz.ntmps97
  go_wp2_with go_in
  exact bodyPost_ret (v := .tuple #[.iface 156 (.pointer (some ⟨B, 5, none⟩)), .int .i64 s.size]) (by simp [results, Tryz.results97, go_sem]) rfl ⟨rfl, rfl⟩
theorem tFree (w : World) (B : Nat) (t : ByteArray) (h : w.cell? ⟨B, 5, none⟩ = some (.string t)) (hf : w.frozen? ⟨B, 5, none⟩ = false) :
    Calls Tryz.prog 100 #[.pointer (some ⟨B, 0, none⟩)] w fun e w' => (∃ v, e = .returned v) ∧ w' = w.setCell ⟨B, 5, none⟩ (.string ⟨#[]⟩) := by
  go_enter Tryz.func100, Tryz.ntmps100
  go_wp2_with go_in
  go_end0
  exact ⟨⟨_, rfl⟩, rfl⟩
theorem BS.f5 {w : World} {base B CB MB VB vn L : Nat} {s : ByteArray} {J : List (Nat × Bool × Int)} {V : Nat → Nat → Bool} {C M : List Int} (h : BS w base B CB MB VB vn L s J V C M) : w.frozen? ⟨B, 5, none⟩ = false := by
  obtain ⟨jv, hb, hj⟩ := h.hb
  exact frozen_of_row _ _ _ _ _ hb
/-- a new state -/
def st0 (s : ByteArray) : Array Value := #[.int .i64 0, .slice none 0 0, .slice none 0 0, .slice none 0 0, .slice none 0 0, .string s]
/-- the state's block, with its text -/
def Blk5 (w : World) (B : Nat) (s : ByteArray) : Prop := ∃ cs : Array Value, w.heap[B]? = some (.cells cs 150 (0, 0)) ∧ cs[5]? = some (.string s)
theorem Blk5.c {w : World} {B : Nat} {s : ByteArray} (h : Blk5 w B s) : w.cell? ⟨B, 5, none⟩ = some (.string s) := by
  obtain ⟨cs, h1, h2⟩ := h
  rw [cell_of_row _ _ 5 _ _ _ h1, h2]
theorem Blk5.f {w : World} {B : Nat} {s : ByteArray} (h : Blk5 w B s) : w.frozen? ⟨B, 5, none⟩ = false := by
  obtain ⟨cs, h1, h2⟩ := h
  exact frozen_of_row _ _ _ _ _ h1
theorem tail_eq {w w3 w4 : World} {B CB MB VB vn L base nc : Nat} {s : ByteArray} {J : List (Nat × Bool × Int)} {V : Nat → Nat → Bool} {C M : List Int} {dst : Value} (h3 : Below B w w3) (h4 : Below B w3 w4) (hbs : BS w4 B B CB MB VB vn L s J V C M) (hd : DstOk w base nc dst) (h0 : base ≤ B) (hB : w.heap.size = B) (hnc : nc ≤ 1000) (hMl : M.length = nc) :
    ∃ v' w', (Builtin.append_ #[114, 114] 114 #[dst, sl MB M.length]).run Tryz.prog w4 = .ok v' w' ∧ (nc = 0 → v' = dst) ∧ (0 < nc → ∃ g cap, v' = .slice (some ⟨g, 0, none⟩) nc cap ∧ w'.ownsRow base 3 1 v' nc (ints M)) ∧ Below base w w' ∧ w.grownBy w' dst.ownBlock ∧ Blk5 w' B s := by
  subst hB
  obtain ⟨v', w', h1, h2, h5, h6, hgr, h7⟩ := app_eq w w4 base nc MB dst M hd (h3.trans h4) h0 hMl (fun h => hbs.hm h) hnc
  obtain ⟨jv, hb, _⟩ := hbs.hb
  have hlt := (Array.getElem?_eq_some_iff.1 hb).1
  have hb' := (h7 _ (Nat.le_refl _) hlt).trans hb
  exact ⟨v', w', h1, h2, h5, h6, hgr, _, hb', rfl⟩
theorem got_set {w' : World} {B base nc p : Nat} {dst v : Value} {t : List (Nat × Nat)} {s : ByteArray} {y : Value} (hc : Blk5 w' B s) (h1 : nc = 0 → v = dst) (h2 : 0 < nc → ∃ g cap, v = .slice (some ⟨g, 0, none⟩) nc cap ∧ w'.ownsRow base 3 1 v nc (ints (applyT t ((List.replicate nc (-1)).set 0 (p : Int))))) :
    Got (w'.setCell ⟨B, 5, none⟩ y) base nc dst v (some (p, t)) := by
  refine ⟨h1, fun h => ?_⟩
  obtain ⟨g, cap, hv, ho⟩ := h2 h
  obtain ⟨cs, h5, _⟩ := hc
  exact ⟨g, cap, hv, own_of ho fun g' cur hg hcur => heap_setCell_other _ _ _ _ (typ_ne hcur h5 (by decide))⟩
theorem tBackA {w : World} {R PB IB icap : Nat} {T : List I} {s : ByteArray} (hS : Sur w R PB IB icap T s) {start ncap minl nsub : Nat} (hR : RH w R PB 4 start ncap minl nsub) (x : I) (hx : T[start]? = some x) (hf : opc x ≠ 5)
    (base nc : Nat) (hnc : nc = 0 ∨ (2 ≤ nc ∧ nc ≤ 1000)) (dst : Value) (hd : DstOk w base nc dst) (h0 : base ≤ w.heap.size) {n : Nat} {r : Res} (hM : FM (envOf T s) n start 0 r) :
    Calls Tryz.prog 83 #[.pointer (some ⟨R, 0, none⟩), .slice none 0 0, .string s, .int .i64 0, .int .i64 nc, dst] w fun e w' => ∃ v, e = .returned v ∧ Got w' base nc dst v (r.map (0, ·)) ∧ Below base w w' ∧ w.grownBy w' dst.ownBlock := by
  have r1 := hS.pg.r1
  have p0 := hS.pg.p0
  have r13 := hR.cond
  have p1 := hR.start
  have hst : start < 1000 := by have := (List.getElem?_eq_some_iff.1 hx).1; have := hS.pg.len; omega
  have hwr := wrap_u32_small start hst
  have HS := Lib.hid hS
  have HR := Lib.hid hR
  have HX := Lib.hid (And.intro hx hf)
  have HN := Lib.hid hnc
  have HD := Lib.hid hd
  have HM := Lib.hid hM
  have hRs : R < w.heap.size := Lib.lt_of_cell r1
  have hPs : PB < w.heap.size := Lib.lt_of_cell p0
  clear hS hR hx hf hnc hd hM
  go_enter Tryz.func83, Tryz.ntmps83
  go_wp2
  apply wp_scope_straight
  have hWc5 : (w.alloc (.cells #[.int .i64 0, .slice none 0 0, .slice none 0 0, .slice none 0 0, .slice none 0 0, .string ⟨#[]⟩] 150)).cell? ⟨w.heap.size, 5, none⟩ = some (.string ⟨#[]⟩) := cell_of_row _ _ 5 _ _ _ (heap_alloc_new w _)
  have hWf5 : (w.alloc (.cells #[.int .i64 0, .slice none 0 0, .slice none 0 0, .slice none 0 0, .slice none 0 0, .string ⟨#[]⟩] 150)).frozen? ⟨w.heap.size, 5, none⟩ = false := frozen_of_row _ _ _ _ _ (heap_alloc_new w _)
  have HI := Lib.hid (tInit _ _ s _ hWc5 hWf5)
  clear hWc5 hWf5
  go_upto_region 8 with (first
    | (go_at_call 96; refine (tNew w).mono ?_; rintro e w1 ⟨rfl, rfl⟩)
    | (go_at_call 97; refine HI.out.mono ?_; rintro e w1 ⟨rfl, rfl⟩))
  generalize hW : w.alloc _ = W
  have hWB : W.heap[w.heap.size]? = some (.cells (st0 s) 150 (0, 0)) := by rw [← hW]; exact heap_alloc_new w _
  have hWb : Below w.heap.size w W := by rw [← hW]; exact (Below.refl _ w).alloc (Nat.le_refl _) _
  clear hW HI
  generalize hB : w.heap.size = B at *
  have hL := HS.out.pg.len
  have hL0 : 0 < T.length := by have := (List.getElem?_eq_some_iff.1 HX.out.1).1; omega
  have HWb := Lib.hid hWb
  have q1 : W.cell? ⟨R, 1, none⟩ = some (.pointer (some ⟨PB, 0, none⟩)) := (hWb.cell (p := ⟨R, 1, none⟩) hRs).trans r1
  have q0 : W.cell? ⟨PB, 0, none⟩ = some (.slice (some ⟨IB, 0, none⟩) T.length icap) := (hWb.cell (p := ⟨PB, 0, none⟩) hPs).trans p0
  have HV := Lib.hid (tReset W B B PB IB icap T.length nc s hWB (Nat.le_refl _) q0 hL0 hL HS.out.len HS.out.fit (by have := HN.out; omega) (by omega))
  clear hWb hWB hL hL0
  go_upto_region 9 with (go_at_call 98; refine HV.out.mono ?_; rintro e w2 ⟨⟨v, rfl⟩, hb2, CB, MB, VB, vn, hbs⟩)
  have HB2 := Lib.hid hb2
  have HBS := Lib.hid hbs
  clear hb2 hbs HV q1 q0
  obtain ⟨C0, hC0⟩ : ∃ C0, C0 = (List.replicate nc (-1)).set 0 (0 : Int) := ⟨_, rfl⟩
  have HC0 := Lib.hid hC0
  have e1 : bits .and .u8 4 4 = 4 := by decide
  have mid : ∀ w3 : World, BS w3 B B CB MB VB vn T.length s [] (fun _ _ => false) C0 (List.replicate nc (-1)) → Below B w w3 → Calls Tryz.prog 99 #[.pointer (some ⟨R, 0, none⟩), .pointer (some ⟨B, 0, none⟩), .iface 156 (.pointer (some ⟨B, 5, none⟩)), .int .u32 start, .int .i64 0] w3 fun e w' =>
      match r with
      | none => e = .returned (.bool false) ∧ (∃ J V, BS w' B B CB MB VB vn T.length s J V C0 (List.replicate nc (-1))) ∧ Below B w3 w'
      | some t => e = .returned (.bool true) ∧ (∃ J V, BS w' B B CB MB VB vn T.length s J V (applyT t C0) (applyT t C0)) ∧ Below B w3 w' := fun w3 h3 hb3 => by
    have ht := tryAt HM.out (fun _ _ => false) C0 (fun _ _ h => by cases h)
    have hc := Sur.ctx HS.out (w2 := w3) (by rw [hB]; exact hb3)
    rw [hB] at hc
    have hl : C0.length = nc := by rw [HC0.out]; simp
    cases r with
    | none =>
      obtain ⟨k, V', _, hst⟩ := ht
      refine (tTry hc h3 start 0 x HX.out.1 HX.out.2 (Nat.zero_le _) hl HN.out rfl k false _ _ _ hst).mono ?_
      rintro e w' ⟨h1, ⟨J, _, h2⟩, h4⟩
      exact ⟨h1, ⟨J, _, by simpa using h2⟩, h4⟩
    | some t =>
      obtain ⟨k, V', J', hst⟩ := ht
      refine (tTry hc h3 start 0 x HX.out.1 HX.out.2 (Nat.zero_le _) hl HN.out rfl k true _ _ _ hst).mono ?_
      rintro e w' ⟨h1, ⟨J, _, h2⟩, h4⟩
      exact ⟨h1, ⟨J, _, by simpa using h2⟩, h4⟩
  have MID := Lib.hid mid
  clear mid hC0
  rcases HN.out with hz | ⟨hz, hz'⟩
  · have b1 : w2.cell? ⟨B, 1, none⟩ = some (.slice none 0 0) := by rw [HBS.out.c1, List.length_replicate, hz]; rfl
    have HZ := Lib.hid hz
    have h3 : BS w2 B B CB MB VB vn T.length s [] (fun _ _ => false) C0 (List.replicate nc (-1)) := by have := HBS.out; rw [HC0.out, hz] at *; exact this
    have H3 := Lib.hid h3
    have hbw : Below B w w2 := HWb.out.trans HB2.out
    have HBW := Lib.hid hbw
    have q1 : w2.cell? ⟨R, 1, none⟩ = some (.pointer (some ⟨PB, 0, none⟩)) := (hbw.cell (p := ⟨R, 1, none⟩) hRs).trans r1
    have q0 : w2.cell? ⟨PB, 1, none⟩ = some (.int .i64 start) := (hbw.cell (p := ⟨PB, 1, none⟩) hPs).trans p1
    clear hz h3 hbw HBS HB2
    go_upto_region 12 with fail
    cases r with
    | none =>
      go_wp2_with (first
        | (go_at_call 99; refine (MID.out _ H3.out HBW.out).mono ?_; rintro e w4 ⟨rfl, ⟨J, V, hbs4⟩, hb4⟩; have H4 := Lib.hid (And.intro hbs4 hb4); clear hbs4 hb4)
        | (go_at_call 100; refine (tFree w4 B s H4.out.1.c5 H4.out.1.f5).mono ?_; rintro e w5 ⟨⟨v5, rfl⟩, rfl⟩))
      change bodyPost Tryz.prog Tryz.f83 (fun e w' => ∃ v, e = .returned v ∧ Got w' base nc dst v (Option.map (0, ·) none) ∧ Below base w w' ∧ w.grownBy w' dst.ownBlock) .ret _ _
      go_ret
      exact ⟨_, rfl, rfl, (((HBW.out.trans H4.out.2)).setCell (p := ⟨B, 5, none⟩) (Nat.le_refl _) _).mono h0, grown_below (by rw [hB]; exact ((HBW.out.trans H4.out.2)).setCell (p := ⟨B, 5, none⟩) (Nat.le_refl _) _) _⟩
    | some t =>
      go_wp2_with (first
        | (go_at_call 99; refine (MID.out _ H3.out HBW.out).mono ?_; rintro e w4 ⟨rfl, ⟨J, V, hbs4⟩, hb4⟩; have H4 := Lib.hid (And.intro hbs4 hb4); have c2 := hbs4.c2; obtain ⟨v5, w5, hr5, e5, e5', hb5, hgr5, hk5⟩ := tail_eq HBW.out hb4 hbs4 HD.out h0 hB (by have := HN.out; omega) (by rw [applyT_length, HC0.out]; simp); have H5 := Lib.hid (And.intro hr5 (And.intro e5 (And.intro e5' (And.intro hb5 (And.intro hgr5 hk5))))); clear hbs4 hb4 hr5 e5 e5' hb5 hgr5 hk5)
        | ((with_reducible refine wpList_append_eq (o := ⟨some 146, _, _, _, _, _⟩) ?a1 (.tmp 141) (.tmp 145) 114 ?a2 ?a3 _ _ _ _ ?a4 ?a5 H5.out.1 ?_); (case a1 => rfl); (case a2 => rfl); (case a3 => rfl); (case a4 => rfl); (case a5 => rfl))
        | (go_at_call 100; refine (tFree w5 B s H5.out.2.2.2.2.2.c H5.out.2.2.2.2.2.f).mono ?_; rintro e w6 ⟨⟨v6, rfl⟩, rfl⟩)
        | apply wp_label)
      change bodyPost Tryz.prog Tryz.f83 (fun e w' => ∃ v, e = .returned v ∧ Got w' base nc dst v (Option.map (0, ·) (some t)) ∧ Below base w w' ∧ w.grownBy w' dst.ownBlock) .ret _ _
      go_ret
      refine ⟨v5, rfl, got_set H5.out.2.2.2.2.2 H5.out.2.1 (by have hh := H5.out.2.2.1; rw [HC0.out] at hh; exact hh) , H5.out.2.2.2.1.setCell (p := ⟨B, 5, none⟩) (by omega) _, grown_new H5.out.2.2.2.2.1 B 5 _ (by omega)⟩
  · have b1 : w2.cell? ⟨B, 1, none⟩ = some (.slice (some ⟨CB, 0, none⟩) nc nc) := by rw [HBS.out.c1, List.length_replicate]; unfold sl; rw [if_neg (by omega)]
    obtain ⟨_, b2, b3⟩ := HBS.out.cg 0 (-1) (by rw [List.getElem?_replicate, if_pos (by omega)])
    have kn : (0 : Int) < (nc : Int) := by omega
    have h3 : BS (w2.setCell ⟨CB, 0, none⟩ (.int .i64 0)) B B CB MB VB vn T.length s [] (fun _ _ => false) C0 (List.replicate nc (-1)) := by rw [HC0.out]; exact HBS.out.setC 0 0 (by simp; omega)
    have H3 := Lib.hid h3
    have hbw : Below B w (w2.setCell ⟨CB, 0, none⟩ (.int .i64 0)) := (HWb.out.trans HB2.out).setCell (p := ⟨CB, 0, none⟩) HBS.out.bc _
    have HBW := Lib.hid hbw
    have q1 : (w2.setCell ⟨CB, 0, none⟩ (.int .i64 0)).cell? ⟨R, 1, none⟩ = some (.pointer (some ⟨PB, 0, none⟩)) := (hbw.cell (p := ⟨R, 1, none⟩) hRs).trans r1
    have q0 : (w2.setCell ⟨CB, 0, none⟩ (.int .i64 0)).cell? ⟨PB, 1, none⟩ = some (.int .i64 start) := (hbw.cell (p := ⟨PB, 1, none⟩) hPs).trans p1
    clear hz h3 hbw
    go_upto_region 12 with fail
    clear HBS HB2 b1 b2 b3
    generalize w2.setCell ⟨CB, 0, none⟩ (.int .i64 0) = w3 at *
    cases r with
    | none =>
      go_wp2_with (first
        | (go_at_call 99; refine (MID.out _ H3.out HBW.out).mono ?_; rintro e w4 ⟨rfl, ⟨J, V, hbs4⟩, hb4⟩; have H4 := Lib.hid (And.intro hbs4 hb4); clear hbs4 hb4)
        | (go_at_call 100; refine (tFree w4 B s H4.out.1.c5 H4.out.1.f5).mono ?_; rintro e w5 ⟨⟨v5, rfl⟩, rfl⟩))
      change bodyPost Tryz.prog Tryz.f83 (fun e w' => ∃ v, e = .returned v ∧ Got w' base nc dst v (Option.map (0, ·) none) ∧ Below base w w' ∧ w.grownBy w' dst.ownBlock) .ret _ _
      go_ret
      exact ⟨_, rfl, rfl, (((HBW.out.trans H4.out.2)).setCell (p := ⟨B, 5, none⟩) (Nat.le_refl _) _).mono h0, grown_below (by rw [hB]; exact ((HBW.out.trans H4.out.2)).setCell (p := ⟨B, 5, none⟩) (Nat.le_refl _) _) _⟩
    | some t =>
      go_wp2_with (first
        | (go_at_call 99; refine (MID.out _ H3.out HBW.out).mono ?_; rintro e w4 ⟨rfl, ⟨J, V, hbs4⟩, hb4⟩; have H4 := Lib.hid (And.intro hbs4 hb4); have c2 := hbs4.c2; obtain ⟨v5, w5, hr5, e5, e5', hb5, hgr5, hk5⟩ := tail_eq HBW.out hb4 hbs4 HD.out h0 hB (by have := HN.out; omega) (by rw [applyT_length, HC0.out]; simp); have H5 := Lib.hid (And.intro hr5 (And.intro e5 (And.intro e5' (And.intro hb5 (And.intro hgr5 hk5))))); clear hbs4 hb4 hr5 e5 e5' hb5 hgr5 hk5)
        | ((with_reducible refine wpList_append_eq (o := ⟨some 146, _, _, _, _, _⟩) ?a1 (.tmp 141) (.tmp 145) 114 ?a2 ?a3 _ _ _ _ ?a4 ?a5 H5.out.1 ?_); (case a1 => rfl); (case a2 => rfl); (case a3 => rfl); (case a4 => rfl); (case a5 => rfl))
        | (go_at_call 100; refine (tFree w5 B s H5.out.2.2.2.2.2.c H5.out.2.2.2.2.2.f).mono ?_; rintro e w6 ⟨⟨v6, rfl⟩, rfl⟩)
        | apply wp_label)
      change bodyPost Tryz.prog Tryz.f83 (fun e w' => ∃ v, e = .returned v ∧ Got w' base nc dst v (Option.map (0, ·) (some t)) ∧ Below base w w' ∧ w.grownBy w' dst.ownBlock) .ret _ _
      go_ret
      refine ⟨v5, rfl, got_set H5.out.2.2.2.2.2 H5.out.2.1 (by have hh := H5.out.2.2.1; rw [HC0.out] at hh; exact hh) , H5.out.2.2.2.1.setCell (p := ⟨B, 5, none⟩) (by omega) _, grown_new H5.out.2.2.2.2.1 B 5 _ (by omega)⟩
end Go.Proofs.YtpbmbaffncnglaaGreatDoor.Sv
end
section
set_option linter.unusedVariables false
set_option linter.unusedSimpArgs false
/- the search from one place on -/
namespace Go.Proofs.YtpbmbaffncnglaaGreatDoor.Sv
open Go Go.RowKit Rx
set_option maxRecDepth 100000
theorem lit150 (f : Nat → Value) : (List.range 150).map f = [f 0, f 1, f 2, f 3, f 4, f 5, f 6, f 7, f 8, f 9, f 10, f 11, f 12, f 13, f 14, f 15, f 16, f 17, f 18, f 19, f 20, f 21, f 22, f 23, f 24, f 25, f 26, f 27, f 28, f 29, f 30, f 31, f 32, f 33, f 34, f 35, f 36, f 37, f 38, f 39, f 40, f 41, f 42, f 43, f 44, f 45, f 46, f 47, f 48, f 49, f 50, f 51, f 52, f 53, f 54, f 55, f 56, f 57, f 58, f 59, f 60, f 61, f 62, f 63, f 64, f 65, f 66, f 67, f 68, f 69, f 70, f 71, f 72, f 73, f 74, f 75, f 76, f 77, f 78, f 79, f 80, f 81, f 82, f 83, f 84, f 85, f 86, f 87, f 88, f 89, f 90, f 91, f 92, f 93, f 94, f 95, f 96, f 97, f 98, f 99, f 100, f 101, f 102, f 103, f 104, f 105, f 106, f 107, f 108, f 109, f 110, f 111, f 112, f 113, f 114, f 115, f 116, f 117, f 118, f 119, f 120, f 121, f 122, f 123, f 124, f 125, f 126, f 127, f 128, f 129, f 130, f 131, f 132, f 133, f 134, f 135, f 136, f 137, f 138, f 139, f 140, f 141, f 142, f 143, f 144, f 145, f 146, f 147, f 148, f 149] := rfl
theorem fr150 (xs : List Value) (h : xs.length = 150) : xs = [sel xs 0, sel xs 1, sel xs 2, sel xs 3, sel xs 4, sel xs 5, sel xs 6, sel xs 7, sel xs 8, sel xs 9, sel xs 10, sel xs 11, sel xs 12, sel xs 13, sel xs 14, sel xs 15, sel xs 16, sel xs 17, sel xs 18, sel xs 19, sel xs 20, sel xs 21, sel xs 22, sel xs 23, sel xs 24, sel xs 25, sel xs 26, sel xs 27, sel xs 28, sel xs 29, sel xs 30, sel xs 31, sel xs 32, sel xs 33, sel xs 34, sel xs 35, sel xs 36, sel xs 37, sel xs 38, sel xs 39, sel xs 40, sel xs 41, sel xs 42, sel xs 43, sel xs 44, sel xs 45, sel xs 46, sel xs 47, sel xs 48, sel xs 49, sel xs 50, sel xs 51, sel xs 52, sel xs 53, sel xs 54, sel xs 55, sel xs 56, sel xs 57, sel xs 58, sel xs 59, sel xs 60, sel xs 61, sel xs 62, sel xs 63, sel xs 64, sel xs 65, sel xs 66, sel xs 67, sel xs 68, sel xs 69, sel xs 70, sel xs 71, sel xs 72, sel xs 73, sel xs 74, sel xs 75, sel xs 76, sel xs 77, sel xs 78, sel xs 79, sel xs 80, sel xs 81, sel xs 82, sel xs 83, sel xs 84, sel xs 85, sel xs 86, sel xs 87, sel xs 88, sel xs 89, sel xs 90, sel xs 91, sel xs 92, sel xs 93, sel xs 94, sel xs 95, sel xs 96, sel xs 97, sel xs 98, sel xs 99, sel xs 100, sel xs 101, sel xs 102, sel xs 103, sel xs 104, sel xs 105, sel xs 106, sel xs 107, sel xs 108, sel xs 109, sel xs 110, sel xs 111, sel xs 112, sel xs 113, sel xs 114, sel xs 115, sel xs 116, sel xs 117, sel xs 118, sel xs 119, sel xs 120, sel xs 121, sel xs 122, sel xs 123, sel xs 124, sel xs 125, sel xs 126, sel xs 127, sel xs 128, sel xs 129, sel xs 130, sel xs 131, sel xs 132, sel xs 133, sel xs 134, sel xs 135, sel xs 136, sel xs 137, sel xs 138, sel xs 139, sel xs 140, sel xs 141, sel xs 142, sel xs 143, sel xs 144, sel xs 145, sel xs 146, sel xs 147, sel xs 148, sel xs 149] := (map_sel xs 150 h).trans (lit150 (sel xs))

/-- what holds where the match is found -/
def AtM (w0 : World) (B L nc : Nat) (s : ByteArray) (dst : Value) (r : Option (Nat × List (Nat × Nat))) (l n : Nat) (a : Act) (w : World) : Prop :=
  l = 0 ∧ ∃ xs : List Value, a = { tmps := xs.toArray, defers := [] } ∧ xs.length = 150 ∧ sel xs 5 = dst ∧ sel xs 14 = .pointer (some ⟨B, 0, none⟩) ∧
    ∃ CB MB VB vn p t J V, r = some (p, t) ∧ BS w B B CB MB VB vn L s J V (applyT t ((List.replicate nc (-1)).set 0 (p : Int))) (applyT t ((List.replicate nc (-1)).set 0 (p : Int))) ∧ Below B w0 w
/-- what holds at a round of the search -/
structure Rnd (w0 wr : World) (B CB MB VB vn nc : Nat) (T : List I) (s : ByteArray) (f : Nat → Res) (r : Option (Nat × List (Nat × Nat))) (g p : Nat) (wd : Int) : Prop where
  bs : ∃ V c0, AllDead (envOf T s) V ∧ BS wr B B CB MB VB vn T.length s [] V ((List.replicate nc (-1)).set 0 c0) (List.replicate nc (-1))
  below : Below B w0 wr
  le : p ≤ s.size
  res : (wd ≠ 0 ∧ s.size + 2 ≤ p + g ∧ r = srch (envOf T s) s.size f g p) ∨ (wd = 0 ∧ r = none)
  wle : -1 ≤ wd ∧ wd ≤ 1000000
theorem wp_scope_one {P : Program} {a : Act} {w : World} {Q : Exit → Act → World → Prop} {c : Code} (J : Nat → Nat → Act → World → Prop)
    (first : c.wp P (Exit.jumpN J none Q) a w)
    (lab : ∀ l n a w, J l n a w → l = 0)
    (zero : ∃ rest, findLabel c 0 = some (.seq .skip rest) ∧ ∀ n a w, J 0 n a w → rest.wp P (Exit.jumpN J (some n) Q) a w) : (Code.scope c).wp P Q a w := by
  refine wp_scope_jumpsN J first fun l n a w h => ?_
  obtain rfl := lab l n a w h
  obtain ⟨r, h1, h2⟩ := zero
  exact ⟨_, h1, wp_seq (wp_skip (h2 n a w h))⟩
theorem rep_set (n : Nat) : (List.replicate n (-1 : Int)).set 0 (-1) = List.replicate n (-1) := by cases n <;> rfl
set_option maxHeartbeats 1000000 in
theorem tBackU {w : World} {R PB IB icap : Nat} {T : List I} {s : ByteArray} (hS : Sur w R PB IB icap T s) {start ncap minl nsub : Nat} (hR : RH w R PB 0 start ncap minl nsub) (x : I) (hx : T[start]? = some x) (hf : opc x ≠ 5)
    (base nc : Nat) (hnc : 2 ≤ nc ∧ nc ≤ 1000) (dst : Value) (hd : DstOk w base nc dst) (h0 : base ≤ w.heap.size) (f : Nat → Res) (hM : ∀ p, p ≤ s.size → ∃ n, FM (envOf T s) n start p (f p)) (pos : Nat) (hpos : pos ≤ s.size) (k : Nat) (hk : s.size + 2 ≤ pos + k)
    (r : Option (Nat × List (Nat × Nat))) (hr : r = srch (envOf T s) s.size f k pos) :
    Calls Tryz.prog 83 #[.pointer (some ⟨R, 0, none⟩), .slice none 0 0, .string s, .int .i64 pos, .int .i64 nc, dst] w fun e w' => ∃ v, e = .returned v ∧ Got w' base nc dst v r ∧ Below base w w' ∧ w.grownBy w' dst.ownBlock := by
  have r1 := hS.pg.r1
  have p0 := hS.pg.p0
  have r13 := hR.cond
  have p1 := hR.start
  have r6 := hR.pre
  have hst : start < 1000 := by have := (List.getElem?_eq_some_iff.1 hx).1; have := hS.pg.len; omega
  have hwr := wrap_u32_small start hst
  have HS := Lib.hid hS
  have HR := Lib.hid hR
  have HX := Lib.hid (And.intro hx hf)
  have HN := Lib.hid hnc
  have HD := Lib.hid hd
  have HM := Lib.hid hM
  have HK := Lib.hid (And.intro hpos (And.intro hk hr))
  have hlen := hS.len
  have hRs : R < w.heap.size := Lib.lt_of_cell r1
  have hPs : PB < w.heap.size := Lib.lt_of_cell p0
  have e1 : bits .and .u8 0 4 = 0 := by decide
  clear hS hR hx hf hnc hd hM hk hr
  go_enter Tryz.func83, Tryz.ntmps83
  go_wp2
  generalize hB : w.heap.size = B at *
  refine wp_scope_one (AtM w B T.length nc s dst r) ?_ (fun l n a w h => h.1) ?_
  · have hWc5 : (w.alloc (.cells #[.int .i64 0, .slice none 0 0, .slice none 0 0, .slice none 0 0, .slice none 0 0, .string ⟨#[]⟩] 150)).cell? ⟨w.heap.size, 5, none⟩ = some (.string ⟨#[]⟩) := cell_of_row _ _ 5 _ _ _ (heap_alloc_new w _)
    have hWf5 : (w.alloc (.cells #[.int .i64 0, .slice none 0 0, .slice none 0 0, .slice none 0 0, .slice none 0 0, .string ⟨#[]⟩] 150)).frozen? ⟨w.heap.size, 5, none⟩ = false := frozen_of_row _ _ _ _ _ (heap_alloc_new w _)
    rw [hB] at hWc5 hWf5
    have HI := Lib.hid (tInit _ _ s _ hWc5 hWf5)
    clear hWc5 hWf5
    go_upto_region 8 with (first
      | (go_at_call 96; refine (tNew w).mono ?_; rw [hB]; rintro e w1 ⟨rfl, rfl⟩)
      | (go_at_call 97; refine HI.out.mono ?_; rintro e w1 ⟨rfl, rfl⟩))
    generalize hW : w.alloc _ = W
    have hWB : W.heap[B]? = some (.cells (st0 s) 150 (0, 0)) := by rw [← hW, ← hB]; exact heap_alloc_new w _
    have hWb : Below B w W := by rw [← hW]; exact (Below.refl _ w).alloc (by omega) _
    clear hW HI
    have hL := HS.out.pg.len
    have hL0 : 0 < T.length := by have := (List.getElem?_eq_some_iff.1 HX.out.1).1; omega
    have HWb := Lib.hid hWb
    have q1 : W.cell? ⟨R, 1, none⟩ = some (.pointer (some ⟨PB, 0, none⟩)) := (hWb.cell (p := ⟨R, 1, none⟩) hRs).trans r1
    have q0 : W.cell? ⟨PB, 0, none⟩ = some (.slice (some ⟨IB, 0, none⟩) T.length icap) := (hWb.cell (p := ⟨PB, 0, none⟩) hPs).trans p0
    have HV := Lib.hid (tReset W B B PB IB icap T.length nc s hWB (Nat.le_refl _) q0 hL0 hL HS.out.len HS.out.fit (by have := HN.out; omega) (by omega))
    clear hWb hWB hL hL0
    go_upto_region 15 with (go_at_call 98; refine HV.out.mono ?_; rintro e w2 ⟨⟨v, rfl⟩, hb2, CB, MB, VB, vn, hbs⟩)
    have HB2 := Lib.hid (HWb.out.trans hb2)
    have HBS := Lib.hid hbs
    clear hb2 hbs HV q1 q0 HWb
    go_wp2
    go_loopg [3, 17] k (fun g pv wv wr => ∃ (p : Nat) (wd : Int), pv = .int .i64 p ∧ wv = .int .i64 wd ∧ Hid (Rnd w wr B CB MB VB vn nc T s f r g p wd))
    case atStart => exact ⟨pos, -1, rfl, rfl, Lib.hid ⟨⟨fun _ _ => false, -1, fun _ _ h => (by cases h), by have := HBS.out; rwa [rep_set]⟩, HB2.out, HK.out.1, .inl ⟨by decide, HK.out.2.1, HK.out.2.2⟩, by decide⟩⟩
    case round =>
      obtain ⟨p, wd, rfl, rfl, HR⟩ := hrel
      obtain ⟨V, c0, hdead, hbs⟩ := HR.out.bs
      have hbw := HR.out.below
      have HBW := Lib.hid hbw
      rcases HR.out.res with ⟨hw0, hg, hrr⟩ | ⟨rfl, hrr⟩
      · obtain ⟨g, rfl⟩ : ∃ g', gk = g' + 1 := ⟨gk - 1, by have := HR.out.le; omega⟩
        have hple := HR.out.le
        have k1 : (p : Int) ≤ (s.size : Int) := by omega
        have b1 : wr.cell? ⟨B, 1, none⟩ = some (.slice (some ⟨CB, 0, none⟩) nc nc) := by rw [hbs.c1, List.length_set, List.length_replicate]; unfold sl; rw [if_neg (by have := HN.out; omega)]
        obtain ⟨_, b2, b3⟩ := hbs.cg 0 c0 (by rw [List.getElem?_set]; simp; have := HN.out; omega)
        have kn : (0 : Int) < (nc : Int) := by have := HN.out; omega
        have q1 : wr.cell? ⟨R, 1, none⟩ = some (.pointer (some ⟨PB, 0, none⟩)) := (hbw.cell (p := ⟨R, 1, none⟩) hRs).trans r1
        have q6 : wr.cell? ⟨R, 6, none⟩ = some (.string ⟨#[]⟩) := (hbw.cell (p := ⟨R, 6, none⟩) hRs).trans r6
        have hb3 : Below B w (wr.setCell ⟨CB, 0, none⟩ (.int .i64 p)) := hbw.setCell (p := ⟨CB, 0, none⟩) hbs.bc _
        have q1' : (wr.setCell ⟨CB, 0, none⟩ (.int .i64 p)).cell? ⟨R, 1, none⟩ = some (.pointer (some ⟨PB, 0, none⟩)) := (hb3.cell (p := ⟨R, 1, none⟩) hRs).trans r1
        have q0' : (wr.setCell ⟨CB, 0, none⟩ (.int .i64 p)).cell? ⟨PB, 1, none⟩ = some (.int .i64 start) := (hb3.cell (p := ⟨PB, 1, none⟩) hPs).trans p1
        have h3 : BS (wr.setCell ⟨CB, 0, none⟩ (.int .i64 p)) B B CB MB VB vn T.length s [] V ((List.replicate nc (-1)).set 0 (p : Int)) (List.replicate nc (-1)) := by
          have := hbs.setC 0 (p : Int) (by simp; have := HN.out; omega)
          rwa [List.set_set] at this
        have hc := Sur.ctx HS.out (w2 := wr.setCell ⟨CB, 0, none⟩ (.int .i64 p)) (by rw [hB]; exact hb3)
        rw [hB] at hc
        have hnc2 : nc = 0 ∨ (2 ≤ nc ∧ nc ≤ 1000) := .inr HN.out
        obtain ⟨nn, hfm⟩ := HM.out p hple
        have htry := tryAt hfm V ((List.replicate nc (-1)).set 0 (p : Int)) hdead
        have HB3 := Lib.hid hb3
        have HG := Lib.hid (And.intro hg (And.intro hw0 (And.intro hple hrr)))
        clear hb3 hg hrr hdead hfm
        cases hfp : f p with
        | none =>
          rw [hfp] at htry
          obtain ⟨kk, V', hV', hst⟩ := htry
          have HT := Lib.hid (tTry hc h3 start p x HX.out.1 HX.out.2 hple (by simp) hnc2 rfl kk false _ _ _ hst)
          have HV' := Lib.hid hV'
          have HFP := Lib.hid hfp
          have hwb : p + (stepB s p).2 ≤ s.size := by
            by_cases c : p < s.size
            · exact (HS.out.ok.inn p c).2
            · have : stepB s p = (-1, 0) := HS.out.ok.out p (by omega)
              rw [this]; omega
          have kw : IntKind.i64.wrap ((p : Int) + ((stepB s p).2 : Int)) = ((p + (stepB s p).2 : Nat) : Int) := by rw [IntKind.wrap_i64]; omega
          have HWB := Lib.hid hwb
          clear hc h3 hst hV' hfp hbs hnc2 hwb
          go_wp2_with (first
            | (go_at_call 99; refine HT.out.mono ?_; rintro e w4 ⟨rfl, ⟨J, hJ, hbs4⟩, hb4⟩; have hJ := hJ rfl; subst hJ; have H4 := Lib.hid (And.intro hbs4 hb4); have c5 := hbs4.c5; have htab := (Sur.ctx HS.out (w2 := w4) (by rw [hB]; exact HB3.out.trans hb4)).tab'; have HST := Lib.hid (tStep B s p (by omega) hlen w4 htab c5); clear hbs4 hb4 c5 htab)
            | (go_at_call 85; refine HST.out.mono ?_; rintro e w5 ⟨rfl, hb5⟩; have H5 := Lib.hid hb5; clear hb5))
          go_roundg g
          case measure => omega
          case rel =>
            obtain ⟨hg, hw0, hple, hrr⟩ := HG.out
            have hstep : (envOf T s).step p = stepB s p := rfl
            refine ⟨p + (stepB s p).2, ((stepB s p).2 : Int), rfl, rfl, Lib.hid ⟨⟨V', (p : Int), HV'.out, by simpa using H4.out.1.keep (H5.out)⟩, (HB3.out.trans H4.out.2).trans (H5.out.mono H4.out.1.bw), HWB.out, ?_, ⟨by omega, by have := HWB.out; omega⟩⟩⟩
            by_cases cz : (stepB s p).2 = 0
            · refine .inr ⟨by omega, ?_⟩
              rw [hrr, srch, if_neg (by omega), HFP.out, hstep]
              simp [cz]
            · refine .inl ⟨by omega, by omega, ?_⟩
              rw [hrr, srch, if_neg (by omega), HFP.out, hstep]
              simp [cz]
        | some t =>
          rw [hfp] at htry
          obtain ⟨kk, V', J', hst⟩ := htry
          have HT := Lib.hid (tTry hc h3 start p x HX.out.1 HX.out.2 hple (by simp) hnc2 rfl kk true _ _ _ hst)
          have HFP := Lib.hid hfp
          clear hc h3 hst hfp hbs hnc2
          go_wp2_with (go_at_call 99; refine HT.out.mono ?_; rintro e w4 ⟨rfl, ⟨J, _, hbs4⟩, hb4⟩; have H4 := Lib.hid (And.intro hbs4 hb4); clear hbs4 hb4)
          refine wp_goto ?_
          refine ⟨0, fun k h => (by cases h), rfl, _, rfl, rfl, rfl, rfl, CB, MB, VB, vn, p, t, _, _, ?_, by simpa using H4.out.1, HB3.out.trans H4.out.2⟩
          obtain ⟨hg, hw0, hple, hrr⟩ := HG.out
          rw [hrr, srch, if_neg (by omega), HFP.out]
      · have c5 := hbs.c5
        have f5 := hbs.f5
        have k1 : (p : Int) ≤ (s.size : Int) := by have := HR.out.le; omega
        have HRR := Lib.hid hrr
        clear hrr hbs hbw HR
        go_wp2_with (go_at_call 100; refine (tFree wr B s c5 f5).mono ?_; rintro e w5 ⟨⟨v5, rfl⟩, rfl⟩)
        change bodyPost Tryz.prog Tryz.f83 (fun e w' => ∃ v, e = .returned v ∧ Got w' base nc dst v r ∧ Below base w w' ∧ w.grownBy w' dst.ownBlock) .ret _ _
        go_ret
        exact ⟨_, rfl, by rw [HRR.out]; rfl, (HBW.out.setCell (p := ⟨B, 5, none⟩) (Nat.le_refl _) _).mono h0, grown_below (by rw [hB]; exact HBW.out.setCell (p := ⟨B, 5, none⟩) (Nat.le_refl _) _) _⟩
  · refine ⟨_, rfl, ?_⟩
    rintro n _ w4 ⟨_, xs, rfl, hl, e5, e14, CB, MB, VB, vn, p, t, J, V, hrr, hbs, hb4⟩
    rw [fr150 xs hl, e5, e14]
    obtain ⟨v5, w5, hr5, g5, g5', hb5, hgr5, hk5⟩ := tail_eq (Below.refl B w) hb4 hbs HD.out h0 hB (by have := HN.out; omega) (by rw [applyT_length]; simp)
    have c2 := hbs.c2
    have H5 := Lib.hid (And.intro hr5 (And.intro g5 (And.intro g5' (And.intro hb5 (And.intro hgr5 hk5)))))
    have HRR := Lib.hid hrr
    clear hr5 g5 g5' hb5 hgr5 hk5 hrr hl e5 e14
    go_wp2_with (first
      | ((with_reducible refine wpList_append_eq (o := ⟨some 146, _, _, _, _, _⟩) ?a1 (.tmp 141) (.tmp 145) 114 ?a2 ?a3 _ _ _ _ ?a4 ?a5 H5.out.1 ?_); (case a1 => rfl); (case a2 => rfl); (case a3 => rfl); (case a4 => rfl); (case a5 => rfl))
      | (go_at_call 100; refine (tFree w5 B s H5.out.2.2.2.2.2.c H5.out.2.2.2.2.2.f).mono ?_; rintro e w6 ⟨⟨v6, rfl⟩, rfl⟩))
    change bodyPost Tryz.prog Tryz.f83 (fun e w' => ∃ v, e = .returned v ∧ Got w' base nc dst v r ∧ Below base w w' ∧ w.grownBy w' dst.ownBlock) .ret _ _
    go_ret
    exact ⟨v5, rfl, by rw [HRR.out]; exact got_set H5.out.2.2.2.2.2 H5.out.2.1 H5.out.2.2.1, H5.out.2.2.2.1.setCell (p := ⟨B, 5, none⟩) (by omega) _, grown_new H5.out.2.2.2.2.1 B 5 _ (by omega)⟩
end Go.Proofs.YtpbmbaffncnglaaGreatDoor.Sv
end
section
set_option linter.unusedVariables false
set_option linter.unusedSimpArgs false
/- find, a match with its groups -/
namespace Go.Proofs.YtpbmbaffncnglaaGreatDoor.Sv
open Go Go.RowKit Rx
set_option maxRecDepth 100000
/-- what find gives -/
def Got2 (w' : World) (base nc : Nat) (v : Value) (r : Option (Nat × List (Nat × Nat))) : Prop := match r with
  | none => v = .slice none 0 0
  | some (p, t) => ∃ g cap, v = .slice (some ⟨g, 0, none⟩) nc cap ∧ (0 < nc → w'.ownsRow base 3 1 v nc (ints (applyT t ((List.replicate nc (-1)).set 0 (p : Int)))))
theorem Got.two {w' : World} {base nc : Nat} {dst v : Value} {r : Option (Nat × List (Nat × Nat))} (h : Got w' base nc dst v r) (hd : ∃ g cap, dst = .slice (some ⟨g, 0, none⟩) 0 cap) : Got2 w' base nc v r := by
  cases r with
  | none => exact h
  | some x =>
    obtain ⟨p, t⟩ := x
    obtain ⟨h1, h2⟩ := h
    rcases Nat.eq_zero_or_pos nc with hz | hp
    · obtain ⟨g, cap, rfl⟩ := hd
      subst hz
      exact ⟨g, cap, h1 rfl, fun h => absurd h (Nat.lt_irrefl _)⟩
    · obtain ⟨g, cap, h3, h4⟩ := h2 hp
      exact ⟨g, cap, h3, fun _ => h4⟩
theorem q124 (w : World) (a : Option Addr) (n c : Nat) : (binOp .eql 114 (.slice a n c) (.slice none 0 0)).run Tryz.prog w = .ok (.bool a.isNone) w := Lib.run_eql_slice_nil w 114 3 a n c 0 0 Tryz.underlying114
theorem n124 (w : World) (a : Option Addr) (n c : Nat) : (binOp .neq 114 (.slice a n c) (.slice none 0 0)).run Tryz.prog w = .ok (.bool (!a.isNone)) w := run_neq_slice_nil_any w 114 3 a n c 0 0 Tryz.underlying114
theorem tFind {w : World} {R PB : Nat} {s : ByteArray} {cond : Int} {start ncap minl nsub : Nat} (hR : RH w R PB cond start ncap minl nsub) (base nc pos : Nat) (hs : s.size ≤ 1000000) (hml : minl ≤ 1000) (h0 : base ≤ w.heap.size) (r : Option (Nat × List (Nat × Nat))) (hmin : s.size < minl → r = none)
    (H : ∀ (W : World) (dst : Value), Below w.heap.size w W → DstOk W base nc dst → Calls Tryz.prog 83 #[.pointer (some ⟨R, 0, none⟩), .slice none 0 0, .string s, .int .i64 pos, .int .i64 nc, dst] W fun e w' => ∃ v, e = .returned v ∧ Got w' base nc dst v r ∧ Below base W w' ∧ W.grownBy w' dst.ownBlock)
    (dst : Value) (hd : dst = .slice none 0 0 ∨ DstOk w base nc dst) :
    Calls Tryz.prog 61 #[.pointer (some ⟨R, 0, none⟩), .nilIface, .slice none 0 0, .string s, .int .i64 pos, .int .i64 nc, dst] w fun e w' => ∃ v, e = .returned v ∧ Got2 w' base nc v r ∧ Below base w w' ∧ w.grownBy w' dst.ownBlock := by
  have r14 := hR.minl
  have H := Lib.hid H
  have hRs : R < w.heap.size := Lib.lt_of_cell r14
  have HM := Lib.hid hmin
  clear hmin
  have q := q124
  rcases hd with rfl | hd
  · by_cases c : s.size < minl
    · have c1 : (s.size : Int) < (minl : Int) := by omega
      have hr := HM.out c
      have HR := Lib.hid hr
      clear c hr
      go_enter Tryz.func61, Tryz.ntmps61
      go_wp2
      go_ret
      exact ⟨_, rfl, by rw [HR.out]; rfl, (Below.refl _ w).alloc h0 _, grown_below ((Below.refl _ w).alloc (Nat.le_refl _) _) _⟩
    · have c1 : ¬ (s.size : Int) < (minl : Int) := by omega
      clear c
      go_enter Tryz.func61, Tryz.ntmps61
      go_wp2_with (go_at_call 83; refine (H.out _ _ ((Below.refl _ w).alloc (Nat.le_refl _) _) ⟨_, 0, rfl, (by omega)⟩).mono ?_; rintro e w2 ⟨v2, rfl, hg, hb2, hgr2⟩; have HG := Lib.hid hg; have HB := Lib.hid hb2; have HGR := Lib.hid hgr2; clear hg hb2 hgr2)
      go_ret
      exact ⟨_, rfl, HG.out.two ⟨_, _, rfl⟩, ((Below.refl _ w).alloc h0 _).trans HB.out, HGR.out.os, HGR.out.tape, HGR.out.output, by have := HGR.out.size; simp at this; omega, fun k hk _ => (HGR.out.block k (by simp; omega) (show some k ≠ some w.heap.size from fun e => absurd (Option.some.inj e) (by omega))).trans (Below.heap_alloc _ _ k hk)⟩
  · obtain ⟨g, cap, rfl, hd'⟩ := hd
    have HD := Lib.hid hd'
    clear hd'
    by_cases c : s.size < minl
    · have c1 : (s.size : Int) < (minl : Int) := by omega
      have hr := HM.out c
      have HR := Lib.hid hr
      clear c hr
      go_enter Tryz.func61, Tryz.ntmps61
      go_wp2
      go_ret
      exact ⟨_, rfl, by rw [HR.out]; rfl, Below.refl _ w, grown_below (Below.refl _ w) _⟩
    · have c1 : ¬ (s.size : Int) < (minl : Int) := by omega
      clear c
      go_enter Tryz.func61, Tryz.ntmps61
      go_wp2_with (go_at_call 83; refine (H.out _ _ (Below.refl _ w) ⟨g, cap, rfl, HD.out⟩).mono ?_; rintro e w2 ⟨v2, rfl, hg, hb2, hgr2⟩; have HG := Lib.hid hg; have HB := Lib.hid hb2; have HGR := Lib.hid hgr2; clear hg hb2 hgr2)
      go_ret
      exact ⟨_, rfl, HG.out.two ⟨_, _, rfl⟩, HB.out, HGR.out⟩
/-- is there a match: an anchored program -/
theorem tMatchString {w : World} {R PB IB icap : Nat} {T : List I} {s : ByteArray} (hS : Sur w R PB IB icap T s) {start ncap minl nsub : Nat} (hR : RH w R PB 4 start ncap minl nsub) (hml : minl ≤ 1000) (x : I) (hx : T[start]? = some x) (hf : opc x ≠ 5)
    {n : Nat} {r : Res} (hM : FM (envOf T s) n start 0 r) (hmin : s.size < minl → r = none) :
    Calls Tryz.prog 27 #[.pointer (some ⟨R, 0, none⟩), .string s] w fun e w' => e = .returned (.bool r.isSome) ∧ Below w.heap.size w w' := by
  have HF := Lib.hid (tFind hR w.heap.size 0 0 hS.len hml (Nat.le_refl _) (r.map (0, ·)) (fun h => by rw [hmin h]; rfl) (fun W dst hb hd => (tBackA (hS.keep hb) (hR.keep hb) x hx hf w.heap.size 0 (.inl rfl) dst hd hb.size hM).mono fun e w' h => h) (.slice none 0 0) (.inl rfl))
  have q := n124
  clear hS hR hx hf hM hmin
  cases r with
  | none =>
    go_enter Tryz.func27, Tryz.ntmps27
    go_wp2_with (first
      | (go_at_call 61; refine HF.out.mono ?_; rintro e w2 ⟨v2, rfl, hg, hb2, _⟩; have HB := Lib.hid hb2; have hg : v2 = .slice none 0 0 := hg; subst hg; clear hb2)
      | go_in)
    go_ret
    exact ⟨rfl, HB.out⟩
  | some t =>
    go_enter Tryz.func27, Tryz.ntmps27
    go_wp2_with (first
      | (go_at_call 61; refine HF.out.mono ?_; rintro e w2 ⟨v2, rfl, ⟨g, cap, hv, _⟩, hb2, _⟩; have HB := Lib.hid hb2; subst hv; clear hb2)
      | go_in)
    go_ret
    exact ⟨rfl, HB.out⟩
end Go.Proofs.YtpbmbaffncnglaaGreatDoor.Sv
end
section
set_option linter.unusedVariables false
set_option linter.unusedSimpArgs false
/- a match's pieces of the text: FindStringSubmatch -/
namespace Go.Proofs.YtpbmbaffncnglaaGreatDoor.Sv
open Go Go.RowKit Rx
set_option maxRecDepth 100000
/-- the i-th piece of the text by the places C -/
def pieceI (s : ByteArray) (C : List Int) (i : Nat) : ByteArray := if 2 * i < C.length ∧ 0 ≤ C.getD (2 * i) 0 then s.extract (C.getD (2 * i) 0).toNat (C.getD (2 * i + 1) 0).toNat else ⟨#[]⟩
def strs (L : List ByteArray) : Array Value := (L.map Value.string).toArray
theorem info9 : (Tryz.prog.info? 9).map (fun i => (i.zero, i.size, i.bytes)) = some (some (.string ⟨#[]⟩), 1, 16) := by kernel_rfl
theorem mkS (n : Nat) (hn : n ≤ 1000) (w : World) : (Instr.makeSlice 40 (.int .i64 n) (.int .i64 n)).run Tryz.prog w = .ok (.slice (some ⟨w.heap.size, 0, none⟩) n n) (w.alloc (.cells (strs (List.replicate n ⟨#[]⟩)) 9)) := by
  rw [run_make_row' 40 9 (.string ⟨#[]⟩) 16 Tryz.underlying40 info9 rfl .i64 .i64 n (by omega) (by omega) w]
  congr 3
  apply Array.ext'
  rw [toList_madeCells_one]
  simp [strs]
/-- the row of the pieces: the first i of them stand -/
structure FillS (wA wr : World) (x i n : Nat) (f : Nat → ByteArray) : Prop where
  grown : wA.grownBy wr (some x)
  row : wr.heap[x]? = some (.cells (strs ((List.range i).map f ++ List.replicate (n - i) ⟨#[]⟩)) 9 (0, 0))
theorem strs_set (f : Nat → ByteArray) (i n : Nat) (h : i < n) : (strs ((List.range i).map f ++ List.replicate (n - i) ⟨#[]⟩)).setIfInBounds i (.string (f i)) = strs ((List.range (i + 1)).map f ++ List.replicate (n - (i + 1)) ⟨#[]⟩) := by
  unfold strs
  rw [List.setIfInBounds_toArray]
  congr 1
  apply List.ext_getElem?
  intro j
  rw [List.getElem?_set]
  by_cases e : i = j
  · subst e
    rw [if_pos rfl, if_pos (by simp; omega), List.getElem?_map, List.getElem?_append_left (by simp)]
    simp
  · rw [if_neg e]
    simp only [List.getElem?_map]
    congr 1
    by_cases c : j < i
    · rw [List.getElem?_append_left (by simpa using c), List.getElem?_append_left (by simp; omega)]
      simp [c, Nat.lt_succ_of_lt c]
    · rw [List.getElem?_append_right (by simp; omega), List.getElem?_append_right (by simp; omega)]
      simp only [List.length_map, List.length_range, List.getElem?_replicate]
      by_cases d : j < n
      · rw [if_pos (by omega), if_pos (by omega)]
      · rw [if_neg (by omega), if_neg (by omega)]
theorem strs_skip (f : Nat → ByteArray) (i n : Nat) (h : i < n) (hf : f i = ⟨#[]⟩) : strs ((List.range i).map f ++ List.replicate (n - i) ⟨#[]⟩) = strs ((List.range (i + 1)).map f ++ List.replicate (n - (i + 1)) ⟨#[]⟩) := by
  rw [← strs_set f i n h, hf]
  unfold strs
  rw [List.setIfInBounds_toArray]
  congr 1
  apply List.ext_getElem?
  intro j
  rw [List.getElem?_set]
  by_cases e : i = j
  · subst e
    rw [if_pos rfl, if_pos (by simp; omega), List.getElem?_map, List.getElem?_append_right (by simp), List.getElem?_replicate, if_pos (by simp; omega)]
    rfl
  · rw [if_neg e]
theorem FillS.step {wA wr : World} {x i n : Nat} {f : Nat → ByteArray} (h : FillS wA wr x i n f) (hi : i < n) : FillS wA (wr.setCell ⟨x, i, none⟩ (.string (f i))) x (i + 1) n f := by
  refine ⟨⟨h.grown.os, h.grown.tape, h.grown.output, by simpa using h.grown.size, fun k hk hne => ?_⟩, ?_⟩
  · rw [heap_setCell_other _ _ _ _ (fun e => hne (by rw [e]))]
    exact h.grown.block k hk hne
  · rw [heap_setCell_same wr x i _ 9 _ h.row, strs_set f i n hi]
theorem FillS.skip {wA wr : World} {x i n : Nat} {f : Nat → ByteArray} (h : FillS wA wr x i n f) (hi : i < n) (hf : f i = ⟨#[]⟩) : FillS wA wr x (i + 1) n f := ⟨h.grown, by rw [← strs_skip f i n hi hf]; exact h.row⟩
theorem FillS.drew {wA wr : World} {x i n : Nat} {f : Nat → ByteArray} (h : FillS wA wr x i n f) : FillS wA wr.drew x i n f := ⟨⟨h.grown.os, h.grown.tape, h.grown.output, h.grown.size, fun k hk hne => h.grown.block k hk hne⟩, h.row⟩
theorem FillS.cell {wA wr : World} {x i n : Nat} {f : Nat → ByteArray} (h : FillS wA wr x i n f) (hi : i < n) : (∃ u, wr.cell? ⟨x, i, none⟩ = some u) ∧ wr.frozen? ⟨x, i, none⟩ = false := by
  refine ⟨⟨(strs ((List.range i).map f ++ List.replicate (n - i) ⟨#[]⟩))[i]'(by simp [strs]; omega), by rw [cell_of_row _ _ _ _ _ _ h.row]; exact Array.getElem?_eq_getElem _⟩, frozen_of_row _ _ _ _ _ h.row⟩
theorem FillS.keep {wA wr : World} {x i n B : Nat} {f : Nat → ByteArray} (h : FillS wA wr x i n f) (hne : B ≠ x) {o : Nat} {v : Value} (hc : wA.cell? ⟨B, o, none⟩ = some v) : wr.cell? ⟨B, o, none⟩ = some v :=
  h.grown.cell hc (fun e => hne (by injection e))
/-- what comes back: the pieces -/
def SubRes (base k : Nat) (f : Nat → ByteArray) (e : Ending) (w' : World) : Res → Prop
  | none => e = .returned (.slice none 0 0)
  | some _ => ∃ x, e = .returned (.slice (some ⟨x, 0, none⟩) k k) ∧ base ≤ x ∧ w'.heap[x]? = some (.cells (strs ((List.range k).map f)) 9 (0, 0))
set_option maxHeartbeats 400000 in
theorem tFindSub {w : World} {R PB IB icap : Nat} {T : List I} {s : ByteArray} (hS : Sur w R PB IB icap T s) {start ncap minl nsub : Nat} (hR : RH w R PB 4 start ncap minl nsub) (hml : minl ≤ 1000) (x : I) (hx : T[start]? = some x) (hf : opc x ≠ 5)
    (hnc : 4 < ncap ∧ ncap ≤ 1000) (hns : nsub < 1000) {n : Nat} {r : Res} (hM : FM (envOf T s) n start 0 r) (hmin : s.size < minl → r = none)
    (C : List Int) (hC : ∀ t, r = some t → C = applyT t ((List.replicate ncap (-1)).set 0 0)) (hlC : C.length = ncap) (hsl : ∀ i, 2 * i + 1 < ncap → 0 ≤ C.getD (2 * i) 0 → C.getD (2 * i) 0 ≤ C.getD (2 * i + 1) 0 ∧ C.getD (2 * i + 1) 0 ≤ s.size) (hev : ncap % 2 = 0) :
    Calls Tryz.prog 45 #[.pointer (some ⟨R, 0, none⟩), .string s] w fun e w' => Below w.heap.size w w' ∧ SubRes w.heap.size (nsub + 1) (pieceI s C) e w' r := by
  have r1 := hS.pg.r1
  have p2 := hR.ncap
  have r3 := hR.nsub
  have hRs : R < w.heap.size := Lib.lt_of_cell r1
  have hPs : PB < w.heap.size := Lib.lt_of_cell p2
  have hlen := hS.len
  have HF := Lib.hid (fun (W : World) (hb : Below w.heap.size w W) (dst : Value) (hd : DstOk W w.heap.size ncap dst) => tFind (hR.keep hb) w.heap.size ncap 0 hS.len hml hb.size (r.map (0, ·)) (fun h => by rw [hmin h]; rfl) (fun W2 dst hb2 hd => (tBackA ((hS.keep hb).keep hb2) ((hR.keep hb).keep hb2) x hx hf w.heap.size ncap (.inr (by omega)) dst hd (by have := hb.size; have := hb2.size; omega) hM).mono fun e w' h => h) dst (.inr hd))
  have q := q124
  obtain ⟨k, hk⟩ : ∃ k, k = nsub + 1 := ⟨_, rfl⟩
  have mS := mkS k (by omega)
  have hw1 : IntKind.i64.wrap (1 + (nsub : Int)) = (k : Int) := by rw [IntKind.wrap_i64]; omega
  have hk1 : (k : Int) ≤ 1000 := by omega
  rw [← hk]
  have HK := Lib.hid (And.intro hk hns)
  have HC := Lib.hid (And.intro hC (And.intro hlC (And.intro hsl hev)))
  have HN := Lib.hid hnc
  clear hS hR hx hf hM hmin hC hlC hsl hnc hev hk hns
  cases r with
  | none =>
    go_enter Tryz.func45, Tryz.ntmps45
    go_wp2
    go_region_with (go_at_call 61; refine (HF.out _ (((Below.refl _ w).alloc (Nat.le_refl _) _).drew) _ ⟨w.heap.size, 4, rfl, .inr (.inl HN.out.1)⟩).mono ?_; rintro e w2 ⟨v2, rfl, hg, hb2, _⟩; have hg : v2 = .slice none 0 0 := hg; subst hg; have HB := Lib.hid ((((Below.refl _ w).alloc (Nat.le_refl _) _).drew).trans hb2); clear hb2)
    go_wp2
    go_ret
    exact ⟨HB.out, rfl⟩
  | some t =>
    go_enter Tryz.func45, Tryz.ntmps45
    go_wp2
    go_region_with (go_at_call 61; refine (HF.out _ (((Below.refl _ w).alloc (Nat.le_refl _) _).drew) _ ⟨w.heap.size, 4, rfl, .inr (.inl HN.out.1)⟩).mono ?_; rintro e w2 ⟨v2, rfl, ⟨g, cap, hv, ho⟩, hb2, _⟩; subst hv; have ho : w2.ownsRow w.heap.size 3 1 (.slice (some ⟨g, 0, none⟩) ncap cap) ncap (ints C) := (by have h := ho (by have := HN.out; omega); rw [HC.out.1 t rfl]; exact h); have HO := Lib.hid ho; have HB := Lib.hid ((((Below.refl _ w).alloc (Nat.le_refl _) _).drew).trans hb2); have r3' : w2.cell? ⟨R, 3, none⟩ = some (.int .i64 nsub) := (HB.out.cell (p := ⟨R, 3, none⟩) hRs).trans r3; clear hb2 ho)
    clear HF
    go_upto_region 6 with fail
    generalize hX : World.alloc _ _ = X
    have hXx : X.heap[w2.heap.size]? = some (.cells (strs (List.replicate k ⟨#[]⟩)) 9 (0, 0)) := by rw [← hX]; exact heap_alloc_new w2 _
    have hXb : Below w2.heap.size w2 X := by rw [← hX]; exact (Below.refl _ w2).alloc (Nat.le_refl _) _
    have hgl := (HO.out.lt g rfl).2
    have hcl : ∀ j, j < ncap → X.cell? ⟨g, j, none⟩ = some (.int .i64 (C.getD j 0)) := fun j hj => by
      rw [hXb.cell (p := ⟨g, j, none⟩) hgl, HO.out.cellAt j (by omega)]
      have hjl : j < C.length := by rw [HC.out.2.1]; exact hj
      simp [ints, List.getD, hjl]
    have HX := Lib.hid (And.intro hXx (And.intro hXb hcl))
    have hne : g ≠ w2.heap.size := by omega
    have HBX := Lib.hid (HB.out.trans (hXb.mono HB.out.size))
    have hxs : w.heap.size ≤ w2.heap.size := HB.out.size
    clear hX hXx hXb hcl hgl HO HB
    generalize w2.heap.size = x at *
    go_wp2
    go_loopw [30] (fun iv wr => ∃ i : Nat, iv = .int .i64 i ∧ Hid (i ≤ k ∧ FillS X wr x i k (pieceI s C))) (fun iv _ => 2000 - (intOf iv).toNat)
    case atStart => exact ⟨0, rfl, Lib.hid ⟨Nat.zero_le _, ⟨rfl, rfl, rfl, Nat.le_refl _, fun _ _ _ => rfl⟩, by simpa using HX.out.1⟩⟩
    case round =>
      obtain ⟨i, rfl, HF⟩ := hrel
      by_cases c : i < k
      · have c1 : (i : Int) < (k : Int) := by omega
        have HCk := Lib.hid c
        have m3 : ((2 : Int) * (i : Int)).toNat = 2 * i := by omega
        have m5 : (0 : Int) ≤ 2 * (i : Int) := by omega
        have m6 : (0 : Int) ≤ 2 * (i : Int) + 1 := by omega
        have m7 : IntKind.i64.wrap (2 * (i : Int)) = 2 * (i : Int) := by rw [IntKind.wrap_i64]; omega
        have m8 : IntKind.i64.wrap (2 * (i : Int) + 1) = 2 * (i : Int) + 1 := by rw [IntKind.wrap_i64]; omega
        have m4 : ((2 : Int) * (i : Int) + 1).toNat = 2 * i + 1 := by omega
        by_cases cn : 2 * i < ncap
        · have cn1 : (2 : Int) * (i : Int) < (ncap : Int) := by omega
          have cn2 : (2 : Int) * (i : Int) + 1 < (ncap : Int) := by have := HC.out.2.2.2; omega
          have ca := HF.out.2.keep hne (HX.out.2.2 (2 * i) cn)
          have cb := HF.out.2.keep hne (HX.out.2.2 (2 * i + 1) (by omega))
          have hpc : pieceI s C i = if 0 ≤ C.getD (2 * i) 0 then s.extract (C.getD (2 * i) 0).toNat (C.getD (2 * i + 1) 0).toNat else ⟨#[]⟩ := by
            unfold pieceI; rw [HC.out.2.1]; simp [cn]
          have hsl := HC.out.2.2.1 i (by omega)
          have HPC := Lib.hid hpc
          clear hpc c
          by_cases cp : 0 ≤ C.getD (2 * i) 0
          · obtain ⟨s1, s2⟩ := hsl cp
            have HP := Lib.hid (HPC.out.trans (if_pos cp))
            clear hsl HPC
            generalize C.getD (2 * i) 0 = a at *
            generalize C.getD (2 * i + 1) 0 = b at *
            obtain ⟨⟨u, hu⟩, hfr⟩ := HF.out.2.cell HCk.out
            go_wp2
            go_region_with (fail)
            · go_wp2
              go_roundw
              case measure => simp [intOf]; have := HCk.out; omega
              case rel => exact ⟨i + 1, by go_num, Lib.hid ⟨by have := HCk.out; omega, by have h := HF.out.2.step HCk.out; rw [HP.out] at h; exact h.drew⟩⟩
            · go_wp2
              go_roundw
              case measure => simp [intOf]; have := HCk.out; omega
              case rel => exact ⟨i + 1, by go_num, Lib.hid ⟨by have := HCk.out; omega, by have h := HF.out.2.step HCk.out; rw [HP.out] at h; exact h.drew⟩⟩
          · have HP := Lib.hid (HPC.out.trans (if_neg cp))
            clear hsl HPC
            have cp' : ¬ 0 ≤ C.getD (2 * i) 0 := cp
            generalize C.getD (2 * i) 0 = a at *
            generalize C.getD (2 * i + 1) 0 = b at *
            go_wp2
            go_roundw
            case measure => simp [intOf]; have := HCk.out; omega
            case rel => exact ⟨i + 1, by go_num, Lib.hid ⟨by have := HCk.out; omega, HF.out.2.skip HCk.out HP.out⟩⟩
        · have cn1 : ¬ (2 : Int) * (i : Int) < (ncap : Int) := by omega
          have HP := Lib.hid (show pieceI s C i = ⟨#[]⟩ by unfold pieceI; rw [HC.out.2.1, if_neg (by omega)])
          clear c cn
          go_wp2
          go_roundw
          case measure => simp [intOf]; have := HCk.out; omega
          case rel => exact ⟨i + 1, by go_num, Lib.hid ⟨by have := HCk.out; omega, HF.out.2.skip HCk.out HP.out⟩⟩
      · have hik : i = k := by have := HF.out.1; omega
        subst hik
        clear c
        go_wp2
        go_ret
        refine ⟨(HBX.out).grown HF.out.2.grown (by have := HBX.out.size; omega) (fun k h => by injection h; omega), x, rfl, hxs, ?_⟩
        have h := HF.out.2.row
        simpa using h
end Go.Proofs.YtpbmbaffncnglaaGreatDoor.Sv
end
section
set_option linter.unusedVariables false
set_option linter.unusedSimpArgs false
/- pad: -1 behind the places until there are as many as groups ask for -/
namespace Go.Proofs.YtpbmbaffncnglaaGreatDoor.Sv
open Go Go.RowKit Rx
set_option maxRecDepth 100000
theorem own_zero {w : World} {base e n g cap : Nat} {xs : List Value} (h : w.ownsRow base e 1 (.slice (some ⟨g, 0, none⟩) n cap) n xs) : w.ownsRow base e 1 (.slice (some ⟨g, 0, none⟩) 0 cap) 0 [] := by
  rcases h.2 with ⟨h, _⟩ | ⟨g', cap', cur, h, hb, hg, hn, hc, hs, _⟩
  · cases h
  · injection h with h1 h2 h3
    injection h1 with h1
    injection h1 with h1
    subst h1 h3
    exact ⟨rfl, .inr ⟨g, cap, cur, rfl, hb, hg, Nat.zero_le _, hc, hs, rfl⟩⟩
/-- an own row grows by one number: the row it had is a row still, and nothing else that lay has turned -/
theorem app_one (w : World) (base g n cap : Nat) (xs : List Value) (h : w.ownsRow base 3 1 (.slice (some ⟨g, 0, none⟩) n cap) n xs) (a : Nat) (x : Value) (hx : w.cell? ⟨a, 0, none⟩ = some x) (h1 : x.oneCell' = true) (hn : n ≤ 1000) (hb : base ≤ w.heap.size) :
    ∃ g' cap' w', (Builtin.append_ #[114, 114] 114 #[.slice (some ⟨g, 0, none⟩) n cap, .slice (some ⟨a, 0, none⟩) 1 1]).run Tryz.prog w = .ok (.slice (some ⟨g', 0, none⟩) (n + 1) cap') w' ∧
      w'.ownsRow base 3 1 (.slice (some ⟨g', 0, none⟩) (n + 1) cap') (n + 1) (xs ++ [x]) ∧ w.grownBy w' (some g) ∧ (g' = g ∧ cap' = cap ∨ w.heap.size ≤ g' ∧ w.grownBy w' none) := by
  obtain ⟨i0, hi, hz0, hz1, hz2⟩ := info_parts info3
  have hc : ∀ (j : Nat) (u : Value), [x][j]? = some u → w.cell? ((⟨a, 0, none⟩ : Addr).add j) = some u := fun j u hj => by
    cases j with
    | zero => simp at hj; subst hj; exact hx
    | succ j => simp at hj
  have hone : ∀ u ∈ [x], u.oneCell' = true := fun u hu => by simp at hu; subst hu; exact h1
  by_cases hr : n + 1 ≤ cap
  · obtain ⟨w', h2, h3, h4⟩ := run_append_fits (P := Tryz.prog) w base 114 114 3 i0 1 Tryz.underlying114 hi hz1 g n cap xs h ⟨a, 0, none⟩ 1 1 [x] rfl hc hone hr
    exact ⟨g, cap, w', h2, h3, h4, .inl ⟨rfl, rfl⟩⟩
  · have hlen := h.1
    obtain ⟨v', w', h2, h3, h4⟩ := run_append_arg_grows (P := Tryz.prog) w 114 114 3 i0 (.int .i64 0) 1 8 Tryz.underlying114 hi hz0 hz1 hz2 rfl (by decide) ⟨g, 0, none⟩ n cap xs h.1 (fun j u hj => by
      have e : (⟨g, 0, none⟩ : Addr).add j = ⟨g, j, none⟩ := by simp [Addr.add]; omega
      rw [e, h.cellAt j (by have := (List.getElem?_eq_some_iff.1 hj).1; omega)]; exact hj) ⟨a, 0, none⟩ 1 1 [x] rfl hc (by omega) (by unfold maxLen; omega) (by omega)
    obtain ⟨g2, cap2, hv, hb2⟩ := World.ownsRow.form h3 (by omega)
    subst hv
    have hg2 : w.heap.size ≤ g2 := (h3.lt g2 rfl).1
    refine ⟨g2, cap2, w', h2, ?_, ⟨h4.os, h4.tape, h4.output, h4.size, fun k hk _ => h4.block k hk (fun e => by cases e)⟩, .inr ⟨hg2, h4⟩⟩
    refine ⟨h3.1, ?_⟩
    rcases h3.2 with h | ⟨g', c', cur, e1, e2, e3⟩
    · exact .inl h
    · exact .inr ⟨g', c', cur, e1, by omega, e3⟩
/-- what stands while it pads -/
structure Padded (w wr : World) (base g cap g' cap' k : Nat) (xs : List Value) : Prop where
  own : wr.ownsRow base 3 1 (.slice (some ⟨g', 0, none⟩) k cap') k xs
  old : wr.ownsRow base 3 1 (.slice (some ⟨g, 0, none⟩) 0 cap) 0 []
  grown : w.grownBy wr (some g)
  which : g' = g ∧ cap' = cap ∨ w.heap.size ≤ g'
theorem Padded.step {w wr : World} {base g cap g' cap' k : Nat} {xs : List Value} (h : Padded w wr base g cap g' cap' k xs) (hb : base ≤ w.heap.size) (hk : k ≤ 999) (x : Value) (h1 : x.oneCell' = true) (hgl : g < w.heap.size) :
    ∃ g2 cap2 w', (Builtin.append_ #[114, 114] 114 #[.slice (some ⟨g', 0, none⟩) k cap', .slice (some ⟨wr.heap.size, 0, none⟩) 1 1]).run Tryz.prog (wr.alloc (.cells #[x] 3)) = .ok (.slice (some ⟨g2, 0, none⟩) (k + 1) cap2) w' ∧ Padded w w' base g cap g2 cap2 (k + 1) (xs ++ [x]) := by
  have hsz := h.grown.size
  have hal : wr.grownBy (wr.alloc (.cells #[x] 3)) none := World.grownBy_alloc _ _ none
  obtain ⟨g2, cap2, w', h2, h3, h4, h5⟩ := app_one (wr.alloc (.cells #[x] 3)) base g' k cap' xs (h.own.alloc _) wr.heap.size x (cell_of_row _ _ 0 _ _ _ (heap_alloc_new wr _)) h1 (by omega) (by simp; omega)
  have hlt' := (h.own.lt g' rfl).2
  refine ⟨g2, cap2, w', h2, h3, ?_, ?_, ?_⟩
  · rcases h5 with ⟨rfl, rfl⟩ | ⟨h5, h6⟩
    · rcases h.which with ⟨rfl, rfl⟩ | hw
      · exact own_zero h3
      · refine own_of h.old fun g0 cur hg0 hc => ?_
        obtain rfl : g = g0 := by simpa [Value.ownBlock] using hg0
        rw [h4.block g (by simp; omega) (fun e => by injection e with e; omega)]
        exact Below.heap_alloc _ _ g (by omega)
    · refine own_of h.old fun g0 cur hg0 hc => ?_
      obtain rfl : g = g0 := by simpa [Value.ownBlock] using hg0
      rw [h6.block g (by simp; omega) (fun e => by cases e)]
      exact Below.heap_alloc _ _ g (by omega)
  · refine ⟨h4.os.trans h.grown.os, h4.tape.trans h.grown.tape, h4.output.trans h.grown.output, by have := h4.size; simp at this; omega, fun k hk hne => ?_⟩
    have hkg : k ≠ g := fun e => hne (by rw [e])
    rw [h4.block k (by simp; omega) (fun e => by
      injection e with e
      rcases h.which with ⟨h7, _⟩ | h7 <;> omega), Below.heap_alloc _ _ k (by omega)]
    exact h.grown.block k hk hne
  · rcases h5 with ⟨rfl, rfl⟩ | ⟨h5, _⟩
    · exact h.which
    · exact .inr (by simp at h5; omega)
/-- how many places there are -/
def padLen (nc nsub : Nat) : Nat := if nc < (1 + nsub) * 2 then (1 + nsub) * 2 else nc
theorem tPad (w : World) (base R nsub g cap nc : Nat) (xs : List Value) (hR : w.cell? ⟨R, 3, none⟩ = some (.int .i64 nsub)) (hRg : R ≠ g) (hns : nsub ≤ 400) (hnc : nc ≤ 1000) (ho : w.ownsRow base 3 1 (.slice (some ⟨g, 0, none⟩) nc cap) nc xs) (hb : base ≤ w.heap.size) :
    Calls Tryz.prog 86 #[.pointer (some ⟨R, 0, none⟩), .slice (some ⟨g, 0, none⟩) nc cap] w fun e w' => ∃ g' cap', e = .returned (.slice (some ⟨g', 0, none⟩) (padLen nc nsub) cap') ∧ Padded w w' base g cap g' cap' (padLen nc nsub) (xs ++ List.replicate (padLen nc nsub - nc) (.int .i64 (-1))) := by
  have q := q124
  have hgl := (ho.lt g rfl).2
  have HO := Lib.hid ho
  obtain ⟨m, hm⟩ : ∃ m, m = 1 + nsub := ⟨_, rfl⟩
  obtain ⟨n2, hn2⟩ : ∃ n2, n2 = m * 2 := ⟨_, rfl⟩
  have hw1 : IntKind.i64.wrap (1 + (nsub : Int)) = (m : Int) := by rw [IntKind.wrap_i64]; omega
  have hw2 : IntKind.i64.wrap ((m : Int) * 2) = (n2 : Int) := by rw [IntKind.wrap_i64]; omega
  have hn2' : n2 ≤ 1000 := by omega
  have hp : padLen nc nsub = if nc < n2 then n2 else nc := by rw [hn2, hm]; rfl
  obtain ⟨pl, hpl⟩ : ∃ pl, pl = padLen nc nsub := ⟨_, rfl⟩
  rw [← hpl]
  rw [← hpl] at hp
  have HPL := Lib.hid hp
  clear hpl hm hp
  have HN := Lib.hid hns
  clear ho hn2 hns
  go_enter Tryz.func86, Tryz.ntmps86
  go_wp2
  go_loopw [1] (fun av wr => ∃ g' cap' k : Nat, av = .slice (some ⟨g', 0, none⟩) k cap' ∧ Hid (nc ≤ k ∧ (k ≤ n2 ∨ k = nc) ∧ Padded w wr base g cap g' cap' k (xs ++ List.replicate (k - nc) (.int .i64 (-1))))) (fun av _ => match av with | .slice _ k _ => 2000 - k | _ => 0)
  case atStart =>
    refine ⟨g, cap, nc, rfl, Lib.hid ⟨Nat.le_refl _, .inr rfl, ?_⟩⟩
    refine ⟨by simpa using HO.out, own_zero HO.out, ⟨rfl, rfl, rfl, Nat.le_refl _, fun _ _ _ => rfl⟩, .inl ⟨rfl, rfl⟩⟩
  case round =>
    obtain ⟨g', cap', k, rfl, HP⟩ := hrel
    obtain ⟨p1, p2, p3⟩ := HP.out
    by_cases c : k < n2
    · have c1 : (k : Int) < (n2 : Int) := by omega
      obtain ⟨g2, cap2, w', h2, h3⟩ := p3.step hb (by omega) (.int .i64 (-1)) rfl hgl
      have H3 := Lib.hid h3
      have H2 := Lib.hid h2
      have HC := Lib.hid (And.intro c (And.intro p1 p2))
      clear c p1 p2 p3 h2 h3
      go_wp2_with ((with_reducible refine wpList_append_eq (o := ⟨some 20, _, _, _, _, _⟩) ?a1 (.tmp 18) (.tmp 19) 114 ?a2 ?a3 _ _ _ _ ?a4 ?a5 H2.out ?_); (case a1 => rfl); (case a2 => rfl); (case a3 => rfl); (case a4 => rfl); (case a5 => rfl))
      go_roundw
      case measure => have := HC.out; simp; omega
      case rel =>
        refine ⟨g2, cap2, k + 1, rfl, Lib.hid ⟨by have := HC.out; omega, .inl (by have := HC.out; omega), ?_⟩⟩
        have h := H3.out
        rwa [List.append_assoc, ← List.replicate_succ', show k - nc + 1 = k + 1 - nc by have := HC.out; omega] at h
    · have c1 : ¬ (k : Int) < (n2 : Int) := by omega
      have hk : k = pl := by rw [HPL.out]; split <;> omega
      have HK := Lib.hid hk
      clear hk
      have H3 := Lib.hid p3
      clear c p1 p2 p3
      go_wp2
      go_ret
      rw [← HK.out]
      exact ⟨g', cap', rfl, H3.out⟩
end Go.Proofs.YtpbmbaffncnglaaGreatDoor.Sv
end
section
set_option linter.unusedVariables false
set_option linter.unusedSimpArgs false
/- all matches one after the other: the iterator -/
namespace Go.Proofs.YtpbmbaffncnglaaGreatDoor.Sv
open Go Go.RowKit Rx Go.Shelf
set_option maxRecDepth 100000
attribute [local go_sem] Oper.semAt_some
/-- the iterator's word: below n1 nothing turns, and what is no row of numbers lies as it lay -/
structure IT (n1 : Nat) (W W' : World) : Prop where
  below : Below n1 W W'
  same : ∀ (k : Nat) (o : Obj), W.heap[k]? = some o → (∀ cur, o ≠ .cells cur 3 (0, 0)) → W'.heap[k]? = some o
theorem IT.refl (n1 : Nat) (W : World) : IT n1 W W := ⟨Below.refl _ _, fun _ _ h _ => h⟩
theorem IT.trans {n1 : Nat} {A B C : World} (h : IT n1 A B) (k : IT n1 B C) : IT n1 A C := ⟨h.below.trans k.below, fun i o ho hn => k.same i o (h.same i o ho hn) hn⟩
/-- the round's word: below n0 nothing turns; nor do cells but a box of type tb and rows of type te laid since n1 -/
structure KR (n0 n1 tb te : Nat) (W W' : World) : Prop where
  below : Below n0 W W'
  same : ∀ (k : Nat) (cs : Array Value) (t : TypeId) (f : Nat × Nat), W.heap[k]? = some (.cells cs t f) → t ≠ tb → (t ≠ te ∨ k < n1) → W'.heap[k]? = some (.cells cs t f)
/-- the places of a match, as they are handed on -/
def placesOf (nc : Nat) (m : Nat × List (Nat × Nat)) : List Int := applyT m.2 ((List.replicate nc (-1)).set 0 (m.1 : Int))
/-- the matches from a place on; each is longer than nothing -/
def MsOk (E : Env) (N : Nat) (f : Nat → Res) : Nat → List (Nat × List (Nat × Nat)) → Prop
  | pos, [] => ∀ k, N + 2 ≤ pos + k → srch E N f k pos = none
  | pos, m :: ms => (∀ k, N + 2 ≤ pos + k → srch E N f k pos = some m) ∧ ∃ e, lastW m.2 1 = some e ∧ (lastW m.2 0 = none ∧ m.1 ≤ e) ∧ pos < e ∧ e ≤ N ∧ MsOk E N f e ms
theorem MsOk.mem {E : Env} {N : Nat} {f : Nat → Res} : ∀ {pos : Nat} {ms : List (Nat × List (Nat × Nat))}, MsOk E N f pos ms → ∀ m ∈ ms, ∃ e, lastW m.2 1 = some e ∧ lastW m.2 0 = none ∧ m.1 ≤ e ∧ e ≤ N
  | _, [], _, m, hm => by cases hm
  | _, m0 :: ms, h, m, hm => by
    obtain ⟨_, e, h1, h2, _, h4, h5⟩ := h
    rcases List.mem_cons.1 hm with rfl | hm
    · exact ⟨e, h1, h2.1, h2.2, h4⟩
    · exact MsOk.mem h5 m hm
/-- the iterator's boxes -/
structure Boxes (W : World) (R bm bs br bb bn nc : Nat) (s : ByteArray) : Prop where
  mx : W.heap[bm]? = some (.cells #[.int .i64 (-1)] 3 (0, 0))
  st : W.heap[bs]? = some (.cells #[.string s] 9 (0, 0))
  re : W.heap[br]? = some (.cells #[.pointer (some ⟨R, 0, none⟩)] 57 (0, 0))
  by_ : W.heap[bb]? = some (.cells #[.slice none 0 0] 37 (0, 0))
  nc : W.heap[bn]? = some (.cells #[.int .i64 nc] 3 (0, 0))
theorem Boxes.below {W W' : World} {R bm bs br bb bn nc n1 : Nat} {s : ByteArray} (h : Boxes W R bm bs br bb bn nc s) (hb : Below n1 W W') (h1 : bm < n1 ∧ bs < n1 ∧ br < n1 ∧ bb < n1 ∧ bn < n1) : Boxes W' R bm bs br bb bn nc s :=
  ⟨(hb.block _ h1.1).trans h.mx, (hb.block _ h1.2.1).trans h.st, (hb.block _ h1.2.2.1).trans h.re, (hb.block _ h1.2.2.2.1).trans h.by_, (hb.block _ h1.2.2.2.2).trans h.nc⟩
theorem Boxes.kept {W W' : World} {R bm bs br bb bn nc n0 n1 tb te : Nat} {s : ByteArray} (h : Boxes W R bm bs br bb bn nc s) (hk : KR n0 n1 tb te W W') (h1 : bm < n1 ∧ bs < n1 ∧ br < n1 ∧ bb < n1 ∧ bn < n1) (ht : tb ≠ 3 ∧ tb ≠ 9 ∧ tb ≠ 57 ∧ tb ≠ 37) : Boxes W' R bm bs br bb bn nc s :=
  ⟨hk.same _ _ _ _ h.mx (Ne.symm ht.1) (.inr h1.1), hk.same _ _ _ _ h.st (Ne.symm ht.2.1) (.inr h1.2.1), hk.same _ _ _ _ h.re (Ne.symm ht.2.2.1) (.inr h1.2.2.1), hk.same _ _ _ _ h.by_ (Ne.symm ht.2.2.2) (.inr h1.2.2.2.1), hk.same _ _ _ _ h.nc (Ne.symm ht.1) (.inr h1.2.2.2.2)⟩
/-- the iterator's own row between two rounds -/
def OwnM (W : World) (n1 nc : Nat) (v : Value) : Prop := v = .slice none 0 0 ∨ ∃ g cap, v = .slice (some ⟨g, 0, none⟩) nc cap ∧ W.ownsRow n1 3 1 (.slice (some ⟨g, 0, none⟩) 0 cap) 0 []
theorem it_of {n1 : Nat} {W W' : World} {row : Option Nat} (hb : Below n1 W W') (hg : W.drew.grownBy W' row) (hr : ∀ r, row = some r → ∃ cur, W.heap[r]? = some (.cells cur 3 (0, 0))) : IT n1 W W' :=
  ⟨hb, fun k o hk hn => (hg.block k (Array.getElem?_eq_some_iff.1 hk).1 (fun e => by
    obtain ⟨cur, hc⟩ := hr k e.symm
    rw [hc] at hk
    exact hn cur (Option.some.inj hk).symm)).trans hk⟩
theorem own_row {W : World} {base g n cap : Nat} {xs : List Value} (h : W.ownsRow base 3 1 (.slice (some ⟨g, 0, none⟩) n cap) n xs) : ∀ r, (Value.slice (some ⟨g, 0, none⟩) n cap).ownBlock = some r → ∃ cur, W.heap[r]? = some (.cells cur 3 (0, 0)) := fun r hr => by
  obtain rfl : g = r := by simpa [Value.ownBlock] using hr
  rcases h.2 with ⟨h, _⟩ | ⟨g', c', cur, e1, _, e2, _⟩
  · cases h
  · injection e1 with e1 _ _
    injection e1 with e1
    injection e1 with e1
    subst e1
    exact ⟨cur, e2⟩
/-- what holds at a round of the iterator -/
structure Mr (w0 wr : World) (R bm bs br bb bn nc n1 : Nat) (T : List I) (s : ByteArray) (f : Nat → Res) (ms : List (Nat × List (Nat × Nat))) (J : Nat → World → Prop) (mv : Value) (p : Nat) (pv : Int) : Prop where
  ex : ∃ k rest, (∃ pre, ms = pre ++ rest ∧ pre.length = k) ∧ MsOk (envOf T s) s.size f p rest ∧ J k wr
  below : Below w0.heap.size w0 wr
  boxes : Boxes wr R bm bs br bb bn nc s
  own : OwnM wr n1 nc mv
  size : n1 ≤ wr.heap.size
  le : p ≤ s.size
set_option maxHeartbeats 1000000 in
theorem tMatches {w0 : World} {R PB IB icap : Nat} {T : List I} {s : ByteArray} (hS : Sur w0 R PB IB icap T s) {start ncap minl nsub : Nat} (hR : RH w0 R PB 0 start ncap minl nsub) (hml : minl ≤ 1000) (x : I) (hx : T[start]? = some x) (hf : opc x ≠ 5)
    (nc : Nat) (hnc : 2 ≤ nc ∧ nc ≤ 1000) (hns : nsub ≤ 400) (f : Nat → Res) (hM : ∀ p, p ≤ s.size → ∃ n, FM (envOf T s) n start p (f p)) (ms : List (Nat × List (Nat × Nat))) (hms : MsOk (envOf T s) s.size f 0 ms) (hmin : s.size < minl → ms = [])
    (n l tb te bm bs br bb bn : Nat) (J : Nat → World → Prop) (W : World) (hJ : ∀ k A B, J k A → IT W.heap.size A B → J k B) (hb0 : Below w0.heap.size w0 W) (hB : Boxes W R bm bs br bb bn nc s) (ht : tb ≠ 3 ∧ tb ≠ 9 ∧ tb ≠ 57 ∧ tb ≠ 37) (hte : te ≠ 3)
    (hY : ∀ (pre : List (Nat × List (Nat × Nat))) m rest W1 g' cap', ms = pre ++ m :: rest → J pre.length W1 → Below w0.heap.size w0 W1 → W1.ownsRow W.heap.size 3 1 (.slice (some ⟨g', 0, none⟩) (padLen nc nsub) cap') (padLen nc nsub) (ints (placesOf nc m) ++ List.replicate (padLen nc nsub - nc) (.int .i64 (-1))) →
      YieldAt Fence.wide (n - 1) Tryz.prog l #[.slice (some ⟨g', 0, none⟩) (padLen nc nsub) cap'] W1 fun e W' => e = .returned (.bool true) ∧ J (pre.length + 1) W' ∧ KR w0.heap.size W.heap.size tb te W1 W')
    (h0 : J 0 W) :
    CallsIn Fence.wide n Tryz.prog 84 #[.func (.yield l) #[] #[], .pointer (some ⟨bm, 0, none⟩), .pointer (some ⟨bs, 0, none⟩), .pointer (some ⟨br, 0, none⟩), .pointer (some ⟨bb, 0, none⟩), .pointer (some ⟨bn, 0, none⟩)] W fun e W' => (∃ v, e = .returned v) ∧ J ms.length W' := by
  have hlen := hS.len
  have hRs : R < w0.heap.size := Lib.lt_of_cell hS.pg.r1
  have hw0 : w0.heap.size ≤ W.heap.size := hb0.size
  have hbl : bm < W.heap.size ∧ bs < W.heap.size ∧ br < W.heap.size ∧ bb < W.heap.size ∧ bn < W.heap.size := by
    exact ⟨(Array.getElem?_eq_some_iff.1 hB.mx).1, (Array.getElem?_eq_some_iff.1 hB.st).1, (Array.getElem?_eq_some_iff.1 hB.re).1, (Array.getElem?_eq_some_iff.1 hB.by_).1, (Array.getElem?_eq_some_iff.1 hB.nc).1⟩
  generalize hn1 : W.heap.size = n1 at *
  have bx : ∀ {W : World} {a : Nat} {v : Value} {t : TypeId}, W.heap[a]? = some (.cells #[v] t (0, 0)) → W.cell? ⟨a, 0, none⟩ = some v := fun h => cell_of_row _ _ 0 _ _ _ h
  have c2 := bx hB.st
  have c1 := bx hB.mx
  have q := q124
  have HS := Lib.hid (And.intro hS (And.intro hR (And.intro hml (And.intro hx hf))))
  have HN := Lib.hid (And.intro hnc hns)
  have HM := Lib.hid hM
  have HMS := Lib.hid (And.intro hms hmin)
  have HJ := Lib.hid (And.intro hJ (And.intro hY h0))
  have HB := Lib.hid (And.intro hb0 (And.intro hB ht))
  clear hS hR hml hx hf hnc hns hM hms hmin hJ hY h0 hb0 hB ht
  refine callsIn_wide.2 ?_
  go_enter Tryz.func84, Tryz.ntmps84
  go_wp2
  go_loopw [8, 9, 10] (fun mv pv qv wr => ∃ (p : Nat) (z : Int), pv = .int .i64 p ∧ qv = .int .i64 z ∧ Hid (Mr w0 wr R bm bs br bb bn nc n1 T s f ms J mv p z)) (fun _ pv _ _ => 2000000 - (intOf pv).toNat)
  case atStart => exact ⟨0, -1, rfl, rfl, Lib.hid ⟨⟨0, ms, ⟨[], rfl, rfl⟩, HMS.out.1, HJ.out.2.2⟩, HB.out.1, HB.out.2.1, .inl rfl, by omega, Nat.zero_le _⟩⟩
  case round =>
    obtain ⟨p, z, rfl, rfl, HR⟩ := hrel
    have hple := HR.out.le
    have k1 : (p : Int) ≤ (s.size : Int) := by omega
    have hbx := HR.out.boxes
    have d3 := bx hbx.re
    have d4 := bx hbx.by_
    have d2 := bx hbx.st
    have d5 := bx hbx.nc
    have d1 := bx hbx.mx
    have hbw : Below w0.heap.size w0 wr.drew := HR.out.below.drew
    obtain ⟨k, rest, ⟨pre, hpre, hk⟩, hok, hJk⟩ := HR.out.ex
    have HBW := Lib.hid hbw
    have HRest := Lib.hid (And.intro hpre (And.intro hk (And.intro hok hJk)))
    have hsz := HR.out.size
    have hfind : ∀ (r : Option (Nat × List (Nat × Nat))), (∀ k, s.size + 2 ≤ p + k → srch (envOf T s) s.size f k p = r) → (s.size < minl → r = none) → ∀ dst, (dst = .slice none 0 0 ∨ DstOk wr.drew n1 nc dst) →
        Calls Tryz.prog 61 #[.pointer (some ⟨R, 0, none⟩), .nilIface, .slice none 0 0, .string s, .int .i64 p, .int .i64 nc, dst] wr.drew fun e w' => ∃ v, e = .returned v ∧ Got2 w' n1 nc v r ∧ Below n1 wr.drew w' ∧ wr.drew.grownBy w' dst.ownBlock := fun r hr hm dst hd =>
      tFind (HS.out.2.1.keep HBW.out) n1 nc p hlen HS.out.2.2.1 hsz r hm (fun X dst hX hd => (tBackU ((HS.out.1.keep HBW.out).keep hX) ((HS.out.2.1.keep HBW.out).keep hX) x HS.out.2.2.2.1 HS.out.2.2.2.2 n1 nc HN.out.1 dst hd (Nat.le_trans hsz hX.size) f HM.out p hple (s.size + 2) (by omega) r (hr _ (by omega)).symm).mono fun e w' h => h) dst hd
    have HF := Lib.hid hfind
    clear hbx hbw hpre hk hok hJk hfind
    cases rest with
    | nil =>
      have hF := HF.out none HRest.out.2.2.1 (fun _ => rfl)
      rcases HR.out.own with rfl | ⟨g, cap, rfl, hown⟩
      · have HG := Lib.hid (hF (.slice none 0 0) (.inl rfl))
        clear hF
        go_wp2
        go_region_held3 (fun w' => w'.cell? ⟨br, 0, none⟩ = some (.pointer (some ⟨R, 0, none⟩)) ∧ w'.cell? ⟨bb, 0, none⟩ = some (.slice none 0 0) ∧ w'.cell? ⟨bs, 0, none⟩ = some (.string s) ∧ w'.cell? ⟨bn, 0, none⟩ = some (.int .i64 nc)) (first | exact ⟨by assumption, by assumption, by assumption, by assumption⟩ | exact HS4.out) (first | (go_at_call 61; refine HG.out.mono ?_; rintro e w2 ⟨v2, rfl, hg, hb2, hgr2⟩; have hg : v2 = .slice none 0 0 := hg; subst hg; have HGB := Lib.hid (And.intro hb2 hgr2); have hbx2 := HR.out.boxes.below ((Below.refl n1 wr).drew.trans hb2) hbl; have HS4 := Lib.hid (And.intro (bx hbx2.re) (And.intro (bx hbx2.by_) (And.intro (bx hbx2.st) (bx hbx2.nc)))); clear hb2 hgr2 hbx2))
        all_goals go_wp2
        all_goals go_end0
        all_goals exact ⟨⟨_, rfl⟩, by rw [HRest.out.1, List.length_append, List.length_nil, Nat.add_zero, HRest.out.2.1]; exact HJ.out.1 k wr w2 HRest.out.2.2.2 (it_of ((Below.refl n1 wr).drew.trans HGB.out.1) HGB.out.2 (fun r h => by cases h))⟩
      · have HO := Lib.hid hown
        have HG := Lib.hid (hF (.slice (some ⟨g, 0, none⟩) 0 cap) (.inr ⟨g, cap, rfl, .inr (.inr hown)⟩))
        clear hF hown
        go_wp2
        go_region_held3 (fun w' => w'.cell? ⟨br, 0, none⟩ = some (.pointer (some ⟨R, 0, none⟩)) ∧ w'.cell? ⟨bb, 0, none⟩ = some (.slice none 0 0) ∧ w'.cell? ⟨bs, 0, none⟩ = some (.string s) ∧ w'.cell? ⟨bn, 0, none⟩ = some (.int .i64 nc)) (first | exact ⟨by assumption, by assumption, by assumption, by assumption⟩ | exact HS4.out) (first | (go_at_call 61; refine HG.out.mono ?_; rintro e w2 ⟨v2, rfl, hg, hb2, hgr2⟩; have hg : v2 = .slice none 0 0 := hg; subst hg; have HGB := Lib.hid (And.intro hb2 hgr2); have hbx2 := HR.out.boxes.below ((Below.refl n1 wr).drew.trans hb2) hbl; have HS4 := Lib.hid (And.intro (bx hbx2.re) (And.intro (bx hbx2.by_) (And.intro (bx hbx2.st) (bx hbx2.nc)))); clear hb2 hgr2 hbx2))
        all_goals go_wp2
        all_goals go_end0
        all_goals exact ⟨⟨_, rfl⟩, by rw [HRest.out.1, List.length_append, List.length_nil, Nat.add_zero, HRest.out.2.1]; exact HJ.out.1 k wr w2 HRest.out.2.2.2 (it_of ((Below.refl n1 wr).drew.trans HGB.out.1) HGB.out.2 (own_row HO.out))⟩
    | cons m rest =>
      obtain ⟨hsr, e, he1, _, hpe, hes, hrest⟩ := HRest.out.2.2.1
      have hF := HF.out (some m) hsr (fun h => by have h1 := HMS.out.2 h; have h2 := HRest.out.1; rw [h1] at h2; simp at h2)
      have hcont : ∀ w2 g2 cap2, w2.ownsRow n1 3 1 (.slice (some ⟨g2, 0, none⟩) nc cap2) nc (ints (placesOf nc m)) → Below n1 wr w2 → IT n1 wr w2 →
          w2.cell? ⟨g2, 1, none⟩ = some (.int .i64 e) ∧
          Calls Tryz.prog 86 #[.pointer (some ⟨R, 0, none⟩), .slice (some ⟨g2, 0, none⟩) nc cap2] w2 (fun e w' => ∃ g' cap', e = .returned (.slice (some ⟨g', 0, none⟩) (padLen nc nsub) cap') ∧ Padded w2 w' n1 g2 cap2 g' cap' (padLen nc nsub) (ints (placesOf nc m) ++ List.replicate (padLen nc nsub - nc) (.int .i64 (-1)))) ∧
          (∀ w3 g3 cap3, Padded w2 w3 n1 g2 cap2 g3 cap3 (padLen nc nsub) (ints (placesOf nc m) ++ List.replicate (padLen nc nsub - nc) (.int .i64 (-1))) →
            YieldAt Fence.wide (n - 1) Tryz.prog l #[.slice (some ⟨g3, 0, none⟩) (padLen nc nsub) cap3] w3 fun e W' => e = .returned (.bool true) ∧ J (k + 1) W' ∧ KR w0.heap.size n1 tb te w3 W') ∧
          (∀ w3 w4 g3 cap3 z', Padded w2 w3 n1 g2 cap2 g3 cap3 (padLen nc nsub) (ints (placesOf nc m) ++ List.replicate (padLen nc nsub - nc) (.int .i64 (-1))) → J (k + 1) w4 → KR w0.heap.size n1 tb te w3 w4 → Mr w0 w4 R bm bs br bb bn nc n1 T s f ms J (.slice (some ⟨g2, 0, none⟩) nc cap2) e z') := by
        intro w2 g2 cap2 ho hb hit
        obtain ⟨hg1, hg2⟩ := ho.lt g2 rfl
        have hbw2 : Below w0.heap.size w0 w2 := HR.out.below.trans (hb.mono hw0)
        have hsz2 : n1 ≤ w2.heap.size := Nat.le_trans hsz hb.size
        have hpad := tPad w2 n1 R nsub g2 cap2 nc (ints (placesOf nc m)) (HS.out.2.1.keep hbw2).nsub (by omega) HN.out.2 HN.out.1.2 ho hsz2
        have h3 : ∀ w3 g3 cap3, Padded w2 w3 n1 g2 cap2 g3 cap3 (padLen nc nsub) (ints (placesOf nc m) ++ List.replicate (padLen nc nsub - nc) (.int .i64 (-1))) → Below n1 wr w3 ∧ IT n1 wr w3 := fun w3 g3 cap3 hpd => by
          have hb3 : Below n1 w2 w3 := (Below.refl n1 w2).grown hpd.grown hsz2 (fun k h => by have e : g2 = k := Option.some.inj h; omega)
          have hgd : w2.drew.grownBy w3 (some g2) := ⟨hpd.grown.os, hpd.grown.tape, hpd.grown.output, hpd.grown.size, hpd.grown.block⟩
          exact ⟨hb.trans hb3, hit.trans (it_of hb3 hgd (fun r h => own_row ho r (by rw [← h]; rfl)))⟩
        refine ⟨?_, hpad, fun w3 g3 cap3 hpd => ?_, fun w3 w4 g3 cap3 z' hpd hJ4 hk4 => ?_⟩
        · rw [ho.cellAt 1 (by have := HN.out.1; omega)]
          have h1 := applyT_get m.2 ((List.replicate nc (-1)).set 0 (m.1 : Int)) 1 (by simp; have := HN.out.1; omega)
          rw [he1] at h1
          simp only [ints, List.getElem?_map, placesOf]
          rw [h1]; rfl
        · obtain ⟨hb3, hit3⟩ := h3 w3 g3 cap3 hpd
          have := HJ.out.2.1 pre m rest w3 g3 cap3 HRest.out.1 (by rw [HRest.out.2.1]; exact HJ.out.1 k wr w3 HRest.out.2.2.2 hit3) (HR.out.below.trans (hb3.mono hw0)) hpd.own
          rwa [HRest.out.2.1] at this
        · obtain ⟨hb3, hit3⟩ := h3 w3 g3 cap3 hpd
          refine ⟨⟨k + 1, rest, ⟨pre ++ [m], by rw [HRest.out.1]; simp, by rw [List.length_append, HRest.out.2.1]; rfl⟩, hrest, hJ4⟩, (HR.out.below.trans (hb3.mono hw0)).trans hk4.below, (HR.out.boxes.below hb3 hbl).kept hk4 hbl HB.out.2.2, .inr ⟨g2, cap2, rfl, ?_⟩, ?_, hes⟩
          · exact own_of hpd.old fun g' cur hg' hcur => by rw [hk4.same g' cur 3 (0, 0) hcur (Ne.symm HB.out.2.2.1) (.inl (Ne.symm hte)), hcur]
          · exact Nat.le_trans hsz (Nat.le_trans hb3.size hk4.below.size)
      have HC := Lib.hid hcont
      have hpe' : ¬ (e : Int) = (p : Int) := by omega
      have kn1 : (1 : Int) < (nc : Int) := by have := HN.out.1; omega
      have kn0 : ¬ (nc : Int) = 0 := by omega
      have HE := Lib.hid (And.intro hpe hes)
      clear hcont hsr he1 hpe hes hrest
      rcases HR.out.own with rfl | ⟨g, cap, rfl, hown⟩
      · have HG := Lib.hid (hF (.slice none 0 0) (.inl rfl))
        clear hF
        go_wp2
        go_region_held3 (fun w' => w'.cell? ⟨br, 0, none⟩ = some (.pointer (some ⟨R, 0, none⟩)) ∧ w'.cell? ⟨bb, 0, none⟩ = some (.slice none 0 0) ∧ w'.cell? ⟨bs, 0, none⟩ = some (.string s) ∧ w'.cell? ⟨bn, 0, none⟩ = some (.int .i64 nc)) (first | exact ⟨by assumption, by assumption, by assumption, by assumption⟩ | exact HS4.out) (first | (go_at_call 61; refine HG.out.mono ?_; rintro e w2 ⟨v2, rfl, ⟨g2, cap2, hv, ho⟩, hb2, hgr2⟩; subst hv; have ho := ho (by have := HN.out.1; omega); obtain ⟨hm1, hL, hYY, hRR⟩ := HC.out w2 g2 cap2 ho ((Below.refl n1 wr).drew.trans hb2) (it_of ((Below.refl n1 wr).drew.trans hb2) hgr2 (fun r h => by cases h)); have HP := Lib.hid hL; have HYY := Lib.hid hYY; have HRR := Lib.hid hRR; have hbx2 := HR.out.boxes.below ((Below.refl n1 wr).drew.trans hb2) hbl; have HS4 := Lib.hid (And.intro (bx hbx2.re) (And.intro (bx hbx2.by_) (And.intro (bx hbx2.st) (bx hbx2.nc)))); have e3 := bx hbx2.re; have e1 := bx hbx2.mx; clear hL hYY hRR ho hb2 hgr2 hbx2))
        go_upto_region 20 with fail
        refine (wpIn_wide (n := n)).1 ?_
        gi_wp2_with (refine ⟨trivial, fun h => (by cases h), ?_⟩; gi_at_call 86; refine (callsIn_wide.2 HP.out).mono ?_; rintro e' w3 ⟨g3, cap3, rfl, hpd⟩; have HPD := Lib.hid hpd; obtain ⟨fn, tmps, assign, body, hy, hR⟩ := HYY.out w3 g3 cap3 hpd)
        refine ⟨fun h => (by cases h), ?_⟩
        refine hR.mono ?_
        rintro e' w4 ⟨rfl, hJ4, hk4⟩
        have HMr := Lib.hid (HRR.out w3 w4 g3 cap3 (e : Int) HPD.out hJ4 hk4)
        have e1' := bx HMr.out.boxes.mx
        clear hy hR hJ4 hk4
        gi_wp2
        go_wp2
        go_roundw
        case measure => simp [intOf]; have := HE.out; omega
        case rel => exact ⟨e, (e : Int), rfl, rfl, HMr⟩
      · have HO := Lib.hid hown
        have HG := Lib.hid (hF (.slice (some ⟨g, 0, none⟩) 0 cap) (.inr ⟨g, cap, rfl, .inr (.inr hown)⟩))
        clear hF hown
        go_wp2
        go_region_held3 (fun w' => w'.cell? ⟨br, 0, none⟩ = some (.pointer (some ⟨R, 0, none⟩)) ∧ w'.cell? ⟨bb, 0, none⟩ = some (.slice none 0 0) ∧ w'.cell? ⟨bs, 0, none⟩ = some (.string s) ∧ w'.cell? ⟨bn, 0, none⟩ = some (.int .i64 nc)) (first | exact ⟨by assumption, by assumption, by assumption, by assumption⟩ | exact HS4.out) (first | (go_at_call 61; refine HG.out.mono ?_; rintro e w2 ⟨v2, rfl, ⟨g2, cap2, hv, ho⟩, hb2, hgr2⟩; subst hv; have ho := ho (by have := HN.out.1; omega); obtain ⟨hm1, hL, hYY, hRR⟩ := HC.out w2 g2 cap2 ho ((Below.refl n1 wr).drew.trans hb2) (it_of ((Below.refl n1 wr).drew.trans hb2) hgr2 (own_row HO.out)); have HP := Lib.hid hL; have HYY := Lib.hid hYY; have HRR := Lib.hid hRR; have hbx2 := HR.out.boxes.below ((Below.refl n1 wr).drew.trans hb2) hbl; have HS4 := Lib.hid (And.intro (bx hbx2.re) (And.intro (bx hbx2.by_) (And.intro (bx hbx2.st) (bx hbx2.nc)))); have e3 := bx hbx2.re; have e1 := bx hbx2.mx; clear hL hYY hRR ho hb2 hgr2 hbx2))
        go_upto_region 20 with fail
        refine (wpIn_wide (n := n)).1 ?_
        gi_wp2_with (refine ⟨trivial, fun h => (by cases h), ?_⟩; gi_at_call 86; refine (callsIn_wide.2 HP.out).mono ?_; rintro e' w3 ⟨g3, cap3, rfl, hpd⟩; have HPD := Lib.hid hpd; obtain ⟨fn, tmps, assign, body, hy, hR⟩ := HYY.out w3 g3 cap3 hpd)
        refine ⟨fun h => (by cases h), ?_⟩
        refine hR.mono ?_
        rintro e' w4 ⟨rfl, hJ4, hk4⟩
        have HMr := Lib.hid (HRR.out w3 w4 g3 cap3 (e : Int) HPD.out hJ4 hk4)
        have e1' := bx HMr.out.boxes.mx
        clear hy hR hJ4 hk4
        gi_wp2
        go_wp2
        go_roundw
        case measure => simp [intOf]; have := HE.out; omega
        case rel => exact ⟨e, (e : Int), rfl, rfl, HMr⟩
end Go.Proofs.YtpbmbaffncnglaaGreatDoor.Sv
end
