/- a part of the proof: FnSemverBroken: for every list of lists of terms, every style and every byte the law's function returns true and leaves its arguments as they were. No condition is added: the statement is the given one, the tied card. -/
import Derived.Test.YthejepmnnpmdmaaGreatDoorND
import Derived.Lib.SliceRun
import Derived.WalkSpells
import Derived.RangeFuncNested
import Derived.RangeFuncBound
import Derived.RangeFuncCalls
import Derived.RangeFuncLeaves
import Derived.Shelf.Abstract
import Derived.Shelf.RegionOpen
import Derived.WalkKit
import Derived.OwnWalkIn
import Derived.TacticsInMore
import Derived.LoopNIn
import Derived.LoopIn
import Derived.Maps.AppendAt
import Derived.OrdersIn
section
set_option linter.unusedVariables false
set_option linter.unusedSimpArgs false
/- find, a match with its groups -/
namespace Go.Proofs.YthejepmnnpmdmaaGreatDoor.Sv
open Go Go.RowKit Rx
set_option maxRecDepth 100000
/-- what find gives -/
def Got2 (w' : World) (base nc : Nat) (v : Value) (r : Option (Nat × List (Nat × Nat))) : Prop := match r with
  | none => v = .slice none 0 0
  | some (p, t) => ∃ g cap, v = .slice (some ⟨g, 0, none⟩) nc cap ∧ (0 < nc → w'.ownsRow base 3 1 v nc (ints (applyT t ((List.replicate nc (-1)).set 0 (p : Int)))))
theorem Got.two {w' : World} {base nc : Nat} {dst v : Value} {r : Option (Nat × List (Nat × Nat))} (h : Got w' base nc dst v r) (hd : ∃ g cap, dst = .slice (some ⟨g, 0, none⟩) 0 cap) : Got2 w' base nc v r := by
  cases r with
  | none => exact h
  | some x =>
    obtain ⟨p, t⟩ := x
    obtain ⟨h1, h2⟩ := h
    rcases Nat.eq_zero_or_pos nc with hz | hp
    · obtain ⟨g, cap, rfl⟩ := hd
      subst hz
      exact ⟨g, cap, h1 rfl, fun h => absurd h (Nat.lt_irrefl _)⟩
    · obtain ⟨g, cap, h3, h4⟩ := h2 hp
      exact ⟨g, cap, h3, fun _ => h4⟩
theorem q124 (w : World) (a : Option Addr) (n c : Nat) : (binOp .eql 119 (.slice a n c) (.slice none 0 0)).run Tryz.prog w = .ok (.bool a.isNone) w := Lib.run_eql_slice_nil w 119 3 a n c 0 0 Tryz.underlying119
theorem n124 (w : World) (a : Option Addr) (n c : Nat) : (binOp .neq 119 (.slice a n c) (.slice none 0 0)).run Tryz.prog w = .ok (.bool (!a.isNone)) w := run_neq_slice_nil_any w 119 3 a n c 0 0 Tryz.underlying119
theorem tFind {w : World} {R PB : Nat} {s : ByteArray} {cond : Int} {start ncap minl nsub : Nat} (hR : RH w R PB cond start ncap minl nsub) (base nc pos : Nat) (hs : s.size ≤ 1000000) (hml : minl ≤ 1000) (h0 : base ≤ w.heap.size) (r : Option (Nat × List (Nat × Nat))) (hmin : s.size < minl → r = none)
    (H : ∀ (W : World) (dst : Value), Below w.heap.size w W → DstOk W base nc dst → Calls Tryz.prog 70 #[.pointer (some ⟨R, 0, none⟩), .slice none 0 0, .string s, .int .i64 pos, .int .i64 nc, dst] W fun e w' => ∃ v, e = .returned v ∧ Got w' base nc dst v r ∧ Below base W w' ∧ W.grownBy w' dst.ownBlock)
    (dst : Value) (hd : dst = .slice none 0 0 ∨ DstOk w base nc dst) :
    Calls Tryz.prog 56 #[.pointer (some ⟨R, 0, none⟩), .nilIface, .slice none 0 0, .string s, .int .i64 pos, .int .i64 nc, dst] w fun e w' => ∃ v, e = .returned v ∧ Got2 w' base nc v r ∧ Below base w w' ∧ w.grownBy w' dst.ownBlock := by
  have r14 := hR.minl
  have H := Lib.hid H
  have hRs : R < w.heap.size := Lib.lt_of_cell r14
  have HM := Lib.hid hmin
  clear hmin
  have q := q124
  rcases hd with rfl | hd
  · by_cases c : s.size < minl
    · have c1 : (s.size : Int) < (minl : Int) := by omega
      have hr := HM.out c
      have HR := Lib.hid hr
      clear c hr
      go_enter Tryz.func56, Tryz.ntmps56
      go_wp2
      go_ret
      exact ⟨_, rfl, by rw [HR.out]; rfl, (Below.refl _ w).alloc h0 _, grown_below ((Below.refl _ w).alloc (Nat.le_refl _) _) _⟩
    · have c1 : ¬ (s.size : Int) < (minl : Int) := by omega
      clear c
      go_enter Tryz.func56, Tryz.ntmps56
      go_wp2_with (go_at_call 70; refine (H.out _ _ ((Below.refl _ w).alloc (Nat.le_refl _) _) ⟨_, 0, rfl, (by omega)⟩).mono ?_; rintro e w2 ⟨v2, rfl, hg, hb2, hgr2⟩; have HG := Lib.hid hg; have HB := Lib.hid hb2; have HGR := Lib.hid hgr2; clear hg hb2 hgr2)
      go_ret
      exact ⟨_, rfl, HG.out.two ⟨_, _, rfl⟩, ((Below.refl _ w).alloc h0 _).trans HB.out, HGR.out.os, HGR.out.tape, HGR.out.output, by have := HGR.out.size; simp at this; omega, fun k hk _ => (HGR.out.block k (by simp; omega) (show some k ≠ some w.heap.size from fun e => absurd (Option.some.inj e) (by omega))).trans (Below.heap_alloc _ _ k hk)⟩
  · obtain ⟨g, cap, rfl, hd'⟩ := hd
    have HD := Lib.hid hd'
    clear hd'
    by_cases c : s.size < minl
    · have c1 : (s.size : Int) < (minl : Int) := by omega
      have hr := HM.out c
      have HR := Lib.hid hr
      clear c hr
      go_enter Tryz.func56, Tryz.ntmps56
      go_wp2
      go_ret
      exact ⟨_, rfl, by rw [HR.out]; rfl, Below.refl _ w, grown_below (Below.refl _ w) _⟩
    · have c1 : ¬ (s.size : Int) < (minl : Int) := by omega
      clear c
      go_enter Tryz.func56, Tryz.ntmps56
      go_wp2_with (go_at_call 70; refine (H.out _ _ (Below.refl _ w) ⟨g, cap, rfl, HD.out⟩).mono ?_; rintro e w2 ⟨v2, rfl, hg, hb2, hgr2⟩; have HG := Lib.hid hg; have HB := Lib.hid hb2; have HGR := Lib.hid hgr2; clear hg hb2 hgr2)
      go_ret
      exact ⟨_, rfl, HG.out.two ⟨_, _, rfl⟩, HB.out, HGR.out⟩
/-- is there a match: an anchored program -/
theorem tMatchString {w : World} {R PB IB icap : Nat} {T : List I} {s : ByteArray} (hS : Sur w R PB IB icap T s) {start ncap minl nsub : Nat} (hR : RH w R PB 4 start ncap minl nsub) (hml : minl ≤ 1000) (x : I) (hx : T[start]? = some x) (hf : opc x ≠ 5)
    {n : Nat} {r : Res} (hM : FM (envOf T s) n start 0 r) (hmin : s.size < minl → r = none) :
    Calls Tryz.prog 27 #[.pointer (some ⟨R, 0, none⟩), .string s] w fun e w' => e = .returned (.bool r.isSome) ∧ Below w.heap.size w w' := by
  have HF := Lib.hid (tFind hR w.heap.size 0 0 hS.len hml (Nat.le_refl _) (r.map (0, ·)) (fun h => by rw [hmin h]; rfl) (fun W dst hb hd => (tBackA (hS.keep hb) (hR.keep hb) x hx hf w.heap.size 0 (.inl rfl) dst hd hb.size hM).mono fun e w' h => h) (.slice none 0 0) (.inl rfl))
  have q := n124
  clear hS hR hx hf hM hmin
  cases r with
  | none =>
    go_enter Tryz.func27, Tryz.ntmps27
    go_wp2_with (first
      | (go_at_call 56; refine HF.out.mono ?_; rintro e w2 ⟨v2, rfl, hg, hb2, _⟩; have HB := Lib.hid hb2; have hg : v2 = .slice none 0 0 := hg; subst hg; clear hb2)
      | go_in)
    go_ret
    exact ⟨rfl, HB.out⟩
  | some t =>
    go_enter Tryz.func27, Tryz.ntmps27
    go_wp2_with (first
      | (go_at_call 56; refine HF.out.mono ?_; rintro e w2 ⟨v2, rfl, ⟨g, cap, hv, _⟩, hb2, _⟩; have HB := Lib.hid hb2; subst hv; clear hb2)
      | go_in)
    go_ret
    exact ⟨rfl, HB.out⟩
end Go.Proofs.YthejepmnnpmdmaaGreatDoor.Sv
end
section
set_option linter.unusedVariables false
set_option linter.unusedSimpArgs false
/- a match's pieces of the text: FindStringSubmatch -/
namespace Go.Proofs.YthejepmnnpmdmaaGreatDoor.Sv
open Go Go.RowKit Rx
set_option maxRecDepth 100000
/-- the i-th piece of the text by the places C -/
def pieceI (s : ByteArray) (C : List Int) (i : Nat) : ByteArray := if 2 * i < C.length ∧ 0 ≤ C.getD (2 * i) 0 then s.extract (C.getD (2 * i) 0).toNat (C.getD (2 * i + 1) 0).toNat else ⟨#[]⟩
def strs (L : List ByteArray) : Array Value := (L.map Value.string).toArray
theorem info9 : (Tryz.prog.info? 9).map (fun i => (i.zero, i.size, i.bytes)) = some (some (.string ⟨#[]⟩), 1, 16) := by kernel_rfl
theorem mkS (n : Nat) (hn : n ≤ 1000) (w : World) : (Instr.makeSlice 29 (.int .i64 n) (.int .i64 n)).run Tryz.prog w = .ok (.slice (some ⟨w.heap.size, 0, none⟩) n n) (w.alloc (.cells (strs (List.replicate n ⟨#[]⟩)) 9)) := by
  rw [run_make_row' 29 9 (.string ⟨#[]⟩) 16 Tryz.underlying29 info9 rfl .i64 .i64 n (by omega) (by omega) w]
  congr 3
  apply Array.ext'
  rw [toList_madeCells_one]
  simp [strs]
/-- the row of the pieces: the first i of them stand -/
structure FillS (wA wr : World) (x i n : Nat) (f : Nat → ByteArray) : Prop where
  grown : wA.grownBy wr (some x)
  row : wr.heap[x]? = some (.cells (strs ((List.range i).map f ++ List.replicate (n - i) ⟨#[]⟩)) 9 (0, 0))
theorem strs_set (f : Nat → ByteArray) (i n : Nat) (h : i < n) : (strs ((List.range i).map f ++ List.replicate (n - i) ⟨#[]⟩)).setIfInBounds i (.string (f i)) = strs ((List.range (i + 1)).map f ++ List.replicate (n - (i + 1)) ⟨#[]⟩) := by
  unfold strs
  rw [List.setIfInBounds_toArray]
  congr 1
  apply List.ext_getElem?
  intro j
  rw [List.getElem?_set]
  by_cases e : i = j
  · subst e
    rw [if_pos rfl, if_pos (by simp; omega), List.getElem?_map, List.getElem?_append_left (by simp)]
    simp
  · rw [if_neg e]
    simp only [List.getElem?_map]
    congr 1
    by_cases c : j < i
    · rw [List.getElem?_append_left (by simpa using c), List.getElem?_append_left (by simp; omega)]
      simp [c, Nat.lt_succ_of_lt c]
    · rw [List.getElem?_append_right (by simp; omega), List.getElem?_append_right (by simp; omega)]
      simp only [List.length_map, List.length_range, List.getElem?_replicate]
      by_cases d : j < n
      · rw [if_pos (by omega), if_pos (by omega)]
      · rw [if_neg (by omega), if_neg (by omega)]
theorem strs_skip (f : Nat → ByteArray) (i n : Nat) (h : i < n) (hf : f i = ⟨#[]⟩) : strs ((List.range i).map f ++ List.replicate (n - i) ⟨#[]⟩) = strs ((List.range (i + 1)).map f ++ List.replicate (n - (i + 1)) ⟨#[]⟩) := by
  rw [← strs_set f i n h, hf]
  unfold strs
  rw [List.setIfInBounds_toArray]
  congr 1
  apply List.ext_getElem?
  intro j
  rw [List.getElem?_set]
  by_cases e : i = j
  · subst e
    rw [if_pos rfl, if_pos (by simp; omega), List.getElem?_map, List.getElem?_append_right (by simp), List.getElem?_replicate, if_pos (by simp; omega)]
    rfl
  · rw [if_neg e]
theorem FillS.step {wA wr : World} {x i n : Nat} {f : Nat → ByteArray} (h : FillS wA wr x i n f) (hi : i < n) : FillS wA (wr.setCell ⟨x, i, none⟩ (.string (f i))) x (i + 1) n f := by
  refine ⟨⟨h.grown.os, h.grown.tape, h.grown.output, by simpa using h.grown.size, fun k hk hne => ?_⟩, ?_⟩
  · rw [heap_setCell_other _ _ _ _ (fun e => hne (by rw [e]))]
    exact h.grown.block k hk hne
  · rw [heap_setCell_same wr x i _ 9 _ h.row, strs_set f i n hi]
theorem FillS.skip {wA wr : World} {x i n : Nat} {f : Nat → ByteArray} (h : FillS wA wr x i n f) (hi : i < n) (hf : f i = ⟨#[]⟩) : FillS wA wr x (i + 1) n f := ⟨h.grown, by rw [← strs_skip f i n hi hf]; exact h.row⟩
theorem FillS.drew {wA wr : World} {x i n : Nat} {f : Nat → ByteArray} (h : FillS wA wr x i n f) : FillS wA wr.drew x i n f := ⟨⟨h.grown.os, h.grown.tape, h.grown.output, h.grown.size, fun k hk hne => h.grown.block k hk hne⟩, h.row⟩
theorem FillS.cell {wA wr : World} {x i n : Nat} {f : Nat → ByteArray} (h : FillS wA wr x i n f) (hi : i < n) : (∃ u, wr.cell? ⟨x, i, none⟩ = some u) ∧ wr.frozen? ⟨x, i, none⟩ = false := by
  refine ⟨⟨(strs ((List.range i).map f ++ List.replicate (n - i) ⟨#[]⟩))[i]'(by simp [strs]; omega), by rw [cell_of_row _ _ _ _ _ _ h.row]; exact Array.getElem?_eq_getElem _⟩, frozen_of_row _ _ _ _ _ h.row⟩
theorem FillS.keep {wA wr : World} {x i n B : Nat} {f : Nat → ByteArray} (h : FillS wA wr x i n f) (hne : B ≠ x) {o : Nat} {v : Value} (hc : wA.cell? ⟨B, o, none⟩ = some v) : wr.cell? ⟨B, o, none⟩ = some v :=
  h.grown.cell hc (fun e => hne (by injection e))
/-- what comes back: the pieces -/
def SubRes (base k : Nat) (f : Nat → ByteArray) (e : Ending) (w' : World) : Res → Prop
  | none => e = .returned (.slice none 0 0)
  | some _ => ∃ x, e = .returned (.slice (some ⟨x, 0, none⟩) k k) ∧ base ≤ x ∧ w'.heap[x]? = some (.cells (strs ((List.range k).map f)) 9 (0, 0))
set_option maxHeartbeats 400000 in
theorem tFindSub {w : World} {R PB IB icap : Nat} {T : List I} {s : ByteArray} (hS : Sur w R PB IB icap T s) {start ncap minl nsub : Nat} (hR : RH w R PB 4 start ncap minl nsub) (hml : minl ≤ 1000) (x : I) (hx : T[start]? = some x) (hf : opc x ≠ 5)
    (hnc : 4 < ncap ∧ ncap ≤ 1000) (hns : nsub < 1000) {n : Nat} {r : Res} (hM : FM (envOf T s) n start 0 r) (hmin : s.size < minl → r = none)
    (C : List Int) (hC : ∀ t, r = some t → C = applyT t ((List.replicate ncap (-1)).set 0 0)) (hlC : C.length = ncap) (hsl : ∀ i, 2 * i + 1 < ncap → 0 ≤ C.getD (2 * i) 0 → C.getD (2 * i) 0 ≤ C.getD (2 * i + 1) 0 ∧ C.getD (2 * i + 1) 0 ≤ s.size) (hev : ncap % 2 = 0) :
    Calls Tryz.prog 45 #[.pointer (some ⟨R, 0, none⟩), .string s] w fun e w' => Below w.heap.size w w' ∧ SubRes w.heap.size (nsub + 1) (pieceI s C) e w' r := by
  have r1 := hS.pg.r1
  have p2 := hR.ncap
  have r3 := hR.nsub
  have hRs : R < w.heap.size := Lib.lt_of_cell r1
  have hPs : PB < w.heap.size := Lib.lt_of_cell p2
  have hlen := hS.len
  have HF := Lib.hid (fun (W : World) (hb : Below w.heap.size w W) (dst : Value) (hd : DstOk W w.heap.size ncap dst) => tFind (hR.keep hb) w.heap.size ncap 0 hS.len hml hb.size (r.map (0, ·)) (fun h => by rw [hmin h]; rfl) (fun W2 dst hb2 hd => (tBackA ((hS.keep hb).keep hb2) ((hR.keep hb).keep hb2) x hx hf w.heap.size ncap (.inr (by omega)) dst hd (by have := hb.size; have := hb2.size; omega) hM).mono fun e w' h => h) dst (.inr hd))
  have q := q124
  obtain ⟨k, hk⟩ : ∃ k, k = nsub + 1 := ⟨_, rfl⟩
  have mS := mkS k (by omega)
  have hw1 : IntKind.i64.wrap (1 + (nsub : Int)) = (k : Int) := by rw [IntKind.wrap_i64]; omega
  have hk1 : (k : Int) ≤ 1000 := by omega
  rw [← hk]
  have HK := Lib.hid (And.intro hk hns)
  have HC := Lib.hid (And.intro hC (And.intro hlC (And.intro hsl hev)))
  have HN := Lib.hid hnc
  clear hS hR hx hf hM hmin hC hlC hsl hnc hev hk hns
  cases r with
  | none =>
    go_enter Tryz.func45, Tryz.ntmps45
    go_wp2
    go_region_with (go_at_call 56; refine (HF.out _ (((Below.refl _ w).alloc (Nat.le_refl _) _).drew) _ ⟨w.heap.size, 4, rfl, .inr (.inl HN.out.1)⟩).mono ?_; rintro e w2 ⟨v2, rfl, hg, hb2, _⟩; have hg : v2 = .slice none 0 0 := hg; subst hg; have HB := Lib.hid ((((Below.refl _ w).alloc (Nat.le_refl _) _).drew).trans hb2); clear hb2)
    go_wp2
    go_ret
    exact ⟨HB.out, rfl⟩
  | some t =>
    go_enter Tryz.func45, Tryz.ntmps45
    go_wp2
    go_region_with (go_at_call 56; refine (HF.out _ (((Below.refl _ w).alloc (Nat.le_refl _) _).drew) _ ⟨w.heap.size, 4, rfl, .inr (.inl HN.out.1)⟩).mono ?_; rintro e w2 ⟨v2, rfl, ⟨g, cap, hv, ho⟩, hb2, _⟩; subst hv; have ho : w2.ownsRow w.heap.size 3 1 (.slice (some ⟨g, 0, none⟩) ncap cap) ncap (ints C) := (by have h := ho (by have := HN.out; omega); rw [HC.out.1 t rfl]; exact h); have HO := Lib.hid ho; have HB := Lib.hid ((((Below.refl _ w).alloc (Nat.le_refl _) _).drew).trans hb2); have r3' : w2.cell? ⟨R, 3, none⟩ = some (.int .i64 nsub) := (HB.out.cell (p := ⟨R, 3, none⟩) hRs).trans r3; clear hb2 ho)
    clear HF
    go_upto_region 6 with fail
    generalize hX : World.alloc _ _ = X
    have hXx : X.heap[w2.heap.size]? = some (.cells (strs (List.replicate k ⟨#[]⟩)) 9 (0, 0)) := by rw [← hX]; exact heap_alloc_new w2 _
    have hXb : Below w2.heap.size w2 X := by rw [← hX]; exact (Below.refl _ w2).alloc (Nat.le_refl _) _
    have hgl := (HO.out.lt g rfl).2
    have hcl : ∀ j, j < ncap → X.cell? ⟨g, j, none⟩ = some (.int .i64 (C.getD j 0)) := fun j hj => by
      rw [hXb.cell (p := ⟨g, j, none⟩) hgl, HO.out.cellAt j (by omega)]
      have hjl : j < C.length := by rw [HC.out.2.1]; exact hj
      simp [ints, List.getD, hjl]
    have HX := Lib.hid (And.intro hXx (And.intro hXb hcl))
    have hne : g ≠ w2.heap.size := by omega
    have HBX := Lib.hid (HB.out.trans (hXb.mono HB.out.size))
    have hxs : w.heap.size ≤ w2.heap.size := HB.out.size
    clear hX hXx hXb hcl hgl HO HB
    generalize w2.heap.size = x at *
    go_wp2
    go_loopw [30] (fun iv wr => ∃ i : Nat, iv = .int .i64 i ∧ Hid (i ≤ k ∧ FillS X wr x i k (pieceI s C))) (fun iv _ => 2000 - (intOf iv).toNat)
    case atStart => exact ⟨0, rfl, Lib.hid ⟨Nat.zero_le _, ⟨rfl, rfl, rfl, Nat.le_refl _, fun _ _ _ => rfl⟩, by simpa using HX.out.1⟩⟩
    case round =>
      obtain ⟨i, rfl, HF⟩ := hrel
      by_cases c : i < k
      · have c1 : (i : Int) < (k : Int) := by omega
        have HCk := Lib.hid c
        have m3 : ((2 : Int) * (i : Int)).toNat = 2 * i := by omega
        have m5 : (0 : Int) ≤ 2 * (i : Int) := by omega
        have m6 : (0 : Int) ≤ 2 * (i : Int) + 1 := by omega
        have m7 : IntKind.i64.wrap (2 * (i : Int)) = 2 * (i : Int) := by rw [IntKind.wrap_i64]; omega
        have m8 : IntKind.i64.wrap (2 * (i : Int) + 1) = 2 * (i : Int) + 1 := by rw [IntKind.wrap_i64]; omega
        have m4 : ((2 : Int) * (i : Int) + 1).toNat = 2 * i + 1 := by omega
        by_cases cn : 2 * i < ncap
        · have cn1 : (2 : Int) * (i : Int) < (ncap : Int) := by omega
          have cn2 : (2 : Int) * (i : Int) + 1 < (ncap : Int) := by have := HC.out.2.2.2; omega
          have ca := HF.out.2.keep hne (HX.out.2.2 (2 * i) cn)
          have cb := HF.out.2.keep hne (HX.out.2.2 (2 * i + 1) (by omega))
          have hpc : pieceI s C i = if 0 ≤ C.getD (2 * i) 0 then s.extract (C.getD (2 * i) 0).toNat (C.getD (2 * i + 1) 0).toNat else ⟨#[]⟩ := by
            unfold pieceI; rw [HC.out.2.1]; simp [cn]
          have hsl := HC.out.2.2.1 i (by omega)
          have HPC := Lib.hid hpc
          clear hpc c
          by_cases cp : 0 ≤ C.getD (2 * i) 0
          · obtain ⟨s1, s2⟩ := hsl cp
            have HP := Lib.hid (HPC.out.trans (if_pos cp))
            clear hsl HPC
            generalize C.getD (2 * i) 0 = a at *
            generalize C.getD (2 * i + 1) 0 = b at *
            obtain ⟨⟨u, hu⟩, hfr⟩ := HF.out.2.cell HCk.out
            go_wp2
            go_region_with (fail)
            · go_wp2
              go_roundw
              case measure => simp [intOf]; have := HCk.out; omega
              case rel => exact ⟨i + 1, by go_num, Lib.hid ⟨by have := HCk.out; omega, by have h := HF.out.2.step HCk.out; rw [HP.out] at h; exact h.drew⟩⟩
            · go_wp2
              go_roundw
              case measure => simp [intOf]; have := HCk.out; omega
              case rel => exact ⟨i + 1, by go_num, Lib.hid ⟨by have := HCk.out; omega, by have h := HF.out.2.step HCk.out; rw [HP.out] at h; exact h.drew⟩⟩
          · have HP := Lib.hid (HPC.out.trans (if_neg cp))
            clear hsl HPC
            have cp' : ¬ 0 ≤ C.getD (2 * i) 0 := cp
            generalize C.getD (2 * i) 0 = a at *
            generalize C.getD (2 * i + 1) 0 = b at *
            go_wp2
            go_roundw
            case measure => simp [intOf]; have := HCk.out; omega
            case rel => exact ⟨i + 1, by go_num, Lib.hid ⟨by have := HCk.out; omega, HF.out.2.skip HCk.out HP.out⟩⟩
        · have cn1 : ¬ (2 : Int) * (i : Int) < (ncap : Int) := by omega
          have HP := Lib.hid (show pieceI s C i = ⟨#[]⟩ by unfold pieceI; rw [HC.out.2.1, if_neg (by omega)])
          clear c cn
          go_wp2
          go_roundw
          case measure => simp [intOf]; have := HCk.out; omega
          case rel => exact ⟨i + 1, by go_num, Lib.hid ⟨by have := HCk.out; omega, HF.out.2.skip HCk.out HP.out⟩⟩
      · have hik : i = k := by have := HF.out.1; omega
        subst hik
        clear c
        go_wp2
        go_ret
        refine ⟨(HBX.out).grown HF.out.2.grown (by have := HBX.out.size; omega) (fun k h => by injection h; omega), x, rfl, hxs, ?_⟩
        have h := HF.out.2.row
        simpa using h
end Go.Proofs.YthejepmnnpmdmaaGreatDoor.Sv
end
section
set_option linter.unusedVariables false
set_option linter.unusedSimpArgs false
/- pad: -1 behind the places until there are as many as groups ask for -/
namespace Go.Proofs.YthejepmnnpmdmaaGreatDoor.Sv
open Go Go.RowKit Rx
set_option maxRecDepth 100000
theorem own_zero {w : World} {base e n g cap : Nat} {xs : List Value} (h : w.ownsRow base e 1 (.slice (some ⟨g, 0, none⟩) n cap) n xs) : w.ownsRow base e 1 (.slice (some ⟨g, 0, none⟩) 0 cap) 0 [] := by
  rcases h.2 with ⟨h, _⟩ | ⟨g', cap', cur, h, hb, hg, hn, hc, hs, _⟩
  · cases h
  · injection h with h1 h2 h3
    injection h1 with h1
    injection h1 with h1
    subst h1 h3
    exact ⟨rfl, .inr ⟨g, cap, cur, rfl, hb, hg, Nat.zero_le _, hc, hs, rfl⟩⟩
/-- an own row grows by one number: the row it had is a row still, and nothing else that lay has turned -/
theorem app_one (w : World) (base g n cap : Nat) (xs : List Value) (h : w.ownsRow base 3 1 (.slice (some ⟨g, 0, none⟩) n cap) n xs) (a : Nat) (x : Value) (hx : w.cell? ⟨a, 0, none⟩ = some x) (h1 : x.oneCell' = true) (hn : n ≤ 1000) (hb : base ≤ w.heap.size) :
    ∃ g' cap' w', (Builtin.append_ #[119, 119] 119 #[.slice (some ⟨g, 0, none⟩) n cap, .slice (some ⟨a, 0, none⟩) 1 1]).run Tryz.prog w = .ok (.slice (some ⟨g', 0, none⟩) (n + 1) cap') w' ∧
      w'.ownsRow base 3 1 (.slice (some ⟨g', 0, none⟩) (n + 1) cap') (n + 1) (xs ++ [x]) ∧ w.grownBy w' (some g) ∧ (g' = g ∧ cap' = cap ∨ w.heap.size ≤ g' ∧ w.grownBy w' none) := by
  obtain ⟨i0, hi, hz0, hz1, hz2⟩ := info_parts info3
  have hc : ∀ (j : Nat) (u : Value), [x][j]? = some u → w.cell? ((⟨a, 0, none⟩ : Addr).add j) = some u := fun j u hj => by
    cases j with
    | zero => simp at hj; subst hj; exact hx
    | succ j => simp at hj
  have hone : ∀ u ∈ [x], u.oneCell' = true := fun u hu => by simp at hu; subst hu; exact h1
  by_cases hr : n + 1 ≤ cap
  · obtain ⟨w', h2, h3, h4⟩ := run_append_fits (P := Tryz.prog) w base 119 119 3 i0 1 Tryz.underlying119 hi hz1 g n cap xs h ⟨a, 0, none⟩ 1 1 [x] rfl hc hone hr
    exact ⟨g, cap, w', h2, h3, h4, .inl ⟨rfl, rfl⟩⟩
  · have hlen := h.1
    obtain ⟨v', w', h2, h3, h4⟩ := run_append_arg_grows (P := Tryz.prog) w 119 119 3 i0 (.int .i64 0) 1 8 Tryz.underlying119 hi hz0 hz1 hz2 rfl (by decide) ⟨g, 0, none⟩ n cap xs h.1 (fun j u hj => by
      have e : (⟨g, 0, none⟩ : Addr).add j = ⟨g, j, none⟩ := by simp [Addr.add]; omega
      rw [e, h.cellAt j (by have := (List.getElem?_eq_some_iff.1 hj).1; omega)]; exact hj) ⟨a, 0, none⟩ 1 1 [x] rfl hc (by omega) (by unfold maxLen; omega) (by omega)
    obtain ⟨g2, cap2, hv, hb2⟩ := World.ownsRow.form h3 (by omega)
    subst hv
    have hg2 : w.heap.size ≤ g2 := (h3.lt g2 rfl).1
    refine ⟨g2, cap2, w', h2, ?_, ⟨h4.os, h4.tape, h4.output, h4.size, fun k hk _ => h4.block k hk (fun e => by cases e)⟩, .inr ⟨hg2, h4⟩⟩
    refine ⟨h3.1, ?_⟩
    rcases h3.2 with h | ⟨g', c', cur, e1, e2, e3⟩
    · exact .inl h
    · exact .inr ⟨g', c', cur, e1, by omega, e3⟩
/-- what stands while it pads -/
structure Padded (w wr : World) (base g cap g' cap' k : Nat) (xs : List Value) : Prop where
  own : wr.ownsRow base 3 1 (.slice (some ⟨g', 0, none⟩) k cap') k xs
  old : wr.ownsRow base 3 1 (.slice (some ⟨g, 0, none⟩) 0 cap) 0 []
  grown : w.grownBy wr (some g)
  which : g' = g ∧ cap' = cap ∨ w.heap.size ≤ g'
theorem Padded.step {w wr : World} {base g cap g' cap' k : Nat} {xs : List Value} (h : Padded w wr base g cap g' cap' k xs) (hb : base ≤ w.heap.size) (hk : k ≤ 999) (x : Value) (h1 : x.oneCell' = true) (hgl : g < w.heap.size) :
    ∃ g2 cap2 w', (Builtin.append_ #[119, 119] 119 #[.slice (some ⟨g', 0, none⟩) k cap', .slice (some ⟨wr.heap.size, 0, none⟩) 1 1]).run Tryz.prog (wr.alloc (.cells #[x] 3)) = .ok (.slice (some ⟨g2, 0, none⟩) (k + 1) cap2) w' ∧ Padded w w' base g cap g2 cap2 (k + 1) (xs ++ [x]) := by
  have hsz := h.grown.size
  have hal : wr.grownBy (wr.alloc (.cells #[x] 3)) none := World.grownBy_alloc _ _ none
  obtain ⟨g2, cap2, w', h2, h3, h4, h5⟩ := app_one (wr.alloc (.cells #[x] 3)) base g' k cap' xs (h.own.alloc _) wr.heap.size x (cell_of_row _ _ 0 _ _ _ (heap_alloc_new wr _)) h1 (by omega) (by simp; omega)
  have hlt' := (h.own.lt g' rfl).2
  refine ⟨g2, cap2, w', h2, h3, ?_, ?_, ?_⟩
  · rcases h5 with ⟨rfl, rfl⟩ | ⟨h5, h6⟩
    · rcases h.which with ⟨rfl, rfl⟩ | hw
      · exact own_zero h3
      · refine own_of h.old fun g0 cur hg0 hc => ?_
        obtain rfl : g = g0 := by simpa [Value.ownBlock] using hg0
        rw [h4.block g (by simp; omega) (fun e => by injection e with e; omega)]
        exact Below.heap_alloc _ _ g (by omega)
    · refine own_of h.old fun g0 cur hg0 hc => ?_
      obtain rfl : g = g0 := by simpa [Value.ownBlock] using hg0
      rw [h6.block g (by simp; omega) (fun e => by cases e)]
      exact Below.heap_alloc _ _ g (by omega)
  · refine ⟨h4.os.trans h.grown.os, h4.tape.trans h.grown.tape, h4.output.trans h.grown.output, by have := h4.size; simp at this; omega, fun k hk hne => ?_⟩
    have hkg : k ≠ g := fun e => hne (by rw [e])
    rw [h4.block k (by simp; omega) (fun e => by
      injection e with e
      rcases h.which with ⟨h7, _⟩ | h7 <;> omega), Below.heap_alloc _ _ k (by omega)]
    exact h.grown.block k hk hne
  · rcases h5 with ⟨rfl, rfl⟩ | ⟨h5, _⟩
    · exact h.which
    · exact .inr (by simp at h5; omega)
/-- how many places there are -/
def padLen (nc nsub : Nat) : Nat := if nc < (1 + nsub) * 2 then (1 + nsub) * 2 else nc
theorem tPad (w : World) (base R nsub g cap nc : Nat) (xs : List Value) (hR : w.cell? ⟨R, 3, none⟩ = some (.int .i64 nsub)) (hRg : R ≠ g) (hns : nsub ≤ 400) (hnc : nc ≤ 1000) (ho : w.ownsRow base 3 1 (.slice (some ⟨g, 0, none⟩) nc cap) nc xs) (hb : base ≤ w.heap.size) :
    Calls Tryz.prog 73 #[.pointer (some ⟨R, 0, none⟩), .slice (some ⟨g, 0, none⟩) nc cap] w fun e w' => ∃ g' cap', e = .returned (.slice (some ⟨g', 0, none⟩) (padLen nc nsub) cap') ∧ Padded w w' base g cap g' cap' (padLen nc nsub) (xs ++ List.replicate (padLen nc nsub - nc) (.int .i64 (-1))) := by
  have q := q124
  have hgl := (ho.lt g rfl).2
  have HO := Lib.hid ho
  obtain ⟨m, hm⟩ : ∃ m, m = 1 + nsub := ⟨_, rfl⟩
  obtain ⟨n2, hn2⟩ : ∃ n2, n2 = m * 2 := ⟨_, rfl⟩
  have hw1 : IntKind.i64.wrap (1 + (nsub : Int)) = (m : Int) := by rw [IntKind.wrap_i64]; omega
  have hw2 : IntKind.i64.wrap ((m : Int) * 2) = (n2 : Int) := by rw [IntKind.wrap_i64]; omega
  have hn2' : n2 ≤ 1000 := by omega
  have hp : padLen nc nsub = if nc < n2 then n2 else nc := by rw [hn2, hm]; rfl
  obtain ⟨pl, hpl⟩ : ∃ pl, pl = padLen nc nsub := ⟨_, rfl⟩
  rw [← hpl]
  rw [← hpl] at hp
  have HPL := Lib.hid hp
  clear hpl hm hp
  have HN := Lib.hid hns
  clear ho hn2 hns
  go_enter Tryz.func73, Tryz.ntmps73
  go_wp2
  go_loopw [1] (fun av wr => ∃ g' cap' k : Nat, av = .slice (some ⟨g', 0, none⟩) k cap' ∧ Hid (nc ≤ k ∧ (k ≤ n2 ∨ k = nc) ∧ Padded w wr base g cap g' cap' k (xs ++ List.replicate (k - nc) (.int .i64 (-1))))) (fun av _ => match av with | .slice _ k _ => 2000 - k | _ => 0)
  case atStart =>
    refine ⟨g, cap, nc, rfl, Lib.hid ⟨Nat.le_refl _, .inr rfl, ?_⟩⟩
    refine ⟨by simpa using HO.out, own_zero HO.out, ⟨rfl, rfl, rfl, Nat.le_refl _, fun _ _ _ => rfl⟩, .inl ⟨rfl, rfl⟩⟩
  case round =>
    obtain ⟨g', cap', k, rfl, HP⟩ := hrel
    obtain ⟨p1, p2, p3⟩ := HP.out
    by_cases c : k < n2
    · have c1 : (k : Int) < (n2 : Int) := by omega
      obtain ⟨g2, cap2, w', h2, h3⟩ := p3.step hb (by omega) (.int .i64 (-1)) rfl hgl
      have H3 := Lib.hid h3
      have H2 := Lib.hid h2
      have HC := Lib.hid (And.intro c (And.intro p1 p2))
      clear c p1 p2 p3 h2 h3
      go_wp2_with ((with_reducible refine wpList_append_eq (o := ⟨some 20, _, _, _, _, _⟩) ?a1 (.tmp 18) (.tmp 19) 119 ?a2 ?a3 _ _ _ _ ?a4 ?a5 H2.out ?_); (case a1 => rfl); (case a2 => rfl); (case a3 => rfl); (case a4 => rfl); (case a5 => rfl))
      go_roundw
      case measure => have := HC.out; simp; omega
      case rel =>
        refine ⟨g2, cap2, k + 1, rfl, Lib.hid ⟨by have := HC.out; omega, .inl (by have := HC.out; omega), ?_⟩⟩
        have h := H3.out
        rwa [List.append_assoc, ← List.replicate_succ', show k - nc + 1 = k + 1 - nc by have := HC.out; omega] at h
    · have c1 : ¬ (k : Int) < (n2 : Int) := by omega
      have hk : k = pl := by rw [HPL.out]; split <;> omega
      have HK := Lib.hid hk
      clear hk
      have H3 := Lib.hid p3
      clear c p1 p2 p3
      go_wp2
      go_ret
      rw [← HK.out]
      exact ⟨g', cap', rfl, H3.out⟩
end Go.Proofs.YthejepmnnpmdmaaGreatDoor.Sv
end
section
set_option linter.unusedVariables false
set_option linter.unusedSimpArgs false
/- all matches one after the other: the iterator -/
namespace Go.Proofs.YthejepmnnpmdmaaGreatDoor.Sv
open Go Go.RowKit Rx Go.Shelf
set_option maxRecDepth 100000
attribute [local go_sem] Oper.semAt_some
/-- the iterator's word: below n1 nothing turns, and what is no row of numbers lies as it lay -/
structure IT (n1 : Nat) (W W' : World) : Prop where
  below : Below n1 W W'
  same : ∀ (k : Nat) (o : Obj), W.heap[k]? = some o → (∀ cur, o ≠ .cells cur 3 (0, 0)) → W'.heap[k]? = some o
theorem IT.refl (n1 : Nat) (W : World) : IT n1 W W := ⟨Below.refl _ _, fun _ _ h _ => h⟩
theorem IT.trans {n1 : Nat} {A B C : World} (h : IT n1 A B) (k : IT n1 B C) : IT n1 A C := ⟨h.below.trans k.below, fun i o ho hn => k.same i o (h.same i o ho hn) hn⟩
/-- the round's word: below n0 nothing turns; nor do cells but a box of type tb and rows of type te laid since n1 -/
structure KR (n0 n1 tb te : Nat) (W W' : World) : Prop where
  below : Below n0 W W'
  same : ∀ (k : Nat) (cs : Array Value) (t : TypeId) (f : Nat × Nat), W.heap[k]? = some (.cells cs t f) → t ≠ tb → (t ≠ te ∨ k < n1) → W'.heap[k]? = some (.cells cs t f)
/-- the places of a match, as they are handed on -/
def placesOf (nc : Nat) (m : Nat × List (Nat × Nat)) : List Int := applyT m.2 ((List.replicate nc (-1)).set 0 (m.1 : Int))
/-- the matches from a place on; each is longer than nothing -/
def MsOk (E : Env) (N : Nat) (f : Nat → Res) : Nat → List (Nat × List (Nat × Nat)) → Prop
  | pos, [] => ∀ k, N + 2 ≤ pos + k → srch E N f k pos = none
  | pos, m :: ms => (∀ k, N + 2 ≤ pos + k → srch E N f k pos = some m) ∧ ∃ e, lastW m.2 1 = some e ∧ (lastW m.2 0 = none ∧ m.1 ≤ e) ∧ pos < e ∧ e ≤ N ∧ MsOk E N f e ms
theorem MsOk.mem {E : Env} {N : Nat} {f : Nat → Res} : ∀ {pos : Nat} {ms : List (Nat × List (Nat × Nat))}, MsOk E N f pos ms → ∀ m ∈ ms, ∃ e, lastW m.2 1 = some e ∧ lastW m.2 0 = none ∧ m.1 ≤ e ∧ e ≤ N
  | _, [], _, m, hm => by cases hm
  | _, m0 :: ms, h, m, hm => by
    obtain ⟨_, e, h1, h2, _, h4, h5⟩ := h
    rcases List.mem_cons.1 hm with rfl | hm
    · exact ⟨e, h1, h2.1, h2.2, h4⟩
    · exact MsOk.mem h5 m hm
/-- the iterator's boxes -/
structure Boxes (W : World) (R bm bs br bb bn nc : Nat) (s : ByteArray) : Prop where
  mx : W.heap[bm]? = some (.cells #[.int .i64 (-1)] 3 (0, 0))
  st : W.heap[bs]? = some (.cells #[.string s] 9 (0, 0))
  re : W.heap[br]? = some (.cells #[.pointer (some ⟨R, 0, none⟩)] 56 (0, 0))
  by_ : W.heap[bb]? = some (.cells #[.slice none 0 0] 27 (0, 0))
  nc : W.heap[bn]? = some (.cells #[.int .i64 nc] 3 (0, 0))
theorem Boxes.below {W W' : World} {R bm bs br bb bn nc n1 : Nat} {s : ByteArray} (h : Boxes W R bm bs br bb bn nc s) (hb : Below n1 W W') (h1 : bm < n1 ∧ bs < n1 ∧ br < n1 ∧ bb < n1 ∧ bn < n1) : Boxes W' R bm bs br bb bn nc s :=
  ⟨(hb.block _ h1.1).trans h.mx, (hb.block _ h1.2.1).trans h.st, (hb.block _ h1.2.2.1).trans h.re, (hb.block _ h1.2.2.2.1).trans h.by_, (hb.block _ h1.2.2.2.2).trans h.nc⟩
theorem Boxes.kept {W W' : World} {R bm bs br bb bn nc n0 n1 tb te : Nat} {s : ByteArray} (h : Boxes W R bm bs br bb bn nc s) (hk : KR n0 n1 tb te W W') (h1 : bm < n1 ∧ bs < n1 ∧ br < n1 ∧ bb < n1 ∧ bn < n1) (ht : tb ≠ 3 ∧ tb ≠ 9 ∧ tb ≠ 56 ∧ tb ≠ 27) : Boxes W' R bm bs br bb bn nc s :=
  ⟨hk.same _ _ _ _ h.mx (Ne.symm ht.1) (.inr h1.1), hk.same _ _ _ _ h.st (Ne.symm ht.2.1) (.inr h1.2.1), hk.same _ _ _ _ h.re (Ne.symm ht.2.2.1) (.inr h1.2.2.1), hk.same _ _ _ _ h.by_ (Ne.symm ht.2.2.2) (.inr h1.2.2.2.1), hk.same _ _ _ _ h.nc (Ne.symm ht.1) (.inr h1.2.2.2.2)⟩
/-- the iterator's own row between two rounds -/
def OwnM (W : World) (n1 nc : Nat) (v : Value) : Prop := v = .slice none 0 0 ∨ ∃ g cap, v = .slice (some ⟨g, 0, none⟩) nc cap ∧ W.ownsRow n1 3 1 (.slice (some ⟨g, 0, none⟩) 0 cap) 0 []
theorem it_of {n1 : Nat} {W W' : World} {row : Option Nat} (hb : Below n1 W W') (hg : W.drew.grownBy W' row) (hr : ∀ r, row = some r → ∃ cur, W.heap[r]? = some (.cells cur 3 (0, 0))) : IT n1 W W' :=
  ⟨hb, fun k o hk hn => (hg.block k (Array.getElem?_eq_some_iff.1 hk).1 (fun e => by
    obtain ⟨cur, hc⟩ := hr k e.symm
    rw [hc] at hk
    exact hn cur (Option.some.inj hk).symm)).trans hk⟩
theorem own_row {W : World} {base g n cap : Nat} {xs : List Value} (h : W.ownsRow base 3 1 (.slice (some ⟨g, 0, none⟩) n cap) n xs) : ∀ r, (Value.slice (some ⟨g, 0, none⟩) n cap).ownBlock = some r → ∃ cur, W.heap[r]? = some (.cells cur 3 (0, 0)) := fun r hr => by
  obtain rfl : g = r := by simpa [Value.ownBlock] using hr
  rcases h.2 with ⟨h, _⟩ | ⟨g', c', cur, e1, _, e2, _⟩
  · cases h
  · injection e1 with e1 _ _
    injection e1 with e1
    injection e1 with e1
    subst e1
    exact ⟨cur, e2⟩
/-- what holds at a round of the iterator -/
structure Mr (w0 wr : World) (R bm bs br bb bn nc n1 : Nat) (T : List I) (s : ByteArray) (f : Nat → Res) (ms : List (Nat × List (Nat × Nat))) (J : Nat → World → Prop) (mv : Value) (p : Nat) (pv : Int) : Prop where
  ex : ∃ k rest, (∃ pre, ms = pre ++ rest ∧ pre.length = k) ∧ MsOk (envOf T s) s.size f p rest ∧ J k wr
  below : Below w0.heap.size w0 wr
  boxes : Boxes wr R bm bs br bb bn nc s
  own : OwnM wr n1 nc mv
  size : n1 ≤ wr.heap.size
  le : p ≤ s.size
set_option maxHeartbeats 1000000 in
theorem tMatches {w0 : World} {R PB IB icap : Nat} {T : List I} {s : ByteArray} (hS : Sur w0 R PB IB icap T s) {start ncap minl nsub : Nat} (hR : RH w0 R PB 0 start ncap minl nsub) (hml : minl ≤ 1000) (x : I) (hx : T[start]? = some x) (hf : opc x ≠ 5)
    (nc : Nat) (hnc : 2 ≤ nc ∧ nc ≤ 1000) (hns : nsub ≤ 400) (f : Nat → Res) (hM : ∀ p, p ≤ s.size → ∃ n, FM (envOf T s) n start p (f p)) (ms : List (Nat × List (Nat × Nat))) (hms : MsOk (envOf T s) s.size f 0 ms) (hmin : s.size < minl → ms = [])
    (n l tb te bm bs br bb bn : Nat) (J : Nat → World → Prop) (W : World) (hJ : ∀ k A B, J k A → IT W.heap.size A B → J k B) (hb0 : Below w0.heap.size w0 W) (hB : Boxes W R bm bs br bb bn nc s) (ht : tb ≠ 3 ∧ tb ≠ 9 ∧ tb ≠ 56 ∧ tb ≠ 27) (hte : te ≠ 3)
    (hY : ∀ (pre : List (Nat × List (Nat × Nat))) m rest W1 g' cap', ms = pre ++ m :: rest → J pre.length W1 → Below w0.heap.size w0 W1 → W1.ownsRow W.heap.size 3 1 (.slice (some ⟨g', 0, none⟩) (padLen nc nsub) cap') (padLen nc nsub) (ints (placesOf nc m) ++ List.replicate (padLen nc nsub - nc) (.int .i64 (-1))) →
      YieldAt Fence.wide (n - 1) Tryz.prog l #[.slice (some ⟨g', 0, none⟩) (padLen nc nsub) cap'] W1 fun e W' => e = .returned (.bool true) ∧ J (pre.length + 1) W' ∧ KR w0.heap.size W.heap.size tb te W1 W')
    (h0 : J 0 W) :
    CallsIn Fence.wide n Tryz.prog 71 #[.func (.yield l) #[] #[], .pointer (some ⟨bm, 0, none⟩), .pointer (some ⟨bs, 0, none⟩), .pointer (some ⟨br, 0, none⟩), .pointer (some ⟨bb, 0, none⟩), .pointer (some ⟨bn, 0, none⟩)] W fun e W' => (∃ v, e = .returned v) ∧ J ms.length W' := by
  have hlen := hS.len
  have hRs : R < w0.heap.size := Lib.lt_of_cell hS.pg.r1
  have hw0 : w0.heap.size ≤ W.heap.size := hb0.size
  have hbl : bm < W.heap.size ∧ bs < W.heap.size ∧ br < W.heap.size ∧ bb < W.heap.size ∧ bn < W.heap.size := by
    exact ⟨(Array.getElem?_eq_some_iff.1 hB.mx).1, (Array.getElem?_eq_some_iff.1 hB.st).1, (Array.getElem?_eq_some_iff.1 hB.re).1, (Array.getElem?_eq_some_iff.1 hB.by_).1, (Array.getElem?_eq_some_iff.1 hB.nc).1⟩
  generalize hn1 : W.heap.size = n1 at *
  have bx : ∀ {W : World} {a : Nat} {v : Value} {t : TypeId}, W.heap[a]? = some (.cells #[v] t (0, 0)) → W.cell? ⟨a, 0, none⟩ = some v := fun h => cell_of_row _ _ 0 _ _ _ h
  have c2 := bx hB.st
  have c1 := bx hB.mx
  have q := q124
  have HS := Lib.hid (And.intro hS (And.intro hR (And.intro hml (And.intro hx hf))))
  have HN := Lib.hid (And.intro hnc hns)
  have HM := Lib.hid hM
  have HMS := Lib.hid (And.intro hms hmin)
  have HJ := Lib.hid (And.intro hJ (And.intro hY h0))
  have HB := Lib.hid (And.intro hb0 (And.intro hB ht))
  clear hS hR hml hx hf hnc hns hM hms hmin hJ hY h0 hb0 hB ht
  refine callsIn_wide.2 ?_
  go_enter Tryz.func71, Tryz.ntmps71
  go_wp2
  go_loopw [8, 9, 10] (fun mv pv qv wr => ∃ (p : Nat) (z : Int), pv = .int .i64 p ∧ qv = .int .i64 z ∧ Hid (Mr w0 wr R bm bs br bb bn nc n1 T s f ms J mv p z)) (fun _ pv _ _ => 2000000 - (intOf pv).toNat)
  case atStart => exact ⟨0, -1, rfl, rfl, Lib.hid ⟨⟨0, ms, ⟨[], rfl, rfl⟩, HMS.out.1, HJ.out.2.2⟩, HB.out.1, HB.out.2.1, .inl rfl, by omega, Nat.zero_le _⟩⟩
  case round =>
    obtain ⟨p, z, rfl, rfl, HR⟩ := hrel
    have hple := HR.out.le
    have k1 : (p : Int) ≤ (s.size : Int) := by omega
    have hbx := HR.out.boxes
    have d3 := bx hbx.re
    have d4 := bx hbx.by_
    have d2 := bx hbx.st
    have d5 := bx hbx.nc
    have d1 := bx hbx.mx
    have hbw : Below w0.heap.size w0 wr.drew := HR.out.below.drew
    obtain ⟨k, rest, ⟨pre, hpre, hk⟩, hok, hJk⟩ := HR.out.ex
    have HBW := Lib.hid hbw
    have HRest := Lib.hid (And.intro hpre (And.intro hk (And.intro hok hJk)))
    have hsz := HR.out.size
    have hfind : ∀ (r : Option (Nat × List (Nat × Nat))), (∀ k, s.size + 2 ≤ p + k → srch (envOf T s) s.size f k p = r) → (s.size < minl → r = none) → ∀ dst, (dst = .slice none 0 0 ∨ DstOk wr.drew n1 nc dst) →
        Calls Tryz.prog 56 #[.pointer (some ⟨R, 0, none⟩), .nilIface, .slice none 0 0, .string s, .int .i64 p, .int .i64 nc, dst] wr.drew fun e w' => ∃ v, e = .returned v ∧ Got2 w' n1 nc v r ∧ Below n1 wr.drew w' ∧ wr.drew.grownBy w' dst.ownBlock := fun r hr hm dst hd =>
      tFind (HS.out.2.1.keep HBW.out) n1 nc p hlen HS.out.2.2.1 hsz r hm (fun X dst hX hd => (tBackU ((HS.out.1.keep HBW.out).keep hX) ((HS.out.2.1.keep HBW.out).keep hX) x HS.out.2.2.2.1 HS.out.2.2.2.2 n1 nc HN.out.1 dst hd (Nat.le_trans hsz hX.size) f HM.out p hple (s.size + 2) (by omega) r (hr _ (by omega)).symm).mono fun e w' h => h) dst hd
    have HF := Lib.hid hfind
    clear hbx hbw hpre hk hok hJk hfind
    cases rest with
    | nil =>
      have hF := HF.out none HRest.out.2.2.1 (fun _ => rfl)
      rcases HR.out.own with rfl | ⟨g, cap, rfl, hown⟩
      · have HG := Lib.hid (hF (.slice none 0 0) (.inl rfl))
        clear hF
        go_wp2
        go_region_held3 (fun w' => w'.cell? ⟨br, 0, none⟩ = some (.pointer (some ⟨R, 0, none⟩)) ∧ w'.cell? ⟨bb, 0, none⟩ = some (.slice none 0 0) ∧ w'.cell? ⟨bs, 0, none⟩ = some (.string s) ∧ w'.cell? ⟨bn, 0, none⟩ = some (.int .i64 nc)) (first | exact ⟨by assumption, by assumption, by assumption, by assumption⟩ | exact HS4.out) (first | (go_at_call 56; refine HG.out.mono ?_; rintro e w2 ⟨v2, rfl, hg, hb2, hgr2⟩; have hg : v2 = .slice none 0 0 := hg; subst hg; have HGB := Lib.hid (And.intro hb2 hgr2); have hbx2 := HR.out.boxes.below ((Below.refl n1 wr).drew.trans hb2) hbl; have HS4 := Lib.hid (And.intro (bx hbx2.re) (And.intro (bx hbx2.by_) (And.intro (bx hbx2.st) (bx hbx2.nc)))); clear hb2 hgr2 hbx2))
        all_goals go_wp2
        all_goals go_end0
        all_goals exact ⟨⟨_, rfl⟩, by rw [HRest.out.1, List.length_append, List.length_nil, Nat.add_zero, HRest.out.2.1]; exact HJ.out.1 k wr w2 HRest.out.2.2.2 (it_of ((Below.refl n1 wr).drew.trans HGB.out.1) HGB.out.2 (fun r h => by cases h))⟩
      · have HO := Lib.hid hown
        have HG := Lib.hid (hF (.slice (some ⟨g, 0, none⟩) 0 cap) (.inr ⟨g, cap, rfl, .inr (.inr hown)⟩))
        clear hF hown
        go_wp2
        go_region_held3 (fun w' => w'.cell? ⟨br, 0, none⟩ = some (.pointer (some ⟨R, 0, none⟩)) ∧ w'.cell? ⟨bb, 0, none⟩ = some (.slice none 0 0) ∧ w'.cell? ⟨bs, 0, none⟩ = some (.string s) ∧ w'.cell? ⟨bn, 0, none⟩ = some (.int .i64 nc)) (first | exact ⟨by assumption, by assumption, by assumption, by assumption⟩ | exact HS4.out) (first | (go_at_call 56; refine HG.out.mono ?_; rintro e w2 ⟨v2, rfl, hg, hb2, hgr2⟩; have hg : v2 = .slice none 0 0 := hg; subst hg; have HGB := Lib.hid (And.intro hb2 hgr2); have hbx2 := HR.out.boxes.below ((Below.refl n1 wr).drew.trans hb2) hbl; have HS4 := Lib.hid (And.intro (bx hbx2.re) (And.intro (bx hbx2.by_) (And.intro (bx hbx2.st) (bx hbx2.nc)))); clear hb2 hgr2 hbx2))
        all_goals go_wp2
        all_goals go_end0
        all_goals exact ⟨⟨_, rfl⟩, by rw [HRest.out.1, List.length_append, List.length_nil, Nat.add_zero, HRest.out.2.1]; exact HJ.out.1 k wr w2 HRest.out.2.2.2 (it_of ((Below.refl n1 wr).drew.trans HGB.out.1) HGB.out.2 (own_row HO.out))⟩
    | cons m rest =>
      obtain ⟨hsr, e, he1, _, hpe, hes, hrest⟩ := HRest.out.2.2.1
      have hF := HF.out (some m) hsr (fun h => by have h1 := HMS.out.2 h; have h2 := HRest.out.1; rw [h1] at h2; simp at h2)
      have hcont : ∀ w2 g2 cap2, w2.ownsRow n1 3 1 (.slice (some ⟨g2, 0, none⟩) nc cap2) nc (ints (placesOf nc m)) → Below n1 wr w2 → IT n1 wr w2 →
          w2.cell? ⟨g2, 1, none⟩ = some (.int .i64 e) ∧
          Calls Tryz.prog 73 #[.pointer (some ⟨R, 0, none⟩), .slice (some ⟨g2, 0, none⟩) nc cap2] w2 (fun e w' => ∃ g' cap', e = .returned (.slice (some ⟨g', 0, none⟩) (padLen nc nsub) cap') ∧ Padded w2 w' n1 g2 cap2 g' cap' (padLen nc nsub) (ints (placesOf nc m) ++ List.replicate (padLen nc nsub - nc) (.int .i64 (-1)))) ∧
          (∀ w3 g3 cap3, Padded w2 w3 n1 g2 cap2 g3 cap3 (padLen nc nsub) (ints (placesOf nc m) ++ List.replicate (padLen nc nsub - nc) (.int .i64 (-1))) →
            YieldAt Fence.wide (n - 1) Tryz.prog l #[.slice (some ⟨g3, 0, none⟩) (padLen nc nsub) cap3] w3 fun e W' => e = .returned (.bool true) ∧ J (k + 1) W' ∧ KR w0.heap.size n1 tb te w3 W') ∧
          (∀ w3 w4 g3 cap3 z', Padded w2 w3 n1 g2 cap2 g3 cap3 (padLen nc nsub) (ints (placesOf nc m) ++ List.replicate (padLen nc nsub - nc) (.int .i64 (-1))) → J (k + 1) w4 → KR w0.heap.size n1 tb te w3 w4 → Mr w0 w4 R bm bs br bb bn nc n1 T s f ms J (.slice (some ⟨g2, 0, none⟩) nc cap2) e z') := by
        intro w2 g2 cap2 ho hb hit
        obtain ⟨hg1, hg2⟩ := ho.lt g2 rfl
        have hbw2 : Below w0.heap.size w0 w2 := HR.out.below.trans (hb.mono hw0)
        have hsz2 : n1 ≤ w2.heap.size := Nat.le_trans hsz hb.size
        have hpad := tPad w2 n1 R nsub g2 cap2 nc (ints (placesOf nc m)) (HS.out.2.1.keep hbw2).nsub (by omega) HN.out.2 HN.out.1.2 ho hsz2
        have h3 : ∀ w3 g3 cap3, Padded w2 w3 n1 g2 cap2 g3 cap3 (padLen nc nsub) (ints (placesOf nc m) ++ List.replicate (padLen nc nsub - nc) (.int .i64 (-1))) → Below n1 wr w3 ∧ IT n1 wr w3 := fun w3 g3 cap3 hpd => by
          have hb3 : Below n1 w2 w3 := (Below.refl n1 w2).grown hpd.grown hsz2 (fun k h => by have e : g2 = k := Option.some.inj h; omega)
          have hgd : w2.drew.grownBy w3 (some g2) := ⟨hpd.grown.os, hpd.grown.tape, hpd.grown.output, hpd.grown.size, hpd.grown.block⟩
          exact ⟨hb.trans hb3, hit.trans (it_of hb3 hgd (fun r h => own_row ho r (by rw [← h]; rfl)))⟩
        refine ⟨?_, hpad, fun w3 g3 cap3 hpd => ?_, fun w3 w4 g3 cap3 z' hpd hJ4 hk4 => ?_⟩
        · rw [ho.cellAt 1 (by have := HN.out.1; omega)]
          have h1 := applyT_get m.2 ((List.replicate nc (-1)).set 0 (m.1 : Int)) 1 (by simp; have := HN.out.1; omega)
          rw [he1] at h1
          simp only [ints, List.getElem?_map, placesOf]
          rw [h1]; rfl
        · obtain ⟨hb3, hit3⟩ := h3 w3 g3 cap3 hpd
          have := HJ.out.2.1 pre m rest w3 g3 cap3 HRest.out.1 (by rw [HRest.out.2.1]; exact HJ.out.1 k wr w3 HRest.out.2.2.2 hit3) (HR.out.below.trans (hb3.mono hw0)) hpd.own
          rwa [HRest.out.2.1] at this
        · obtain ⟨hb3, hit3⟩ := h3 w3 g3 cap3 hpd
          refine ⟨⟨k + 1, rest, ⟨pre ++ [m], by rw [HRest.out.1]; simp, by rw [List.length_append, HRest.out.2.1]; rfl⟩, hrest, hJ4⟩, (HR.out.below.trans (hb3.mono hw0)).trans hk4.below, (HR.out.boxes.below hb3 hbl).kept hk4 hbl HB.out.2.2, .inr ⟨g2, cap2, rfl, ?_⟩, ?_, hes⟩
          · exact own_of hpd.old fun g' cur hg' hcur => by rw [hk4.same g' cur 3 (0, 0) hcur (Ne.symm HB.out.2.2.1) (.inl (Ne.symm hte)), hcur]
          · exact Nat.le_trans hsz (Nat.le_trans hb3.size hk4.below.size)
      have HC := Lib.hid hcont
      have hpe' : ¬ (e : Int) = (p : Int) := by omega
      have kn1 : (1 : Int) < (nc : Int) := by have := HN.out.1; omega
      have kn0 : ¬ (nc : Int) = 0 := by omega
      have HE := Lib.hid (And.intro hpe hes)
      clear hcont hsr he1 hpe hes hrest
      rcases HR.out.own with rfl | ⟨g, cap, rfl, hown⟩
      · have HG := Lib.hid (hF (.slice none 0 0) (.inl rfl))
        clear hF
        go_wp2
        go_region_held3 (fun w' => w'.cell? ⟨br, 0, none⟩ = some (.pointer (some ⟨R, 0, none⟩)) ∧ w'.cell? ⟨bb, 0, none⟩ = some (.slice none 0 0) ∧ w'.cell? ⟨bs, 0, none⟩ = some (.string s) ∧ w'.cell? ⟨bn, 0, none⟩ = some (.int .i64 nc)) (first | exact ⟨by assumption, by assumption, by assumption, by assumption⟩ | exact HS4.out) (first | (go_at_call 56; refine HG.out.mono ?_; rintro e w2 ⟨v2, rfl, ⟨g2, cap2, hv, ho⟩, hb2, hgr2⟩; subst hv; have ho := ho (by have := HN.out.1; omega); obtain ⟨hm1, hL, hYY, hRR⟩ := HC.out w2 g2 cap2 ho ((Below.refl n1 wr).drew.trans hb2) (it_of ((Below.refl n1 wr).drew.trans hb2) hgr2 (fun r h => by cases h)); have HP := Lib.hid hL; have HYY := Lib.hid hYY; have HRR := Lib.hid hRR; have hbx2 := HR.out.boxes.below ((Below.refl n1 wr).drew.trans hb2) hbl; have HS4 := Lib.hid (And.intro (bx hbx2.re) (And.intro (bx hbx2.by_) (And.intro (bx hbx2.st) (bx hbx2.nc)))); have e3 := bx hbx2.re; have e1 := bx hbx2.mx; clear hL hYY hRR ho hb2 hgr2 hbx2))
        go_upto_region 20 with fail
        refine (wpIn_wide (n := n)).1 ?_
        gi_wp2_with (refine ⟨trivial, fun h => (by cases h), ?_⟩; gi_at_call 73; refine (callsIn_wide.2 HP.out).mono ?_; rintro e' w3 ⟨g3, cap3, rfl, hpd⟩; have HPD := Lib.hid hpd; obtain ⟨fn, tmps, assign, body, hy, hR⟩ := HYY.out w3 g3 cap3 hpd)
        refine ⟨fun h => (by cases h), ?_⟩
        refine hR.mono ?_
        rintro e' w4 ⟨rfl, hJ4, hk4⟩
        have HMr := Lib.hid (HRR.out w3 w4 g3 cap3 (e : Int) HPD.out hJ4 hk4)
        have e1' := bx HMr.out.boxes.mx
        clear hy hR hJ4 hk4
        gi_wp2
        go_wp2
        go_roundw
        case measure => simp [intOf]; have := HE.out; omega
        case rel => exact ⟨e, (e : Int), rfl, rfl, HMr⟩
      · have HO := Lib.hid hown
        have HG := Lib.hid (hF (.slice (some ⟨g, 0, none⟩) 0 cap) (.inr ⟨g, cap, rfl, .inr (.inr hown)⟩))
        clear hF hown
        go_wp2
        go_region_held3 (fun w' => w'.cell? ⟨br, 0, none⟩ = some (.pointer (some ⟨R, 0, none⟩)) ∧ w'.cell? ⟨bb, 0, none⟩ = some (.slice none 0 0) ∧ w'.cell? ⟨bs, 0, none⟩ = some (.string s) ∧ w'.cell? ⟨bn, 0, none⟩ = some (.int .i64 nc)) (first | exact ⟨by assumption, by assumption, by assumption, by assumption⟩ | exact HS4.out) (first | (go_at_call 56; refine HG.out.mono ?_; rintro e w2 ⟨v2, rfl, ⟨g2, cap2, hv, ho⟩, hb2, hgr2⟩; subst hv; have ho := ho (by have := HN.out.1; omega); obtain ⟨hm1, hL, hYY, hRR⟩ := HC.out w2 g2 cap2 ho ((Below.refl n1 wr).drew.trans hb2) (it_of ((Below.refl n1 wr).drew.trans hb2) hgr2 (own_row HO.out)); have HP := Lib.hid hL; have HYY := Lib.hid hYY; have HRR := Lib.hid hRR; have hbx2 := HR.out.boxes.below ((Below.refl n1 wr).drew.trans hb2) hbl; have HS4 := Lib.hid (And.intro (bx hbx2.re) (And.intro (bx hbx2.by_) (And.intro (bx hbx2.st) (bx hbx2.nc)))); have e3 := bx hbx2.re; have e1 := bx hbx2.mx; clear hL hYY hRR ho hb2 hgr2 hbx2))
        go_upto_region 20 with fail
        refine (wpIn_wide (n := n)).1 ?_
        gi_wp2_with (refine ⟨trivial, fun h => (by cases h), ?_⟩; gi_at_call 73; refine (callsIn_wide.2 HP.out).mono ?_; rintro e' w3 ⟨g3, cap3, rfl, hpd⟩; have HPD := Lib.hid hpd; obtain ⟨fn, tmps, assign, body, hy, hR⟩ := HYY.out w3 g3 cap3 hpd)
        refine ⟨fun h => (by cases h), ?_⟩
        refine hR.mono ?_
        rintro e' w4 ⟨rfl, hJ4, hk4⟩
        have HMr := Lib.hid (HRR.out w3 w4 g3 cap3 (e : Int) HPD.out hJ4 hk4)
        have e1' := bx HMr.out.boxes.mx
        clear hy hR hJ4 hk4
        gi_wp2
        go_wp2
        go_roundw
        case measure => simp [intOf]; have := HE.out; omega
        case rel => exact ⟨e, (e : Int), rfl, rfl, HMr⟩
end Go.Proofs.YthejepmnnpmdmaaGreatDoor.Sv
end
section
set_option linter.unusedVariables false
set_option linter.unusedSimpArgs false
/- what comes is collected: AppendSeq's round -/
namespace Go.Proofs.YthejepmnnpmdmaaGreatDoor.Sv
open Go Go.RowKit Rx Go.Shelf
set_option maxRecDepth 100000
attribute [local go_sem] Oper.semAt_some
def apAssign : Code := (Code.region 2 #[{ dst := some 5, op := Op.assign (Operand.tmp 7), type := 9, pos := "iter.go:51", after := #[], guard := none }] false)
def apBody : Code := (Code.block 1 (Code.region 3 #[{ dst := some 8, op := Op.load 29 (Operand.tmp 2), type := 29, pos := "iter.go:52", after := #[], guard := none }, { dst := some 9, op := Op.move (Operand.tmp 5), type := 9, pos := "iter.go:52", after := #[], guard := none }, { dst := some 10, op := Op.buildSlice 29 1 #[(0, Operand.tmp 9)], type := 29, pos := "iter.go:52", after := #[{ on := 1, ground := Ground.data }], guard := none }, { dst := some 11, op := Op.call { callee := Callee.builtin Builtin.append, args := #[Operand.tmp 8, Operand.tmp 10], argTypes := #[29, 29] }, type := 29, pos := "iter.go:52", after := #[{ on := 0, ground := Ground.data }, { on := 2, ground := Ground.data }], guard := none }, { dst := none, op := Op.store 29 (Operand.tmp 2) (Operand.tmp 11), type := 0, pos := "iter.go:52", after := #[{ on := 3, ground := Ground.data }, { on := 3, ground := Ground.chain }, { on := 0, ground := Ground.phase }, { on := 1, ground := Ground.phase }, { on := 2, ground := Ground.phase }, { on := 3, ground := Ground.phase }], guard := none }] false))
/-- the loop's record -/
def apRec (fn : FuncId) (sv : Value) (Bs D : Nat) (st : LoopState) (pend : Option Code) : Loop :=
  { state := st, pending := pend, fn, tmps := #[.slice none 0 0, sv, .pointer (some ⟨Bs, 0, none⟩), undef, .slice none 0 0, undef, sv, undef, undef, undef, undef, undef, undef], params := #[7], assign := apAssign, body := apBody, defers := D }
/-- between two rounds -/
structure ApAt (fn : FuncId) (sv : Value) (Bs l D n1 : Nat) (xs : List ByteArray) (W : World) : Prop where
  box : ∃ v, W.heap[Bs]? = some (.cells #[v] 29 (0, 0)) ∧ W.ownsRow n1 9 1 v xs.length (xs.map Value.string) ∧ (v = .slice none 0 0 ↔ xs = [])
  L : W.heap[l]? = some (.loop (apRec fn sv Bs D .ready none))
  K : W.heap[D]? = some (.deferred (some []))
/-- what a round may turn -/
structure Eff (n0 n1 tb te l : Nat) (W W' : World) : Prop where
  kr : KR n0 n1 tb te W W'
  objs : ∀ (k : Nat) (o : Obj), W.heap[k]? = some o → (∀ cs t f, o ≠ .cells cs t f) → k ≠ l → W'.heap[k]? = some o
theorem grown_putObj (W : World) (l : Nat) (o : Obj) : W.grownBy (W.putObj l o) (some l) :=
  ⟨rfl, rfl, rfl, by simp, fun k _ hk => World.putObj_heap_other (fun e => hk (by rw [e]))⟩
theorem grown_setCell (W : World) (b i : Nat) (v : Value) : W.grownBy (W.setCell ⟨b, i, none⟩ v) (some b) :=
  ⟨rfl, rfl, rfl, by simp, fun k _ hk => heap_setCell_other _ _ _ _ (fun e => hk (by rw [e]))⟩
theorem own_ne {W : World} {base : Nat} {e : TypeId} {size : Nat} {v : Value} {k : Nat} {xs : List Value} (h : W.ownsRow base e size v k xs) {j : Nat} {o : Obj} (hj : W.heap[j]? = some o) (hno : ∀ cur, o ≠ .cells cur e (0, 0)) :
    v.ownBlock = none ∨ v.ownBlock ≠ some j := by
  rcases h.2 with ⟨rfl, _⟩ | ⟨g, cap, cur, rfl, _, hgb, _⟩
  · exact .inl rfl
  · refine .inr fun e' => ?_
    have : g = j := by simpa [Value.ownBlock] using e'
    subst this; rw [hgb] at hj; cases hj; exact hno cur rfl
theorem box_cell {W : World} {B : Nat} {v : Value} {t : TypeId} (h : W.heap[B]? = some (.cells #[v] t (0, 0))) : W.cell? ⟨B, 0, none⟩ = some v ∧ W.frozen? ⟨B, 0, none⟩ = false := ⟨cell_of_row _ _ 0 _ _ _ h, frozen_of_row _ _ _ _ _ h⟩
theorem box_set {W : World} {B : Nat} {v : Value} {t : TypeId} (v' : Value) (h : W.heap[B]? = some (.cells #[v] t (0, 0))) : (W.setCell ⟨B, 0, none⟩ v').heap[B]? = some (.cells #[v'] t (0, 0)) := by
  rw [heap_setCell_same W B 0 _ t v' h]; rfl
set_option maxHeartbeats 2000000 in
theorem apY (m : Nat) (fn : FuncId) (sv : Value) (Bs l D n0 n1 : Nat) (hBl : Bs ≠ l) (hDl : D ≠ l) (hDB : D ≠ Bs) (h01 : n0 ≤ n1) (h0B : n0 ≤ Bs) (h0l : n0 ≤ l) (hB1 : Bs < n1) (xs : List ByteArray) (x : ByteArray) (W : World) (h : ApAt fn sv Bs l D n1 xs W) (hlen : xs.length < 100000) (hW : n1 ≤ W.heap.size) :
    YieldAt Fence.wide m Tryz.prog l #[.string x] W fun e W' => e = .returned (.bool true) ∧ ApAt fn sv Bs l D n1 (xs ++ [x]) W' ∧ Eff n0 n1 29 9 l W W' := by
  obtain ⟨i0, hi, hz0, hz1, hz2⟩ := info_parts info9
  obtain ⟨v, hv, hrow, _⟩ := h.box
  refine ⟨fn, #[.slice none 0 0, sv, .pointer (some ⟨Bs, 0, none⟩), undef, .slice none 0 0, undef, sv, .string x, undef, undef, undef, undef, undef], apAssign, apBody, by simpa [apRec] using run_yield (P := Tryz.prog) (args := #[.string x]) h.L rfl, roundIn_of_wpIn trivial ?_⟩
  have hl : l < W.heap.size := (Array.getElem?_eq_some_iff.1 h.L).1
  have hbr := run_beginRound (P := Tryz.prog) h.L rfl
  obtain ⟨W2, hW2⟩ : ∃ W2, W.putObj l (.loop { apRec fn sv Bs D .ready none with state := .busy }) = W2 := ⟨_, rfl⟩
  rw [hW2] at hbr
  have hg2 : W.grownBy W2 (some l) := by rw [← hW2]; exact grown_putObj _ _ _
  have hs2 : W.heap.size ≤ W2.heap.size := by rw [← hW2]; simp
  have hv2 : W2.heap[Bs]? = some (.cells #[v] 29 (0, 0)) := by rw [← hW2]; exact (World.putObj_heap_other hBl).trans hv
  have hK2 : W2.heap[D]? = some (.deferred (some [])) := by rw [← hW2]; exact (World.putObj_heap_other hDl).trans h.K
  have hL2 : W2.heap[l]? = some (.loop { apRec fn sv Bs D .ready none with state := .busy }) := by rw [← hW2]; exact World.putObj_heap_same hl
  have hrow2 : W2.ownsRow n1 9 1 v xs.length (xs.map Value.string) := hrow.kept hg2 (own_ne hrow h.L (fun cur e => by cases e))
  obtain ⟨hc2, hf2⟩ := box_cell hv2
  have hBlt : Bs < W2.heap.size := (Array.getElem?_eq_some_iff.1 hv2).1
  have hl2 : l < W2.heap.size := (Array.getElem?_eq_some_iff.1 hL2).1
  have hDlt : D < W2.heap.size := (Array.getElem?_eq_some_iff.1 hK2).1
  have ne_of : ∀ {j : Nat} {o : Obj}, W2.heap[j]? = some o → (∀ cur, o ≠ .cells cur 9 (0, 0)) → some j ≠ v.ownBlock := fun hj hno => by
    rcases own_ne hrow2 hj hno with e | e
    · rw [e]; simp
    · exact fun e' => e e'.symm
  have hown2 := hrow2.lt
  clear hW2
  unfold apAssign
  gi_wp2
  unfold apBody
  gi_wp2_with (gi_at_builtin; refine wpListIn_append_own _ rfl _ _ 29 rfl n1 9 i0 (.string ⟨#[]⟩) 1 16 Tryz.underlying29 hi hz0 hz1 hz2 rfl (by decide) _ _ _ rfl (hrow2.alloc _) ⟨W2.heap.size, 0, none⟩ 1 1 [.string x] rfl rfl (cell_one_new _ _ _) (by simp [Value.oneCell']) (by unfold maxLen; omega) (by omega) (by simp; omega) ?_; intro v' w3 hown' hg3 hnil3; have hv3 : w3.heap[Bs]? = some (.cells #[v] 29 (0, 0)) := (hg3.block Bs (by simp; omega) (ne_of hv2 (fun cur e => by cases e))).trans ((Below.heap_alloc _ _ Bs hBlt).trans hv2); obtain ⟨hc3, hf3⟩ := box_cell hv3; obtain ⟨g', cap', hv', _⟩ := World.ownsRow.form hown' (by omega); subst hv'; go_frame)
  have hL3 : w3.heap[l]? = some (.loop { apRec fn sv Bs D .ready none with state := .busy }) := (hg3.block l (by simp; omega) (ne_of hL2 (fun cur e => by cases e))).trans ((Below.heap_alloc _ _ l hl2).trans hL2)
  have hK3 : w3.heap[D]? = some (.deferred (some [])) := (hg3.block D (by simp; omega) (ne_of hK2 (fun cur e => by cases e))).trans ((Below.heap_alloc _ _ D hDlt).trans hK2)
  have hb3 : Below n0 W w3 := ((((Below.refl n0 W).grown hg2 (by omega) (fun k e => by have : l = k := Option.some.inj e; omega)).alloc (by omega) _).grown hg3 (by simp; omega) (fun k e => by have := (hown2 k e).1; omega))
  have same3 : ∀ (k : Nat) (o : Obj), W.heap[k]? = some o → k ≠ l → some k ≠ v.ownBlock → w3.heap[k]? = some o := fun k o hk h1 h2 => by
    have hk1 := (Array.getElem?_eq_some_iff.1 hk).1
    rw [hg3.block k (by simp; omega) h2, Below.heap_alloc _ _ k (by omega), hg2.block k hk1 (fun e => h1 (Option.some.inj e)), hk]
  generalize hw4 : w3.setCell ⟨Bs, 0, none⟩ (.slice (some ⟨g', 0, none⟩) (xs.length + 1) cap') = w4
  have hg4 : w3.grownBy w4 (some Bs) := by rw [← hw4]; exact grown_setCell _ _ _ _
  have hv4 : w4.heap[Bs]? = some (.cells #[.slice (some ⟨g', 0, none⟩) (xs.length + 1) cap'] 29 (0, 0)) := by rw [← hw4]; exact box_set _ hv3
  have o4 : ∀ k, k ≠ Bs → w4.heap[k]? = w3.heap[k]? := fun k hk => by rw [← hw4]; exact heap_setCell_other _ _ _ _ hk
  have hL4 := (o4 l (fun e => hBl e.symm)).trans hL3
  have hb4 : Below n0 W w4 := by rw [← hw4]; exact hb3.setCell (p := ⟨Bs, 0, none⟩) h0B _
  have hl4 : l < w4.heap.size := (Array.getElem?_eq_some_iff.1 hL4).1
  clear hw4
  refine ⟨_, _, run_endRound none hL4, rfl, ⟨⟨_, (World.putObj_heap_other hBl).trans hv4, ?_, by simp⟩, World.putObj_heap_same hl4, (World.putObj_heap_other hDl).trans ((o4 D hDB).trans hK3)⟩, ⟨hb4.grown (grown_putObj _ _ _) (by have := hb4.size; omega) (fun k e => by have : l = k := Option.some.inj e; omega), fun k cs t f hk ht hte => ?_⟩, fun k o hk ho hkl => ?_⟩
  · have hown4 : w4.ownsRow n1 9 1 (.slice (some ⟨g', 0, none⟩) (xs.length + 1) cap') (xs.length + 1) (xs.map Value.string ++ [.string x]) := own_of hown' fun g2 cur hg2 hcur => o4 g2 (typ_ne hcur hv3 (by decide))
    have := own_of hown4 (w' := w4.putObj l (.loop { apRec fn sv Bs D .ready none with state := (if (none : Option Code).isNone then .ready else .done), pending := none })) fun g2 cur hg2 hcur => World.putObj_heap_other (fun e => by rw [e, hL4] at hcur; cases hcur)
    simpa using this
  · have hkl : k ≠ l := fun e => by rw [e, h.L] at hk; cases hk
    have hkB : k ≠ Bs := typ_ne hk hv ht
    rw [World.putObj_heap_other hkl, o4 k hkB]
    refine same3 k _ hk hkl (fun e => ?_)
    rcases hte with h9 | h1
    · rcases own_ne hrow hk (fun cur e' => h9 (by injection e')) with e' | e'
      · rw [e'] at e; cases e
      · exact e' e.symm
    · have := (hrow.lt k e.symm).1; omega
  · have hkB : k ≠ Bs := fun e => by rw [e, hv] at hk; exact ho _ _ _ (Option.some.inj hk).symm
    rw [World.putObj_heap_other hkl, o4 k hkB]
    refine same3 k o hk hkl ?_
    rcases own_ne hrow hk (fun cur => ho _ _ _) with e | e
    · rw [e]; simp
    · exact fun e' => e e'.symm
end Go.Proofs.YthejepmnnpmdmaaGreatDoor.Sv
end
section
set_option linter.unusedVariables false
set_option linter.unusedSimpArgs false
/- allString's round: the region that draws its order, walked by what is listed -/
namespace Go.Proofs.YthejepmnnpmdmaaGreatDoor.Sv
open Go Go.RowKit Rx Go.Shelf
set_option maxRecDepth 100000
attribute [local go_sem] Oper.semAt_some
def asOps : Array Oper := #[{ dst := some 11, op := Op.load 26 (Operand.tmp 4), type := 26, pos := "regexp.go:250", after := #[], guard := none }, { dst := some 12, op := Op.load 9 (Operand.tmp 2), type := 9, pos := "regexp.go:250", after := #[], guard := none }, { dst := some 13, op := Op.move (Operand.tmp 5), type := 119, pos := "regexp.go:250", after := #[], guard := none }, { dst := some 14, op := Op.indexAddr 119 (Operand.tmp 13) (Operand.const (Value.int IntKind.i64 0)), type := 0, pos := "regexp.go:250", after := #[{ on := 2, ground := Ground.data }], guard := none }, { dst := some 15, op := Op.load 3 (Operand.tmp 14), type := 3, pos := "regexp.go:250", after := #[{ on := 3, ground := Ground.data }], guard := none }, { dst := some 16, op := Op.move (Operand.tmp 5), type := 119, pos := "regexp.go:250", after := #[], guard := none }, { dst := some 17, op := Op.indexAddr 119 (Operand.tmp 16) (Operand.const (Value.int IntKind.i64 1)), type := 0, pos := "regexp.go:250", after := #[{ on := 5, ground := Ground.data }], guard := none }, { dst := some 18, op := Op.load 3 (Operand.tmp 17), type := 3, pos := "regexp.go:250", after := #[{ on := 6, ground := Ground.data }], guard := none }, { dst := some 19, op := Op.slice 9 (Operand.tmp 12) (some (Operand.tmp 15)) (some (Operand.tmp 18)) none, type := 9, pos := "regexp.go:250", after := #[{ on := 1, ground := Ground.data }, { on := 4, ground := Ground.data }, { on := 7, ground := Ground.data }], guard := none }, { dst := some 20, op := Op.call { callee := Callee.value (Operand.tmp 11), args := #[Operand.tmp 19], argTypes := #[9] }, type := 4, pos := "regexp.go:250", after := #[{ on := 0, ground := Ground.data }, { on := 8, ground := Ground.data }], guard := none }, { dst := some 21, op := Op.unOp UnOp.not 4 (Operand.tmp 20), type := 4, pos := "regexp.go:250", after := #[{ on := 9, ground := Ground.data }], guard := none }]
/-- what is listed -/
def lst (l : Nat → Bool) : Array Bool := #[l 0, l 1, l 2, l 3, l 4, l 5, l 6, l 7, l 8, false, false]
def upd (l : Nat → Bool) (i : Nat) : Nat → Bool := fun j => if j = i then true else l j
/-- the frame, when so much is listed -/
def asSt (l : Nat → Bool) (a0 a1 a2 a3 a4 a5 a6 a7 a8 a9 a10 : Value) (vs : Nat → Value) : Act :=
  { tmps := #[a0, a1, a2, a3, a4, a5, a6, a7, a8, a9, a10, if l 0 then vs 0 else undef, if l 1 then vs 1 else undef, if l 2 then vs 2 else undef, if l 3 then vs 3 else undef, if l 4 then vs 4 else undef, if l 5 then vs 5 else undef, if l 6 then vs 6 else undef, if l 7 then vs 7 else undef, if l 8 then vs 8 else undef, undef, undef], defers := [] }
def cntL (l : Nat → Bool) : Nat := (l 0).toNat + (l 1).toNat + (l 2).toNat + (l 3).toNat + (l 4).toNat + (l 5).toNat + (l 6).toNat + (l 7).toNat + (l 8).toNat
structure ConsL (l : Nat → Bool) : Prop where
  c3 : l 3 = true → l 2 = true
  c4 : l 4 = true → l 3 = true
  c6 : l 6 = true → l 5 = true
  c7 : l 7 = true → l 6 = true
  c8 : l 8 = true → l 1 = true ∧ l 4 = true ∧ l 7 = true
theorem ready_some : ∀ b0 b1 b2 b3 b4 b5 b6 b7 b8 : Bool, (b3 = true → b2 = true) → (b4 = true → b3 = true) → (b6 = true → b5 = true) → (b7 = true → b6 = true) → (b8 = true → b1 = true ∧ b4 = true ∧ b7 = true) → (Region.ready .any asOps #[b0, b1, b2, b3, b4, b5, b6, b7, b8, false, false]).isEmpty = true → False := by decide +kernel
theorem cnt_upd (l : Nat → Bool) (i : Nat) (hi : i < 9) (h : l i = false) : cntL (upd l i) = cntL l + 1 := by
  have : i = 0 ∨ i = 1 ∨ i = 2 ∨ i = 3 ∨ i = 4 ∨ i = 5 ∨ i = 6 ∨ i = 7 ∨ i = 8 := by omega
  rcases this with rfl | rfl | rfl | rfl | rfl | rfl | rfl | rfl | rfl <;> simp [cntL, upd, h] <;> omega
theorem lst_upd (l : Nat → Bool) (i : Nat) (hi : i < 9) : (lst l).setIfInBounds i true = lst (upd l i) := by
  have : i = 0 ∨ i = 1 ∨ i = 2 ∨ i = 3 ∨ i = 4 ∨ i = 5 ∨ i = 6 ∨ i = 7 ∨ i = 8 := by omega
  rcases this with rfl | rfl | rfl | rfl | rfl | rfl | rfl | rfl | rfl <;> simp [lst, upd]
theorem ConsL.up {l : Nat → Bool} (h : ConsL l) (i : Nat) (h3 : i = 3 → l 2 = true) (h4 : i = 4 → l 3 = true) (h6 : i = 6 → l 5 = true) (h7 : i = 7 → l 6 = true) (h8 : i = 8 → l 1 = true ∧ l 4 = true ∧ l 7 = true) : ConsL (upd l i) := by
  have up : ∀ j, l j = true → upd l i j = true := fun j hj => by unfold upd; split <;> simp [hj]
  refine ⟨fun hh => up 2 ?_, fun hh => up 3 ?_, fun hh => up 5 ?_, fun hh => up 6 ?_, fun hh => ?_⟩
  · by_cases e : i = 3
    · exact h3 e
    · exact h.c3 (by simpa [upd, Ne.symm e] using hh)
  · by_cases e : i = 4
    · exact h4 e
    · exact h.c4 (by simpa [upd, Ne.symm e] using hh)
  · by_cases e : i = 6
    · exact h6 e
    · exact h.c6 (by simpa [upd, Ne.symm e] using hh)
  · by_cases e : i = 7
    · exact h7 e
    · exact h.c7 (by simpa [upd, Ne.symm e] using hh)
  · have : l 1 = true ∧ l 4 = true ∧ l 7 = true := by
      by_cases e : i = 8
      · exact h8 e
      · exact h.c8 (by simpa [upd, Ne.symm e] using hh)
    exact ⟨up 1 this.1, up 4 this.2.1, up 7 this.2.2⟩
/-- the values, in the operations' order -/
def asVals (l1 g pl cap p e : Nat) (s : ByteArray) : Nat → Value
  | 0 => .func (.yield l1) #[] #[]
  | 1 => .string s
  | 2 => .slice (some ⟨g, 0, none⟩) pl cap
  | 3 => .pointer (some ⟨g, 0, none⟩)
  | 4 => .int .i64 p
  | 5 => .slice (some ⟨g, 0, none⟩) pl cap
  | 6 => .pointer (some ⟨g, 1, none⟩)
  | 7 => .int .i64 e
  | 8 => .string (s.extract p e)
  | _ => undef
set_option maxHeartbeats 2000000 in
theorem reg3 (m l1 l2 Y s0 g pl cap p e : Nat) (s : ByteArray) (a0 a1 a3 a6 a7 a8 a9 a10 : Value) (w : World) (Q : Exit → Act → World → Prop) (hY : w.cell? ⟨Y, 0, none⟩ = some (.func (.yield l1) #[] #[])) (hS : w.cell? ⟨s0, 0, none⟩ = some (.string s))
    (h0 : w.cell? ⟨g, 0, none⟩ = some (.int .i64 p)) (h1 : w.cell? ⟨g, 1, none⟩ = some (.int .i64 e)) (hpl : (1 : Int) < (pl : Int)) (hpe : (p : Int) ≤ (e : Int)) (hes : (e : Int) ≤ (s.size : Int))
    (fin : wpAnyIn (Fence.wide.inRound l2) m Tryz.prog .any asOps Q 2 (lst fun _ => true) (asSt (fun _ => true) a0 a1 (.pointer (some ⟨s0, 0, none⟩)) a3 (.pointer (some ⟨Y, 0, none⟩)) (.slice (some ⟨g, 0, none⟩) pl cap) a6 a7 a8 a9 a10 (asVals l1 g pl cap p e s)) w) :
    ∀ (c : Nat) (l : Nat → Bool), cntL l + c = 9 → ConsL l → wpAnyIn (Fence.wide.inRound l2) m Tryz.prog .any asOps Q (c + 2) (lst l) (asSt l a0 a1 (.pointer (some ⟨s0, 0, none⟩)) a3 (.pointer (some ⟨Y, 0, none⟩)) (.slice (some ⟨g, 0, none⟩) pl cap) a6 a7 a8 a9 a10 (asVals l1 g pl cap p e s)) w := by
  have hpl0 : (0 : Int) < (pl : Int) := by omega
  have hpl0' : 0 < pl := by omega
  have tl : ∀ b : Bool, b.toNat ≤ 1 := fun b => by cases b <;> decide
  have full : ∀ l : Nat → Bool, cntL l = 9 → l 0 = true ∧ l 1 = true ∧ l 2 = true ∧ l 3 = true ∧ l 4 = true ∧ l 5 = true ∧ l 6 = true ∧ l 7 = true ∧ l 8 = true := fun l h => by
    unfold cntL at h
    have hb : ∀ b : Bool, b.toNat = 1 → b = true := fun b => by cases b <;> simp
    have h0 := tl (l 0); have h1 := tl (l 1); have h2 := tl (l 2); have h3 := tl (l 3); have h4 := tl (l 4); have h5 := tl (l 5); have h6 := tl (l 6); have h7 := tl (l 7); have h8 := tl (l 8)
    exact ⟨hb _ (by omega), hb _ (by omega), hb _ (by omega), hb _ (by omega), hb _ (by omega), hb _ (by omega), hb _ (by omega), hb _ (by omega), hb _ (by omega)⟩
  intro c
  induction c with
  | zero =>
    intro l hl hc
    obtain ⟨e0, e1, e2, e3, e4, e5, e6, e7, e8⟩ := full l (by omega)
    have h1 : lst l = lst fun _ => true := by simp [lst, e0, e1, e2, e3, e4, e5, e6, e7, e8]
    have h2 : asSt l a0 a1 (.pointer (some ⟨s0, 0, none⟩)) a3 (.pointer (some ⟨Y, 0, none⟩)) (.slice (some ⟨g, 0, none⟩) pl cap) a6 a7 a8 a9 a10 (asVals l1 g pl cap p e s) = asSt (fun _ => true) a0 a1 (.pointer (some ⟨s0, 0, none⟩)) a3 (.pointer (some ⟨Y, 0, none⟩)) (.slice (some ⟨g, 0, none⟩) pl cap) a6 a7 a8 a9 a10 (asVals l1 g pl cap p e s) := by simp [asSt, e0, e1, e2, e3, e4, e5, e6, e7, e8]
    rw [h1, h2]
    exact fin
  | succ c ih =>
    intro l hl hc
    refine ⟨fun h => ?_, fun j hj => ?_⟩
    · exact (ready_some (l 0) (l 1) (l 2) (l 3) (l 4) (l 5) (l 6) (l 7) (l 8) hc.c3 hc.c4 hc.c6 hc.c7 hc.c8 (by unfold lst at h; rw [h]; rfl)).elim
    obtain ⟨hjun, oj, hoj, hall⟩ := mem_ready.1 hj
    have hj11 : j < 11 := (Array.getElem?_eq_some_iff.1 hoj).1
    have hjs : j = 0 ∨ j = 1 ∨ j = 2 ∨ j = 3 ∨ j = 4 ∨ j = 5 ∨ j = 6 ∨ j = 7 ∨ j = 8 ∨ j = 9 ∨ j = 10 := by omega
    rcases hjs with rfl | rfl | rfl | rfl | rfl | rfl | rfl | rfl | rfl | rfl | rfl
    · obtain rfl : oj = asOps[0] := (Option.some.inj hoj).symm
      have hz : l 0 = false := by simpa [lst] using hjun
      have hn := ih (upd l 0) (by have := cnt_upd l 0 (by decide) hz; omega) (hc.up 0 (fun h => by omega) (fun h => by omega) (fun h => by omega) (fun h => by omega) (fun h => by omega))
      rw [← lst_upd l 0 (by decide)] at hn
      refine wpOpIn_step rfl (fun K' hK => ?_)
      have hn := hK _ _ hn
      clear hK hall hj hjun hoj ih hl hc fin
      unfold asSt at hn ⊢
      simp only [asOps, List.getElem_toArray, List.getElem_cons_succ, List.getElem_cons_zero]
      simp only [asVals]
      go_simp
      simpa [upd, hz, asVals, hz] using hn
    · obtain rfl : oj = asOps[1] := (Option.some.inj hoj).symm
      have hz : l 1 = false := by simpa [lst] using hjun
      have hn := ih (upd l 1) (by have := cnt_upd l 1 (by decide) hz; omega) (hc.up 1 (fun h => by omega) (fun h => by omega) (fun h => by omega) (fun h => by omega) (fun h => by omega))
      rw [← lst_upd l 1 (by decide)] at hn
      refine wpOpIn_step rfl (fun K' hK => ?_)
      have hn := hK _ _ hn
      clear hK hall hj hjun hoj ih hl hc fin
      unfold asSt at hn ⊢
      simp only [asOps, List.getElem_toArray, List.getElem_cons_succ, List.getElem_cons_zero]
      simp only [asVals]
      go_simp
      simpa [upd, hz, asVals, hz] using hn
    · obtain rfl : oj = asOps[2] := (Option.some.inj hoj).symm
      have hz : l 2 = false := by simpa [lst] using hjun
      have hn := ih (upd l 2) (by have := cnt_upd l 2 (by decide) hz; omega) (hc.up 2 (fun h => by omega) (fun h => by omega) (fun h => by omega) (fun h => by omega) (fun h => by omega))
      rw [← lst_upd l 2 (by decide)] at hn
      refine wpOpIn_step rfl (fun K' hK => ?_)
      have hn := hK _ _ hn
      clear hK hall hj hjun hoj ih hl hc fin
      unfold asSt at hn ⊢
      simp only [asOps, List.getElem_toArray, List.getElem_cons_succ, List.getElem_cons_zero]
      simp only [asVals]
      go_simp
      simpa [upd, hz, asVals, hz] using hn
    · obtain rfl : oj = asOps[3] := (Option.some.inj hoj).symm
      have d2 : l 2 = true := by simpa [lst] using hall ⟨2, Ground.data⟩ (by simp [asOps]) (by rfl)
      have hz : l 3 = false := by simpa [lst] using hjun
      have hn := ih (upd l 3) (by have := cnt_upd l 3 (by decide) hz; omega) (hc.up 3 (fun _ => d2) (fun h => by omega) (fun h => by omega) (fun h => by omega) (fun h => by omega))
      rw [← lst_upd l 3 (by decide)] at hn
      refine wpOpIn_step rfl (fun K' hK => ?_)
      have hn := hK _ _ hn
      clear hK hall hj hjun hoj ih hl hc fin
      unfold asSt at hn ⊢
      simp only [asOps, List.getElem_toArray, List.getElem_cons_succ, List.getElem_cons_zero]
      simp only [d2, if_true, asVals]
      go_simp
      simpa [upd, hz, asVals, d2] using hn
    · obtain rfl : oj = asOps[4] := (Option.some.inj hoj).symm
      have d3 : l 3 = true := by simpa [lst] using hall ⟨3, Ground.data⟩ (by simp [asOps]) (by rfl)
      have hz : l 4 = false := by simpa [lst] using hjun
      have hn := ih (upd l 4) (by have := cnt_upd l 4 (by decide) hz; omega) (hc.up 4 (fun h => by omega) (fun _ => d3) (fun h => by omega) (fun h => by omega) (fun h => by omega))
      rw [← lst_upd l 4 (by decide)] at hn
      refine wpOpIn_step rfl (fun K' hK => ?_)
      have hn := hK _ _ hn
      clear hK hall hj hjun hoj ih hl hc fin
      unfold asSt at hn ⊢
      simp only [asOps, List.getElem_toArray, List.getElem_cons_succ, List.getElem_cons_zero]
      simp only [d3, if_true, asVals]
      go_simp
      simpa [upd, hz, asVals, d3] using hn
    · obtain rfl : oj = asOps[5] := (Option.some.inj hoj).symm
      have hz : l 5 = false := by simpa [lst] using hjun
      have hn := ih (upd l 5) (by have := cnt_upd l 5 (by decide) hz; omega) (hc.up 5 (fun h => by omega) (fun h => by omega) (fun h => by omega) (fun h => by omega) (fun h => by omega))
      rw [← lst_upd l 5 (by decide)] at hn
      refine wpOpIn_step rfl (fun K' hK => ?_)
      have hn := hK _ _ hn
      clear hK hall hj hjun hoj ih hl hc fin
      unfold asSt at hn ⊢
      simp only [asOps, List.getElem_toArray, List.getElem_cons_succ, List.getElem_cons_zero]
      simp only [asVals]
      go_simp
      simpa [upd, hz, asVals, hz] using hn
    · obtain rfl : oj = asOps[6] := (Option.some.inj hoj).symm
      have d5 : l 5 = true := by simpa [lst] using hall ⟨5, Ground.data⟩ (by simp [asOps]) (by rfl)
      have hz : l 6 = false := by simpa [lst] using hjun
      have hn := ih (upd l 6) (by have := cnt_upd l 6 (by decide) hz; omega) (hc.up 6 (fun h => by omega) (fun h => by omega) (fun _ => d5) (fun h => by omega) (fun h => by omega))
      rw [← lst_upd l 6 (by decide)] at hn
      refine wpOpIn_step rfl (fun K' hK => ?_)
      have hn := hK _ _ hn
      clear hK hall hj hjun hoj ih hl hc fin
      unfold asSt at hn ⊢
      simp only [asOps, List.getElem_toArray, List.getElem_cons_succ, List.getElem_cons_zero]
      simp only [d5, if_true, asVals]
      go_simp
      simpa [upd, hz, asVals, d5] using hn
    · obtain rfl : oj = asOps[7] := (Option.some.inj hoj).symm
      have d6 : l 6 = true := by simpa [lst] using hall ⟨6, Ground.data⟩ (by simp [asOps]) (by rfl)
      have hz : l 7 = false := by simpa [lst] using hjun
      have hn := ih (upd l 7) (by have := cnt_upd l 7 (by decide) hz; omega) (hc.up 7 (fun h => by omega) (fun h => by omega) (fun h => by omega) (fun _ => d6) (fun h => by omega))
      rw [← lst_upd l 7 (by decide)] at hn
      refine wpOpIn_step rfl (fun K' hK => ?_)
      have hn := hK _ _ hn
      clear hK hall hj hjun hoj ih hl hc fin
      unfold asSt at hn ⊢
      simp only [asOps, List.getElem_toArray, List.getElem_cons_succ, List.getElem_cons_zero]
      simp only [d6, if_true, asVals]
      go_simp
      simpa [upd, hz, asVals, d6] using hn
    · obtain rfl : oj = asOps[8] := (Option.some.inj hoj).symm
      have d1 : l 1 = true := by simpa [lst] using hall ⟨1, Ground.data⟩ (by simp [asOps]) (by rfl)
      have d4 : l 4 = true := by simpa [lst] using hall ⟨4, Ground.data⟩ (by simp [asOps]) (by rfl)
      have d7 : l 7 = true := by simpa [lst] using hall ⟨7, Ground.data⟩ (by simp [asOps]) (by rfl)
      have hz : l 8 = false := by simpa [lst] using hjun
      have hn := ih (upd l 8) (by have := cnt_upd l 8 (by decide) hz; omega) (hc.up 8 (fun h => by omega) (fun h => by omega) (fun h => by omega) (fun h => by omega) (fun _ => ⟨d1, d4, d7⟩))
      rw [← lst_upd l 8 (by decide)] at hn
      refine wpOpIn_step rfl (fun K' hK => ?_)
      have hn := hK _ _ hn
      clear hK hall hj hjun hoj ih hl hc fin
      unfold asSt at hn ⊢
      simp only [asOps, List.getElem_toArray, List.getElem_cons_succ, List.getElem_cons_zero]
      simp only [d1, d4, d7, if_true, asVals]
      go_simp
      simpa [upd, hz, asVals, d1, d4, d7] using hn
    · exfalso
      obtain rfl : oj = asOps[9] := (Option.some.inj hoj).symm
      have e0 : l 0 = true := by simpa [lst] using hall ⟨0, Ground.data⟩ (by simp [asOps]) (by rfl)
      have e8 : l 8 = true := by simpa [lst] using hall ⟨8, Ground.data⟩ (by simp [asOps]) (by rfl)
      obtain ⟨e1, e4, e7⟩ := hc.c8 e8
      have e3 := hc.c4 e4
      have e2 := hc.c3 e3
      have e6 := hc.c7 e7
      have e5 := hc.c6 e6
      simp [cntL, e0, e1, e2, e3, e4, e5, e6, e7, e8] at hl
    · exfalso
      obtain rfl : oj = asOps[10] := (Option.some.inj hoj).symm
      have e9 := hall ⟨9, Ground.data⟩ (by simp [asOps]) (by rfl)
      simp [lst] at e9
/-- the call of yield, and what is left -/
theorem reg3_fin (m l1 l2 Y s0 g pl cap p e : Nat) (s : ByteArray) (a0 a1 a3 a6 a7 a8 a9 a10 : Value) (w : World) (Q : Exit → Act → World → Prop) {fn : FuncId} {tmps : Array Value} {assign body : Code} {Rp : World → Prop}
    (hy : (Instr.yield l1 #[.string (s.extract p e)]).run Tryz.prog w = .ok (.round l1 fn tmps assign body) w) (hR : RoundIn Fence.wide (m - 1) Tryz.prog l1 fn tmps assign body w fun e w' => e = .returned (.bool true) ∧ Rp w')
    (hQ : ∀ w', Rp w' → Q .normal { tmps := #[a0, a1, .pointer (some ⟨s0, 0, none⟩), a3, .pointer (some ⟨Y, 0, none⟩), .slice (some ⟨g, 0, none⟩) pl cap, a6, a7, a8, a9, a10, .func (.yield l1) #[] #[], .string s, .slice (some ⟨g, 0, none⟩) pl cap, .pointer (some ⟨g, 0, none⟩), .int .i64 p, .slice (some ⟨g, 0, none⟩) pl cap, .pointer (some ⟨g, 1, none⟩), .int .i64 e, .string (s.extract p e), .bool true, .bool false], defers := [] } w') :
    wpAnyIn (Fence.wide.inRound l2) m Tryz.prog .any asOps Q 2 (lst fun _ => true) (asSt (fun _ => true) a0 a1 (.pointer (some ⟨s0, 0, none⟩)) a3 (.pointer (some ⟨Y, 0, none⟩)) (.slice (some ⟨g, 0, none⟩) pl cap) a6 a7 a8 a9 a10 (asVals l1 g pl cap p e s)) w := by
  refine wpAnyIn_ready (rs := [9]) (by kernel_rfl) (by simp) (AllReadyIn.cons rfl (fun K' hK => ?_) AllReadyIn.nil)
  unfold asSt
  simp only [asOps, List.getElem_toArray, List.getElem_cons_succ, List.getElem_cons_zero, asVals, if_true]
  go_simp
  refine ⟨fun h => (by cases h), ?_⟩
  refine RoundIn.mono (F := Fence.wide.inRound l2) hR ?_
  rintro e' w3 ⟨rfl, hp⟩
  refine hK _ _ ?_
  clear hK K'
  refine wpAnyIn_ready (rs := [10]) (by kernel_rfl) (by simp) (AllReadyIn.cons rfl (fun K' hK => ?_) AllReadyIn.nil)
  simp only [asOps, List.getElem_toArray, List.getElem_cons_succ, List.getElem_cons_zero]
  go_simp
  refine hK _ _ ?_
  refine wpAnyIn_done (by kernel_rfl) ?_ _
  have := hQ w3 hp
  simpa using this
end Go.Proofs.YthejepmnnpmdmaaGreatDoor.Sv
end
section
set_option linter.unusedVariables false
set_option linter.unusedSimpArgs false
/- each match's text is handed on: allString's round -/
namespace Go.Proofs.YthejepmnnpmdmaaGreatDoor.Sv
open Go Go.RowKit Rx Go.Shelf
set_option maxRecDepth 100000
attribute [local go_sem] Oper.semAt_some
def asAssign : Code := (Code.region 2 #[{ dst := some 5, op := Op.assign (Operand.tmp 10), type := 119, pos := "regexp.go:249", after := #[], guard := none }] false)
def asBody : Code := (Code.block 1 ((Code.region 3 asOps true).seq (Code.cond (Operand.tmp 21) (Code.exit 0) Code.skip)))
/-- allString's temporaries where the loop is entered -/
def asTmps (l1 re0 s0 n0 Y R : Nat) (s : ByteArray) (it : Value) : Array Value := #[.func (.yield l1) #[] #[], .pointer (some ⟨re0, 0, none⟩), .pointer (some ⟨s0, 0, none⟩), .pointer (some ⟨n0, 0, none⟩), .pointer (some ⟨Y, 0, none⟩), undef, .pointer (some ⟨R, 0, none⟩), .string s, .int .i64 (-1), it, undef, undef, undef, undef, undef, undef, undef, undef, undef, undef, undef, undef]
def asRec (fn : FuncId) (tmps : Array Value) (D : Nat) (st : LoopState) (pend : Option Code) : Loop :=
  { state := st, pending := pend, fn, tmps, params := #[10], assign := asAssign, body := asBody, defers := D }
/-- a match's text -/
def mtext (s : ByteArray) (m : Nat × List (Nat × Nat)) : ByteArray := s.extract m.1 ((lastW m.2 1).getD 0)
/-- between two matches -/
structure MAt (w0 : World) (fn1 : FuncId) (sv1 : Value) (Bs l1 D1 n1 : Nat) (fn2 : FuncId) (tmps2 : Array Value) (l2 D2 Y s0 : Nat) (s : ByteArray) (ms : List (Nat × List (Nat × Nat))) (k : Nat) (W : World) : Prop where
  ap : ApAt fn1 sv1 Bs l1 D1 n1 ((ms.take k).map (mtext s)) W
  L2 : W.heap[l2]? = some (.loop (asRec fn2 tmps2 D2 .ready none))
  K2 : W.heap[D2]? = some (.deferred (some []))
  yb : W.heap[Y]? = some (.cells #[.func (.yield l1) #[] #[]] 26 (0, 0))
  sb : W.heap[s0]? = some (.cells #[.string s] 9 (0, 0))
  below : Below w0.heap.size w0 W
  size : n1 ≤ W.heap.size
theorem ApAt.it {fn : FuncId} {sv : Value} {Bs l D n1 : Nat} {xs : List ByteArray} {A B : World} (h : ApAt fn sv Bs l D n1 xs A) (hi : IT n1 A B) : ApAt fn sv Bs l D n1 xs B := by
  obtain ⟨v, h1, h2, h3⟩ := h.box
  exact ⟨⟨v, hi.same _ _ h1 (fun c e => by injection e with _ e _; cases e), own_of h2 (fun g cur hg hc => by rw [hi.same _ _ hc (fun c e => by injection e with _ e _; cases e), hc]), h3⟩, hi.same _ _ h.L (fun c e => by cases e), hi.same _ _ h.K (fun c e => by cases e)⟩
theorem MAt.it {w0 : World} {fn1 : FuncId} {sv1 : Value} {Bs l1 D1 n1 : Nat} {fn2 : FuncId} {tmps2 : Array Value} {l2 D2 Y s0 : Nat} {s : ByteArray} {ms : List (Nat × List (Nat × Nat))} (h01 : w0.heap.size ≤ n1) (k : Nat) (A B : World) (h : MAt w0 fn1 sv1 Bs l1 D1 n1 fn2 tmps2 l2 D2 Y s0 s ms k A) (hi : IT n1 A B) : MAt w0 fn1 sv1 Bs l1 D1 n1 fn2 tmps2 l2 D2 Y s0 s ms k B :=
  ⟨h.ap.it hi, hi.same _ _ h.L2 (fun c e => by cases e), hi.same _ _ h.K2 (fun c e => by cases e), hi.same _ _ h.yb (fun c e => by injection e with _ e _; cases e), hi.same _ _ h.sb (fun c e => by injection e with _ e _; cases e), h.below.trans (hi.below.mono h01), Nat.le_trans h.size hi.below.size⟩
set_option maxHeartbeats 2000000 in
theorem asY (m : Nat) {w0 : World} {fn1 : FuncId} {sv1 : Value} {Bs l1 D1 n1 : Nat} {fn2 : FuncId} {l2 D2 Y s0 re0 nb R : Nat} {it : Value} {s : ByteArray} {ms : List (Nat × List (Nat × Nat))} (nc pl : Nat) (hnc : 2 ≤ nc ∧ nc ≤ pl) (hs : s.size ≤ 1000000)
    (hBl : Bs ≠ l1) (hDl : D1 ≠ l1) (hDB : D1 ≠ Bs) (h01 : w0.heap.size ≤ n1) (h0B : w0.heap.size ≤ Bs) (h0l : w0.heap.size ≤ l1) (hB1 : Bs < n1) (hlen : ms.length < 100000) (hl21 : l2 ≠ l1) (h02 : w0.heap.size ≤ l2) (hl2 : l2 < n1) (hD2 : D2 ≠ l1) (hDl2 : D2 ≠ l2) (hY1 : Y < n1) (hs01 : s0 < n1)
    (pre : List (Nat × List (Nat × Nat))) (mm : Nat × List (Nat × Nat)) (rest : List (Nat × List (Nat × Nat))) (W : World) (g cap : Nat) (more : List Value) (hpre : ms = pre ++ mm :: rest) (e : Nat) (he : lastW mm.2 1 = some e) (he0 : lastW mm.2 0 = none) (hpe : mm.1 ≤ e) (hes : e ≤ s.size)
    (h : MAt w0 fn1 sv1 Bs l1 D1 n1 fn2 (asTmps l1 re0 s0 nb Y R s it) l2 D2 Y s0 s ms pre.length W) (hown : W.ownsRow n1 3 1 (.slice (some ⟨g, 0, none⟩) pl cap) pl (ints (placesOf nc mm) ++ more)) :
    YieldAt Fence.wide m Tryz.prog l2 #[.slice (some ⟨g, 0, none⟩) pl cap] W fun e W' => e = .returned (.bool true) ∧ MAt w0 fn1 sv1 Bs l1 D1 n1 fn2 (asTmps l1 re0 s0 nb Y R s it) l2 D2 Y s0 s ms (pre.length + 1) W' ∧ KR w0.heap.size n1 29 9 W W' := by
  refine ⟨fn2, #[.func (.yield l1) #[] #[], .pointer (some ⟨re0, 0, none⟩), .pointer (some ⟨s0, 0, none⟩), .pointer (some ⟨nb, 0, none⟩), .pointer (some ⟨Y, 0, none⟩), undef, .pointer (some ⟨R, 0, none⟩), .string s, .int .i64 (-1), it, .slice (some ⟨g, 0, none⟩) pl cap, undef, undef, undef, undef, undef, undef, undef, undef, undef, undef, undef], asAssign, asBody, by simpa [asRec, asTmps] using run_yield (P := Tryz.prog) (args := #[.slice (some ⟨g, 0, none⟩) pl cap]) h.L2 rfl, roundIn_of_wpIn trivial ?_⟩
  have hl : l2 < W.heap.size := (Array.getElem?_eq_some_iff.1 h.L2).1
  have hbr := run_beginRound (P := Tryz.prog) h.L2 rfl
  obtain ⟨W2, hW2⟩ : ∃ W2, W.putObj l2 (.loop { asRec fn2 (asTmps l1 re0 s0 nb Y R s it) D2 .ready none with state := .busy }) = W2 := ⟨_, rfl⟩
  rw [hW2] at hbr
  have hp0 : (ints (placesOf nc mm))[0]? = some (.int .i64 mm.1) := by
    have h1 := applyT_get mm.2 ((List.replicate nc (-1)).set 0 (mm.1 : Int)) 0 (by simp; omega)
    rw [he0] at h1
    simp only [ints, List.getElem?_map, placesOf]
    rw [h1]
    have h2 : ((List.replicate nc (-1 : Int)).set 0 (mm.1 : Int))[0]? = some (mm.1 : Int) := by rw [List.getElem?_set]; simp; omega
    simp only [List.getD, h2]; rfl
  have hp1 : (ints (placesOf nc mm))[1]? = some (.int .i64 e) := by
    have h1 := applyT_get mm.2 ((List.replicate nc (-1)).set 0 (mm.1 : Int)) 1 (by simp; omega)
    rw [he] at h1
    simp only [ints, List.getElem?_map, placesOf]
    rw [h1]; rfl
  have hpl : (ints (placesOf nc mm)).length = nc := by simp [ints, placesOf, applyT_length]
  have o2 : ∀ k, k ≠ l2 → W2.heap[k]? = W.heap[k]? := fun k hk => by rw [← hW2]; exact World.putObj_heap_other hk
  obtain ⟨curg, hcurg⟩ := own_row hown g rfl
  have hgl : g ≠ l2 := fun e => by rw [e, h.L2] at hcurg; cases hcurg
  have cg : ∀ j v, j < pl → (ints (placesOf nc mm) ++ more)[j]? = some v → W2.cell? ⟨g, j, none⟩ = some v := fun j v hj hv => by
    rw [World.cell?_of_block (w := W) (o2 g hgl), hown.cellAt j (by omega), hv]
  have c0 := cg 0 _ (by omega) (by rw [List.getElem?_append_left (by omega)]; exact hp0)
  have c1 := cg 1 _ (by omega) (by rw [List.getElem?_append_left (by omega)]; exact hp1)
  have oc : ∀ {k : Nat} {o : Obj}, W.heap[k]? = some o → (∀ r, o ≠ .loop r) → W2.heap[k]? = some o := fun {k o} hk hn => (o2 k (fun e => by rw [e, h.L2] at hk; exact hn _ (Option.some.inj hk).symm)).trans hk
  have cY := (box_cell (oc h.yb (fun r e => by cases e))).1
  have cS := (box_cell (oc h.sb (fun r e => by cases e))).1
  have hL2 : W2.heap[l2]? = some (.loop { asRec fn2 (asTmps l1 re0 s0 nb Y R s it) D2 .ready none with state := .busy }) := by rw [← hW2]; exact World.putObj_heap_same hl
  have hap2 : ApAt fn1 sv1 Bs l1 D1 n1 ((ms.take pre.length).map (mtext s)) W2 := by
    obtain ⟨v, h1, h2, h3⟩ := h.ap.box
    exact ⟨⟨v, oc h1 (fun r e => by cases e), own_of h2 (fun g cur hg hc => by rw [oc hc (fun r e => by cases e), hc]), h3⟩, (o2 l1 (fun e => hl21 e.symm)).trans h.ap.L, oc h.ap.K (fun r e => by cases e)⟩
  have hs2 : W.heap.size ≤ W2.heap.size := by rw [← hW2]; simp
  have hb2 : Below w0.heap.size W W2 := by rw [← hW2]; exact (Below.refl _ W).grown (grown_putObj _ _ _) (by have := h.size; omega) (fun k e => by have : l2 = k := Option.some.inj e; omega)
  have htk : ms.take pre.length = pre := by rw [hpre]; simp
  have htk1 : ms.take (pre.length + 1) = pre ++ [mm] := by rw [hpre, show pre ++ mm :: rest = (pre ++ [mm]) ++ rest by simp]; exact List.take_left' (by simp)
  have hmt : mtext s mm = s.extract mm.1 e := by unfold mtext; rw [he]; rfl
  have hyy := fun m' => apY m' fn1 sv1 Bs l1 D1 w0.heap.size n1 hBl hDl hDB h01 h0B h0l hB1 ((ms.take pre.length).map (mtext s)) (s.extract mm.1 e) W2.drew ⟨hap2.box, hap2.L, hap2.K⟩ (by rw [htk, List.length_map]; have := congrArg List.length hpre; simp at this; omega) (Nat.le_trans h.size hs2)
  have HH := Lib.hid h
  have HY := Lib.hid hyy
  have k1 : (mm.1 : Int) ≤ (e : Int) := by omega
  have k2 : (e : Int) ≤ (s.size : Int) := by omega
  have k3 : (1 : Int) < (pl : Int) := by omega
  have HO := Lib.hid (And.intro o2 (And.intro hL2 (And.intro hs2 (And.intro hb2 (And.intro htk1 htk)))))
  have HMT := Lib.hid hmt
  clear hW2 oc cg hp0 hp1 hyy h hap2 o2 hL2 hs2 hb2 htk htk1 hmt hpe hes he he0 hpre
  unfold asAssign
  gi_wp2
  unfold asBody
  gi_wp2
  obtain ⟨fn, tmps, assign, body, hy, hR⟩ := HY.out (m - 1)
  refine wpIn_region_any (by kernel_rfl) ?_
  change wpAnyIn _ _ _ _ _ _ (9 + 2) (lst fun _ => false) (asSt (fun _ => false) _ _ (.pointer (some ⟨s0, 0, none⟩)) _ (.pointer (some ⟨Y, 0, none⟩)) (.slice (some ⟨g, 0, none⟩) pl cap) _ _ _ _ _ (asVals l1 g pl cap mm.1 e s)) W2.drew
  refine reg3 m l1 l2 Y s0 g pl cap mm.1 e s _ _ _ _ _ _ _ _ W2.drew _ cY cS c0 c1 k3 k1 k2 (reg3_fin m l1 l2 Y s0 g pl cap mm.1 e s _ _ _ _ _ _ _ _ W2.drew _ hy (hR.mono fun e' w' h => h) (fun w3 hp => ?_)) 9 _ rfl ⟨fun h => (by cases h), fun h => (by cases h), fun h => (by cases h), fun h => (by cases h), fun h => (by cases h)⟩
  have HP := Lib.hid hp
  clear hp hy hR
  gi_wp2
  obtain ⟨hap3, heff⟩ := HP.out
  obtain ⟨o2, hL2, hs2, hb2, htk1, htk⟩ := HO.out
  have h := HH.out
  have hL3 := heff.objs l2 _ hL2 (fun cs t f e => by cases e) hl21
  have hl3 : l2 < w3.heap.size := (Array.getElem?_eq_some_iff.1 hL3).1
  have hb3 : Below w0.heap.size W w3 := (hb2.drew).trans heff.kr.below
  have oc : ∀ {k : Nat} {o : Obj}, W.heap[k]? = some o → (∀ r, o ≠ .loop r) → W2.heap[k]? = some o := fun {k o} hk hn => (o2 k (fun e => by rw [e, h.L2] at hk; exact hn _ (Option.some.inj hk).symm)).trans hk
  refine ⟨_, _, run_endRound none hL3, rfl, ?_, ?_⟩
  · generalize hw4 : w3.putObj l2 _ = w4
    have o4 : ∀ {k : Nat} {o : Obj}, w3.heap[k]? = some o → (∀ r, o ≠ .loop r) → w4.heap[k]? = some o := fun {k o} hk hn => by
      rw [← hw4]; exact (World.putObj_heap_other (fun e => by rw [e, hL3] at hk; exact hn _ (Option.some.inj hk).symm)).trans hk
    have hL4 : w4.heap[l2]? = some (.loop (asRec fn2 (asTmps l1 re0 s0 nb Y R s it) D2 .ready none)) := by rw [← hw4]; exact World.putObj_heap_same hl3
    have hl14 : w4.heap[l1]? = w3.heap[l1]? := by rw [← hw4]; exact World.putObj_heap_other (fun e => hl21 e.symm)
    obtain ⟨v, h1, h2, h3⟩ := hap3.box
    refine ⟨⟨⟨v, o4 h1 (fun r e => by cases e), ?_, ?_⟩, hl14.trans hap3.L, o4 hap3.K (fun r e => by cases e)⟩, hL4, ?_, ?_, ?_, ?_, ?_⟩
    · have h4 := own_of h2 (w' := w4) (fun g cur hg hc => by rw [o4 hc (fun r e => by cases e), hc])
      rw [htk] at h4
      rw [htk1, List.map_append, List.map_cons, List.map_nil, HMT.out]
      exact h4
    · rw [htk] at h3
      rw [htk1, List.map_append, List.map_cons, List.map_nil, HMT.out]
      exact h3
    · exact o4 (heff.objs D2 _ (show W2.drew.heap[D2]? = _ from oc h.K2 (fun r e => by cases e)) (fun cs t f e => by cases e) hD2) (fun r e => by cases e)
    · exact o4 (heff.kr.same Y _ _ _ (show W2.drew.heap[Y]? = _ from oc h.yb (fun r e => by cases e)) (by decide) (.inl (by decide))) (fun r e => by cases e)
    · exact o4 (heff.kr.same s0 _ _ _ (show W2.drew.heap[s0]? = _ from oc h.sb (fun r e => by cases e)) (by decide) (.inr hs01)) (fun r e => by cases e)
    · rw [← hw4]; exact (h.below.trans hb3).grown (grown_putObj _ _ _) (by have := h.below.size; have := hb3.size; omega) (fun k e => by have : l2 = k := Option.some.inj e; omega)
    · rw [← hw4]; have := hb3.size; have := h.size; simp; omega
  · refine ⟨hb3.grown (grown_putObj _ _ _) (by have := h.below.size; have := hb3.size; omega) (fun k e => by have : l2 = k := Option.some.inj e; omega), fun k cs t f hk ht hte => ?_⟩
    have hkl : k ≠ l2 := fun e => by rw [e, h.L2] at hk; cases hk
    rw [World.putObj_heap_other hkl]
    exact heff.kr.same k cs t f ((o2 k hkl).trans hk) ht hte
end Go.Proofs.YthejepmnnpmdmaaGreatDoor.Sv
end
section
set_option linter.unusedVariables false
set_option linter.unusedSimpArgs false
/- allString: the texts of all matches are handed on -/
namespace Go.Proofs.YthejepmnnpmdmaaGreatDoor.Sv
open Go Go.RowKit Rx Go.Shelf
set_option maxRecDepth 100000
attribute [local go_sem] Oper.semAt_some
theorem t85 (w : World) (R : Addr) (s : ByteArray) (nc : Nat) :
    Calls Tryz.prog 59 #[.pointer (some R), .string s, .slice none 0 0, .int .i64 (-1), .int .i64 nc] w fun e w' =>
      e = .returned (.func (.func 71) #[] #[.pointer (some ⟨w.heap.size + 1 + 1 + 1, 0, none⟩), .pointer (some ⟨w.heap.size + 1, 0, none⟩), .pointer (some ⟨w.heap.size, 0, none⟩), .pointer (some ⟨w.heap.size + 1 + 1, 0, none⟩), .pointer (some ⟨w.heap.size + 1 + 1 + 1 + 1, 0, none⟩)]) ∧
      w' = ((((w.alloc (.cells #[.pointer (some R)] 56)).alloc (.cells #[.string s] 9)).alloc (.cells #[.slice none 0 0] 27)).alloc (.cells #[.int .i64 (-1)] 3)).alloc (.cells #[.int .i64 nc] 3) := by
  go_enter Tryz.func59, Tryz.ntmps59
  go_wp2
  go_ret
  exact ⟨rfl, rfl⟩
theorem boxes_new (w W : World) (R : Addr) (hR : R = ⟨R.block, 0, none⟩) (s : ByteArray) (nc h : Nat) (hh : w.heap.size = h)
    (hW : ((((w.alloc (.cells #[.pointer (some R)] 56)).alloc (.cells #[.string s] 9)).alloc (.cells #[.slice none 0 0] 27)).alloc (.cells #[.int .i64 (-1)] 3)).alloc (.cells #[.int .i64 nc] 3) = W) :
    Boxes W R.block (h + 3) (h + 1) h (h + 2) (h + 4) nc s ∧ W.heap.size = h + 5 ∧ Below h w W := by
  subst hW hh
  generalize hA : w.alloc (.cells #[.pointer (some R)] 56) = A
  generalize hB : A.alloc (.cells #[.string s] 9) = B
  generalize hC : B.alloc (.cells #[.slice none 0 0] 27) = C
  generalize hD : C.alloc (.cells #[.int .i64 (-1)] 3) = D
  have sA : A.heap.size = w.heap.size + 1 := by rw [← hA]; simp
  have sB : B.heap.size = w.heap.size + 2 := by rw [← hB]; simp [sA]
  have sC : C.heap.size = w.heap.size + 3 := by rw [← hC]; simp [sB]
  have sD : D.heap.size = w.heap.size + 4 := by rw [← hD]; simp [sC]
  have kA : ∀ k, k < A.heap.size → B.heap[k]? = A.heap[k]? := fun k hk => by rw [← hB]; exact Below.heap_alloc _ _ k hk
  have kB : ∀ k, k < B.heap.size → C.heap[k]? = B.heap[k]? := fun k hk => by rw [← hC]; exact Below.heap_alloc _ _ k hk
  have kC : ∀ k, k < C.heap.size → D.heap[k]? = C.heap[k]? := fun k hk => by rw [← hD]; exact Below.heap_alloc _ _ k hk
  have kD : ∀ k, k < D.heap.size → (D.alloc (.cells #[.int .i64 nc] 3)).heap[k]? = D.heap[k]? := fun k hk => Below.heap_alloc _ _ k hk
  refine ⟨⟨?_, ?_, ?_, ?_, ?_⟩, by simp [sD], ?_⟩
  · rw [kD _ (by omega), ← hD, ← sC]; exact heap_alloc_new C _
  · rw [kD _ (by omega), kC _ (by omega), kB _ (by omega), ← hB, ← sA]; exact heap_alloc_new A _
  · rw [kD _ (by omega), kC _ (by omega), kB _ (by omega), kA _ (by omega), ← hA, ← hR]; exact heap_alloc_new w _
  · rw [kD _ (by omega), kC _ (by omega), ← hC, ← sB]; exact heap_alloc_new B _
  · rw [← sD]; exact heap_alloc_new D _
  · have hb : Below w.heap.size w D := by
      rw [← hD, ← hC, ← hB, ← hA]
      exact ((((Below.refl _ w).alloc (by simp) _).alloc (by simp) _).alloc (by simp; omega) _).alloc (by simp; omega) _
    exact hb.alloc (by omega) _
set_option maxHeartbeats 2000000 in
theorem t84 (n : Nat) {w0 : World} {R PB IB icap : Nat} {T : List I} {s : ByteArray} (hS : Sur w0 R PB IB icap T s) {start ncap minl nsub : Nat} (hR : RH w0 R PB 0 start ncap minl nsub) (hml : minl ≤ 1000) (x : I) (hx : T[start]? = some x) (hf : opc x ≠ 5) (hns : nsub ≤ 400)
    (f : Nat → Res) (hM : ∀ p, p ≤ s.size → ∃ n, FM (envOf T s) n start p (f p)) (ms : List (Nat × List (Nat × Nat))) (hms : MsOk (envOf T s) s.size f 0 ms) (hmin : s.size < minl → ms = []) (hlen : ms.length < 100000)
    {fn1 : FuncId} {sv1 : Value} {Bs l1 D1 re0 s0 nb : Nat} (W : World) (hb0 : Below w0.heap.size w0 W) (hBl : Bs ≠ l1) (hDl : D1 ≠ l1) (hDB : D1 ≠ Bs) (h0B : w0.heap.size ≤ Bs) (h0l : w0.heap.size ≤ l1)
    (hap : ApAt fn1 sv1 Bs l1 D1 (W.heap.size + 8) [] W) (hre : W.heap[re0]? = some (.cells #[.pointer (some ⟨R, 0, none⟩)] 56 (0, 0))) (hs0 : W.heap[s0]? = some (.cells #[.string s] 9 (0, 0))) (hnb : W.heap[nb]? = some (.cells #[.int .i64 (-1)] 3 (0, 0))) :
    CallsIn Fence.wide n Tryz.prog 58 #[.func (.yield l1) #[] #[], .pointer (some ⟨re0, 0, none⟩), .pointer (some ⟨s0, 0, none⟩), .pointer (some ⟨nb, 0, none⟩)] W fun e W' => (∃ v, e = .returned v) ∧ ApAt fn1 sv1 Bs l1 D1 (W.heap.size + 8) (ms.map (mtext s)) W' ∧ Below w0.heap.size w0 W' := by
  refine callsIn_of_wp_marks Tryz.func58 rfl trivial ?_ rfl
  simp only [Tryz.ntmps58, List.size_toArray, List.length_cons, List.length_nil, Nat.reduceAdd, Nat.reduceSub, Array.replicate_succ, Array.replicate_zero, List.push_toArray, List.append_toArray, List.nil_append, List.cons_append]
  have e0 := (box_cell hre).1
  have e1 := (box_cell hs0).1
  have e2 := (box_cell hnb).1
  have le0 : re0 < W.heap.size := Lib.lt_of_cell e0
  have le1 : s0 < W.heap.size := Lib.lt_of_cell e1
  have le2 : nb < W.heap.size := Lib.lt_of_cell e2
  have HS := Lib.hid (And.intro hS (And.intro hR (And.intro hml (And.intro hx hf))))
  have HM := Lib.hid (And.intro hM (And.intro hms (And.intro hmin hlen)))
  have HW := Lib.hid (And.intro hb0 (And.intro hap (And.intro hre (And.intro hs0 hnb))))
  clear hS hR hml hx hf hM hms hmin hlen hb0 hap hre hs0 hnb
  gi_wp2_with (refine ⟨trivial, fun h => (by cases h), ?_⟩; gi_at_call 59; refine (callsIn_wide.2 (t85 _ ⟨R, 0, none⟩ s 2)).mono ?_; rintro e w1 ⟨rfl, hw1⟩; have HW1 := Lib.hid hw1; clear hw1)
  obtain ⟨hb0, hap, hre, hs0, hnb⟩ := HW.out
  have hw1 := HW1.out
  clear HW HW1
  simp only [Nat.add_assoc, Nat.reduceAdd] at *
  generalize hh : W.heap.size = h at *
  generalize hA : W.alloc (.cells #[.func (.yield l1) #[] #[]] 26) = A at *
  have sA : A.heap.size = h + 1 := by rw [← hA]; simp [hh]
  have hAY : A.heap[h]? = some (.cells #[.func (.yield l1) #[] #[]] 26 (0, 0)) := by rw [← hA, ← hh]; exact heap_alloc_new W _
  have hAb : Below h W A := by rw [← hA]; exact (Below.refl _ W).alloc (by omega) _
  obtain ⟨hbx, s1, hb1⟩ := boxes_new A w1 ⟨R, 0, none⟩ rfl s 2 (h + 1) sA hw1.symm
  simp only [Nat.add_assoc, Nat.reduceAdd] at hbx
  clear hw1 hA
  refine wpIn_rangeFunc ?_
  intro fn hfn
  rw [show Fence.wide.round = none from rfl]
  generalize hit : (Value.func (Fn.func 71) #[] #[.pointer (some ⟨h + 4, 0, none⟩), .pointer (some ⟨h + 2, 0, none⟩), .pointer (some ⟨h + 1, 0, none⟩), .pointer (some ⟨h + 3, 0, none⟩), .pointer (some ⟨h + 5, 0, none⟩)]) = it at *
  obtain ⟨W1, hW1⟩ : ∃ W1, (w1.alloc (.deferred (some []))).alloc (.loop (asRec fn (asTmps l1 re0 s0 nb h R s it) w1.heap.size .ready none)) = W1 := ⟨_, rfl⟩
  have hold : ∀ k, k < w1.heap.size → W1.heap[k]? = w1.heap[k]? := fun k hk => by
    rw [← hW1]; exact (Below.heap_alloc _ _ k (by simp; omega)).trans (Below.heap_alloc _ _ k hk)
  have hs1 : W1.heap.size = h + 8 := by rw [← hW1]; simp [s1]
  have hbw : Below (h + 6) w1 W1 := by rw [← hW1]; exact ((Below.refl _ w1).alloc (by omega) _).alloc (by simp; omega) _
  have old : ∀ k, k < h → W1.heap[k]? = W.heap[k]? := fun k hk => by rw [hold k (by omega), hb1.block k (by omega), hAb.block k hk]
  have hbel : Below w0.heap.size w0 W1 := ((hb0.trans (hAb.mono (by have := hb0.size; omega))).trans (hb1.mono (by have := hb0.size; omega))).trans (hbw.mono (by have := hb0.size; omega))
  have hL1 : W1.heap[h + 7]? = some (.loop (asRec fn (asTmps l1 re0 s0 nb h R s it) (h + 6) .ready none)) := by
    rw [← hW1, s1]
    have := World.alloc_heap_new (w1.alloc (.deferred (some []))) (.loop (asRec fn (asTmps l1 re0 s0 nb h R s it) (h + 1 + 5) .ready none))
    rwa [World.size_alloc, s1] at this
  have hK1 : W1.heap[h + 6]? = some (.deferred (some [])) := by
    rw [← hW1]; have := (Below.heap_alloc (w1.alloc (.deferred (some []))) (.loop (asRec fn (asTmps l1 re0 s0 nb h R s it) w1.heap.size .ready none)) w1.heap.size (by simp)).trans (World.alloc_heap_new w1 _)
    rwa [s1] at this ⊢
  have hY1 : W1.heap[h]? = some (.cells #[.func (.yield l1) #[] #[]] 26 (0, 0)) := by rw [hold h (by omega), hb1.block h (by omega)]; exact hAY
  have lt : ∀ {k : Nat} {o : Obj}, W.heap[k]? = some o → k < h := fun hk => by have := (Array.getElem?_eq_some_iff.1 hk).1; omega
  have hap1 : ApAt fn1 sv1 Bs l1 D1 (h + 8) [] W1 := by
    obtain ⟨v, h1, h2, h3⟩ := hap.box
    have hv : v = .slice none 0 0 := h3.2 rfl
    subst hv
    exact ⟨⟨_, (old _ (lt h1)).trans h1, ⟨rfl, .inl ⟨rfl, rfl⟩⟩, by simp⟩, (old _ (lt hap.L)).trans hap.L, (old _ (lt hap.K)).trans hap.K⟩
  have hM0 : MAt w0 fn1 sv1 Bs l1 D1 (h + 8) fn (asTmps l1 re0 s0 nb h R s it) (h + 7) (h + 6) h s0 s ms 0 W1 :=
    ⟨by simpa using hap1, hL1, hK1, hY1, (old _ le1).trans hs0, hbel, by omega⟩
  have hbx1 : Boxes W1 R (h + 4) (h + 2) (h + 1) (h + 3) (h + 5) 2 s := hbx.below hbw ⟨by omega, by omega, by omega, by omega, by omega⟩
  refine ⟨h + 7, [{ target := .collected (h + 6), args := #[] }], W1, { target := .fn (.func 71) #[.pointer (some ⟨h + 4, 0, none⟩), .pointer (some ⟨h + 2, 0, none⟩), .pointer (some ⟨h + 1, 0, none⟩), .pointer (some ⟨h + 3, 0, none⟩), .pointer (some ⟨h + 5, 0, none⟩)], args := #[.func (.yield (h + 7)) #[] #[]] }, W1, 71,
    #[.func (.yield (h + 7)) #[] #[], .pointer (some ⟨h + 4, 0, none⟩), .pointer (some ⟨h + 2, 0, none⟩), .pointer (some ⟨h + 1, 0, none⟩), .pointer (some ⟨h + 3, 0, none⟩), .pointer (some ⟨h + 5, 0, none⟩)], W1, ?_, ?_, ?_, ?_, fun h => (by cases h), ?_⟩
  · rw [← hW1]
    have := run_enterLoop_outer (P := Tryz.prog) (w := w1) fn (asTmps l1 re0 s0 nb h R s it) #[10] asAssign asBody
    rw [s1] at this ⊢
    exact this
  · rw [← hit]; simp [resolve, go_sem]
  · intro f' _; trivial
  · simp [invoke, go_sem]
  · refine (tMatches HS.out.1 HS.out.2.1 HS.out.2.2.1 x HS.out.2.2.2.1 HS.out.2.2.2.2 2 (by omega) hns f HM.out.1 ms HM.out.2.1 HM.out.2.2.1 (n - 1) (h + 7) 29 9 (h + 4) (h + 2) (h + 1) (h + 3) (h + 5)
      (fun k W => MAt w0 fn1 sv1 Bs l1 D1 (h + 8) fn (asTmps l1 re0 s0 nb h R s it) (h + 7) (h + 6) h s0 s ms k W) W1 ?_ hbel hbx1 (by decide) (by decide) ?_ hM0).mono ?_
    · intro k A B hk hi
      rw [hs1] at hi
      exact hk.it (by have := hb0.size; omega) k A B hi
    · intro pre m rest W2 g' cap' hpre hJ hb hown
      obtain ⟨e, he1, he0, hpe, hes⟩ := HM.out.2.1.mem m (by rw [hpre]; simp)
      rw [hs1] at hown ⊢
      obtain ⟨v, hB1, _⟩ := hap.box
      have l0 := lt hB1
      have l2 := lt hap.L
      have l3 := lt hap.K
      have hsz := hb0.size
      exact asY _ 2 (padLen 2 nsub) ⟨by omega, by unfold padLen; split <;> omega⟩ HS.out.1.len hBl hDl hDB (by omega) h0B h0l (by omega) HM.out.2.2.2 (by omega) (by omega) (by omega) (by omega) (by omega) (by omega) (by omega) pre m rest W2 g' cap' _ hpre e he1 he0 hpe hes hJ hown
    · rintro e W2 ⟨⟨v0, rfl⟩, h2⟩
      have hend := run_endLoop (P := Tryz.prog) h2.L2 (by simp [asRec])
      obtain ⟨W3, hW3⟩ : ∃ W3, W2.putObj (h + 7) (.loop { asRec fn (asTmps l1 re0 s0 nb h R s it) (h + 6) .ready none with state := .exhausted }) = W3 := ⟨_, rfl⟩
      rw [hW3] at hend
      have hl2 : h + 7 < W2.heap.size := (Array.getElem?_eq_some_iff.1 h2.L2).1
      have o3 : ∀ {k : Nat} {o : Obj}, W2.heap[k]? = some o → k ≠ h + 7 → W3.heap[k]? = some o := fun {k o} hk hn => by rw [← hW3]; exact (World.putObj_heap_other hn).trans hk
      have hK3 := o3 h2.K2 (by omega)
      have hsz := hb0.size
      have hb3 : Below w0.heap.size w0 W3 := by rw [← hW3]; exact h2.below.grown (grown_putObj _ _ _) (by have := h2.below.size; omega) (fun k e => by have : h + 7 = k := Option.some.inj e; omega)
      have hap3 : ApAt fn1 sv1 Bs l1 D1 (h + 8) (ms.map (mtext s)) W3 := by
        have ha := h2.ap
        rw [List.take_length] at ha
        obtain ⟨v, h4, h5, h6⟩ := ha.box
        have e7 : ∀ {k : Nat} {cs : Array Value} {t : TypeId} {f : Nat × Nat}, W2.heap[k]? = some (.cells cs t f) → k ≠ h + 7 := fun hk e => by rw [e, h2.L2] at hk; cases hk
        exact ⟨⟨v, o3 h4 (e7 h4), own_of h5 (fun g cur hg hc => by rw [o3 hc (e7 hc), hc]), h6⟩, o3 ha.L (by have := lt hap.L; omega), o3 ha.K (by have := lt hap.K; omega)⟩
      have HA := Lib.hid (And.intro hap3 hb3)
      clear hW3 o3
      refine ⟨none, W3, hend, ?_⟩
      gi_wp2
      refine ⟨by simp, .inl ⟨_, _, rfl, run_takeDeferred hK3, ?_⟩⟩
      obtain ⟨hap3, hb3⟩ := HA.out
      have o4 : ∀ {k : Nat} {o : Obj}, W3.heap[k]? = some o → k ≠ h + 6 → (W3.putObj (h + 6) (.deferred none)).heap[k]? = some o := fun {k o} hk hn => (World.putObj_heap_other hn).trans hk
      have e6 : ∀ {k : Nat} {cs : Array Value} {t : TypeId} {f : Nat × Nat}, W3.heap[k]? = some (.cells cs t f) → k ≠ h + 6 := fun hk e => by rw [e, hK3] at hk; cases hk
      obtain ⟨v, h4, h5, h6⟩ := hap3.box
      refine ⟨_, results_none rfl _ _ _, ⟨_, rfl⟩, ?_, hb3.grown (grown_putObj _ _ _) (by have := hb3.size; omega) (fun k e => by have : h + 6 = k := Option.some.inj e; omega)⟩
      rw [hh]
      exact ⟨⟨v, o4 h4 (e6 h4), own_of h5 (fun g cur hg hc => by rw [o4 hc (e6 hc), hc]), h6⟩, o4 hap3.L (by have := lt hap.L; omega), o4 hap3.K (by have := lt hap.K; omega)⟩
end Go.Proofs.YthejepmnnpmdmaaGreatDoor.Sv
end
section
set_option linter.unusedVariables false
set_option linter.unusedSimpArgs false
/- FindAllString: all matches' texts in a slice -/
namespace Go.Proofs.YthejepmnnpmdmaaGreatDoor.Sv
open Go Go.RowKit Rx Go.Shelf
set_option maxRecDepth 100000
attribute [local go_sem] Oper.semAt_some
set_option maxHeartbeats 2000000 in
theorem t83 (n : Nat) {w0 : World} {R PB IB icap : Nat} {T : List I} {s : ByteArray} (hS : Sur w0 R PB IB icap T s) {start ncap minl nsub : Nat} (hR : RH w0 R PB 0 start ncap minl nsub) (hml : minl ≤ 1000) (x : I) (hx : T[start]? = some x) (hf : opc x ≠ 5) (hns : nsub ≤ 400)
    (f : Nat → Res) (hM : ∀ p, p ≤ s.size → ∃ n, FM (envOf T s) n start p (f p)) (ms : List (Nat × List (Nat × Nat))) (hms : MsOk (envOf T s) s.size f 0 ms) (hmin : s.size < minl → ms = []) (hlen : ms.length < 100000)
    {re0 s0 nb : Nat} (W : World) (hb0 : Below w0.heap.size w0 W) (hre : W.heap[re0]? = some (.cells #[.pointer (some ⟨R, 0, none⟩)] 56 (0, 0))) (hs0 : W.heap[s0]? = some (.cells #[.string s] 9 (0, 0))) (hnb : W.heap[nb]? = some (.cells #[.int .i64 (-1)] 3 (0, 0))) :
    CallsIn Fence.wide n Tryz.prog 57 #[.slice none 0 0, .func (.func 58) #[] #[.pointer (some ⟨re0, 0, none⟩), .pointer (some ⟨s0, 0, none⟩), .pointer (some ⟨nb, 0, none⟩)]] W fun e W' => ∃ v, e = .returned v ∧ W'.ownsRow W.heap.size 9 1 v ms.length ((ms.map (mtext s)).map Value.string) ∧ (v = .slice none 0 0 ↔ ms = []) ∧ Below w0.heap.size w0 W' := by
  refine callsIn_of_wp_marks Tryz.func57 rfl trivial ?_ rfl
  simp only [Tryz.ntmps57, List.size_toArray, List.length_cons, List.length_nil, Nat.reduceAdd, Nat.reduceSub, Array.replicate_succ, Array.replicate_zero, List.push_toArray, List.append_toArray, List.nil_append, List.cons_append]
  have HS := Lib.hid (And.intro hS (And.intro hR (And.intro hml (And.intro hx hf))))
  have HM := Lib.hid (And.intro hM (And.intro hms (And.intro hmin hlen)))
  have HW := Lib.hid (And.intro hb0 (And.intro hre (And.intro hs0 hnb)))
  clear hS hR hml hx hf hM hms hmin hlen hb0 hre hs0 hnb
  gi_wp2
  obtain ⟨hb0, hre, hs0, hnb⟩ := HW.out
  clear HW
  generalize hh : W.heap.size = h at *
  generalize hA : W.alloc (.cells #[.slice none 0 0] 29) = A at *
  have sA : A.heap.size = h + 1 := by rw [← hA]; simp [hh]
  have hAY : A.heap[h]? = some (.cells #[.slice none 0 0] 29 (0, 0)) := by rw [← hA, ← hh]; exact heap_alloc_new W _
  have hAb : Below h W A := by rw [← hA]; exact (Below.refl _ W).alloc (by omega) _
  clear hA
  refine wpIn_rangeFunc ?_
  intro fn hfn
  rw [show Fence.wide.round = none from rfl]
  generalize hit : (Value.func (Fn.func 58) #[] #[.pointer (some ⟨re0, 0, none⟩), .pointer (some ⟨s0, 0, none⟩), .pointer (some ⟨nb, 0, none⟩)]) = it at *
  obtain ⟨W1, hW1⟩ : ∃ W1, (A.alloc (.deferred (some []))).alloc (.loop (apRec fn it h A.heap.size .ready none)) = W1 := ⟨_, rfl⟩
  have hold : ∀ k, k < A.heap.size → W1.heap[k]? = A.heap[k]? := fun k hk => by
    rw [← hW1]; exact (Below.heap_alloc _ _ k (by simp; omega)).trans (Below.heap_alloc _ _ k hk)
  have hs1 : W1.heap.size = h + 3 := by rw [← hW1]; simp [sA]
  have hbw : Below (h + 1) A W1 := by rw [← hW1]; exact ((Below.refl _ A).alloc (by omega) _).alloc (by simp; omega) _
  have old : ∀ k, k < h → W1.heap[k]? = W.heap[k]? := fun k hk => by rw [hold k (by omega), hAb.block k hk]
  have hbel : Below w0.heap.size w0 W1 := (hb0.trans (hAb.mono (by have := hb0.size; omega))).trans (hbw.mono (by have := hb0.size; omega))
  have hL1 : W1.heap[h + 2]? = some (.loop (apRec fn it h (h + 1) .ready none)) := by
    rw [← hW1, sA]
    have := World.alloc_heap_new (A.alloc (.deferred (some []))) (.loop (apRec fn it h (h + 1) .ready none))
    rwa [World.size_alloc, sA] at this
  have hK1 : W1.heap[h + 1]? = some (.deferred (some [])) := by
    rw [← hW1]; have := (Below.heap_alloc (A.alloc (.deferred (some []))) (.loop (apRec fn it h A.heap.size .ready none)) A.heap.size (by simp)).trans (World.alloc_heap_new A _)
    rwa [sA] at this ⊢
  have lt : ∀ {k : Nat} {o : Obj}, W.heap[k]? = some o → k < h := fun hk => by have := (Array.getElem?_eq_some_iff.1 hk).1; omega
  have hap1 : ApAt fn it h (h + 2) (h + 1) (W1.heap.size + 8) [] W1 :=
    ⟨⟨_, (hold h (by omega)).trans hAY, ⟨rfl, .inl ⟨rfl, rfl⟩⟩, by simp⟩, hL1, hK1⟩
  refine ⟨h + 2, [{ target := .collected (h + 1), args := #[] }], W1, { target := .fn (.func 58) #[.pointer (some ⟨re0, 0, none⟩), .pointer (some ⟨s0, 0, none⟩), .pointer (some ⟨nb, 0, none⟩)], args := #[.func (.yield (h + 2)) #[] #[]] }, W1, 58,
    #[.func (.yield (h + 2)) #[] #[], .pointer (some ⟨re0, 0, none⟩), .pointer (some ⟨s0, 0, none⟩), .pointer (some ⟨nb, 0, none⟩)], W1, ?_, ?_, ?_, ?_, fun h => (by cases h), ?_⟩
  · rw [← hW1]
    have := run_enterLoop_outer (P := Tryz.prog) (w := A) fn #[.slice none 0 0, it, .pointer (some ⟨h, 0, none⟩), undef, .slice none 0 0, undef, it, undef, undef, undef, undef, undef, undef] #[7] apAssign apBody
    rw [sA] at this ⊢
    exact this
  · rw [← hit]; simp [resolve, go_sem]
  · intro f' _; trivial
  · simp [invoke, go_sem]
  · have hsz := hb0.size
    refine (t84 (n - 1) HS.out.1 HS.out.2.1 HS.out.2.2.1 x HS.out.2.2.2.1 HS.out.2.2.2.2 hns f HM.out.1 ms HM.out.2.1 HM.out.2.2.1 HM.out.2.2.2 W1 hbel (by omega) (by omega) (by omega) (by omega) (by omega) hap1
      ((old _ (lt hre)).trans hre) ((old _ (lt hs0)).trans hs0) ((old _ (lt hnb)).trans hnb)).mono ?_
    rintro e W2 ⟨⟨v0, rfl⟩, h2, hb2⟩
    have hend := run_endLoop (P := Tryz.prog) h2.L (by simp [apRec])
    obtain ⟨W3, hW3⟩ : ∃ W3, W2.putObj (h + 2) (.loop { apRec fn it h (h + 1) .ready none with state := .exhausted }) = W3 := ⟨_, rfl⟩
    rw [hW3] at hend
    have o3 : ∀ {k : Nat} {o : Obj}, W2.heap[k]? = some o → k ≠ h + 2 → W3.heap[k]? = some o := fun {k o} hk hn => by rw [← hW3]; exact (World.putObj_heap_other hn).trans hk
    have hK3 := o3 h2.K (by omega)
    have hb3 : Below w0.heap.size w0 W3 := by rw [← hW3]; exact hb2.grown (grown_putObj _ _ _) (by have := hb2.size; omega) (fun k e => by have : h + 2 = k := Option.some.inj e; omega)
    obtain ⟨v, h4, h5, h6⟩ := h2.box
    have e7 : ∀ {k : Nat} {cs : Array Value} {t : TypeId} {f : Nat × Nat}, W2.heap[k]? = some (.cells cs t f) → k ≠ h + 2 := fun hk e => by rw [e, h2.L] at hk; cases hk
    have h4' := o3 h4 (e7 h4)
    have h5' : W3.ownsRow (W1.heap.size + 8) 9 1 v (ms.map (mtext s)).length ((ms.map (mtext s)).map Value.string) := own_of h5 (fun g cur hg hc => by rw [o3 hc (e7 hc), hc])
    have cv := (box_cell h4').1
    have HA := Lib.hid (And.intro h5' (And.intro h6 hb3))
    clear hW3 o3 h5 h5' h6 hb3
    refine ⟨none, W3, hend, ?_⟩
    gi_wp2
    refine ⟨by simp, .inl ⟨_, _, rfl, run_takeDeferred hK3, ?_⟩⟩
    obtain ⟨h5, h6, hb3⟩ := HA.out
    have o4 : ∀ {k : Nat} {o : Obj}, W3.heap[k]? = some o → k ≠ h + 1 → (W3.putObj (h + 1) (.deferred none)).heap[k]? = some o := fun {k o} hk hn => (World.putObj_heap_other hn).trans hk
    have e6 : ∀ {k : Nat} {cs : Array Value} {t : TypeId} {f : Nat × Nat}, W3.heap[k]? = some (.cells cs t f) → k ≠ h + 1 := fun hk e => by rw [e, hK3] at hk; cases hk
    refine ⟨_, results_tmp rfl _ _ _, v, rfl, ?_, ?_, hb3.grown (grown_putObj _ _ _) (by have := hb3.size; omega) (fun k e => by have : h + 1 = k := Option.some.inj e; omega)⟩
    · have h7 := own_of h5 (w' := W3.putObj (h + 1) (.deferred none)) (fun g cur hg hc => by rw [o4 hc (e6 hc), hc])
      rw [List.length_map] at h7
      refine ⟨h7.1, ?_⟩
      rcases h7.2 with hn | ⟨g', c', cur, q1, q2, q3⟩
      · exact .inl hn
      · exact .inr ⟨g', c', cur, q1, by omega, q3⟩
    · rw [h6]; simp
theorem t59 (w : World) (R : Addr) (s : ByteArray) : Calls Tryz.prog 43 #[.pointer (some R), .string s, .int .i64 (-1)] w fun e w' => e = .returned (.func (.func 58) #[] #[.pointer (some ⟨w.heap.size, 0, none⟩), .pointer (some ⟨w.heap.size + 1, 0, none⟩), .pointer (some ⟨w.heap.size + 1 + 1, 0, none⟩)]) ∧
    w' = ((w.alloc (.cells #[.pointer (some R)] 56)).alloc (.cells #[.string s] 9)).alloc (.cells #[.int .i64 (-1)] 3) := by
  go_enter Tryz.func43, Tryz.ntmps43
  go_wp2
  go_ret
  exact ⟨rfl, rfl⟩
theorem tFindAll {w : World} {R PB IB icap : Nat} {T : List I} {s : ByteArray} (hS : Sur w R PB IB icap T s) {start ncap minl nsub : Nat} (hR : RH w R PB 0 start ncap minl nsub) (hml : minl ≤ 1000) (x : I) (hx : T[start]? = some x) (hf : opc x ≠ 5) (hns : nsub ≤ 400)
    (f : Nat → Res) (hM : ∀ p, p ≤ s.size → ∃ n, FM (envOf T s) n start p (f p)) (ms : List (Nat × List (Nat × Nat))) (hms : MsOk (envOf T s) s.size f 0 ms) (hmin : s.size < minl → ms = []) (hlen : ms.length < 100000) :
    Calls Tryz.prog 30 #[.pointer (some ⟨R, 0, none⟩), .string s, .int .i64 (-1)] w fun e w' => ∃ v, e = .returned v ∧ w'.ownsRow w.heap.size 9 1 v ms.length ((ms.map (mtext s)).map Value.string) ∧ (v = .slice none 0 0 ↔ ms = []) ∧ Below w.heap.size w w' := by
  generalize hA : ((w.alloc (.cells #[.pointer (some ⟨R, 0, none⟩)] 56)).alloc (.cells #[.string s] 9)).alloc (.cells #[.int .i64 (-1)] 3) = A
  have hb : Below w.heap.size w A := by rw [← hA]; exact (((Below.refl _ w).alloc (by simp) _).alloc (by simp) _).alloc (by simp; omega) _
  have a0 : A.heap[w.heap.size]? = some (.cells #[.pointer (some ⟨R, 0, none⟩)] 56 (0, 0)) := by
    rw [← hA, Below.heap_alloc _ _ _ (by simp; omega), Below.heap_alloc _ _ _ (by simp)]; exact heap_alloc_new w _
  have a1 : A.heap[w.heap.size + 1]? = some (.cells #[.string s] 9 (0, 0)) := by
    rw [← hA, Below.heap_alloc _ _ _ (by simp)]; have := heap_alloc_new (w.alloc (.cells #[.pointer (some ⟨R, 0, none⟩)] 56)) (.cells #[.string s] 9); rwa [World.size_alloc] at this
  have a2 : A.heap[w.heap.size + 1 + 1]? = some (.cells #[.int .i64 (-1)] 3 (0, 0)) := by
    rw [← hA]; have := heap_alloc_new ((w.alloc (.cells #[.pointer (some ⟨R, 0, none⟩)] 56)).alloc (.cells #[.string s] 9)) (.cells #[.int .i64 (-1)] 3); rwa [World.size_alloc, World.size_alloc] at this
  have H := Lib.hid (callsIn_wide.1 (t83 3 hS hR hml x hx hf hns f hM ms hms hmin hlen A hb a0 a1 a2))
  have hsz := hb.size
  have HA := Lib.hid hA
  clear hS hR hx hf hM hms hmin hA a0 a1 a2
  go_enter Tryz.func30, Tryz.ntmps30
  go_wp2_with (first
    | (go_at_call 43; refine (t59 w ⟨R, 0, none⟩ s).mono ?_; rintro e w1 ⟨rfl, hw1⟩; have hw2 := hw1.trans HA.out; clear hw1; subst hw2)
    | (go_at_call 57; refine H.out.mono ?_; rintro e w2 ⟨v2, rfl, hv2⟩; have HV := Lib.hid hv2; clear hv2)
    | go_in)
  go_ret
  obtain ⟨h1, h2, h3⟩ := HV.out
  refine ⟨_, rfl, ⟨h1.1, ?_⟩, h2, h3⟩
  rcases h1.2 with hn | ⟨g', c', cur, q1, q2, q3⟩
  · exact .inl hn
  · exact .inr ⟨g', c', cur, q1, by omega, q3⟩
end Go.Proofs.YthejepmnnpmdmaaGreatDoor.Sv
end
