/- the spec's fields, CronLocal. -/
import Derived.Test.YtjmgebhjkbcpcaaNC
import Derived.Test.YtjmgebhjkbcpcaaPFnCronNextManyx5
import Derived.Test.YtjmgebhjkbcpcaaPFnCronNextManyx6
import Derived.Deep.MidRow
import Derived.Deep.DeepCutAuto
import Derived.Laws.Rows
import Derived.Deep.WholeRow
import Derived.DeepKeys
import Derived.RegionTactic
import Derived.Test.YtjmgebhjkbcpcaaNG
import Derived.Deep.RegionHeld3
set_option linter.unusedVariables false
set_option linter.unusedSimpArgs false
namespace Go.Proofs.Ytjmgebhjkbcpcaa.NM
open Go.RowKit Cal Go.Proofs.Ytjmgebhjkbcpcaa.PFnCronNextMany Go.Proofs.YtjmgebhjkbcpcaaW.PrintWords
set_option maxRecDepth 100000
theorem wpList_store_row {P : Program} {ops : Array Oper} {rest : List Oper} {o : Oper} {a : Act} {w : World} {Q : Exit → Act → World → Prop} (hgd : o.guard = none) (ty : TypeId) (x y : Operand) (ho : o.op = .store ty x y)
    (g : Nat) (cells : Array Value) (hx : a.eval x = .pointer (some ⟨g, 0, none⟩)) (hy : a.eval y = .agg cells)
    (t : TypeId) (old : Array Value) (hg : w.heap[g]? = some (.cells old t (0, 0))) (hi : (P.info? ty).map (·.size) = some cells.size)
    (hold : old.size = cells.size) (h1 : cells.all (·.oneCell') = true)
    (h : wpList P ops Q rest (a.put o.dst undef) (w.setRow g cells)) : wpList P ops Q (o :: rest) a w :=
  wpList_plain hgd fun _ hK => wp_store_row ty x y ho g cells hx hy t old hg hi hold h1 (hK _ _ h)
theorem Below.setRow' {B : Nat} {a w : World} (h : Below B a w) {g : Nat} (hg : B ≤ g) (cs : Array Value) : Below B a (w.setRow g cs) :=
  ⟨h.os, h.tape, h.output, by simp; exact h.size, fun k hk => by rw [setRow_other w g k cs (by omega)]; exact h.block k hk⟩
def lowI (k : Int) : Int := if k = 3 then 1 else if k = 4 then 1 else 0
def highI (k : Int) : Int := if k = 2 then 23 else if k = 3 then 31 else if k = 4 then 12 else if k = 5 then 6 else 59
theorem low_f (k : Int) : spec_CronLow.f k = some (lowI k) := by unfold spec_CronLow.f lowI; split <;> (try split) <;> rfl
theorem high_f (k : Int) : spec_CronHigh.f k = some (highI k) := by unfold spec_CronHigh.f highI; (repeat' split) <;> rfl
theorem und54 : Try.prog.underlying 54 = some (.struct (Try.prog.fieldsOf 54)) := by kernel_rfl
theorem inf54 : (Try.prog.info? 54).map (·.size) = some 64 := by kernel_rfl
def hitS (b : Int) (n : Nat) : Bool := bits BinOp.and IntKind.u64 (b / 2 ^ n) 1 == 1
def starS (b : Int) : Bool := bits BinOp.and IntKind.u64 b 9223372036854775808 != 0
structure InvS (k b : Int) (n : Int) (cs : Array Value) : Prop where
  sz : cs.size = 64
  bl : ∀ j, j < 64 → ∃ bb, cs[j]? = some (.bool bb)
  inv : ∀ v : Nat, cs[1 + v]? = some (.bool true) → lowI k ≤ v ∧ (v : Int) < n ∧ hitS b v = true
theorem InvS.step {k b : Int} {n : Nat} {cs : Array Value} (h : InvS k b n cs) (hl : lowI k ≤ n) (hn : n < 63) : InvS k b (n + 1) (cs.setIfInBounds (1 + n) (.bool (hitS b n))) where
  sz := by simp [h.sz]
  bl := fun j hj => by
    rw [Array.getElem?_setIfInBounds]
    split
    · exact ⟨hitS b n, by rw [if_pos (by rw [h.sz]; omega)]⟩
    · exact h.bl j hj
  inv := fun v hv => by
    rw [Array.getElem?_setIfInBounds] at hv
    split at hv
    · rename_i e
      obtain rfl : v = n := by omega
      split at hv
      · simp at hv
        exact ⟨hl, by omega, hv⟩
      · simp at hv
    · have := h.inv v hv
      exact ⟨this.1, by omega, this.2.2⟩
theorem InvS.all {k b : Int} {n : Int} {cs : Array Value} (h : InvS k b n cs) : cs.all (·.oneCell') = true := by
  refine Array.all_eq_true_iff_forall_mem.2 fun v hv => ?_
  obtain ⟨i, hi, rfl⟩ := Array.mem_iff_getElem.1 hv
  obtain ⟨bb, hb⟩ := h.bl i (by have := h.sz; omega)
  rw [Array.getElem?_eq_getElem hi] at hb
  injection hb with hb
  rw [hb]; rfl
/-- a field's set, as cells -/
structure SetV (k b : Int) (cs : Array Value) : Prop where
  sz : cs.size = 64
  bl : ∀ j, j < 64 → ∃ bb, cs[j]? = some (.bool bb)
  inv : ∀ v : Nat, cs[1 + v]? = some (.bool true) → lowI k ≤ v ∧ (v : Int) ≤ highI k ∧ hitS b v = true
  st : cs[0]? = some (.bool (starS b))
theorem InvS.fin {k b : Int} {n : Int} {cs : Array Value} (h : InvS k b n cs) (hn : n ≤ highI k + 1) : SetV k b (cs.setIfInBounds 0 (.bool (starS b))) where
  sz := by simp [h.sz]
  bl := fun j hj => by
    rw [Array.getElem?_setIfInBounds]
    split
    · simp [h.sz]
    · exact h.bl j hj
  inv := fun v hv => by
    rw [Array.getElem?_setIfInBounds, if_neg (by omega)] at hv
    have := h.inv v hv
    exact ⟨this.1, by omega, this.2.2⟩
  st := by rw [Array.getElem?_setIfInBounds]; simp [h.sz]
theorem SetV.all {k b : Int} {cs : Array Value} (h : SetV k b cs) : cs.all (·.oneCell') = true := by
  refine Array.all_eq_true_iff_forall_mem.2 fun v hv => ?_
  obtain ⟨i, hi, rfl⟩ := Array.mem_iff_getElem.1 hv
  obtain ⟨bb, hb⟩ := h.bl i (by have := h.sz; omega)
  rw [Array.getElem?_eq_getElem hi] at hb
  injection hb with hb
  rw [hb]; rfl
set_option maxHeartbeats 1000000 in
theorem tSetOf (k b : Int) (w : World) (h0 : 0 ≤ k) (h1 : k ≤ 5) (hb0 : 0 ≤ b) (hb1 : b < 18446744073709551616) :
    Calls Try.prog 29 #[.int .i64 k, .int .u64 b] w fun e w' => ∃ cs : Array Value, e = .returned (.agg cs) ∧ SetV k b cs ∧ Below w.heap.size w w' := by
  have hl : 0 ≤ lowI k ∧ lowI k ≤ 1 := by unfold lowI; split <;> (try split) <;> omega
  have hh : 6 ≤ highI k ∧ highI k ≤ 59 := by unfold highI; (repeat' split) <;> omega
  have HI := Lib.hid (inf54)
  obtain ⟨l, hl'⟩ : ∃ l : Nat, lowI k = l := ⟨(lowI k).toNat, by omega⟩
  have HL := Lib.hid hl'
  go_enter Try.func29, Try.ntmps29
  go_wp2_with (first | (go_at_call 41; refine (spec_CronLow.calls k _ _ (low_f k)).mono ?_; rintro e w1 ⟨rfl, hb1⟩))
  have HB := Lib.hid hb1.below
  clear hb1 hl'
  go_loopw [6] (fun v wr => ∃ (n : Nat) (cs : Array Value), v = .int .i64 n ∧ Aside0 ((l : Int) ≤ n ∧ (n : Int) ≤ highI k + 1) ∧ Aside0 (InvS k b n cs) ∧ Aside0 (wr.heap[w.heap.size + 1]? = some (.cells cs 54 (0, 0))) ∧ Aside0 (∃ z : Array Value, z.size = 64 ∧ wr.heap[w.heap.size]? = some (.cells z 54 (0, 0))) ∧ Aside0 (Below w.heap.size w wr)) (fun v _ => 100 - (intOf v).toNat)
  case atStart =>
    have hbl := HB.out.block
    refine ⟨l, Array.replicate 64 (Value.bool false), rfl, ⟨⟨Int.le_refl _, by have := HL.out; omega⟩⟩, ⟨⟨by simp, fun j hj => ⟨false, by simp [hj]⟩, fun v hv => by
      rw [Array.getElem?_replicate] at hv; split at hv <;> simp at hv⟩⟩, ⟨?_⟩, ⟨Array.replicate 64 (Value.bool false), by simp, ?_⟩, ⟨(bA (bA (Below.refl _ _) _) _).trans (HB.out.mono (by simp; omega))⟩⟩
    · rw [hbl _ (by simp), heap_alloc2_new]; rfl
    · rw [hbl _ (by simp; omega), heap_alloc2_old]; rfl
  case round =>
    obtain ⟨n, cs, rfl, HN, HV, HC, HZ, HW⟩ := hrel
    by_cases c : (n : Int) ≤ highI k
    · have hn : n < 63 := by omega
      obtain ⟨bb, hbb⟩ := HV.out.bl (1 + n) (by omega)
      have HBB := Lib.hid hbb
      clear hbb
      have hlt : w.heap.size + 1 < wr.heap.size := by
        have := HC.out
        exact (Array.getElem?_eq_some_iff.1 this).1
      go_wp2_with (first | (go_at_call 42; refine (spec_CronHigh.calls k _ _ (high_f k)).mono ?_; rintro e w2 ⟨rfl, hb2⟩; have HC2 : Hid (w2.heap[w.heap.size + 1]? = some (.cells cs 54 (0, 0))) := Lib.hid (by rw [hb2.below.block _ hlt]; exact HC.out); have c1 : w2.cell? ⟨w.heap.size + 1, 1 + n, none⟩ = some (.bool bb) := (by rw [cell_of_row _ _ _ _ _ _ HC2.out]; exact HBB.out); have f1 : w2.frozen? ⟨w.heap.size + 1, 1 + n, none⟩ = false := frozen_of_row _ _ _ _ _ HC2.out))
      have HB2 := Lib.hid hb2.below
      clear hb2 c1 f1
      go_roundw
      case measure => simp [intOf]; omega
      case rel =>
        refine ⟨n + 1, cs.setIfInBounds (1 + n) (.bool (hitS b n)), by go_num, ⟨⟨by have := HN.out; omega, by have := HN.out; omega⟩⟩, ⟨?_⟩, ⟨?_⟩, ⟨?_⟩, ⟨(HW.out.trans (HB2.out.mono HW.out.size)).setCell (by simp) _⟩⟩
        · have := HV.out.step (by have := HN.out; have := HL.out; omega) hn
          simpa using this
        · rw [heap_setCell_same _ _ _ _ _ _ HC2.out]; rfl
        · obtain ⟨z, hz, hz'⟩ := HZ.out
          exact ⟨z, hz, by rw [heap_setCell_other _ _ _ _ (by simp), HB2.out.block _ (by omega)]; exact hz'⟩
    · obtain ⟨bb, hbb⟩ := HV.out.bl 0 (by omega)
      have HBB := Lib.hid hbb
      clear hbb
      have hlt : w.heap.size + 1 < wr.heap.size := by
        have := HC.out
        exact (Array.getElem?_eq_some_iff.1 this).1
      go_wp2_with (first
        | (go_at_call 42; refine (spec_CronHigh.calls k _ _ (high_f k)).mono ?_; rintro e w2 ⟨rfl, hb2⟩; have HC2 : Hid (w2.heap[w.heap.size + 1]? = some (.cells cs 54 (0, 0))) := Lib.hid (by rw [hb2.below.block _ hlt]; exact HC.out); have c1 : w2.cell? ⟨w.heap.size + 1, 0, none⟩ = some (.bool bb) := (by rw [cell_of_row _ _ _ _ _ _ HC2.out]; exact HBB.out); have f1 : w2.frozen? ⟨w.heap.size + 1, 0, none⟩ = false := frozen_of_row _ _ _ _ _ HC2.out)
        | ((with_reducible refine wpList_load_row (o := ⟨some 27, _, _, _, _, _⟩) ?a1 54 (.tmp 5) ?a2 (w.heap.size + 1) ?a3 54 (cs.setIfInBounds 0 (.bool (starS b))) (0, 0) _ ?a4 und54 ?a5 ?a6 ?_); (case a1 => rfl); (case a2 => rfl); (case a3 => rfl); (case a5 => rfl); (case a6 => rw [(HV.out.fin HN.out.2).sz]; exact HI.out); (case a4 => exact heap_setCell_same _ _ _ _ _ _ HC2.out))
        | ((with_reducible refine wpList_store_row (o := ⟨none, .store 54 (.tmp 4) (.tmp 27), _, _, _, _⟩) ?b1 54 (.tmp 4) (.tmp 27) ?b2 w.heap.size (cs.setIfInBounds 0 (.bool (starS b))) ?b3 ?b4 54 HZ.out.choose ?b5 ?b6 ?b7 ?b8 ?_); (case b1 => rfl); (case b2 => rfl); (case b3 => rfl); (case b4 => rfl); (case b5 => rw [heap_setCell_other _ _ _ _ (by simp), hb2.below.block _ (by omega)]; exact HZ.out.choose_spec.2); (case b6 => rw [(HV.out.fin HN.out.2).sz]; exact HI.out); (case b7 => rw [(HV.out.fin HN.out.2).sz]; exact HZ.out.choose_spec.1); (case b8 => exact (HV.out.fin HN.out.2).all)))
      refine bodyPost_ret (v := .agg (cs.setIfInBounds 0 (.bool (starS b)))) (results_cell_row rfl _ _ w.heap.size 54 _ (0, 0) _ rfl (setRow_heap _ _ HZ.out.choose _ 54 (0, 0) ?_) und54 rfl ?_) rfl ⟨_, rfl, HV.out.fin HN.out.2, ?_⟩
      · rw [heap_setCell_other _ _ _ _ (by simp), hb2.below.block _ (by omega)]; exact HZ.out.choose_spec.2
      · rw [(HV.out.fin HN.out.2).sz]; exact HI.out
      · exact Below.setRow' ((HW.out.trans (hb2.below.mono HW.out.size)).setCell (by simp) _) (Nat.le_refl _) _
end Go.Proofs.Ytjmgebhjkbcpcaa.NM
set_option linter.unusedVariables false
set_option linter.unusedSimpArgs false
namespace Go.Proofs.Ytjmgebhjkbcpcaa.NM
open Go.RowKit Cal Go.Proofs.Ytjmgebhjkbcpcaa.PFnCronNextMany Go.Proofs.YtjmgebhjkbcpcaaW.PrintWords
set_option maxRecDepth 100000
theorem und56 : Try.prog.underlying 56 = some (.array 6 54) := by kernel_rfl
theorem inf56 : (Try.prog.info? 56).map (·.size) = some 384 := by kernel_rfl
theorem info56 : (Try.prog.info? 56).map (fun i => (i.zero, i.size)) = some (some (.agg (Array.replicate 384 (.bool false))), 384) := by kernel_rfl
def bitsOf (S : Sets) (k : Nat) : Int := [S.se, S.mi, S.ho, S.dom, S.mon, S.dow].getD k 0
def SetsOk (S : Sets) : Prop := ∀ k, k < 6 → 0 ≤ bitsOf S k ∧ bitsOf S k < 18446744073709551616
theorem idx78 (S : Sets) (n : Nat) (h : n < 6) (w : World) : (Instr.index 78 (.agg #[.int .u64 S.se, .int .u64 S.mi, .int .u64 S.ho, .int .u64 S.dom, .int .u64 S.mon, .int .u64 S.dow]) (.int .i64 (n : Int))).run Try.prog w = .ok (.int .u64 (bitsOf S n)) w := by
  rcases n with _ | _ | _ | _ | _ | _ | n
  · kernel_rfl
  · kernel_rfl
  · kernel_rfl
  · kernel_rfl
  · kernel_rfl
  · kernel_rfl
  · omega
theorem SetV.allL {k b : Int} {cs : Array Value} (h : SetV k b cs) : ∀ v ∈ cs.toList, v.oneCell' = true := fun v hv => Array.all_eq_true_iff_forall_mem.1 h.all v (by simpa using hv)
theorem rangeAt_append {w : World} {b o : Nat} {l1 l2 : List Value} (h1 : w.rangeAt b o l1) (h2 : w.rangeAt b (o + l1.length) l2) : w.rangeAt b o (l1 ++ l2) := fun j v hv => by
  rcases Nat.lt_or_ge j l1.length with q | q
  · rw [List.getElem?_append_left q] at hv; exact h1 j v hv
  · rw [List.getElem?_append_right q] at hv
    have := h2 _ _ hv
    rwa [show o + l1.length + (j - l1.length) = o + j by omega] at this
theorem rangeAt_below {w w' : World} {b o : Nat} {l : List Value} (h : w.rangeAt b o l) (hb : Below w.heap.size w w') (hlt : b < w.heap.size) : w'.rangeAt b o l := fun j v hv => by
  rw [hb.cell (p := ⟨b, o + j, none⟩) hlt]; exact h j v hv
theorem there_below {w w' : World} {b o n : Nat} (h : w.there b o n) (hb : Below w.heap.size w w') (hlt : b < w.heap.size) : w'.there b o n := fun j hj => by
  rw [hb.cell (p := ⟨b, o + j, none⟩) hlt, hb.frozen (p := ⟨b, o + j, none⟩) hlt]; exact h j hj
theorem there_sub {w : World} {b n : Nat} (h : w.there b 0 n) (o m : Nat) (hm : o + m ≤ n) : w.there b o m := fun j hj => by
  have := h (o + j) (by omega)
  rwa [Nat.zero_add] at this
theorem there_block {w : World} {b : Nat} {C : Array Value} {t : TypeId} (hb : w.heap[b]? = some (.cells C t (0, 0))) : w.there b 0 C.size := fun j hj => by
  rw [Nat.zero_add, cell_of_row _ _ _ _ _ _ hb]
  exact ⟨by simp [hj], frozen_of_row _ _ _ _ _ hb⟩
theorem Below.setCells {B : Nat} {a : World} {g : Nat} (hg : B ≤ g) : ∀ (vs : List Value) (o : Nat) (w : World), Below B a w → Below B a (w.setCells g o vs)
  | [], _, _, h => h
  | v :: r, o, w, h => by
    rw [World.setCells]
    exact Below.setCells hg r (o + 1) _ (h.setCell hg v)
theorem setCells_size (g : Nat) : ∀ (vs : List Value) (o : Nat) (w : World), (w.setCells g o vs).heap.size = w.heap.size
  | [], _, _ => rfl
  | v :: r, o, w => by
    rw [World.setCells, setCells_size g r (o + 1) _]; simp
/-- what the block of the fields holds behind i rounds -/
def FI (S : Sets) (w : World) (g i : Nat) (f : Nat → Array Value) : Prop :=
  w.there g 0 384 ∧ g < w.heap.size ∧ ∀ k, k < i → SetV k (bitsOf S k) (f k) ∧ w.rangeAt g (64 * k) (f k).toList
theorem FI.below {S : Sets} {w w' : World} {g i : Nat} {f : Nat → Array Value} (h : FI S w g i f) (hb : Below w.heap.size w w') : FI S w' g i f :=
  ⟨there_below h.1 hb h.2.1, Nat.lt_of_lt_of_le h.2.1 hb.size, fun k hk => ⟨(h.2.2 k hk).1, rangeAt_below (h.2.2 k hk).2 hb h.2.1⟩⟩
theorem FI.step {S : Sets} {w : World} {g i : Nat} {f : Nat → Array Value} (h : FI S w g i f) (cs : Array Value) (hc : SetV i (bitsOf S i) cs) (hi : i < 6) :
    FI S (w.setCells g (64 * i) cs.toList) g (i + 1) (fun k => if k = i then cs else f k) := by
  have hl : cs.toList.length = 64 := by simpa using hc.sz
  refine ⟨World.there_setCells h.1 _ _ _, by rw [setCells_size]; exact h.2.1, fun k hk => ?_⟩
  by_cases e : k = i
  · subst e
    simp only [if_true]
    exact ⟨hc, World.rangeAt_setCells_same _ _ _ _ (there_sub h.1 _ _ (by omega))⟩
  · simp only [if_neg e]
    obtain ⟨a, b⟩ := h.2.2 k (by omega)
    refine ⟨a, World.rangeAt_setCells_apart b _ _ _ ?_⟩
    have : (f k).toList.length = 64 := by simpa using a.sz
    omega
def flatF (f : Nat → Array Value) : Nat → Nat → List Value
  | _, 0 => []
  | k, n + 1 => (f k).toList ++ flatF f (k + 1) n
theorem flatF_len {f : Nat → Array Value} : ∀ (n k : Nat), (∀ i, k ≤ i → i < k + n → (f i).size = 64) → (flatF f k n).length = 64 * n
  | 0, _, _ => rfl
  | n + 1, k, h => by
    rw [flatF, List.length_append, flatF_len n (k + 1) (fun i h0 h1 => h i (by omega) (by omega))]
    have := h k (by omega) (by omega)
    simp only [Array.length_toList]; omega
theorem flatF_get {f : Nat → Array Value} : ∀ (n k : Nat), (∀ i, k ≤ i → i < k + n → (f i).size = 64) → ∀ (i j : Nat), i < n → j < 64 → (flatF f k n)[64 * i + j]? = (f (k + i))[j]?
  | 0, _, _, _, _, hi, _ => by omega
  | n + 1, k, h, i, j, hi, hj => by
    have hk := h k (by omega) (by omega)
    rw [flatF]
    rcases i with _ | i
    · rw [List.getElem?_append_left (by simp only [Array.length_toList]; omega)]
      simp
    · rw [List.getElem?_append_right (by simp only [Array.length_toList]; omega)]
      simp only [Array.length_toList, hk]
      rw [show 64 * (i + 1) + j - 64 = 64 * i + j by omega, flatF_get n (k + 1) (fun i h0 h1 => h i (by omega) (by omega)) i j (by omega) hj]
      rw [show k + 1 + i = k + (i + 1) by omega]
theorem flatF_mem {f : Nat → Array Value} : ∀ (n k : Nat), (∀ i, k ≤ i → i < k + n → ∀ v ∈ (f i).toList, v.oneCell' = true) → ∀ v ∈ flatF f k n, v.oneCell' = true
  | 0, _, _, v, hv => by simp [flatF] at hv
  | n + 1, k, h, v, hv => by
    rw [flatF, List.mem_append] at hv
    rcases hv with hv | hv
    · exact h k (by omega) (by omega) v hv
    · exact flatF_mem n (k + 1) (fun i h0 h1 => h i (by omega) (by omega)) v hv
theorem flatF_range {f : Nat → Array Value} {w : World} {g : Nat} : ∀ (n k : Nat), (∀ i, k ≤ i → i < k + n → (f i).size = 64 ∧ w.rangeAt g (64 * i) (f i).toList) → w.rangeAt g (64 * k) (flatF f k n)
  | 0, _, _ => fun j v hv => by simp [flatF] at hv
  | n + 1, k, h => by
    rw [flatF]
    obtain ⟨a, b⟩ := h k (by omega) (by omega)
    refine rangeAt_append b ?_
    have := flatF_range n (k + 1) (fun i h0 h1 => h i (by omega) (by omega))
    rwa [show 64 * k + (f k).toList.length = 64 * (k + 1) by simp only [Array.length_toList, a]; omega]
/-- the fields of a schedule, as cells -/
def FieldsV (S : Sets) (cs : Array Value) : Prop := ∃ f : Nat → Array Value, (∀ k : Nat, k < 6 → SetV k (bitsOf S k) (f k)) ∧ cs = (flatF f 0 6).toArray
theorem FI.fin {S : Sets} {w : World} {g : Nat} {f : Nat → Array Value} (h : FI S w g 6 f) : w.rangeAt g 0 (flatF f 0 6) ∧ (flatF f 0 6).length = 384 ∧ (flatF f 0 6).toArray.all (·.oneCell') = true ∧ FieldsV S (flatF f 0 6).toArray := by
  refine ⟨?_, ?_, ?_, f, fun k hk => (h.2.2 k hk).1, rfl⟩
  · have := flatF_range (w := w) (g := g) 6 0 (fun i h0 h1 => ⟨(h.2.2 i (by omega)).1.sz, (h.2.2 i (by omega)).2⟩)
    simpa using this
  · exact flatF_len 6 0 (fun i h0 h1 => (h.2.2 i (by omega)).1.sz)
  · exact all_oneCell_toArray (flatF_mem 6 0 (fun i h0 h1 => (h.2.2 i (by omega)).1.allL))
theorem results_cell_mid {P : Program} {fn : Func} {p : Tmp} {ty : TypeId} (h : fn.results = #[.cell p ty]) (tmps : Array Value) (w : World) (b : Nat) (cs : List Value) (d : TypeDesc)
    (hp : tmps.getD p undef = .pointer (some ⟨b, 0, none⟩)) (hc : w.rangeAt b 0 cs) (hu : P.underlying ty = some d) (hd : d.isRow = true) (hi : (P.info? ty).map (·.size) = some cs.length) :
    (results fn tmps).run P w = .ok (.agg cs.toArray) w := by
  have hp' : tmps[p]?.getD undef = .pointer (some ⟨b, 0, none⟩) := by simpa using hp
  simp [results, h, hp', asAddr, run_loadVar_mid w b 0 ty cs d hc hu hd hi]
theorem tFieldsOf (ev : Bool) (d : Int) (S : Sets) (hS : SetsOk S) (w : World) :
    Calls Try.prog 18 #[.agg #[.bool ev, .int .i64 d, .int .u64 S.se, .int .u64 S.mi, .int .u64 S.ho, .int .u64 S.dom, .int .u64 S.mon, .int .u64 S.dow]] w fun e w' => ∃ cs : Array Value, e = .returned (.agg cs) ∧ FieldsV S cs ∧ Below w.heap.size w w' := by
  have HZ := (zero_of_info info56).1
  have HS := Lib.hid hS
  clear hS
  go_enter Try.func18, Try.ntmps18
  go_upto_region 3 with fail
  clear HZ
  generalize hW : World.alloc _ _ = W
  have hbW : Below w.heap.size w W := by rw [← hW]; exact bA (bA (bA (Below.refl _ _) _) _) _
  have hF : FI S W (w.heap.size + 1 + 1) 0 (fun _ => #[]) := by
    refine ⟨?_, by rw [← hW]; simp, fun k hk => by omega⟩
    have : W.heap[w.heap.size + 1 + 1]? = some (.cells (Array.replicate 384 (.bool false)) 56 (0, 0)) := by
      rw [← hW]
      have := heap_alloc_new ((w.alloc (Obj.cells #[.bool ev, .int .i64 d, .int .u64 S.se, .int .u64 S.mi, .int .u64 S.ho, .int .u64 S.dom, .int .u64 S.mon, .int .u64 S.dow] 24)).alloc (Obj.cells (Array.replicate 384 (.bool false)) 56)) (Obj.cells (Array.replicate 384 (.bool false)) 56)
      simpa using this
    simpa using there_block this
  have hG : W.there (w.heap.size + 1) 0 384 := by
    have : W.heap[w.heap.size + 1]? = some (.cells (Array.replicate 384 (.bool false)) 56 (0, 0)) := by
      rw [← hW, Below.heap_alloc _ _ _ (by simp)]
      exact heap_alloc2_new _ _ _
    simpa using there_block this
  have hsW : w.heap.size + 3 ≤ W.heap.size := by rw [← hW]; simp
  clear hW
  have HF := Lib.hid hF
  have HG := Lib.hid hG
  have HW := Lib.hid hbW
  clear hF hG hbW
  go_loopw [19] (fun v wr => ∃ (n : Nat) (f : Nat → Array Value), v = .int .i64 n ∧ Aside0 (n ≤ 6) ∧ Aside0 (FI S wr (w.heap.size + 1 + 1) n f) ∧ Aside0 (wr.there (w.heap.size + 1) 0 384) ∧ Aside0 (w.heap.size + 3 ≤ wr.heap.size) ∧ Aside0 (Below w.heap.size w wr)) (fun v _ => 100 - (intOf v).toNat)
  case atStart => exact ⟨0, _, rfl, ⟨by decide⟩, ⟨HF.out⟩, ⟨HG.out⟩, ⟨hsW⟩, ⟨HW.out⟩⟩
  case round =>
    obtain ⟨n, f, rfl, HN, HFI, HT, HZ, HB⟩ := hrel
    by_cases c : n < 6
    · have ct : decide ((n : Int) < 6) = true := by simp; omega
      have hidx := idx78 S n c
      have hbd := HS.out n c
      generalize hb : bitsOf S n = b at hidx hbd
      have HBB := Lib.hid hb
      clear hb
      go_wp2_with (first
        | (go_at_call 29; refine (tSetOf (n : Int) b _ (by omega) (by omega) hbd.1 hbd.2).mono ?_; rintro e w2 ⟨cs, rfl, hcs, hb2⟩; have HB2 := Lib.hid hb2; have HCS := Lib.hid hcs; clear hb2 hcs)
        | ((with_reducible refine wpList_store_mid (op := ⟨none, .store 54 (.tmp 27) (.tmp 26), _, _, _, _⟩) ?b1 54 (.tmp 27) (.tmp 26) ?b2 (w.heap.size + 1 + 1) (n * 64) cs ?b3 ?b4 ?b5 ?b6 ?b7 ?_); (case b1 => rfl); (case b2 => rfl); (case b4 => rfl); (case b3 => rfl); (case b5 => rw [HCS.out.sz]; exact there_sub (HFI.out.below HB2.out).1 _ _ (by omega)); (case b6 => rw [HCS.out.sz]; exact inf54); (case b7 => exact HCS.out.all)))
      go_roundw
      case measure => simp [intOf]; omega
      case rel =>
        have hF2 := HFI.out.below HB2.out
        have hT2 := there_below HT.out HB2.out (by have := HFI.out.2.1; omega)
        have hcs : SetV n (bitsOf S n) cs := by rw [HBB.out]; exact HCS.out
        rw [show n * 64 = 64 * n by omega]
        exact ⟨n + 1, _, by go_num, ⟨by omega⟩, ⟨hF2.step cs hcs c⟩, ⟨World.there_setCells hT2 _ _ _⟩, ⟨by rw [setCells_size]; have := HB2.out.size; have := HZ.out; omega⟩, ⟨Below.setCells (by omega) _ _ _ (HB.out.trans (HB2.out.mono HB.out.size))⟩⟩
    · have ct : decide ((n : Int) < 6) = false := by simp; omega
      obtain rfl : n = 6 := by have := HN.out; omega
      obtain ⟨L, hL⟩ : ∃ L, flatF f 0 6 = L := ⟨_, rfl⟩
      have hfin := HFI.out.fin
      rw [hL] at hfin
      have HX := Lib.hid hfin
      clear hfin hL
      go_wp2_with (first
        | ((with_reducible refine wpList_load_mid (op := ⟨some 29, _, _, _, _, _⟩) ?a1 56 (.tmp 3) ?a2 (w.heap.size + 1 + 1) 0 ?a3 L _ ?a4 und56 ?a5 ?a6 ?_); (case a1 => rfl); (case a2 => rfl); (case a3 => rfl); (case a4 => exact HX.out.1); (case a5 => rfl); (case a6 => rw [HX.out.2.1]; exact inf56))
        | ((with_reducible refine wpList_store_mid (op := ⟨none, .store 56 (.tmp 2) (.tmp 29), _, _, _, _⟩) ?b1 56 (.tmp 2) (.tmp 29) ?b2 (w.heap.size + 1) 0 L.toArray ?b3 ?b4 ?b5 ?b6 ?b7 ?_); (case b1 => rfl); (case b2 => rfl); (case b4 => rfl); (case b3 => rfl); (case b5 => rw [show L.toArray.size = 384 from HX.out.2.1]; exact HT.out); (case b6 => rw [show L.toArray.size = 384 from HX.out.2.1]; exact inf56); (case b7 => exact HX.out.2.2.1)))
      refine bodyPost_ret (v := .agg L.toArray) (results_cell_mid rfl _ _ (w.heap.size + 1) L _ rfl ?_ und56 rfl ?_) rfl ⟨_, rfl, HX.out.2.2.2, ?_⟩
      · have := World.rangeAt_setCells_same wr (w.heap.size + 1) 0 L (by rw [HX.out.2.1]; exact HT.out)
        simpa using this
      · rw [HX.out.2.1]; exact inf56
      · exact Below.setCells (by omega) _ _ _ HB.out
end Go.Proofs.Ytjmgebhjkbcpcaa.NM
set_option linter.unusedVariables false
set_option linter.unusedSimpArgs false
namespace Go.Proofs.Ytjmgebhjkbcpcaa.NM
open Go.RowKit Cal Go.Proofs.Ytjmgebhjkbcpcaa.PFnCronNextMany Go.Proofs.YtjmgebhjkbcpcaaW.PrintWords
set_option maxRecDepth 100000
theorem und52 : Try.prog.underlying 52 = some (.array 63 4) := by kernel_rfl
theorem und4 : Try.prog.underlying 4 = some .bool := by kernel_rfl
theorem inf52 : (Try.prog.info? 52).map (·.size) = some 63 := by kernel_rfl
theorem key52 : Try.prog.keyTypeAt 2 52 = true := by kernel_rfl
theorem co52 : Try.prog.cellsOf 52 = 63 := by kernel_rfl
theorem co4 : Try.prog.cellsOf 4 = 1 := by kernel_rfl
theorem key4 (D : Nat) (b : Bool) : ∃ l, Try.prog.keyLits (D + 1) 4 [.bool b] = some l := by
  refine ⟨[.bool b], ?_⟩
  unfold Program.keyLits
  simp only [und4]
theorem mapM_some {α β : Type} (g : α → Option β) : ∀ l : List α, (∀ i ∈ l, ∃ y, g i = some y) → ∃ ys, l.mapM g = some ys
  | [], _ => ⟨[], rfl⟩
  | a :: l, h => by
    obtain ⟨y, hy⟩ := h a (by simp)
    obtain ⟨ys, hys⟩ := mapM_some g l fun i hi => h i (by simp [hi])
    exact ⟨y :: ys, by rw [List.mapM_cons, hy, hys]; rfl⟩
theorem lits52 (l : List Value) (hl : l.length = 63) (hb : ∀ j, j < 63 → ∃ b, l[j]? = some (.bool b)) : ∃ la, Try.prog.keyLits 2 52 l = some la := by
  unfold Program.keyLits
  simp only [und52, co52, co4, hl, if_true]
  obtain ⟨ys, hys⟩ := mapM_some (fun i => Try.prog.keyLits 1 4 ((l.drop (i * 1)).take 1)) (List.range 63) fun i hi => by
    obtain ⟨b, hb⟩ := hb i (by simpa using hi)
    have : (l.drop (i * 1)).take 1 = [.bool b] := by
      rw [Nat.mul_one]
      have hlt : i < l.length := (List.getElem?_eq_some_iff.1 hb).1
      rw [List.drop_eq_getElem_cons hlt, List.take_succ_cons, List.take_zero]
      rw [List.getElem?_eq_getElem hlt] at hb
      injection hb with hb
      rw [hb]
    simp only [this]
    exact key4 0 b
  rw [hys]
  exact ⟨_, rfl⟩
open Classical in
theorem eq52 (xs ys : Array Value) (hx : xs.size = 63) (hy : ys.size = 63) (bx : ∀ j, j < 63 → ∃ b, xs[j]? = some (.bool b)) (by' : ∀ j, j < 63 → ∃ b, ys[j]? = some (.bool b)) :
    ∃ r : Bool, ∀ w, (Op.equalIn 10000 52 (.agg xs) (.agg ys)).run Try.prog w = .ok r w := by
  obtain ⟨la, hla⟩ := lits52 xs.toList (by simpa using hx) (by simpa using bx)
  obtain ⟨lb, hlb⟩ := lits52 ys.toList (by simpa using hy) (by simpa using by')
  have fx : (Value.agg xs).formed Try.prog 52 = true := by simp [Value.formed, und52, hx, co52]
  have fy : (Value.agg ys).formed Try.prog 52 = true := by simp [Value.formed, und52, hy, co52]
  have key := fun w => run_equalIn_deep 9998 2 52 key52 w 2 2 (.agg xs) (.agg ys) la lb fx fy hla hlb
  refine ⟨decide (la = lb), fun w => ?_⟩
  obtain ⟨r, hr, hi⟩ := key w
  rw [show (10000 : Nat) = 9998 + 2 from rfl, hr]
  congr 1
  by_cases h : la = lb
  · rw [hi.2 h]; simp [h]
  · cases r with
    | false => simp [h]
    | true => exact absurd (hi.1 rfl) h
theorem SetV.tail {k b : Int} {ds : Array Value} (h : SetV k b ds) : (ds.extract 1 64).size = 63 ∧ ∀ j, j < 63 → ∃ b, (ds.extract 1 64)[j]? = some (.bool b) := by
  refine ⟨by simp [h.sz], fun j hj => ?_⟩
  obtain ⟨b, hb⟩ := h.bl (1 + j) (by omega)
  refine ⟨b, ?_⟩
  rw [Array.getElem?_extract, if_pos (by rw [h.sz]; omega)]
  exact hb
theorem fld54 (w : World) : (Instr.field 54 (.agg (Value.bool false :: Value.bool false :: Value.bool false :: Value.bool false :: Value.bool false :: Value.bool false :: Value.bool false :: Value.bool false :: Value.bool false :: Value.bool false :: Value.bool false :: Value.bool false :: Value.bool false :: Value.bool false :: Value.bool false :: Value.bool false :: Value.bool false :: Value.bool false :: Value.bool false :: Value.bool false :: Value.bool false :: Value.bool false :: Value.bool false :: Value.bool false :: Value.bool false :: Value.bool false :: Value.bool false :: Value.bool false :: Value.bool false :: Value.bool false :: Value.bool false :: Value.bool false :: Value.bool false :: Value.bool false :: Value.bool false :: Value.bool false :: Value.bool false :: Value.bool false :: Value.bool false :: Value.bool false :: Value.bool false :: Value.bool false :: Value.bool false :: Value.bool false :: Value.bool false :: Value.bool false :: Value.bool false :: Value.bool false :: Value.bool false :: Value.bool false :: Value.bool false :: Value.bool false :: Value.bool false :: Value.bool false :: Value.bool false :: Value.bool false :: Value.bool false :: Value.bool false :: Value.bool false :: Value.bool false :: Value.bool false :: Value.bool false :: Value.bool false :: Value.bool false :: []).toArray) 1).run Try.prog w = .ok (.agg (Array.replicate 63 (.bool false))) w := by kernel_rfl
theorem tEmpty (k b : Int) (ds : Array Value) (hd : SetV k b ds) (w : World) :
    Calls Try.prog 47 #[.agg ds] w fun e w' => ∃ bb, e = .returned (.bool bb) ∧ Below w.heap.size w w' := by
  obtain ⟨h1, h2⟩ := hd.tail
  obtain ⟨r, hr⟩ := eq52 (ds.extract 1 64) (Array.replicate 63 (.bool false)) h1 (by simp) h2 (fun j hj => ⟨false, by simp [hj]⟩)
  have hR := World.rangeAt_of_block (heap_alloc_new w (Obj.cells ds 54)) 1 63
  obtain ⟨L, hL⟩ : ∃ L, (ds.extract 1 64).toList = L := ⟨_, rfl⟩
  have hll : L.length = 63 := by rw [← hL, Array.length_toList]; exact h1
  have hA : ds.extract 1 64 = L.toArray := by rw [← hL]
  rw [show 1 + 63 = 64 from rfl, hL] at hR
  rw [hA] at hr
  have HL := Lib.hid hll
  have HR := Lib.hid hR
  clear hd h1 h2 hll hR hL hA
  have hF := fld54
  go_enter Try.func47, Try.ntmps47
  go_wp2_with ((with_reducible refine wpList_load_mid (op := ⟨some 4, _, _, _, _, _⟩) ?a1 52 (.tmp 3) ?a2 w.heap.size 1 ?a3 L _ ?a4 und52 ?a5 ?a6 ?_); (case a1 => rfl); (case a2 => rfl); (case a3 => rfl); (case a4 => exact HR.out); (case a5 => rfl); (case a6 => rw [HL.out]; exact inf52))
  go_ret
  exact ⟨_, rfl, bA (Below.refl _ _) _⟩
theorem FieldsV.sz {S : Sets} {cs : Array Value} (h : FieldsV S cs) : cs.size = 384 := by
  obtain ⟨f, hf, rfl⟩ := h
  rw [List.size_toArray, flatF_len 6 0 (fun i h0 h1 => (hf i (by omega)).sz)]
theorem FieldsV.get {S : Sets} {cs : Array Value} (h : FieldsV S cs) : ∃ f : Nat → Array Value, (∀ k : Nat, k < 6 → SetV k (bitsOf S k) (f k)) ∧ ∀ k j, k < 6 → j < 64 → cs[64 * k + j]? = (f k)[j]? := by
  obtain ⟨f, hf, rfl⟩ := h
  refine ⟨f, hf, fun k j hk hj => ?_⟩
  have := flatF_get 6 0 (fun i h0 h1 => (hf i (by omega)).sz) k j hk hj
  rw [Nat.zero_add] at this
  rw [← this]; simp
/-- is a value in a field's set? -/
def inF (cs : Array Value) (k v : Nat) : Bool := match cs[64 * k + 1 + v]? with
  | some (.bool b) => b
  | _ => false
def stF (cs : Array Value) (k : Nat) : Bool := match cs[64 * k]? with
  | some (.bool b) => b
  | _ => false
theorem FieldsV.at {S : Sets} {cs : Array Value} (h : FieldsV S cs) (k v : Nat) (hk : k < 6) (hv : v < 63) : cs[64 * k + 1 + v]? = some (.bool (inF cs k v)) := by
  obtain ⟨f, hf, hg⟩ := h.get
  have e := hg k (1 + v) hk (by omega)
  rw [show 64 * k + (1 + v) = 64 * k + 1 + v by omega] at e
  obtain ⟨b, hb⟩ := (hf k hk).bl (1 + v) (by omega)
  unfold inF
  rw [e, hb]
theorem FieldsV.star {S : Sets} {cs : Array Value} (h : FieldsV S cs) (k : Nat) (hk : k < 6) : cs[64 * k]? = some (.bool (starS (bitsOf S k))) := by
  obtain ⟨f, hf, hg⟩ := h.get
  have e := hg k 0 hk (by omega)
  rw [show 64 * k + 0 = 64 * k by omega] at e
  rw [e]; exact (hf k hk).st
theorem FieldsV.hit {S : Sets} {cs : Array Value} (h : FieldsV S cs) (k v : Nat) (hk : k < 6) (hv : v < 63) (hi : inF cs k v = true) : lowI k ≤ v ∧ (v : Int) ≤ highI k ∧ hitS (bitsOf S k) v = true := by
  obtain ⟨f, hf, hg⟩ := h.get
  have e := hg k (1 + v) hk (by omega)
  rw [show 64 * k + (1 + v) = 64 * k + 1 + v by omega, h.at k v hk hv, hi] at e
  exact (hf k hk).inv v e.symm
theorem FieldsV.parts {S : Sets} {cs : Array Value} (h : FieldsV S cs) : ∃ L : Nat → List Value, ∀ k : Nat, k < 6 → SetV k (bitsOf S k) (L k).toArray ∧ (L k).length = 64 ∧ ∀ (w : World) (g : Nat) (t : TypeId), w.heap[g]? = some (.cells cs t (0, 0)) → w.rangeAt g (64 * k) (L k) := by
  obtain ⟨f, hf, hg⟩ := h.get
  refine ⟨fun k => (f k).toList, fun k hk => ⟨by simpa using hf k hk, by simpa using (hf k hk).sz, fun w g t hb j v hv => ?_⟩⟩
  have hj : j < 64 := by
    have := (List.getElem?_eq_some_iff.1 hv).1
    rw [Array.length_toList, (hf k hk).sz] at this
    exact this
  rw [cell_of_row w g _ _ _ _ hb, hg k j hk hj]
  simpa using hv
theorem wpList_load_midg {P : Program} {ops : Array Oper} {rest : List Oper} {op : Oper} {a : Act} {w : World} {Q : Exit → Act → World → Prop} (hgd : Region.wanted op (yielded ops a.tmps) = true) (ty : TypeId) (x : Operand) (ho : op.op = .load ty x)
    (b o : Nat) (hx : a.eval x = .pointer (some ⟨b, o, none⟩)) (cs : List Value) (d : TypeDesc) (hc : w.rangeAt b o cs)
    (hu : P.underlying ty = some d) (hd : d.isRow = true) (hi : (P.info? ty).map (·.size) = some cs.length)
    (h : wpList P ops Q rest (a.put op.dst (.agg cs.toArray)) w) : wpList P ops Q (op :: rest) a w := by
  show if _ then _ else _
  rw [if_pos hgd]
  exact .inl (wp_load_mid ty x ho b o hx cs d hc hu hd hi h)
theorem block_lt_row {w : World} {g : Nat} {o : Obj} (h : w.heap[g]? = some o) : g < w.heap.size := (Array.getElem?_eq_some_iff.1 h).1
theorem tNever (S : Sets) (cs : Array Value) (h : FieldsV S cs) (w : World) : Calls Try.prog 36 #[.agg cs] w fun e w' => ∃ bb, e = .returned (.bool bb) ∧ Below w.heap.size w w' := by
  obtain ⟨L, hL⟩ := h.parts
  have hb := heap_alloc_new w (Obj.cells cs 56)
  have H0 := Lib.hid (hL 0 (by decide))
  have H1 := Lib.hid (hL 1 (by decide))
  have H2 := Lib.hid (hL 2 (by decide))
  have HB := Lib.hid hb
  generalize L 0 = L0 at H0
  generalize L 1 = L1 at H1
  generalize L 2 = L2 at H2
  clear hL hb L
  go_enter Try.func36, Try.ntmps36
  go_wp2_with (first
    | ((with_reducible refine wpList_load_mid (op := ⟨some 4, _, _, _, _, _⟩) ?a1 54 (.tmp 3) ?a2 w.heap.size 128 ?a3 L2 _ ?a4 und54 ?a5 ?a6 ?_); (case a1 => rfl); (case a2 => rfl); (case a3 => rfl); (case a4 => exact H2.out.2.2 _ _ 56 HB.out); (case a5 => rfl); (case a6 => rw [H2.out.2.1]; exact inf54))
    | (go_at_call 47; (with_reducible refine (tEmpty 2 _ L2.toArray H2.out.1 _).mono ?_); rintro e w1 ⟨b1, rfl, hb1⟩; have HB1 : Hid (w1.heap[w.heap.size]? = some (.cells cs 56 (0, 0))) := Lib.hid (by rw [hb1.block _ (block_lt_row HB.out)]; exact HB.out); have HW1 : Hid (Below w.heap.size w w1) := Lib.hid ((bA (Below.refl _ _) _).trans (hb1.mono (by simp))); clear hb1; cases b1)
    | ((with_reducible refine wpList_load_midg (op := ⟨some 8, _, _, _, _, _⟩) ?a1 54 (.tmp 7) ?a2 w.heap.size 64 ?a3 L1 _ ?a4 und54 ?a5 ?a6 ?_); (case a1 => rfl); (case a2 => rfl); (case a3 => rfl); (case a4 => exact H1.out.2.2 _ _ 56 HB1.out); (case a5 => rfl); (case a6 => rw [H1.out.2.1]; exact inf54))
    | (go_at_call 47; (with_reducible refine (tEmpty 1 _ L1.toArray H1.out.1 _).mono ?_); rintro e w2 ⟨b2, rfl, hb2⟩; have HB2 : Hid (w2.heap[w.heap.size]? = some (.cells cs 56 (0, 0))) := Lib.hid (by rw [hb2.block _ (block_lt_row HB1.out)]; exact HB1.out); have HW2 := Lib.hid (HW1.out.trans (hb2.mono HW1.out.size)); clear hb2; cases b2)
    | ((with_reducible refine wpList_load_midg (op := ⟨some 13, _, _, _, _, _⟩) ?a1 54 (.tmp 12) ?a2 w.heap.size 0 ?a3 L0 _ ?a4 und54 ?a5 ?a6 ?_); (case a1 => rfl); (case a2 => rfl); (case a3 => rfl); (case a4 => exact H0.out.2.2 _ _ 56 HB2.out); (case a5 => rfl); (case a6 => rw [H0.out.2.1]; exact inf54))
    | (go_at_call 47; (with_reducible refine (tEmpty 0 _ L0.toArray H0.out.1 _).mono ?_); rintro e w3 ⟨b3, rfl, hb3⟩; have HB3 : Hid (w3.heap[w.heap.size]? = some (.cells cs 56 (0, 0))) := Lib.hid (by rw [hb3.block _ (block_lt_row HB2.out)]; exact HB2.out); have HW3 := Lib.hid (HW2.out.trans (hb3.mono HW2.out.size)); clear hb3; cases b3))
  all_goals
    go_ret
    refine ⟨_, rfl, ?_⟩
    first | exact HW3.out | exact HW2.out | exact HW1.out
end Go.Proofs.Ytjmgebhjkbcpcaa.NM
set_option linter.unusedVariables false
set_option linter.unusedSimpArgs false
namespace Go.Proofs.Ytjmgebhjkbcpcaa.NM
open Go.RowKit Cal Go.Proofs.Ytjmgebhjkbcpcaa.PFnCronNextMany Go.Proofs.YtjmgebhjkbcpcaaW.PrintWords
set_option maxRecDepth 100000
def dayF (S : Sets) (cs : Array Value) (d v : Nat) : Bool := if starS (bitsOf S 3) || starS (bitsOf S 5) then inF cs 3 d && inF cs 5 v else inF cs 3 d || inF cs 5 v
theorem tDayFits (S : Sets) (cs : Array Value) (h : FieldsV S cs) (y m : Int) (d v : Nat) (hd : d < 63) (hv : v < 63) (w : World) :
    Calls Try.prog 38 #[.agg cs, .agg #[.int .i64 y, .int .i64 m, .int .i64 d], .int .i64 v] w fun e w' => e = .returned (.bool (dayF S cs d v)) ∧ Below w.heap.size w w' := by
  have hb := heap_alloc_new w (Obj.cells cs 56)
  have a1 := h.at 3 d (by decide) hd
  have a2 := h.at 5 v (by decide) hv
  have a3 := h.star 3 (by decide)
  have a4 := h.star 5 (by decide)
  rw [show 64 * 3 + 1 + d = 193 + d by omega] at a1
  rw [show 64 * 5 + 1 + v = 321 + v by omega] at a2
  have k1 : (w.alloc (Obj.cells cs 56)).cell? ⟨w.heap.size, 193 + d, none⟩ = some (.bool (inF cs 3 d)) := by rw [cell_of_row _ _ _ _ _ _ hb]; exact a1
  have k2 : (w.alloc (Obj.cells cs 56)).cell? ⟨w.heap.size, 321 + v, none⟩ = some (.bool (inF cs 5 v)) := by rw [cell_of_row _ _ _ _ _ _ hb]; exact a2
  have k3 : (w.alloc (Obj.cells cs 56)).cell? ⟨w.heap.size, 192, none⟩ = some (.bool (starS (bitsOf S 3))) := by rw [cell_of_row _ _ _ _ _ _ hb]; exact a3
  have k4 : (w.alloc (Obj.cells cs 56)).cell? ⟨w.heap.size, 320, none⟩ = some (.bool (starS (bitsOf S 5))) := by rw [cell_of_row _ _ _ _ _ _ hb]; exact a4
  obtain ⟨r, hr⟩ : ∃ r, dayF S cs d v = r := ⟨_, rfl⟩
  have HR := Lib.hid hr
  rw [hr]
  unfold dayF at hr
  have HR' := Lib.hid hr
  clear hr a1 a2 a3 a4 hb
  generalize inF cs 3 d = b1 at *
  generalize inF cs 5 v = b2 at *
  generalize starS (bitsOf S 3) = b3 at *
  generalize starS (bitsOf S 5) = b4 at *
  go_enter Try.func38, Try.ntmps38
  go_upto_region 1 with fail
  generalize hW : World.alloc (w.alloc (Obj.cells cs 56)) _ = W
  have j1 : W.cell? ⟨w.heap.size, 193 + d, none⟩ = some (.bool b1) := by rw [← hW, World.cell?_alloc_lt _ _ _ (by simp)]; exact k1
  have j2 : W.cell? ⟨w.heap.size, 321 + v, none⟩ = some (.bool b2) := by rw [← hW, World.cell?_alloc_lt _ _ _ (by simp)]; exact k2
  have j3 : W.cell? ⟨w.heap.size, 192, none⟩ = some (.bool b3) := by rw [← hW, World.cell?_alloc_lt _ _ _ (by simp)]; exact k3
  have j4 : W.cell? ⟨w.heap.size, 320, none⟩ = some (.bool b4) := by rw [← hW, World.cell?_alloc_lt _ _ _ (by simp)]; exact k4
  have j5 : W.cell? ⟨w.heap.size + 1, 2, none⟩ = some (.int .i64 d) := by rw [← hW]; simp [go_sem]
  have HB : Hid (Below w.heap.size w W) := Lib.hid (by rw [← hW]; exact bA (bA (Below.refl _ _) _) _)
  clear hW k1 k2 k3 k4
  go_region
  cases b3 <;> cases b4 <;> cases b1 <;> cases b2 <;>
    (go_wp2; go_ret; exact ⟨by rw [← HR'.out]; rfl, (by first | exact HB.out.drew | exact HB.out)⟩)
end Go.Proofs.Ytjmgebhjkbcpcaa.NM
set_option linter.unusedVariables false
set_option linter.unusedSimpArgs false
namespace Go.Proofs.Ytjmgebhjkbcpcaa.NM
open Go.RowKit Cal Go.Proofs.Ytjmgebhjkbcpcaa.PFnCronNextMany Go.Proofs.YtjmgebhjkbcpcaaW.PrintWords
set_option maxRecDepth 100000
/-- a time of day that is in a schedule's sets, from a second on; -1: none was found -/
def TimeOk (cs : Array Value) (fr r : Int) : Prop := r = -1 ∨ (fr ≤ r ∧ 0 ≤ r ∧ r < 86400 ∧ inF cs 2 (r / 3600).toNat = true ∧ inF cs 1 (r % 3600 / 60).toNat = true ∧ inF cs 0 (r % 60).toNat = true)
theorem tTime (S : Sets) (cs : Array Value) (h : FieldsV S cs) (fr : Nat) (hfr : fr < 86400) (w : World) :
    Calls Try.prog 40 #[.agg cs, .int .i64 fr] w fun e w' => ∃ r, e = .returned (.int .i64 r) ∧ TimeOk cs fr r ∧ Below w.heap.size w w' := by
  have hb := heap_alloc_new w (Obj.cells cs 56)
  have HC2 : Hid (∀ v, v < 63 → (w.alloc (Obj.cells cs 56)).cell? ⟨w.heap.size, 129 + v, none⟩ = some (.bool (inF cs 2 v))) := Lib.hid fun v hv => by rw [cell_of_row _ _ _ _ _ _ hb]; exact h.at 2 v (by decide) hv
  have HC1 : Hid (∀ v, v < 63 → (w.alloc (Obj.cells cs 56)).cell? ⟨w.heap.size, 65 + v, none⟩ = some (.bool (inF cs 1 v))) := Lib.hid fun v hv => by rw [cell_of_row _ _ _ _ _ _ hb]; exact h.at 1 v (by decide) hv
  have HC0 : Hid (∀ v, v < 63 → (w.alloc (Obj.cells cs 56)).cell? ⟨w.heap.size, 1 + v, none⟩ = some (.bool (inF cs 0 v))) := Lib.hid fun v hv => by rw [cell_of_row _ _ _ _ _ _ hb]; have := h.at 0 v (by decide) hv; rw [show 64 * 0 + 1 + v = 1 + v by omega] at this; exact this
  have HBel : Hid (Below w.heap.size w (w.alloc (Obj.cells cs 56))) := Lib.hid (bA (Below.refl _ _) _)
  clear hb h
  go_enter Try.func40, Try.ntmps40
  go_wp2_with fail
  generalize hW : w.alloc (Obj.cells cs 56) = W at HC2 HC1 HC0 HBel
  go_loop [5] (fun v => ∃ n : Nat, v = .int .i64 n ∧ Aside0 (n ≤ 24)) (fun v => 24 - (intOf v).toNat)
  case atStart => exact ⟨fr / 3600, by go_num, ⟨by omega⟩⟩
  case round =>
    obtain ⟨n, rfl, HN⟩ := hrel
    by_cases c : n < 24
    · have ct : decide ((n : Int) < 24) = true := by simp; omega
      have t2 := HC2.out n (by omega)
      cases b2 : inF cs 2 n with
      | false =>
        rw [b2] at t2
        clear b2
        go_wp2_with fail
        go_round
        case rel => exact ⟨n + 1, by go_num, ⟨by omega⟩⟩
        case measure => simp [intOf]; omega
      | true =>
        rw [b2] at t2
        have B2 := Lib.hid b2
        clear b2
        go_wp2_with fail
        go_loop [21] (fun v => ∃ m : Nat, v = .int .i64 m ∧ Aside0 (m ≤ 60)) (fun v => 60 - (intOf v).toNat)
        case atStart => exact ⟨0, by go_num, ⟨by omega⟩⟩
        case round =>
          obtain ⟨m, rfl, HM⟩ := hrel
          by_cases cm : m < 60
          · have cmt : decide ((m : Int) < 60) = true := by simp; omega
            have t1 := HC1.out m (by omega)
            cases b1 : inF cs 1 m with
            | false =>
              rw [b1] at t1
              clear b1
              go_wp2_with fail
              go_round
              case rel => exact ⟨m + 1, by go_num, ⟨by omega⟩⟩
              case measure => simp [intOf]; omega
            | true =>
              rw [b1] at t1
              have B1 := Lib.hid b1
              clear b1
              by_cases cl : 3600 * (n : Int) + 60 * (m : Int) + 59 < (fr : Int)
              · go_wp2_with fail
                go_round
                case rel => exact ⟨m + 1, by go_num, ⟨by omega⟩⟩
                case measure => simp [intOf]; omega
              · have CL := Lib.hid cl
                go_wp2_with fail
                all_goals
                  go_loop [8] (fun v => ∃ k : Nat, v = .int .i64 k ∧ Aside0 (k ≤ 60 ∧ (fr : Int) ≤ 3600 * (n : Int) + 60 * (m : Int) + k)) (fun v => 60 - (intOf v).toNat)
                  case atStart =>
                    first
                      | exact ⟨0, by go_num, ⟨by omega, by omega⟩⟩
                      | exact ⟨((fr : Int) - (3600 * (n : Int) + 60 * (m : Int))).toNat, by go_num, ⟨by have := CL.out; omega, by omega⟩⟩
                      | exact ⟨((fr : Int) - (3600 * (n : Int) + 60 * (m : Int))).toNat, by rw [Int.toNat_of_nonneg (by omega)], ⟨by have := CL.out; omega, by omega⟩⟩
                  case round =>
                    obtain ⟨k, rfl, HK⟩ := hrel
                    by_cases ck : k < 60
                    · have ckt : decide ((k : Int) < 60) = true := by simp; omega
                      have t0 := HC0.out k (by omega)
                      cases b0 : inF cs 0 k with
                      | false =>
                        rw [b0] at t0
                        clear b0
                        go_wp2_with fail
                        go_round
                        case rel => exact ⟨k + 1, by go_num, ⟨by omega, by have := HK.out; omega⟩⟩
                        case measure => simp [intOf]; omega
                      | true =>
                        rw [b0] at t0
                        have B0 := Lib.hid b0
                        clear b0
                        go_wp2_with fail
                        go_ret
                        have hk := HK.out
                        have e1 : (3600 * (n : Int) + 60 * (m : Int) + (k : Int)) / 3600 = (n : Int) := by omega
                        have e2 : (3600 * (n : Int) + 60 * (m : Int) + (k : Int)) % 3600 / 60 = (m : Int) := by omega
                        have e3 : (3600 * (n : Int) + 60 * (m : Int) + (k : Int)) % 60 = (k : Int) := by omega
                        exact ⟨_, rfl, .inr ⟨hk.2, by omega, by omega, by rw [e1]; exact B2.out, by rw [e2]; exact B1.out, by rw [e3]; exact B0.out⟩, HBel.out⟩
                    · have ckt : decide ((k : Int) < 60) = false := by simp; omega
                      obtain rfl : k = 60 := by have := HK.out.1; omega
                      go_wp2_with fail
                      go_round
                      case rel => exact ⟨m + 1, by go_num, ⟨by omega⟩⟩
                      case measure => simp [intOf]; omega
          · have cmt : decide ((m : Int) < 60) = false := by simp; omega
            obtain rfl : m = 60 := by have := HM.out; omega
            go_wp2_with fail
            go_round
            case rel => exact ⟨n + 1, by go_num, ⟨by omega⟩⟩
            case measure => simp [intOf]; omega
    · have ct : decide ((n : Int) < 24) = false := by simp; omega
      go_wp2_with fail
      go_ret
      exact ⟨_, rfl, .inl rfl, HBel.out⟩
end Go.Proofs.Ytjmgebhjkbcpcaa.NM
set_option linter.unusedVariables false
set_option linter.unusedSimpArgs false
namespace Go.Proofs.Ytjmgebhjkbcpcaa.NM
open Go.RowKit Cal CronPl Go.Proofs.Ytjmgebhjkbcpcaa.PFnCronNextMany Go.Proofs.YtjmgebhjkbcpcaaW.PrintWords
set_option maxRecDepth 100000
theorem tFdiv (a : Int) (h0 : -4000000000000000000 ≤ a) (h1 : a ≤ 4000000000000000000) (w : World) : Calls Try.prog 12 #[.int .i64 a, .int .i64 86400] w fun e w' => e = .returned (.int .i64 (a / 86400)) ∧ Below w.heap.size w w' :=
  (spec_floorDiv.calls a 86400 _ w (fdiv_gen a 86400 (by decide) h0 h1)).mono fun e w' h => ⟨h.1, h.2.below⟩
theorem tDateOf (n : Int) (h0 : -4000000 ≤ n) (h1 : n ≤ 4000000) (w : World) : Calls Try.prog 25 #[.int .i64 n] w fun e w' => e = .returned (.agg #[.int .i64 (gyear n), .int .i64 (gmonth n), .int .i64 (gday n)]) ∧ Below w.heap.size w w' := by
  obtain ⟨k, hk⟩ := date_f n h0 h1
  exact spec_CronDateOf.calls k n _ _ _ w hk
theorem tTom (n : Int) (h0 : -4000000 ≤ n) (h1 : n ≤ 4000000) (w : World) : Calls Try.prog 37 #[.agg #[.int .i64 (gyear n), .int .i64 (gmonth n), .int .i64 (gday n)]] w fun e w' => e = .returned (.agg #[.int .i64 (gyear (n + 1)), .int .i64 (gmonth (n + 1)), .int .i64 (gday (n + 1))]) ∧ Below w.heap.size w w' :=
  spec_CronTomorrow.calls _ _ _ _ _ _ w (tom_f n h0 h1)
theorem tWday (n : Int) (h0 : -4000000 ≤ n) (h1 : n ≤ 4000000) (w : World) : Calls Try.prog 39 #[.int .i64 n] w fun e w' => e = .returned (.int .i64 ((n + 4) % 7)) ∧ Below w.heap.size w w' :=
  (spec_CronWeekday.calls n _ w (wday_f n h0 h1)).mono fun e w' h => ⟨h.1, h.2.below⟩
theorem und71 : Try.prog.underlying 71 = some (.struct (Try.prog.fieldsOf 71)) := by kernel_rfl
theorem inf71 : (Try.prog.info? 71).map (·.size) = some 3 := by kernel_rfl
/-- a local second that is in a schedule's sets -/
def FitS (S : Sets) (cs : Array Value) (r : Int) : Prop :=
  inF cs 4 (gmonth (r / 86400)).toNat = true ∧ dayF S cs (gday (r / 86400)).toNat ((r / 86400 + 4) % 7).toNat = true ∧
    inF cs 2 (r % 86400 / 3600).toNat = true ∧ inF cs 1 (r % 3600 / 60).toNat = true ∧ inF cs 0 (r % 60).toNat = true
def LocalOk (S : Sets) (cs : Array Value) (fr un la r : Int) (b : Bool) : Prop := b = true → fr ≤ r ∧ r < un ∧ gyear (r / 86400) ≤ la ∧ FitS S cs r
def LocalPost (S : Sets) (cs : Array Value) (fr un la : Int) (w : World) (e : Ending) (w' : World) : Prop := ∃ r b, e = .returned (.tuple #[.int .i64 r, .bool b]) ∧ LocalOk S cs fr un la r b ∧ Below w.heap.size w w'
abbrev dateCs (n : Int) : Array Value := #[.int .i64 (gyear n), .int .i64 (gmonth n), .int .i64 (gday n)]
/-- what the day's test reads -/
def LS (W : World) (g bd : Nat) (cs : Array Value) (y : Int) (m d : Nat) (mb : Bool) : Prop :=
  W.heap[g]? = some (.cells cs 56 (0, 0)) ∧ W.heap[bd]? = some (.cells #[.int .i64 y, .int .i64 m, .int .i64 d] 71 (0, 0)) ∧ W.cell? ⟨g, 257 + m, none⟩ = some (.bool mb) ∧
  W.cell? ⟨bd, 0, none⟩ = some (.int .i64 y) ∧ W.cell? ⟨bd, 1, none⟩ = some (.int .i64 m) ∧ W.cell? ⟨bd, 2, none⟩ = some (.int .i64 d) ∧
  (loadCellsFrom ⟨g, 0, none⟩ 0 384 #[]).run Try.prog W = .ok cs W
theorem LS.of {W : World} {g bd : Nat} {cs : Array Value} {y : Int} {m d : Nat} {mb : Bool} (h1 : W.heap[g]? = some (.cells cs 56 (0, 0))) (h2 : W.heap[bd]? = some (.cells #[.int .i64 y, .int .i64 m, .int .i64 d] 71 (0, 0)))
    (hs : cs.size = 384) (hm : cs[257 + m]? = some (.bool mb)) : LS W g bd cs y m d mb := by
  refine ⟨h1, h2, by rw [cell_of_row _ _ _ _ _ _ h1]; exact hm, by rw [cell_of_row _ _ _ _ _ _ h2]; rfl, by rw [cell_of_row _ _ _ _ _ _ h2]; rfl, by rw [cell_of_row _ _ _ _ _ _ h2]; rfl, ?_⟩
  have := run_loadCells_list (P := Try.prog) W ⟨g, 0, none⟩ cs.toList (fun j v hv => by
    rw [Addr.add_mid, Nat.zero_add, cell_of_row _ _ j cs 56 (0, 0) h1]
    simpa using hv)
  rw [show cs.toList.length = 384 by simpa using hs] at this
  simpa [loadCells] using this
theorem LS.below {W W' : World} {g bd : Nat} {cs : Array Value} {y : Int} {m d : Nat} {mb : Bool} (h : LS W g bd cs y m d mb) (hs : cs.size = 384) (hm : cs[257 + m]? = some (.bool mb)) (hb : Below W.heap.size W W') : LS W' g bd cs y m d mb :=
  LS.of (by rw [hb.block _ (block_lt_row h.1)]; exact h.1) (by rw [hb.block _ (block_lt_row h.2.1)]; exact h.2.1) hs hm
theorem yieldsIf_load_row {P : Program} {ops : Array Oper} {S : World → Prop} {op : Oper} {a : Act} {g : Nat} {cs : Array Value} {t : TypeId} {fr : Nat × Nat} {d : TypeDesc} (hw : Region.wanted op (yielded ops a.tmps) = true) (ty : TypeId) (x : Operand) (ho : op.op = .load ty x)
    (hx : a.eval x = .pointer (some ⟨g, 0, none⟩)) (hS : ∀ w, S w → w.heap[g]? = some (.cells cs t fr))
    (hu : P.underlying ty = some d) (hd : (match d with | .struct _ | .array _ _ => true | _ => false) = true) (hi : (P.info? ty).map (·.size) = some cs.size) : YieldsIf P ops S op (.agg cs) a :=
  .inl ⟨hw, fun w hw' => by
    unfold execOp
    simp only [ho, hx, Instr.loadAt, Instr.sureAddr, Sem.run_bind, Sem.run_pure, Result.andThen_ok, run_loadVar_row w g t ty cs fr d (hS w hw') hu hd hi]⟩
set_option maxHeartbeats 1000000 in
theorem tLocal (S : Sets) (cs : Array Value) (h : FieldsV S cs) (fr un la : Int) (h0 : -70000000000 ≤ fr) (h1 : fr ≤ 300000000000) (hu0 : -70000000000 ≤ un) (hu1 : un ≤ 4611686018427387904) (hl0 : -1000 ≤ la) (hl1 : la ≤ 10100) (w : World) :
    Calls Try.prog 28 #[.agg cs, .int .i64 fr, .int .i64 un, .int .i64 la] w (LocalPost S cs fr un la w) := by
  have hrow := heap_alloc_new w (Obj.cells cs 56)
  have HS := Lib.hid h.sz
  have HF := Lib.hid h
  have HR := Lib.hid hrow
  clear h hrow
  go_enter Try.func28, Try.ntmps28
  go_wp2_with (first
    | ((with_reducible refine wpList_load_row (o := ⟨some 14, _, _, _, _, _⟩) ?a1 56 (.tmp 4) ?a2 w.heap.size ?a3 56 cs (0, 0) _ ?a4 und56 ?a5 ?a6 ?_); (case a1 => rfl); (case a2 => rfl); (case a3 => rfl); (case a5 => rfl); (case a6 => rw [HS.out]; exact inf56); (case a4 => exact HR.out))
    | (go_at_call 36; (with_reducible refine (tNever S cs HF.out _).mono ?_); rintro e w1 ⟨b1, rfl, hb1⟩; have HR1 : Hid (w1.heap[w.heap.size]? = some (.cells cs 56 (0, 0))) := Lib.hid (by rw [hb1.block _ (block_lt_row HR.out)]; exact HR.out); have HB1 : Hid (Below w.heap.size w w1) := Lib.hid ((bA (Below.refl _ _) _).trans (hb1.mono (by simp))); clear hb1; cases b1)
    | (go_at_call 12; (with_reducible refine (tFdiv fr (by omega) (by omega) _).mono ?_); rintro e w2 ⟨rfl, hb2⟩; have HR2 : Hid (w2.heap[w.heap.size]? = some (.cells cs 56 (0, 0))) := Lib.hid (by rw [hb2.block _ (block_lt_row HR1.out)]; exact HR1.out); have HB2 : Hid (Below w.heap.size w w2) := Lib.hid (HB1.out.trans (hb2.mono HB1.out.size)); clear hb2)
    | (go_at_call 25; (with_reducible refine (tDateOf (fr / 86400) (by omega) (by omega) _).mono ?_); rintro e w3 ⟨rfl, hb3⟩; have HR3 : Hid (w3.heap[w.heap.size]? = some (.cells cs 56 (0, 0))) := Lib.hid (by rw [hb3.block _ (block_lt_row HR2.out)]; exact HR2.out); have HB3 : Hid (Below w.heap.size w w3) := Lib.hid (HB2.out.trans (hb3.mono HB2.out.size)); clear hb3))
  · skip
    clear HR HR1 HR2
    have HW : Hid (Below w.heap.size w (w3.alloc (Obj.cells (dateCs (fr / 86400)) 71))) := Lib.hid (bA HB3.out _)
    have HD : Hid ((w3.alloc (Obj.cells (dateCs (fr / 86400)) 71)).heap[w3.heap.size]? = some (.cells (dateCs (fr / 86400)) 71 (0, 0))) := Lib.hid (heap_alloc_new _ _)
    have HR : Hid ((w3.alloc (Obj.cells (dateCs (fr / 86400)) 71)).heap[w.heap.size]? = some (.cells cs 56 (0, 0))) := Lib.hid (by rw [Below.heap_alloc _ _ _ (block_lt_row HR3.out)]; exact HR3.out)
    have hbd : w.heap.size < w3.heap.size := block_lt_row HR3.out
    go_loopw [10, 11, 12] (fun v10 v11 v12 wr => ∃ (day : Int) (tod bd : Nat), v10 = .int .i64 day ∧ v11 = .int .i64 tod ∧ v12 = .pointer (some ⟨bd, 0, none⟩) ∧ Aside0 (fr / 86400 ≤ day ∧ day ≤ 3900000 ∧ tod < 86400) ∧ Aside0 (fr ≤ 86400 * day + tod) ∧ Aside0 (w.heap.size < bd) ∧
      Aside0 (wr.heap[bd]? = some (.cells (dateCs day) 71 (0, 0))) ∧ Aside0 (wr.heap[w.heap.size]? = some (.cells cs 56 (0, 0))) ∧ Aside0 (Below w.heap.size w wr)) (fun v10 _ _ _ => (ystart (la + 1) - intOf v10).toNat)
    case atStart =>
      exact ⟨fr / 86400, (fr - 86400 * (fr / 86400)).toNat, w3.heap.size, rfl, by rw [Int.toNat_of_nonneg (by omega)], rfl, ⟨by omega, by omega, by omega⟩, ⟨by omega⟩, ⟨hbd⟩, ⟨HD.out⟩, ⟨HR.out⟩, ⟨HW.out⟩⟩
    case round =>
      clear HW HD HR HR3 HB1 HB2 HB3
      obtain ⟨day, tod, bd, rfl, rfl, rfl, HN, HP, HL, HD, HR, HW⟩ := hrel
      have hgd := gdate day
      have hm1 := hgd.m1
      have hm12 := hgd.m12
      have hd1 := hgd.d1
      have hdm := hgd.dm
      have hml := mlen_bd (gyear day) (gmonth day)
      have hlo := hgd.lo
      obtain ⟨y, hy⟩ : ∃ y, gyear day = y := ⟨_, rfl⟩
      obtain ⟨m, hm⟩ : ∃ m : Nat, gmonth day = m := ⟨(gmonth day).toNat, by omega⟩
      obtain ⟨d, hd⟩ : ∃ d : Nat, gday day = d := ⟨(gday day).toNat, by omega⟩
      obtain ⟨v, hv⟩ : ∃ v : Nat, (day + 4) % 7 = v := ⟨((day + 4) % 7).toNat, by omega⟩
      have hrd := HD.out
      unfold dateCs at hrd
      rw [hy, hm, hd] at hrd
      rw [hm] at hm1 hm12
      have hdb : d < 63 := by omega
      have hvb : v < 63 := by omega
      have hmb : m < 63 := by omega
      have cm := HF.out.at 4 m (by decide) hmb
      rw [show 64 * 4 + 1 + m = 257 + m by omega] at cm
      have hls := LS.of HR.out hrd HS.out cm
      have c0 := hls.2.2.2.1
      have c1 := hls.2.2.2.2.1
      have cmm := hls.2.2.1
      rw [hy] at hlo
      have HGY := Lib.hid hy
      have HGM := Lib.hid hm
      have HGD := Lib.hid hd
      have HGV := Lib.hid hv
      have HRD := Lib.hid hrd
      have HLS := Lib.hid hls
      have HCM := Lib.hid cm
      have hda : -900000 ≤ day ∧ day ≤ 3900000 := by have := HN.out; omega
      have HWD : Hid (∀ W, Calls Try.prog 39 #[.int .i64 day] W fun e w' => e = .returned (.int .i64 v) ∧ Below W.heap.size W w') := Lib.hid fun W => by have := tWday day (by omega) (by omega) W; rw [hv] at this; exact this
      have HGd := Lib.hid hgd
      clear hls cm hrd hy hm hd hv hgd hml hdm hd1
      by_cases cy : y ≤ la
      · by_cases cu : 86400 * day < un
        · have hday : day ≤ 3600000 := by
            have := HGd.out.hi
            rw [HGY.out] at this
            have := ystart_le (show y + 1 ≤ 10101 by omega)
            have e : ystart 10101 = 2969787 := by decide
            omega
          have HLSw : Hid (LS wr w.heap.size bd cs y m d (inF cs 4 m) ∧ Below wr.heap.size wr wr) := Lib.hid ⟨HLS.out, Below.refl _ _⟩
          have HCMw := Lib.hid HCM.out
          go_upto_block 1 with fail
          go_cut [10, 11] from 36 to 65 (fun s10 s11 wc => s10 = .int .i64 (day + 1) ∧ s11 = .int .i64 0 ∧ LS wc w.heap.size bd cs y m d (inF cs 4 m) ∧ Below wr.heap.size wr wc)
          case first =>
            cases hmbit : inF cs 4 m with
            | false =>
              rw [hmbit] at cmm
              go_upto_region 8 with fail
              go_region
              go_wp2_with fail
              go_meet
              exact ⟨rfl, rfl, LS.below HLSw.out.1 HS.out HCMw.out (Below.refl _ _).drew, (Below.refl _ _).drew⟩
            | true =>
              rw [hmbit] at cmm HLS HCM
              have HMB := Lib.hid hmbit
              clear hmbit c0 c1 cmm
              obtain ⟨c0, c1⟩ : wr.cell? ⟨bd, 0, none⟩ = some (.int .i64 y) ∧ wr.cell? ⟨bd, 1, none⟩ = some (.int .i64 m) := ⟨HLS.out.2.2.2.1, HLS.out.2.2.2.2.1⟩
              go_upto_region 8 with fail
              clear c0 c1
              have hmi0 : (0 : Int) ≤ (m : Int) := by omega
              have hmi1 : (m : Int) < 63 := by omega
              have hmi2 : (m : Int).toNat = m := by omega
              refine wp_region_held_drew (S := fun W => LS W w.heap.size bd cs y m d true) (by kernel_rfl) (LS.below HLS.out HS.out HCM.out (Below.refl _ _).drew) (fun hHeld => ?_)
              refine wpAnyH_take (i := 0) (oi := ⟨some 36, .fieldAddr 71 (.tmp 12) 1, 0, "cron_next.go:54", #[], none⟩) (v := ?_) rfl (by kernel_rfl) (by kernel_rfl) (by kernel_rfl) (fun _ _ _ h => h) (Or.inl ⟨by rfl, ?_⟩) (by assumption) ?_
              rotate_left
              · intro W hSw
                obtain ⟨s1, s2, s3, s4, s5, s6, s7⟩ := hSw
                clear s1 s2 s7
                go_simp
                try with_reducible rfl
              try simp only [Act.put, List.setIfInBounds_toArray, List.set_cons_zero, List.set_cons_succ]
              refine wpAnyH_take (i := 1) (oi := ⟨some 37, .load 3 (.tmp 36), 3, "cron_next.go:54", #[{ on := 0, ground := .data }], none⟩) (v := ?_) rfl (by kernel_rfl) (by kernel_rfl) (by kernel_rfl) (fun _ _ _ h => h) (Or.inl ⟨by rfl, ?_⟩) (by assumption) ?_
              rotate_left
              · intro W hSw
                obtain ⟨s1, s2, s3, s4, s5, s6, s7⟩ := hSw
                clear s1 s2 s7
                go_simp
                try with_reducible rfl
              try simp only [Act.put, List.setIfInBounds_toArray, List.set_cons_zero, List.set_cons_succ]
              refine wpAnyH_take (i := 2) (oi := ⟨some 38, .indexAddr 56 (.tmp 4) (.const (.int .i64 4)), 0, "cron_next.go:54", #[], none⟩) (v := ?_) rfl (by kernel_rfl) (by kernel_rfl) (by kernel_rfl) (fun _ _ _ h => h) (Or.inl ⟨by rfl, ?_⟩) (by assumption) ?_
              rotate_left
              · intro W hSw
                obtain ⟨s1, s2, s3, s4, s5, s6, s7⟩ := hSw
                clear s1 s2 s7
                go_simp
                try with_reducible rfl
              try simp only [Act.put, List.setIfInBounds_toArray, List.set_cons_zero, List.set_cons_succ]
              refine wpAnyH_take (i := 3) (oi := ⟨some 39, .fieldAddr 54 (.tmp 38) 1, 0, "cron_next.go:54", #[{ on := 2, ground := .data }], none⟩) (v := ?_) rfl (by kernel_rfl) (by kernel_rfl) (by kernel_rfl) (fun _ _ _ h => h) (Or.inl ⟨by rfl, ?_⟩) (by assumption) ?_
              rotate_left
              · intro W hSw
                obtain ⟨s1, s2, s3, s4, s5, s6, s7⟩ := hSw
                clear s1 s2 s7
                go_simp
                try with_reducible rfl
              try simp only [Act.put, List.setIfInBounds_toArray, List.set_cons_zero, List.set_cons_succ]
              refine wpAnyH_take (i := 4) (oi := ⟨some 40, .indexAddr 52 (.tmp 39) (.tmp 37), 0, "cron_next.go:54", #[{ on := 3, ground := .data }, { on := 1, ground := .data }], none⟩) (v := ?_) rfl (by kernel_rfl) (by kernel_rfl) (by kernel_rfl) (fun _ _ _ h => h) (Or.inl ⟨by rfl, ?_⟩) (by assumption) ?_
              rotate_left
              · intro W hSw
                obtain ⟨s1, s2, s3, s4, s5, s6, s7⟩ := hSw
                clear s1 s2 s7
                go_simp
                try with_reducible rfl
              try simp only [Act.put, List.setIfInBounds_toArray, List.set_cons_zero, List.set_cons_succ]
              refine wpAnyH_take (i := 5) (oi := ⟨some 41, .load 4 (.tmp 40), 4, "cron_next.go:54", #[{ on := 4, ground := .data }], none⟩) (v := ?_) rfl (by kernel_rfl) (by kernel_rfl) (by kernel_rfl) (fun _ _ _ h => h) (Or.inl ⟨by rfl, ?_⟩) (by assumption) ?_
              rotate_left
              · intro W hSw
                obtain ⟨s1, s2, s3, s4, s5, s6, s7⟩ := hSw
                clear s1 s2 s7
                go_simp
                try with_reducible rfl
              try simp only [Act.put, List.setIfInBounds_toArray, List.set_cons_zero, List.set_cons_succ]
              refine wpAnyH_take (i := 6) (oi := ⟨some 42, .move (.tmp 41), 4, "cron_next.go:54", #[{ on := 5, ground := .data }], none⟩) (v := ?_) rfl (by kernel_rfl) (by kernel_rfl) (by kernel_rfl) (fun _ _ _ h => h) (Or.inl ⟨by rfl, ?_⟩) (by assumption) ?_
              rotate_left
              · intro W hSw
                obtain ⟨s1, s2, s3, s4, s5, s6, s7⟩ := hSw
                clear s1 s2 s7
                go_simp
                try with_reducible rfl
              try simp only [Act.put, List.setIfInBounds_toArray, List.set_cons_zero, List.set_cons_succ]
              refine wpAnyH_take (i := 7) (oi := ⟨some 43, .load 56 (.tmp 4), 56, "cron_next.go:54", #[{ on := 6, ground := .guard }], some (6, true)⟩) (v := .agg cs) rfl (by kernel_rfl) (by kernel_rfl) (by kernel_rfl) (fun _ _ _ h => h) ?hy7 (by assumption) ?rest7
              case hy7 =>
                refine yieldsIf_load_row (g := w.heap.size) (t := 56) (fr := (0, 0)) ?q1 56 (.tmp 4) ?q2 ?q3 (fun W hW => hW.1) und56 ?q4 ?q5
                case q1 => rfl
                case q2 => rfl
                case q3 => rfl
                case q4 => rfl
                case q5 => rw [HS.out]; exact inf56
              try simp only [Act.put, List.setIfInBounds_toArray, List.set_cons_zero, List.set_cons_succ]
              refine wpAnyH_take (i := 8) (oi := ⟨some 44, .load 71 (.tmp 12), 71, "cron_next.go:54", #[{ on := 6, ground := .guard }], some (6, true)⟩) (v := ?_) rfl (by kernel_rfl) (by kernel_rfl) (by kernel_rfl) (fun _ _ _ h => h) (Or.inl ⟨by rfl, ?_⟩) (by assumption) ?_
              rotate_left
              · intro W hSw
                obtain ⟨s1, s2, s3, s4, s5, s6, s7⟩ := hSw
                clear s1 s2 s7
                go_simp
                try with_reducible rfl
              try simp only [Act.put, List.setIfInBounds_toArray, List.set_cons_zero, List.set_cons_succ]
              refine wpAnyH_take (i := 9) (oi := ⟨some 45, .move (.tmp 10), 3, "cron_next.go:54", #[{ on := 6, ground := .guard }], some (6, true)⟩) (v := ?_) rfl (by kernel_rfl) (by kernel_rfl) (by kernel_rfl) (fun _ _ _ h => h) (Or.inl ⟨by rfl, ?_⟩) (by assumption) ?_
              rotate_left
              · intro W hSw
                obtain ⟨s1, s2, s3, s4, s5, s6, s7⟩ := hSw
                clear s1 s2 s7
                go_simp
                try with_reducible rfl
              try simp only [Act.put, List.setIfInBounds_toArray, List.set_cons_zero, List.set_cons_succ]
              refine wpAnyH_ready (rs := [10]) (by kernel_rfl) (by simp) ?_
              refine AllReadyH.cons (o := ⟨some 46, .call ⟨.value (.func 39), #[.tmp 45], #[3]⟩, 3, "cron_next.go:54", #[{ on := 9, ground := .data }, { on := 6, ground := .chain }, { on := 6, ground := .guard }], some (6, true)⟩) rfl (fun K hK => ?_) AllReadyH.nil
              go_simp
              (go_at_call 39; refine (HWD.out _).mono ?_; rintro e w4 ⟨rfl, hb4⟩; have k4 : Below wr.heap.size wr w4 := (by first | exact (Below.refl _ _).drew.trans hb4 | exact hb4); have HK4 := Lib.hid k4; have HLS1 := Lib.hid (LS.below HLS.out HS.out HCM.out k4); clear hb4 k4)
              refine hK.out _ _ HLS1.out (fun hHeld1 => ?_)
              clear hK K hHeld
              try simp only [Act.put, List.setIfInBounds_toArray, List.set_cons_zero, List.set_cons_succ]
              refine wpAnyH_ready (rs := [11]) (by kernel_rfl) (by simp) ?_
              refine AllReadyH.cons (o := ⟨some 47, .call ⟨.value (.func 38), #[.tmp 43, .tmp 44, .tmp 46], #[56, 71, 3]⟩, 4, "cron_next.go:54", #[{ on := 7, ground := .data }, { on := 8, ground := .data }, { on := 10, ground := .data }, { on := 10, ground := .chain }, { on := 6, ground := .guard }], some (6, true)⟩) rfl (fun K hK => ?_) AllReadyH.nil
              go_simp
              (go_at_call 38; refine (tDayFits S cs HF.out y m d v hdb hvb _).mono ?_; rintro e w5 ⟨rfl, hb5⟩; have HK5 := Lib.hid (HK4.out.trans (hb5.mono HK4.out.size)); have HLS2 := Lib.hid (LS.below HLS.out HS.out HCM.out HK5.out); clear hb5)
              refine hK.out _ _ HLS2.out (fun hHeld2 => ?_)
              clear hK K hHeld1
              try simp only [Act.put, List.setIfInBounds_toArray, List.set_cons_zero, List.set_cons_succ]
              refine wpAnyH_take (i := 12) (oi := ⟨some 48, .pick (.tmp 42) (.tmp 47) (.const (.bool false)), 4, "cron_next.go:54", #[{ on := 6, ground := .data }, { on := 11, ground := .data }], none⟩) (v := ?_) rfl (by kernel_rfl) (by kernel_rfl) (by kernel_rfl) (fun _ _ _ h => h) (Or.inl ⟨by rfl, ?_⟩) (by assumption) ?_
              rotate_left
              · intro W hSw
                clear hSw
                go_simp
                try with_reducible rfl
              try simp only [Act.put, List.setIfInBounds_toArray, List.set_cons_zero, List.set_cons_succ]
              refine wpAnyH_done (by kernel_rfl) ?_ _
              have HTod := Lib.hid HN.out.2.2
              cases hdf : dayF S cs d v with
              | false =>
                go_wp2_with fail
                go_meet
                exact ⟨rfl, rfl, LS.below HLSw.out.1 HS.out HCMw.out HK5.out, HK5.out⟩
              | true =>
                have HDF := Lib.hid hdf
                clear hdf
                go_wp2_with (first
                  | ((with_reducible refine wpList_load_row (o := ⟨some 49, _, _, _, _, _⟩) ?a1 56 (.tmp 4) ?a2 w.heap.size ?a3 56 cs (0, 0) _ ?a4 und56 ?a5 ?a6 ?_); (case a1 => rfl); (case a2 => rfl); (case a3 => rfl); (case a5 => rfl); (case a6 => rw [HS.out]; exact inf56); (case a4 => exact HLS2.out.1))
                  | (go_at_call 40; (with_reducible refine (tTime S cs HF.out tod HTod.out _).mono ?_); rintro e w6 ⟨r, rfl, hr, hb6⟩; have HK6 := Lib.hid (HK5.out.trans (hb6.mono HK5.out.size)); rcases hr with rfl | hr2))
                · go_meet
                  exact ⟨rfl, rfl, LS.below HLSw.out.1 HS.out HCMw.out HK6.out, HK6.out⟩
                · go_ret2
                  have eR : (86400 * day + r) / 86400 = day := by omega
                  refine ⟨_, _, rfl, fun hlt => ⟨by have := HP.out; omega, by simpa using hlt, by rw [eR, HGY.out]; exact cy, ?_⟩, HW.out.trans (HK6.out.mono HW.out.size)⟩
                  unfold FitS
                  rw [eR, HGM.out, HGD.out, HGV.out, show (86400 * day + r) % 86400 = r by omega, show (86400 * day + r) % 3600 = r % 3600 by omega, show (86400 * day + r) % 60 = r % 60 by omega]
                  exact ⟨HMB.out, HDF.out, hr2.2.2.2.1, hr2.2.2.2.2.1, hr2.2.2.2.2.2⟩
          case rest =>
            obtain ⟨rfl, rfl, hlc, hkc⟩ := hcut
            have HLc := Lib.hid hlc
            have HKc := Lib.hid hkc
            clear hlc hkc
            have HTM : Hid (∀ W, Calls Try.prog 37 #[.agg #[.int .i64 y, .int .i64 m, .int .i64 d]] W fun e w' => e = .returned (.agg (dateCs (day + 1))) ∧ Below W.heap.size W w') := Lib.hid fun W => by
              have := tTom day (by omega) (by omega) W
              rw [HGY.out, HGM.out, HGD.out] at this
              exact this
            have c0' := HLc.out.2.2.2.1
            have c1' := HLc.out.2.2.2.2.1
            have c2' := HLc.out.2.2.2.2.2.1
            go_wp2_with (go_at_call 37; refine (HTM.out _).mono ?_; rintro e w7 ⟨rfl, hb7⟩; have HB7 := Lib.hid hb7; have HR7 : Hid (w7.heap[wc.heap.size]? = some (.cells #[.int .i64 y, .int .i64 m, .int .i64 d] 71 (0, 0))) := Lib.hid (by rw [hb7.block _ (by simp)]; exact heap_alloc_new _ _); have p0 : w7.cell? ⟨wc.heap.size, 0, none⟩ = some (.int .i64 y) := (by rw [cell_of_row _ _ _ _ _ _ HR7.out]; rfl); have p1 : w7.cell? ⟨wc.heap.size, 1, none⟩ = some (.int .i64 m) := (by rw [cell_of_row _ _ _ _ _ _ HR7.out]; rfl); have p2 : w7.cell? ⟨wc.heap.size, 2, none⟩ = some (.int .i64 d) := (by rw [cell_of_row _ _ _ _ _ _ HR7.out]; rfl); have f0 := frozen_of_row _ _ 0 _ _ HR7.out; have f1 := frozen_of_row _ _ 1 _ _ HR7.out; have f2 := frozen_of_row _ _ 2 _ _ HR7.out; clear hb7)
            have hsz := HKc.out.size
            have hwz := HW.out.size
            have hc7 := HB7.out.size
            have hlw : w.heap.size < wc.heap.size := block_lt_row HLc.out.1
            go_roundw
            case measure =>
              have := HGd.out.hi
              rw [HGY.out] at this
              have := ystart_le (show y + 1 ≤ la + 1 by omega)
              simp only [intOf]
              omega
            case rel =>
              refine ⟨day + 1, 0, wc.heap.size, by first | rfl | go_num, rfl, rfl, ⟨by have := HN.out; omega⟩, ⟨by have := HP.out; have := HN.out; omega⟩, ⟨hlw⟩, ⟨by rw [heap_setCell_same _ _ _ _ _ _ (heap_setCell_same _ _ _ _ _ _ (heap_setCell_same _ _ _ _ _ _ HR7.out))]; rfl⟩, ⟨?_⟩, ⟨?_⟩⟩
              · rw [heap_setCell_other _ _ _ _ (by simp; omega), heap_setCell_other _ _ _ _ (by simp; omega), heap_setCell_other _ _ _ _ (by simp; omega), HB7.out.block _ (by simp; omega), Below.heap_alloc _ _ _ hlw]
                exact HLc.out.1
              · exact ((((bA (HW.out.trans (HKc.out.mono hwz)) _).trans (HB7.out.mono (by simp; omega))).setCell (by simp; omega) _).setCell (by simp; omega) _).setCell (by simp; omega) _
        · go_wp2_with fail
          go_ret2
          exact ⟨_, _, rfl, fun h => by simp at h, HW.out⟩
      · go_wp2_with fail
        go_ret2
        exact ⟨_, _, rfl, fun h => by simp at h, HW.out⟩
  · go_ret2
    exact ⟨_, _, rfl, fun h => by simp at h, HB1.out⟩
end Go.Proofs.Ytjmgebhjkbcpcaa.NM
