/- a part of the proof: FnSemverTilde: for every two versions, number and wildcard the law's function returns true and leaves its arguments as they were; no condition is added, the statement is the given tied card. -/
import Derived.Test.YtpbmbaffncnglaaGreatDoorNF
import Derived.Test.YtpbmbaffncnglaaGreatDoorNB
import Derived.Shelf.Small.Utf8
import Derived.Shelf.Strconv.Itoa0
import Derived.Shelf.Strconv.Itoa1
import Derived.Shelf.LaysM
import Derived.Shelf.Strconv.Itoa2
import Derived.Shelf.Strconv.Itoa3
import Derived.Shelf.Strconv.Clone
import Derived.Shelf.Strconv.SyntaxError
import Derived.Shelf.LaysC
import Derived.Shelf.Strconv.ToError
import Derived.Shelf.Strconv.Lower
import Derived.Shelf.Strconv.ParseUint10
import Derived.Shelf.Strconv.ParseUint10Empty
import Derived.Shelf.Strconv.ParseUint10Any
import Derived.Shelf.Strconv.RangeError
import Derived.Shelf.Strconv.ToErrorRange
import Derived.Shelf.Strconv.ParseUintEmpty
import Derived.Shelf.Strconv.ParseUint10b64
import Derived.Shelf.Strconv.ParseUint10b32
import Derived.Shelf.Strconv.ParseUint10b16
import Derived.Shelf.Strconv.ParseUint10b8
import Derived.Shelf.Strconv.ParseUint10At
import Derived.Ground.MpProg
import Derived.Shelf.Pu.ParseUintPublic10
import Derived.Shelf.Strings.Prefix
import Derived.Shelf.Unicode.Decode
import Derived.Shelf.Unicode.DecodeSlow
import Derived.Shelf.Unicode.DecodeAny
import Derived.Shelf.Unicode.DecodeLast
import Derived.Test.YtpbmbaffncnglaaGreatDoorProg
import Derived.Lib.ItoaMem
import Derived.Lib.AppendIntMem
import Derived.Lib.SmallJoins
section
set_option linter.unusedVariables false
set_option linter.unusedSimpArgs false
/- the constructor's long region -/
namespace Go.Proofs.YtpbmbaffncnglaaGreatDoor.Sv
open Go Go.RowKit Rx
set_option maxRecDepth 100000
theorem wpList_callBy {ops : Array Oper} {rest : List Oper} {o : Oper} {a : Act} {w : World} {Q : Exit → Act → World → Prop} (hg : o.guard = none) (f : FuncId) (args : Array Value) (hrun : (execOp a.eval o).run Tryz.prog w = .ok (.enter f args) w)
    (R : Ending → World → Prop) (hc : Calls Tryz.prog f args w R) (hr : ∀ e w', R e w' → ∃ v, e = .returned v ∧ wpList Tryz.prog ops Q rest (a.put o.dst v) w') : wpList Tryz.prog ops Q (o :: rest) a w := by
  refine wpList_plain hg fun K hK => ?_
  unfold Oper.wp
  rw [hrun, Oper.upon_enter]
  refine hc.mono fun e w'' hh => ?_
  obtain ⟨v, rfl, h⟩ := hr e w'' hh
  exact hK _ _ h
theorem parts_map (a : Act) (parts : Array (Nat × Operand)) (pl : List Operand) (hparts : parts.toList = (pl.zipIdx 0).map fun x => (x.2, x.1)) : (parts.map fun (i, x) => (i, a.eval x)).toList = ((pl.map a.eval).zipIdx 0).map fun x => (x.2, x.1) := by
  rw [Array.toList_map, hparts, List.zipIdx_map, List.map_map, List.map_map]
  rfl
theorem ev_set {tm : Array Value} {k : Nat} {v : Value} (h : k < tm.size) : ({ tmps := tm.setIfInBounds k v, defers := [] } : Act).eval (.tmp k) = v := by
  simp [Act.eval, Array.getD_eq_getD_getElem?, h]
theorem ev_ne {tm : Array Value} {k j : Nat} {v : Value} (h : k ≠ j) : ({ tmps := tm.setIfInBounds k v, defers := [] } : Act).eval (.tmp j) = ({ tmps := tm, defers := [] } : Act).eval (.tmp j) := by
  simp [Act.eval, Array.getD_eq_getD_getElem?, Array.getElem?_setIfInBounds, h]
theorem ctor {ops : Array Oper} {Q : Exit → Act → World → Prop} (w : World) (Ls : List (List Int)) (hnd : Ls.Nodup) (T : List I) (hT0 : T.length ≠ 0) (hTl : T.length ≤ 1000) (hok : T.all (insOk Ls T.length) = true)
    (l : List Oper) (tm : Array Value) (pl : List Operand) (o0 o1 o2 o3 o4 o5 o6 o7 : Oper) (k sz : Nat) (hk : k + 6 < sz) (h1 : (evs l tm).1 = [o0, o1, o2, o3, o4, o5, o6, o7])
    (h2 : (pl.map fun x => ({ tmps := (evs l tm).2, defers := [] } : Act).eval x) = T.map (fun x => Value.agg (entOf (fun rs => w.heap.size + Ls.idxOf rs) x).run)) (h3 : (evs l tm).2.size = sz)
    (parts : Array (Nat × Operand)) (hparts : parts.toList = (pl.zipIdx 0).map fun x => (x.2, x.1))
    (parts4 : Array (Nat × Operand)) (ns : Nat) (cs : Array Value) (src : ByteArray) (start ncap nsub minl : Nat) (x4 x10 x11 cond : Int)
    (g0 : o0.guard = none ∧ o0.dst = some k ∧ o0.op = .buildSlice 85 T.length parts)
    (g1 : o1.guard = none ∧ o1.dst = some (k + 1) ∧ o1.op = .call { callee := .value (.func 40), args := #[.tmp k], argTypes := #[85] })
    (g2 : o2.guard = none ∧ o2.dst = some (k + 2) ∧ o2.op = .build 87 #[(1, .const (.int .i64 start)), (2, .const (.int .i64 ncap)), (0, .tmp (k + 1))])
    (g3 : o3.guard = none ∧ o3.dst = some (k + 3) ∧ o3.op = .box 87 (.tmp (k + 2)))
    (g4 : o4.guard = none ∧ o4.dst = some (k + 4) ∧ o4.op = .buildSlice 40 ns parts4)
    (f4 : ∀ a : Act, Tryz.prog.builtSlice 9 ns (parts4.map fun (i, x) => (i, a.eval x)).toList = some cs)
    (g5 : o5.guard = none ∧ o5.dst = some (k + 5) ∧ o5.op = .build 92 #[(0, .const (.string src)), (1, .tmp (k + 3)), (3, .const (.int .i64 nsub)), (4, .const (.int .i64 x4)), (5, .tmp (k + 4)), (9, .const (.int .u32 0)), (10, .const (.int .i64 x10)), (11, .const (.int .i64 x11)), (12, .const (.bool false)), (13, .const (.int .u8 cond)), (14, .const (.int .i64 minl)), (15, .const (.bool false))])
    (g6 : o6.guard = none ∧ o6.dst = some (k + 6) ∧ o6.op = .box 92 (.tmp (k + 5)))
    (g7 : o7.guard = none ∧ o7.dst = some 0 ∧ o7.op = .assign (.tmp (k + 6)))
    (h : ∀ tm' w' R PB IB icap, ({ tmps := tm', defers := [] } : Act).eval (.tmp 0) = .pointer (some ⟨R, 0, none⟩) → 0 < tm'.size → PG w' R PB IB icap T → RH w' R PB cond start ncap minl nsub → Below w.heap.size w w' → Q .normal { tmps := tm', defers := [] } w') :
    wpList Tryz.prog ops Q l { tmps := tm, defers := [] } (layW w Ls) := by
  refine wpList_runs l _ tm pl _ sz h1 h2 h3 fun tm hs hv => ?_
  generalize hAd : (fun rs => w.heap.size + Ls.idxOf rs) = A at hv
  obtain ⟨hLb, hLs⟩ := layW_below Ls w
  have hAt : ∀ rs ∈ Ls, (layW w Ls).heap[A rs]? = some (.cells (rs.map (Value.int .i32)).toArray 21 (0, 0)) := fun rs hm => by
    rw [← hAd]
    refine layW_at Ls w (Ls.idxOf rs) rs ?_
    rw [List.getElem?_eq_getElem (List.idxOf_lt_length_of_mem hm), List.getElem_idxOf]
  have hAl : ∀ rs ∈ Ls, A rs < (layW w Ls).heap.size := fun rs hm => (Array.getElem?_eq_some_iff.1 (hAt rs hm)).1
  generalize layW w Ls = W at *
  -- the runs
  obtain ⟨i0, hi, hz0, hz1, hz2⟩ := info_parts info87
  have hEl : (T.map (entOf A)).length = T.length := by simp
  have hvl : (T.map (fun x => Value.agg (entOf A x).run)).length = T.length := by simp
  obtain ⟨r, hr, hrs, hrk⟩ := Great.fill_dense (s := 9) (by omega) (T.map (fun x => Value.agg (entOf A x).run)) 0 ((Array.range (T.length * 9)).map (zero87[· % zero87.size]!)) (by intro v hv; obtain ⟨x, _, rfl⟩ := List.mem_map.1 hv; rfl) (by simp)
  refine wpList_buildSlice g0.1 85 84 T.length parts g0.2.2 r i0 _ u88 hi hz0 (by rw [hz1]; omega) (by rw [hz1]; omega) ?_ ?_
  · rw [parts_map _ parts pl hparts, hz1]
    have hv' : pl.map ({ tmps := tm, defers := [] } : Act).eval = _ := hv
    rw [hv']
    exact hr
  have hRA : RunsAt (W.alloc (.cells r 84)) W.heap.size (T.map (entOf A)) := by
    refine ⟨r, heap_alloc_new W _, fun i j e he hj => ?_⟩
    rw [hrk]
    have hi : i < T.length := by have := (List.getElem?_eq_some_iff.1 he).1; simpa using this
    have e1 : (i * 9 + j) / 9 = i := by omega
    have e2 : (i * 9 + j) % 9 = j := by omega
    rw [if_pos (by rw [hvl]; constructor <;> omega), e1, e2, Nat.sub_zero]
    simp only [List.getElem?_map] at he ⊢
    cases hx : T[i]? with
    | none => rw [hx] at he; simp at he
    | some x => rw [hx] at he; simp at he; subst he; rfl
  have hb1 : Below w.heap.size w (W.alloc (.cells r 84)) := hLb.alloc (by omega) _
  have hAt1 : ∀ rs ∈ Ls, (W.alloc (.cells r 84)).heap[A rs]? = some (.cells (rs.map (Value.int .i32)).toArray 21 (0, 0)) := fun rs hm => by rw [Below.heap_alloc _ _ _ (hAl rs hm), hAt rs hm]
  have hAl1 : ∀ rs ∈ Ls, A rs < (W.alloc (.cells r 84)).heap.size := fun rs hm => by have := hAl rs hm; simp; omega
  have hsz1 : W.heap.size < (W.alloc (.cells r 84)).heap.size := by simp
  generalize W.alloc (.cells r 84) = W1 at *
  rw [g0.2.1]
  generalize W.heap.size = X at *
  simp only [Act.put]
  -- the instructions
  have h56 := t56 W1 X (T.map (entOf A)) hRA (by rw [hEl]; exact hTl) (fun e he => by
    obtain ⟨x, hx, rfl⟩ := List.mem_map.1 he
    have := List.all_eq_true.1 hok x hx
    simp only [insOk, Bool.and_eq_true, decide_eq_true_eq] at this
    exact ⟨by show outc x < 1000; omega, this.1.2⟩)
  rw [hEl] at h56
  refine wpList_callBy g1.1 40 #[.slice (some ⟨X, 0, none⟩) T.length T.length] ?_ _ h56 ?_
  · unfold execOp
    have e1 := ev_set (v := .slice (some ⟨X, 0, none⟩) T.length T.length) (show k < tm.size by omega)
    have e2 : ({ tmps := tm.setIfInBounds k (.slice (some ⟨X, 0, none⟩) T.length T.length), defers := [] } : Act).eval (.func 40) = .func (.func 40) #[] #[] := rfl
    generalize ({ tmps := tm.setIfInBounds k (.slice (some ⟨X, 0, none⟩) T.length T.length), defers := [] } : Act).eval = ev at *
    simp [g1.2.2, resolve, invoke, go_sem, e1, e2]
  rintro e W2 ⟨v, rfl, ho2, hb2⟩
  refine ⟨v, rfl, ?_⟩
  obtain ⟨IB, icap, hv2, hIB⟩ := World.ownsRow.form ho2 (by omega)
  subst hv2
  rw [g1.2.1]
  simp only [Act.put]
  generalize htm1 : (tm.setIfInBounds k (.slice (some ⟨X, 0, none⟩) T.length T.length)) = tm1
  have hs1 : tm1.size = sz := by rw [← htm1]; simpa using hs
  -- the program
  refine wpList_buildTo g2.1 87 _ g2.2.2 (some (k + 2)) g2.2.1 #[.slice (some ⟨IB, 0, none⟩) T.length icap, .int .i64 start, .int .i64 ncap] ?_ ?_
  · simp only [List.map_toArray, List.map_cons, List.map_nil, ev_set (v := .slice (some ⟨IB, 0, none⟩) T.length icap) (show k + 1 < tm1.size by omega)]
    exact built90 _ _ _ _ _
  simp only [Act.put]
  generalize htm2 : (tm1.setIfInBounds (k + 1) (.slice (some ⟨IB, 0, none⟩) T.length icap)) = tm2
  have hs2 : tm2.size = sz := by rw [← htm2]; simpa using hs1
  refine Great.wpList_boxTo g3.1 87 _ g3.2.2 (some (k + 3)) g3.2.1 W2.heap.size rfl #[.slice (some ⟨IB, 0, none⟩) T.length icap, .int .i64 start, .int .i64 ncap] (by rw [ev_set (by omega)]; rfl) ?_
  simp only [Act.put]
  have hP : (W2.alloc (.cells #[.slice (some ⟨IB, 0, none⟩) T.length icap, .int .i64 start, .int .i64 ncap] 87)).heap[W2.heap.size]? = _ := heap_alloc_new W2 _
  have hb3 : Below W2.heap.size W2 (W2.alloc (.cells #[.slice (some ⟨IB, 0, none⟩) T.length icap, .int .i64 start, .int .i64 ncap] 87)) := (Below.refl _ W2).alloc (Nat.le_refl _) _
  have hz3 : W2.heap.size < (W2.alloc (.cells #[.slice (some ⟨IB, 0, none⟩) T.length icap, .int .i64 start, .int .i64 ncap] 87)).heap.size := by simp
  generalize W2.alloc (.cells #[.slice (some ⟨IB, 0, none⟩) T.length icap, .int .i64 start, .int .i64 ncap] 87) = W3 at *
  generalize hPB : W2.heap.size = PB at *
  generalize htm3 : (tm2.setIfInBounds (k + 2) _) = tm3
  have hs3 : tm3.size = sz := by rw [← htm3]; simpa using hs2
  -- the names
  refine Great.wpList_buildSliceTo g4.1 40 9 ns _ g4.2.2 W3.heap.size rfl (some (k + 4)) g4.2.1 u52 cs (f4 _) ?_
  simp only [Act.put]
  have hb4 : Below W3.heap.size W3 (W3.alloc (.cells cs 9)) := (Below.refl _ W3).alloc (Nat.le_refl _) _
  have hz4 : W3.heap.size < (W3.alloc (.cells cs 9)).heap.size := by simp
  generalize W3.alloc (.cells cs 9) = W4 at *
  generalize htm4 : (tm3.setIfInBounds (k + 3) _) = tm4
  have hs4 : tm4.size = sz := by rw [← htm4]; simpa using hs3
  -- the Regexp
  refine wpList_buildTo g5.1 92 _ g5.2.2 (some (k + 5)) g5.2.1 #[.string src, .pointer (some ⟨PB, 0, none⟩), .pointer none, .int .i64 nsub, .int .i64 x4, .slice (some ⟨W3.heap.size, 0, none⟩) ns ns, .string ⟨#[]⟩, .slice none 0 0, .int .i32 0, .int .u32 0, .int .i64 x10, .int .i64 x11, .bool false, .int .u8 cond, .int .i64 minl, .bool false] ?_ ?_
  · have e1 : ({ tmps := tm4.setIfInBounds (k + 4) (.slice (some ⟨W3.heap.size, 0, none⟩) ns ns), defers := [] } : Act).eval (.tmp (k + 3)) = .pointer (some ⟨PB, 0, none⟩) := by
      rw [ev_ne (by omega), ← htm4, ev_set (by omega)]
    simp only [List.map_toArray, List.map_cons, List.map_nil, e1, ev_set (v := .slice (some ⟨W3.heap.size, 0, none⟩) ns ns) (show k + 4 < tm4.size by omega)]
    exact built95 _ _ _ _ _ _ _ _ _ _ _ _
  simp only [Act.put]
  generalize htm5 : (tm4.setIfInBounds (k + 4) _) = tm5
  have hs5 : tm5.size = sz := by rw [← htm5]; simpa using hs4
  refine Great.wpList_boxTo g6.1 92 _ g6.2.2 (some (k + 6)) g6.2.1 W4.heap.size rfl #[.string src, .pointer (some ⟨PB, 0, none⟩), .pointer none, .int .i64 nsub, .int .i64 x4, .slice (some ⟨W3.heap.size, 0, none⟩) ns ns, .string ⟨#[]⟩, .slice none 0 0, .int .i32 0, .int .u32 0, .int .i64 x10, .int .i64 x11, .bool false, .int .u8 cond, .int .i64 minl, .bool false] (by rw [ev_set (by omega)]; rfl) ?_
  simp only [Act.put]
  have hR5 := heap_alloc_new W4 (.cells #[.string src, .pointer (some ⟨PB, 0, none⟩), .pointer none, .int .i64 nsub, .int .i64 x4, .slice (some ⟨W3.heap.size, 0, none⟩) ns ns, .string ⟨#[]⟩, .slice none 0 0, .int .i32 0, .int .u32 0, .int .i64 x10, .int .i64 x11, .bool false, .int .u8 cond, .int .i64 minl, .bool false] 92 (0, 0))
  have hb5 : ∀ o, Below W4.heap.size W4 (W4.alloc o) := fun o => (Below.refl _ W4).alloc (Nat.le_refl _) _
  generalize htm6 : (tm5.setIfInBounds (k + 5) _) = tm6
  have hs6 : tm6.size = sz := by rw [← htm6]; simpa using hs5
  refine Great.wpList_runTo g7.1 (some 0) g7.2.1 (.pointer (some ⟨W4.heap.size, 0, none⟩)) (W4.alloc (.cells #[.string src, .pointer (some ⟨PB, 0, none⟩), .pointer none, .int .i64 nsub, .int .i64 x4, .slice (some ⟨W3.heap.size, 0, none⟩) ns ns, .string ⟨#[]⟩, .slice none 0 0, .int .i32 0, .int .u32 0, .int .i64 x10, .int .i64 x11, .bool false, .int .u8 cond, .int .i64 minl, .bool false] 92 (0, 0))) ?_ ?_
  · unfold execOp
    have e1 := ev_set (v := .pointer (some ⟨W4.heap.size, 0, none⟩)) (show k + 6 < tm6.size by omega)
    simp [g7.2.2, e1]
  simp only [Act.put]
  have hb5' := hb5 (.cells #[.string src, .pointer (some ⟨PB, 0, none⟩), .pointer none, .int .i64 nsub, .int .i64 x4, .slice (some ⟨W3.heap.size, 0, none⟩) ns ns, .string ⟨#[]⟩, .slice none 0 0, .int .i32 0, .int .u32 0, .int .i64 x10, .int .i64 x11, .bool false, .int .u8 cond, .int .i64 minl, .bool false] 92 (0, 0))
  have fin : ∀ W5, W5.heap[W4.heap.size]? = some (.cells #[.string src, .pointer (some ⟨PB, 0, none⟩), .pointer none, .int .i64 nsub, .int .i64 x4, .slice (some ⟨W3.heap.size, 0, none⟩) ns ns, .string ⟨#[]⟩, .slice none 0 0, .int .i32 0, .int .u32 0, .int .i64 x10, .int .i64 x11, .bool false, .int .u8 cond, .int .i64 minl, .bool false] 92 (0, 0)) → Below W4.heap.size W4 W5 →
      PG W5 W4.heap.size PB IB icap T ∧ RH W5 W4.heap.size PB cond start ncap minl nsub ∧ Below w.heap.size w W5 := fun W5 hR5 hb5 => by
    have z1 := hb1.size
    have z2 := hb2.size
    have z3 := hb3.size
    have k3 : ∀ j, j < W3.heap.size → W5.heap[j]? = W3.heap[j]? := fun j hj => (hb5.block j (by omega)).trans (hb4.block j hj)
    have k2 : ∀ j, j < PB → W5.heap[j]? = W2.heap[j]? := fun j hj => (k3 j (by omega)).trans (hb3.block j (by omega))
    have hP5 := (k3 PB hz3).trans hP
    have hA5 : ∀ rs ∈ Ls, W5.heap[A rs]? = some (.cells (rs.map (Value.int .i32)).toArray 21 (0, 0)) := fun rs hm => by
      have := hAl1 rs hm
      rw [k2 _ (by omega), hb2.block _ this, hAt1 rs hm]
    have ho5 := own_of ho2 (w' := W5) (fun g cur _ hc => by
      have := (Array.getElem?_eq_some_iff.1 hc).1
      rw [k2 g (by omega)])
    have hAll := List.all_eq_true.1 hok
    refine ⟨⟨cell_of_row _ _ 1 _ _ _ hR5, cell_of_row _ _ 15 _ _ _ hR5, cell_of_row _ _ 0 _ _ _ hP5, instAt_of (w0 := W5) hA5 hok ho5, fun i x hx => ?_, fun i o a hx => ?_, hTl⟩,
      ⟨cell_of_row _ _ 13 _ _ _ hR5, cell_of_row _ _ 6 _ _ _ hR5, cell_of_row _ _ 14 _ _ _ hR5, cell_of_row _ _ 3 _ _ _ hR5, cell_of_row _ _ 1 _ _ _ hP5, cell_of_row _ _ 2 _ _ _ hP5⟩, ?_⟩
    · have := hAll x (List.mem_of_getElem? hx)
      simp only [insOk, Bool.and_eq_true, decide_eq_true_eq] at this
      exact this.1
    · have := hAll _ (List.mem_of_getElem? hx)
      simp only [insOk, Bool.and_eq_true, decide_eq_true_eq] at this
      exact this.2
    · exact (((hb1.trans (hb2.mono z1)).trans (hb3.mono (by omega))).trans (hb4.mono (by omega))).trans (hb5.mono (by have := hb4.size; omega))
  obtain ⟨f1, f2, f3⟩ := fin _ hR5 hb5'
  exact wpList_nil (h _ _ W4.heap.size PB IB icap (ev_set (by simp; omega)) (by simp; omega) f1 f2 f3)
def opAt (l : List Oper) (i : Nat) : Oper := l[i]?.getD { dst := none, op := .assign (.tmp 0), type := 0, pos := "", after := #[], guard := none }
def partsOf (o : Oper) : Array (Nat × Operand) := match o.op with
  | .buildSlice _ _ p => p
  | .build _ p => p
  | _ => #[]
def plOf (o : Oper) : List Operand := (partsOf o).toList.map (·.2)
def strOf (o : Oper) : ByteArray := match (partsOf o).toList with
  | (_, .const (.string s)) :: _ => s
  | _ => ⟨#[]⟩
def intAt (o : Oper) (i : Nat) : Int := match (partsOf o).toList[i]? with
  | some (_, .const (.int _ x)) => x
  | _ => 0
theorem ctorL {ops : Array Oper} {Q : Exit → Act → World → Prop} (w : World) (Ls : List (List Int)) (T : List I) (m k sz ns start ncap nsub minl : Nat) (cond : Int) (l : List Oper) (tm : Array Value)
    (hnd : Ls.Nodup) (hT0 : T.length ≠ 0) (hTl : T.length ≤ 1000) (hok : T.all (insOk Ls T.length) = true) (hk : k + 6 < sz)
    (h1 : (evs l tm).1 = [opAt l m, opAt l (m + 1), opAt l (m + 2), opAt l (m + 3), opAt l (m + 4), opAt l (m + 5), opAt l (m + 6), opAt l (m + 7)])
    (h2 : ((plOf (opAt l m)).map fun x => ({ tmps := (evs l tm).2, defers := [] } : Act).eval x) = T.map (fun x => Value.agg (entOf (fun rs => w.heap.size + Ls.idxOf rs) x).run)) (h3 : (evs l tm).2.size = sz)
    (hparts : (partsOf (opAt l m)).toList = ((plOf (opAt l m)).zipIdx 0).map fun x => (x.2, x.1))
    (g0 : (opAt l m).guard = none ∧ (opAt l m).dst = some k ∧ (opAt l m).op = .buildSlice 85 T.length (partsOf (opAt l m)))
    (g1 : (opAt l (m + 1)).guard = none ∧ (opAt l (m + 1)).dst = some (k + 1) ∧ (opAt l (m + 1)).op = .call { callee := .value (.func 40), args := #[.tmp k], argTypes := #[85] })
    (g2 : (opAt l (m + 2)).guard = none ∧ (opAt l (m + 2)).dst = some (k + 2) ∧ (opAt l (m + 2)).op = .build 87 #[(1, .const (.int .i64 start)), (2, .const (.int .i64 ncap)), (0, .tmp (k + 1))])
    (g3 : (opAt l (m + 3)).guard = none ∧ (opAt l (m + 3)).dst = some (k + 3) ∧ (opAt l (m + 3)).op = .box 87 (.tmp (k + 2)))
    (g4 : (opAt l (m + 4)).guard = none ∧ (opAt l (m + 4)).dst = some (k + 4) ∧ (opAt l (m + 4)).op = .buildSlice 40 ns (partsOf (opAt l (m + 4))))
    (f4 : ∀ a : Act, Tryz.prog.builtSlice 9 ns ((partsOf (opAt l (m + 4))).map fun (i, x) => (i, a.eval x)).toList = some (List.replicate ns (Value.string ⟨#[]⟩)).toArray)
    (g5 : (opAt l (m + 5)).guard = none ∧ (opAt l (m + 5)).dst = some (k + 5) ∧ (opAt l (m + 5)).op = .build 92 #[(0, .const (.string (strOf (opAt l (m + 5))))), (1, .tmp (k + 3)), (3, .const (.int .i64 nsub)), (4, .const (.int .i64 (intAt (opAt l (m + 5)) 3))), (5, .tmp (k + 4)), (9, .const (.int .u32 0)), (10, .const (.int .i64 (intAt (opAt l (m + 5)) 6))), (11, .const (.int .i64 (intAt (opAt l (m + 5)) 7))), (12, .const (.bool false)), (13, .const (.int .u8 cond)), (14, .const (.int .i64 minl)), (15, .const (.bool false))])
    (g6 : (opAt l (m + 6)).guard = none ∧ (opAt l (m + 6)).dst = some (k + 6) ∧ (opAt l (m + 6)).op = .box 92 (.tmp (k + 5)))
    (g7 : (opAt l (m + 7)).guard = none ∧ (opAt l (m + 7)).dst = some 0 ∧ (opAt l (m + 7)).op = .assign (.tmp (k + 6)))
    (h : ∀ tm' w' R PB IB icap, ({ tmps := tm', defers := [] } : Act).eval (.tmp 0) = .pointer (some ⟨R, 0, none⟩) → 0 < tm'.size → PG w' R PB IB icap T → RH w' R PB cond start ncap minl nsub → Below w.heap.size w w' → Q .normal { tmps := tm', defers := [] } w') :
    wpList Tryz.prog ops Q l { tmps := tm, defers := [] } (layW w Ls) :=
  ctor w Ls hnd T hT0 hTl hok l tm (plOf (opAt l m)) _ _ _ _ _ _ _ _ k sz hk h1 h2 h3 _ hparts _ ns _ _ start ncap nsub minl _ _ _ cond g0 g1 g2 g3 g4 f4 g5 g6 g7 h
/-- what a constructor gives -/
def Ctor (w : World) (T : List I) (cond : Int) (start ncap minl nsub : Nat) : Ending → World → Prop := fun e w' => ∃ R PB IB icap, e = .returned (.pointer (some ⟨R, 0, none⟩)) ∧ PG w' R PB IB icap T ∧ RH w' R PB cond start ncap minl nsub ∧ Below w.heap.size w w'
end Go.Proofs.YtpbmbaffncnglaaGreatDoor.Sv
end
section
set_option linter.unusedVariables false
set_option linter.unusedSimpArgs false
/- the constructors of the five programs -/
namespace Go.Proofs.YtpbmbaffncnglaaGreatDoor.Sv
open Go Go.RowKit Rx
set_option maxRecDepth 100000
set_option maxHeartbeats 2000000 in
theorem t107 (w : World) : Calls Tryz.prog 88 #[] w (Ctor w looseT 4 1 20 1 9) := by
  go_enter Tryz.func88, Tryz.ntmps88
  go_upto_region 7 with go_in
  refine wp_region_list ?_
  change wpList _ _ _ _ _ (layW w [[118], [48, 57], [46], [45], [45, 45, 48, 57, 65, 90, 97, 122], [43]])
  refine ctorL w _ looseT 64 77 84 10 1 20 9 1 4 _ _ (by decide) (by decide) (by decide) (by decide) (by decide) (by kernel_rfl) (by kernel_rfl) (by kernel_rfl) (by kernel_rfl) ⟨by kernel_rfl, by kernel_rfl, by kernel_rfl⟩ ⟨by kernel_rfl, by kernel_rfl, by kernel_rfl⟩ ⟨by kernel_rfl, by kernel_rfl, by kernel_rfl⟩
    ⟨by kernel_rfl, by kernel_rfl, by kernel_rfl⟩ ⟨by kernel_rfl, by kernel_rfl, by kernel_rfl⟩ (fun a => by kernel_rfl) ⟨by kernel_rfl, by kernel_rfl, by kernel_rfl⟩ ⟨by kernel_rfl, by kernel_rfl, by kernel_rfl⟩ ⟨by kernel_rfl, by kernel_rfl, by kernel_rfl⟩ ?_
  intro tm' w' R PB IB icap e0 hsz hp hr hb
  rename_i K hK
  exact hK _ _ (wp_ret (bodyPost_ret (results_tmp rfl _ _ _) rfl ⟨R, PB, IB, icap, congrArg _ e0, hp, hr, hb⟩))
set_option maxHeartbeats 2000000 in
theorem t52 (w : World) : Calls Tryz.prog 36 #[] w (Ctor w rngT 0 2 42 5 20) := by
  go_enter Tryz.func36, Tryz.ntmps36
  go_upto_region 8 with go_in
  refine wp_region_list ?_
  change wpList _ _ _ _ _ (layW w [[9, 10, 12, 13, 32, 32], [118], [42, 42, 48, 57, 88, 88, 120, 120, 124, 124], [46], [45], [45, 45, 48, 57, 65, 90, 97, 122], [43]])
  refine ctorL w _ rngT 140 155 162 21 2 42 20 5 0 _ _ (by decide) (by decide) (by decide) (by decide) (by decide) (by kernel_rfl) (by kernel_rfl) (by kernel_rfl) (by kernel_rfl) ⟨by kernel_rfl, by kernel_rfl, by kernel_rfl⟩ ⟨by kernel_rfl, by kernel_rfl, by kernel_rfl⟩ ⟨by kernel_rfl, by kernel_rfl, by kernel_rfl⟩
    ⟨by kernel_rfl, by kernel_rfl, by kernel_rfl⟩ ⟨by kernel_rfl, by kernel_rfl, by kernel_rfl⟩ (fun a => by kernel_rfl) ⟨by kernel_rfl, by kernel_rfl, by kernel_rfl⟩ ⟨by kernel_rfl, by kernel_rfl, by kernel_rfl⟩ ⟨by kernel_rfl, by kernel_rfl, by kernel_rfl⟩ ?_
  intro tm' w' R PB IB icap e0 hsz hp hr hb
  rename_i K hK
  exact hK _ _ (wp_ret (bodyPost_ret (results_tmp rfl _ _ _) rfl ⟨R, PB, IB, icap, congrArg _ e0, hp, hr, hb⟩))
set_option maxHeartbeats 2000000 in
theorem t60 (w : World) : Calls Tryz.prog 44 #[] w (Ctor w conT 4 1 24 1 11) := by
  go_enter Tryz.func44, Tryz.ntmps44
  go_upto_region 15 with go_in
  refine wp_region_list ?_
  change wpList _ _ _ _ _ (layW w [[9, 10, 12, 13, 32, 32], [61], [33], [60, 60, 62, 62], [62], [60], [126], [94], [118], [42, 42, 48, 57, 88, 88, 120, 120, 124, 124], [46], [45], [45, 45, 48, 57, 65, 90, 97, 122], [43]])
  refine ctorL w _ conT 119 148 155 12 1 24 11 1 4 _ _ (by decide) (by decide) (by decide) (by decide) (by decide) (by kernel_rfl) (by kernel_rfl) (by kernel_rfl) (by kernel_rfl) ⟨by kernel_rfl, by kernel_rfl, by kernel_rfl⟩ ⟨by kernel_rfl, by kernel_rfl, by kernel_rfl⟩ ⟨by kernel_rfl, by kernel_rfl, by kernel_rfl⟩
    ⟨by kernel_rfl, by kernel_rfl, by kernel_rfl⟩ ⟨by kernel_rfl, by kernel_rfl, by kernel_rfl⟩ (fun a => by kernel_rfl) ⟨by kernel_rfl, by kernel_rfl, by kernel_rfl⟩ ⟨by kernel_rfl, by kernel_rfl, by kernel_rfl⟩ ⟨by kernel_rfl, by kernel_rfl, by kernel_rfl⟩ ?_
  intro tm' w' R PB IB icap e0 hsz hp hr hb
  rename_i K hK
  exact hK _ _ (wp_ret (bodyPost_ret (results_tmp rfl _ _ _) rfl ⟨R, PB, IB, icap, congrArg _ e0, hp, hr, hb⟩))
set_option maxHeartbeats 2000000 in
theorem t42 (w : World) : Calls Tryz.prog 29 #[] w (Ctor w findT 0 1 24 1 11) := by
  go_enter Tryz.func29, Tryz.ntmps29
  go_upto_region 15 with go_in
  refine wp_region_list ?_
  change wpList _ _ _ _ _ (layW w [[61], [33], [60, 60, 62, 62], [62], [60], [126], [94], [9, 10, 12, 13, 32, 32], [118], [42, 42, 48, 57, 88, 88, 120, 120, 124, 124], [46], [45], [45, 45, 48, 57, 65, 90, 97, 122], [43]])
  refine ctorL w _ findT 111 140 147 12 1 24 11 1 0 _ _ (by decide) (by decide) (by decide) (by decide) (by decide) (by kernel_rfl) (by kernel_rfl) (by kernel_rfl) (by kernel_rfl) ⟨by kernel_rfl, by kernel_rfl, by kernel_rfl⟩ ⟨by kernel_rfl, by kernel_rfl, by kernel_rfl⟩ ⟨by kernel_rfl, by kernel_rfl, by kernel_rfl⟩
    ⟨by kernel_rfl, by kernel_rfl, by kernel_rfl⟩ ⟨by kernel_rfl, by kernel_rfl, by kernel_rfl⟩ (fun a => by kernel_rfl) ⟨by kernel_rfl, by kernel_rfl, by kernel_rfl⟩ ⟨by kernel_rfl, by kernel_rfl, by kernel_rfl⟩ ⟨by kernel_rfl, by kernel_rfl, by kernel_rfl⟩ ?_
  intro tm' w' R PB IB icap e0 hsz hp hr hb
  rename_i K hK
  exact hK _ _ (wp_ret (bodyPost_ret (results_tmp rfl _ _ _) rfl ⟨R, PB, IB, icap, congrArg _ e0, hp, hr, hb⟩))
set_option maxHeartbeats 2000000 in
theorem t39 (w : World) : Calls Tryz.prog 26 #[] w (Ctor w validT 4 1 50 1 24) := by
  go_enter Tryz.func26, Tryz.ntmps26
  go_upto_region 16 with go_in
  refine wp_region_list ?_
  change wpList _ _ _ _ _ (layW w [[9, 10, 12, 13, 32, 32], [61], [33], [60, 60, 62, 62], [62], [60], [126], [94], [118], [42, 42, 48, 57, 88, 88, 120, 120, 124, 124], [46], [45], [45, 45, 48, 57, 65, 90, 97, 122], [43], [44]])
  refine ctorL w _ validT 245 276 283 25 1 50 24 1 4 _ _ (by decide) (by decide) (by decide) (by decide) (by decide) (by kernel_rfl) (by kernel_rfl) (by kernel_rfl) (by kernel_rfl) ⟨by kernel_rfl, by kernel_rfl, by kernel_rfl⟩ ⟨by kernel_rfl, by kernel_rfl, by kernel_rfl⟩ ⟨by kernel_rfl, by kernel_rfl, by kernel_rfl⟩
    ⟨by kernel_rfl, by kernel_rfl, by kernel_rfl⟩ ⟨by kernel_rfl, by kernel_rfl, by kernel_rfl⟩ (fun a => by kernel_rfl) ⟨by kernel_rfl, by kernel_rfl, by kernel_rfl⟩ ⟨by kernel_rfl, by kernel_rfl, by kernel_rfl⟩ ⟨by kernel_rfl, by kernel_rfl, by kernel_rfl⟩ ?_
  intro tm' w' R PB IB icap e0 hsz hp hr hb
  rename_i K hK
  exact hK _ _ (wp_ret (bodyPost_ret (results_tmp rfl _ _ _) rfl ⟨R, PB, IB, icap, congrArg _ e0, hp, hr, hb⟩))
end Go.Proofs.YtpbmbaffncnglaaGreatDoor.Sv
end
section
set_option linter.unusedVariables false
set_option linter.unusedSimpArgs false
/- the texts and the tables as the engine wants them -/
namespace Go.Proofs.YtpbmbaffncnglaaGreatDoor.Sv
open Go Go.RowKit Rx
set_option maxRecDepth 100000
theorem decN_asc (n b0 b1 b2 b3 : Nat) (h : b0 < 128) : Lib.decodeN n b0 b1 b2 b3 = (b0, 1) := by unfold Lib.decodeN; rw [if_pos h]
theorem decN_far (n b0 b1 b2 b3 : Nat) (h : 128 ≤ b0) : 128 ≤ (Lib.decodeN n b0 b1 b2 b3).1 := by
  unfold Lib.decodeN
  repeat' split
  all_goals (simp only []; omega)
theorem get_at (s : ByteArray) (p : Nat) (x : UInt8) (h : s.data.toList[p]? = some x) : p < s.size ∧ (s.extract p s.size).size ≠ 0 ∧ (s.extract p s.size).get! 0 = x := by
  have hp : p < s.size := by have := (List.getElem?_eq_some_iff.1 h).1; simpa using this
  have h2 : (s.extract p s.size).size ≠ 0 := by simp; omega
  refine ⟨hp, h2, ?_⟩
  have h3 : s.data[p]? = some x := by simpa using h
  have h4 : 0 < (s.extract p s.size).size := by omega
  have e : (s.extract p s.size).get! 0 = (s.extract p s.size).data[0]! := rfl
  rw [e]
  have h5 : (s.extract p s.size).data[0]? = some x := by
    rw [ByteArray.data_extract, Array.getElem?_extract]
    simp [h3]
    have : s.data.size = s.size := rfl
    omega
  rw [getElem!_def, h5]
theorem step_dec (s : ByteArray) (p : Nat) (x : UInt8) (h : s.data.toList[p]? = some x) : ∃ n b1 b2 b3, stepB s p = (((Lib.decodeN n x.toNat b1 b2 b3).1 : Int), (Lib.decodeN n x.toNat b1 b2 b3).2) := by
  obtain ⟨h1, h2, h3⟩ := get_at s p x h
  unfold stepB Lib.decodeGo
  rw [if_pos h1, if_neg h2, Lib.decode_at, h3]
  exact ⟨_, _, _, _, rfl⟩
theorem list_size (s : ByteArray) : s.data.toList.length = s.size := by simp
theorem ok_env (T : List I) (s : ByteArray) : Rx.Ok (envOf T s) s.size := by
  refine ⟨fun p hp => ?_, fun p hp => ?_⟩
  · obtain ⟨x, hx⟩ : ∃ x, s.data.toList[p]? = some x := ⟨_, List.getElem?_eq_getElem (by rw [list_size]; exact hp)⟩
    show 1 ≤ (stepB s p).2 ∧ p + (stepB s p).2 ≤ s.size
    have hle := Lib.decodeGo_le_size (s.extract p s.size)
    have hsz : (s.extract p s.size).size = s.size - p := by simp
    have hge : 1 ≤ (stepB s p).2 := by
      obtain ⟨n, b1, b2, b3, h⟩ := step_dec s p x hx
      rw [h]; exact Lib.decodeN_ge1 _ _ _ _ _
    refine ⟨hge, ?_⟩
    have : (stepB s p).2 = (Lib.decodeGo (s.extract p s.size)).2 := by unfold stepB; rw [if_pos hp]
    omega
  · show stepB s p = _
    unfold stepB; rw [if_neg (by omega)]
theorem txt_env (T : List I) (s : ByteArray) : Txt (envOf T s) s.data.toList := by
  refine ⟨by rw [list_size]; exact ok_env T s, fun p x hx hl => ?_, fun p x hx hl => ?_, fun p hp => by simp [envOf], fun p hp => by rw [list_size] at *; simp [envOf]⟩
  · obtain ⟨n, b1, b2, b3, h⟩ := step_dec s p x hx
    show stepB s p = _
    rw [h, decN_asc _ _ _ _ _ hl]
  · obtain ⟨n, b1, b2, b3, h⟩ := step_dec s p x hx
    show 128 ≤ (stepB s p).1
    rw [h]
    have := decN_far n x.toNat b1 b2 b3 hl
    simp only []; omega
/-! the tables -/
def insT (n : Nat) : I → Bool
  | .alt o a => decide (o < n) && decide (a < n)
  | .cap o _ => decide (o < n)
  | .emp o a => decide (o < n) && (a == 4 || a == 8)
  | .mtch => true
  | .fail => true
  | .nop o => decide (o < n)
  | .rune o rs => decide (o < n) && !matchRune rs (-1)
  | .one o r => decide (o < n) && decide (r ≠ -1)
theorem tab_of {T : List I} (h : T.all (insT T.length) = true) : TabOk T ∧ ∀ (i o a : Nat), T[i]? = some (.emp o a) → a = 4 ∨ a = 8 := by
  have h := List.all_eq_true.1 h
  refine ⟨fun i x hx => ?_, fun i o a hx => ?_⟩
  · have := h x (List.mem_of_getElem? hx)
    cases x <;> simp_all [insT]
  · have := h _ (List.mem_of_getElem? hx)
    simp only [insT, Bool.and_eq_true, Bool.or_eq_true, beq_iff_eq] at this
    exact this.2
theorem looseT_ok : looseT.all (insT looseT.length) = true := by decide
theorem conT_ok : conT.all (insT conT.length) = true := by decide
theorem findT_ok : findT.all (insT findT.length) = true := by decide
theorem rngT_ok : rngT.all (insT rngT.length) = true := by decide
theorem validT_ok : validT.all (insT validT.length) = true := by decide
/-- behind a constructor a search may be made -/
theorem sur_of {w : World} {R PB IB icap : Nat} {T : List I} {s : ByteArray} (hp : PG w R PB IB icap T) (hT : Lib.Utf8Tabs 11 12 w) (hok : T.all (insT T.length) = true) (hTl : T.length ≤ 200) (hs : s.size ≤ 1000) : Sur w R PB IB icap T s := by
  obtain ⟨h1, h2⟩ := tab_of hok
  refine ⟨hp, hT, h1, by omega, ok_env T s, h2, ?_⟩
  have := Nat.mul_le_mul hTl (show s.size + 1 ≤ 1001 by omega)
  omega
end Go.Proofs.YtpbmbaffncnglaaGreatDoor.Sv
end
section
set_option linter.unusedVariables false
set_option linter.unusedSimpArgs false
/- captures lie in pairs -/
namespace Go.Proofs.YtpbmbaffncnglaaGreatDoor.Sv
open Go Go.RowKit Rx
inductive Bal : Nat → Nat → List (Nat × Nat) → Prop
  | nil {p q : Nat} (h : p ≤ q) : Bal p q []
  | wrap {p q : Nat} (i a b : Nat) (t : List (Nat × Nat)) (h1 : p ≤ a) (h : Bal a b t) (h2 : b ≤ q) : Bal p q ((2 * i, a) :: (t ++ [(2 * i + 1, b)]))
  | app {p q r : Nat} (t t' : List (Nat × Nat)) (h : Bal p q t) (h' : Bal q r t') : Bal p r (t ++ t')
theorem Bal.le {p q : Nat} {t : List (Nat × Nat)} (h : Bal p q t) : p ≤ q := by
  induction h with
  | nil h => exact h
  | wrap i a b t h1 h h2 ih => omega
  | app t t' h h' ih ih' => omega
theorem Bal.mem {p q : Nat} {t : List (Nat × Nat)} (h : Bal p q t) : ∀ x ∈ t, p ≤ x.2 ∧ x.2 ≤ q := by
  induction h with
  | nil h => intro x hx; cases hx
  | wrap i a b t h1 h h2 ih =>
    have := h.le
    intro x hx
    rcases List.mem_cons.1 hx with rfl | hx
    · simp only []; omega
    rcases List.mem_append.1 hx with hx | hx
    · have := ih x hx; omega
    · have : x = (2 * i + 1, b) := by simpa using hx
      subst this; simp only []; omega
  | app t t' h h' ih ih' =>
    have := h.le
    have := h'.le
    intro x hx
    rcases List.mem_append.1 hx with hx | hx
    · have := ih x hx; omega
    · have := ih' x hx; omega
theorem lastW_mem : ∀ {t : List (Nat × Nat)} {i a : Nat}, lastW t i = some a → (i, a) ∈ t
  | [], i, a, h => by cases h
  | x :: t, i, a, h => by
    simp only [lastW] at h
    cases e : lastW t i with
    | some b => rw [e] at h; simp at h; subst h; exact List.mem_cons_of_mem _ (lastW_mem e)
    | none =>
      rw [e] at h
      simp at h
      obtain ⟨h1, h2⟩ := h
      have : x = (i, a) := by rw [← h1, ← h2]
      rw [this]; exact List.mem_cons_self
theorem Bal.pair {p q : Nat} {t : List (Nat × Nat)} (h : Bal p q t) : ∀ j a, lastW t (2 * j) = some a → ∃ b, lastW t (2 * j + 1) = some b ∧ a ≤ b := by
  induction h with
  | nil h => intro j a e; cases e
  | wrap i a b t h1 h h2 ih =>
    intro j a' e
    have e1 : ∀ k, lastW ((2 * i, a) :: (t ++ [(2 * i + 1, b)])) k = ((lastW [(2 * i + 1, b)] k).or (lastW t k)).or (if 2 * i = k then some a else none) := fun k => by
      simp only [lastW, lastW_append]
    rw [e1] at e
    have z1 : lastW [(2 * i + 1, b)] (2 * j) = none := by simp [lastW]; omega
    rw [z1, Option.none_or] at e
    rw [e1]
    by_cases c : i = j
    · subst c
      have z2 : lastW [(2 * i + 1, b)] (2 * i + 1) = some b := by simp [lastW]
      rw [z2]
      refine ⟨b, rfl, ?_⟩
      cases e2 : lastW t (2 * i) with
      | some x => rw [e2] at e; simp at e; subst e; exact (h.mem _ (lastW_mem e2)).2
      | none => rw [e2] at e; simp at e; subst e; exact h.le
    · have z2 : lastW [(2 * i + 1, b)] (2 * j + 1) = none := by simp [lastW]; omega
      rw [z2, Option.none_or]
      rw [if_neg (by omega), Option.or_none] at e
      obtain ⟨b', h3, h4⟩ := ih j a' e
      exact ⟨b', by rw [h3]; rfl, h4⟩
  | app t t' h h' ih ih' =>
    intro j a e
    rw [lastW_append] at e ⊢
    cases e1 : lastW t' (2 * j) with
    | some x =>
      rw [e1] at e; simp at e; subst e
      obtain ⟨b, h3, h4⟩ := ih' j _ e1
      exact ⟨b, by rw [h3]; rfl, h4⟩
    | none =>
      rw [e1, Option.none_or] at e
      obtain ⟨b, h3, h4⟩ := ih j a e
      cases e2 : lastW t' (2 * j + 1) with
      | none => exact ⟨b, by rw [h3]; rfl, h4⟩
      | some x =>
        have h5 := (h'.mem _ (lastW_mem e2)).1
        have h6 := (h.mem _ (lastW_mem h3)).2
        exact ⟨x, rfl, by simp only [] at h5 h6; omega⟩
theorem Bal.weak {p q p' q' : Nat} {t : List (Nat × Nat)} (h : Bal p q t) (h1 : p' ≤ p) (h2 : q ≤ q') : Bal p' q' t := by
  have := Bal.app [] _ (.nil (show p' ≤ p from h1)) (Bal.app t [] h (.nil h2))
  simpa using this
/-- the array of places -/
theorem slots_ok {N p : Nat} {t : List (Nat × Nat)} (h : Bal p N t) (nc : Nat) (e : Nat) (hn : 2 ≤ nc) (hp : p ≤ e) (he : e ≤ N) (h0 : lastW t 0 = none) :
    ∀ i, 2 * i + 1 < nc → 0 ≤ (applyT (t ++ [(1, e)]) ((List.replicate nc (-1)).set 0 (p : Int))).getD (2 * i) 0 →
      (applyT (t ++ [(1, e)]) ((List.replicate nc (-1)).set 0 (p : Int))).getD (2 * i) 0 ≤ (applyT (t ++ [(1, e)]) ((List.replicate nc (-1)).set 0 (p : Int))).getD (2 * i + 1) 0 ∧ (applyT (t ++ [(1, e)]) ((List.replicate nc (-1)).set 0 (p : Int))).getD (2 * i + 1) 0 ≤ (N : Int) := by
  intro i hi
  have hl : ((List.replicate nc (-1 : Int)).set 0 (p : Int)).length = nc := by simp
  have g : ∀ k, k < nc → (applyT (t ++ [(1, e)]) ((List.replicate nc (-1)).set 0 (p : Int))).getD k 0 = match lastW (t ++ [(1, e)]) k with | some p => (p : Int) | none => ((List.replicate nc (-1)).set 0 (p : Int)).getD k 0 := fun k hk => by
    rw [List.getD_eq_getElem?_getD, applyT_get _ _ _ (by rw [hl]; exact hk)]; rfl
  rw [g _ (by omega), g _ (by omega)]
  rw [lastW_append, lastW_append]
  have z1 : lastW [(1, e)] (2 * i) = none := by simp [lastW]; omega
  rw [z1, Option.none_or]
  intro hge
  by_cases c : i = 0
  · subst c
    have z2 : lastW [(1, e)] (2 * 0 + 1) = some e := by simp [lastW]
    rw [z2, show 2 * 0 = 0 from rfl, h0]
    have : ((List.replicate nc (-1 : Int)).set 0 (p : Int)).getD 0 0 = p := by
      rw [List.getD_eq_getElem?_getD, List.getElem?_set_self (by simp; omega)]; rfl
    simp only [Option.some_or, this]
    omega
  · have z2 : lastW [(1, e)] (2 * i + 1) = none := by simp [lastW]; omega
    rw [z2, Option.none_or]
    cases h2 : lastW t (2 * i) with
    | some a =>
      obtain ⟨b, h3, h4⟩ := h.pair i a h2
      have h5 := (h.mem _ (lastW_mem h3)).2
      rw [h3]
      simp only [] at h5 ⊢
      omega
    | none =>
      rw [h2] at hge
      have : ((List.replicate nc (-1 : Int)).set 0 (p : Int)).getD (2 * i) 0 = -1 := by
        rw [List.getD_eq_getElem?_getD, List.getElem?_set_ne (by omega), List.getElem?_replicate, if_pos (by omega)]; rfl
      simp only [this] at hge
      omega
end Go.Proofs.YtpbmbaffncnglaaGreatDoor.Sv
end
section
set_option linter.unusedVariables false
set_option linter.unusedSimpArgs false
/- the five searches, as their callers want them -/
namespace Go.Proofs.YtpbmbaffncnglaaGreatDoor.Sv
open Go Go.RowKit Rx
set_option maxRecDepth 100000
theorem Bal.one (i a b : Nat) (h : a ≤ b) : Bal a b [(2 * i, a), (2 * i + 1, b)] := .wrap i a b [] (Nat.le_refl _) (.nil h) (Nat.le_refl _)
theorem bal_p (i p : Nat) (x : Option Bs) : Bal p (p + (ptext x).length) (pcaps (2 * i) p x) := by
  cases x with
  | none => exact .nil (by simp)
  | some r => exact (Bal.one i p (p + 1 + r.length) (by omega)).weak (Nat.le_refl _) (by simp [ptext]; omega)
theorem bal_i (i : Nat) : ∀ (l : List Bs) (p : Nat), Bal p (p + (dots l).length) (icaps (2 * i) p l)
  | [], p => .nil (by simp [dots])
  | r :: l, p => by
    have h := bal_i i l (p + 1 + r.length)
    have := Bal.app _ _ (Bal.one i p (p + 1 + r.length) (by omega)) h
    exact this.weak (Nat.le_refl _) (by simp [dots]; omega)
theorem bal_g (i p : Nat) (c : UInt8) (x : Option (Bs × List Bs)) : Bal p (p + (gtext c x).length) (gcaps (2 * i) p x) := by
  rcases x with _ | ⟨x, l⟩
  · exact .nil (by simp)
  · have h := (bal_i (i + 2) l (p + 1 + x.length)).weak (show p + 1 ≤ p + 1 + x.length by omega) (show p + 1 + x.length + (dots l).length ≤ p + 1 + (x ++ dots l).length by simp; omega)
    have h2 := Bal.wrap (q := p + 1 + (x ++ dots l).length) (i + 1) (p + 1) _ _ (Nat.le_refl _) h (Nat.le_refl _)
    have h3 := Bal.wrap (p := p) (q := p + (gtext c (some (x, l))).length) i p (p + 1 + (x ++ dots l).length) _ (Nat.le_refl _) (h2.weak (show p ≤ p + 1 by omega) (Nat.le_refl _)) (by simp [gtext]; omega)
    simpa [gcaps, Nat.mul_add] using h3
theorem bal_v (i p : Nat) (x : Ver) : Bal p (p + x.text.length) (x.caps (2 * i) p) := by
  have h0 := Bal.one i (x.q0 p) (x.q1 p) (by unfold Ver.q1; omega)
  have h1 := bal_p (i + 1) (x.q1 p) x.p2
  have h2 := bal_p (i + 2) (x.q2 p) x.p3
  have h3 := bal_g (i + 3) (x.q3 p) 45 x.pre
  have h4 := bal_g (i + 6) (x.q4 p) 43 x.meta_
  have h := Bal.app _ _ h0 (Bal.app _ _ h1 (Bal.app _ _ h2 (Bal.app _ _ h3 h4)))
  have h5 := h.weak (show p ≤ x.q0 p by unfold Ver.q0; omega) (show x.q4 p + (gtext 43 x.meta_).length ≤ p + x.text.length by
    unfold Ver.q4 Ver.q3 Ver.q2 Ver.q1 Ver.q0 Ver.text
    split <;> simp <;> omega)
  rw [Ver.caps_eq]
  simpa [Nat.mul_add] using h5
theorem bal_t (i p : Nat) (x : Tm) : Bal p (p + x.text.length) (tcaps (2 * i) p x) := by
  have h0 := Bal.one i p (p + x.op.length) (by omega)
  have hv := bal_v (i + 2) (p + x.op.length + x.blank.length) x.ver
  have h1 := Bal.wrap (p := p + x.op.length) (q := p + x.text.length) (i + 1) (p + x.op.length + x.blank.length) (p + x.text.length) _ (by omega) (hv.weak (Nat.le_refl _) (by simp [Tm.text]; omega)) (Nat.le_refl _)
  have h := Bal.app _ _ h0 h1
  simpa [tcaps, Nat.mul_add] using h
theorem v_slot0 (x : Ver) (p : Nat) : lastW (x.caps 2 p) 0 = none := by
  rw [Ver.caps_eq]
  simp only [lastW, lastW_append]
  rw [lastW_gcaps _ _ (by omega), lastW_gcaps _ _ (by omega), lastW_pcaps, lastW_pcaps]
  rcases x.meta_ with _ | ⟨_, _⟩ <;> rcases x.pre with _ | ⟨_, _⟩ <;> rcases x.p3 with _ | _ <;> rcases x.p2 with _ | _ <;> simp
theorem v_slot0' (x : Ver) (p : Nat) : lastW (x.caps 6 p) 0 = none := by
  rw [Ver.caps_eq]
  simp only [lastW, lastW_append]
  rw [lastW_gcaps _ _ (by omega), lastW_gcaps _ _ (by omega), lastW_pcaps, lastW_pcaps]
  rcases x.meta_ with _ | ⟨_, _⟩ <;> rcases x.pre with _ | ⟨_, _⟩ <;> rcases x.p3 with _ | _ <;> rcases x.p2 with _ | _ <;> simp
theorem t_slot0 (x : Tm) (p : Nat) : lastW (tcaps 2 p x) 0 = none := by
  unfold tcaps
  simp only [lastW, lastW_append]
  rw [v_slot0']
  simp
/-- a piece out of the slots' array is the text's piece -/
theorem pieceI_eq (s : ByteArray) (t : List (Nat × Nat)) (nc p i : Nat) (hi : 1 ≤ i) (hn : 2 * i + 1 < nc) (hb : ∀ a, lastW t (2 * i) = some a → ∃ b, lastW t (2 * i + 1) = some b ∧ a ≤ b) :
    pieceI s (applyT t ((List.replicate nc (-1)).set 0 (p : Int))) i = ⟨(piece s.data.toList t i).toArray⟩ := by
  have hl : (applyT t ((List.replicate nc (-1)).set 0 (p : Int))).length = nc := by rw [applyT_length]; simp
  have g : ∀ k, k < nc → 1 ≤ k → (applyT t ((List.replicate nc (-1)).set 0 (p : Int))).getD k 0 = match lastW t k with | some p => (p : Int) | none => -1 := fun k hk h1 => by
    rw [List.getD_eq_getElem?_getD, applyT_get _ _ _ (by simp; exact hk)]
    have : ((List.replicate nc (-1 : Int)).set 0 (p : Int)).getD k 0 = -1 := by
      rw [List.getD_eq_getElem?_getD, List.getElem?_set_ne (by omega), List.getElem?_replicate, if_pos (by omega)]; rfl
    rw [this]; rfl
  unfold pieceI piece
  rw [hl, g _ (by omega) (by omega), g _ (by omega) (by omega)]
  cases h2 : lastW t (2 * i) with
  | none => simp
  | some a =>
    obtain ⟨b, h3, h4⟩ := hb a h2
    rw [h3, if_pos ⟨by omega, by simp only []; omega⟩]
    simp only [Int.toNat_natCast]
    apply ByteArray.ext
    rw [ByteArray.data_extract]
    apply Array.toList_inj.1
    simp [List.extract_eq_take_drop]
end Go.Proofs.YtpbmbaffncnglaaGreatDoor.Sv
end
section
set_option linter.unusedVariables false
set_option linter.unusedSimpArgs false
/- the five searches, as their callers want them -/
namespace Go.Proofs.YtpbmbaffncnglaaGreatDoor.Sv
open Go Go.RowKit Rx
set_option maxRecDepth 100000
theorem envProg (T : List I) (s : ByteArray) : (envOf T s).prog = tabP T := rfl
/-- a list of terms is taken by the whole check -/
theorem validM {w : World} {R PB IB icap : Nat} {s : ByteArray} (hp : PG w R PB IB icap validT) (hr : RH w R PB 4 1 50 1 24) (hT : Lib.Utf8Tabs 11 12 w) (hs : s.size ≤ 1000)
    {B : Bs} {x : Tm} {l : List (Sep × Tm)} (hB : ∀ y ∈ B, ws y = true) (hx : x.Ok) (hl : LOk l) (ht : s.data.toList = B ++ ltext x l) :
    Calls Tryz.prog 27 #[.pointer (some ⟨R, 0, none⟩), .string s] w fun e w' => e = .returned (.bool true) ∧ Below w.heap.size w w' := by
  obtain ⟨n, hM⟩ := valid_M (txt_env validT s) rfl 0 (Nat.zero_le _)
  have hv := valid_eval hB hx hl _ ht
  have h0 : ¬ s.size < 1 := by
    intro h
    have : s.data.toList.length = 0 := by rw [list_size]; omega
    rw [ht] at this
    obtain ⟨y, r, hy, _⟩ := ver_head hx.ver
    simp [ltext, Tm.text, hy] at this
  refine (tMatchString (sur_of hp hT validT_ok (by decide) hs) hr (by omega) (.emp 2 4) rfl (by decide) hM (fun h => absurd h h0)).mono ?_
  rintro e w' ⟨rfl, hb⟩
  exact ⟨by rw [hv], hb⟩
theorem srch_none {E : Env} {N : Nat} {f : K} (h : ∀ p, f p = none) : ∀ (n p : Nat), srch E N f n p = none := by
  intro n
  induction n with
  | zero => intro p; rfl
  | succ n ih =>
    intro p
    unfold srch
    simp only [h]
    repeat' split
    all_goals first | rfl | exact ih _
/-- a text with no blank ahead of a hyphen has no range -/
theorem rngM {w : World} {R PB IB icap : Nat} {s : ByteArray} (hp : PG w R PB IB icap rngT) (hr : RH w R PB 0 2 42 5 20) (hT : Lib.Utf8Tabs 11 12 w) (hs : s.size ≤ 1000) (h : noWD s.data.toList = true) :
    Calls Tryz.prog 37 #[.pointer (some ⟨R, 0, none⟩), .string s, .int .i64 (-1)] w fun e w' => e = .returned (.slice none 0 0) ∧ Below w.heap.size w w' :=
  tFindAllSub0 (sur_of hp hT rngT_ok (by decide) hs) hr (by omega) _ (show rngT[2]? = some rngT[2] from rfl) (by decide) (by omega) (by omega) (rngS s.data.toList) (fun p hp => rng_M (txt_env rngT s) rfl p (by rw [list_size]; exact hp)) (fun k _ => srch_none (rng_none h) k 0)
end Go.Proofs.YtpbmbaffncnglaaGreatDoor.Sv
end
section
set_option linter.unusedVariables false
set_option linter.unusedSimpArgs false
/- all terms of a list are found -/
namespace Go.Proofs.YtpbmbaffncnglaaGreatDoor.Sv
open Go Go.RowKit Rx
set_option maxRecDepth 100000
abbrev Ms := List (Nat × List (Nat × Nat))
def mAt (p : Nat) (x : Tm) : Nat × List (Nat × Nat) := (p, tcaps 2 p x ++ [(1, p + x.text.length)])
def msT : Nat → List (Sep × Tm) → Ms
  | _, [] => []
  | p, y :: l => mAt (p + skip y) (found y) :: msT (p + skip y + (found y).text.length) l
theorem t_slot1 (x : Tm) (p : Nat) : lastW (tcaps 2 p x) 1 = none := by
  cases h : lastW (tcaps 2 p x) 1 with
  | none => rfl
  | some a =>
    exfalso
    have hg : ∀ (t : List (Nat × Nat)), (∀ y ∈ t, 2 ≤ y.1) → lastW t 1 = none := by
      intro t ht
      cases h : lastW t 1 with
      | none => rfl
      | some a => have := ht _ (lastW_mem h); simp at this
    have hi : ∀ (b p : Nat) (l : List Bs), 2 ≤ b → ∀ y ∈ icaps b p l, 2 ≤ y.1 := by
      intro b p l hb
      induction l generalizing p with
      | nil => intro y hy; cases hy
      | cons r l ih =>
        intro y hy
        simp only [icaps, List.mem_cons] at hy
        rcases hy with rfl | rfl | hy
        · exact hb
        · show 2 ≤ b + 1; omega
        · exact ih _ y hy
    have hp : ∀ (b p : Nat) (x : Option Bs), 2 ≤ b → ∀ y ∈ pcaps b p x, 2 ≤ y.1 := by
      intro b p x hb y hy
      cases x with
      | none => cases hy
      | some r =>
        simp only [pcaps, List.mem_cons, List.not_mem_nil, or_false] at hy
        rcases hy with rfl | rfl
        · exact hb
        · show 2 ≤ b + 1; omega
    have hgc : ∀ (b p : Nat) (x : Option (Bs × List Bs)), 2 ≤ b → ∀ y ∈ gcaps b p x, 2 ≤ y.1 := by
      intro b p x hb y hy
      rcases x with _ | ⟨x, l⟩
      · cases hy
      · simp only [gcaps, List.mem_cons, List.mem_append, List.not_mem_nil, or_false] at hy
        rcases hy with rfl | rfl | hy | rfl | rfl
        · exact hb
        · show 2 ≤ b + 2; omega
        · exact hi _ _ _ (by omega) y hy
        · show 2 ≤ b + 3; omega
        · show 2 ≤ b + 1; omega
    have : lastW (tcaps 2 p x) 1 = none := hg _ (by
      intro y hy
      unfold tcaps at hy
      rw [Ver.caps_eq] at hy
      simp only [List.mem_cons, List.mem_append, List.not_mem_nil, or_false] at hy
      rcases hy with rfl | rfl | rfl | (rfl | rfl | hy | hy | hy | hy) | rfl
      any_goals (show 2 ≤ _; omega)
      · exact hp _ _ _ (by omega) y hy
      · exact hp _ _ _ (by omega) y hy
      · exact hgc _ _ _ (by omega) y hy
      · exact hgc _ _ _ (by omega) y hy)
    rw [this] at h; cases h
theorem mAt_slots (p : Nat) (x : Tm) : lastW (mAt p x).2 1 = some (p + x.text.length) ∧ lastW (mAt p x).2 0 = none := by
  unfold mAt
  simp only [lastW_append]
  rw [t_slot0]
  simp [lastW]
theorem tm_pos {x : Tm} (h : x.Ok) : 0 < x.text.length := by
  obtain ⟨y, r, hy, _⟩ := ver_head h.ver
  simp [Tm.text, hy]
  omega
theorem text_len {x : Sep × Tm} (h0 : x.2.op = [] → x.2.blank = []) : (x.1.text ++ x.2.text).length = skip x + (found x).text.length := by
  rw [text_found h0, List.length_append]; rfl
theorem msT_ok {E : Env} {s : Bs} (T : Txt E s) : ∀ (l : List (Sep × Tm)) (p : Nat), s.drop p = ltail l → p ≤ s.length → LOk l → MsOk E s.length (findS s) p (msT p l)
  | [], p, h, hp, _ => by
    have : p = s.length := by
      have := congrArg List.length h
      simp [ltail] at this; omega
    subst this
    exact fun k _ => find_end T
  | y :: l, p, h, hp, hl => by
    obtain ⟨h1, h2, h0⟩ := hl y (by simp)
    have hlen := text_len h0
    have h3 : s.drop p = (y.1.text ++ y.2.text) ++ ltail l := by rw [h]; rfl
    have h4 := drop_add h3
    rw [hlen] at h4
    have hN := congrArg List.length h3
    rw [List.length_drop, List.length_append, hlen] at hN
    have hpos := tm_pos (found_ok h1 h2)
    refine ⟨fun k hk => ?_, p + skip y + (found y).text.length, (mAt_slots _ _).1, ⟨(mAt_slots _ _).2, by show p + skip y ≤ _; omega⟩, by omega, by omega, ?_⟩
    · have := find_next (n := k - (skip y + 1)) T h hl
      rwa [show k - (skip y + 1) + skip y + 1 = k by omega] at this
    · exact msT_ok T l _ (by rw [← h4]; congr 1; omega) (by omega) (fun z hz => hl z (by simp [hz]))
theorem extract_eq {s : ByteArray} {A B C : Bs} {a b : Nat} (h : s.data.toList = A ++ (B ++ C)) (ha : a = A.length) (hb : b = a + B.length) : s.extract a b = ⟨B.toArray⟩ := by
  apply ByteArray.ext
  rw [ByteArray.data_extract]
  apply Array.toList_inj.1
  rw [Array.toList_extract, List.extract_eq_take_drop, h]
  subst hb ha
  simp
theorem drop_split {s : Bs} {p : Nat} {r : Bs} (h : s.drop p = r) (hp : p ≤ s.length) : s = s.take p ++ r ∧ (s.take p).length = p := by
  subst h
  exact ⟨(List.take_append_drop p s).symm, by simp [hp]⟩
theorem msT_text {s : ByteArray} : ∀ (l : List (Sep × Tm)) (p : Nat), s.data.toList.drop p = ltail l → p ≤ s.size → LOk l → (msT p l).map (mtext s) = l.map (fun y => ⟨(found y).text.toArray⟩)
  | [], p, h, hp, _ => rfl
  | y :: l, p, h, hp, hl => by
    obtain ⟨h1, h2, h0⟩ := hl y (by simp)
    have hlen := text_len h0
    have h3 : s.data.toList.drop p = gap y ++ ((found y).text ++ ltail l) := by
      rw [h, ← List.append_assoc, ← text_found h0]; rfl
    have hN := congrArg List.length h3
    rw [List.length_drop, List.length_append, List.length_append, list_size] at hN
    have hsk : skip y = (gap y).length := rfl
    have h4 := drop_add h3
    have h5 := drop_add h4
    simp only [msT, List.map_cons]
    congr 1
    · unfold mtext
      rw [(mAt_slots _ _).1]
      obtain ⟨e1, e2⟩ := drop_split h4 (by rw [list_size]; omega)
      refine extract_eq e1 (by rw [e2]; rfl) rfl
    · exact msT_text l _ h5 (by omega) (fun z hz => hl z (by simp [hz]))
theorem msT_length : ∀ (l : List (Sep × Tm)) (p : Nat), (msT p l).length = l.length
  | [], p => rfl
  | y :: l, p => by simp [msT, msT_length l]
theorem findM {w : World} {R PB IB icap : Nat} {s : ByteArray} (hp : PG w R PB IB icap findT) (hr : RH w R PB 0 1 24 1 11) (hT : Lib.Utf8Tabs 11 12 w) (hs : s.size ≤ 1000)
    {x : Tm} {l : List (Sep × Tm)} (hx : x.Ok) (hl : LOk l) (ht : s.data.toList = ltext x l) :
    Calls Tryz.prog 30 #[.pointer (some ⟨R, 0, none⟩), .string s, .int .i64 (-1)] w fun e w' => ∃ v, e = .returned v ∧ w'.ownsRow w.heap.size 9 1 v (l.length + 1) ((x.text :: l.map fun y => (found y).text).map fun t => Value.string ⟨t.toArray⟩) ∧ Below w.heap.size w w' := by
  have T := txt_env findT s
  have hd : s.data.toList.drop (0 + x.text.length) = ltail l := by rw [ht]; simp [ltext]
  have hxp := tm_pos hx
  have hsz : x.text.length + (ltail l).length = s.size := by
    rw [← list_size, ht]; simp [ltext]
  have hll : l.length < 1001 := by
    have : ∀ (l : List (Sep × Tm)), LOk l → l.length ≤ (ltail l).length := by
      intro l
      induction l with
      | nil => intro _; simp
      | cons y l ih =>
        intro hl
        have h1 := ih (fun z hz => hl z (by simp [hz]))
        have h2 := tm_pos (hl y (by simp)).2.1
        simp [ltail] at h1 ⊢
        omega
    have := this l hl
    omega
  have hfe := find_eval (s := s.data.toList) (p := 0) (l := ltail l) hx (by rw [ht]; simp [ltext]) (ltail_stop hl)
  have hms : MsOk (envOf findT s) s.size (findS s.data.toList) 0 (mAt 0 x :: msT (0 + x.text.length) l) := by
    rw [← list_size s]
    refine ⟨fun k hk => ?_, 0 + x.text.length, (mAt_slots _ _).1, ⟨(mAt_slots _ _).2, by show 0 ≤ _; omega⟩, by omega, by rw [list_size]; omega, msT_ok T l _ hd (by rw [list_size]; omega) hl⟩
    rw [show k = (k - 1) + 1 by omega]
    exact srch_yes (Nat.zero_le _) hfe
  have h := tFindAll (sur_of hp hT findT_ok (by decide) hs) hr (by omega) _ (show findT[1]? = some findT[1] from rfl) (by decide) (by omega) (findS s.data.toList) (fun p hp => find_M T rfl p (by rw [list_size]; exact hp)) _ hms (fun h => by omega) (by simp [msT_length]; omega)
  refine h.mono ?_
  rintro e w' ⟨v, rfl, h1, h2, h3⟩
  refine ⟨v, rfl, ?_, h3⟩
  have e1 : (mAt 0 x :: msT (0 + x.text.length) l).map (mtext s) = (x.text :: l.map fun y => (found y).text).map fun t => (⟨t.toArray⟩ : ByteArray) := by
    simp only [List.map_cons]
    rw [msT_text l _ hd (by omega) hl]
    congr 1
    · unfold mtext
      rw [(mAt_slots _ _).1]
      exact extract_eq (A := []) (B := x.text) (C := ltail l) (by rw [ht]; rfl) rfl rfl
    · simp
  rw [e1] at h1
  simpa [msT_length, Function.comp_def] using h1
end Go.Proofs.YtpbmbaffncnglaaGreatDoor.Sv
end
section
set_option linter.unusedVariables false
set_option linter.unusedSimpArgs false
/- one term's pieces; one version's pieces -/
namespace Go.Proofs.YtpbmbaffncnglaaGreatDoor.Sv
open Go Go.RowKit Rx
set_option maxRecDepth 100000
def bytesOf (b : Bs) : ByteArray := ⟨b.toArray⟩
/-- a row of pieces in memory -/
def Pieces (w' : World) (base k : Nat) (f : Nat → ByteArray) (e : Ending) : Prop := ∃ b, e = .returned (.slice (some ⟨b, 0, none⟩) k k) ∧ base ≤ b ∧ w'.heap[b]? = some (.cells (strs ((List.range k).map f)) 9 (0, 0))
theorem conM {w : World} {R PB IB icap : Nat} {s : ByteArray} (hp : PG w R PB IB icap conT) (hr : RH w R PB 4 1 24 1 11) (hT : Lib.Utf8Tabs 11 12 w) (hs : s.size ≤ 1000)
    {L RR : Bs} {x : Tm} (hx : x.Ok) (ht : s.data.toList = L ++ (x.text ++ RR)) (hL : ∀ y ∈ L, ws y = true) (hR : ∀ y ∈ RR, ws y = true) (h0 : x.op = [] → x.blank = []) :
    Calls Tryz.prog 45 #[.pointer (some ⟨R, 0, none⟩), .string s] w fun e w' => Below w.heap.size w w' ∧ ∃ f, Pieces w' w.heap.size 12 f e ∧
      f 1 = bytesOf x.op ∧ f 2 = bytesOf x.ver.text ∧ f 3 = bytesOf x.ver.p1 ∧ f 4 = bytesOf (ptext x.ver.p2) ∧ f 5 = bytesOf (ptext x.ver.p3) ∧ f 6 = bytesOf (gtext 45 x.ver.pre) := by
  have T := txt_env conT s
  obtain ⟨n, hM⟩ := con_M T rfl 0 (Nat.zero_le _)
  have hv := con_eval hx ht hL hR h0
  rw [hv] at hM
  have hxp := tm_pos hx
  have hsz : L.length + (x.text.length + RR.length) = s.size := by rw [← list_size, ht]; simp
  have hb : Bal 0 s.size (tcaps 2 L.length x) := (bal_t 1 L.length x).weak (Nat.zero_le _) (by omega)
  have hd : s.data.toList.drop L.length = x.text ++ RR := by rw [ht]; simp
  rw [list_size] at hM
  generalize hC : applyT (tcaps 2 L.length x ++ [(1, s.size)]) ((List.replicate 24 (-1)).set 0 0) = C
  have hlC : C.length = 24 := by rw [← hC, applyT_length]; simp
  have hok := slots_ok hb 24 s.size (by omega) (Nat.zero_le _) (Nat.le_refl _) (t_slot0 _ _)
  refine (tFindSub (sur_of hp hT conT_ok (by decide) hs) hr (by omega) _ (show conT[1]? = some conT[1] from rfl) (by decide) (by omega) (by omega) hM (fun h => by omega) C (fun t ht => by rw [← hC]; injection ht with ht; rw [ht]) hlC (by rw [← hC]; exact hok) (by decide)).mono ?_
  rintro e w' ⟨hbel, b, rfl, h1, h2⟩
  refine ⟨hbel, pieceI s C, ⟨b, rfl, h1, h2⟩, ?_⟩
  have hpair : ∀ i, 1 ≤ i → ∀ a, lastW (tcaps 2 L.length x ++ [(1, s.size)]) (2 * i) = some a → ∃ b, lastW (tcaps 2 L.length x ++ [(1, s.size)]) (2 * i + 1) = some b ∧ a ≤ b := fun i hi a ha => by
    rw [lastW_append] at ha ⊢
    have z1 : lastW [(1, s.size)] (2 * i) = none := by simp [lastW]; omega
    have z2 : lastW [(1, s.size)] (2 * i + 1) = none := by simp [lastW]; omega
    rw [z1, Option.none_or] at ha
    rw [z2, Option.none_or]
    exact hb.pair i a ha
  have hpc : ∀ i, 1 ≤ i → 2 * i + 1 < 24 → pieceI s C i = bytesOf (piece s.data.toList (tcaps 2 L.length x ++ [(1, s.size)]) i) := fun i hi hn => by
    rw [← hC]
    exact pieceI_eq s _ 24 0 i hi hn (hpair i hi)
  obtain ⟨p1, p2, p3, p4, p5, p6⟩ := term_pieces (e := s.size) hd
  exact ⟨by rw [hpc 1 (by omega) (by omega), p1], by rw [hpc 2 (by omega) (by omega), p2], by rw [hpc 3 (by omega) (by omega), p3], by rw [hpc 4 (by omega) (by omega), p4], by rw [hpc 5 (by omega) (by omega), p5], by rw [hpc 6 (by omega) (by omega), p6]⟩
theorem looseM {w : World} {R PB IB icap : Nat} {s : ByteArray} (hp : PG w R PB IB icap looseT) (hr : RH w R PB 4 1 20 1 9) (hT : Lib.Utf8Tabs 11 12 w) (hs : s.size ≤ 1000)
    {x : Ver} (hx : x.Ok dB iB) (ht : s.data.toList = x.text) :
    Calls Tryz.prog 45 #[.pointer (some ⟨R, 0, none⟩), .string s] w fun e w' => Below w.heap.size w w' ∧ ∃ f, Pieces w' w.heap.size 10 f e ∧
      f 1 = bytesOf x.p1 ∧ f 2 = bytesOf (ptext x.p2) ∧ f 3 = bytesOf (ptext x.p3) ∧ f 5 = bytesOf (gpre x.pre) ∧ f 8 = bytesOf (gpre x.meta_) := by
  have T := txt_env looseT s
  obtain ⟨n, hM⟩ := loose_M T rfl 0 (Nat.zero_le _)
  have hv := loose_eval hx
  rw [ht, hv] at hM
  have hsz : x.text.length = s.size := by rw [← list_size, ht]
  have hpos : 0 < s.size := by
    obtain ⟨y, r, hy, _⟩ := ver_head hx
    rw [← hsz, hy]; simp
  have hb : Bal 0 s.size (x.caps 2 0) := (bal_v 1 0 x).weak (Nat.zero_le _) (by omega)
  rw [hsz] at hM
  generalize hC : applyT (x.caps 2 0 ++ [(1, s.size)]) ((List.replicate 20 (-1)).set 0 0) = C
  have hlC : C.length = 20 := by rw [← hC, applyT_length]; simp
  have hok := slots_ok hb 20 s.size (by omega) (Nat.zero_le _) (Nat.le_refl _) (v_slot0 _ _)
  refine (tFindSub (sur_of hp hT looseT_ok (by decide) hs) hr (by omega) _ (show looseT[1]? = some looseT[1] from rfl) (by decide) (by omega) (by omega) hM (fun h => by omega) C (fun t ht => by rw [← hC]; injection ht with ht; rw [ht]) hlC (by rw [← hC]; exact hok) (by decide)).mono ?_
  rintro e w' ⟨hbel, b, rfl, h1, h2⟩
  refine ⟨hbel, pieceI s C, ⟨b, rfl, h1, h2⟩, ?_⟩
  have hpair : ∀ i, 1 ≤ i → ∀ a, lastW (x.caps 2 0 ++ [(1, s.size)]) (2 * i) = some a → ∃ b, lastW (x.caps 2 0 ++ [(1, s.size)]) (2 * i + 1) = some b ∧ a ≤ b := fun i hi a ha => by
    rw [lastW_append] at ha ⊢
    have z1 : lastW [(1, s.size)] (2 * i) = none := by simp [lastW]; omega
    have z2 : lastW [(1, s.size)] (2 * i + 1) = none := by simp [lastW]; omega
    rw [z1, Option.none_or] at ha
    rw [z2, Option.none_or]
    exact hb.pair i a ha
  have hpc : ∀ i, 1 ≤ i → 2 * i + 1 < 20 → pieceI s C i = bytesOf (piece x.text (x.caps 2 0 ++ [(1, s.size)]) i) := fun i hi hn => by
    rw [← hC, ← ht]
    exact pieceI_eq s _ 20 0 i hi hn (hpair i hi)
  obtain ⟨p1, p2, p3, p4, p5, p6⟩ := loose_pieces x s.size
  exact ⟨by rw [hpc 1 (by omega) (by omega), p1], by rw [hpc 2 (by omega) (by omega), p2], by rw [hpc 3 (by omega) (by omega), p3], by rw [hpc 5 (by omega) (by omega), p5], by rw [hpc 8 (by omega) (by omega), p6]⟩
end Go.Proofs.YtpbmbaffncnglaaGreatDoor.Sv
end
section
set_option linter.unusedVariables false
set_option linter.unusedSimpArgs false
/- small functions of the constraints' text -/
namespace Go.Proofs.YtpbmbaffncnglaaGreatDoor.Sv
open Go Go.RowKit Rx
set_option maxRecDepth 100000
theorem bytesOf_toList (b : Bs) : (bytesOf b).toList = b := ByteArray.toList_mk b
theorem bytesOf_size (b : Bs) : (bytesOf b).size = b.length := by simp [bytesOf, ByteArray.size]
theorem bytesOf_data (b : Bs) : (bytesOf b).data.toList = b := rfl
theorem tIsX (s : ByteArray) (w : World) : Calls Tryz.prog 46 #[.string s] w fun e w' => e = .returned (.bool (s.toList == [120] || s.toList == [42] || s.toList == [88])) ∧ w' = w := by
  generalize h1 : (s.toList == [120]) = b1
  generalize h2 : (s.toList == [42]) = b2
  generalize h3 : (s.toList == [88]) = b3
  go_enter Tryz.func46, Tryz.ntmps46
  cases b1 <;> cases b2 <;> cases b3
  all_goals (go_wp2; go_ret; exact ⟨rfl, rfl⟩)
theorem tTrimDot (b : Bs) (hb : b = [] ∨ ∃ r, b = 46 :: r) (hs : b.length ≤ 1000) (w : World) : Calls Tryz.prog 47 #[.string (bytesOf b), .string ⟨#[46]⟩] w fun e w' => e = .returned (.string (bytesOf b.tail)) ∧ w' = w := by
  rcases hb with rfl | ⟨r, rfl⟩
  · go_enter Tryz.func47, Tryz.ntmps47
    go_wp2_with go_in
    go_ret
    exact ⟨rfl, rfl⟩
  · have h1 : (bytesOf (46 :: r)).size = r.length + 1 := by rw [bytesOf_size]; rfl
    have h2 : ((bytesOf (46 :: r)).extract 0 1).toList = [46] := by rw [ByteArray.toList_eq]; simp [bytesOf]
    have h3 : (bytesOf (46 :: r)).extract 1 (r.length + 1) = bytesOf r := by
      apply ByteArray.ext
      rw [ByteArray.data_extract]
      apply Array.toList_inj.1
      simp [bytesOf]
    have h4 : (1 : Int) ≤ (r.length : Int) + 1 := by omega
    generalize bytesOf (46 :: r) = s at *
    go_enter Tryz.func47, Tryz.ntmps47
    go_wp2_with go_in
    go_ret
    exact ⟨rfl, rfl⟩
theorem u76 : Tryz.prog.underlying 73 = some (.slice 40) := by kernel_rfl
theorem q76 (w : World) : (binOp .eql 73 (.slice none 0 0) (.slice none 0 0)).run Tryz.prog w = .ok (.bool true) w := by
  exact Lib.run_eql_slice_nil w 73 40 none 0 0 0 0 u76
theorem tRewrite (s : ByteArray) (w : World) (hs : s.size ≤ 1000) (hT : Lib.Utf8Tabs 11 12 w) (h : noWD s.data.toList = true) : Calls Tryz.prog 24 #[.string s] w fun e w' => e = .returned (.string s) ∧ Below w.heap.size w w' := by
  have H := Lib.hid (fun (w : World) (R PB IB icap : Nat) (hp : PG w R PB IB icap rngT) (hr : RH w R PB 0 2 42 5 20) (hT : Lib.Utf8Tabs 11 12 w) => rngM (s := s) hp hr hT hs h)
  have q := q76
  have HT := Lib.hid hT
  clear h hT
  go_enter Tryz.func24, Tryz.ntmps24
  go_wp2_with (first
    | (go_at_call 36; refine (t52 w).mono ?_; rintro e w1 ⟨R, PB, IB, icap, rfl, hp, hr, hb⟩; have HP := Lib.hid (And.intro hp (And.intro hr (And.intro (Utf8Tabs_below HT.out hb) hb))); clear hp hr hb)
    | (go_at_call 37; refine (H.out _ _ _ _ _ HP.out.1 HP.out.2.1 HP.out.2.2.1).mono ?_; rintro e w2 ⟨rfl, hb2⟩; have HB := Lib.hid (HP.out.2.2.2.trans (hb2.mono HP.out.2.2.2.size)); clear hb2))
  go_ret
  exact ⟨rfl, HB.out⟩
end Go.Proofs.YtpbmbaffncnglaaGreatDoor.Sv
end
section
set_option linter.unusedVariables false
set_option linter.unusedSimpArgs false
/- the first place of a text in a text; a text parted at two bars -/
namespace Go.Proofs.YtpbmbaffncnglaaGreatDoor.Sv
open Go Go.RowKit Rx
set_option maxRecDepth 100000
/-- where a text stands first in another -/
def First (s sub : ByteArray) : Option Nat → Prop
  | none => ∀ i, i + sub.size ≤ s.size → ((s.extract i (i + sub.size)).toList == sub.toList) = false
  | some j => j + sub.size ≤ s.size ∧ ((s.extract j (j + sub.size)).toList == sub.toList) = true ∧ ∀ i, i < j → ((s.extract i (i + sub.size)).toList == sub.toList) = false
def idx : Option Nat → Int
  | none => -1
  | some j => j
set_option maxHeartbeats 2000000 in
theorem t55 (s sub : ByteArray) (j : Option Nat) (hj : First s sub j) (hs : s.size ≤ 1000000) (hs2 : sub.size ≤ 1000000) (h0 : 0 < sub.size) (w : World) : Calls Tryz.prog 39 #[.string s, .string sub] w fun e w' => e = .returned (.int .i64 (idx j)) ∧ w' = w := by
  have HJ := Lib.hid hj
  clear hj
  go_enter Tryz.func39, Tryz.ntmps39
  go_wp2
  go_loopw [5] (fun iv wr => wr = w ∧ ∃ i : Nat, iv = .int .i64 i ∧ i ≤ s.size ∧ ∀ k, j = some k → i ≤ k) (fun iv _ => 2000000 - (intOf iv).toNat)
  case atStart => exact ⟨rfl, 0, rfl, Nat.zero_le _, fun k _ => Nat.zero_le _⟩
  case round =>
    obtain ⟨rfl, i, rfl, hi, hk⟩ := hrel
    by_cases c : i + sub.size ≤ s.size
    · have c1 : (i : Int) + (sub.size : Int) ≤ (s.size : Int) := by omega
      have c2 : (i : Int) ≤ (i : Int) + (sub.size : Int) := by omega
      have c3 : ((i : Int) + (sub.size : Int)).toNat = i + sub.size := by omega
      by_cases d : ((s.extract i (i + sub.size)).toList == sub.toList) = true
      · go_wp2
        go_ret
        refine ⟨?_, rfl⟩
        cases j with
        | none => have := HJ.out i c; rw [d] at this; cases this
        | some k =>
          have h1 := hk k rfl
          have : ¬ i < k := fun h => by have := HJ.out.2.2 i h; rw [d] at this; cases this
          have : i = k := by omega
          subst this; rfl
      · have d : ((s.extract i (i + sub.size)).toList == sub.toList) = false := by simpa using d
        go_wp2
        refine ⟨⟨trivial, i + 1, by simp, by omega, fun k e => ?_⟩, by simp only [intOf]; omega⟩
        subst e
        have h1 := hk k rfl
        have : i ≠ k := fun e => by subst e; have := HJ.out.2.1; rw [d] at this; cases this
        omega
    · have c1 : ¬ (i : Int) + (sub.size : Int) ≤ (s.size : Int) := by omega
      go_wp2
      go_ret
      refine ⟨?_, rfl⟩
      cases j with
      | none => rfl
      | some k => exfalso; have h1 := hk k rfl; have := HJ.out.1; omega
/-- a text parted at a separator -/
inductive Parted (sep : ByteArray) : ByteArray → List ByteArray → Prop
  | last (s : ByteArray) (h : First s sep none) : Parted sep s [s]
  | more (s : ByteArray) (j : Nat) (l : List ByteArray) (h : First s sep (some j)) (h' : Parted sep (s.extract (j + sep.size) s.size) l) : Parted sep s (s.extract 0 j :: l)
theorem own_fin {w wr w2 : World} {t : TypeId} {n : Nat} {i : Nat} {ov : Value} {xs : List Value} {o : Obj} (h : wr.ownsRow w.heap.size t n ov i xs) (hb : Below w.heap.size w wr) (hg : (wr.alloc o).grownBy w2 ov.ownBlock) : Below w.heap.size w w2 := by
  have hA : Below w.heap.size w (wr.alloc o) := hb.alloc hb.size _
  refine hA.grown hg (by have := hb.size; simp; omega) (fun k hk => ?_)
  rcases h.2 with ⟨rfl, _⟩ | ⟨g, cap, cur, rfl, hle, _⟩
  · cases hk
  · have : g = k := by simpa [Value.ownBlock] using hk
    omega
theorem Parted.ne {sep s : ByteArray} {l : List ByteArray} (h : Parted sep s l) : l ≠ [] := by cases h <;> simp
set_option maxHeartbeats 2000000 in
theorem t38 (s sep : ByteArray) (L : List ByteArray) (hL : Parted sep s L) (hs : s.size ≤ 1000000) (hs2 : sep.size ≤ 1000) (h0 : 0 < sep.size) (w : World) :
    Calls Tryz.prog 25 #[.string s, .string sep] w fun e w' => ∃ v, e = .returned v ∧ w'.ownsRow w.heap.size 9 1 v L.length (L.map Value.string) ∧ Below w.heap.size w w' := by
  obtain ⟨i0, hi, hz0, hz1, hz2⟩ := info_parts info9
  have HI := Lib.hid (And.intro hi (And.intro hz0 (And.intro hz1 hz2)))
  have HL := Lib.hid hL
  clear hi hz0 hz1 hz2 hL
  go_enter Tryz.func25, Tryz.ntmps25
  go_wp2
  go_loopw [0, 5] (fun sv ov wr => ∃ (r : ByteArray) (D R : List ByteArray), sv = .string r ∧ Hid (r.size + D.length ≤ s.size ∧ D ++ R = L ∧ Parted sep r R ∧ wr.ownsRow w.heap.size 9 1 ov D.length (D.map Value.string) ∧ Below w.heap.size w wr)) (fun sv _ _ => (match sv with | .string r => r.size | _ => 0))
  case atStart => exact ⟨s, [], L, rfl, Lib.hid ⟨by simp, rfl, HL.out, World.ownsRow_nil w w.heap.size 9 1, Below.refl _ _⟩⟩
  case round =>
    obtain ⟨r, D, R, rfl, HR⟩ := hrel
    have hP := HR.out.2.2.1
    have hrs : r.size ≤ 1000000 := by have := HR.out.1; omega
    cases hP with
    | last _ h =>
      have HX := Lib.hid (t55 r sep none h hrs (by omega) h0)
      clear h
      go_wp2_with (first
        | (go_at_call 39; refine (HX.out _).mono ?_; rintro e w1 ⟨rfl, hw⟩; subst hw; have hix : idx none = -1 := rfl; rw [hix])
        | ((with_reducible refine wpList_append_own (o := ⟨some 15, _, _, _, _, _⟩) _ ?h1 (.tmp 12) (.tmp 14) 40 ?h2 w.heap.size 9 i0 (.string ⟨#[]⟩) 1 16 Tryz.underlying40 HI.out.1 HI.out.2.1 HI.out.2.2.1 HI.out.2.2.2 rfl (by decide) _ D.length _ ?h3 (HR.out.2.2.2.1.alloc _) ⟨w1.heap.size, 0, none⟩ 1 1 [.string r] ?h4 rfl ?h5 ?h6 ?h7 ?h8 ?h9 ?_); (case h1 => rfl); (case h2 => rfl); (case h3 => rfl); (case h4 => rfl); (case h5 => exact cell_one_new _ _ _); (case h6 => simp [Value.oneCell']); (case h7 => (have := HR.out.1; unfold maxLen; omega)); (case h8 => (have := HR.out.1; omega)); (case h9 => (have := HR.out.2.2.2.2.size; simp; omega)); intro v' w2 ho' hg' _; have HN := Lib.hid (And.intro ho' (own_fin HR.out.2.2.2.1 HR.out.2.2.2.2 hg')); clear ho' hg'))
      go_ret
      obtain ⟨n1, n2⟩ := HN.out
      have e1 : L = D ++ [r] := HR.out.2.1.symm
      refine ⟨_, rfl, ?_, n2⟩
      rw [e1]
      simpa using n1
    | more _ j l h h' =>
      have HX := Lib.hid (t55 r sep (some j) h hrs (by omega) h0)
      have HH := Lib.hid (And.intro h h')
      have k1 : j + sep.size ≤ r.size := h.1
      have k2 : (j : Int) + (sep.size : Int) ≤ (r.size : Int) := by omega
      have k3 : (j : Int) ≤ (r.size : Int) := by omega
      have k4 : ((j : Int) + (sep.size : Int)).toNat = j + sep.size := by omega
      have k5 : ¬ (j : Int) < 0 := by omega
      clear h h'
      go_wp2_with (first
        | (go_at_call 39; refine (HX.out _).mono ?_; rintro e w1 ⟨rfl, hw⟩; subst hw; have hix : idx (some j) = (j : Int) := rfl; rw [hix])
        | ((with_reducible refine wpList_append_own (o := ⟨some 21, _, _, _, _, _⟩) _ ?h1 (.tmp 16) (.tmp 20) 40 ?h2 w.heap.size 9 i0 (.string ⟨#[]⟩) 1 16 Tryz.underlying40 HI.out.1 HI.out.2.1 HI.out.2.2.1 HI.out.2.2.2 rfl (by decide) _ D.length _ ?h3 (HR.out.2.2.2.1.alloc _) ⟨w1.heap.size, 0, none⟩ 1 1 [.string (r.extract 0 j)] ?h4 rfl ?h5 ?h6 ?h7 ?h8 ?h9 ?_); (case h1 => rfl); (case h2 => rfl); (case h3 => rfl); (case h4 => rfl); (case h5 => exact cell_one_new _ _ _); (case h6 => simp [Value.oneCell']); (case h7 => (have := HR.out.1; unfold maxLen; omega)); (case h8 => (have := HR.out.1; omega)); (case h9 => (have := HR.out.2.2.2.2.size; simp; omega)); intro v' w2 ho' hg' _; have HN := Lib.hid (And.intro ho' (own_fin HR.out.2.2.2.1 HR.out.2.2.2.2 hg')); clear ho' hg'))
      obtain ⟨n1, n2⟩ := HN.out
      refine ⟨⟨_, D ++ [r.extract 0 j], l, rfl, Lib.hid ⟨?_, ?_, HH.out.2, by simpa using n1, n2⟩⟩, ?_⟩
      · have := HR.out.1; simp; omega
      · rw [← HR.out.2.1]; simp
      · simp only []; simp; omega
end Go.Proofs.YtpbmbaffncnglaaGreatDoor.Sv
end
section
namespace Go.Proofs
open Go.Shelf
def Tryz.laysPu14_ren : Go.Shelf.Ren := ⟨fun | 14 => 72 | 16 => 92 | 17 => 93 | 19 => 104 | 20 => 105 | 21 => 106 | 22 => 107 | 23 => 108 | 24 => 109 | 25 => 117 | 27 => 118 | 26 => 28 | 28 => 121 | 29 => 122 | 30 => 123 | 31 => 124 | 32 => 125 | 33 => 126 | 35 => 128 | 34 => 127 | 36 => 129 | 37 => 130 | 38 => 131 | 39 => 132 | 40 => 133 | n => n, fun | 9 => 9 | 3 => 3 | 22 => 22 | 24 => 44 | 25 => 123 | 4 => 4 | 34 => 160 | 5 => 5 | 36 => 162 | 37 => 37 | 0 => 0 | 39 => 163 | 21 => 21 | 44 => 177 | 47 => 184 | 50 => 96 | 48 => 94 | 2 => 2 | 52 => 186 | 55 => 189 | 59 => 193 | 60 => 88 | 20 => 20 | 61 => 194 | 65 => 198 | 66 => 199 | 67 => 125 | n => n, fun | 0 => 9 | 1 => 10 | 2 => 13 | 3 => 14 | 4 => 15 | n => n⟩
theorem Tryz.laysPu14 : Go.Proofs.LaysPu.n14 Tryz.prog Tryz.laysPu14_ren := {
  mixed := by kernel_rfl
  f14 := Tryz.func72.trans (congrArg some (by kernel_rfl))
  f16 := Tryz.func92.trans (congrArg some (by kernel_rfl))
  f17 := Tryz.func93.trans (congrArg some (by kernel_rfl))
  f19 := Tryz.func104.trans (congrArg some (by kernel_rfl))
  f20 := Tryz.func105.trans (congrArg some (by kernel_rfl))
  f21 := Tryz.func106.trans (congrArg some (by kernel_rfl))
  f22 := Tryz.func107.trans (congrArg some (by kernel_rfl))
  f23 := Tryz.func108.trans (congrArg some (by kernel_rfl))
  f24 := Tryz.func109.trans (congrArg some (by kernel_rfl))
  f25 := Tryz.func117.trans (congrArg some (by kernel_rfl))
  f26 := Tryz.func28.trans (congrArg some (by kernel_rfl))
  f27 := Tryz.func118.trans (congrArg some (by kernel_rfl))
  f28 := Tryz.func121.trans (congrArg some (by kernel_rfl))
  f29 := Tryz.func122.trans (congrArg some (by kernel_rfl))
  f30 := Tryz.func123.trans (congrArg some (by kernel_rfl))
  f31 := Tryz.func124.trans (congrArg some (by kernel_rfl))
  f32 := Tryz.func125.trans (congrArg some (by kernel_rfl))
  f33 := Tryz.func126.trans (congrArg some (by kernel_rfl))
  f34 := Tryz.func127.trans (congrArg some (by kernel_rfl))
  f35 := Tryz.func128.trans (congrArg some (by kernel_rfl))
  f36 := Tryz.func129.trans (congrArg some (by kernel_rfl))
  f37 := Tryz.func130.trans (congrArg some (by kernel_rfl))
  f38 := Tryz.func131.trans (congrArg some (by kernel_rfl))
  f39 := Tryz.func132.trans (congrArg some (by kernel_rfl))
  f40 := Tryz.func133.trans (congrArg some (by kernel_rfl))
  t0 := Tryz.underlying0
  a0 := Tryz.isAgg0
  z0 := Tryz.sizeOf0
  v0 := Tryz.zeroValue0
  i0 := by kernel_rfl
  t2 := Tryz.underlying2
  a2 := Tryz.isAgg2
  z2 := Tryz.sizeOf2
  v2 := Tryz.zeroValue2
  i2 := by kernel_rfl
  t3 := Tryz.underlying3
  a3 := Tryz.isAgg3
  z3 := Tryz.sizeOf3
  v3 := Tryz.zeroValue3
  i3 := by kernel_rfl
  t4 := Tryz.underlying4
  a4 := Tryz.isAgg4
  z4 := Tryz.sizeOf4
  v4 := Tryz.zeroValue4
  i4 := by kernel_rfl
  t5 := Tryz.underlying5
  a5 := Tryz.isAgg5
  z5 := Tryz.sizeOf5
  v5 := Tryz.zeroValue5
  i5 := by kernel_rfl
  t9 := Tryz.underlying9
  a9 := Tryz.isAgg9
  z9 := Tryz.sizeOf9
  v9 := Tryz.zeroValue9
  i9 := by kernel_rfl
  t20 := Tryz.underlying20
  a20 := Tryz.isAgg20
  z20 := Tryz.sizeOf20
  v20 := Tryz.zeroValue20
  i20 := by kernel_rfl
  t21 := Tryz.underlying21
  a21 := Tryz.isAgg21
  z21 := Tryz.sizeOf21
  v21 := Tryz.zeroValue21
  i21 := by kernel_rfl
  t22 := Tryz.underlying22
  a22 := Tryz.isAgg22
  z22 := Tryz.sizeOf22
  v22 := Tryz.zeroValue22
  i22 := by kernel_rfl
  t24 := Tryz.underlying44
  a24 := Tryz.isAgg44
  z24 := Tryz.sizeOf44
  v24 := Tryz.zeroValue44
  i24 := by kernel_rfl
  t25 := Tryz.underlying123
  a25 := Tryz.isAgg123
  z25 := Tryz.sizeOf123
  v25 := Tryz.zeroValue123
  i25 := by kernel_rfl
  t34 := Tryz.underlying160
  a34 := Tryz.isAgg160
  z34 := Tryz.sizeOf160
  v34 := Tryz.zeroValue160
  i34 := by kernel_rfl
  c34 := by kernel_rfl
  t36 := Tryz.underlying162
  a36 := Tryz.isAgg162
  z36 := Tryz.sizeOf162
  v36 := Tryz.zeroValue162
  i36 := by kernel_rfl
  t37 := Tryz.underlying37
  a37 := Tryz.isAgg37
  z37 := Tryz.sizeOf37
  v37 := Tryz.zeroValue37
  i37 := by kernel_rfl
  t39 := Tryz.underlying163
  a39 := Tryz.isAgg163
  z39 := Tryz.sizeOf163
  v39 := Tryz.zeroValue163
  i39 := by kernel_rfl
  t44 := Tryz.underlying177
  a44 := Tryz.isAgg177
  z44 := Tryz.sizeOf177
  v44 := Tryz.zeroValue177
  i44 := by kernel_rfl
  t47 := Tryz.underlying184
  a47 := Tryz.isAgg184
  z47 := Tryz.sizeOf184
  v47 := Tryz.zeroValue184
  i47 := by kernel_rfl
  t48 := Tryz.underlying94
  a48 := Tryz.isAgg94
  z48 := Tryz.sizeOf94
  v48 := Tryz.zeroValue94
  i48 := by kernel_rfl
  t50 := Tryz.underlying96
  a50 := Tryz.isAgg96
  z50 := Tryz.sizeOf96
  v50 := Tryz.zeroValue96
  i50 := by kernel_rfl
  t52 := Tryz.underlying186
  a52 := Tryz.isAgg186
  z52 := Tryz.sizeOf186
  v52 := Tryz.zeroValue186
  i52 := by kernel_rfl
  t55 := Tryz.underlying189
  a55 := Tryz.isAgg189
  z55 := Tryz.sizeOf189
  v55 := Tryz.zeroValue189
  i55 := by kernel_rfl
  t59 := Tryz.underlying193
  a59 := Tryz.isAgg193
  z59 := Tryz.sizeOf193
  v59 := Tryz.zeroValue193
  i59 := by kernel_rfl
  t60 := Tryz.underlying88
  a60 := Tryz.isAgg88
  z60 := Tryz.sizeOf88
  v60 := Tryz.zeroValue88
  i60 := by kernel_rfl
  t61 := Tryz.underlying194
  a61 := Tryz.isAgg194
  z61 := Tryz.sizeOf194
  t65 := Tryz.underlying198
  a65 := Tryz.isAgg198
  z65 := Tryz.sizeOf198
  v65 := Tryz.zeroValue198
  i65 := by kernel_rfl
  t66 := Tryz.underlying199
  a66 := Tryz.isAgg199
  z66 := Tryz.sizeOf199
  v66 := Tryz.zeroValue199
  i66 := by kernel_rfl
  t67 := Tryz.underlying125
  a67 := Tryz.isAgg125
  z67 := Tryz.sizeOf125
  v67 := Tryz.zeroValue125
  i67 := by kernel_rfl
  g0 := by kernel_rfl
  m0 := by kernel_rfl
  g1 := by kernel_rfl
  m1 := by kernel_rfl
  g2 := by kernel_rfl
  m2 := by kernel_rfl
  g3 := by kernel_rfl
  m3 := by kernel_rfl
  g4 := by kernel_rfl
  m4 := by kernel_rfl }
open Go.RowKit in
/-- strconv.ParseUint(s, 10, 64), AT EVERY STRING THAT SPELLS A uint64 ('Lib.parseUintB 64 s.data.toList = .ok u'): u, AND NO ERROR. (LAID: no walk: one application.) -/
theorem Tryz.strconv_ParseUint_10_at64_ok (s : ByteArray) (hmax : s.size ≤ 9223372036854775806) (u : Nat) (h : Lib.parseUintB 64 s.data.toList = .ok u) (w : World) :
    Calls Tryz.prog 72 #[.string s, .int .i64 10, .int .i64 64] w fun e w' => e = .returned (.tuple #[.int .u64 u, .nilIface]) ∧ (w' = w ∨ w' = Lib.bytesWorld w 5 s) := Any.strconv_ParseUint_10_at64_ok Tryz.laysPu14 s hmax u h w
end Go.Proofs
end
section
set_option linter.unusedVariables false
set_option linter.unusedSimpArgs false
/- a number's decimal numeral -/
namespace Go.Proofs.YtpbmbaffncnglaaGreatDoor.Sv
open Go Go.RowKit Rx Go.Sort Go.Lib
set_option maxRecDepth 100000
/-- a number is read -/
theorem tParse (u : Nat) (t : Bs) (ht : Lib.parseUintB 64 t = .ok u) (hl : t.length ≤ 1000) (w : World) :
    Calls Tryz.prog 72 #[.string (bytesOf t), .int .i64 10, .int .i64 64] w fun e w' => e = .returned (.tuple #[.int .u64 u, .nilIface]) ∧ RowKit.Below w.heap.size w w' := by
  refine (Tryz.strconv_ParseUint_10_at64_ok (bytesOf t) (by rw [bytesOf_size]; omega) u ht w).mono ?_
  rintro e w' ⟨rfl, h⟩
  refine ⟨rfl, ?_⟩
  rcases h with rfl | rfl
  · exact RowKit.Below.refl _ _
  · exact Go.Joins.below_bytesWorld _ w 5 _ (Nat.le_refl _)
theorem parseM_app (M : Nat) : ∀ (l : List UInt8) (acc u d : Nat), Lib.parseUintM M acc l = .ok u → d < 10 → u < 1844674407370955162 → u * 10 + d ≤ M → Lib.parseUintM M acc (l ++ [UInt8.ofNat (48 + d)]) = .ok (u * 10 + d)
  | [], acc, u, d, h, hd, hu, hM => by
    simp only [Lib.parseUintM] at h
    injection h with h
    subst h
    have e : (UInt8.ofNat (48 + d)).toNat = 48 + d := by simp; omega
    simp only [List.nil_append, Lib.parseUintM, e]
    rw [if_pos (by omega), if_neg (by omega), if_neg (by omega)]
    congr 1; omega
  | c :: l, acc, u, d, h, hd, hu, hM => by
    simp only [List.cons_append, Lib.parseUintM] at h ⊢
    split at h
    · rename_i hc
      rw [if_pos hc]
      split at h
      · cases h
      · rename_i h1
        rw [if_neg h1]
        split at h
        · cases h
        · rename_i h2
          rw [if_neg h2]
          exact parseM_app M l _ u d h hd hu hM
    · cases h
theorem decDigits_ne (u : Nat) : Lib.decDigits u ≠ [] := by
  rw [Lib.decDigits]
  split <;> simp
theorem parse_dec : ∀ (n u : Nat), u ≤ n → u < 18446744073709551616 → Lib.parseUintM 18446744073709551615 0 (Lib.decDigits u) = .ok u
  | 0, u, hn, hu => by
    have : u = 0 := by omega
    subst this
    rw [Lib.decDigits_one (by omega)]; rfl
  | n + 1, u, hn, hu => by
    by_cases h : u < 10
    · rw [Lib.decDigits_one h]
      have e : (UInt8.ofNat (48 + u)).toNat = 48 + u := by simp; omega
      simp only [Lib.parseUintM, e]
      rw [if_pos (by omega), if_neg (by omega), if_neg (by omega)]
      congr 1; omega
    · rw [Lib.decDigits, dif_neg h]
      have ih := parse_dec n (u / 10) (by omega) (by omega)
      have := parseM_app 18446744073709551615 _ 0 (u / 10) (u % 10) ih (by omega) (by omega) (by omega)
      rw [this]
      congr 1; omega
theorem parse_dec64 (u : Nat) (hu : u < 18446744073709551616) : Lib.parseUintB 64 (Lib.decDigits u) = .ok u := by
  unfold Lib.parseUintB
  rw [if_neg (decDigits_ne u)]
  exact parse_dec u u (Nat.le_refl _) hu
theorem decDigits_dB : ∀ (n u : Nat), u ≤ n → ∀ y ∈ Lib.decDigits u, dB y = true
  | 0, u, hn, y, hy => by
    have : u = 0 := by omega
    subst this
    rw [Lib.decDigits_one (by omega)] at hy
    have : y = 48 := by simpa using hy
    subst this; decide
  | n + 1, u, hn, y, hy => by
    have key : ∀ d, d < 10 → dB (UInt8.ofNat (48 + d)) = true := by decide
    by_cases h : u < 10
    · rw [Lib.decDigits_one h] at hy
      have : y = UInt8.ofNat (48 + u) := by simpa using hy
      subst this; exact key u h
    · rw [Lib.decDigits, dif_neg h] at hy
      rcases List.mem_append.1 hy with hy | hy
      · exact decDigits_dB n (u / 10) (by omega) y hy
      · have : y = UInt8.ofNat (48 + u % 10) := by simpa using hy
        subst this; exact key _ (by omega)
theorem nDigits_le (u : Nat) (hu : u < 18446744073709551616) : (Lib.decDigits u).length ≤ 20 := by
  rw [Lib.decDigits_length]
  by_cases h : u = 0
  · subst h; rw [Lib.nDigits]; decide
  · have := Lib.numDigits_eq u (by omega) hu; split at this <;> omega
end Go.Proofs.YtpbmbaffncnglaaGreatDoor.Sv
end
section
set_option linter.unusedVariables false
set_option linter.unusedSimpArgs false
/- a version is read loosely -/
namespace Go.Proofs.YtpbmbaffncnglaaGreatDoor.Sv
open Go Go.RowKit Rx
set_option maxRecDepth 100000
theorem u52e : Tryz.prog.underlying 40 = some (.slice 9) := Tryz.underlying40
theorem q52 (w : World) (a : Option Addr) (n c : Nat) : (binOp .eql 40 (.slice a n c) (.slice none 0 0)).run Tryz.prog w = .ok (.bool a.isNone) w := Lib.run_eql_slice_nil w 40 9 a n c 0 0 Tryz.underlying40
/-- a piece in memory -/
theorem piece_cell {w' : World} {b k : Nat} {f : Nat → ByteArray} (h : w'.heap[b]? = some (.cells (strs ((List.range k).map f)) 9 (0, 0))) (i : Nat) (hi : i < k) : w'.cell? ⟨b, i, none⟩ = some (.string (f i)) := by
  rw [cell_of_row _ _ _ _ _ _ h]
  simp [strs, hi]
/-- a version under way: its block, the pieces, the world before -/
structure VAt (w : World) (V bp : Nat) (cs ps : Array Value) (W : World) : Prop where
  v : W.heap[V]? = some (.cells cs 66 (0, 0))
  p : W.heap[bp]? = some (.cells ps 9 (0, 0))
  b : Below w.heap.size w W
  h : w.heap.size ≤ V
theorem VAt.keep {w W W' : World} {V bp : Nat} {cs ps : Array Value} (h : VAt w V bp cs ps W) (hb : Below W.heap.size W W') : VAt w V bp cs ps W' :=
  ⟨(hb.block V (Array.getElem?_eq_some_iff.1 h.v).1).trans h.v, (hb.block bp (Array.getElem?_eq_some_iff.1 h.p).1).trans h.p, h.b.trans (hb.mono h.b.size), h.h⟩
theorem VAt.store {w W : World} {V bp : Nat} {cs ps : Array Value} (h : VAt w V bp cs ps W) (i : Nat) (v : Value) : VAt w V bp (cs.setIfInBounds i v) ps (W.setCell ⟨V, i, none⟩ v) :=
  ⟨heap_setCell_same W V i cs 66 v h.v, (heap_setCell_other _ _ _ _ (typ_ne h.p h.v (by decide))).trans h.p, h.b.setCell (p := ⟨V, i, none⟩) h.h _, h.h⟩
theorem VAt.cell {w W : World} {V bp : Nat} {cs ps : Array Value} (h : VAt w V bp cs ps W) (i : Nat) (v : Value) (hv : cs[i]? = some v) : W.cell? ⟨V, i, none⟩ = some v := by rw [cell_of_row _ _ _ _ _ _ h.v, hv]
theorem VAt.piece {w W : World} {V bp : Nat} {cs ps : Array Value} (h : VAt w V bp cs ps W) (i : Nat) (v : Value) (hv : ps[i]? = some v) : W.cell? ⟨bp, i, none⟩ = some v := by rw [cell_of_row _ _ _ _ _ _ h.p, hv]
theorem VAt.fz {w W : World} {V bp : Nat} {cs ps : Array Value} (h : VAt w V bp cs ps W) (i : Nat) : W.frozen? ⟨V, i, none⟩ = false := frozen_of_row _ _ _ _ _ h.v
set_option maxHeartbeats 4000000 in
theorem tCoerce3 (x : Ver) (hx : x.Ok dB iB) (r2 r3 : Bs) (h2 : x.p2 = some r2) (h3 : x.p3 = some r3) (hpre : x.pre = none) (hmeta : x.meta_ = none) (a b c : Nat) (ha : Lib.parseUintB 64 x.p1 = .ok a) (hb : Lib.parseUintB 64 r2 = .ok b) (hc : Lib.parseUintB 64 r3 = .ok c)
    (hl : x.text.length ≤ 256) (w : World) (hT : Lib.Utf8Tabs 11 12 w) :
    Calls Tryz.prog 66 #[.string (bytesOf x.text)] w fun e w' => ∃ V, e = .returned (.tuple #[.pointer (some ⟨V, 0, none⟩), .nilIface]) ∧ w.heap.size ≤ V ∧ w'.heap[V]? = some (.cells #[.int .u64 a, .int .u64 b, .int .u64 c, .string ⟨#[]⟩, .string ⟨#[]⟩, .string (bytesOf x.text)] 66 (0, 0)) ∧ Below w.heap.size w w' := by
  have hlen : x.p1.length + (r2.length + 1 + (r3.length + 1)) ≤ x.text.length := by
    rw [Ver.text, h2, h3]; simp [ptext]; omega
  have H61 := Lib.hid (fun (w : World) (R PB IB icap : Nat) (hp : PG w R PB IB icap looseT) (hr : RH w R PB 4 1 20 1 9) (hT : Lib.Utf8Tabs 11 12 w) => looseM (s := bytesOf x.text) hp hr hT (by rw [bytesOf_size]; omega) hx rfl)
  have HA := Lib.hid (fun w => tParse a x.p1 ha (by omega) w)
  have HB := Lib.hid (fun w => tParse b r2 hb (by omega) w)
  have HC := Lib.hid (fun w => tParse c r3 hc (by omega) w)
  have HT := Lib.hid hT
  have HTa := Lib.hid (fun w => tTrimDot (46 :: r2) (.inr ⟨_, rfl⟩) (by simp; omega) w)
  have HTb := Lib.hid (fun w => tTrimDot (46 :: r3) (.inr ⟨_, rfl⟩) (by simp; omega) w)
  have q := q52
  rw [h2, h3, hpre, hmeta] at H61
  clear hx h2 h3 hpre hmeta ha hb hc hT hlen hl
  generalize bytesOf x.text = s at *
  generalize x.p1 = r1 at *
  go_enter Tryz.func66, Tryz.ntmps66
  go_wp2_with (first
    | (go_at_call 88; refine (t107 w).mono ?_; rintro e w1 ⟨R, PB, IB, icap, rfl, hp, hr, hb⟩; have HP := Lib.hid (And.intro hp (And.intro hr (And.intro (Utf8Tabs_below HT.out hb) hb))); clear hp hr hb)
    | (go_at_call 45; refine (H61.out _ _ _ _ _ HP.out.1 HP.out.2.1 HP.out.2.2.1).mono ?_; rintro e w2 ⟨hb2, f, ⟨bp, rfl, h1, h2⟩, e1, e2, e3, e5, e8⟩; have c1 := piece_cell h2 1 (by decide); have c2 := piece_cell h2 2 (by decide); have c3 := piece_cell h2 3 (by decide); have c5 := piece_cell h2 5 (by decide); have c8 := piece_cell h2 8 (by decide); rw [e1] at c1; rw [e2] at c2; rw [e3] at c3; rw [e5] at c5; rw [e8] at c8; have HB2 := Lib.hid (And.intro h1 (And.intro h2 (HP.out.2.2.2.trans (hb2.mono HP.out.2.2.2.size)))); clear hb2 h1 h2 e1 e2 e3 e5 e8))
  simp only [gpre] at *
  go_region
  have hst : VAt w w2.heap.size bp #[.int .u64 0, .int .u64 0, .int .u64 0, .string ⟨#[]⟩, .string ⟨#[]⟩, .string s] (strs ((List.range 10).map f)) ((w2.alloc (.cells #[.int .u64 0, .int .u64 0, .int .u64 0, .string (bytesOf []), .string (bytesOf []), .string s] 66)).drew) := by
    obtain ⟨k1, k2, k3⟩ := HB2.out
    refine ⟨heap_alloc_new w2 _, (Below.heap_alloc w2 _ bp (Array.getElem?_eq_some_iff.1 k2).1).trans k2, (k3.alloc k3.size _).drew, k3.size⟩
  have e1 : (strs ((List.range 10).map f))[1]? = some (.string (bytesOf r1)) := by rw [← c1, cell_of_row _ _ _ _ _ _ HB2.out.2.1]
  have e2 : (strs ((List.range 10).map f))[2]? = some (.string (bytesOf (ptext (some r2)))) := by rw [← c2, cell_of_row _ _ _ _ _ _ HB2.out.2.1]
  have e3 : (strs ((List.range 10).map f))[3]? = some (.string (bytesOf (ptext (some r3)))) := by rw [← c3, cell_of_row _ _ _ _ _ _ HB2.out.2.1]
  have HE := Lib.hid (And.intro e1 (And.intro e2 e3))
  clear c1 c2 c3 c5 c8 e1 e2 e3
  generalize (w2.alloc (.cells #[.int .u64 0, .int .u64 0, .int .u64 0, .string (bytesOf []), .string (bytesOf []), .string s] 66)).drew = W3 at *
  generalize strs ((List.range 10).map f) = ps at *
  generalize w2.heap.size = V at *
  have HS := Lib.hid hst
  have c1 := hst.piece 1 _ HE.out.1
  clear hst
  go_upto_region 9 with (first
    | (go_at_call 72; refine (HA.out _).mono ?_; rintro e w4 ⟨rfl, hb4⟩; have hst4 := HS.out.keep hb4; have HS4 := Lib.hid hst4; have v0 := hst4.cell 0 _ rfl; have fz0 := hst4.fz 0; clear hb4 hst4)
    | go_in)
  have HS := Lib.hid (HS4.out.store 0 (.int .u64 a))
  clear HS4 v0 fz0 c1
  generalize w4.setCell ⟨V, 0, none⟩ (.int .u64 a) = W5 at *
  have c1 := HS.out.piece 2 _ HE.out.2.1
  simp only [ptext] at c1
  have n1 := bytesOf_toList (46 :: r2)
  go_upto_region 14 with (first
    | (go_at_call 47; refine (HTa.out _).mono ?_; rintro e w6 ⟨rfl, hw⟩; subst hw; rw [show (46 :: r2 : Bs).tail = r2 from rfl])
    | (go_at_call 72; refine (HB.out _).mono ?_; rintro e w4 ⟨rfl, hb4⟩; have hst4 := HS.out.keep hb4; have HS4 := Lib.hid hst4; have v0 := hst4.cell 1 _ rfl; have fz0 := hst4.fz 1; clear hb4 hst4)
    | go_in)
  have HS := Lib.hid (HS4.out.store 1 (.int .u64 b))
  clear HS4 v0 fz0 c1 n1
  generalize w4.setCell ⟨V, 1, none⟩ (.int .u64 b) = W6 at *
  have c1 := HS.out.piece 3 _ HE.out.2.2
  simp only [ptext] at c1
  have n1 := bytesOf_toList (46 :: r3)
  go_upto_region 19 with (first
    | (go_at_call 47; refine (HTb.out _).mono ?_; rintro e w6 ⟨rfl, hw⟩; subst hw; rw [show (46 :: r3 : Bs).tail = r3 from rfl])
    | (go_at_call 72; refine (HC.out _).mono ?_; rintro e w4 ⟨rfl, hb4⟩; have hst4 := HS.out.keep hb4; have HS4 := Lib.hid hst4; have v0 := hst4.cell 2 _ rfl; have fz0 := hst4.fz 2; clear hb4 hst4)
    | go_in)
  have HS := Lib.hid (HS4.out.store 2 (.int .u64 c))
  clear HS4 v0 fz0 c1 n1
  generalize w4.setCell ⟨V, 2, none⟩ (.int .u64 c) = W7 at *
  have v3 := HS.out.cell 3 _ rfl
  have v4 := HS.out.cell 4 _ rfl
  go_wp2_with go_in
  go_ret2
  exact ⟨V, rfl, HS.out.h, HS.out.v, HS.out.b⟩
/-- a version that was read -/
def VerAt (W : World) (V : Nat) (a b c : Nat) (pre me orig : Bs) : Prop := W.heap[V]? = some (.cells #[.int .u64 a, .int .u64 b, .int .u64 c, .string (bytesOf pre), .string (bytesOf me), .string (bytesOf orig)] 66 (0, 0))
theorem tNewVer3 (x : Ver) (hx : x.Ok dB iB) (r2 r3 : Bs) (h2 : x.p2 = some r2) (h3 : x.p3 = some r3) (hpre : x.pre = none) (hmeta : x.meta_ = none) (a b c : Nat) (ha : Lib.parseUintB 64 x.p1 = .ok a) (hb : Lib.parseUintB 64 r2 = .ok b) (hc : Lib.parseUintB 64 r3 = .ok c)
    (hl : x.text.length ≤ 256) (w : World) (hT : Lib.Utf8Tabs 11 12 w) :
    Calls Tryz.prog 48 #[.string (bytesOf x.text)] w fun e w' => ∃ V, e = .returned (.tuple #[.pointer (some ⟨V, 0, none⟩), .nilIface]) ∧ w.heap.size ≤ V ∧ VerAt w' V a b c [] [] x.text ∧ Below w.heap.size w w' := by
  have H := Lib.hid (tCoerce3 x hx r2 r3 h2 h3 hpre hmeta a b c ha hb hc hl w hT)
  have k1 : ¬ (256 : Int) < ((bytesOf x.text).size : Int) := by rw [bytesOf_size]; omega
  clear hx h2 h3 hpre hmeta ha hb hc hl hT
  unfold VerAt
  generalize bytesOf x.text = s at *
  go_enter Tryz.func48, Tryz.ntmps48
  go_wp2_with (go_at_call 66; refine H.out.mono ?_; rintro e w1 ⟨V, rfl, h1, h2, h3⟩; have HV := Lib.hid (And.intro h1 (And.intro h2 h3)); clear h1 h2 h3)
  go_ret2
  exact ⟨V, rfl, HV.out⟩
end Go.Proofs.YtpbmbaffncnglaaGreatDoor.Sv
end
section
set_option linter.unusedVariables false
set_option linter.unusedSimpArgs false
/- one term is read -/
namespace Go.Proofs.YtpbmbaffncnglaaGreatDoor.Sv
open Go Go.RowKit Rx
set_option maxRecDepth 100000
structure CAt (w : World) (V bp : Nat) (cs ps : Array Value) (W : World) : Prop where
  v : W.heap[V]? = some (.cells cs 68 (0, 0))
  p : W.heap[bp]? = some (.cells ps 9 (0, 0))
  b : Below w.heap.size w W
  h : w.heap.size ≤ V
theorem CAt.keep {w W W' : World} {V bp : Nat} {cs ps : Array Value} (h : CAt w V bp cs ps W) (hb : Below W.heap.size W W') : CAt w V bp cs ps W' :=
  ⟨(hb.block V (Array.getElem?_eq_some_iff.1 h.v).1).trans h.v, (hb.block bp (Array.getElem?_eq_some_iff.1 h.p).1).trans h.p, h.b.trans (hb.mono h.b.size), h.h⟩
theorem CAt.store {w W : World} {V bp : Nat} {cs ps : Array Value} (h : CAt w V bp cs ps W) (i : Nat) (v : Value) : CAt w V bp (cs.setIfInBounds i v) ps (W.setCell ⟨V, i, none⟩ v) :=
  ⟨heap_setCell_same W V i cs 68 v h.v, (heap_setCell_other _ _ _ _ (typ_ne h.p h.v (by decide))).trans h.p, h.b.setCell (p := ⟨V, i, none⟩) h.h _, h.h⟩
theorem CAt.cell {w W : World} {V bp : Nat} {cs ps : Array Value} (h : CAt w V bp cs ps W) (i : Nat) (v : Value) (hv : cs[i]? = some v) : W.cell? ⟨V, i, none⟩ = some v := by rw [cell_of_row _ _ _ _ _ _ h.v, hv]
theorem CAt.piece {w W : World} {V bp : Nat} {cs ps : Array Value} (h : CAt w V bp cs ps W) (i : Nat) (v : Value) (hv : ps[i]? = some v) : W.cell? ⟨bp, i, none⟩ = some v := by rw [cell_of_row _ _ _ _ _ _ h.p, hv]
theorem CAt.fz {w W : World} {V bp : Nat} {cs ps : Array Value} (h : CAt w V bp cs ps W) (i : Nat) : W.frozen? ⟨V, i, none⟩ = false := frozen_of_row _ _ _ _ _ h.v
def isXb (t : Bs) : Bool := t == [120] || t == [42] || t == [88]
/-- a term that was read -/
def ConAt (W : World) (C : Nat) (V : Nat) (orig op : Bs) (md d pd : Bool) : Prop := W.heap[C]? = some (.cells #[.pointer (some ⟨V, 0, none⟩), .string (bytesOf orig), .string (bytesOf op), .bool md, .bool d, .bool pd] 68 (0, 0))
theorem tIsXb (t : Bs) (w : World) : Calls Tryz.prog 46 #[.string (bytesOf t)] w fun e w' => e = .returned (.bool (isXb t)) ∧ w' = w := by
  have := tIsX (bytesOf t) w
  rw [bytesOf_toList] at this
  exact this
/-- what reading a version's text does, with its digits -/
def Reads (yt : Bs) (a b c : Nat) (pre me : Bs) : Prop := ∀ w, Lib.Utf8Tabs 11 12 w → Calls Tryz.prog 48 #[.string (bytesOf yt)] w fun e w' => ∃ V, e = .returned (.tuple #[.pointer (some ⟨V, 0, none⟩), .nilIface]) ∧ w.heap.size ≤ V ∧ VerAt w' V a b c pre me yt ∧ Below w.heap.size w w'
set_option maxHeartbeats 4000000 in
theorem t44full (x : Tm) {L RR : Bs} {s : ByteArray} (hs : s.size ≤ 1000) (hx : x.Ok) (ht : s.data.toList = L ++ (x.text ++ RR)) (hL : ∀ y ∈ L, ws y = true) (hR : ∀ y ∈ RR, ws y = true) (h0 : x.op = [] → x.blank = [])
    (r2 r3 : Bs) (h2 : x.ver.p2 = some r2) (h3 : x.ver.p3 = some r3) (x1 : isXb x.ver.p1 = false) (x2 : isXb r2 = false) (x3 : isXb r3 = false) (a b c : Nat) (pre me : Bs) (hv : Reads x.ver.text a b c pre me) (w : World) (hT : Lib.Utf8Tabs 11 12 w) :
    Calls Tryz.prog 31 #[.string s] w fun e w' => ∃ C V, e = .returned (.tuple #[.pointer (some ⟨C, 0, none⟩), .nilIface]) ∧ w.heap.size ≤ C ∧ w.heap.size ≤ V ∧ ConAt w' C V x.ver.text x.op false false false ∧ VerAt w' V a b c pre me x.ver.text ∧ Below w.heap.size w w' := by
  have hsz : L.length + (x.text.length + RR.length) = s.size := by rw [← list_size, ht]; simp
  have hxp := tm_pos hx
  have hlen : x.ver.p1.length + (r2.length + 1 + (r3.length + 1)) ≤ x.text.length := by
    rw [Tm.text, Ver.text, h2, h3]; simp [ptext]; omega
  have hp1 : (bytesOf x.ver.p1).toList.isEmpty = false := by
    rw [bytesOf_toList]
    have := hx.ver.p1.1
    cases h : x.ver.p1 with
    | nil => exact absurd h this
    | cons y l => rfl
  have k0 : (0 : Int) < (s.size : Int) := by omega
  have H61 := Lib.hid (fun (w : World) (R PB IB icap : Nat) (hp : PG w R PB IB icap conT) (hr : RH w R PB 4 1 24 1 11) (hT : Lib.Utf8Tabs 11 12 w) => conM (s := s) hp hr hT hs hx ht hL hR h0)
  have HT := Lib.hid hT
  have HTa := Lib.hid (fun w => tTrimDot (46 :: r2) (.inr ⟨_, rfl⟩) (by simp; omega) w)
  have HTb := Lib.hid (fun w => tTrimDot (46 :: r3) (.inr ⟨_, rfl⟩) (by simp; omega) w)
  have HX1 := Lib.hid (fun w => tIsXb x.ver.p1 w)
  have HX2 := Lib.hid (fun w => tIsXb r2 w)
  have HX3 := Lib.hid (fun w => tIsXb r3 w)
  have HV := Lib.hid hv
  have q := q52
  have n2 := bytesOf_toList (46 :: r2)
  have n3 := bytesOf_toList (46 :: r3)
  rw [h2, h3] at H61
  rw [x1] at HX1
  rw [x2] at HX2
  rw [x3] at HX3
  clear hx ht hL hR h0 h2 h3 x1 x2 x3 hv hT hsz hxp hlen hs
  simp only [ptext] at H61
  generalize x.ver.text = yt at *
  generalize x.ver.p1 = r1 at *
  generalize x.op = op at *
  generalize gtext 45 x.ver.pre = g6 at *
  go_enter Tryz.func31, Tryz.ntmps31
  go_wp2_with (first
    | (go_at_call 44; refine (t60 w).mono ?_; rintro e w1 ⟨R, PB, IB, icap, rfl, hp, hr, hb⟩; have HP := Lib.hid (And.intro hp (And.intro hr (And.intro (Utf8Tabs_below HT.out hb) hb))); clear hp hr hb)
    | (go_at_call 45; refine (H61.out _ _ _ _ _ HP.out.1 HP.out.2.1 HP.out.2.2.1).mono ?_; rintro e w2 ⟨hb2, f, ⟨bp, rfl, h1, h2⟩, e1, e2, e3, e4, e5, e6⟩; have c1 := piece_cell h2 1 (by decide); have c2 := piece_cell h2 2 (by decide); have c3 := piece_cell h2 3 (by decide); have c4 := piece_cell h2 4 (by decide); have c5 := piece_cell h2 5 (by decide); have c6 := piece_cell h2 6 (by decide); rw [e1] at c1; rw [e2] at c2; rw [e3] at c3; rw [e4] at c4; rw [e5] at c5; rw [e6] at c6; have HB2 := Lib.hid (And.intro h1 (And.intro h2 (HP.out.2.2.2.trans (hb2.mono HP.out.2.2.2.size)))); clear hb2 h1 h2 e1 e2 e3 e4 e5 e6))
  go_region
  have hst : CAt w w2.heap.size bp #[.pointer none, .string (bytesOf yt), .string (bytesOf op), .bool false, .bool false, .bool false] (strs ((List.range 12).map f)) ((w2.alloc (.cells #[.pointer none, .string (bytesOf yt), .string (bytesOf op), .bool false, .bool false, .bool false] 68)).drew) := by
    obtain ⟨k1, k2, k3⟩ := HB2.out
    exact ⟨heap_alloc_new w2 _, (Below.heap_alloc w2 _ bp (Array.getElem?_eq_some_iff.1 k2).1).trans k2, (k3.alloc k3.size _).drew, k3.size⟩
  have e2 : (strs ((List.range 12).map f))[2]? = some (.string (bytesOf yt)) := by rw [← c2, cell_of_row _ _ _ _ _ _ HB2.out.2.1]
  have e3 : (strs ((List.range 12).map f))[3]? = some (.string (bytesOf r1)) := by rw [← c3, cell_of_row _ _ _ _ _ _ HB2.out.2.1]
  have e4 : (strs ((List.range 12).map f))[4]? = some (.string (bytesOf (46 :: r2))) := by rw [← c4, cell_of_row _ _ _ _ _ _ HB2.out.2.1]
  have e5 : (strs ((List.range 12).map f))[5]? = some (.string (bytesOf (46 :: r3))) := by rw [← c5, cell_of_row _ _ _ _ _ _ HB2.out.2.1]
  clear c1 c2 c3 c4 c5 c6
  generalize (w2.alloc (.cells #[.pointer none, .string (bytesOf yt), .string (bytesOf op), .bool false, .bool false, .bool false] 68)).drew = W3 at *
  generalize strs ((List.range 12).map f) = ps at *
  generalize w2.heap.size = C at *
  have HS := Lib.hid hst
  have c2 := hst.piece 2 _ e2
  have c3 := hst.piece 3 _ e3
  have c4 := hst.piece 4 _ e4
  have c5 := hst.piece 5 _ e5
  clear hst e2 e3 e4 e5
  go_upto_region 21 with (first
    | (go_at_call 46; first | (refine (HX1.out _).mono ?_; rintro e w6 ⟨rfl, hw⟩; subst hw) | (refine (HX2.out _).mono ?_; rintro e w6 ⟨rfl, hw⟩; subst hw) | (refine (HX3.out _).mono ?_; rintro e w6 ⟨rfl, hw⟩; subst hw))
    | (go_at_call 47; first | (refine (HTa.out _).mono ?_; rintro e w6 ⟨rfl, hw⟩; subst hw; rw [show (46 :: r2 : Bs).tail = r2 from rfl]) | (refine (HTb.out _).mono ?_; rintro e w6 ⟨rfl, hw⟩; subst hw; rw [show (46 :: r3 : Bs).tail = r3 from rfl]))
    | go_in)
  clear c2 c3 c4 c5 n2 n3 k0
  have HU := Lib.hid (Utf8Tabs_below HT.out HS.out.b)
  go_wp2_with (go_at_call 48; refine (HV.out _ HU.out).mono ?_; rintro e w7 ⟨V, rfl, hVs, hVa, hb7⟩; have hst4 := HS.out.keep hb7; have HS4 := Lib.hid hst4; have HW := Lib.hid (And.intro hVs hVa); have v0 := hst4.cell 0 _ rfl; have v3 := hst4.cell 3 _ rfl; have v4 := hst4.cell 4 _ rfl; have v5 := hst4.cell 5 _ rfl; have z0 := hst4.fz 0; have z3 := hst4.fz 3; have z4 := hst4.fz 4; have z5 := hst4.fz 5; clear hb7 hst4 hVs hVa)
  go_ret2
  have hfin := (((HS4.out.store 0 (.pointer (some ⟨V, 0, none⟩))).store 3 (.bool false)).store 5 (.bool false)).store 4 (.bool false)
  have hne : V ≠ C := typ_ne HW.out.2 HS4.out.v (by decide)
  refine ⟨C, V, rfl, hfin.h, Nat.le_trans HS.out.b.size HW.out.1, hfin.v, ?_, hfin.b⟩
  unfold VerAt
  rw [heap_setCell_other _ _ _ _ hne, heap_setCell_other _ _ _ _ hne, heap_setCell_other _ _ _ _ hne, heap_setCell_other _ _ _ _ hne]
  exact HW.out.2
end Go.Proofs.YtpbmbaffncnglaaGreatDoor.Sv
end
section
set_option linter.unusedVariables false
set_option linter.unusedSimpArgs false
/- terms, lists of terms, in memory -/
namespace Go.Proofs.YtpbmbaffncnglaaGreatDoor.Sv
open Go Go.RowKit Rx
set_option maxRecDepth 100000
structure TD where
  op : Bs
  orig : Bs
  md : Bool
  d : Bool
  pd : Bool
  a : Nat
  b : Nat
  c : Nat
  pre : Bs
  me : Bs
  vt : Bs
def TDAt (W : World) (C : Nat) (t : TD) : Prop := ∃ V, ConAt W C V t.orig t.op t.md t.d t.pd ∧ VerAt W V t.a t.b t.c t.pre t.me t.vt
/-- all but one block is as it was -/
def Kp (X : Nat) (W W' : World) : Prop := ∀ k, k < W.heap.size → k ≠ X → W'.heap[k]? = W.heap[k]?
theorem Kp.of (X : Nat) {W W' : World} (h : Below W.heap.size W W') : Kp X W W' := fun k hk _ => h.block k hk
theorem Kp.setCell (X i : Nat) (W : World) (v : Value) : Kp X W (W.setCell ⟨X, i, none⟩ v) := fun k _ hn => heap_setCell_other _ _ _ _ hn
/-- the block that may turn holds neither a term nor a version -/
def Free (X : Nat) (W : World) : Prop := ∀ cs t f, W.heap[X]? = some (.cells cs t f) → t ≠ 68 ∧ t ≠ 66
theorem TDAt.kp {W W' : World} {C X : Nat} {t : TD} (h : TDAt W C t) (hk : Kp X W W') (hf : Free X W) : TDAt W' C t := by
  obtain ⟨V, h1, h2⟩ := h
  have n1 : C ≠ X := fun e => by subst e; exact (hf _ _ _ h1).1 rfl
  have n2 : V ≠ X := fun e => by subst e; exact (hf _ _ _ h2).2 rfl
  exact ⟨V, (hk C (Array.getElem?_eq_some_iff.1 h1).1 n1).trans h1, (hk V (Array.getElem?_eq_some_iff.1 h2).1 n2).trans h2⟩
theorem TDAt.keep {W W' : World} {C : Nat} {t : TD} (h : TDAt W C t) (hb : Below W.heap.size W W') : TDAt W' C t := by
  obtain ⟨V, h1, h2⟩ := h
  exact ⟨V, (hb.block C (Array.getElem?_eq_some_iff.1 h1).1).trans h1, (hb.block V (Array.getElem?_eq_some_iff.1 h2).1).trans h2⟩
def ptr (C : Nat) : Value := .pointer (some ⟨C, 0, none⟩)
/-- the terms stand at these places -/
def TDs (W : World) : List Nat → List TD → Prop
  | [], [] => True
  | C :: Cs, t :: ts => TDAt W C t ∧ TDs W Cs ts
  | _, _ => False
theorem TDs.length {W : World} : ∀ {Cs : List Nat} {ts : List TD}, TDs W Cs ts → Cs.length = ts.length
  | [], [], _ => rfl
  | C :: Cs, t :: ts, h => by simp [TDs.length h.2]
  | [], _ :: _, h => h.elim
  | _ :: _, [], h => h.elim
theorem TDs.kp {W W' : World} {X : Nat} (hk : Kp X W W') (hf : Free X W) : ∀ {Cs : List Nat} {ts : List TD}, TDs W Cs ts → TDs W' Cs ts
  | [], [], _ => trivial
  | C :: Cs, t :: ts, h => ⟨h.1.kp hk hf, TDs.kp hk hf h.2⟩
  | [], _ :: _, h => h.elim
  | _ :: _, [], h => h.elim
theorem TDs.keep {W W' : World} (hb : Below W.heap.size W W') : ∀ {Cs : List Nat} {ts : List TD}, TDs W Cs ts → TDs W' Cs ts
  | [], [], _ => trivial
  | C :: Cs, t :: ts, h => ⟨h.1.keep hb, TDs.keep hb h.2⟩
  | [], _ :: _, h => h.elim
  | _ :: _, [], h => h.elim
theorem TDs.snoc {W : World} {C : Nat} {t : TD} (h : TDAt W C t) : ∀ {Cs : List Nat} {ts : List TD}, TDs W Cs ts → TDs W (Cs ++ [C]) (ts ++ [t])
  | [], [], _ => ⟨h, trivial⟩
  | D :: Cs, u :: ts, g => ⟨g.1, TDs.snoc h g.2⟩
  | [], _ :: _, g => g.elim
  | _ :: _, [], g => g.elim
theorem TDs.get {W : World} : ∀ {Cs : List Nat} {ts : List TD} {i : Nat} {t : TD}, TDs W Cs ts → ts[i]? = some t → ∃ C, Cs[i]? = some C ∧ TDAt W C t
  | [], [], i, t, _, h => by simp at h
  | C :: Cs, u :: ts, 0, t, g, h => by simp at h; subst h; exact ⟨C, rfl, g.1⟩
  | C :: Cs, u :: ts, i + 1, t, g, h => by simpa using TDs.get g.2 (by simpa using h)
  | [], _ :: _, _, _, g, _ => g.elim
  | _ :: _, [], _, _, g, _ => g.elim
/-- a row of pointers, the rest of it nil -/
def ptrRow (Cs : List Nat) (n : Nat) : Array Value := (Cs.map ptr ++ List.replicate (n - Cs.length) (Value.pointer none)).toArray
/-- a row that grows from the left: a cell is written -/
theorem fill_step (l : List Value) (n : Nat) (v z : Value) (h : l.length < n) : ((l ++ List.replicate (n - l.length) z).toArray.setIfInBounds l.length v) = ((l ++ [v]) ++ List.replicate (n - (l ++ [v]).length) z).toArray := by
  obtain ⟨m, hm⟩ : ∃ m, n - l.length = m + 1 := ⟨n - l.length - 1, by omega⟩
  have e : n - (l ++ [v]).length = m := by simp; omega
  rw [hm, e, List.replicate_succ]
  apply Array.toList_inj.1
  simp
theorem ptrRow_step (Cs : List Nat) (n C : Nat) (h : Cs.length < n) : (ptrRow Cs n).setIfInBounds Cs.length (ptr C) = ptrRow (Cs ++ [C]) n := by
  have := fill_step (Cs.map ptr) n (ptr C) (.pointer none) (by simpa using h)
  simpa [ptrRow] using this
/-- a list of terms in memory -/
def RowAt (W : World) (X : Nat) (ts : List TD) : Prop := ∃ Cs, W.heap[X]? = some (.cells (ptrRow Cs ts.length) 62 (0, 0)) ∧ TDs W Cs ts
theorem RowAt.kp {W W' : World} {R X : Nat} {ts : List TD} (h : RowAt W R ts) (hk : Kp X W W') (hf : Free X W) (hn : R ≠ X) : RowAt W' R ts := by
  obtain ⟨Cs, h1, h2⟩ := h
  exact ⟨Cs, (hk R (Array.getElem?_eq_some_iff.1 h1).1 hn).trans h1, h2.kp hk hf⟩
theorem RowAt.keep {W W' : World} {R : Nat} {ts : List TD} (h : RowAt W R ts) (hb : Below W.heap.size W W') : RowAt W' R ts := by
  obtain ⟨Cs, h1, h2⟩ := h
  exact ⟨Cs, (hb.block R (Array.getElem?_eq_some_iff.1 h1).1).trans h1, h2.keep hb⟩
def Rows (W : World) : List Nat → List (List TD) → Prop
  | [], [] => True
  | X :: Xs, ts :: gs => RowAt W X ts ∧ Rows W Xs gs
  | _, _ => False
theorem Rows.length {W : World} : ∀ {Xs : List Nat} {gs : List (List TD)}, Rows W Xs gs → Xs.length = gs.length
  | [], [], _ => rfl
  | _ :: Xs, _ :: gs, h => by simp [Rows.length h.2]
  | [], _ :: _, h => h.elim
  | _ :: _, [], h => h.elim
theorem Rows.kp {W W' : World} {X : Nat} (hk : Kp X W W') (hf : Free X W) : ∀ {Xs : List Nat} {gs : List (List TD)}, Rows W Xs gs → X ∉ Xs → Rows W' Xs gs
  | [], [], _, _ => trivial
  | R :: Xs, t :: gs, h, hn => ⟨h.1.kp hk hf (fun e => hn (by simp [e])), Rows.kp hk hf h.2 (fun e => hn (by simp [e]))⟩
  | [], _ :: _, h, _ => h.elim
  | _ :: _, [], h, _ => h.elim
theorem Rows.keep {W W' : World} (hb : Below W.heap.size W W') : ∀ {Xs : List Nat} {gs : List (List TD)}, Rows W Xs gs → Rows W' Xs gs
  | [], [], _ => trivial
  | R :: Xs, t :: gs, h => ⟨h.1.keep hb, Rows.keep hb h.2⟩
  | [], _ :: _, h => h.elim
  | _ :: _, [], h => h.elim
theorem Rows.snoc {W : World} {X : Nat} {ts : List TD} (h : RowAt W X ts) : ∀ {Xs : List Nat} {gs : List (List TD)}, Rows W Xs gs → Rows W (Xs ++ [X]) (gs ++ [ts])
  | [], [], _ => ⟨h, trivial⟩
  | _ :: Xs, _ :: gs, g => ⟨g.1, Rows.snoc h g.2⟩
  | [], _ :: _, g => g.elim
  | _ :: _, [], g => g.elim
theorem Rows.get {W : World} : ∀ {Xs : List Nat} {gs : List (List TD)} {i : Nat} {ts : List TD}, Rows W Xs gs → gs[i]? = some ts → ∃ X, Xs[i]? = some X ∧ RowAt W X ts
  | [], [], i, t, _, h => by simp at h
  | X :: Xs, u :: gs, 0, t, g, h => by simp at h; subst h; exact ⟨X, rfl, g.1⟩
  | X :: Xs, u :: gs, i + 1, t, g, h => by simpa using Rows.get g.2 (by simpa using h)
  | [], _ :: _, _, _, g, _ => g.elim
  | _ :: _, [], _, _, g, _ => g.elim
theorem Rows.mem_lt {W : World} : ∀ {Xs : List Nat} {gs : List (List TD)}, Rows W Xs gs → ∀ X ∈ Xs, ∃ cs, W.heap[X]? = some (.cells cs 62 (0, 0))
  | [], [], _, X, h => by cases h
  | X :: Xs, u :: gs, g, Y, h => by
    rcases List.mem_cons.1 h with rfl | h
    · obtain ⟨Cs, h1, _⟩ := g.1; exact ⟨_, h1⟩
    · exact Rows.mem_lt g.2 Y h
  | [], _ :: _, g, _, _ => g.elim
  | _ :: _, [], g, _, _ => g.elim
def rowVal (X : Nat) (ts : List TD) : Value := .slice (some ⟨X, 0, none⟩) ts.length ts.length
def rowVals : List Nat → List (List TD) → List Value
  | X :: Xs, ts :: gs => rowVal X ts :: rowVals Xs gs
  | _, _ => []
theorem rowVals_length : ∀ {Xs : List Nat} {gs : List (List TD)}, Xs.length = gs.length → (rowVals Xs gs).length = gs.length
  | [], [], _ => rfl
  | _ :: Xs, _ :: gs, h => by simp [rowVals, rowVals_length (Xs := Xs) (gs := gs) (by simpa using h)]
  | [], _ :: _, h => by simp at h
  | _ :: _, [], h => by simp at h
theorem rowVals_snoc {X : Nat} {ts : List TD} : ∀ {Xs : List Nat} {gs : List (List TD)}, Xs.length = gs.length → rowVals (Xs ++ [X]) (gs ++ [ts]) = rowVals Xs gs ++ [rowVal X ts]
  | [], [], _ => rfl
  | _ :: Xs, _ :: gs, h => by simp [rowVals, rowVals_snoc (Xs := Xs) (gs := gs) (by simpa using h)]
  | [], _ :: _, h => by simp at h
  | _ :: _, [], h => by simp at h
theorem rowVals_get : ∀ {Xs : List Nat} {gs : List (List TD)} {i : Nat} {X : Nat} {ts : List TD}, Xs[i]? = some X → gs[i]? = some ts → (rowVals Xs gs)[i]? = some (rowVal X ts)
  | X :: Xs, t :: gs, 0, Y, ts, h, g => by simp at h g; subst h g; rfl
  | X :: Xs, t :: gs, i + 1, Y, ts, h, g => by simpa [rowVals] using rowVals_get (Xs := Xs) (gs := gs) (by simpa using h) (by simpa using g)
  | [], _, _, _, _, h, _ => by simp at h
  | _ :: _, [], _, _, _, _, g => by simp at g
/-- a prerelease stands in the list -/
def anyPre (ts : List TD) : Bool := ts.any fun t => !t.pre.isEmpty
/-- the constraints of a text, in memory -/
def ConsAt (W : World) (O : Nat) (gs : List (List TD)) (inc : Bool) : Prop := ∃ OR HP Xs, W.heap[O]? = some (.cells #[.slice (some ⟨OR, 0, none⟩) gs.length gs.length, .slice (some ⟨HP, 0, none⟩) gs.length gs.length, .bool inc] 50 (0, 0)) ∧
  W.heap[OR]? = some (.cells (rowVals Xs gs).toArray 61 (0, 0)) ∧ W.heap[HP]? = some (.cells ((gs.map anyPre).map Value.bool).toArray 4 (0, 0)) ∧ Rows W Xs gs
end Go.Proofs.YtpbmbaffncnglaaGreatDoor.Sv
end
