/- a part of the proof: FnSemverTilde: for every two versions, number and wildcard the law's function returns true and leaves its arguments as they were; no condition is added, the statement is the given tied card. -/
import Derived.Test.YtpbmbaffncnglaaGreatDoorNE
import Derived.OrdersIn
import Derived.Great.BuildSlice
import Derived.Great.Walk
import Derived.Great.Ranges
section
set_option linter.unusedVariables false
set_option linter.unusedSimpArgs false
/- what comes is collected: AppendSeq's round -/
namespace Go.Proofs.YtpbmbaffncnglaaGreatDoor.Sv
open Go Go.RowKit Rx Go.Shelf
set_option maxRecDepth 100000
attribute [local go_sem] Oper.semAt_some
def apAssign : Code := (Code.region 2 #[{ dst := some 5, op := Op.assign (Operand.tmp 7), type := 9, pos := "iter.go:51", after := #[], guard := none }] false)
def apBody : Code := (Code.block 1 (Code.region 3 #[{ dst := some 8, op := Op.load 40 (Operand.tmp 2), type := 40, pos := "iter.go:52", after := #[], guard := none }, { dst := some 9, op := Op.move (Operand.tmp 5), type := 9, pos := "iter.go:52", after := #[], guard := none }, { dst := some 10, op := Op.buildSlice 40 1 #[(0, Operand.tmp 9)], type := 40, pos := "iter.go:52", after := #[{ on := 1, ground := Ground.data }], guard := none }, { dst := some 11, op := Op.call { callee := Callee.builtin Builtin.append, args := #[Operand.tmp 8, Operand.tmp 10], argTypes := #[40, 40] }, type := 40, pos := "iter.go:52", after := #[{ on := 0, ground := Ground.data }, { on := 2, ground := Ground.data }], guard := none }, { dst := none, op := Op.store 40 (Operand.tmp 2) (Operand.tmp 11), type := 0, pos := "iter.go:52", after := #[{ on := 3, ground := Ground.data }, { on := 3, ground := Ground.chain }, { on := 0, ground := Ground.phase }, { on := 1, ground := Ground.phase }, { on := 2, ground := Ground.phase }, { on := 3, ground := Ground.phase }], guard := none }] false))
/-- the loop's record -/
def apRec (fn : FuncId) (sv : Value) (Bs D : Nat) (st : LoopState) (pend : Option Code) : Loop :=
  { state := st, pending := pend, fn, tmps := #[.slice none 0 0, sv, .pointer (some ⟨Bs, 0, none⟩), undef, .slice none 0 0, undef, sv, undef, undef, undef, undef, undef, undef], params := #[7], assign := apAssign, body := apBody, defers := D }
/-- between two rounds -/
structure ApAt (fn : FuncId) (sv : Value) (Bs l D n1 : Nat) (xs : List ByteArray) (W : World) : Prop where
  box : ∃ v, W.heap[Bs]? = some (.cells #[v] 40 (0, 0)) ∧ W.ownsRow n1 9 1 v xs.length (xs.map Value.string) ∧ (v = .slice none 0 0 ↔ xs = [])
  L : W.heap[l]? = some (.loop (apRec fn sv Bs D .ready none))
  K : W.heap[D]? = some (.deferred (some []))
/-- what a round may turn -/
structure Eff (n0 n1 tb te l : Nat) (W W' : World) : Prop where
  kr : KR n0 n1 tb te W W'
  objs : ∀ (k : Nat) (o : Obj), W.heap[k]? = some o → (∀ cs t f, o ≠ .cells cs t f) → k ≠ l → W'.heap[k]? = some o
theorem grown_putObj (W : World) (l : Nat) (o : Obj) : W.grownBy (W.putObj l o) (some l) :=
  ⟨rfl, rfl, rfl, by simp, fun k _ hk => World.putObj_heap_other (fun e => hk (by rw [e]))⟩
theorem grown_setCell (W : World) (b i : Nat) (v : Value) : W.grownBy (W.setCell ⟨b, i, none⟩ v) (some b) :=
  ⟨rfl, rfl, rfl, by simp, fun k _ hk => heap_setCell_other _ _ _ _ (fun e => hk (by rw [e]))⟩
theorem own_ne {W : World} {base : Nat} {e : TypeId} {size : Nat} {v : Value} {k : Nat} {xs : List Value} (h : W.ownsRow base e size v k xs) {j : Nat} {o : Obj} (hj : W.heap[j]? = some o) (hno : ∀ cur, o ≠ .cells cur e (0, 0)) :
    v.ownBlock = none ∨ v.ownBlock ≠ some j := by
  rcases h.2 with ⟨rfl, _⟩ | ⟨g, cap, cur, rfl, _, hgb, _⟩
  · exact .inl rfl
  · refine .inr fun e' => ?_
    have : g = j := by simpa [Value.ownBlock] using e'
    subst this; rw [hgb] at hj; cases hj; exact hno cur rfl
theorem box_cell {W : World} {B : Nat} {v : Value} {t : TypeId} (h : W.heap[B]? = some (.cells #[v] t (0, 0))) : W.cell? ⟨B, 0, none⟩ = some v ∧ W.frozen? ⟨B, 0, none⟩ = false := ⟨cell_of_row _ _ 0 _ _ _ h, frozen_of_row _ _ _ _ _ h⟩
theorem box_set {W : World} {B : Nat} {v : Value} {t : TypeId} (v' : Value) (h : W.heap[B]? = some (.cells #[v] t (0, 0))) : (W.setCell ⟨B, 0, none⟩ v').heap[B]? = some (.cells #[v'] t (0, 0)) := by
  rw [heap_setCell_same W B 0 _ t v' h]; rfl
set_option maxHeartbeats 2000000 in
theorem apY (m : Nat) (fn : FuncId) (sv : Value) (Bs l D n0 n1 : Nat) (hBl : Bs ≠ l) (hDl : D ≠ l) (hDB : D ≠ Bs) (h01 : n0 ≤ n1) (h0B : n0 ≤ Bs) (h0l : n0 ≤ l) (hB1 : Bs < n1) (xs : List ByteArray) (x : ByteArray) (W : World) (h : ApAt fn sv Bs l D n1 xs W) (hlen : xs.length < 100000) (hW : n1 ≤ W.heap.size) :
    YieldAt Fence.wide m Tryz.prog l #[.string x] W fun e W' => e = .returned (.bool true) ∧ ApAt fn sv Bs l D n1 (xs ++ [x]) W' ∧ Eff n0 n1 40 9 l W W' := by
  obtain ⟨i0, hi, hz0, hz1, hz2⟩ := info_parts info9
  obtain ⟨v, hv, hrow, _⟩ := h.box
  refine ⟨fn, #[.slice none 0 0, sv, .pointer (some ⟨Bs, 0, none⟩), undef, .slice none 0 0, undef, sv, .string x, undef, undef, undef, undef, undef], apAssign, apBody, by simpa [apRec] using run_yield (P := Tryz.prog) (args := #[.string x]) h.L rfl, roundIn_of_wpIn trivial ?_⟩
  have hl : l < W.heap.size := (Array.getElem?_eq_some_iff.1 h.L).1
  have hbr := run_beginRound (P := Tryz.prog) h.L rfl
  obtain ⟨W2, hW2⟩ : ∃ W2, W.putObj l (.loop { apRec fn sv Bs D .ready none with state := .busy }) = W2 := ⟨_, rfl⟩
  rw [hW2] at hbr
  have hg2 : W.grownBy W2 (some l) := by rw [← hW2]; exact grown_putObj _ _ _
  have hs2 : W.heap.size ≤ W2.heap.size := by rw [← hW2]; simp
  have hv2 : W2.heap[Bs]? = some (.cells #[v] 40 (0, 0)) := by rw [← hW2]; exact (World.putObj_heap_other hBl).trans hv
  have hK2 : W2.heap[D]? = some (.deferred (some [])) := by rw [← hW2]; exact (World.putObj_heap_other hDl).trans h.K
  have hL2 : W2.heap[l]? = some (.loop { apRec fn sv Bs D .ready none with state := .busy }) := by rw [← hW2]; exact World.putObj_heap_same hl
  have hrow2 : W2.ownsRow n1 9 1 v xs.length (xs.map Value.string) := hrow.kept hg2 (own_ne hrow h.L (fun cur e => by cases e))
  obtain ⟨hc2, hf2⟩ := box_cell hv2
  have hBlt : Bs < W2.heap.size := (Array.getElem?_eq_some_iff.1 hv2).1
  have hl2 : l < W2.heap.size := (Array.getElem?_eq_some_iff.1 hL2).1
  have hDlt : D < W2.heap.size := (Array.getElem?_eq_some_iff.1 hK2).1
  have ne_of : ∀ {j : Nat} {o : Obj}, W2.heap[j]? = some o → (∀ cur, o ≠ .cells cur 9 (0, 0)) → some j ≠ v.ownBlock := fun hj hno => by
    rcases own_ne hrow2 hj hno with e | e
    · rw [e]; simp
    · exact fun e' => e e'.symm
  have hown2 := hrow2.lt
  clear hW2
  unfold apAssign
  gi_wp2
  unfold apBody
  gi_wp2_with (gi_at_builtin; refine wpListIn_append_own _ rfl _ _ 40 rfl n1 9 i0 (.string ⟨#[]⟩) 1 16 Tryz.underlying40 hi hz0 hz1 hz2 rfl (by decide) _ _ _ rfl (hrow2.alloc _) ⟨W2.heap.size, 0, none⟩ 1 1 [.string x] rfl rfl (cell_one_new _ _ _) (by simp [Value.oneCell']) (by unfold maxLen; omega) (by omega) (by simp; omega) ?_; intro v' w3 hown' hg3 hnil3; have hv3 : w3.heap[Bs]? = some (.cells #[v] 40 (0, 0)) := (hg3.block Bs (by simp; omega) (ne_of hv2 (fun cur e => by cases e))).trans ((Below.heap_alloc _ _ Bs hBlt).trans hv2); obtain ⟨hc3, hf3⟩ := box_cell hv3; obtain ⟨g', cap', hv', _⟩ := World.ownsRow.form hown' (by omega); subst hv'; go_frame)
  have hL3 : w3.heap[l]? = some (.loop { apRec fn sv Bs D .ready none with state := .busy }) := (hg3.block l (by simp; omega) (ne_of hL2 (fun cur e => by cases e))).trans ((Below.heap_alloc _ _ l hl2).trans hL2)
  have hK3 : w3.heap[D]? = some (.deferred (some [])) := (hg3.block D (by simp; omega) (ne_of hK2 (fun cur e => by cases e))).trans ((Below.heap_alloc _ _ D hDlt).trans hK2)
  have hb3 : Below n0 W w3 := ((((Below.refl n0 W).grown hg2 (by omega) (fun k e => by have : l = k := Option.some.inj e; omega)).alloc (by omega) _).grown hg3 (by simp; omega) (fun k e => by have := (hown2 k e).1; omega))
  have same3 : ∀ (k : Nat) (o : Obj), W.heap[k]? = some o → k ≠ l → some k ≠ v.ownBlock → w3.heap[k]? = some o := fun k o hk h1 h2 => by
    have hk1 := (Array.getElem?_eq_some_iff.1 hk).1
    rw [hg3.block k (by simp; omega) h2, Below.heap_alloc _ _ k (by omega), hg2.block k hk1 (fun e => h1 (Option.some.inj e)), hk]
  generalize hw4 : w3.setCell ⟨Bs, 0, none⟩ (.slice (some ⟨g', 0, none⟩) (xs.length + 1) cap') = w4
  have hg4 : w3.grownBy w4 (some Bs) := by rw [← hw4]; exact grown_setCell _ _ _ _
  have hv4 : w4.heap[Bs]? = some (.cells #[.slice (some ⟨g', 0, none⟩) (xs.length + 1) cap'] 40 (0, 0)) := by rw [← hw4]; exact box_set _ hv3
  have o4 : ∀ k, k ≠ Bs → w4.heap[k]? = w3.heap[k]? := fun k hk => by rw [← hw4]; exact heap_setCell_other _ _ _ _ hk
  have hL4 := (o4 l (fun e => hBl e.symm)).trans hL3
  have hb4 : Below n0 W w4 := by rw [← hw4]; exact hb3.setCell (p := ⟨Bs, 0, none⟩) h0B _
  have hl4 : l < w4.heap.size := (Array.getElem?_eq_some_iff.1 hL4).1
  clear hw4
  refine ⟨_, _, run_endRound none hL4, rfl, ⟨⟨_, (World.putObj_heap_other hBl).trans hv4, ?_, by simp⟩, World.putObj_heap_same hl4, (World.putObj_heap_other hDl).trans ((o4 D hDB).trans hK3)⟩, ⟨hb4.grown (grown_putObj _ _ _) (by have := hb4.size; omega) (fun k e => by have : l = k := Option.some.inj e; omega), fun k cs t f hk ht hte => ?_⟩, fun k o hk ho hkl => ?_⟩
  · have hown4 : w4.ownsRow n1 9 1 (.slice (some ⟨g', 0, none⟩) (xs.length + 1) cap') (xs.length + 1) (xs.map Value.string ++ [.string x]) := own_of hown' fun g2 cur hg2 hcur => o4 g2 (typ_ne hcur hv3 (by decide))
    have := own_of hown4 (w' := w4.putObj l (.loop { apRec fn sv Bs D .ready none with state := (if (none : Option Code).isNone then .ready else .done), pending := none })) fun g2 cur hg2 hcur => World.putObj_heap_other (fun e => by rw [e, hL4] at hcur; cases hcur)
    simpa using this
  · have hkl : k ≠ l := fun e => by rw [e, h.L] at hk; cases hk
    have hkB : k ≠ Bs := typ_ne hk hv ht
    rw [World.putObj_heap_other hkl, o4 k hkB]
    refine same3 k _ hk hkl (fun e => ?_)
    rcases hte with h9 | h1
    · rcases own_ne hrow hk (fun cur e' => h9 (by injection e')) with e' | e'
      · rw [e'] at e; cases e
      · exact e' e.symm
    · have := (hrow.lt k e.symm).1; omega
  · have hkB : k ≠ Bs := fun e => by rw [e, hv] at hk; exact ho _ _ _ (Option.some.inj hk).symm
    rw [World.putObj_heap_other hkl, o4 k hkB]
    refine same3 k o hk hkl ?_
    rcases own_ne hrow hk (fun cur => ho _ _ _) with e | e
    · rw [e]; simp
    · exact fun e' => e e'.symm
end Go.Proofs.YtpbmbaffncnglaaGreatDoor.Sv
end
section
set_option linter.unusedVariables false
set_option linter.unusedSimpArgs false
/- allString's round: the region that draws its order, walked by what is listed -/
namespace Go.Proofs.YtpbmbaffncnglaaGreatDoor.Sv
open Go Go.RowKit Rx Go.Shelf
set_option maxRecDepth 100000
attribute [local go_sem] Oper.semAt_some
def asOps : Array Oper := #[{ dst := some 11, op := Op.load 41 (Operand.tmp 4), type := 41, pos := "regexp.go:250", after := #[], guard := none }, { dst := some 12, op := Op.load 9 (Operand.tmp 2), type := 9, pos := "regexp.go:250", after := #[], guard := none }, { dst := some 13, op := Op.move (Operand.tmp 5), type := 114, pos := "regexp.go:250", after := #[], guard := none }, { dst := some 14, op := Op.indexAddr 114 (Operand.tmp 13) (Operand.const (Value.int IntKind.i64 0)), type := 0, pos := "regexp.go:250", after := #[{ on := 2, ground := Ground.data }], guard := none }, { dst := some 15, op := Op.load 3 (Operand.tmp 14), type := 3, pos := "regexp.go:250", after := #[{ on := 3, ground := Ground.data }], guard := none }, { dst := some 16, op := Op.move (Operand.tmp 5), type := 114, pos := "regexp.go:250", after := #[], guard := none }, { dst := some 17, op := Op.indexAddr 114 (Operand.tmp 16) (Operand.const (Value.int IntKind.i64 1)), type := 0, pos := "regexp.go:250", after := #[{ on := 5, ground := Ground.data }], guard := none }, { dst := some 18, op := Op.load 3 (Operand.tmp 17), type := 3, pos := "regexp.go:250", after := #[{ on := 6, ground := Ground.data }], guard := none }, { dst := some 19, op := Op.slice 9 (Operand.tmp 12) (some (Operand.tmp 15)) (some (Operand.tmp 18)) none, type := 9, pos := "regexp.go:250", after := #[{ on := 1, ground := Ground.data }, { on := 4, ground := Ground.data }, { on := 7, ground := Ground.data }], guard := none }, { dst := some 20, op := Op.call { callee := Callee.value (Operand.tmp 11), args := #[Operand.tmp 19], argTypes := #[9] }, type := 4, pos := "regexp.go:250", after := #[{ on := 0, ground := Ground.data }, { on := 8, ground := Ground.data }], guard := none }, { dst := some 21, op := Op.unOp UnOp.not 4 (Operand.tmp 20), type := 4, pos := "regexp.go:250", after := #[{ on := 9, ground := Ground.data }], guard := none }]
/-- what is listed -/
def lst (l : Nat → Bool) : Array Bool := #[l 0, l 1, l 2, l 3, l 4, l 5, l 6, l 7, l 8, false, false]
def upd (l : Nat → Bool) (i : Nat) : Nat → Bool := fun j => if j = i then true else l j
/-- the frame, when so much is listed -/
def asSt (l : Nat → Bool) (a0 a1 a2 a3 a4 a5 a6 a7 a8 a9 a10 : Value) (vs : Nat → Value) : Act :=
  { tmps := #[a0, a1, a2, a3, a4, a5, a6, a7, a8, a9, a10, if l 0 then vs 0 else undef, if l 1 then vs 1 else undef, if l 2 then vs 2 else undef, if l 3 then vs 3 else undef, if l 4 then vs 4 else undef, if l 5 then vs 5 else undef, if l 6 then vs 6 else undef, if l 7 then vs 7 else undef, if l 8 then vs 8 else undef, undef, undef], defers := [] }
def cntL (l : Nat → Bool) : Nat := (l 0).toNat + (l 1).toNat + (l 2).toNat + (l 3).toNat + (l 4).toNat + (l 5).toNat + (l 6).toNat + (l 7).toNat + (l 8).toNat
structure ConsL (l : Nat → Bool) : Prop where
  c3 : l 3 = true → l 2 = true
  c4 : l 4 = true → l 3 = true
  c6 : l 6 = true → l 5 = true
  c7 : l 7 = true → l 6 = true
  c8 : l 8 = true → l 1 = true ∧ l 4 = true ∧ l 7 = true
theorem ready_some : ∀ b0 b1 b2 b3 b4 b5 b6 b7 b8 : Bool, (b3 = true → b2 = true) → (b4 = true → b3 = true) → (b6 = true → b5 = true) → (b7 = true → b6 = true) → (b8 = true → b1 = true ∧ b4 = true ∧ b7 = true) → (Region.ready .any asOps #[b0, b1, b2, b3, b4, b5, b6, b7, b8, false, false]).isEmpty = true → False := by decide +kernel
theorem cnt_upd (l : Nat → Bool) (i : Nat) (hi : i < 9) (h : l i = false) : cntL (upd l i) = cntL l + 1 := by
  have : i = 0 ∨ i = 1 ∨ i = 2 ∨ i = 3 ∨ i = 4 ∨ i = 5 ∨ i = 6 ∨ i = 7 ∨ i = 8 := by omega
  rcases this with rfl | rfl | rfl | rfl | rfl | rfl | rfl | rfl | rfl <;> simp [cntL, upd, h] <;> omega
theorem lst_upd (l : Nat → Bool) (i : Nat) (hi : i < 9) : (lst l).setIfInBounds i true = lst (upd l i) := by
  have : i = 0 ∨ i = 1 ∨ i = 2 ∨ i = 3 ∨ i = 4 ∨ i = 5 ∨ i = 6 ∨ i = 7 ∨ i = 8 := by omega
  rcases this with rfl | rfl | rfl | rfl | rfl | rfl | rfl | rfl | rfl <;> simp [lst, upd]
theorem ConsL.up {l : Nat → Bool} (h : ConsL l) (i : Nat) (h3 : i = 3 → l 2 = true) (h4 : i = 4 → l 3 = true) (h6 : i = 6 → l 5 = true) (h7 : i = 7 → l 6 = true) (h8 : i = 8 → l 1 = true ∧ l 4 = true ∧ l 7 = true) : ConsL (upd l i) := by
  have up : ∀ j, l j = true → upd l i j = true := fun j hj => by unfold upd; split <;> simp [hj]
  refine ⟨fun hh => up 2 ?_, fun hh => up 3 ?_, fun hh => up 5 ?_, fun hh => up 6 ?_, fun hh => ?_⟩
  · by_cases e : i = 3
    · exact h3 e
    · exact h.c3 (by simpa [upd, Ne.symm e] using hh)
  · by_cases e : i = 4
    · exact h4 e
    · exact h.c4 (by simpa [upd, Ne.symm e] using hh)
  · by_cases e : i = 6
    · exact h6 e
    · exact h.c6 (by simpa [upd, Ne.symm e] using hh)
  · by_cases e : i = 7
    · exact h7 e
    · exact h.c7 (by simpa [upd, Ne.symm e] using hh)
  · have : l 1 = true ∧ l 4 = true ∧ l 7 = true := by
      by_cases e : i = 8
      · exact h8 e
      · exact h.c8 (by simpa [upd, Ne.symm e] using hh)
    exact ⟨up 1 this.1, up 4 this.2.1, up 7 this.2.2⟩
/-- the values, in the operations' order -/
def asVals (l1 g pl cap p e : Nat) (s : ByteArray) : Nat → Value
  | 0 => .func (.yield l1) #[] #[]
  | 1 => .string s
  | 2 => .slice (some ⟨g, 0, none⟩) pl cap
  | 3 => .pointer (some ⟨g, 0, none⟩)
  | 4 => .int .i64 p
  | 5 => .slice (some ⟨g, 0, none⟩) pl cap
  | 6 => .pointer (some ⟨g, 1, none⟩)
  | 7 => .int .i64 e
  | 8 => .string (s.extract p e)
  | _ => undef
set_option maxHeartbeats 2000000 in
theorem reg3 (m l1 l2 Y s0 g pl cap p e : Nat) (s : ByteArray) (a0 a1 a3 a6 a7 a8 a9 a10 : Value) (w : World) (Q : Exit → Act → World → Prop) (hY : w.cell? ⟨Y, 0, none⟩ = some (.func (.yield l1) #[] #[])) (hS : w.cell? ⟨s0, 0, none⟩ = some (.string s))
    (h0 : w.cell? ⟨g, 0, none⟩ = some (.int .i64 p)) (h1 : w.cell? ⟨g, 1, none⟩ = some (.int .i64 e)) (hpl : (1 : Int) < (pl : Int)) (hpe : (p : Int) ≤ (e : Int)) (hes : (e : Int) ≤ (s.size : Int))
    (fin : wpAnyIn (Fence.wide.inRound l2) m Tryz.prog .any asOps Q 2 (lst fun _ => true) (asSt (fun _ => true) a0 a1 (.pointer (some ⟨s0, 0, none⟩)) a3 (.pointer (some ⟨Y, 0, none⟩)) (.slice (some ⟨g, 0, none⟩) pl cap) a6 a7 a8 a9 a10 (asVals l1 g pl cap p e s)) w) :
    ∀ (c : Nat) (l : Nat → Bool), cntL l + c = 9 → ConsL l → wpAnyIn (Fence.wide.inRound l2) m Tryz.prog .any asOps Q (c + 2) (lst l) (asSt l a0 a1 (.pointer (some ⟨s0, 0, none⟩)) a3 (.pointer (some ⟨Y, 0, none⟩)) (.slice (some ⟨g, 0, none⟩) pl cap) a6 a7 a8 a9 a10 (asVals l1 g pl cap p e s)) w := by
  have hpl0 : (0 : Int) < (pl : Int) := by omega
  have hpl0' : 0 < pl := by omega
  have tl : ∀ b : Bool, b.toNat ≤ 1 := fun b => by cases b <;> decide
  have full : ∀ l : Nat → Bool, cntL l = 9 → l 0 = true ∧ l 1 = true ∧ l 2 = true ∧ l 3 = true ∧ l 4 = true ∧ l 5 = true ∧ l 6 = true ∧ l 7 = true ∧ l 8 = true := fun l h => by
    unfold cntL at h
    have hb : ∀ b : Bool, b.toNat = 1 → b = true := fun b => by cases b <;> simp
    have h0 := tl (l 0); have h1 := tl (l 1); have h2 := tl (l 2); have h3 := tl (l 3); have h4 := tl (l 4); have h5 := tl (l 5); have h6 := tl (l 6); have h7 := tl (l 7); have h8 := tl (l 8)
    exact ⟨hb _ (by omega), hb _ (by omega), hb _ (by omega), hb _ (by omega), hb _ (by omega), hb _ (by omega), hb _ (by omega), hb _ (by omega), hb _ (by omega)⟩
  intro c
  induction c with
  | zero =>
    intro l hl hc
    obtain ⟨e0, e1, e2, e3, e4, e5, e6, e7, e8⟩ := full l (by omega)
    have h1 : lst l = lst fun _ => true := by simp [lst, e0, e1, e2, e3, e4, e5, e6, e7, e8]
    have h2 : asSt l a0 a1 (.pointer (some ⟨s0, 0, none⟩)) a3 (.pointer (some ⟨Y, 0, none⟩)) (.slice (some ⟨g, 0, none⟩) pl cap) a6 a7 a8 a9 a10 (asVals l1 g pl cap p e s) = asSt (fun _ => true) a0 a1 (.pointer (some ⟨s0, 0, none⟩)) a3 (.pointer (some ⟨Y, 0, none⟩)) (.slice (some ⟨g, 0, none⟩) pl cap) a6 a7 a8 a9 a10 (asVals l1 g pl cap p e s) := by simp [asSt, e0, e1, e2, e3, e4, e5, e6, e7, e8]
    rw [h1, h2]
    exact fin
  | succ c ih =>
    intro l hl hc
    refine ⟨fun h => ?_, fun j hj => ?_⟩
    · exact (ready_some (l 0) (l 1) (l 2) (l 3) (l 4) (l 5) (l 6) (l 7) (l 8) hc.c3 hc.c4 hc.c6 hc.c7 hc.c8 (by unfold lst at h; rw [h]; rfl)).elim
    obtain ⟨hjun, oj, hoj, hall⟩ := mem_ready.1 hj
    have hj11 : j < 11 := (Array.getElem?_eq_some_iff.1 hoj).1
    have hjs : j = 0 ∨ j = 1 ∨ j = 2 ∨ j = 3 ∨ j = 4 ∨ j = 5 ∨ j = 6 ∨ j = 7 ∨ j = 8 ∨ j = 9 ∨ j = 10 := by omega
    rcases hjs with rfl | rfl | rfl | rfl | rfl | rfl | rfl | rfl | rfl | rfl | rfl
    · obtain rfl : oj = asOps[0] := (Option.some.inj hoj).symm
      have hz : l 0 = false := by simpa [lst] using hjun
      have hn := ih (upd l 0) (by have := cnt_upd l 0 (by decide) hz; omega) (hc.up 0 (fun h => by omega) (fun h => by omega) (fun h => by omega) (fun h => by omega) (fun h => by omega))
      rw [← lst_upd l 0 (by decide)] at hn
      refine wpOpIn_step rfl (fun K' hK => ?_)
      have hn := hK _ _ hn
      clear hK hall hj hjun hoj ih hl hc fin
      unfold asSt at hn ⊢
      simp only [asOps, List.getElem_toArray, List.getElem_cons_succ, List.getElem_cons_zero]
      simp only [asVals]
      go_simp
      simpa [upd, hz, asVals, hz] using hn
    · obtain rfl : oj = asOps[1] := (Option.some.inj hoj).symm
      have hz : l 1 = false := by simpa [lst] using hjun
      have hn := ih (upd l 1) (by have := cnt_upd l 1 (by decide) hz; omega) (hc.up 1 (fun h => by omega) (fun h => by omega) (fun h => by omega) (fun h => by omega) (fun h => by omega))
      rw [← lst_upd l 1 (by decide)] at hn
      refine wpOpIn_step rfl (fun K' hK => ?_)
      have hn := hK _ _ hn
      clear hK hall hj hjun hoj ih hl hc fin
      unfold asSt at hn ⊢
      simp only [asOps, List.getElem_toArray, List.getElem_cons_succ, List.getElem_cons_zero]
      simp only [asVals]
      go_simp
      simpa [upd, hz, asVals, hz] using hn
    · obtain rfl : oj = asOps[2] := (Option.some.inj hoj).symm
      have hz : l 2 = false := by simpa [lst] using hjun
      have hn := ih (upd l 2) (by have := cnt_upd l 2 (by decide) hz; omega) (hc.up 2 (fun h => by omega) (fun h => by omega) (fun h => by omega) (fun h => by omega) (fun h => by omega))
      rw [← lst_upd l 2 (by decide)] at hn
      refine wpOpIn_step rfl (fun K' hK => ?_)
      have hn := hK _ _ hn
      clear hK hall hj hjun hoj ih hl hc fin
      unfold asSt at hn ⊢
      simp only [asOps, List.getElem_toArray, List.getElem_cons_succ, List.getElem_cons_zero]
      simp only [asVals]
      go_simp
      simpa [upd, hz, asVals, hz] using hn
    · obtain rfl : oj = asOps[3] := (Option.some.inj hoj).symm
      have d2 : l 2 = true := by simpa [lst] using hall ⟨2, Ground.data⟩ (by simp [asOps]) (by rfl)
      have hz : l 3 = false := by simpa [lst] using hjun
      have hn := ih (upd l 3) (by have := cnt_upd l 3 (by decide) hz; omega) (hc.up 3 (fun _ => d2) (fun h => by omega) (fun h => by omega) (fun h => by omega) (fun h => by omega))
      rw [← lst_upd l 3 (by decide)] at hn
      refine wpOpIn_step rfl (fun K' hK => ?_)
      have hn := hK _ _ hn
      clear hK hall hj hjun hoj ih hl hc fin
      unfold asSt at hn ⊢
      simp only [asOps, List.getElem_toArray, List.getElem_cons_succ, List.getElem_cons_zero]
      simp only [d2, if_true, asVals]
      go_simp
      simpa [upd, hz, asVals, d2] using hn
    · obtain rfl : oj = asOps[4] := (Option.some.inj hoj).symm
      have d3 : l 3 = true := by simpa [lst] using hall ⟨3, Ground.data⟩ (by simp [asOps]) (by rfl)
      have hz : l 4 = false := by simpa [lst] using hjun
      have hn := ih (upd l 4) (by have := cnt_upd l 4 (by decide) hz; omega) (hc.up 4 (fun h => by omega) (fun _ => d3) (fun h => by omega) (fun h => by omega) (fun h => by omega))
      rw [← lst_upd l 4 (by decide)] at hn
      refine wpOpIn_step rfl (fun K' hK => ?_)
      have hn := hK _ _ hn
      clear hK hall hj hjun hoj ih hl hc fin
      unfold asSt at hn ⊢
      simp only [asOps, List.getElem_toArray, List.getElem_cons_succ, List.getElem_cons_zero]
      simp only [d3, if_true, asVals]
      go_simp
      simpa [upd, hz, asVals, d3] using hn
    · obtain rfl : oj = asOps[5] := (Option.some.inj hoj).symm
      have hz : l 5 = false := by simpa [lst] using hjun
      have hn := ih (upd l 5) (by have := cnt_upd l 5 (by decide) hz; omega) (hc.up 5 (fun h => by omega) (fun h => by omega) (fun h => by omega) (fun h => by omega) (fun h => by omega))
      rw [← lst_upd l 5 (by decide)] at hn
      refine wpOpIn_step rfl (fun K' hK => ?_)
      have hn := hK _ _ hn
      clear hK hall hj hjun hoj ih hl hc fin
      unfold asSt at hn ⊢
      simp only [asOps, List.getElem_toArray, List.getElem_cons_succ, List.getElem_cons_zero]
      simp only [asVals]
      go_simp
      simpa [upd, hz, asVals, hz] using hn
    · obtain rfl : oj = asOps[6] := (Option.some.inj hoj).symm
      have d5 : l 5 = true := by simpa [lst] using hall ⟨5, Ground.data⟩ (by simp [asOps]) (by rfl)
      have hz : l 6 = false := by simpa [lst] using hjun
      have hn := ih (upd l 6) (by have := cnt_upd l 6 (by decide) hz; omega) (hc.up 6 (fun h => by omega) (fun h => by omega) (fun _ => d5) (fun h => by omega) (fun h => by omega))
      rw [← lst_upd l 6 (by decide)] at hn
      refine wpOpIn_step rfl (fun K' hK => ?_)
      have hn := hK _ _ hn
      clear hK hall hj hjun hoj ih hl hc fin
      unfold asSt at hn ⊢
      simp only [asOps, List.getElem_toArray, List.getElem_cons_succ, List.getElem_cons_zero]
      simp only [d5, if_true, asVals]
      go_simp
      simpa [upd, hz, asVals, d5] using hn
    · obtain rfl : oj = asOps[7] := (Option.some.inj hoj).symm
      have d6 : l 6 = true := by simpa [lst] using hall ⟨6, Ground.data⟩ (by simp [asOps]) (by rfl)
      have hz : l 7 = false := by simpa [lst] using hjun
      have hn := ih (upd l 7) (by have := cnt_upd l 7 (by decide) hz; omega) (hc.up 7 (fun h => by omega) (fun h => by omega) (fun h => by omega) (fun _ => d6) (fun h => by omega))
      rw [← lst_upd l 7 (by decide)] at hn
      refine wpOpIn_step rfl (fun K' hK => ?_)
      have hn := hK _ _ hn
      clear hK hall hj hjun hoj ih hl hc fin
      unfold asSt at hn ⊢
      simp only [asOps, List.getElem_toArray, List.getElem_cons_succ, List.getElem_cons_zero]
      simp only [d6, if_true, asVals]
      go_simp
      simpa [upd, hz, asVals, d6] using hn
    · obtain rfl : oj = asOps[8] := (Option.some.inj hoj).symm
      have d1 : l 1 = true := by simpa [lst] using hall ⟨1, Ground.data⟩ (by simp [asOps]) (by rfl)
      have d4 : l 4 = true := by simpa [lst] using hall ⟨4, Ground.data⟩ (by simp [asOps]) (by rfl)
      have d7 : l 7 = true := by simpa [lst] using hall ⟨7, Ground.data⟩ (by simp [asOps]) (by rfl)
      have hz : l 8 = false := by simpa [lst] using hjun
      have hn := ih (upd l 8) (by have := cnt_upd l 8 (by decide) hz; omega) (hc.up 8 (fun h => by omega) (fun h => by omega) (fun h => by omega) (fun h => by omega) (fun _ => ⟨d1, d4, d7⟩))
      rw [← lst_upd l 8 (by decide)] at hn
      refine wpOpIn_step rfl (fun K' hK => ?_)
      have hn := hK _ _ hn
      clear hK hall hj hjun hoj ih hl hc fin
      unfold asSt at hn ⊢
      simp only [asOps, List.getElem_toArray, List.getElem_cons_succ, List.getElem_cons_zero]
      simp only [d1, d4, d7, if_true, asVals]
      go_simp
      simpa [upd, hz, asVals, d1, d4, d7] using hn
    · exfalso
      obtain rfl : oj = asOps[9] := (Option.some.inj hoj).symm
      have e0 : l 0 = true := by simpa [lst] using hall ⟨0, Ground.data⟩ (by simp [asOps]) (by rfl)
      have e8 : l 8 = true := by simpa [lst] using hall ⟨8, Ground.data⟩ (by simp [asOps]) (by rfl)
      obtain ⟨e1, e4, e7⟩ := hc.c8 e8
      have e3 := hc.c4 e4
      have e2 := hc.c3 e3
      have e6 := hc.c7 e7
      have e5 := hc.c6 e6
      simp [cntL, e0, e1, e2, e3, e4, e5, e6, e7, e8] at hl
    · exfalso
      obtain rfl : oj = asOps[10] := (Option.some.inj hoj).symm
      have e9 := hall ⟨9, Ground.data⟩ (by simp [asOps]) (by rfl)
      simp [lst] at e9
/-- the call of yield, and what is left -/
theorem reg3_fin (m l1 l2 Y s0 g pl cap p e : Nat) (s : ByteArray) (a0 a1 a3 a6 a7 a8 a9 a10 : Value) (w : World) (Q : Exit → Act → World → Prop) {fn : FuncId} {tmps : Array Value} {assign body : Code} {Rp : World → Prop}
    (hy : (Instr.yield l1 #[.string (s.extract p e)]).run Tryz.prog w = .ok (.round l1 fn tmps assign body) w) (hR : RoundIn Fence.wide (m - 1) Tryz.prog l1 fn tmps assign body w fun e w' => e = .returned (.bool true) ∧ Rp w')
    (hQ : ∀ w', Rp w' → Q .normal { tmps := #[a0, a1, .pointer (some ⟨s0, 0, none⟩), a3, .pointer (some ⟨Y, 0, none⟩), .slice (some ⟨g, 0, none⟩) pl cap, a6, a7, a8, a9, a10, .func (.yield l1) #[] #[], .string s, .slice (some ⟨g, 0, none⟩) pl cap, .pointer (some ⟨g, 0, none⟩), .int .i64 p, .slice (some ⟨g, 0, none⟩) pl cap, .pointer (some ⟨g, 1, none⟩), .int .i64 e, .string (s.extract p e), .bool true, .bool false], defers := [] } w') :
    wpAnyIn (Fence.wide.inRound l2) m Tryz.prog .any asOps Q 2 (lst fun _ => true) (asSt (fun _ => true) a0 a1 (.pointer (some ⟨s0, 0, none⟩)) a3 (.pointer (some ⟨Y, 0, none⟩)) (.slice (some ⟨g, 0, none⟩) pl cap) a6 a7 a8 a9 a10 (asVals l1 g pl cap p e s)) w := by
  refine wpAnyIn_ready (rs := [9]) (by kernel_rfl) (by simp) (AllReadyIn.cons rfl (fun K' hK => ?_) AllReadyIn.nil)
  unfold asSt
  simp only [asOps, List.getElem_toArray, List.getElem_cons_succ, List.getElem_cons_zero, asVals, if_true]
  go_simp
  refine ⟨fun h => (by cases h), ?_⟩
  refine RoundIn.mono (F := Fence.wide.inRound l2) hR ?_
  rintro e' w3 ⟨rfl, hp⟩
  refine hK _ _ ?_
  clear hK K'
  refine wpAnyIn_ready (rs := [10]) (by kernel_rfl) (by simp) (AllReadyIn.cons rfl (fun K' hK => ?_) AllReadyIn.nil)
  simp only [asOps, List.getElem_toArray, List.getElem_cons_succ, List.getElem_cons_zero]
  go_simp
  refine hK _ _ ?_
  refine wpAnyIn_done (by kernel_rfl) ?_ _
  have := hQ w3 hp
  simpa using this
end Go.Proofs.YtpbmbaffncnglaaGreatDoor.Sv
end
section
set_option linter.unusedVariables false
set_option linter.unusedSimpArgs false
/- each match's text is handed on: allString's round -/
namespace Go.Proofs.YtpbmbaffncnglaaGreatDoor.Sv
open Go Go.RowKit Rx Go.Shelf
set_option maxRecDepth 100000
attribute [local go_sem] Oper.semAt_some
def asAssign : Code := (Code.region 2 #[{ dst := some 5, op := Op.assign (Operand.tmp 10), type := 114, pos := "regexp.go:249", after := #[], guard := none }] false)
def asBody : Code := (Code.block 1 ((Code.region 3 asOps true).seq (Code.cond (Operand.tmp 21) (Code.exit 0) Code.skip)))
/-- allString's temporaries where the loop is entered -/
def asTmps (l1 re0 s0 n0 Y R : Nat) (s : ByteArray) (it : Value) : Array Value := #[.func (.yield l1) #[] #[], .pointer (some ⟨re0, 0, none⟩), .pointer (some ⟨s0, 0, none⟩), .pointer (some ⟨n0, 0, none⟩), .pointer (some ⟨Y, 0, none⟩), undef, .pointer (some ⟨R, 0, none⟩), .string s, .int .i64 (-1), it, undef, undef, undef, undef, undef, undef, undef, undef, undef, undef, undef, undef]
def asRec (fn : FuncId) (tmps : Array Value) (D : Nat) (st : LoopState) (pend : Option Code) : Loop :=
  { state := st, pending := pend, fn, tmps, params := #[10], assign := asAssign, body := asBody, defers := D }
/-- a match's text -/
def mtext (s : ByteArray) (m : Nat × List (Nat × Nat)) : ByteArray := s.extract m.1 ((lastW m.2 1).getD 0)
/-- between two matches -/
structure MAt (w0 : World) (fn1 : FuncId) (sv1 : Value) (Bs l1 D1 n1 : Nat) (fn2 : FuncId) (tmps2 : Array Value) (l2 D2 Y s0 : Nat) (s : ByteArray) (ms : List (Nat × List (Nat × Nat))) (k : Nat) (W : World) : Prop where
  ap : ApAt fn1 sv1 Bs l1 D1 n1 ((ms.take k).map (mtext s)) W
  L2 : W.heap[l2]? = some (.loop (asRec fn2 tmps2 D2 .ready none))
  K2 : W.heap[D2]? = some (.deferred (some []))
  yb : W.heap[Y]? = some (.cells #[.func (.yield l1) #[] #[]] 41 (0, 0))
  sb : W.heap[s0]? = some (.cells #[.string s] 9 (0, 0))
  below : Below w0.heap.size w0 W
  size : n1 ≤ W.heap.size
theorem ApAt.it {fn : FuncId} {sv : Value} {Bs l D n1 : Nat} {xs : List ByteArray} {A B : World} (h : ApAt fn sv Bs l D n1 xs A) (hi : IT n1 A B) : ApAt fn sv Bs l D n1 xs B := by
  obtain ⟨v, h1, h2, h3⟩ := h.box
  exact ⟨⟨v, hi.same _ _ h1 (fun c e => by injection e with _ e _; cases e), own_of h2 (fun g cur hg hc => by rw [hi.same _ _ hc (fun c e => by injection e with _ e _; cases e), hc]), h3⟩, hi.same _ _ h.L (fun c e => by cases e), hi.same _ _ h.K (fun c e => by cases e)⟩
theorem MAt.it {w0 : World} {fn1 : FuncId} {sv1 : Value} {Bs l1 D1 n1 : Nat} {fn2 : FuncId} {tmps2 : Array Value} {l2 D2 Y s0 : Nat} {s : ByteArray} {ms : List (Nat × List (Nat × Nat))} (h01 : w0.heap.size ≤ n1) (k : Nat) (A B : World) (h : MAt w0 fn1 sv1 Bs l1 D1 n1 fn2 tmps2 l2 D2 Y s0 s ms k A) (hi : IT n1 A B) : MAt w0 fn1 sv1 Bs l1 D1 n1 fn2 tmps2 l2 D2 Y s0 s ms k B :=
  ⟨h.ap.it hi, hi.same _ _ h.L2 (fun c e => by cases e), hi.same _ _ h.K2 (fun c e => by cases e), hi.same _ _ h.yb (fun c e => by injection e with _ e _; cases e), hi.same _ _ h.sb (fun c e => by injection e with _ e _; cases e), h.below.trans (hi.below.mono h01), Nat.le_trans h.size hi.below.size⟩
set_option maxHeartbeats 2000000 in
theorem asY (m : Nat) {w0 : World} {fn1 : FuncId} {sv1 : Value} {Bs l1 D1 n1 : Nat} {fn2 : FuncId} {l2 D2 Y s0 re0 nb R : Nat} {it : Value} {s : ByteArray} {ms : List (Nat × List (Nat × Nat))} (nc pl : Nat) (hnc : 2 ≤ nc ∧ nc ≤ pl) (hs : s.size ≤ 1000000)
    (hBl : Bs ≠ l1) (hDl : D1 ≠ l1) (hDB : D1 ≠ Bs) (h01 : w0.heap.size ≤ n1) (h0B : w0.heap.size ≤ Bs) (h0l : w0.heap.size ≤ l1) (hB1 : Bs < n1) (hlen : ms.length < 100000) (hl21 : l2 ≠ l1) (h02 : w0.heap.size ≤ l2) (hl2 : l2 < n1) (hD2 : D2 ≠ l1) (hDl2 : D2 ≠ l2) (hY1 : Y < n1) (hs01 : s0 < n1)
    (pre : List (Nat × List (Nat × Nat))) (mm : Nat × List (Nat × Nat)) (rest : List (Nat × List (Nat × Nat))) (W : World) (g cap : Nat) (more : List Value) (hpre : ms = pre ++ mm :: rest) (e : Nat) (he : lastW mm.2 1 = some e) (he0 : lastW mm.2 0 = none) (hpe : mm.1 ≤ e) (hes : e ≤ s.size)
    (h : MAt w0 fn1 sv1 Bs l1 D1 n1 fn2 (asTmps l1 re0 s0 nb Y R s it) l2 D2 Y s0 s ms pre.length W) (hown : W.ownsRow n1 3 1 (.slice (some ⟨g, 0, none⟩) pl cap) pl (ints (placesOf nc mm) ++ more)) :
    YieldAt Fence.wide m Tryz.prog l2 #[.slice (some ⟨g, 0, none⟩) pl cap] W fun e W' => e = .returned (.bool true) ∧ MAt w0 fn1 sv1 Bs l1 D1 n1 fn2 (asTmps l1 re0 s0 nb Y R s it) l2 D2 Y s0 s ms (pre.length + 1) W' ∧ KR w0.heap.size n1 40 9 W W' := by
  refine ⟨fn2, #[.func (.yield l1) #[] #[], .pointer (some ⟨re0, 0, none⟩), .pointer (some ⟨s0, 0, none⟩), .pointer (some ⟨nb, 0, none⟩), .pointer (some ⟨Y, 0, none⟩), undef, .pointer (some ⟨R, 0, none⟩), .string s, .int .i64 (-1), it, .slice (some ⟨g, 0, none⟩) pl cap, undef, undef, undef, undef, undef, undef, undef, undef, undef, undef, undef], asAssign, asBody, by simpa [asRec, asTmps] using run_yield (P := Tryz.prog) (args := #[.slice (some ⟨g, 0, none⟩) pl cap]) h.L2 rfl, roundIn_of_wpIn trivial ?_⟩
  have hl : l2 < W.heap.size := (Array.getElem?_eq_some_iff.1 h.L2).1
  have hbr := run_beginRound (P := Tryz.prog) h.L2 rfl
  obtain ⟨W2, hW2⟩ : ∃ W2, W.putObj l2 (.loop { asRec fn2 (asTmps l1 re0 s0 nb Y R s it) D2 .ready none with state := .busy }) = W2 := ⟨_, rfl⟩
  rw [hW2] at hbr
  have hp0 : (ints (placesOf nc mm))[0]? = some (.int .i64 mm.1) := by
    have h1 := applyT_get mm.2 ((List.replicate nc (-1)).set 0 (mm.1 : Int)) 0 (by simp; omega)
    rw [he0] at h1
    simp only [ints, List.getElem?_map, placesOf]
    rw [h1]
    have h2 : ((List.replicate nc (-1 : Int)).set 0 (mm.1 : Int))[0]? = some (mm.1 : Int) := by rw [List.getElem?_set]; simp; omega
    simp only [List.getD, h2]; rfl
  have hp1 : (ints (placesOf nc mm))[1]? = some (.int .i64 e) := by
    have h1 := applyT_get mm.2 ((List.replicate nc (-1)).set 0 (mm.1 : Int)) 1 (by simp; omega)
    rw [he] at h1
    simp only [ints, List.getElem?_map, placesOf]
    rw [h1]; rfl
  have hpl : (ints (placesOf nc mm)).length = nc := by simp [ints, placesOf, applyT_length]
  have o2 : ∀ k, k ≠ l2 → W2.heap[k]? = W.heap[k]? := fun k hk => by rw [← hW2]; exact World.putObj_heap_other hk
  obtain ⟨curg, hcurg⟩ := own_row hown g rfl
  have hgl : g ≠ l2 := fun e => by rw [e, h.L2] at hcurg; cases hcurg
  have cg : ∀ j v, j < pl → (ints (placesOf nc mm) ++ more)[j]? = some v → W2.cell? ⟨g, j, none⟩ = some v := fun j v hj hv => by
    rw [World.cell?_of_block (w := W) (o2 g hgl), hown.cellAt j (by omega), hv]
  have c0 := cg 0 _ (by omega) (by rw [List.getElem?_append_left (by omega)]; exact hp0)
  have c1 := cg 1 _ (by omega) (by rw [List.getElem?_append_left (by omega)]; exact hp1)
  have oc : ∀ {k : Nat} {o : Obj}, W.heap[k]? = some o → (∀ r, o ≠ .loop r) → W2.heap[k]? = some o := fun {k o} hk hn => (o2 k (fun e => by rw [e, h.L2] at hk; exact hn _ (Option.some.inj hk).symm)).trans hk
  have cY := (box_cell (oc h.yb (fun r e => by cases e))).1
  have cS := (box_cell (oc h.sb (fun r e => by cases e))).1
  have hL2 : W2.heap[l2]? = some (.loop { asRec fn2 (asTmps l1 re0 s0 nb Y R s it) D2 .ready none with state := .busy }) := by rw [← hW2]; exact World.putObj_heap_same hl
  have hap2 : ApAt fn1 sv1 Bs l1 D1 n1 ((ms.take pre.length).map (mtext s)) W2 := by
    obtain ⟨v, h1, h2, h3⟩ := h.ap.box
    exact ⟨⟨v, oc h1 (fun r e => by cases e), own_of h2 (fun g cur hg hc => by rw [oc hc (fun r e => by cases e), hc]), h3⟩, (o2 l1 (fun e => hl21 e.symm)).trans h.ap.L, oc h.ap.K (fun r e => by cases e)⟩
  have hs2 : W.heap.size ≤ W2.heap.size := by rw [← hW2]; simp
  have hb2 : Below w0.heap.size W W2 := by rw [← hW2]; exact (Below.refl _ W).grown (grown_putObj _ _ _) (by have := h.size; omega) (fun k e => by have : l2 = k := Option.some.inj e; omega)
  have htk : ms.take pre.length = pre := by rw [hpre]; simp
  have htk1 : ms.take (pre.length + 1) = pre ++ [mm] := by rw [hpre, show pre ++ mm :: rest = (pre ++ [mm]) ++ rest by simp]; exact List.take_left' (by simp)
  have hmt : mtext s mm = s.extract mm.1 e := by unfold mtext; rw [he]; rfl
  have hyy := fun m' => apY m' fn1 sv1 Bs l1 D1 w0.heap.size n1 hBl hDl hDB h01 h0B h0l hB1 ((ms.take pre.length).map (mtext s)) (s.extract mm.1 e) W2.drew ⟨hap2.box, hap2.L, hap2.K⟩ (by rw [htk, List.length_map]; have := congrArg List.length hpre; simp at this; omega) (Nat.le_trans h.size hs2)
  have HH := Lib.hid h
  have HY := Lib.hid hyy
  have k1 : (mm.1 : Int) ≤ (e : Int) := by omega
  have k2 : (e : Int) ≤ (s.size : Int) := by omega
  have k3 : (1 : Int) < (pl : Int) := by omega
  have HO := Lib.hid (And.intro o2 (And.intro hL2 (And.intro hs2 (And.intro hb2 (And.intro htk1 htk)))))
  have HMT := Lib.hid hmt
  clear hW2 oc cg hp0 hp1 hyy h hap2 o2 hL2 hs2 hb2 htk htk1 hmt hpe hes he he0 hpre
  unfold asAssign
  gi_wp2
  unfold asBody
  gi_wp2
  obtain ⟨fn, tmps, assign, body, hy, hR⟩ := HY.out (m - 1)
  refine wpIn_region_any (by kernel_rfl) ?_
  change wpAnyIn _ _ _ _ _ _ (9 + 2) (lst fun _ => false) (asSt (fun _ => false) _ _ (.pointer (some ⟨s0, 0, none⟩)) _ (.pointer (some ⟨Y, 0, none⟩)) (.slice (some ⟨g, 0, none⟩) pl cap) _ _ _ _ _ (asVals l1 g pl cap mm.1 e s)) W2.drew
  refine reg3 m l1 l2 Y s0 g pl cap mm.1 e s _ _ _ _ _ _ _ _ W2.drew _ cY cS c0 c1 k3 k1 k2 (reg3_fin m l1 l2 Y s0 g pl cap mm.1 e s _ _ _ _ _ _ _ _ W2.drew _ hy (hR.mono fun e' w' h => h) (fun w3 hp => ?_)) 9 _ rfl ⟨fun h => (by cases h), fun h => (by cases h), fun h => (by cases h), fun h => (by cases h), fun h => (by cases h)⟩
  have HP := Lib.hid hp
  clear hp hy hR
  gi_wp2
  obtain ⟨hap3, heff⟩ := HP.out
  obtain ⟨o2, hL2, hs2, hb2, htk1, htk⟩ := HO.out
  have h := HH.out
  have hL3 := heff.objs l2 _ hL2 (fun cs t f e => by cases e) hl21
  have hl3 : l2 < w3.heap.size := (Array.getElem?_eq_some_iff.1 hL3).1
  have hb3 : Below w0.heap.size W w3 := (hb2.drew).trans heff.kr.below
  have oc : ∀ {k : Nat} {o : Obj}, W.heap[k]? = some o → (∀ r, o ≠ .loop r) → W2.heap[k]? = some o := fun {k o} hk hn => (o2 k (fun e => by rw [e, h.L2] at hk; exact hn _ (Option.some.inj hk).symm)).trans hk
  refine ⟨_, _, run_endRound none hL3, rfl, ?_, ?_⟩
  · generalize hw4 : w3.putObj l2 _ = w4
    have o4 : ∀ {k : Nat} {o : Obj}, w3.heap[k]? = some o → (∀ r, o ≠ .loop r) → w4.heap[k]? = some o := fun {k o} hk hn => by
      rw [← hw4]; exact (World.putObj_heap_other (fun e => by rw [e, hL3] at hk; exact hn _ (Option.some.inj hk).symm)).trans hk
    have hL4 : w4.heap[l2]? = some (.loop (asRec fn2 (asTmps l1 re0 s0 nb Y R s it) D2 .ready none)) := by rw [← hw4]; exact World.putObj_heap_same hl3
    have hl14 : w4.heap[l1]? = w3.heap[l1]? := by rw [← hw4]; exact World.putObj_heap_other (fun e => hl21 e.symm)
    obtain ⟨v, h1, h2, h3⟩ := hap3.box
    refine ⟨⟨⟨v, o4 h1 (fun r e => by cases e), ?_, ?_⟩, hl14.trans hap3.L, o4 hap3.K (fun r e => by cases e)⟩, hL4, ?_, ?_, ?_, ?_, ?_⟩
    · have h4 := own_of h2 (w' := w4) (fun g cur hg hc => by rw [o4 hc (fun r e => by cases e), hc])
      rw [htk] at h4
      rw [htk1, List.map_append, List.map_cons, List.map_nil, HMT.out]
      exact h4
    · rw [htk] at h3
      rw [htk1, List.map_append, List.map_cons, List.map_nil, HMT.out]
      exact h3
    · exact o4 (heff.objs D2 _ (show W2.drew.heap[D2]? = _ from oc h.K2 (fun r e => by cases e)) (fun cs t f e => by cases e) hD2) (fun r e => by cases e)
    · exact o4 (heff.kr.same Y _ _ _ (show W2.drew.heap[Y]? = _ from oc h.yb (fun r e => by cases e)) (by decide) (.inl (by decide))) (fun r e => by cases e)
    · exact o4 (heff.kr.same s0 _ _ _ (show W2.drew.heap[s0]? = _ from oc h.sb (fun r e => by cases e)) (by decide) (.inr hs01)) (fun r e => by cases e)
    · rw [← hw4]; exact (h.below.trans hb3).grown (grown_putObj _ _ _) (by have := h.below.size; have := hb3.size; omega) (fun k e => by have : l2 = k := Option.some.inj e; omega)
    · rw [← hw4]; have := hb3.size; have := h.size; simp; omega
  · refine ⟨hb3.grown (grown_putObj _ _ _) (by have := h.below.size; have := hb3.size; omega) (fun k e => by have : l2 = k := Option.some.inj e; omega), fun k cs t f hk ht hte => ?_⟩
    have hkl : k ≠ l2 := fun e => by rw [e, h.L2] at hk; cases hk
    rw [World.putObj_heap_other hkl]
    exact heff.kr.same k cs t f ((o2 k hkl).trans hk) ht hte
end Go.Proofs.YtpbmbaffncnglaaGreatDoor.Sv
end
section
set_option linter.unusedVariables false
set_option linter.unusedSimpArgs false
/- allString: the texts of all matches are handed on -/
namespace Go.Proofs.YtpbmbaffncnglaaGreatDoor.Sv
open Go Go.RowKit Rx Go.Shelf
set_option maxRecDepth 100000
attribute [local go_sem] Oper.semAt_some
theorem t85 (w : World) (R : Addr) (s : ByteArray) (nc : Nat) :
    Calls Tryz.prog 64 #[.pointer (some R), .string s, .slice none 0 0, .int .i64 (-1), .int .i64 nc] w fun e w' =>
      e = .returned (.func (.func 84) #[] #[.pointer (some ⟨w.heap.size + 1 + 1 + 1, 0, none⟩), .pointer (some ⟨w.heap.size + 1, 0, none⟩), .pointer (some ⟨w.heap.size, 0, none⟩), .pointer (some ⟨w.heap.size + 1 + 1, 0, none⟩), .pointer (some ⟨w.heap.size + 1 + 1 + 1 + 1, 0, none⟩)]) ∧
      w' = ((((w.alloc (.cells #[.pointer (some R)] 57)).alloc (.cells #[.string s] 9)).alloc (.cells #[.slice none 0 0] 37)).alloc (.cells #[.int .i64 (-1)] 3)).alloc (.cells #[.int .i64 nc] 3) := by
  go_enter Tryz.func64, Tryz.ntmps64
  go_wp2
  go_ret
  exact ⟨rfl, rfl⟩
theorem boxes_new (w W : World) (R : Addr) (hR : R = ⟨R.block, 0, none⟩) (s : ByteArray) (nc h : Nat) (hh : w.heap.size = h)
    (hW : ((((w.alloc (.cells #[.pointer (some R)] 57)).alloc (.cells #[.string s] 9)).alloc (.cells #[.slice none 0 0] 37)).alloc (.cells #[.int .i64 (-1)] 3)).alloc (.cells #[.int .i64 nc] 3) = W) :
    Boxes W R.block (h + 3) (h + 1) h (h + 2) (h + 4) nc s ∧ W.heap.size = h + 5 ∧ Below h w W := by
  subst hW hh
  generalize hA : w.alloc (.cells #[.pointer (some R)] 57) = A
  generalize hB : A.alloc (.cells #[.string s] 9) = B
  generalize hC : B.alloc (.cells #[.slice none 0 0] 37) = C
  generalize hD : C.alloc (.cells #[.int .i64 (-1)] 3) = D
  have sA : A.heap.size = w.heap.size + 1 := by rw [← hA]; simp
  have sB : B.heap.size = w.heap.size + 2 := by rw [← hB]; simp [sA]
  have sC : C.heap.size = w.heap.size + 3 := by rw [← hC]; simp [sB]
  have sD : D.heap.size = w.heap.size + 4 := by rw [← hD]; simp [sC]
  have kA : ∀ k, k < A.heap.size → B.heap[k]? = A.heap[k]? := fun k hk => by rw [← hB]; exact Below.heap_alloc _ _ k hk
  have kB : ∀ k, k < B.heap.size → C.heap[k]? = B.heap[k]? := fun k hk => by rw [← hC]; exact Below.heap_alloc _ _ k hk
  have kC : ∀ k, k < C.heap.size → D.heap[k]? = C.heap[k]? := fun k hk => by rw [← hD]; exact Below.heap_alloc _ _ k hk
  have kD : ∀ k, k < D.heap.size → (D.alloc (.cells #[.int .i64 nc] 3)).heap[k]? = D.heap[k]? := fun k hk => Below.heap_alloc _ _ k hk
  refine ⟨⟨?_, ?_, ?_, ?_, ?_⟩, by simp [sD], ?_⟩
  · rw [kD _ (by omega), ← hD, ← sC]; exact heap_alloc_new C _
  · rw [kD _ (by omega), kC _ (by omega), kB _ (by omega), ← hB, ← sA]; exact heap_alloc_new A _
  · rw [kD _ (by omega), kC _ (by omega), kB _ (by omega), kA _ (by omega), ← hA, ← hR]; exact heap_alloc_new w _
  · rw [kD _ (by omega), kC _ (by omega), ← hC, ← sB]; exact heap_alloc_new B _
  · rw [← sD]; exact heap_alloc_new D _
  · have hb : Below w.heap.size w D := by
      rw [← hD, ← hC, ← hB, ← hA]
      exact ((((Below.refl _ w).alloc (by simp) _).alloc (by simp) _).alloc (by simp; omega) _).alloc (by simp; omega) _
    exact hb.alloc (by omega) _
set_option maxHeartbeats 2000000 in
theorem t84 (n : Nat) {w0 : World} {R PB IB icap : Nat} {T : List I} {s : ByteArray} (hS : Sur w0 R PB IB icap T s) {start ncap minl nsub : Nat} (hR : RH w0 R PB 0 start ncap minl nsub) (hml : minl ≤ 1000) (x : I) (hx : T[start]? = some x) (hf : opc x ≠ 5) (hns : nsub ≤ 400)
    (f : Nat → Res) (hM : ∀ p, p ≤ s.size → ∃ n, FM (envOf T s) n start p (f p)) (ms : List (Nat × List (Nat × Nat))) (hms : MsOk (envOf T s) s.size f 0 ms) (hmin : s.size < minl → ms = []) (hlen : ms.length < 100000)
    {fn1 : FuncId} {sv1 : Value} {Bs l1 D1 re0 s0 nb : Nat} (W : World) (hb0 : Below w0.heap.size w0 W) (hBl : Bs ≠ l1) (hDl : D1 ≠ l1) (hDB : D1 ≠ Bs) (h0B : w0.heap.size ≤ Bs) (h0l : w0.heap.size ≤ l1)
    (hap : ApAt fn1 sv1 Bs l1 D1 (W.heap.size + 8) [] W) (hre : W.heap[re0]? = some (.cells #[.pointer (some ⟨R, 0, none⟩)] 57 (0, 0))) (hs0 : W.heap[s0]? = some (.cells #[.string s] 9 (0, 0))) (hnb : W.heap[nb]? = some (.cells #[.int .i64 (-1)] 3 (0, 0))) :
    CallsIn Fence.wide n Tryz.prog 63 #[.func (.yield l1) #[] #[], .pointer (some ⟨re0, 0, none⟩), .pointer (some ⟨s0, 0, none⟩), .pointer (some ⟨nb, 0, none⟩)] W fun e W' => (∃ v, e = .returned v) ∧ ApAt fn1 sv1 Bs l1 D1 (W.heap.size + 8) (ms.map (mtext s)) W' ∧ Below w0.heap.size w0 W' := by
  refine callsIn_of_wp_marks Tryz.func63 rfl trivial ?_ rfl
  simp only [Tryz.ntmps63, List.size_toArray, List.length_cons, List.length_nil, Nat.reduceAdd, Nat.reduceSub, Array.replicate_succ, Array.replicate_zero, List.push_toArray, List.append_toArray, List.nil_append, List.cons_append]
  have e0 := (box_cell hre).1
  have e1 := (box_cell hs0).1
  have e2 := (box_cell hnb).1
  have le0 : re0 < W.heap.size := Lib.lt_of_cell e0
  have le1 : s0 < W.heap.size := Lib.lt_of_cell e1
  have le2 : nb < W.heap.size := Lib.lt_of_cell e2
  have HS := Lib.hid (And.intro hS (And.intro hR (And.intro hml (And.intro hx hf))))
  have HM := Lib.hid (And.intro hM (And.intro hms (And.intro hmin hlen)))
  have HW := Lib.hid (And.intro hb0 (And.intro hap (And.intro hre (And.intro hs0 hnb))))
  clear hS hR hml hx hf hM hms hmin hlen hb0 hap hre hs0 hnb
  gi_wp2_with (refine ⟨trivial, fun h => (by cases h), ?_⟩; gi_at_call 64; refine (callsIn_wide.2 (t85 _ ⟨R, 0, none⟩ s 2)).mono ?_; rintro e w1 ⟨rfl, hw1⟩; have HW1 := Lib.hid hw1; clear hw1)
  obtain ⟨hb0, hap, hre, hs0, hnb⟩ := HW.out
  have hw1 := HW1.out
  clear HW HW1
  simp only [Nat.add_assoc, Nat.reduceAdd] at *
  generalize hh : W.heap.size = h at *
  generalize hA : W.alloc (.cells #[.func (.yield l1) #[] #[]] 41) = A at *
  have sA : A.heap.size = h + 1 := by rw [← hA]; simp [hh]
  have hAY : A.heap[h]? = some (.cells #[.func (.yield l1) #[] #[]] 41 (0, 0)) := by rw [← hA, ← hh]; exact heap_alloc_new W _
  have hAb : Below h W A := by rw [← hA]; exact (Below.refl _ W).alloc (by omega) _
  obtain ⟨hbx, s1, hb1⟩ := boxes_new A w1 ⟨R, 0, none⟩ rfl s 2 (h + 1) sA hw1.symm
  simp only [Nat.add_assoc, Nat.reduceAdd] at hbx
  clear hw1 hA
  refine wpIn_rangeFunc ?_
  intro fn hfn
  rw [show Fence.wide.round = none from rfl]
  generalize hit : (Value.func (Fn.func 84) #[] #[.pointer (some ⟨h + 4, 0, none⟩), .pointer (some ⟨h + 2, 0, none⟩), .pointer (some ⟨h + 1, 0, none⟩), .pointer (some ⟨h + 3, 0, none⟩), .pointer (some ⟨h + 5, 0, none⟩)]) = it at *
  obtain ⟨W1, hW1⟩ : ∃ W1, (w1.alloc (.deferred (some []))).alloc (.loop (asRec fn (asTmps l1 re0 s0 nb h R s it) w1.heap.size .ready none)) = W1 := ⟨_, rfl⟩
  have hold : ∀ k, k < w1.heap.size → W1.heap[k]? = w1.heap[k]? := fun k hk => by
    rw [← hW1]; exact (Below.heap_alloc _ _ k (by simp; omega)).trans (Below.heap_alloc _ _ k hk)
  have hs1 : W1.heap.size = h + 8 := by rw [← hW1]; simp [s1]
  have hbw : Below (h + 6) w1 W1 := by rw [← hW1]; exact ((Below.refl _ w1).alloc (by omega) _).alloc (by simp; omega) _
  have old : ∀ k, k < h → W1.heap[k]? = W.heap[k]? := fun k hk => by rw [hold k (by omega), hb1.block k (by omega), hAb.block k hk]
  have hbel : Below w0.heap.size w0 W1 := ((hb0.trans (hAb.mono (by have := hb0.size; omega))).trans (hb1.mono (by have := hb0.size; omega))).trans (hbw.mono (by have := hb0.size; omega))
  have hL1 : W1.heap[h + 7]? = some (.loop (asRec fn (asTmps l1 re0 s0 nb h R s it) (h + 6) .ready none)) := by
    rw [← hW1, s1]
    have := World.alloc_heap_new (w1.alloc (.deferred (some []))) (.loop (asRec fn (asTmps l1 re0 s0 nb h R s it) (h + 1 + 5) .ready none))
    rwa [World.size_alloc, s1] at this
  have hK1 : W1.heap[h + 6]? = some (.deferred (some [])) := by
    rw [← hW1]; have := (Below.heap_alloc (w1.alloc (.deferred (some []))) (.loop (asRec fn (asTmps l1 re0 s0 nb h R s it) w1.heap.size .ready none)) w1.heap.size (by simp)).trans (World.alloc_heap_new w1 _)
    rwa [s1] at this ⊢
  have hY1 : W1.heap[h]? = some (.cells #[.func (.yield l1) #[] #[]] 41 (0, 0)) := by rw [hold h (by omega), hb1.block h (by omega)]; exact hAY
  have lt : ∀ {k : Nat} {o : Obj}, W.heap[k]? = some o → k < h := fun hk => by have := (Array.getElem?_eq_some_iff.1 hk).1; omega
  have hap1 : ApAt fn1 sv1 Bs l1 D1 (h + 8) [] W1 := by
    obtain ⟨v, h1, h2, h3⟩ := hap.box
    have hv : v = .slice none 0 0 := h3.2 rfl
    subst hv
    exact ⟨⟨_, (old _ (lt h1)).trans h1, ⟨rfl, .inl ⟨rfl, rfl⟩⟩, by simp⟩, (old _ (lt hap.L)).trans hap.L, (old _ (lt hap.K)).trans hap.K⟩
  have hM0 : MAt w0 fn1 sv1 Bs l1 D1 (h + 8) fn (asTmps l1 re0 s0 nb h R s it) (h + 7) (h + 6) h s0 s ms 0 W1 :=
    ⟨by simpa using hap1, hL1, hK1, hY1, (old _ le1).trans hs0, hbel, by omega⟩
  have hbx1 : Boxes W1 R (h + 4) (h + 2) (h + 1) (h + 3) (h + 5) 2 s := hbx.below hbw ⟨by omega, by omega, by omega, by omega, by omega⟩
  refine ⟨h + 7, [{ target := .collected (h + 6), args := #[] }], W1, { target := .fn (.func 84) #[.pointer (some ⟨h + 4, 0, none⟩), .pointer (some ⟨h + 2, 0, none⟩), .pointer (some ⟨h + 1, 0, none⟩), .pointer (some ⟨h + 3, 0, none⟩), .pointer (some ⟨h + 5, 0, none⟩)], args := #[.func (.yield (h + 7)) #[] #[]] }, W1, 84,
    #[.func (.yield (h + 7)) #[] #[], .pointer (some ⟨h + 4, 0, none⟩), .pointer (some ⟨h + 2, 0, none⟩), .pointer (some ⟨h + 1, 0, none⟩), .pointer (some ⟨h + 3, 0, none⟩), .pointer (some ⟨h + 5, 0, none⟩)], W1, ?_, ?_, ?_, ?_, fun h => (by cases h), ?_⟩
  · rw [← hW1]
    have := run_enterLoop_outer (P := Tryz.prog) (w := w1) fn (asTmps l1 re0 s0 nb h R s it) #[10] asAssign asBody
    rw [s1] at this ⊢
    exact this
  · rw [← hit]; simp [resolve, go_sem]
  · intro f' _; trivial
  · simp [invoke, go_sem]
  · refine (tMatches HS.out.1 HS.out.2.1 HS.out.2.2.1 x HS.out.2.2.2.1 HS.out.2.2.2.2 2 (by omega) hns f HM.out.1 ms HM.out.2.1 HM.out.2.2.1 (n - 1) (h + 7) 40 9 (h + 4) (h + 2) (h + 1) (h + 3) (h + 5)
      (fun k W => MAt w0 fn1 sv1 Bs l1 D1 (h + 8) fn (asTmps l1 re0 s0 nb h R s it) (h + 7) (h + 6) h s0 s ms k W) W1 ?_ hbel hbx1 (by decide) (by decide) ?_ hM0).mono ?_
    · intro k A B hk hi
      rw [hs1] at hi
      exact hk.it (by have := hb0.size; omega) k A B hi
    · intro pre m rest W2 g' cap' hpre hJ hb hown
      obtain ⟨e, he1, he0, hpe, hes⟩ := HM.out.2.1.mem m (by rw [hpre]; simp)
      rw [hs1] at hown ⊢
      obtain ⟨v, hB1, _⟩ := hap.box
      have l0 := lt hB1
      have l2 := lt hap.L
      have l3 := lt hap.K
      have hsz := hb0.size
      exact asY _ 2 (padLen 2 nsub) ⟨by omega, by unfold padLen; split <;> omega⟩ HS.out.1.len hBl hDl hDB (by omega) h0B h0l (by omega) HM.out.2.2.2 (by omega) (by omega) (by omega) (by omega) (by omega) (by omega) (by omega) pre m rest W2 g' cap' _ hpre e he1 he0 hpe hes hJ hown
    · rintro e W2 ⟨⟨v0, rfl⟩, h2⟩
      have hend := run_endLoop (P := Tryz.prog) h2.L2 (by simp [asRec])
      obtain ⟨W3, hW3⟩ : ∃ W3, W2.putObj (h + 7) (.loop { asRec fn (asTmps l1 re0 s0 nb h R s it) (h + 6) .ready none with state := .exhausted }) = W3 := ⟨_, rfl⟩
      rw [hW3] at hend
      have hl2 : h + 7 < W2.heap.size := (Array.getElem?_eq_some_iff.1 h2.L2).1
      have o3 : ∀ {k : Nat} {o : Obj}, W2.heap[k]? = some o → k ≠ h + 7 → W3.heap[k]? = some o := fun {k o} hk hn => by rw [← hW3]; exact (World.putObj_heap_other hn).trans hk
      have hK3 := o3 h2.K2 (by omega)
      have hsz := hb0.size
      have hb3 : Below w0.heap.size w0 W3 := by rw [← hW3]; exact h2.below.grown (grown_putObj _ _ _) (by have := h2.below.size; omega) (fun k e => by have : h + 7 = k := Option.some.inj e; omega)
      have hap3 : ApAt fn1 sv1 Bs l1 D1 (h + 8) (ms.map (mtext s)) W3 := by
        have ha := h2.ap
        rw [List.take_length] at ha
        obtain ⟨v, h4, h5, h6⟩ := ha.box
        have e7 : ∀ {k : Nat} {cs : Array Value} {t : TypeId} {f : Nat × Nat}, W2.heap[k]? = some (.cells cs t f) → k ≠ h + 7 := fun hk e => by rw [e, h2.L2] at hk; cases hk
        exact ⟨⟨v, o3 h4 (e7 h4), own_of h5 (fun g cur hg hc => by rw [o3 hc (e7 hc), hc]), h6⟩, o3 ha.L (by have := lt hap.L; omega), o3 ha.K (by have := lt hap.K; omega)⟩
      have HA := Lib.hid (And.intro hap3 hb3)
      clear hW3 o3
      refine ⟨none, W3, hend, ?_⟩
      gi_wp2
      refine ⟨by simp, .inl ⟨_, _, rfl, run_takeDeferred hK3, ?_⟩⟩
      obtain ⟨hap3, hb3⟩ := HA.out
      have o4 : ∀ {k : Nat} {o : Obj}, W3.heap[k]? = some o → k ≠ h + 6 → (W3.putObj (h + 6) (.deferred none)).heap[k]? = some o := fun {k o} hk hn => (World.putObj_heap_other hn).trans hk
      have e6 : ∀ {k : Nat} {cs : Array Value} {t : TypeId} {f : Nat × Nat}, W3.heap[k]? = some (.cells cs t f) → k ≠ h + 6 := fun hk e => by rw [e, hK3] at hk; cases hk
      obtain ⟨v, h4, h5, h6⟩ := hap3.box
      refine ⟨_, results_none rfl _ _ _, ⟨_, rfl⟩, ?_, hb3.grown (grown_putObj _ _ _) (by have := hb3.size; omega) (fun k e => by have : h + 6 = k := Option.some.inj e; omega)⟩
      rw [hh]
      exact ⟨⟨v, o4 h4 (e6 h4), own_of h5 (fun g cur hg hc => by rw [o4 hc (e6 hc), hc]), h6⟩, o4 hap3.L (by have := lt hap.L; omega), o4 hap3.K (by have := lt hap.K; omega)⟩
end Go.Proofs.YtpbmbaffncnglaaGreatDoor.Sv
end
section
set_option linter.unusedVariables false
set_option linter.unusedSimpArgs false
/- FindAllString: all matches' texts in a slice -/
namespace Go.Proofs.YtpbmbaffncnglaaGreatDoor.Sv
open Go Go.RowKit Rx Go.Shelf
set_option maxRecDepth 100000
attribute [local go_sem] Oper.semAt_some
set_option maxHeartbeats 2000000 in
theorem t83 (n : Nat) {w0 : World} {R PB IB icap : Nat} {T : List I} {s : ByteArray} (hS : Sur w0 R PB IB icap T s) {start ncap minl nsub : Nat} (hR : RH w0 R PB 0 start ncap minl nsub) (hml : minl ≤ 1000) (x : I) (hx : T[start]? = some x) (hf : opc x ≠ 5) (hns : nsub ≤ 400)
    (f : Nat → Res) (hM : ∀ p, p ≤ s.size → ∃ n, FM (envOf T s) n start p (f p)) (ms : List (Nat × List (Nat × Nat))) (hms : MsOk (envOf T s) s.size f 0 ms) (hmin : s.size < minl → ms = []) (hlen : ms.length < 100000)
    {re0 s0 nb : Nat} (W : World) (hb0 : Below w0.heap.size w0 W) (hre : W.heap[re0]? = some (.cells #[.pointer (some ⟨R, 0, none⟩)] 57 (0, 0))) (hs0 : W.heap[s0]? = some (.cells #[.string s] 9 (0, 0))) (hnb : W.heap[nb]? = some (.cells #[.int .i64 (-1)] 3 (0, 0))) :
    CallsIn Fence.wide n Tryz.prog 62 #[.slice none 0 0, .func (.func 63) #[] #[.pointer (some ⟨re0, 0, none⟩), .pointer (some ⟨s0, 0, none⟩), .pointer (some ⟨nb, 0, none⟩)]] W fun e W' => ∃ v, e = .returned v ∧ W'.ownsRow W.heap.size 9 1 v ms.length ((ms.map (mtext s)).map Value.string) ∧ (v = .slice none 0 0 ↔ ms = []) ∧ Below w0.heap.size w0 W' := by
  refine callsIn_of_wp_marks Tryz.func62 rfl trivial ?_ rfl
  simp only [Tryz.ntmps62, List.size_toArray, List.length_cons, List.length_nil, Nat.reduceAdd, Nat.reduceSub, Array.replicate_succ, Array.replicate_zero, List.push_toArray, List.append_toArray, List.nil_append, List.cons_append]
  have HS := Lib.hid (And.intro hS (And.intro hR (And.intro hml (And.intro hx hf))))
  have HM := Lib.hid (And.intro hM (And.intro hms (And.intro hmin hlen)))
  have HW := Lib.hid (And.intro hb0 (And.intro hre (And.intro hs0 hnb)))
  clear hS hR hml hx hf hM hms hmin hlen hb0 hre hs0 hnb
  gi_wp2
  obtain ⟨hb0, hre, hs0, hnb⟩ := HW.out
  clear HW
  generalize hh : W.heap.size = h at *
  generalize hA : W.alloc (.cells #[.slice none 0 0] 40) = A at *
  have sA : A.heap.size = h + 1 := by rw [← hA]; simp [hh]
  have hAY : A.heap[h]? = some (.cells #[.slice none 0 0] 40 (0, 0)) := by rw [← hA, ← hh]; exact heap_alloc_new W _
  have hAb : Below h W A := by rw [← hA]; exact (Below.refl _ W).alloc (by omega) _
  clear hA
  refine wpIn_rangeFunc ?_
  intro fn hfn
  rw [show Fence.wide.round = none from rfl]
  generalize hit : (Value.func (Fn.func 63) #[] #[.pointer (some ⟨re0, 0, none⟩), .pointer (some ⟨s0, 0, none⟩), .pointer (some ⟨nb, 0, none⟩)]) = it at *
  obtain ⟨W1, hW1⟩ : ∃ W1, (A.alloc (.deferred (some []))).alloc (.loop (apRec fn it h A.heap.size .ready none)) = W1 := ⟨_, rfl⟩
  have hold : ∀ k, k < A.heap.size → W1.heap[k]? = A.heap[k]? := fun k hk => by
    rw [← hW1]; exact (Below.heap_alloc _ _ k (by simp; omega)).trans (Below.heap_alloc _ _ k hk)
  have hs1 : W1.heap.size = h + 3 := by rw [← hW1]; simp [sA]
  have hbw : Below (h + 1) A W1 := by rw [← hW1]; exact ((Below.refl _ A).alloc (by omega) _).alloc (by simp; omega) _
  have old : ∀ k, k < h → W1.heap[k]? = W.heap[k]? := fun k hk => by rw [hold k (by omega), hAb.block k hk]
  have hbel : Below w0.heap.size w0 W1 := (hb0.trans (hAb.mono (by have := hb0.size; omega))).trans (hbw.mono (by have := hb0.size; omega))
  have hL1 : W1.heap[h + 2]? = some (.loop (apRec fn it h (h + 1) .ready none)) := by
    rw [← hW1, sA]
    have := World.alloc_heap_new (A.alloc (.deferred (some []))) (.loop (apRec fn it h (h + 1) .ready none))
    rwa [World.size_alloc, sA] at this
  have hK1 : W1.heap[h + 1]? = some (.deferred (some [])) := by
    rw [← hW1]; have := (Below.heap_alloc (A.alloc (.deferred (some []))) (.loop (apRec fn it h A.heap.size .ready none)) A.heap.size (by simp)).trans (World.alloc_heap_new A _)
    rwa [sA] at this ⊢
  have lt : ∀ {k : Nat} {o : Obj}, W.heap[k]? = some o → k < h := fun hk => by have := (Array.getElem?_eq_some_iff.1 hk).1; omega
  have hap1 : ApAt fn it h (h + 2) (h + 1) (W1.heap.size + 8) [] W1 :=
    ⟨⟨_, (hold h (by omega)).trans hAY, ⟨rfl, .inl ⟨rfl, rfl⟩⟩, by simp⟩, hL1, hK1⟩
  refine ⟨h + 2, [{ target := .collected (h + 1), args := #[] }], W1, { target := .fn (.func 63) #[.pointer (some ⟨re0, 0, none⟩), .pointer (some ⟨s0, 0, none⟩), .pointer (some ⟨nb, 0, none⟩)], args := #[.func (.yield (h + 2)) #[] #[]] }, W1, 63,
    #[.func (.yield (h + 2)) #[] #[], .pointer (some ⟨re0, 0, none⟩), .pointer (some ⟨s0, 0, none⟩), .pointer (some ⟨nb, 0, none⟩)], W1, ?_, ?_, ?_, ?_, fun h => (by cases h), ?_⟩
  · rw [← hW1]
    have := run_enterLoop_outer (P := Tryz.prog) (w := A) fn #[.slice none 0 0, it, .pointer (some ⟨h, 0, none⟩), undef, .slice none 0 0, undef, it, undef, undef, undef, undef, undef, undef] #[7] apAssign apBody
    rw [sA] at this ⊢
    exact this
  · rw [← hit]; simp [resolve, go_sem]
  · intro f' _; trivial
  · simp [invoke, go_sem]
  · have hsz := hb0.size
    refine (t84 (n - 1) HS.out.1 HS.out.2.1 HS.out.2.2.1 x HS.out.2.2.2.1 HS.out.2.2.2.2 hns f HM.out.1 ms HM.out.2.1 HM.out.2.2.1 HM.out.2.2.2 W1 hbel (by omega) (by omega) (by omega) (by omega) (by omega) hap1
      ((old _ (lt hre)).trans hre) ((old _ (lt hs0)).trans hs0) ((old _ (lt hnb)).trans hnb)).mono ?_
    rintro e W2 ⟨⟨v0, rfl⟩, h2, hb2⟩
    have hend := run_endLoop (P := Tryz.prog) h2.L (by simp [apRec])
    obtain ⟨W3, hW3⟩ : ∃ W3, W2.putObj (h + 2) (.loop { apRec fn it h (h + 1) .ready none with state := .exhausted }) = W3 := ⟨_, rfl⟩
    rw [hW3] at hend
    have o3 : ∀ {k : Nat} {o : Obj}, W2.heap[k]? = some o → k ≠ h + 2 → W3.heap[k]? = some o := fun {k o} hk hn => by rw [← hW3]; exact (World.putObj_heap_other hn).trans hk
    have hK3 := o3 h2.K (by omega)
    have hb3 : Below w0.heap.size w0 W3 := by rw [← hW3]; exact hb2.grown (grown_putObj _ _ _) (by have := hb2.size; omega) (fun k e => by have : h + 2 = k := Option.some.inj e; omega)
    obtain ⟨v, h4, h5, h6⟩ := h2.box
    have e7 : ∀ {k : Nat} {cs : Array Value} {t : TypeId} {f : Nat × Nat}, W2.heap[k]? = some (.cells cs t f) → k ≠ h + 2 := fun hk e => by rw [e, h2.L] at hk; cases hk
    have h4' := o3 h4 (e7 h4)
    have h5' : W3.ownsRow (W1.heap.size + 8) 9 1 v (ms.map (mtext s)).length ((ms.map (mtext s)).map Value.string) := own_of h5 (fun g cur hg hc => by rw [o3 hc (e7 hc), hc])
    have cv := (box_cell h4').1
    have HA := Lib.hid (And.intro h5' (And.intro h6 hb3))
    clear hW3 o3 h5 h5' h6 hb3
    refine ⟨none, W3, hend, ?_⟩
    gi_wp2
    refine ⟨by simp, .inl ⟨_, _, rfl, run_takeDeferred hK3, ?_⟩⟩
    obtain ⟨h5, h6, hb3⟩ := HA.out
    have o4 : ∀ {k : Nat} {o : Obj}, W3.heap[k]? = some o → k ≠ h + 1 → (W3.putObj (h + 1) (.deferred none)).heap[k]? = some o := fun {k o} hk hn => (World.putObj_heap_other hn).trans hk
    have e6 : ∀ {k : Nat} {cs : Array Value} {t : TypeId} {f : Nat × Nat}, W3.heap[k]? = some (.cells cs t f) → k ≠ h + 1 := fun hk e => by rw [e, hK3] at hk; cases hk
    refine ⟨_, results_tmp rfl _ _ _, v, rfl, ?_, ?_, hb3.grown (grown_putObj _ _ _) (by have := hb3.size; omega) (fun k e => by have : h + 1 = k := Option.some.inj e; omega)⟩
    · have h7 := own_of h5 (w' := W3.putObj (h + 1) (.deferred none)) (fun g cur hg hc => by rw [o4 hc (e6 hc), hc])
      rw [List.length_map] at h7
      refine ⟨h7.1, ?_⟩
      rcases h7.2 with hn | ⟨g', c', cur, q1, q2, q3⟩
      · exact .inl hn
      · exact .inr ⟨g', c', cur, q1, by omega, q3⟩
    · rw [h6]; simp
theorem t59 (w : World) (R : Addr) (s : ByteArray) : Calls Tryz.prog 43 #[.pointer (some R), .string s, .int .i64 (-1)] w fun e w' => e = .returned (.func (.func 63) #[] #[.pointer (some ⟨w.heap.size, 0, none⟩), .pointer (some ⟨w.heap.size + 1, 0, none⟩), .pointer (some ⟨w.heap.size + 1 + 1, 0, none⟩)]) ∧
    w' = ((w.alloc (.cells #[.pointer (some R)] 57)).alloc (.cells #[.string s] 9)).alloc (.cells #[.int .i64 (-1)] 3) := by
  go_enter Tryz.func43, Tryz.ntmps43
  go_wp2
  go_ret
  exact ⟨rfl, rfl⟩
theorem tFindAll {w : World} {R PB IB icap : Nat} {T : List I} {s : ByteArray} (hS : Sur w R PB IB icap T s) {start ncap minl nsub : Nat} (hR : RH w R PB 0 start ncap minl nsub) (hml : minl ≤ 1000) (x : I) (hx : T[start]? = some x) (hf : opc x ≠ 5) (hns : nsub ≤ 400)
    (f : Nat → Res) (hM : ∀ p, p ≤ s.size → ∃ n, FM (envOf T s) n start p (f p)) (ms : List (Nat × List (Nat × Nat))) (hms : MsOk (envOf T s) s.size f 0 ms) (hmin : s.size < minl → ms = []) (hlen : ms.length < 100000) :
    Calls Tryz.prog 30 #[.pointer (some ⟨R, 0, none⟩), .string s, .int .i64 (-1)] w fun e w' => ∃ v, e = .returned v ∧ w'.ownsRow w.heap.size 9 1 v ms.length ((ms.map (mtext s)).map Value.string) ∧ (v = .slice none 0 0 ↔ ms = []) ∧ Below w.heap.size w w' := by
  generalize hA : ((w.alloc (.cells #[.pointer (some ⟨R, 0, none⟩)] 57)).alloc (.cells #[.string s] 9)).alloc (.cells #[.int .i64 (-1)] 3) = A
  have hb : Below w.heap.size w A := by rw [← hA]; exact (((Below.refl _ w).alloc (by simp) _).alloc (by simp) _).alloc (by simp; omega) _
  have a0 : A.heap[w.heap.size]? = some (.cells #[.pointer (some ⟨R, 0, none⟩)] 57 (0, 0)) := by
    rw [← hA, Below.heap_alloc _ _ _ (by simp; omega), Below.heap_alloc _ _ _ (by simp)]; exact heap_alloc_new w _
  have a1 : A.heap[w.heap.size + 1]? = some (.cells #[.string s] 9 (0, 0)) := by
    rw [← hA, Below.heap_alloc _ _ _ (by simp)]; have := heap_alloc_new (w.alloc (.cells #[.pointer (some ⟨R, 0, none⟩)] 57)) (.cells #[.string s] 9); rwa [World.size_alloc] at this
  have a2 : A.heap[w.heap.size + 1 + 1]? = some (.cells #[.int .i64 (-1)] 3 (0, 0)) := by
    rw [← hA]; have := heap_alloc_new ((w.alloc (.cells #[.pointer (some ⟨R, 0, none⟩)] 57)).alloc (.cells #[.string s] 9)) (.cells #[.int .i64 (-1)] 3); rwa [World.size_alloc, World.size_alloc] at this
  have H := Lib.hid (callsIn_wide.1 (t83 3 hS hR hml x hx hf hns f hM ms hms hmin hlen A hb a0 a1 a2))
  have hsz := hb.size
  have HA := Lib.hid hA
  clear hS hR hx hf hM hms hmin hA a0 a1 a2
  go_enter Tryz.func30, Tryz.ntmps30
  go_wp2_with (first
    | (go_at_call 43; refine (t59 w ⟨R, 0, none⟩ s).mono ?_; rintro e w1 ⟨rfl, hw1⟩; have hw2 := hw1.trans HA.out; clear hw1; subst hw2)
    | (go_at_call 62; refine H.out.mono ?_; rintro e w2 ⟨v2, rfl, hv2⟩; have HV := Lib.hid hv2; clear hv2)
    | go_in)
  go_ret
  obtain ⟨h1, h2, h3⟩ := HV.out
  refine ⟨_, rfl, ⟨h1.1, ?_⟩, h2, h3⟩
  rcases h1.2 with hn | ⟨g', c', cur, q1, q2, q3⟩
  · exact .inl hn
  · exact .inr ⟨g', c', cur, q1, by omega, q3⟩
end Go.Proofs.YtpbmbaffncnglaaGreatDoor.Sv
end
section
set_option linter.unusedVariables false
set_option linter.unusedSimpArgs false
/- FindAllStringSubmatch where nothing is found -/
namespace Go.Proofs.YtpbmbaffncnglaaGreatDoor.Sv
open Go Go.RowKit Rx Go.Shelf
set_option maxRecDepth 100000
attribute [local go_sem] Oper.semAt_some
set_option maxHeartbeats 2000000 in
theorem t101z (n : Nat) {w0 : World} {R PB IB icap : Nat} {T : List I} {s : ByteArray} (hS : Sur w0 R PB IB icap T s) {start ncap minl nsub : Nat} (hR : RH w0 R PB 0 start ncap minl nsub) (hml : minl ≤ 1000) (x : I) (hx : T[start]? = some x) (hf : opc x ≠ 5) (hns : nsub ≤ 400) (hnc : 2 ≤ ncap ∧ ncap ≤ 1000)
    (f : Nat → Res) (hM : ∀ p, p ≤ s.size → ∃ n, FM (envOf T s) n start p (f p)) (hms : MsOk (envOf T s) s.size f 0 [])
    {l1 re0 s0 nb : Nat} (W : World) (hb0 : Below w0.heap.size w0 W) (hre : W.heap[re0]? = some (.cells #[.pointer (some ⟨R, 0, none⟩)] 57 (0, 0))) (hs0 : W.heap[s0]? = some (.cells #[.string s] 9 (0, 0))) (hnb : W.heap[nb]? = some (.cells #[.int .i64 (-1)] 3 (0, 0))) :
    CallsIn Fence.wide n Tryz.prog 82 #[.func (.yield l1) #[] #[], .pointer (some ⟨re0, 0, none⟩), .pointer (some ⟨s0, 0, none⟩), .pointer (some ⟨nb, 0, none⟩)] W fun e W' => (∃ v, e = .returned v) ∧ Below W.heap.size W W' := by
  refine callsIn_of_wp_marks Tryz.func82 rfl trivial ?_ rfl
  simp only [Tryz.ntmps82, List.size_toArray, List.length_cons, List.length_nil, Nat.reduceAdd, Nat.reduceSub, Array.replicate_succ, Array.replicate_zero, List.push_toArray, List.append_toArray, List.nil_append, List.cons_append]
  generalize hA : W.alloc (.cells #[.func (.yield l1) #[] #[]] 129) = A
  have hAb : Below W.heap.size W A := by rw [← hA]; exact (Below.refl _ W).alloc (by omega) _
  have sA : A.heap.size = W.heap.size + 1 := by rw [← hA]; simp
  have HA := Lib.hid hA
  have lt : ∀ {k : Nat} {o : Obj}, W.heap[k]? = some o → k < W.heap.size := fun hk => (Array.getElem?_eq_some_iff.1 hk).1
  have hre' := (hAb.block _ (lt hre)).trans hre
  have hs0' := (hAb.block _ (lt hs0)).trans hs0
  have hnb' := (hAb.block _ (lt hnb)).trans hnb
  have e0 := (box_cell hre').1
  have e1 := (box_cell hs0').1
  have e2 := (box_cell hnb').1
  have hbA : Below w0.heap.size w0 A := hb0.trans (hAb.mono hb0.size)
  have e3 := (hS.keep hbA).pg.r1
  have e4 := (hR.keep hbA).ncap
  have HS := Lib.hid (And.intro hS (And.intro hR (And.intro hml (And.intro hx hf))))
  have HM := Lib.hid (And.intro hM hms)
  have HW := Lib.hid (And.intro hb0 (And.intro hAb sA))
  have HN := Lib.hid hnc
  clear hS hR hml hx hf hM hms hb0 hre hs0 hnb hre' hs0' hnb' hbA hA hAb sA lt hnc
  gi_wp2
  rw [HA.out]
  refine wpIn_wide.2 ?_
  have H85 := Lib.hid (t85 A.drew ⟨R, 0, none⟩ s ncap)
  have HE := Lib.hid (And.intro e0 (And.intro e1 (And.intro e2 (And.intro e3 e4))))
  go_region_held3 (fun w' => w'.cell? ⟨re0, 0, none⟩ = some (.pointer (some ⟨R, 0, none⟩)) ∧ w'.cell? ⟨s0, 0, none⟩ = some (.string s) ∧ w'.cell? ⟨nb, 0, none⟩ = some (.int .i64 (-1)) ∧ w'.cell? ⟨R, 1, none⟩ = some (.pointer (some ⟨PB, 0, none⟩)) ∧ w'.cell? ⟨PB, 2, none⟩ = some (.int .i64 ncap)) (first | exact ⟨by assumption, by assumption, by assumption, by assumption, by assumption⟩ | exact HE2.out) (first | (go_at_call 64; refine H85.out.mono ?_; rintro e w1 ⟨rfl, hw1⟩; obtain ⟨hbx, s1, hb1⟩ := boxes_new A.drew w1 ⟨R, 0, none⟩ rfl s ncap A.heap.size rfl hw1.symm; have HE2 := Lib.hid (And.intro (keepc (w := A.drew) hb1 HE.out.1) (And.intro (keepc (w := A.drew) hb1 HE.out.2.1) (And.intro (keepc (w := A.drew) hb1 HE.out.2.2.1) (And.intro (keepc (w := A.drew) hb1 HE.out.2.2.2.1) (keepc (w := A.drew) hb1 HE.out.2.2.2.2))))); have HB := Lib.hid (And.intro hbx (And.intro s1 hb1)); clear hbx s1 hb1 hw1))
  gi_wp2
  refine wpIn_rangeFunc ?_
  intro fn hfn
  rw [show Fence.wide.round = none from rfl]
  generalize (Code.region 2 _ _) = asg
  generalize (Code.block 1 _) = bdy
  obtain ⟨hbx, s1, hb1⟩ := HB.out
  obtain ⟨hb0, hAb, sA⟩ := HW.out
  have sAd : A.drew.heap.size = A.heap.size := rfl
  generalize ha : A.heap.size = a at *
  generalize hact : Act.mk _ _ = act0
  have hev : act0.eval (Operand.tmp 18) = .func (.func 84) #[] #[.pointer (some ⟨a + 1 + 1 + 1, 0, none⟩), .pointer (some ⟨a + 1, 0, none⟩), .pointer (some ⟨a, 0, none⟩), .pointer (some ⟨a + 1 + 1, 0, none⟩), .pointer (some ⟨a + 1 + 1 + 1 + 1, 0, none⟩)] := by rw [← hact]; rfl
  have hdf : act0.defers = [] := by rw [← hact]
  have hent := run_enterLoop_outer (P := Tryz.prog) (w := w1) fn act0.tmps #[19] asg bdy
  generalize hrec : Loop.mk _ _ _ _ _ _ _ _ = rec at hent
  obtain ⟨W1, hW1⟩ : ∃ W1, (w1.alloc (.deferred (some []))).alloc (.loop rec) = W1 := ⟨_, rfl⟩
  rw [hW1] at hent
  have sw1 : w1.heap.size = a + 5 := s1
  have hs1 : W1.heap.size = a + 7 := by rw [← hW1]; simp [sw1]
  have hL1 : W1.heap[a + 6]? = some (.loop rec) := by
    rw [← hW1]
    have := World.alloc_heap_new (w1.alloc (.deferred (some []))) (.loop rec)
    rwa [World.size_alloc, sw1] at this
  have hK1 : W1.heap[a + 5]? = some (.deferred (some [])) := by
    rw [← hW1]; have := (Below.heap_alloc (w1.alloc (.deferred (some []))) (.loop rec) w1.heap.size (by simp)).trans (World.alloc_heap_new w1 _)
    rwa [sw1] at this
  have hbw : Below (a + 5) w1 W1 := by rw [← hW1]; exact ((Below.refl _ w1).alloc (by omega) _).alloc (by simp; omega) _
  have hbel : Below W.heap.size W W1 := ((hAb.trans ((Below.refl _ A).drew)).trans (hb1.mono (by omega))).trans (hbw.mono (by omega))
  have hbx1 : Boxes W1 R (a + 3) (a + 1) a (a + 2) (a + 4) ncap s := hbx.below hbw ⟨by omega, by omega, by omega, by omega, by omega⟩
  refine ⟨a + 6, [{ target := .collected (a + 5), args := #[] }], W1, { target := .fn (.func 84) #[.pointer (some ⟨a + 1 + 1 + 1, 0, none⟩), .pointer (some ⟨a + 1, 0, none⟩), .pointer (some ⟨a, 0, none⟩), .pointer (some ⟨a + 1 + 1, 0, none⟩), .pointer (some ⟨a + 1 + 1 + 1 + 1, 0, none⟩)], args := #[.func (.yield (a + 6)) #[] #[]] }, W1, 84,
    #[.func (.yield (a + 6)) #[] #[], .pointer (some ⟨a + 3, 0, none⟩), .pointer (some ⟨a + 1, 0, none⟩), .pointer (some ⟨a, 0, none⟩), .pointer (some ⟨a + 2, 0, none⟩), .pointer (some ⟨a + 4, 0, none⟩)], W1, ?_, ?_, ?_, ?_, fun h => (by cases h), ?_⟩
  · rw [sw1] at hent; exact hent
  · have hev' : act0.tmps[18]?.getD undef = .func (.func 84) #[] #[.pointer (some ⟨a + 1 + 1 + 1, 0, none⟩), .pointer (some ⟨a + 1, 0, none⟩), .pointer (some ⟨a, 0, none⟩), .pointer (some ⟨a + 1 + 1, 0, none⟩), .pointer (some ⟨a + 1 + 1 + 1 + 1, 0, none⟩)] := by rw [← hact]; rfl
    simp [resolve, go_sem, hev']
  · intro f' _; trivial
  · simp [invoke, go_sem]
  · refine (tMatches HS.out.1 HS.out.2.1 HS.out.2.2.1 x HS.out.2.2.2.1 HS.out.2.2.2.2 ncap HN.out hns f HM.out.1 [] HM.out.2 (fun _ => rfl) (n - 1) (a + 6) 40 9 (a + 3) (a + 1) a (a + 2) (a + 4)
      (fun _ X => Below W.heap.size W X ∧ X.heap[a + 6]? = some (.loop rec) ∧ X.heap[a + 5]? = some (.deferred (some []))) W1 ?_ (hb0.trans (hbel.mono hb0.size)) hbx1 (by decide) (by decide) ?_ ⟨hbel, hL1, hK1⟩).mono ?_
    · rintro k X Y ⟨h1, h2, h3⟩ hi
      exact ⟨h1.trans (hi.below.mono (by omega)), hi.same _ _ h2 (fun c e => by cases e), hi.same _ _ h3 (fun c e => by cases e)⟩
    · intro pre m rest W2 g' cap' hpre
      cases pre <;> cases hpre
    · rintro e W2 ⟨⟨v0, rfl⟩, hb2, hL2, hK2⟩
      have hend := run_endLoop (P := Tryz.prog) hL2 (by rw [← hrec]; simp)
      obtain ⟨W3, hW3⟩ : ∃ W3, W2.putObj (a + 6) (.loop { rec with state := .exhausted }) = W3 := ⟨_, rfl⟩
      rw [hW3] at hend
      have hK3 : W3.heap[a + 5]? = some (.deferred (some [])) := by rw [← hW3]; exact (World.putObj_heap_other (by omega)).trans hK2
      have hb3 : Below W.heap.size W W3 := by rw [← hW3]; exact hb2.grown (grown_putObj _ _ _) (by have := hb2.size; omega) (fun k e => by have : a + 6 = k := Option.some.inj e; omega)
      refine ⟨none, W3, by rw [hend, ← hrec], ?_⟩
      rw [hdf]
      change bodyPostM Fence.wide n Tryz.prog Tryz.f82 (fun e W' => (∃ v, e = Ending.returned v) ∧ Below W.heap.size W W') .normal _ W3
      refine ⟨by simp, .inl ⟨_, _, rfl, run_takeDeferred hK3, ?_⟩⟩
      exact ⟨_, results_none rfl _ _ _, ⟨_, rfl⟩, hb3.grown (grown_putObj _ _ _) (by have := hb3.size; omega) (fun k e => by have : a + 5 = k := Option.some.inj e; omega)⟩
set_option maxHeartbeats 2000000 in
theorem t100z (n : Nat) {w0 : World} {R PB IB icap : Nat} {T : List I} {s : ByteArray} (hS : Sur w0 R PB IB icap T s) {start ncap minl nsub : Nat} (hR : RH w0 R PB 0 start ncap minl nsub) (hml : minl ≤ 1000) (x : I) (hx : T[start]? = some x) (hf : opc x ≠ 5) (hns : nsub ≤ 400) (hnc : 2 ≤ ncap ∧ ncap ≤ 1000)
    (f : Nat → Res) (hM : ∀ p, p ≤ s.size → ∃ n, FM (envOf T s) n start p (f p)) (hms : MsOk (envOf T s) s.size f 0 [])
    {re0 s0 nb : Nat} (W : World) (hb0 : Below w0.heap.size w0 W) (hre : W.heap[re0]? = some (.cells #[.pointer (some ⟨R, 0, none⟩)] 57 (0, 0))) (hs0 : W.heap[s0]? = some (.cells #[.string s] 9 (0, 0))) (hnb : W.heap[nb]? = some (.cells #[.int .i64 (-1)] 3 (0, 0))) :
    CallsIn Fence.wide n Tryz.prog 81 #[.slice none 0 0, .func (.func 82) #[] #[.pointer (some ⟨re0, 0, none⟩), .pointer (some ⟨s0, 0, none⟩), .pointer (some ⟨nb, 0, none⟩)]] W fun e W' => e = .returned (.slice none 0 0) ∧ Below W.heap.size W W' := by
  refine callsIn_of_wp_marks Tryz.func81 rfl trivial ?_ rfl
  simp only [Tryz.ntmps81, List.size_toArray, List.length_cons, List.length_nil, Nat.reduceAdd, Nat.reduceSub, Array.replicate_succ, Array.replicate_zero, List.push_toArray, List.append_toArray, List.nil_append, List.cons_append]
  have HS := Lib.hid (And.intro hS (And.intro hR (And.intro hml (And.intro hx hf))))
  have HM := Lib.hid (And.intro hM hms)
  have HW := Lib.hid (And.intro hb0 (And.intro hre (And.intro hs0 hnb)))
  clear hS hR hml hx hf hM hms hb0 hre hs0 hnb
  gi_wp2
  obtain ⟨hb0, hre, hs0, hnb⟩ := HW.out
  clear HW
  generalize hh : W.heap.size = h at *
  generalize hA : W.alloc (.cells #[.slice none 0 0] 73) = A at *
  have sA : A.heap.size = h + 1 := by rw [← hA]; simp [hh]
  have hAY : A.heap[h]? = some (.cells #[.slice none 0 0] 73 (0, 0)) := by rw [← hA, ← hh]; exact heap_alloc_new W _
  have hAb : Below h W A := by rw [← hA]; exact (Below.refl _ W).alloc (by omega) _
  clear hA
  refine wpIn_rangeFunc ?_
  intro fn hfn
  rw [show Fence.wide.round = none from rfl]
  generalize (Code.region 2 _ _) = asg
  generalize (Code.block 1 _) = bdy
  have hent := run_enterLoop_outer (P := Tryz.prog) (w := A) fn #[.slice none 0 0, .func (.func 82) #[] #[.pointer (some ⟨re0, 0, none⟩), .pointer (some ⟨s0, 0, none⟩), .pointer (some ⟨nb, 0, none⟩)], .pointer (some ⟨h, 0, none⟩), undef, .slice none 0 0, undef, .func (.func 82) #[] #[.pointer (some ⟨re0, 0, none⟩), .pointer (some ⟨s0, 0, none⟩), .pointer (some ⟨nb, 0, none⟩)], undef, undef, undef, undef, undef, undef] #[7] asg bdy
  generalize hrec : Loop.mk _ _ _ _ _ _ _ _ = rec at hent
  obtain ⟨W1, hW1⟩ : ∃ W1, (A.alloc (.deferred (some []))).alloc (.loop rec) = W1 := ⟨_, rfl⟩
  rw [hW1] at hent
  have hold : ∀ k, k < A.heap.size → W1.heap[k]? = A.heap[k]? := fun k hk => by
    rw [← hW1]; exact (Below.heap_alloc _ _ k (by simp; omega)).trans (Below.heap_alloc _ _ k hk)
  have hs1 : W1.heap.size = h + 3 := by rw [← hW1]; simp [sA]
  have hL1 : W1.heap[h + 2]? = some (.loop rec) := by
    rw [← hW1]
    have := World.alloc_heap_new (A.alloc (.deferred (some []))) (.loop rec)
    rwa [World.size_alloc, sA] at this
  have hK1 : W1.heap[h + 1]? = some (.deferred (some [])) := by
    rw [← hW1]; have := (Below.heap_alloc (A.alloc (.deferred (some []))) (.loop rec) A.heap.size (by simp)).trans (World.alloc_heap_new A _)
    rwa [sA] at this
  have hbw : Below (h + 1) A W1 := by rw [← hW1]; exact ((Below.refl _ A).alloc (by omega) _).alloc (by simp; omega) _
  have hbel : Below h W W1 := hAb.trans (hbw.mono (by omega))
  have lt : ∀ {k : Nat} {o : Obj}, W.heap[k]? = some o → k < h := fun hk => by have := (Array.getElem?_eq_some_iff.1 hk).1; omega
  have old : ∀ k, k < h → W1.heap[k]? = W.heap[k]? := fun k hk => hbel.block k hk
  refine ⟨h + 2, [{ target := .collected (h + 1), args := #[] }], W1, { target := .fn (.func 82) #[.pointer (some ⟨re0, 0, none⟩), .pointer (some ⟨s0, 0, none⟩), .pointer (some ⟨nb, 0, none⟩)], args := #[.func (.yield (h + 2)) #[] #[]] }, W1, 82,
    #[.func (.yield (h + 2)) #[] #[], .pointer (some ⟨re0, 0, none⟩), .pointer (some ⟨s0, 0, none⟩), .pointer (some ⟨nb, 0, none⟩)], W1, ?_, ?_, ?_, ?_, fun h => (by cases h), ?_⟩
  · rw [sA] at hent; exact hent
  · simp [resolve, go_sem]
  · intro f' _; trivial
  · simp [invoke, go_sem]
  · have hsz := hb0.size
    refine (t101z (n - 1) HS.out.1 HS.out.2.1 HS.out.2.2.1 x HS.out.2.2.2.1 HS.out.2.2.2.2 hns hnc f HM.out.1 HM.out.2 W1 (hb0.trans (hbel.mono (by omega)))
      ((old _ (lt hre)).trans hre) ((old _ (lt hs0)).trans hs0) ((old _ (lt hnb)).trans hnb)).mono ?_
    rintro e W2 ⟨⟨v0, rfl⟩, hb2⟩
    have hL2 := (hb2.block (h + 2) (by omega)).trans hL1
    have hend := run_endLoop (P := Tryz.prog) hL2 (by rw [← hrec]; simp)
    obtain ⟨W3, hW3⟩ : ∃ W3, W2.putObj (h + 2) (.loop { rec with state := .exhausted }) = W3 := ⟨_, rfl⟩
    rw [hW3] at hend
    have hK3 : W3.heap[h + 1]? = some (.deferred (some [])) := by rw [← hW3]; exact (World.putObj_heap_other (by omega)).trans ((hb2.block (h + 1) (by omega)).trans hK1)
    have hb3 : Below h W W3 := by rw [← hW3]; exact (hbel.trans (hb2.mono (by omega))).grown (grown_putObj _ _ _) (by have := hb2.size; omega) (fun k e => by have : h + 2 = k := Option.some.inj e; omega)
    have hB3 : W3.heap[h]? = some (.cells #[.slice none 0 0] 73 (0, 0)) := by rw [← hW3]; exact (World.putObj_heap_other (by omega)).trans ((hb2.block h (by omega)).trans ((hold h (by omega)).trans hAY))
    have cv := (box_cell hB3).1
    have HB := Lib.hid hb3
    clear hW3 hb3
    refine ⟨none, W3, by rw [hend, ← hrec], ?_⟩
    gi_wp2
    refine ⟨by simp, .inl ⟨_, _, rfl, run_takeDeferred hK3, ?_⟩⟩
    have hb3 := HB.out
    refine ⟨_, results_tmp rfl _ _ _, rfl, ?_⟩
    have h7 := hb3.grown (grown_putObj W3 (h + 1) (.deferred none)) (by have := hb3.size; omega) (fun k e => by have : h + 1 = k := Option.some.inj e; omega)
    rw [hh]; exact h7
theorem t80 (w : World) (R : Addr) (s : ByteArray) : Calls Tryz.prog 59 #[.pointer (some R), .string s, .int .i64 (-1)] w fun e w' => e = .returned (.func (.func 82) #[] #[.pointer (some ⟨w.heap.size, 0, none⟩), .pointer (some ⟨w.heap.size + 1, 0, none⟩), .pointer (some ⟨w.heap.size + 1 + 1, 0, none⟩)]) ∧
    w' = ((w.alloc (.cells #[.pointer (some R)] 57)).alloc (.cells #[.string s] 9)).alloc (.cells #[.int .i64 (-1)] 3) := by
  go_enter Tryz.func59, Tryz.ntmps59
  go_wp2
  go_ret
  exact ⟨rfl, rfl⟩
theorem tFindAllSub0 {w : World} {R PB IB icap : Nat} {T : List I} {s : ByteArray} (hS : Sur w R PB IB icap T s) {start ncap minl nsub : Nat} (hR : RH w R PB 0 start ncap minl nsub) (hml : minl ≤ 1000) (x : I) (hx : T[start]? = some x) (hf : opc x ≠ 5) (hns : nsub ≤ 400) (hnc : 2 ≤ ncap ∧ ncap ≤ 1000)
    (f : Nat → Res) (hM : ∀ p, p ≤ s.size → ∃ n, FM (envOf T s) n start p (f p)) (hms : MsOk (envOf T s) s.size f 0 []) :
    Calls Tryz.prog 37 #[.pointer (some ⟨R, 0, none⟩), .string s, .int .i64 (-1)] w fun e w' => e = .returned (.slice none 0 0) ∧ Below w.heap.size w w' := by
  generalize hA : ((w.alloc (.cells #[.pointer (some ⟨R, 0, none⟩)] 57)).alloc (.cells #[.string s] 9)).alloc (.cells #[.int .i64 (-1)] 3) = A
  have hb : Below w.heap.size w A := by rw [← hA]; exact (((Below.refl _ w).alloc (by simp) _).alloc (by simp) _).alloc (by simp; omega) _
  have a0 : A.heap[w.heap.size]? = some (.cells #[.pointer (some ⟨R, 0, none⟩)] 57 (0, 0)) := by
    rw [← hA, Below.heap_alloc _ _ _ (by simp; omega), Below.heap_alloc _ _ _ (by simp)]; exact heap_alloc_new w _
  have a1 : A.heap[w.heap.size + 1]? = some (.cells #[.string s] 9 (0, 0)) := by
    rw [← hA, Below.heap_alloc _ _ _ (by simp)]; have := heap_alloc_new (w.alloc (.cells #[.pointer (some ⟨R, 0, none⟩)] 57)) (.cells #[.string s] 9); rwa [World.size_alloc] at this
  have a2 : A.heap[w.heap.size + 1 + 1]? = some (.cells #[.int .i64 (-1)] 3 (0, 0)) := by
    rw [← hA]; have := heap_alloc_new ((w.alloc (.cells #[.pointer (some ⟨R, 0, none⟩)] 57)).alloc (.cells #[.string s] 9)) (.cells #[.int .i64 (-1)] 3); rwa [World.size_alloc, World.size_alloc] at this
  have H := Lib.hid (callsIn_wide.1 (t100z 3 hS hR hml x hx hf hns hnc f hM hms A hb a0 a1 a2))
  have HB := Lib.hid hb
  have hsz := hb.size
  have HA := Lib.hid hA
  clear hS hR hx hf hM hms hA a0 a1 a2 hb
  go_enter Tryz.func37, Tryz.ntmps37
  go_wp2_with (first
    | (go_at_call 59; refine (t80 w ⟨R, 0, none⟩ s).mono ?_; rintro e w1 ⟨rfl, hw1⟩; have hw2 := hw1.trans HA.out; clear hw1; subst hw2)
    | (go_at_call 81; refine H.out.mono ?_; rintro e w2 ⟨rfl, hv2⟩; have HV := Lib.hid hv2; clear hv2)
    | go_in)
  go_ret
  exact ⟨rfl, HB.out.trans (HV.out.mono hsz)⟩
end Go.Proofs.YtpbmbaffncnglaaGreatDoor.Sv
end
section
set_option linter.unusedVariables false
set_option linter.unusedSimpArgs false
/- long literals: the program's tables are laid -/
namespace Go.Proofs.YtpbmbaffncnglaaGreatDoor.Sv
open Go Go.RowKit Rx
set_option maxRecDepth 100000
theorem info87 : (Tryz.prog.info? 84).map (fun i => (i.zero, i.size, i.bytes)) = some (some (.agg #[.int .i64 0, .int .u8 0, .int .i64 0, .int .i64 0, .int .i64 0, .int .i64 0, .slice none 0 0, .slice none 0 0, .int .i64 0]), 9, 104) := by kernel_rfl
def zero87 : Array Value := #[.int .i64 0, .int .u8 0, .int .i64 0, .int .i64 0, .int .i64 0, .int .i64 0, .slice none 0 0, .slice none 0 0, .int .i64 0]
/-- the fields that are given, laid over the zero value -/
def fill9 (c : Array Value) (parts : List (Nat × Value)) : Array Value := parts.foldl (fun c x => c.setIfInBounds x.1 x.2) c
theorem cells_one (v : Value) (h : v.oneCell' = true) : v.cells = #[v] := by cases v <;> first | rfl | cases h
theorem fill_one : ∀ (parts : List (Nat × Value)) (c : Array Value), c.size = 9 → (parts.all fun x => decide (x.1 < 9) && x.2.oneCell') = true → Instr.fill (fun i => if i < 9 then some (i, 1) else none) c parts = some (fill9 c parts)
  | [], c, _, _ => rfl
  | (i, v) :: rest, c, hc, h => by
    simp only [List.all_cons, Bool.and_eq_true, decide_eq_true_eq] at h
    obtain ⟨⟨h1, h2⟩, h3⟩ := h
    unfold Instr.fill
    simp only [h1, if_true, cells_one v h2]
    rw [if_neg (by simp; omega)]
    simp only [fill9, List.foldl_cons]
    have := fill_one rest (c.setIfInBounds i v) (by simpa using hc) h3
    simpa [fill9] using this
theorem built87 (parts : List (Nat × Value)) (h : (parts.all fun x => decide (x.1 < 9) && x.2.oneCell') = true) : Tryz.prog.built 84 parts = some (fill9 zero87 parts) := by
  have e : Tryz.prog.built 84 parts = Instr.fill (fun i => ([(0, 1), (1, 1), (2, 1), (3, 1), (4, 1), (5, 1), (6, 1), (7, 1), (8, 1)] : List (Nat × Nat)).toArray[i]?) zero87 parts := by kernel_rfl
  rw [e, ← fill_one parts zero87 rfl h]
  congr 1
  funext i
  by_cases hi : i < 9
  · have : i = 0 ∨ i = 1 ∨ i = 2 ∨ i = 3 ∨ i = 4 ∨ i = 5 ∨ i = 6 ∨ i = 7 ∨ i = 8 := by omega
    rcases this with rfl | rfl | rfl | rfl | rfl | rfl | rfl | rfl | rfl <;> rfl
  · rw [if_neg hi]; simp; omega
/-- an operation that lays a run or hands a value on -/
def ev1 (o : Oper) (tm : Array Value) : Option Value :=
  if o.guard.isSome then none else match o.op with
  | .build 84 parts =>
    let ps := (parts.map fun (i, x) => (i, ({ tmps := tm, defers := [] } : Act).eval x)).toList
    if (ps.all fun x => decide (x.1 < 9) && x.2.oneCell') = true then some (.agg (fill9 zero87 ps)) else none
  | .move x => some (({ tmps := tm, defers := [] } : Act).eval x)
  | _ => none
def putT (tm : Array Value) : Option Tmp → Value → Array Value
  | some d, v => tm.setIfInBounds d v
  | none, _ => tm
def evs : List Oper → Array Value → List Oper × Array Value
  | [], tm => ([], tm)
  | o :: l, tm => match ev1 o tm with
    | some v => evs l (putT tm o.dst v)
    | none => (o :: l, tm)
theorem wpList_evs {P : Program} (hP : P = Tryz.prog) {ops : Array Oper} {Q : Exit → Act → World → Prop} {w : World} : ∀ (l : List Oper) (tm : Array Value), wpList P ops Q (evs l tm).1 { tmps := (evs l tm).2, defers := [] } w → wpList P ops Q l { tmps := tm, defers := [] } w
  | [], tm, h => h
  | o :: l, tm, h => by
    subst hP
    unfold evs at h
    cases he : ev1 o tm with
    | none => rw [he] at h; exact h
    | some v =>
      rw [he] at h
      have ih := wpList_evs rfl l _ h
      unfold ev1 at he
      split at he
      · cases he
      · rename_i hg
        have hg : o.guard = none := by simpa using hg
        have hput : ({ tmps := tm, defers := [] } : Act).put o.dst v = { tmps := putT tm o.dst v, defers := [] } := by
          unfold Act.put putT; cases o.dst <;> rfl
        split at he
        · rename_i parts hop
          dsimp only at he
          split at he
          · rename_i hok
            have hb := built87 _ hok
            refine wpList_buildTo hg 84 parts hop o.dst rfl _ hb ?_
            have hv : v = .agg (fill9 zero87 (parts.map fun (i, x) => (i, ({ tmps := tm, defers := [] } : Act).eval x)).toList) := (Option.some.inj he).symm
            rw [← hv, hput]
            exact ih
          · cases he
        · rename_i x hop
          refine wpList_plain hg fun K hK => ?_
          unfold Oper.wp
          have hv : v = ({ tmps := tm, defers := [] } : Act).eval x := (Option.some.inj he).symm
          have hrun : (execOp ({ tmps := tm, defers := [] } : Act).eval o).run Tryz.prog w = .ok (.value v) w := by
            rw [hv]; simp [execOp, hop]
          rw [hrun]
          refine hK _ _ ?_
          rw [hput]
          exact ih
        · cases he
/-- a prefix of runs is passed over; what its operands hold is kept -/
theorem wpList_runs {ops : Array Oper} {Q : Exit → Act → World → Prop} {w : World} (l rest : List Oper) (tm : Array Value) (pl : List Operand) (vs : List Value) (sz : Nat)
    (h1 : (evs l tm).1 = rest) (h2 : (pl.map fun x => ({ tmps := (evs l tm).2, defers := [] } : Act).eval x) = vs) (h3 : (evs l tm).2.size = sz)
    (h : ∀ tm', tm'.size = sz → (pl.map fun x => ({ tmps := tm', defers := [] } : Act).eval x) = vs → wpList Tryz.prog ops Q rest { tmps := tm', defers := [] } w) : wpList Tryz.prog ops Q l { tmps := tm, defers := [] } w :=
  wpList_evs rfl l tm (by rw [h1]; exact h _ h3 h2)
end Go.Proofs.YtpbmbaffncnglaaGreatDoor.Sv
end
section
set_option linter.unusedVariables false
set_option linter.unusedSimpArgs false
/- a program's instructions, out of its runs -/
namespace Go.Proofs.YtpbmbaffncnglaaGreatDoor.Sv
open Go Go.RowKit Rx
set_option maxRecDepth 100000
/-- an instruction's row: its kind, where it goes on, its argument, its runes -/
structure Ent where
  op : Int
  out : Nat
  arg : Nat
  rp : Option Addr
  rn : Nat
def Ent.rv (e : Ent) : Value := .slice e.rp e.rn e.rn
def Ent.run (e : Ent) : Array Value := #[.int .i64 1, .int .u8 e.op, .int .i64 e.out, .int .i64 0, .int .i64 e.arg, .int .i64 0, e.rv, .slice none 0 0, .int .i64 0]
def Ent.inst (e : Ent) : List Value := [.int .u8 e.op, .int .u32 e.out, .int .u32 e.arg, e.rv]
theorem info120 : (Tryz.prog.info? 110).map (fun i => (i.zero, i.size, i.bytes)) = some (some (.agg #[.int .u8 0, .int .u32 0, .int .u32 0, .slice none 0 0]), 4, 40) := by kernel_rfl
theorem t81 (w : World) (e : Ent) (ho : e.out < 1000) (ha : e.arg < 1000) :
    Calls Tryz.prog 60 #[.agg e.run, .int .i64 0] w fun r w' => r = .returned (.agg e.inst.toArray) ∧ Below w.heap.size w w' := by
  obtain ⟨op, out, arg, rp, rn⟩ := e
  have ho : out < 1000 := ho
  have ha : arg < 1000 := ha
  have w1 := wrap_u32_small out ho
  have w2 := wrap_u32_small arg ha
  unfold Ent.run Ent.inst Ent.rv
  simp only []
  go_enter Tryz.func60, Tryz.ntmps60
  go_wp2
  exact bodyPost_ret (v := .agg #[.int .u8 op, .int .u32 out, .int .u32 arg, .slice rp rn rn]) (by simp [results, Tryz.results60, go_sem]) rfl ⟨rfl, ((Below.refl _ w).alloc (Nat.le_refl _) _).alloc (by simp) _⟩
/-- a program's runs in memory -/
def RunsAt (w : World) (X : Nat) (E : List Ent) : Prop := ∃ r : Array Value, w.heap[X]? = some (.cells r 84 (0, 0)) ∧ ∀ (i j : Nat) (e : Ent), E[i]? = some e → j < 9 → r[i * 9 + j]? = e.run[j]?
theorem RunsAt.keep {w w' : World} {X : Nat} {E : List Ent} (h : RunsAt w X E) (hb : Below w.heap.size w w') : RunsAt w' X E := by
  obtain ⟨r, h1, h2⟩ := h
  exact ⟨r, (hb.block X (Array.getElem?_eq_some_iff.1 h1).1).trans h1, h2⟩
theorem RunsAt.cell {w : World} {X : Nat} {E : List Ent} (h : RunsAt w X E) (i : Nat) (e : Ent) (he : E[i]? = some e) (j : Nat) (hj : j < 9) : w.cell? ⟨X, i * 9 + j, none⟩ = e.run[j]? := by
  obtain ⟨r, h1, h2⟩ := h
  rw [cell_of_row _ _ _ _ _ _ h1, h2 i j e he hj]
def instCells (E : List Ent) : List Value := E.flatMap Ent.inst
theorem instCells_length : ∀ E : List Ent, (instCells E).length = E.length * 4
  | [] => rfl
  | e :: E => by
    have := instCells_length E
    simp [instCells, Ent.inst] at this ⊢
    omega
theorem cell_new4 (w : World) (a b c d : Value) (t : TypeId) : ∀ (j : Nat) (u : Value), [a, b, c, d][j]? = some u → (w.alloc (.cells #[a, b, c, d] t)).cell? ((⟨w.heap.size, 0, none⟩ : Addr).add j) = some u := fun j u h => by
  have e : (⟨w.heap.size, 0, none⟩ : Addr).add j = ⟨w.heap.size, j, none⟩ := by simp [Addr.add]; omega
  rw [e, cell_of_row _ _ _ _ _ _ (heap_alloc_new w _)]
  simpa using h
theorem t56fin {w wr we w2 : World} {K i : Nat} {ov : Value} {xs : List Value} {r : Array Value} {o : Obj} (h : wr.ownsRow w.heap.size 110 4 ov i xs) (hb : Below w.heap.size w wr) (hk : wr.heap[K]? = some (.cells r 84 (0, 0))) (h1 : Below wr.heap.size wr we) (hg : (we.alloc o).grownBy w2 ov.ownBlock) :
    Below w.heap.size w w2 ∧ w2.heap[K]? = some (.cells r 84 (0, 0)) := by
  have hA : Below w.heap.size w (we.alloc o) := (hb.trans (h1.mono hb.size)).alloc (by have := hb.size; have := h1.size; omega) _
  have hK := (Array.getElem?_eq_some_iff.1 hk).1
  refine ⟨hA.grown hg (by have := hb.size; have := h1.size; simp; omega) (fun k hk => ?_), ?_⟩
  · rcases h.2 with ⟨rfl, _⟩ | ⟨g, cap, cur, rfl, hle, _⟩
    · cases hk
    · have : g = k := by simpa [Value.ownBlock] using hk
      omega
  · have hs := h1.size
    rw [hg.block K (by simp; omega) (by
      rcases own_ne h hk (by intro cur e; cases e) with e | e
      · rw [e]; simp
      · exact fun e' => e e'.symm), Below.heap_alloc _ _ _ (by omega), h1.block K hK, hk]
set_option maxHeartbeats 2000000 in
theorem t56 (w : World) (X : Nat) (E : List Ent) (hE : RunsAt w X E) (hL : E.length ≤ 1000) (hok : ∀ e ∈ E, e.out < 1000 ∧ e.arg < 1000) :
    Calls Tryz.prog 40 #[.slice (some ⟨X, 0, none⟩) E.length E.length] w fun r w' => ∃ v, r = .returned v ∧ w'.ownsRow w.heap.size 110 4 v E.length (instCells E) ∧ Below w.heap.size w w' := by
  obtain ⟨i0, hi, hz0, hz1, hz2⟩ := info_parts info120
  have HE := Lib.hid hE
  have HI := Lib.hid (And.intro hi (And.intro hz0 (And.intro hz1 hz2)))
  have HO := Lib.hid hok
  clear hE hi hz0 hz1 hz2 hok
  go_enter Tryz.func40, Tryz.ntmps40
  go_wp2
  go_loopw [3, 9] (fun ov iv wr => ∃ i : Nat, iv = .int .i64 i ∧ Hid (i ≤ E.length ∧ wr.ownsRow w.heap.size 110 4 ov i (instCells (E.take i)) ∧ Below w.heap.size w wr)) (fun _ iv _ => 2000 - (intOf iv).toNat)
  case atStart => exact ⟨0, rfl, Lib.hid ⟨Nat.zero_le _, World.ownsRow_nil w w.heap.size 110 4, Below.refl _ _⟩⟩
  case round =>
    obtain ⟨i, rfl, HF⟩ := hrel
    by_cases c : i < E.length
    · have c1 : (i : Int) < (E.length : Int) := by omega
      obtain ⟨e, he⟩ : ∃ e, E[i]? = some e := ⟨_, List.getElem?_eq_getElem c⟩
      have hb := HF.out.2.2
      have hwr := HE.out.keep hb
      have q0 := hwr.cell i e he 0 (by decide)
      have q1 := hwr.cell i e he 1 (by decide)
      have q2 := hwr.cell i e he 2 (by decide)
      have q3 := hwr.cell i e he 3 (by decide)
      have q4 := hwr.cell i e he 4 (by decide)
      have q5 := hwr.cell i e he 5 (by decide)
      have q6 := hwr.cell i e he 6 (by decide)
      have q7 := hwr.cell i e he 7 (by decide)
      have q8 := hwr.cell i e he 8 (by decide)
      have heo := HO.out e (List.mem_of_getElem? he)
      have HT := Lib.hid (fun wx => t81 wx e heo.1 heo.2)
      have HC := Lib.hid (And.intro c he)
      clear c he hwr hb heo
      obtain ⟨op, out, arg, rp, rn⟩ := e
      simp only [Ent.run, Ent.rv, Nat.add_zero] at q0 q1 q2 q3 q4 q5 q6 q7 q8
      simp at q0 q1 q2 q3 q4 q5 q6 q7 q8
      unfold Ent.run Ent.inst Ent.rv at HT
      simp only [] at HT
      go_wp2
      generalize hA : wr.alloc _ = A
      have hAK : A.heap[wr.heap.size]? = some (.cells #[.int .i64 1, .int .u8 op, .int .i64 out, .int .i64 0, .int .i64 arg, .int .i64 0, .slice rp rn rn, .slice none 0 0, .int .i64 0] 84 (0, 0)) := by rw [← hA]; exact heap_alloc_new wr _
      have hAb : Below wr.heap.size wr A := by rw [← hA]; exact (Below.refl _ wr).alloc (Nat.le_refl _) _
      have hown0 : A.ownsRow w.heap.size 110 4 u3 i (instCells (E.take i)) := own_of HF.out.2.1 fun g cur _ hc => hAb.block g (Array.getElem?_eq_some_iff.1 hc).1
      have hbA : Below w.heap.size w A := HF.out.2.2.trans (hAb.mono HF.out.2.2.size)
      have HA := Lib.hid (And.intro hown0 (And.intro hbA hAK))
      have HKl := Lib.hid (show w.heap.size ≤ wr.heap.size from HF.out.2.2.size)
      clear hA hAK hAb hown0 hbA q0 q1 q2 q3 q4 q5 q6 q7 q8
      have hE1 : E.take (i + 1) = E.take i ++ [⟨op, out, arg, rp, rn⟩] := by rw [List.take_add_one, HC.out.2]; rfl
      have HE1 := Lib.hid hE1
      clear hE1
      generalize wr.heap.size = K at *
      go_loopw [3, 6] (fun ov kv wz => ∃ b : Bool, kv = .int .i64 (if b then 1 else 0) ∧ Hid (wz.ownsRow w.heap.size 110 4 ov (if b then i + 1 else i) (instCells (E.take (if b then i + 1 else i))) ∧ Below w.heap.size w wz ∧ wz.heap[K]? = some (.cells #[.int .i64 1, .int .u8 op, .int .i64 out, .int .i64 0, .int .i64 arg, .int .i64 0, .slice rp rn rn, .slice none 0 0, .int .i64 0] 84 (0, 0)))) (fun _ kv _ => 2 - (intOf kv).toNat)
      case atStart => exact ⟨false, rfl, Lib.hid HA.out⟩
      case round =>
        obtain ⟨b, rfl, HB⟩ := hrel
        have hbk := HB.out.2.2
        have q0 : wr.cell? ⟨K, 0, none⟩ = some (.int .i64 1) := cell_of_row _ _ 0 _ _ _ hbk
        have q1 : wr.cell? ⟨K, 1, none⟩ = some (.int .u8 op) := cell_of_row _ _ 1 _ _ _ hbk
        have q2 : wr.cell? ⟨K, 2, none⟩ = some (.int .i64 out) := cell_of_row _ _ 2 _ _ _ hbk
        have q3 : wr.cell? ⟨K, 3, none⟩ = some (.int .i64 0) := cell_of_row _ _ 3 _ _ _ hbk
        have q4 : wr.cell? ⟨K, 4, none⟩ = some (.int .i64 arg) := cell_of_row _ _ 4 _ _ _ hbk
        have q5 : wr.cell? ⟨K, 5, none⟩ = some (.int .i64 0) := cell_of_row _ _ 5 _ _ _ hbk
        have q6 : wr.cell? ⟨K, 6, none⟩ = some (.slice rp rn rn) := cell_of_row _ _ 6 _ _ _ hbk
        have q7 : wr.cell? ⟨K, 7, none⟩ = some (.slice none 0 0) := cell_of_row _ _ 7 _ _ _ hbk
        have q8 : wr.cell? ⟨K, 8, none⟩ = some (.int .i64 0) := cell_of_row _ _ 8 _ _ _ hbk
        clear hbk
        cases b
        · go_wp2_with (first
            | (go_at_call 60; refine (HT.out _).mono ?_; rintro e' we ⟨rfl, hbe⟩; have hown := own_of HB.out.1 (fun g cur _ hc => hbe.block g (Array.getElem?_eq_some_iff.1 hc).1); have hows : w.heap.size ≤ we.heap.size := (Nat.le_trans HB.out.2.1.size hbe.size); have HW := Lib.hid (And.intro hbe (And.intro hown hows)); clear hbe hown hows)
            | ((with_reducible refine wpList_append_own (o := ⟨some 24, _, _, _, _, _⟩) _ ?h1 (.tmp 19) (.tmp 23) 79 ?h2 w.heap.size 110 i0 (.agg #[.int .u8 0, .int .u32 0, .int .u32 0, .slice none 0 0]) 4 40 Tryz.underlying79 HI.out.1 HI.out.2.1 HI.out.2.2.1 HI.out.2.2.2 rfl (by decide) _ i _ ?h3 (HW.out.2.1.alloc _) ⟨we.heap.size, 0, none⟩ 1 1 [.int .u8 op, .int .u32 out, .int .u32 arg, .slice rp rn rn] ?h4 rfl ?h5 ?h6 ?h7 ?h8 ?h9 ?_); (case h1 => rfl); (case h2 => rfl); (case h3 => rfl); (case h4 => rfl); (case h5 => exact cell_new4 _ _ _ _ _ _); (case h6 => (intro u hu; simp at hu; rcases hu with rfl | rfl | rfl | rfl <;> rfl)); (case h7 => (have := HC.out.1; unfold maxLen; omega)); (case h8 => (have := HC.out.1; omega)); (case h9 => (have := HW.out.2.2; simp; omega)); intro v' w2 ho' hg' _; have HN := Lib.hid (And.intro ho' (t56fin HB.out.1 HB.out.2.1 HB.out.2.2 HW.out.1 hg')); clear ho' hg'))
          refine ⟨⟨true, rfl, Lib.hid ?_⟩, by simp [intOf]⟩
          obtain ⟨h1, h2, h3⟩ := HN.out
          refine ⟨?_, h2, h3⟩
          have e2 : instCells (E.take (i + 1)) = instCells (E.take i) ++ [.int .u8 op, .int .u32 out, .int .u32 arg, .slice rp rn rn] := by rw [HE1.out]; unfold instCells; rw [List.flatMap_append]; rfl
          simp only [if_true]
          rw [e2]
          exact h1
        · go_wp2
          refine ⟨⟨i + 1, by simp, Lib.hid ⟨by have := HC.out.1; omega, HB.out.1, HB.out.2.1⟩⟩, by simp only [intOf]; have := HC.out.1; omega⟩
    · have hik : i = E.length := by have := HF.out.1; omega
      subst hik
      clear c
      go_wp2
      go_ret
      obtain ⟨_, h1, h2⟩ := HF.out
      rw [List.take_length] at h1
      exact ⟨_, rfl, h1, h2⟩
end Go.Proofs.YtpbmbaffncnglaaGreatDoor.Sv
end
section
set_option linter.unusedVariables false
set_option linter.unusedSimpArgs false
/- a program's constructor: runs, instructions, the Regexp itself -/
namespace Go.Proofs.YtpbmbaffncnglaaGreatDoor.Sv
open Go Go.RowKit Rx
set_option maxRecDepth 100000
theorem u80 : Tryz.prog.underlying 77 = some (.slice 21) := by kernel_rfl
theorem u88 : Tryz.prog.underlying 85 = some (.slice 84) := by kernel_rfl
theorem u52 : Tryz.prog.underlying 40 = some (.slice 9) := by kernel_rfl
theorem built90 (a : Addr) (n c : Nat) (x y : Int): Tryz.prog.built 87 [(1, .int .i64 x), (2, .int .i64 y), (0, .slice (some a) n c)] = some #[.slice (some a) n c, .int .i64 x, .int .i64 y] := by kernel_rfl
theorem built95 (s : ByteArray) (a : Addr) (b : Addr) (n c : Nat) (x y : Int) (x9 x10 x11 cond minl : Int): Tryz.prog.built 92 [(0, .string s), (1, .pointer (some a)), (3, .int .i64 x), (4, .int .i64 y), (5, .slice (some b) n c), (9, .int .u32 x9), (10, .int .i64 x10), (11, .int .i64 x11), (12, .bool false), (13, .int .u8 cond), (14, .int .i64 minl), (15, .bool false)] = some #[.string s, .pointer (some a), .pointer none, .int .i64 x, .int .i64 y, .slice (some b) n c, .string ⟨#[]⟩, .slice none 0 0, .int .i32 0, .int .u32 x9, .int .i64 x10, .int .i64 x11, .bool false, .int .u8 cond, .int .i64 minl, .bool false] := by kernel_rfl
/-! the rune lists, laid one behind the other -/
def runeRow (rs : List Int) : Obj := .cells (rs.map (Value.int .i32)).toArray 21 (0, 0)
def layW (w : World) : List (List Int) → World
  | [] => w
  | rs :: l => layW (w.alloc (.cells (rs.map (Value.int .i32)).toArray 21)) l
theorem layW_below : ∀ (l : List (List Int)) (w : World), Below w.heap.size w (layW w l) ∧ (layW w l).heap.size = w.heap.size + l.length
  | [], w => ⟨Below.refl _ w, rfl⟩
  | rs :: l, w => by
    obtain ⟨h1, h2⟩ := layW_below l (w.alloc (.cells (rs.map (Value.int .i32)).toArray 21))
    refine ⟨((Below.refl _ w).alloc (Nat.le_refl _) _).trans (h1.mono (by simp)), ?_⟩
    rw [layW, h2]; simp; omega
theorem layW_at : ∀ (l : List (List Int)) (w : World) (j : Nat) (rs : List Int), l[j]? = some rs → (layW w l).heap[w.heap.size + j]? = some (.cells (rs.map (Value.int .i32)).toArray 21 (0, 0))
  | [], w, j, rs, h => by simp at h
  | r :: l, w, 0, rs, h => by
    simp at h; subst h
    have := (layW_below l (w.alloc (.cells (r.map (Value.int .i32)).toArray 21))).1
    rw [layW, Nat.add_zero, this.block _ (by simp)]
    exact heap_alloc_new w _
  | r :: l, w, j + 1, rs, h => by
    have := layW_at l (w.alloc (.cells (r.map (Value.int .i32)).toArray 21)) j rs (by simpa using h)
    rw [layW, ← this]; simp; congr 1; omega
def entP (A : List Int → Nat) : I → Option Addr
  | .rune _ rs => some ⟨A rs, 0, none⟩
  | .one _ r => some ⟨A [r], 0, none⟩
  | _ => none
def entN : I → Nat
  | .rune _ rs => rs.length
  | .one _ _ => 1
  | _ => 0
def entOf (A : List Int → Nat) (x : I) : Ent := ⟨opc x, outc x, argc x, entP A x, entN x⟩
/-- what is asked of a table -/
def risesB : List Int → Bool
  | [] => true
  | [_] => true
  | a :: b :: l => decide (a ≤ b) && risesB (b :: l)
theorem rises_of : ∀ rs, risesB rs = true → Rises rs
  | [], _ => fun i j _ hj => by simp at hj
  | [a], _ => fun i j hij hj => by
    simp at hj; subst hj
    have : i = 0 := by omega
    subst this; exact Int.le_refl _
  | a :: b :: l, h => by
    simp only [risesB, Bool.and_eq_true, decide_eq_true_eq] at h
    have ih := rises_of (b :: l) h.2
    intro i j hij hj
    cases j with
    | zero => have : i = 0 := by omega
              subst this; exact Int.le_refl _
    | succ j =>
      cases i with
      | succ i =>
        have := ih i j (by omega) (by simpa using hj)
        simpa using this
      | zero =>
        have h0 := ih 0 j (by omega) (by simpa using hj)
        simp at h0
        have h1 := h.1
        show a ≤ _
        simp
        omega
def insOk (Ls : List (List Int)) (n : Nat) (x : I) : Bool := decide (outc x < n) && decide (argc x < 1000) && (match x with
  | .rune _ rs => Ls.contains rs && (rs.length == 2 || rs.length == 4 || rs.length == 6 || rs.length == 8 || rs.length == 10) && risesB rs
  | .one _ r => Ls.contains [r]
  | .alt _ a => decide (a < n)
  | _ => true)
/-- an instruction in memory, of the slice of instructions -/
theorem instAt_of {w0 w : World} {Ls : List (List Int)} {n : Nat} {base IB cap : Nat} {T : List I} {A : List Int → Nat} (hA : ∀ rs ∈ Ls, w.heap[A rs]? = some (.cells (rs.map (Value.int .i32)).toArray 21 (0, 0)))
    (hok : T.all (insOk Ls n) = true) (h : w.ownsRow base 110 4 (.slice (some ⟨IB, 0, none⟩) T.length cap) T.length (instCells (T.map (entOf A)))) (i : Nat) (x : I) (hx : T[i]? = some x) : InstAt w IB i x := by
  have hok := List.all_eq_true.1 hok x (List.mem_of_getElem? hx)
  have hcell : ∀ j v, j < 4 → (entOf A x).inst[j]? = some v → w.cell? ⟨IB, i * 4 + j, none⟩ = some v := fun j v hj hv => by
    rcases h.2 with ⟨hn, _⟩ | ⟨g, c, cur, q1, q2, q3, q4, q5, q6, q7⟩
    · cases hn
    · cases q1
      rw [cell_of_row _ _ _ _ _ _ q3]
      have e1 : (instCells (T.map (entOf A)))[i * 4 + j]? = some v := by
        rw [← hv]
        have hg : ∀ (E : List Ent) (i : Nat) (e : Ent), E[i]? = some e → (instCells E)[i * 4 + j]? = e.inst[j]? := by
          intro E
          induction E with
          | nil => intro i e h; simp at h
          | cons a E ih =>
            intro i e h
            have hl : (Ent.inst a).length = 4 := rfl
            show (Ent.inst a ++ instCells E)[i * 4 + j]? = _
            cases i with
            | zero => simp at h; subst h; rw [List.getElem?_append_left (by omega)]; simp
            | succ i => rw [List.getElem?_append_right (by omega), hl, ← ih i e (by simpa using h)]; congr 1; omega
        exact hg _ i _ (by simp [hx])
      have e2 := e1
      rw [← q7, List.getElem?_take] at e2
      split at e2
      · simpa using e2
      · cases e2
  have hrun : ∀ rs, rs ∈ Ls → entP A x = some ⟨A rs, 0, none⟩ → entN x = rs.length → ∃ rb cap, Runes w IB (i * 4) rb cap rs := fun rs hm h1 h2 => by
    have hb := hA rs hm
    refine ⟨A rs, rs.length, hcell 3 _ (by omega) (by simp [entOf, Ent.inst, Ent.rv, h1, h2]), fun k hk => ?_⟩
    rw [cell_of_row _ _ _ _ _ _ hb]; simp [hk]
  simp only [insOk, Bool.and_eq_true, decide_eq_true_eq] at hok
  refine ⟨hcell 0 _ (by omega) rfl, hcell 1 _ (by omega) rfl, hcell 2 _ (by omega) rfl, ?_, ?_⟩
  · rintro o rs rfl
    have h3 := hok.2
    simp only [Bool.and_eq_true, Bool.or_eq_true, beq_iff_eq, List.contains_iff_mem] at h3
    exact ⟨hrun rs h3.1.1 rfl rfl, by unfold LenOk; omega, rises_of rs h3.2⟩
  · rintro o r rfl
    have h3 := hok.2
    simp only [List.contains_iff_mem] at h3
    exact hrun [r] h3 rfl rfl
end Go.Proofs.YtpbmbaffncnglaaGreatDoor.Sv
end
