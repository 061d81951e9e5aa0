/- a part of the proof: FnSemverTilde: for every two versions, number and wildcard the law's function returns true and leaves its arguments as they were; no condition is added, the statement is the given tied card. -/
import Derived.Test.YtpbmbaffncnglaaGreatDoorNC
import Derived.Deep.RegionHeld3
import Derived.Deep.QuietTactic
import Derived.BigQuiet
import Derived.ScopeJumps
import Derived.Deep.LoopGhost
import Derived.Handy
import Derived.Laws.CopyOwn
import Derived.Test.YtpbmbaffncnglaaGreatDoorNA
section
set_option linter.unusedVariables false
set_option linter.unusedSimpArgs false
/- which numbers have a next one; the order of numbers -/
namespace Go.Proofs.YtpbmbaffncnglaaGreatDoor.Sv
open Go Go.RowKit Rx
set_option maxRecDepth 100000
/-- one more, or round to nothing -/
theorem wrap1 (a : Nat) (ha : a < 18446744073709551616) : (a < 18446744073709551615 ∧ IntKind.u64.wrap ((a : Int) + 1) = ((a + 1 : Nat) : Int)) ∨ (¬ a < 18446744073709551615 ∧ IntKind.u64.wrap ((a : Int) + 1) = 0) := by
  have e : IntKind.u64.bits = 64 := rfl
  by_cases h : a < 18446744073709551615
  · refine .inl ⟨h, ?_⟩
    unfold IntKind.wrap; simp [e, IntKind.signed]; omega
  · refine .inr ⟨h, ?_⟩
    have : a = 18446744073709551615 := by omega
    subst this
    unfold IntKind.wrap; simp [e, IntKind.signed]
def plusB (k a b : Nat) : Bool := decide (a < 18446744073709551615) && (decide (k < 2) || decide (b < 18446744073709551615))
set_option maxHeartbeats 1000000 in
theorem jPlus (k : Nat) (hk : k = 1 ∨ k = 2) (a b c : Nat) (p m : ByteArray) (ha : a < 18446744073709551616) (hb : b < 18446744073709551616) (w : World) :
    Calls Tryz.prog 6 #[iv a b c p m, .int .i64 k] w fun e w' => e = .returned (.bool (plusB k a b)) ∧ Below w.heap.size w w' := by
  have hal := Lib.hid ((Below.refl _ w).alloc (Nat.le_refl _) (.cells #[.int .u64 a, .int .u64 b, .int .u64 c, .string p, .string m] 24))
  unfold iv plusB
  obtain ⟨h1, t1⟩ | ⟨h1, t1⟩ := wrap1 a ha
  · rw [decide_eq_true h1, Bool.true_and]
    obtain ⟨n1, hn1⟩ : ∃ n, n = a + 1 := ⟨_, rfl⟩
    rw [← hn1] at t1
    have y1 : ((n1 : Int) != 0) = true := by simp; omega
    clear h1 hn1 ha
    rcases hk with rfl | rfl
    · go_enter Tryz.func6, Tryz.ntmps6
      go_wp2
      go_ret
      exact ⟨rfl, hal.out⟩
    · obtain ⟨h2, t2⟩ | ⟨h2, t2⟩ := wrap1 b hb
      · rw [decide_eq_true h2]
        obtain ⟨n2, hn2⟩ : ∃ n, n = b + 1 := ⟨_, rfl⟩
        rw [← hn2] at t2
        have y2 : ((n2 : Int) != 0) = true := by simp; omega
        clear h2 hn2 hb
        go_enter Tryz.func6, Tryz.ntmps6
        go_wp2
        go_ret
        exact ⟨rfl, hal.out⟩
      · rw [decide_eq_false h2]
        clear h2 hb
        go_enter Tryz.func6, Tryz.ntmps6
        go_wp2
        go_ret
        exact ⟨rfl, hal.out⟩
  · rw [decide_eq_false h1, Bool.false_and]
    clear h1 ha
    go_enter Tryz.func6, Tryz.ntmps6
    go_wp2
    go_ret
    exact ⟨rfl, hal.out⟩
/-! the order -/
def SomeI (e : Ending) : Prop := ∃ n : Int, e = .returned (.int .i64 n)
theorem j11 (x y : Nat) (w : World) : Calls Tryz.prog 11 #[.int .u64 x, .int .u64 y] w fun e w' => SomeI e ∧ w' = w := by
  generalize h1 : decide ((x : Int) < (y : Int)) = r1
  generalize h2 : decide ((y : Int) < (x : Int)) = r2
  go_enter Tryz.func11, Tryz.ntmps11
  cases r1 <;> cases r2 <;> go_wp2 <;> go_ret <;> exact ⟨⟨_, rfl⟩, rfl⟩
theorem j11zero (w : World) : Calls Tryz.prog 11 #[.int .u64 0, .int .u64 0] w fun e w' => e = .returned (.int .i64 0) ∧ w' = w := by
  go_enter Tryz.func11, Tryz.ntmps11
  go_wp2
  go_ret
  exact ⟨rfl, rfl⟩
/-! three numbers in an array -/
def row3 (x y z : Nat) : Array Value := #[.int .u64 x, .int .u64 y, .int .u64 z]
def zrow3 : Array Value := #[.int .u64 0, .int .u64 0, .int .u64 0]
def ops5 : Array Oper := #[{ dst := some 11, op := Op.fieldAddr 24 (Operand.tmp 3) 0, type := 0, pos := "version.go:239", after := #[], guard := none }, { dst := some 12, op := Op.load 22 (Operand.tmp 11), type := 22, pos := "version.go:239", after := #[{ on := 0, ground := Ground.data }], guard := none }, { dst := some 13, op := Op.fieldAddr 24 (Operand.tmp 3) 1, type := 0, pos := "version.go:239", after := #[], guard := none }, { dst := some 14, op := Op.load 22 (Operand.tmp 13), type := 22, pos := "version.go:239", after := #[{ on := 2, ground := Ground.data }], guard := none }, { dst := some 15, op := Op.fieldAddr 24 (Operand.tmp 3) 2, type := 0, pos := "version.go:239", after := #[], guard := none }, { dst := some 16, op := Op.load 22 (Operand.tmp 15), type := 22, pos := "version.go:239", after := #[{ on := 4, ground := Ground.data }], guard := none }, { dst := some 17, op := Op.build 33 #[(0, Operand.tmp 12), (1, Operand.tmp 14), (2, Operand.tmp 16)], type := 33, pos := "version.go:239", after := #[{ on := 1, ground := Ground.data }, { on := 3, ground := Ground.data }, { on := 5, ground := Ground.data }], guard := none }, { dst := some 18, op := Op.fieldAddr 24 (Operand.tmp 4) 0, type := 0, pos := "version.go:239", after := #[{ on := 16, ground := Ground.gcOnly Departure.lateStores }], guard := none }, { dst := some 19, op := Op.load 22 (Operand.tmp 18), type := 22, pos := "version.go:239", after := #[{ on := 7, ground := Ground.data }, { on := 16, ground := Ground.gcOnly Departure.lateStores }], guard := none }, { dst := some 20, op := Op.fieldAddr 24 (Operand.tmp 4) 1, type := 0, pos := "version.go:239", after := #[{ on := 16, ground := Ground.gcOnly Departure.lateStores }], guard := none }, { dst := some 21, op := Op.load 22 (Operand.tmp 20), type := 22, pos := "version.go:239", after := #[{ on := 9, ground := Ground.data }, { on := 16, ground := Ground.gcOnly Departure.lateStores }], guard := none }, { dst := some 22, op := Op.fieldAddr 24 (Operand.tmp 4) 2, type := 0, pos := "version.go:239", after := #[{ on := 16, ground := Ground.gcOnly Departure.lateStores }], guard := none }, { dst := some 23, op := Op.load 22 (Operand.tmp 22), type := 22, pos := "version.go:239", after := #[{ on := 11, ground := Ground.data }, { on := 16, ground := Ground.gcOnly Departure.lateStores }], guard := none }, { dst := some 24, op := Op.build 33 #[(0, Operand.tmp 19), (1, Operand.tmp 21), (2, Operand.tmp 23)], type := 33, pos := "version.go:239", after := #[{ on := 8, ground := Ground.data }, { on := 10, ground := Ground.data }, { on := 12, ground := Ground.data }, { on := 16, ground := Ground.gcOnly Departure.lateStores }], guard := none }, { dst := some 7, op := Op.alloc 33, type := 0, pos := "version.go:239", after := #[], guard := none }, { dst := some 8, op := Op.alloc 33, type := 0, pos := "version.go:239", after := #[], guard := none }, { dst := none, op := Op.store 33 (Operand.tmp 7) (Operand.tmp 17), type := 0, pos := "version.go:239", after := #[{ on := 14, ground := Ground.data }, { on := 6, ground := Ground.data }, { on := 0, ground := Ground.phase }, { on := 1, ground := Ground.phase }, { on := 2, ground := Ground.phase }, { on := 3, ground := Ground.phase }, { on := 4, ground := Ground.phase }, { on := 5, ground := Ground.phase }, { on := 6, ground := Ground.phase }, { on := 7, ground := Ground.textOnly Departure.lateStores }, { on := 8, ground := Ground.textOnly Departure.lateStores }, { on := 9, ground := Ground.textOnly Departure.lateStores }, { on := 10, ground := Ground.textOnly Departure.lateStores }, { on := 11, ground := Ground.textOnly Departure.lateStores }, { on := 12, ground := Ground.textOnly Departure.lateStores }, { on := 13, ground := Ground.textOnly Departure.lateStores }, { on := 14, ground := Ground.phase }, { on := 15, ground := Ground.phase }], guard := none }, { dst := none, op := Op.store 33 (Operand.tmp 8) (Operand.tmp 24), type := 0, pos := "version.go:239", after := #[{ on := 15, ground := Ground.data }, { on := 13, ground := Ground.data }, { on := 16, ground := Ground.chain }, { on := 0, ground := Ground.phase }, { on := 1, ground := Ground.phase }, { on := 2, ground := Ground.phase }, { on := 3, ground := Ground.phase }, { on := 4, ground := Ground.phase }, { on := 5, ground := Ground.phase }, { on := 6, ground := Ground.phase }, { on := 7, ground := Ground.phase }, { on := 8, ground := Ground.phase }, { on := 9, ground := Ground.phase }, { on := 10, ground := Ground.phase }, { on := 11, ground := Ground.phase }, { on := 12, ground := Ground.phase }, { on := 13, ground := Ground.phase }, { on := 14, ground := Ground.phase }, { on := 15, ground := Ground.phase }, { on := 16, ground := Ground.phase }], guard := none }]
def set3 (W : World) (P : Nat) (x0 x1 x2 : Value) : World := ((W.setCell ⟨P, 0, none⟩ x0).setCell ⟨P, 1, none⟩ x1).setCell ⟨P, 2, none⟩ x2
theorem set3_size (W : World) (P : Nat) (x0 x1 x2 : Value) : (set3 W P x0 x1 x2).heap.size = W.heap.size := by simp [set3]
theorem set3_other {W : World} {P k : Nat} (h : k ≠ P) (x0 x1 x2 : Value) : (set3 W P x0 x1 x2).heap[k]? = W.heap[k]? := by
  unfold set3
  rw [heap_setCell_other _ _ _ _ h, heap_setCell_other _ _ _ _ h, heap_setCell_other _ _ _ _ h]
theorem set3_same {W : World} {P : Nat} {y0 y1 y2 : Value} (h : W.heap[P]? = some (.cells #[y0, y1, y2] 33 (0, 0))) (x0 x1 x2 : Value) : (set3 W P x0 x1 x2).heap[P]? = some (.cells #[x0, x1, x2] 33 (0, 0)) :=
  heap_setCell_same _ _ 2 _ _ _ (heap_setCell_same _ _ 1 _ _ _ (heap_setCell_same _ _ 0 _ _ _ h))
def Bk3 (W : World) (s : Value) (N : Nat) (X : Array Value) : Prop := ∃ P, s = .pointer (some ⟨P, 0, none⟩) ∧ N ≤ P ∧ P < W.heap.size ∧ W.heap[P]? = some (.cells X 33 (0, 0))
theorem jblk {W W' : World} {j : Nat} {o : Obj} (hb : Below W.heap.size W W') (h : W.heap[j]? = some o) : W'.heap[j]? = some o := (hb.block j (Array.getElem?_eq_some_iff.1 h).1).trans h
theorem Bk3.keep {W W' : World} {s : Value} {N : Nat} {X : Array Value} (h : Bk3 W s N X) (hb : Below W.heap.size W W') : Bk3 W' s N X := by
  obtain ⟨P, h1, h2, h3, h4⟩ := h
  exact ⟨P, h1, h2, Nat.lt_of_lt_of_le h3 hb.size, jblk hb h4⟩
theorem Bk3.set3 {W : World} {s : Value} {N : Nat} {X : Array Value} {P : Nat} (h : Bk3 W s N X) (hn : Value.pointer (some ⟨P, 0, none⟩) ≠ s) (x0 x1 x2 : Value) : Bk3 (set3 W P x0 x1 x2) s N X := by
  obtain ⟨P', h1, h2, h3, h4⟩ := h
  exact ⟨P', h1, h2, by rw [set3_size]; exact h3, (set3_other (fun e => hn (by rw [h1, e])) _ _ _).trans h4⟩
theorem Bk3.fresh {W : World} {s : Value} {N : Nat} {X : Array Value} (h : Bk3 W s N X) : Value.pointer (some ⟨W.heap.size, 0, none⟩) ≠ s := by
  obtain ⟨P, h1, h2, h3, h4⟩ := h
  rw [h1]
  intro e
  injection e with e
  injection e with e
  injection e with e
  omega
structure J5 (w : World) (T3 T4 a b c N : Nat) (p m p2 m2 : ByteArray) (L : Nat → Prop) (s7 s8 s11 s12 s13 s14 s15 s16 s17 s18 s19 s20 s21 s22 s23 s24 : Value) (W : World) : Prop where
  t3 : W.heap[T3]? = some (.cells #[.int .u64 a, .int .u64 b, .int .u64 c, .string p, .string m] 24 (0, 0))
  t4 : W.heap[T4]? = some (.cells #[.int .u64 0, .int .u64 0, .int .u64 0, .string p2, .string m2] 24 (0, 0))
  bel : Below w.heap.size w W
  hN : N ≤ W.heap.size ∧ T3 < N ∧ T4 < N ∧ w.heap.size ≤ N
  v0 : L 0 → s11 = .pointer (some ⟨T3, 0, none⟩)
  v1 : L 1 → s12 = .int .u64 (a : Nat)
  v2 : L 2 → s13 = .pointer (some ⟨T3, 1, none⟩)
  v3 : L 3 → s14 = .int .u64 (b : Nat)
  v4 : L 4 → s15 = .pointer (some ⟨T3, 2, none⟩)
  v5 : L 5 → s16 = .int .u64 (c : Nat)
  v6 : L 6 → s17 = .agg (row3 a b c)
  v7 : L 7 → s18 = .pointer (some ⟨T4, 0, none⟩)
  v8 : L 8 → s19 = .int .u64 0
  v9 : L 9 → s20 = .pointer (some ⟨T4, 1, none⟩)
  v10 : L 10 → s21 = .int .u64 0
  v11 : L 11 → s22 = .pointer (some ⟨T4, 2, none⟩)
  v12 : L 12 → s23 = .int .u64 0
  v13 : L 13 → s24 = .agg zrow3
  b7 : L 14 → ¬ L 16 → Bk3 W s7 N zrow3
  b8 : L 15 → ¬ L 17 → Bk3 W s8 N zrow3
  d7 : L 16 → Bk3 W s7 N (row3 a b c)
  d8 : L 17 → Bk3 W s8 N zrow3
  ne78 : L 14 → L 15 → s7 ≠ s8
section
variable {w : World} {T3 T4 a b c N : Nat} {p m p2 m2 : ByteArray} {L : Nat → Prop} {s7 s8 s11 s12 s13 s14 s15 s16 s17 s18 s19 s20 s21 s22 s23 s24 : Value} {W W' : World}
theorem J5.keep (h : J5 w T3 T4 a b c N p m p2 m2 L s7 s8 s11 s12 s13 s14 s15 s16 s17 s18 s19 s20 s21 s22 s23 s24 W) (hb : Below W.heap.size W W') : J5 w T3 T4 a b c N p m p2 m2 L s7 s8 s11 s12 s13 s14 s15 s16 s17 s18 s19 s20 s21 s22 s23 s24 W' :=
  ⟨jblk hb h.t3, jblk hb h.t4, h.bel.trans (hb.mono h.bel.size), ⟨Nat.le_trans h.hN.1 hb.size, h.hN.2⟩, h.v0, h.v1, h.v2, h.v3, h.v4, h.v5, h.v6, h.v7, h.v8, h.v9, h.v10, h.v11, h.v12, h.v13, fun x y => (h.b7 x y).keep hb, fun x y => (h.b8 x y).keep hb, fun x => (h.d7 x).keep hb, fun x => (h.d8 x).keep hb, h.ne78⟩
theorem J5.cells (h : J5 w T3 T4 a b c N p m p2 m2 L s7 s8 s11 s12 s13 s14 s15 s16 s17 s18 s19 s20 s21 s22 s23 s24 W) : W.cell? ⟨T3, 0, none⟩ = some (.int .u64 a) ∧ W.cell? ⟨T3, 1, none⟩ = some (.int .u64 b) ∧ W.cell? ⟨T3, 2, none⟩ = some (.int .u64 c) ∧ W.cell? ⟨T4, 0, none⟩ = some (.int .u64 0) ∧ W.cell? ⟨T4, 1, none⟩ = some (.int .u64 0) ∧ W.cell? ⟨T4, 2, none⟩ = some (.int .u64 0) :=
  ⟨cell_of_row _ _ 0 _ _ _ h.t3, cell_of_row _ _ 1 _ _ _ h.t3, cell_of_row _ _ 2 _ _ _ h.t3, cell_of_row _ _ 0 _ _ _ h.t4, cell_of_row _ _ 1 _ _ _ h.t4, cell_of_row _ _ 2 _ _ _ h.t4⟩
theorem J5.fresh7 (h : J5 w T3 T4 a b c N p m p2 m2 L s7 s8 s11 s12 s13 s14 s15 s16 s17 s18 s19 s20 s21 s22 s23 s24 W) (hl : L 14) : Value.pointer (some ⟨W.heap.size, 0, none⟩) ≠ s7 := by
  by_cases h9 : L 16
  · exact (h.d7 h9).fresh
  · exact (h.b7 hl h9).fresh
theorem J5.fresh8 (h : J5 w T3 T4 a b c N p m p2 m2 L s7 s8 s11 s12 s13 s14 s15 s16 s17 s18 s19 s20 s21 s22 s23 s24 W) (hl : L 15) : Value.pointer (some ⟨W.heap.size, 0, none⟩) ≠ s8 := by
  by_cases h9 : L 17
  · exact (h.d8 h9).fresh
  · exact (h.b8 hl h9).fresh
end
def fr5 (A B : Value) (T3 T4 : Nat) (s7 s8 s11 s12 s13 s14 s15 s16 s17 s18 s19 s20 s21 s22 s23 s24 : Value) : Act := ⟨(A :: B :: .int .i64 3 :: .pointer (some ⟨T3, 0, none⟩) :: .pointer (some ⟨T4, 0, none⟩) :: undef :: .int .i64 0 :: s7 :: s8 :: undef :: undef :: s11 :: s12 :: s13 :: s14 :: s15 :: s16 :: s17 :: s18 :: s19 :: s20 :: s21 :: s22 :: s23 :: s24 :: undef :: undef :: undef :: undef :: undef :: undef :: undef :: undef :: undef :: undef :: undef :: undef :: undef :: undef :: undef :: undef :: undef :: undef :: undef :: []).toArray, []⟩
def wait5 (st al : Nat) : Bool := (st == 16 && al == 14) || (st == 17 && al == 15)
set_option maxHeartbeats 8000000 in
theorem region5 (A B : Value) (w : World) (T3 T4 a b c : Nat) (p m p2 m2 : ByteArray) (w5 : World) (h3 : w5.heap[T3]? = some (.cells #[.int .u64 a, .int .u64 b, .int .u64 c, .string p, .string m] 24 (0, 0))) (h4 : w5.heap[T4]? = some (.cells #[.int .u64 0, .int .u64 0, .int .u64 0, .string p2, .string m2] 24 (0, 0))) (hb5 : Below w.heap.size w w5)
    {Q : Exit → Act → World → Prop} (hQ : ∀ s7 s8 s11 s12 s13 s14 s15 s16 s17 s18 s19 s20 s21 s22 s23 s24 W, Below w.heap.size w W → Bk3 W s7 w5.heap.size (row3 a b c) → Bk3 W s8 w5.heap.size zrow3 → Q .normal (fr5 A B T3 T4 s7 s8 s11 s12 s13 s14 s15 s16 s17 s18 s19 s20 s21 s22 s23 s24) W) :
    (Code.region 1 ops5 true).wp Tryz.prog Q (fr5 A B T3 T4 undef undef undef undef undef undef undef undef undef undef undef undef undef undef undef undef) w5 := by
  have l3 := (Array.getElem?_eq_some_iff.1 h3).1
  have l4 := (Array.getElem?_eq_some_iff.1 h4).1
  have hd := (Below.refl w5.heap.size w5).drew
  refine wp_region_inv (by kernel_rfl) (fun L a' W => (∀ st al, L st → wait5 st al = true → L al) ∧ ∃ s7 s8 s11 s12 s13 s14 s15 s16 s17 s18 s19 s20 s21 s22 s23 s24, a' = fr5 A B T3 T4 s7 s8 s11 s12 s13 s14 s15 s16 s17 s18 s19 s20 s21 s22 s23 s24 ∧ J5 w T3 T4 a b c w5.heap.size p m p2 m2 L s7 s8 s11 s12 s13 s14 s15 s16 s17 s18 s19 s20 s21 s22 s23 s24 W) (by kernel_rfl) ⟨fun _ _ h => h.elim, _, _, _, _, _, _, _, _, _, _, _, _, _, _, _, _, rfl, ⟨jblk hd h3, jblk hd h4, hb5.trans (hd.mono hb5.size), ⟨Nat.le_refl _, l3, l4, hb5.size⟩, fun h => h.elim, fun h => h.elim, fun h => h.elim, fun h => h.elim, fun h => h.elim, fun h => h.elim, fun h => h.elim, fun h => h.elim, fun h => h.elim, fun h => h.elim, fun h => h.elim, fun h => h.elim, fun h => h.elim, fun h => h.elim, fun h => h.elim, fun h => h.elim, fun h => h.elim, fun h => h.elim, fun h => h.elim⟩⟩ ?_ ?_
  · intro i o ho L a' W hni hdep hI K hK0
    obtain ⟨HD, s7, s8, s11, s12, s13, s14, s15, s16, s17, s18, s19, s20, s21, s22, s23, s24, rfl, hk⟩ := hI
    have HD' : ∀ st al, (st = i ∨ L st) → wait5 st al = true → (al = i ∨ L al) := by
      intro st al hs hwb
      rcases hs with rfl | hs
      · right
        have : (st = 16 ∧ al = 14) ∨ (st = 17 ∧ al = 15) := by simpa [wait5] using hwb
        rcases this with ⟨rfl, rfl⟩ | ⟨rfl, rfl⟩
        · obtain rfl := Option.some.inj (show some ({ dst := none, op := Op.store 33 (Operand.tmp 7) (Operand.tmp 17), type := 0, pos := "version.go:239", after := #[{ on := 14, ground := Ground.data }, { on := 6, ground := Ground.data }, { on := 0, ground := Ground.phase }, { on := 1, ground := Ground.phase }, { on := 2, ground := Ground.phase }, { on := 3, ground := Ground.phase }, { on := 4, ground := Ground.phase }, { on := 5, ground := Ground.phase }, { on := 6, ground := Ground.phase }, { on := 7, ground := Ground.textOnly Departure.lateStores }, { on := 8, ground := Ground.textOnly Departure.lateStores }, { on := 9, ground := Ground.textOnly Departure.lateStores }, { on := 10, ground := Ground.textOnly Departure.lateStores }, { on := 11, ground := Ground.textOnly Departure.lateStores }, { on := 12, ground := Ground.textOnly Departure.lateStores }, { on := 13, ground := Ground.textOnly Departure.lateStores }, { on := 14, ground := Ground.phase }, { on := 15, ground := Ground.phase }], guard := none } : Oper) = some o from ho)
          exact hdep ⟨14, .data⟩ (by simp) rfl
        · obtain rfl := Option.some.inj (show some ({ dst := none, op := Op.store 33 (Operand.tmp 8) (Operand.tmp 24), type := 0, pos := "version.go:239", after := #[{ on := 15, ground := Ground.data }, { on := 13, ground := Ground.data }, { on := 16, ground := Ground.chain }, { on := 0, ground := Ground.phase }, { on := 1, ground := Ground.phase }, { on := 2, ground := Ground.phase }, { on := 3, ground := Ground.phase }, { on := 4, ground := Ground.phase }, { on := 5, ground := Ground.phase }, { on := 6, ground := Ground.phase }, { on := 7, ground := Ground.phase }, { on := 8, ground := Ground.phase }, { on := 9, ground := Ground.phase }, { on := 10, ground := Ground.phase }, { on := 11, ground := Ground.phase }, { on := 12, ground := Ground.phase }, { on := 13, ground := Ground.phase }, { on := 14, ground := Ground.phase }, { on := 15, ground := Ground.phase }, { on := 16, ground := Ground.phase }], guard := none } : Oper) = some o from ho)
          exact hdep ⟨15, .data⟩ (by simp) rfl
      · exact .inr (HD st al hs hwb)
    have hK : Shut (∀ a' w', (∃ s7 s8 s11 s12 s13 s14 s15 s16 s17 s18 s19 s20 s21 s22 s23 s24, a' = fr5 A B T3 T4 s7 s8 s11 s12 s13 s14 s15 s16 s17 s18 s19 s20 s21 s22 s23 s24 ∧ J5 w T3 T4 a b c w5.heap.size p m p2 m2 (fun j => j = i ∨ L j) s7 s8 s11 s12 s13 s14 s15 s16 s17 s18 s19 s20 s21 s22 s23 s24 w') → K a' w') := fun a' w' h => hK0.out a' w' ⟨HD', h⟩
    clear hK0 HD'
    rcases i with _ | _ | _ | _ | _ | _ | _ | _ | _ | _ | _ | _ | _ | _ | _ | _ | _ | _ | i
    · obtain rfl := Option.some.inj (show some ({ dst := some 11, op := Op.fieldAddr 24 (Operand.tmp 3) 0, type := 0, pos := "version.go:239", after := #[], guard := none } : Oper) = some o from ho)
      unfold fr5
      obtain ⟨q0, q1, q2, r0, r1, r2⟩ := hk.cells
      go_simp
      refine hK.out _ _ ⟨s7, s8, .pointer (some ⟨T3, 0, none⟩), s12, s13, s14, s15, s16, s17, s18, s19, s20, s21, s22, s23, s24, rfl, ⟨hk.t3, hk.t4, hk.bel, hk.hN, (fun _ => rfl), (fun hl => hk.v1 (hl.resolve_left (by decide))), (fun hl => hk.v2 (hl.resolve_left (by decide))), (fun hl => hk.v3 (hl.resolve_left (by decide))), (fun hl => hk.v4 (hl.resolve_left (by decide))), (fun hl => hk.v5 (hl.resolve_left (by decide))), (fun hl => hk.v6 (hl.resolve_left (by decide))), (fun hl => hk.v7 (hl.resolve_left (by decide))), (fun hl => hk.v8 (hl.resolve_left (by decide))), (fun hl => hk.v9 (hl.resolve_left (by decide))), (fun hl => hk.v10 (hl.resolve_left (by decide))), (fun hl => hk.v11 (hl.resolve_left (by decide))), (fun hl => hk.v12 (hl.resolve_left (by decide))), (fun hl => hk.v13 (hl.resolve_left (by decide))), (fun hl hn => hk.b7 (hl.resolve_left (by decide)) (fun h9 => hn (.inr h9))), (fun hl hn => hk.b8 (hl.resolve_left (by decide)) (fun h9 => hn (.inr h9))), (fun hl => hk.d7 (hl.resolve_left (by decide))), (fun hl => hk.d8 (hl.resolve_left (by decide))), (fun h1 h2 => hk.ne78 (h1.resolve_left (by decide)) (h2.resolve_left (by decide)))⟩⟩
    · obtain rfl := Option.some.inj (show some ({ dst := some 12, op := Op.load 22 (Operand.tmp 11), type := 22, pos := "version.go:239", after := #[{ on := 0, ground := Ground.data }], guard := none } : Oper) = some o from ho)
      unfold fr5
      obtain rfl := hk.v0 (hdep ⟨0, .data⟩ (by simp) rfl)
      obtain ⟨q0, q1, q2, r0, r1, r2⟩ := hk.cells
      go_simp
      refine hK.out _ _ ⟨s7, s8, .pointer (some ⟨T3, 0, none⟩), .int .u64 (a : Nat), s13, s14, s15, s16, s17, s18, s19, s20, s21, s22, s23, s24, rfl, ⟨hk.t3, hk.t4, hk.bel, hk.hN, (fun hl => hk.v0 (hl.resolve_left (by decide))), (fun _ => rfl), (fun hl => hk.v2 (hl.resolve_left (by decide))), (fun hl => hk.v3 (hl.resolve_left (by decide))), (fun hl => hk.v4 (hl.resolve_left (by decide))), (fun hl => hk.v5 (hl.resolve_left (by decide))), (fun hl => hk.v6 (hl.resolve_left (by decide))), (fun hl => hk.v7 (hl.resolve_left (by decide))), (fun hl => hk.v8 (hl.resolve_left (by decide))), (fun hl => hk.v9 (hl.resolve_left (by decide))), (fun hl => hk.v10 (hl.resolve_left (by decide))), (fun hl => hk.v11 (hl.resolve_left (by decide))), (fun hl => hk.v12 (hl.resolve_left (by decide))), (fun hl => hk.v13 (hl.resolve_left (by decide))), (fun hl hn => hk.b7 (hl.resolve_left (by decide)) (fun h9 => hn (.inr h9))), (fun hl hn => hk.b8 (hl.resolve_left (by decide)) (fun h9 => hn (.inr h9))), (fun hl => hk.d7 (hl.resolve_left (by decide))), (fun hl => hk.d8 (hl.resolve_left (by decide))), (fun h1 h2 => hk.ne78 (h1.resolve_left (by decide)) (h2.resolve_left (by decide)))⟩⟩
    · obtain rfl := Option.some.inj (show some ({ dst := some 13, op := Op.fieldAddr 24 (Operand.tmp 3) 1, type := 0, pos := "version.go:239", after := #[], guard := none } : Oper) = some o from ho)
      unfold fr5
      obtain ⟨q0, q1, q2, r0, r1, r2⟩ := hk.cells
      go_simp
      refine hK.out _ _ ⟨s7, s8, s11, s12, .pointer (some ⟨T3, 1, none⟩), s14, s15, s16, s17, s18, s19, s20, s21, s22, s23, s24, rfl, ⟨hk.t3, hk.t4, hk.bel, hk.hN, (fun hl => hk.v0 (hl.resolve_left (by decide))), (fun hl => hk.v1 (hl.resolve_left (by decide))), (fun _ => rfl), (fun hl => hk.v3 (hl.resolve_left (by decide))), (fun hl => hk.v4 (hl.resolve_left (by decide))), (fun hl => hk.v5 (hl.resolve_left (by decide))), (fun hl => hk.v6 (hl.resolve_left (by decide))), (fun hl => hk.v7 (hl.resolve_left (by decide))), (fun hl => hk.v8 (hl.resolve_left (by decide))), (fun hl => hk.v9 (hl.resolve_left (by decide))), (fun hl => hk.v10 (hl.resolve_left (by decide))), (fun hl => hk.v11 (hl.resolve_left (by decide))), (fun hl => hk.v12 (hl.resolve_left (by decide))), (fun hl => hk.v13 (hl.resolve_left (by decide))), (fun hl hn => hk.b7 (hl.resolve_left (by decide)) (fun h9 => hn (.inr h9))), (fun hl hn => hk.b8 (hl.resolve_left (by decide)) (fun h9 => hn (.inr h9))), (fun hl => hk.d7 (hl.resolve_left (by decide))), (fun hl => hk.d8 (hl.resolve_left (by decide))), (fun h1 h2 => hk.ne78 (h1.resolve_left (by decide)) (h2.resolve_left (by decide)))⟩⟩
    · obtain rfl := Option.some.inj (show some ({ dst := some 14, op := Op.load 22 (Operand.tmp 13), type := 22, pos := "version.go:239", after := #[{ on := 2, ground := Ground.data }], guard := none } : Oper) = some o from ho)
      unfold fr5
      obtain rfl := hk.v2 (hdep ⟨2, .data⟩ (by simp) rfl)
      obtain ⟨q0, q1, q2, r0, r1, r2⟩ := hk.cells
      go_simp
      refine hK.out _ _ ⟨s7, s8, s11, s12, .pointer (some ⟨T3, 1, none⟩), .int .u64 (b : Nat), s15, s16, s17, s18, s19, s20, s21, s22, s23, s24, rfl, ⟨hk.t3, hk.t4, hk.bel, hk.hN, (fun hl => hk.v0 (hl.resolve_left (by decide))), (fun hl => hk.v1 (hl.resolve_left (by decide))), (fun hl => hk.v2 (hl.resolve_left (by decide))), (fun _ => rfl), (fun hl => hk.v4 (hl.resolve_left (by decide))), (fun hl => hk.v5 (hl.resolve_left (by decide))), (fun hl => hk.v6 (hl.resolve_left (by decide))), (fun hl => hk.v7 (hl.resolve_left (by decide))), (fun hl => hk.v8 (hl.resolve_left (by decide))), (fun hl => hk.v9 (hl.resolve_left (by decide))), (fun hl => hk.v10 (hl.resolve_left (by decide))), (fun hl => hk.v11 (hl.resolve_left (by decide))), (fun hl => hk.v12 (hl.resolve_left (by decide))), (fun hl => hk.v13 (hl.resolve_left (by decide))), (fun hl hn => hk.b7 (hl.resolve_left (by decide)) (fun h9 => hn (.inr h9))), (fun hl hn => hk.b8 (hl.resolve_left (by decide)) (fun h9 => hn (.inr h9))), (fun hl => hk.d7 (hl.resolve_left (by decide))), (fun hl => hk.d8 (hl.resolve_left (by decide))), (fun h1 h2 => hk.ne78 (h1.resolve_left (by decide)) (h2.resolve_left (by decide)))⟩⟩
    · obtain rfl := Option.some.inj (show some ({ dst := some 15, op := Op.fieldAddr 24 (Operand.tmp 3) 2, type := 0, pos := "version.go:239", after := #[], guard := none } : Oper) = some o from ho)
      unfold fr5
      obtain ⟨q0, q1, q2, r0, r1, r2⟩ := hk.cells
      go_simp
      refine hK.out _ _ ⟨s7, s8, s11, s12, s13, s14, .pointer (some ⟨T3, 2, none⟩), s16, s17, s18, s19, s20, s21, s22, s23, s24, rfl, ⟨hk.t3, hk.t4, hk.bel, hk.hN, (fun hl => hk.v0 (hl.resolve_left (by decide))), (fun hl => hk.v1 (hl.resolve_left (by decide))), (fun hl => hk.v2 (hl.resolve_left (by decide))), (fun hl => hk.v3 (hl.resolve_left (by decide))), (fun _ => rfl), (fun hl => hk.v5 (hl.resolve_left (by decide))), (fun hl => hk.v6 (hl.resolve_left (by decide))), (fun hl => hk.v7 (hl.resolve_left (by decide))), (fun hl => hk.v8 (hl.resolve_left (by decide))), (fun hl => hk.v9 (hl.resolve_left (by decide))), (fun hl => hk.v10 (hl.resolve_left (by decide))), (fun hl => hk.v11 (hl.resolve_left (by decide))), (fun hl => hk.v12 (hl.resolve_left (by decide))), (fun hl => hk.v13 (hl.resolve_left (by decide))), (fun hl hn => hk.b7 (hl.resolve_left (by decide)) (fun h9 => hn (.inr h9))), (fun hl hn => hk.b8 (hl.resolve_left (by decide)) (fun h9 => hn (.inr h9))), (fun hl => hk.d7 (hl.resolve_left (by decide))), (fun hl => hk.d8 (hl.resolve_left (by decide))), (fun h1 h2 => hk.ne78 (h1.resolve_left (by decide)) (h2.resolve_left (by decide)))⟩⟩
    · obtain rfl := Option.some.inj (show some ({ dst := some 16, op := Op.load 22 (Operand.tmp 15), type := 22, pos := "version.go:239", after := #[{ on := 4, ground := Ground.data }], guard := none } : Oper) = some o from ho)
      unfold fr5
      obtain rfl := hk.v4 (hdep ⟨4, .data⟩ (by simp) rfl)
      obtain ⟨q0, q1, q2, r0, r1, r2⟩ := hk.cells
      go_simp
      refine hK.out _ _ ⟨s7, s8, s11, s12, s13, s14, .pointer (some ⟨T3, 2, none⟩), .int .u64 (c : Nat), s17, s18, s19, s20, s21, s22, s23, s24, rfl, ⟨hk.t3, hk.t4, hk.bel, hk.hN, (fun hl => hk.v0 (hl.resolve_left (by decide))), (fun hl => hk.v1 (hl.resolve_left (by decide))), (fun hl => hk.v2 (hl.resolve_left (by decide))), (fun hl => hk.v3 (hl.resolve_left (by decide))), (fun hl => hk.v4 (hl.resolve_left (by decide))), (fun _ => rfl), (fun hl => hk.v6 (hl.resolve_left (by decide))), (fun hl => hk.v7 (hl.resolve_left (by decide))), (fun hl => hk.v8 (hl.resolve_left (by decide))), (fun hl => hk.v9 (hl.resolve_left (by decide))), (fun hl => hk.v10 (hl.resolve_left (by decide))), (fun hl => hk.v11 (hl.resolve_left (by decide))), (fun hl => hk.v12 (hl.resolve_left (by decide))), (fun hl => hk.v13 (hl.resolve_left (by decide))), (fun hl hn => hk.b7 (hl.resolve_left (by decide)) (fun h9 => hn (.inr h9))), (fun hl hn => hk.b8 (hl.resolve_left (by decide)) (fun h9 => hn (.inr h9))), (fun hl => hk.d7 (hl.resolve_left (by decide))), (fun hl => hk.d8 (hl.resolve_left (by decide))), (fun h1 h2 => hk.ne78 (h1.resolve_left (by decide)) (h2.resolve_left (by decide)))⟩⟩
    · obtain rfl := Option.some.inj (show some ({ dst := some 17, op := Op.build 33 #[(0, Operand.tmp 12), (1, Operand.tmp 14), (2, Operand.tmp 16)], type := 33, pos := "version.go:239", after := #[{ on := 1, ground := Ground.data }, { on := 3, ground := Ground.data }, { on := 5, ground := Ground.data }], guard := none } : Oper) = some o from ho)
      unfold fr5
      obtain rfl := hk.v1 (hdep ⟨1, .data⟩ (by simp) rfl)
      obtain rfl := hk.v3 (hdep ⟨3, .data⟩ (by simp) rfl)
      obtain rfl := hk.v5 (hdep ⟨5, .data⟩ (by simp) rfl)
      obtain ⟨q0, q1, q2, r0, r1, r2⟩ := hk.cells
      go_simp
      refine hK.out _ _ ⟨s7, s8, s11, .int .u64 (a : Nat), s13, .int .u64 (b : Nat), s15, .int .u64 (c : Nat), .agg (row3 a b c), s18, s19, s20, s21, s22, s23, s24, rfl, ⟨hk.t3, hk.t4, hk.bel, hk.hN, (fun hl => hk.v0 (hl.resolve_left (by decide))), (fun hl => hk.v1 (hl.resolve_left (by decide))), (fun hl => hk.v2 (hl.resolve_left (by decide))), (fun hl => hk.v3 (hl.resolve_left (by decide))), (fun hl => hk.v4 (hl.resolve_left (by decide))), (fun hl => hk.v5 (hl.resolve_left (by decide))), (fun _ => rfl), (fun hl => hk.v7 (hl.resolve_left (by decide))), (fun hl => hk.v8 (hl.resolve_left (by decide))), (fun hl => hk.v9 (hl.resolve_left (by decide))), (fun hl => hk.v10 (hl.resolve_left (by decide))), (fun hl => hk.v11 (hl.resolve_left (by decide))), (fun hl => hk.v12 (hl.resolve_left (by decide))), (fun hl => hk.v13 (hl.resolve_left (by decide))), (fun hl hn => hk.b7 (hl.resolve_left (by decide)) (fun h9 => hn (.inr h9))), (fun hl hn => hk.b8 (hl.resolve_left (by decide)) (fun h9 => hn (.inr h9))), (fun hl => hk.d7 (hl.resolve_left (by decide))), (fun hl => hk.d8 (hl.resolve_left (by decide))), (fun h1 h2 => hk.ne78 (h1.resolve_left (by decide)) (h2.resolve_left (by decide)))⟩⟩
    · obtain rfl := Option.some.inj (show some ({ dst := some 18, op := Op.fieldAddr 24 (Operand.tmp 4) 0, type := 0, pos := "version.go:239", after := #[{ on := 16, ground := Ground.gcOnly Departure.lateStores }], guard := none } : Oper) = some o from ho)
      unfold fr5
      obtain ⟨q0, q1, q2, r0, r1, r2⟩ := hk.cells
      go_simp
      refine hK.out _ _ ⟨s7, s8, s11, s12, s13, s14, s15, s16, s17, .pointer (some ⟨T4, 0, none⟩), s19, s20, s21, s22, s23, s24, rfl, ⟨hk.t3, hk.t4, hk.bel, hk.hN, (fun hl => hk.v0 (hl.resolve_left (by decide))), (fun hl => hk.v1 (hl.resolve_left (by decide))), (fun hl => hk.v2 (hl.resolve_left (by decide))), (fun hl => hk.v3 (hl.resolve_left (by decide))), (fun hl => hk.v4 (hl.resolve_left (by decide))), (fun hl => hk.v5 (hl.resolve_left (by decide))), (fun hl => hk.v6 (hl.resolve_left (by decide))), (fun _ => rfl), (fun hl => hk.v8 (hl.resolve_left (by decide))), (fun hl => hk.v9 (hl.resolve_left (by decide))), (fun hl => hk.v10 (hl.resolve_left (by decide))), (fun hl => hk.v11 (hl.resolve_left (by decide))), (fun hl => hk.v12 (hl.resolve_left (by decide))), (fun hl => hk.v13 (hl.resolve_left (by decide))), (fun hl hn => hk.b7 (hl.resolve_left (by decide)) (fun h9 => hn (.inr h9))), (fun hl hn => hk.b8 (hl.resolve_left (by decide)) (fun h9 => hn (.inr h9))), (fun hl => hk.d7 (hl.resolve_left (by decide))), (fun hl => hk.d8 (hl.resolve_left (by decide))), (fun h1 h2 => hk.ne78 (h1.resolve_left (by decide)) (h2.resolve_left (by decide)))⟩⟩
    · obtain rfl := Option.some.inj (show some ({ dst := some 19, op := Op.load 22 (Operand.tmp 18), type := 22, pos := "version.go:239", after := #[{ on := 7, ground := Ground.data }, { on := 16, ground := Ground.gcOnly Departure.lateStores }], guard := none } : Oper) = some o from ho)
      unfold fr5
      obtain rfl := hk.v7 (hdep ⟨7, .data⟩ (by simp) rfl)
      obtain ⟨q0, q1, q2, r0, r1, r2⟩ := hk.cells
      go_simp
      refine hK.out _ _ ⟨s7, s8, s11, s12, s13, s14, s15, s16, s17, .pointer (some ⟨T4, 0, none⟩), .int .u64 0, s20, s21, s22, s23, s24, rfl, ⟨hk.t3, hk.t4, hk.bel, hk.hN, (fun hl => hk.v0 (hl.resolve_left (by decide))), (fun hl => hk.v1 (hl.resolve_left (by decide))), (fun hl => hk.v2 (hl.resolve_left (by decide))), (fun hl => hk.v3 (hl.resolve_left (by decide))), (fun hl => hk.v4 (hl.resolve_left (by decide))), (fun hl => hk.v5 (hl.resolve_left (by decide))), (fun hl => hk.v6 (hl.resolve_left (by decide))), (fun hl => hk.v7 (hl.resolve_left (by decide))), (fun _ => rfl), (fun hl => hk.v9 (hl.resolve_left (by decide))), (fun hl => hk.v10 (hl.resolve_left (by decide))), (fun hl => hk.v11 (hl.resolve_left (by decide))), (fun hl => hk.v12 (hl.resolve_left (by decide))), (fun hl => hk.v13 (hl.resolve_left (by decide))), (fun hl hn => hk.b7 (hl.resolve_left (by decide)) (fun h9 => hn (.inr h9))), (fun hl hn => hk.b8 (hl.resolve_left (by decide)) (fun h9 => hn (.inr h9))), (fun hl => hk.d7 (hl.resolve_left (by decide))), (fun hl => hk.d8 (hl.resolve_left (by decide))), (fun h1 h2 => hk.ne78 (h1.resolve_left (by decide)) (h2.resolve_left (by decide)))⟩⟩
    · obtain rfl := Option.some.inj (show some ({ dst := some 20, op := Op.fieldAddr 24 (Operand.tmp 4) 1, type := 0, pos := "version.go:239", after := #[{ on := 16, ground := Ground.gcOnly Departure.lateStores }], guard := none } : Oper) = some o from ho)
      unfold fr5
      obtain ⟨q0, q1, q2, r0, r1, r2⟩ := hk.cells
      go_simp
      refine hK.out _ _ ⟨s7, s8, s11, s12, s13, s14, s15, s16, s17, s18, s19, .pointer (some ⟨T4, 1, none⟩), s21, s22, s23, s24, rfl, ⟨hk.t3, hk.t4, hk.bel, hk.hN, (fun hl => hk.v0 (hl.resolve_left (by decide))), (fun hl => hk.v1 (hl.resolve_left (by decide))), (fun hl => hk.v2 (hl.resolve_left (by decide))), (fun hl => hk.v3 (hl.resolve_left (by decide))), (fun hl => hk.v4 (hl.resolve_left (by decide))), (fun hl => hk.v5 (hl.resolve_left (by decide))), (fun hl => hk.v6 (hl.resolve_left (by decide))), (fun hl => hk.v7 (hl.resolve_left (by decide))), (fun hl => hk.v8 (hl.resolve_left (by decide))), (fun _ => rfl), (fun hl => hk.v10 (hl.resolve_left (by decide))), (fun hl => hk.v11 (hl.resolve_left (by decide))), (fun hl => hk.v12 (hl.resolve_left (by decide))), (fun hl => hk.v13 (hl.resolve_left (by decide))), (fun hl hn => hk.b7 (hl.resolve_left (by decide)) (fun h9 => hn (.inr h9))), (fun hl hn => hk.b8 (hl.resolve_left (by decide)) (fun h9 => hn (.inr h9))), (fun hl => hk.d7 (hl.resolve_left (by decide))), (fun hl => hk.d8 (hl.resolve_left (by decide))), (fun h1 h2 => hk.ne78 (h1.resolve_left (by decide)) (h2.resolve_left (by decide)))⟩⟩
    · obtain rfl := Option.some.inj (show some ({ dst := some 21, op := Op.load 22 (Operand.tmp 20), type := 22, pos := "version.go:239", after := #[{ on := 9, ground := Ground.data }, { on := 16, ground := Ground.gcOnly Departure.lateStores }], guard := none } : Oper) = some o from ho)
      unfold fr5
      obtain rfl := hk.v9 (hdep ⟨9, .data⟩ (by simp) rfl)
      obtain ⟨q0, q1, q2, r0, r1, r2⟩ := hk.cells
      go_simp
      refine hK.out _ _ ⟨s7, s8, s11, s12, s13, s14, s15, s16, s17, s18, s19, .pointer (some ⟨T4, 1, none⟩), .int .u64 0, s22, s23, s24, rfl, ⟨hk.t3, hk.t4, hk.bel, hk.hN, (fun hl => hk.v0 (hl.resolve_left (by decide))), (fun hl => hk.v1 (hl.resolve_left (by decide))), (fun hl => hk.v2 (hl.resolve_left (by decide))), (fun hl => hk.v3 (hl.resolve_left (by decide))), (fun hl => hk.v4 (hl.resolve_left (by decide))), (fun hl => hk.v5 (hl.resolve_left (by decide))), (fun hl => hk.v6 (hl.resolve_left (by decide))), (fun hl => hk.v7 (hl.resolve_left (by decide))), (fun hl => hk.v8 (hl.resolve_left (by decide))), (fun hl => hk.v9 (hl.resolve_left (by decide))), (fun _ => rfl), (fun hl => hk.v11 (hl.resolve_left (by decide))), (fun hl => hk.v12 (hl.resolve_left (by decide))), (fun hl => hk.v13 (hl.resolve_left (by decide))), (fun hl hn => hk.b7 (hl.resolve_left (by decide)) (fun h9 => hn (.inr h9))), (fun hl hn => hk.b8 (hl.resolve_left (by decide)) (fun h9 => hn (.inr h9))), (fun hl => hk.d7 (hl.resolve_left (by decide))), (fun hl => hk.d8 (hl.resolve_left (by decide))), (fun h1 h2 => hk.ne78 (h1.resolve_left (by decide)) (h2.resolve_left (by decide)))⟩⟩
    · obtain rfl := Option.some.inj (show some ({ dst := some 22, op := Op.fieldAddr 24 (Operand.tmp 4) 2, type := 0, pos := "version.go:239", after := #[{ on := 16, ground := Ground.gcOnly Departure.lateStores }], guard := none } : Oper) = some o from ho)
      unfold fr5
      obtain ⟨q0, q1, q2, r0, r1, r2⟩ := hk.cells
      go_simp
      refine hK.out _ _ ⟨s7, s8, s11, s12, s13, s14, s15, s16, s17, s18, s19, s20, s21, .pointer (some ⟨T4, 2, none⟩), s23, s24, rfl, ⟨hk.t3, hk.t4, hk.bel, hk.hN, (fun hl => hk.v0 (hl.resolve_left (by decide))), (fun hl => hk.v1 (hl.resolve_left (by decide))), (fun hl => hk.v2 (hl.resolve_left (by decide))), (fun hl => hk.v3 (hl.resolve_left (by decide))), (fun hl => hk.v4 (hl.resolve_left (by decide))), (fun hl => hk.v5 (hl.resolve_left (by decide))), (fun hl => hk.v6 (hl.resolve_left (by decide))), (fun hl => hk.v7 (hl.resolve_left (by decide))), (fun hl => hk.v8 (hl.resolve_left (by decide))), (fun hl => hk.v9 (hl.resolve_left (by decide))), (fun hl => hk.v10 (hl.resolve_left (by decide))), (fun _ => rfl), (fun hl => hk.v12 (hl.resolve_left (by decide))), (fun hl => hk.v13 (hl.resolve_left (by decide))), (fun hl hn => hk.b7 (hl.resolve_left (by decide)) (fun h9 => hn (.inr h9))), (fun hl hn => hk.b8 (hl.resolve_left (by decide)) (fun h9 => hn (.inr h9))), (fun hl => hk.d7 (hl.resolve_left (by decide))), (fun hl => hk.d8 (hl.resolve_left (by decide))), (fun h1 h2 => hk.ne78 (h1.resolve_left (by decide)) (h2.resolve_left (by decide)))⟩⟩
    · obtain rfl := Option.some.inj (show some ({ dst := some 23, op := Op.load 22 (Operand.tmp 22), type := 22, pos := "version.go:239", after := #[{ on := 11, ground := Ground.data }, { on := 16, ground := Ground.gcOnly Departure.lateStores }], guard := none } : Oper) = some o from ho)
      unfold fr5
      obtain rfl := hk.v11 (hdep ⟨11, .data⟩ (by simp) rfl)
      obtain ⟨q0, q1, q2, r0, r1, r2⟩ := hk.cells
      go_simp
      refine hK.out _ _ ⟨s7, s8, s11, s12, s13, s14, s15, s16, s17, s18, s19, s20, s21, .pointer (some ⟨T4, 2, none⟩), .int .u64 0, s24, rfl, ⟨hk.t3, hk.t4, hk.bel, hk.hN, (fun hl => hk.v0 (hl.resolve_left (by decide))), (fun hl => hk.v1 (hl.resolve_left (by decide))), (fun hl => hk.v2 (hl.resolve_left (by decide))), (fun hl => hk.v3 (hl.resolve_left (by decide))), (fun hl => hk.v4 (hl.resolve_left (by decide))), (fun hl => hk.v5 (hl.resolve_left (by decide))), (fun hl => hk.v6 (hl.resolve_left (by decide))), (fun hl => hk.v7 (hl.resolve_left (by decide))), (fun hl => hk.v8 (hl.resolve_left (by decide))), (fun hl => hk.v9 (hl.resolve_left (by decide))), (fun hl => hk.v10 (hl.resolve_left (by decide))), (fun hl => hk.v11 (hl.resolve_left (by decide))), (fun _ => rfl), (fun hl => hk.v13 (hl.resolve_left (by decide))), (fun hl hn => hk.b7 (hl.resolve_left (by decide)) (fun h9 => hn (.inr h9))), (fun hl hn => hk.b8 (hl.resolve_left (by decide)) (fun h9 => hn (.inr h9))), (fun hl => hk.d7 (hl.resolve_left (by decide))), (fun hl => hk.d8 (hl.resolve_left (by decide))), (fun h1 h2 => hk.ne78 (h1.resolve_left (by decide)) (h2.resolve_left (by decide)))⟩⟩
    · obtain rfl := Option.some.inj (show some ({ dst := some 24, op := Op.build 33 #[(0, Operand.tmp 19), (1, Operand.tmp 21), (2, Operand.tmp 23)], type := 33, pos := "version.go:239", after := #[{ on := 8, ground := Ground.data }, { on := 10, ground := Ground.data }, { on := 12, ground := Ground.data }, { on := 16, ground := Ground.gcOnly Departure.lateStores }], guard := none } : Oper) = some o from ho)
      unfold fr5
      obtain rfl := hk.v8 (hdep ⟨8, .data⟩ (by simp) rfl)
      obtain rfl := hk.v10 (hdep ⟨10, .data⟩ (by simp) rfl)
      obtain rfl := hk.v12 (hdep ⟨12, .data⟩ (by simp) rfl)
      obtain ⟨q0, q1, q2, r0, r1, r2⟩ := hk.cells
      go_simp
      refine hK.out _ _ ⟨s7, s8, s11, s12, s13, s14, s15, s16, s17, s18, .int .u64 0, s20, .int .u64 0, s22, .int .u64 0, .agg zrow3, rfl, ⟨hk.t3, hk.t4, hk.bel, hk.hN, (fun hl => hk.v0 (hl.resolve_left (by decide))), (fun hl => hk.v1 (hl.resolve_left (by decide))), (fun hl => hk.v2 (hl.resolve_left (by decide))), (fun hl => hk.v3 (hl.resolve_left (by decide))), (fun hl => hk.v4 (hl.resolve_left (by decide))), (fun hl => hk.v5 (hl.resolve_left (by decide))), (fun hl => hk.v6 (hl.resolve_left (by decide))), (fun hl => hk.v7 (hl.resolve_left (by decide))), (fun hl => hk.v8 (hl.resolve_left (by decide))), (fun hl => hk.v9 (hl.resolve_left (by decide))), (fun hl => hk.v10 (hl.resolve_left (by decide))), (fun hl => hk.v11 (hl.resolve_left (by decide))), (fun hl => hk.v12 (hl.resolve_left (by decide))), (fun _ => rfl), (fun hl hn => hk.b7 (hl.resolve_left (by decide)) (fun h9 => hn (.inr h9))), (fun hl hn => hk.b8 (hl.resolve_left (by decide)) (fun h9 => hn (.inr h9))), (fun hl => hk.d7 (hl.resolve_left (by decide))), (fun hl => hk.d8 (hl.resolve_left (by decide))), (fun h1 h2 => hk.ne78 (h1.resolve_left (by decide)) (h2.resolve_left (by decide)))⟩⟩
    · obtain rfl := Option.some.inj (show some ({ dst := some 7, op := Op.alloc 33, type := 0, pos := "version.go:239", after := #[], guard := none } : Oper) = some o from ho)
      unfold fr5
      have hb := (Below.refl _ W).alloc (Nat.le_refl _) (.cells #[.int .u64 0, .int .u64 0, .int .u64 0] 33)
      go_simp
      have hk0 := hk
      have hk := hk.keep hb
      refine hK.out _ _ ⟨.pointer (some ⟨W.heap.size, 0, none⟩), s8, s11, s12, s13, s14, s15, s16, s17, s18, s19, s20, s21, s22, s23, s24, rfl, ⟨hk.t3, hk.t4, hk.bel, hk.hN, (fun hl => hk.v0 (hl.resolve_left (by decide))), (fun hl => hk.v1 (hl.resolve_left (by decide))), (fun hl => hk.v2 (hl.resolve_left (by decide))), (fun hl => hk.v3 (hl.resolve_left (by decide))), (fun hl => hk.v4 (hl.resolve_left (by decide))), (fun hl => hk.v5 (hl.resolve_left (by decide))), (fun hl => hk.v6 (hl.resolve_left (by decide))), (fun hl => hk.v7 (hl.resolve_left (by decide))), (fun hl => hk.v8 (hl.resolve_left (by decide))), (fun hl => hk.v9 (hl.resolve_left (by decide))), (fun hl => hk.v10 (hl.resolve_left (by decide))), (fun hl => hk.v11 (hl.resolve_left (by decide))), (fun hl => hk.v12 (hl.resolve_left (by decide))), (fun hl => hk.v13 (hl.resolve_left (by decide))), (fun _ _ => ⟨W.heap.size, rfl, hk0.hN.1, by simp, heap_alloc_new W _⟩), (fun hl hn => hk.b8 (hl.resolve_left (by decide)) (fun h9 => hn (.inr h9))), (fun hl => absurd (HD 16 14 (hl.resolve_left (by decide)) rfl) hni), (fun hl => hk.d8 (hl.resolve_left (by decide))), (fun _ h2 => hk0.fresh8 (h2.resolve_left (by decide)))⟩⟩
    · obtain rfl := Option.some.inj (show some ({ dst := some 8, op := Op.alloc 33, type := 0, pos := "version.go:239", after := #[], guard := none } : Oper) = some o from ho)
      unfold fr5
      have hb := (Below.refl _ W).alloc (Nat.le_refl _) (.cells #[.int .u64 0, .int .u64 0, .int .u64 0] 33)
      go_simp
      have hk0 := hk
      have hk := hk.keep hb
      refine hK.out _ _ ⟨s7, .pointer (some ⟨W.heap.size, 0, none⟩), s11, s12, s13, s14, s15, s16, s17, s18, s19, s20, s21, s22, s23, s24, rfl, ⟨hk.t3, hk.t4, hk.bel, hk.hN, (fun hl => hk.v0 (hl.resolve_left (by decide))), (fun hl => hk.v1 (hl.resolve_left (by decide))), (fun hl => hk.v2 (hl.resolve_left (by decide))), (fun hl => hk.v3 (hl.resolve_left (by decide))), (fun hl => hk.v4 (hl.resolve_left (by decide))), (fun hl => hk.v5 (hl.resolve_left (by decide))), (fun hl => hk.v6 (hl.resolve_left (by decide))), (fun hl => hk.v7 (hl.resolve_left (by decide))), (fun hl => hk.v8 (hl.resolve_left (by decide))), (fun hl => hk.v9 (hl.resolve_left (by decide))), (fun hl => hk.v10 (hl.resolve_left (by decide))), (fun hl => hk.v11 (hl.resolve_left (by decide))), (fun hl => hk.v12 (hl.resolve_left (by decide))), (fun hl => hk.v13 (hl.resolve_left (by decide))), (fun hl hn => hk.b7 (hl.resolve_left (by decide)) (fun h9 => hn (.inr h9))), (fun _ _ => ⟨W.heap.size, rfl, hk0.hN.1, by simp, heap_alloc_new W _⟩), (fun hl => hk.d7 (hl.resolve_left (by decide))), (fun hl => absurd (HD 17 15 (hl.resolve_left (by decide)) rfl) hni), (fun h1 _ e => hk0.fresh7 (h1.resolve_left (by decide)) e.symm)⟩⟩
    · obtain rfl := Option.some.inj (show some ({ dst := none, op := Op.store 33 (Operand.tmp 7) (Operand.tmp 17), type := 0, pos := "version.go:239", after := #[{ on := 14, ground := Ground.data }, { on := 6, ground := Ground.data }, { on := 0, ground := Ground.phase }, { on := 1, ground := Ground.phase }, { on := 2, ground := Ground.phase }, { on := 3, ground := Ground.phase }, { on := 4, ground := Ground.phase }, { on := 5, ground := Ground.phase }, { on := 6, ground := Ground.phase }, { on := 7, ground := Ground.textOnly Departure.lateStores }, { on := 8, ground := Ground.textOnly Departure.lateStores }, { on := 9, ground := Ground.textOnly Departure.lateStores }, { on := 10, ground := Ground.textOnly Departure.lateStores }, { on := 11, ground := Ground.textOnly Departure.lateStores }, { on := 12, ground := Ground.textOnly Departure.lateStores }, { on := 13, ground := Ground.textOnly Departure.lateStores }, { on := 14, ground := Ground.phase }, { on := 15, ground := Ground.phase }], guard := none } : Oper) = some o from ho)
      unfold fr5
      obtain ⟨PP, rfl, hPN, hPS, hPB⟩ := hk.b7 (hdep ⟨14, .data⟩ (by simp) rfl) hni
      obtain rfl := hk.v6 (hdep ⟨6, .data⟩ (by simp) rfl)
      have hN := hk.hN
      have hl0 : w.heap.size ≤ PP := by omega
      have c0 : W.cell? ⟨PP, 0, none⟩ = some (.int .u64 0) := cell_of_row _ _ 0 _ _ _ hPB
      have c1 : W.cell? ⟨PP, 1, none⟩ = some (.int .u64 0) := cell_of_row _ _ 1 _ _ _ hPB
      have c2 : W.cell? ⟨PP, 2, none⟩ = some (.int .u64 0) := cell_of_row _ _ 2 _ _ _ hPB
      have fz := fun k => frozen_of_row _ _ k _ _ hPB
      unfold row3
      go_simp
      refine hK.out _ (set3 W PP (.int .u64 (a : Nat)) (.int .u64 (b : Nat)) (.int .u64 (c : Nat))) ⟨.pointer (some ⟨PP, 0, none⟩), s8, s11, s12, s13, s14, s15, s16, .agg (row3 a b c), s18, s19, s20, s21, s22, s23, s24, rfl, ⟨(set3_other (show T3 ≠ PP by omega) _ _ _).trans hk.t3, (set3_other (show T4 ≠ PP by omega) _ _ _).trans hk.t4, ((hk.bel.setCell hl0 _).setCell hl0 _).setCell hl0 _, (by rw [set3_size]; exact hk.hN), (fun hl => hk.v0 (hl.resolve_left (by decide))), (fun hl => hk.v1 (hl.resolve_left (by decide))), (fun hl => hk.v2 (hl.resolve_left (by decide))), (fun hl => hk.v3 (hl.resolve_left (by decide))), (fun hl => hk.v4 (hl.resolve_left (by decide))), (fun hl => hk.v5 (hl.resolve_left (by decide))), (fun hl => hk.v6 (hl.resolve_left (by decide))), (fun hl => hk.v7 (hl.resolve_left (by decide))), (fun hl => hk.v8 (hl.resolve_left (by decide))), (fun hl => hk.v9 (hl.resolve_left (by decide))), (fun hl => hk.v10 (hl.resolve_left (by decide))), (fun hl => hk.v11 (hl.resolve_left (by decide))), (fun hl => hk.v12 (hl.resolve_left (by decide))), (fun hl => hk.v13 (hl.resolve_left (by decide))), (fun _ hn => absurd (.inl rfl) hn), (fun hl hn => (hk.b8 (hl.resolve_left (by decide)) (fun h9 => hn (.inr h9))).set3 (hk.ne78 (hdep ⟨14, .data⟩ (by simp) rfl) (hl.resolve_left (by decide))) _ _ _), (fun _ => ⟨PP, rfl, hPN, by rw [set3_size]; exact hPS, set3_same hPB _ _ _⟩), (fun hl => (hk.d8 (hl.resolve_left (by decide))).set3 (hk.ne78 (hdep ⟨14, .data⟩ (by simp) rfl) (HD 17 15 (hl.resolve_left (by decide)) rfl)) _ _ _), (fun h1 h2 => hk.ne78 (h1.resolve_left (by decide)) (h2.resolve_left (by decide)))⟩⟩
    · obtain rfl := Option.some.inj (show some ({ dst := none, op := Op.store 33 (Operand.tmp 8) (Operand.tmp 24), type := 0, pos := "version.go:239", after := #[{ on := 15, ground := Ground.data }, { on := 13, ground := Ground.data }, { on := 16, ground := Ground.chain }, { on := 0, ground := Ground.phase }, { on := 1, ground := Ground.phase }, { on := 2, ground := Ground.phase }, { on := 3, ground := Ground.phase }, { on := 4, ground := Ground.phase }, { on := 5, ground := Ground.phase }, { on := 6, ground := Ground.phase }, { on := 7, ground := Ground.phase }, { on := 8, ground := Ground.phase }, { on := 9, ground := Ground.phase }, { on := 10, ground := Ground.phase }, { on := 11, ground := Ground.phase }, { on := 12, ground := Ground.phase }, { on := 13, ground := Ground.phase }, { on := 14, ground := Ground.phase }, { on := 15, ground := Ground.phase }, { on := 16, ground := Ground.phase }], guard := none } : Oper) = some o from ho)
      unfold fr5
      obtain ⟨PP, rfl, hPN, hPS, hPB⟩ := hk.b8 (hdep ⟨15, .data⟩ (by simp) rfl) hni
      obtain rfl := hk.v13 (hdep ⟨13, .data⟩ (by simp) rfl)
      have hN := hk.hN
      have hl0 : w.heap.size ≤ PP := by omega
      have c0 : W.cell? ⟨PP, 0, none⟩ = some (.int .u64 0) := cell_of_row _ _ 0 _ _ _ hPB
      have c1 : W.cell? ⟨PP, 1, none⟩ = some (.int .u64 0) := cell_of_row _ _ 1 _ _ _ hPB
      have c2 : W.cell? ⟨PP, 2, none⟩ = some (.int .u64 0) := cell_of_row _ _ 2 _ _ _ hPB
      have fz := fun k => frozen_of_row _ _ k _ _ hPB
      unfold zrow3
      go_simp
      refine hK.out _ (set3 W PP (.int .u64 0) (.int .u64 0) (.int .u64 0)) ⟨s7, .pointer (some ⟨PP, 0, none⟩), s11, s12, s13, s14, s15, s16, s17, s18, s19, s20, s21, s22, s23, .agg zrow3, rfl, ⟨(set3_other (show T3 ≠ PP by omega) _ _ _).trans hk.t3, (set3_other (show T4 ≠ PP by omega) _ _ _).trans hk.t4, ((hk.bel.setCell hl0 _).setCell hl0 _).setCell hl0 _, (by rw [set3_size]; exact hk.hN), (fun hl => hk.v0 (hl.resolve_left (by decide))), (fun hl => hk.v1 (hl.resolve_left (by decide))), (fun hl => hk.v2 (hl.resolve_left (by decide))), (fun hl => hk.v3 (hl.resolve_left (by decide))), (fun hl => hk.v4 (hl.resolve_left (by decide))), (fun hl => hk.v5 (hl.resolve_left (by decide))), (fun hl => hk.v6 (hl.resolve_left (by decide))), (fun hl => hk.v7 (hl.resolve_left (by decide))), (fun hl => hk.v8 (hl.resolve_left (by decide))), (fun hl => hk.v9 (hl.resolve_left (by decide))), (fun hl => hk.v10 (hl.resolve_left (by decide))), (fun hl => hk.v11 (hl.resolve_left (by decide))), (fun hl => hk.v12 (hl.resolve_left (by decide))), (fun hl => hk.v13 (hl.resolve_left (by decide))), (fun hl hn => (hk.b7 (hl.resolve_left (by decide)) (fun h9 => hn (.inr h9))).set3 (fun e => hk.ne78 (hl.resolve_left (by decide)) (hdep ⟨15, .data⟩ (by simp) rfl) e.symm) _ _ _), (fun _ hn => absurd (.inl rfl) hn), (fun hl => (hk.d7 (hl.resolve_left (by decide))).set3 (fun e => hk.ne78 (HD 16 14 (hl.resolve_left (by decide)) rfl) (hdep ⟨15, .data⟩ (by simp) rfl) e.symm) _ _ _), (fun _ => ⟨PP, rfl, hPN, by rw [set3_size]; exact hPS, set3_same hPB _ _ _⟩), (fun h1 h2 => hk.ne78 (h1.resolve_left (by decide)) (h2.resolve_left (by decide)))⟩⟩
    · exact absurd (Array.getElem?_eq_some_iff.1 ho).1 (by simp [ops5])
  · intro L a' W hall hI
    obtain ⟨_, s7, s8, s11, s12, s13, s14, s15, s16, s17, s18, s19, s20, s21, s22, s23, s24, rfl, hk⟩ := hI
    exact hQ _ _ _ _ _ _ _ _ _ _ _ _ _ _ _ _ W hk.bel (hk.d7 (hall 16 (by decide))) (hk.d8 (hall 17 (by decide)))
end Go.Proofs.YtpbmbaffncnglaaGreatDoor.Sv
end
section
set_option linter.unusedVariables false
set_option linter.unusedSimpArgs false
/- CompareNumbers against zero -/
namespace Go.Proofs.YtpbmbaffncnglaaGreatDoor.Sv
open Go Go.RowKit Rx
set_option maxRecDepth 100000
theorem j11pos (x : Nat) (h : 0 < x) (w : World) : Calls Tryz.prog 11 #[.int .u64 x, .int .u64 0] w fun e w' => e = .returned (.int .i64 1) ∧ w' = w := by
  have k1 : ¬ (x : Int) < 0 := by omega
  have k2 : (0 : Int) < (x : Int) := by omega
  go_enter Tryz.func11, Tryz.ntmps11
  go_wp2
  go_ret
  exact ⟨rfl, rfl⟩
theorem j11nul (x : Nat) (h : ¬ 0 < x) (w : World) : Calls Tryz.prog 11 #[.int .u64 x, .int .u64 0] w fun e w' => e = .returned (.int .i64 0) ∧ w' = w := by
  have : x = 0 := by omega
  subst this
  go_enter Tryz.func11, Tryz.ntmps11
  go_wp2
  go_ret
  exact ⟨rfl, rfl⟩
/-- are all three zero -/
def zr3 (a b c : Nat) : Int := if 0 < a then 1 else if 0 < b then 1 else if 0 < c then 1 else 0
theorem bdN' (w : World) (n : Nat) : Below w.heap.size w (w.drewN n) := ⟨rfl, rfl, rfl, Nat.le_refl _, fun _ _ => rfl⟩
/-- the two arrays -/
structure A2 (w : World) (P M a b c : Nat) (W : World) : Prop where
  p : W.heap[P]? = some (.cells (row3 a b c) 33 (0, 0))
  m : W.heap[M]? = some (.cells zrow3 33 (0, 0))
  b : Below w.heap.size w W
theorem A2.keep {w W W' : World} {P M a b c : Nat} (h : A2 w P M a b c W) (hb : Below W.heap.size W W') : A2 w P M a b c W' := ⟨jblk hb h.p, jblk hb h.m, h.b.trans (hb.mono h.b.size)⟩
set_option maxHeartbeats 4000000 in
theorem j5 (a b c : Nat) (p m p2 m2 : ByteArray) (w : World) : Calls Tryz.prog 5 #[iv a b c p m, .agg #[.int .u64 0, .int .u64 0, .int .u64 0, .string p2, .string m2], .int .i64 3] w fun e w' => e = .returned (.int .i64 (zr3 a b c)) ∧ Below w.heap.size w w' := by
  generalize hres : zr3 a b c = res
  have HRES := Lib.hid hres
  clear hres
  unfold iv
  have hal := (Below.refl _ w).alloc (Nat.le_refl _) (.cells #[.int .u64 a, .int .u64 b, .int .u64 c, .string p, .string m] 24)
  have hal2 := hal.alloc (by simp) (.cells #[.int .u64 0, .int .u64 0, .int .u64 0, .string p2, .string m2] 24)
  have e1 := jblk ((Below.refl _ (w.alloc (.cells #[.int .u64 a, .int .u64 b, .int .u64 c, .string p, .string m] 24))).alloc (Nat.le_refl _) (.cells #[.int .u64 0, .int .u64 0, .int .u64 0, .string p2, .string m2] 24)) (heap_alloc_new w (.cells #[.int .u64 a, .int .u64 b, .int .u64 c, .string p, .string m] 24))
  have e2 := heap_alloc_new (w.alloc (.cells #[.int .u64 a, .int .u64 b, .int .u64 c, .string p, .string m] 24)) (.cells #[.int .u64 0, .int .u64 0, .int .u64 0, .string p2, .string m2] 24)
  have HE := Lib.hid (And.intro hal2 (And.intro e1 e2))
  clear hal hal2 e1 e2
  go_enter Tryz.func5, Tryz.ntmps5
  go_upto_region 1 with fail
  obtain ⟨hal2, e1, e2⟩ := HE.out
  rw [World.size_alloc] at e2
  refine region5 _ _ w _ _ a b c p m p2 m2 _ e1 e2 hal2 (fun s7 s8 s11 s12 s13 s14 s15 s16 s17 s18 s19 s20 s21 s22 s23 s24 W hb hp hm => ?_)
  clear e1 e2 hal2 HE
  unfold fr5
  obtain ⟨P, rfl, -, -, hp⟩ := hp
  obtain ⟨M, rfl, -, -, hm⟩ := hm
  have HA := Lib.hid (show A2 w P M a b c W from ⟨hp, hm, hb⟩)
  clear hp hm hb
  go_wp2
  go_loopw [9] (fun iv W => ∃ i : Nat, iv = .int .i64 i ∧ Hid (i ≤ 3 ∧ A2 w P M a b c W ∧ (0 < i → ¬ 0 < a) ∧ (1 < i → ¬ 0 < b) ∧ (2 < i → ¬ 0 < c))) (fun iv _ => 10 - (intOf iv).toNat)
  case atStart => exact ⟨0, rfl, Lib.hid ⟨by omega, HA.out, by omega, by omega, by omega⟩⟩
  case round =>
    obtain ⟨i, rfl, HI⟩ := hrel
    have p0 : wr.cell? ⟨P, 0, none⟩ = some (.int .u64 a) := cell_of_row _ _ 0 _ _ _ HI.out.2.1.p
    have p1 : wr.cell? ⟨P, 1, none⟩ = some (.int .u64 b) := cell_of_row _ _ 1 _ _ _ HI.out.2.1.p
    have p2 : wr.cell? ⟨P, 2, none⟩ = some (.int .u64 c) := cell_of_row _ _ 2 _ _ _ HI.out.2.1.p
    have m0 : wr.cell? ⟨M, 0, none⟩ = some (.int .u64 0) := cell_of_row _ _ 0 _ _ _ HI.out.2.1.m
    have m1 : wr.cell? ⟨M, 1, none⟩ = some (.int .u64 0) := cell_of_row _ _ 1 _ _ _ HI.out.2.1.m
    have m2 : wr.cell? ⟨M, 2, none⟩ = some (.int .u64 0) := cell_of_row _ _ 2 _ _ _ HI.out.2.1.m
    have hi := HI.out.1
    have hc : i = 0 ∨ i = 1 ∨ i = 2 ∨ i = 3 := by omega
    rcases hc with rfl | rfl | rfl | rfl
    · by_cases h : 0 < a
      · have H := Lib.hid (fun w => j11pos a h w)
        have hr : res = 1 := by rw [← HRES.out, zr3, if_pos h]
        have HR := Lib.hid hr
        clear h hr hi
        go_upto_region 5 with fail
        go_quiet ((go_at_call 11; exact Calls.quiet_of_same (H.out _)))
        go_wp2
        go_ret
        exact ⟨by rw [HR.out]; rfl, HI.out.2.1.b.trans ((bdN' _ _).mono HI.out.2.1.b.size)⟩
      · have H := Lib.hid (fun w => j11nul a h w)
        have hh := Lib.hid h
        clear h hi
        go_upto_region 5 with fail
        go_quiet ((go_at_call 11; exact Calls.quiet_of_same (H.out _)))
        go_wp2
        exact ⟨⟨1, rfl, Lib.hid ⟨by omega, HI.out.2.1.keep (bdN' _ _), fun _ => hh.out, by omega, by omega⟩⟩, by simp [intOf]⟩
    · by_cases h : 0 < b
      · have H := Lib.hid (fun w => j11pos b h w)
        have hr : res = 1 := by rw [← HRES.out, zr3, if_neg (HI.out.2.2.1 (by omega)), if_pos h]
        have HR := Lib.hid hr
        clear h hr hi
        go_upto_region 5 with fail
        go_quiet ((go_at_call 11; exact Calls.quiet_of_same (H.out _)))
        go_wp2
        go_ret
        exact ⟨by rw [HR.out]; rfl, HI.out.2.1.b.trans ((bdN' _ _).mono HI.out.2.1.b.size)⟩
      · have H := Lib.hid (fun w => j11nul b h w)
        have hh := Lib.hid h
        clear h hi
        go_upto_region 5 with fail
        go_quiet ((go_at_call 11; exact Calls.quiet_of_same (H.out _)))
        go_wp2
        exact ⟨⟨2, rfl, Lib.hid ⟨by omega, HI.out.2.1.keep (bdN' _ _), fun _ => HI.out.2.2.1 (by omega), fun _ => hh.out, by omega⟩⟩, by simp [intOf]⟩
    · by_cases h : 0 < c
      · have H := Lib.hid (fun w => j11pos c h w)
        have hr : res = 1 := by rw [← HRES.out, zr3, if_neg (HI.out.2.2.1 (by omega)), if_neg (HI.out.2.2.2.1 (by omega)), if_pos h]
        have HR := Lib.hid hr
        clear h hr hi
        go_upto_region 5 with fail
        go_quiet ((go_at_call 11; exact Calls.quiet_of_same (H.out _)))
        go_wp2
        go_ret
        exact ⟨by rw [HR.out]; rfl, HI.out.2.1.b.trans ((bdN' _ _).mono HI.out.2.1.b.size)⟩
      · have H := Lib.hid (fun w => j11nul c h w)
        have hh := Lib.hid h
        clear h hi
        go_upto_region 5 with fail
        go_quiet ((go_at_call 11; exact Calls.quiet_of_same (H.out _)))
        go_wp2
        exact ⟨⟨3, rfl, Lib.hid ⟨by omega, HI.out.2.1.keep (bdN' _ _), fun _ => HI.out.2.2.1 (by omega), fun _ => HI.out.2.2.2.1 (by omega), fun _ => hh.out⟩⟩, by simp [intOf]⟩
    · have hr : res = 0 := by rw [← HRES.out, zr3, if_neg (HI.out.2.2.1 (by omega)), if_neg (HI.out.2.2.2.1 (by omega)), if_neg (HI.out.2.2.2.2 (by omega))]
      have HR := Lib.hid hr
      clear hr hi
      go_wp2
      go_ret
      exact ⟨by rw [HR.out]; rfl, HI.out.2.1.b⟩
end Go.Proofs.YtpbmbaffncnglaaGreatDoor.Sv
end
section
namespace Go.Proofs.YtpbmbaffncnglaaGreatDoor
open Go
/-- As Q; by a goto to a label l: J l at a number below n. -/
def Exit.jumpN (J : Nat → Nat → Act → World → Prop) (n : Option Nat) (Q : Exit → Act → World → Prop) : Exit → Act → World → Prop
  | .goto l, a, w => ∃ m, (∀ k, n = some k → m < k) ∧ J l m a w
  | e, a, w => Q e a w
/-- a scope in which the run jumps to its labels: what holds at each jump, with a number that falls from jump to jump -/
theorem wp_scope_jumpsN {P : Program} {a : Act} {w : World} {Q : Exit → Act → World → Prop} {c : Code} (J : Nat → Nat → Act → World → Prop)
    (first : c.wp P (Exit.jumpN J none Q) a w)
    (pass : ∀ l n a w, J l n a w → ∃ rest, findLabel c l = some rest ∧ rest.wp P (Exit.jumpN J (some n) Q) a w) : (Code.scope c).wp P Q a w := by
  intro b k cs
  have key : ∀ n l a w, J l n a w → ∃ rest, findLabel c l = some rest ∧ ∃ e a' w', Q e a' w' ∧ Arrives P (lone (b.at a (.code rest :: .inScope c :: k)) cs w) b k cs e a' w' := by
    intro n
    induction n using Nat.strongRecOn with
    | _ n ih =>
      intro l a w hJ
      obtain ⟨rest, hf, hw⟩ := pass l n a w hJ
      refine ⟨rest, hf, ?_⟩
      obtain ⟨e, a₁, w₁, hq, harr⟩ := hw b (.inScope c :: k) cs
      cases e with
      | normal => exact ⟨.normal, a₁, w₁, hq, Steps.trans harr (.one step_inScope)⟩
      | exit id => exact ⟨.exit id, a₁, w₁, hq, fun k' hk => harr k' (by simp [exitTo, hk])⟩
      | goto l' =>
        obtain ⟨m, hlt, hJ'⟩ := hq
        obtain ⟨rest', hf', e₂, a₂, w₂, hq₂, harr₂⟩ := ih m (hlt n rfl) l' a₁ w₁ hJ'
        have hg : gotoIn l' (.inScope c :: k) = some (.code rest' :: .inScope c :: k) := by simp [gotoIn, hf']
        exact ⟨e₂, a₂, w₂, hq₂, .of_steps (harr _ hg) harr₂⟩
      | ret => exact ⟨_, a₁, w₁, hq, harr⟩
      | panic ch => exact ⟨_, a₁, w₁, hq, harr⟩
      | outgrown => exact ⟨_, a₁, w₁, hq, harr⟩
  obtain ⟨e, a₁, w₁, hq, harr⟩ := first b (.inScope c :: k) cs
  cases e with
  | normal => exact ⟨.normal, a₁, w₁, hq, .head step_scope (Steps.trans harr (.one step_inScope))⟩
  | exit id => exact ⟨.exit id, a₁, w₁, hq, fun k' hk => .head step_scope (harr k' (by simp [exitTo, hk]))⟩
  | goto l' =>
    obtain ⟨m, _, hJ'⟩ := hq
    obtain ⟨rest', hf', e₂, a₂, w₂, hq₂, harr₂⟩ := key m l' a₁ w₁ hJ'
    have hg : gotoIn l' (.inScope c :: k) = some (.code rest' :: .inScope c :: k) := by simp [gotoIn, hf']
    exact ⟨e₂, a₂, w₂, hq₂, .of_steps (.head step_scope (harr _ hg)) harr₂⟩
  | ret => exact ⟨_, a₁, w₁, hq, .of_steps (.one step_scope) harr⟩
  | panic ch => exact ⟨_, a₁, w₁, hq, .of_steps (.one step_scope) harr⟩
  | outgrown => exact ⟨_, a₁, w₁, hq, .of_steps (.one step_scope) harr⟩
end Go.Proofs.YtpbmbaffncnglaaGreatDoor
end
section
set_option linter.unusedVariables false
set_option linter.unusedSimpArgs false
/- the search with a stack of jobs: tryBacktrack -/
namespace Go.Proofs.YtpbmbaffncnglaaGreatDoor.Sv
open Go Go.RowKit Rx
set_option maxRecDepth 100000
/-- the search's surroundings -/
def envOf (T : List I) (s : ByteArray) : Env := ⟨tabP T, stepB s, fun p a => if a = 4 then decide (p = 0) else if a = 8 then decide (p = s.size) else false⟩
structure Ctx (w0 w : World) (base R PB IB icap : Nat) (T : List I) (s : ByteArray) : Prop where
  size : w0.heap.size = base
  pg : PG w0 R PB IB icap T
  tabs : Lib.Utf8Tabs 11 12 w0
  below : Below base w0 w
  tab : TabOk T
  len : s.size ≤ 1000000
  ok : Rx.Ok (envOf T s) s.size
  emp : ∀ (i o a : Nat), T[i]? = some (.emp o a) → a = 4 ∨ a = 8
theorem Ctx.go {w0 w w' : World} {base R PB IB icap : Nat} {T : List I} {s : ByteArray} (h : Ctx w0 w base R PB IB icap T s) (hb : Below base w w') : Ctx w0 w' base R PB IB icap T s := ⟨h.size, h.pg, h.tabs, h.below.trans hb, h.tab, h.len, h.ok, h.emp⟩
theorem Ctx.prog {w0 w : World} {base R PB IB icap : Nat} {T : List I} {s : ByteArray} (h : Ctx w0 w base R PB IB icap T s) : PG w R PB IB icap T := h.pg.keep (by rw [h.size]; exact h.below)
/-- the state at a step of the search -/
structure At (w0 w wr : World) (base R PB IB icap B CB MB VB vn nc : Nat) (T : List I) (s : ByteArray) (M : List Int) (k : Nat) (c f : Cfg) : Prop where
  ctx : Ctx w0 wr base R PB IB icap T s
  good : Rx.Good T s.size nc c
  steps : Rx.Steps (envOf T s) k c f
  bs : BS wr base B CB MB VB vn T.length s c.jobs.reverse c.vis c.cap M
  below : Below base w wr
/-- a slot -/
def sel (xs : List Value) (i : Nat) : Value := xs.getD i undef
theorem map_sel (xs : List Value) (n : Nat) (h : xs.length = n) : xs = (List.range n).map (sel xs) := by
  apply List.ext_getElem
  · simp [h]
  · intro i h1 h2
    simp [sel, List.getD, h1]
theorem lit401 (f : Nat → Value) : (List.range 401).map f = [f 0, f 1, f 2, f 3, f 4, f 5, f 6, f 7, f 8, f 9, f 10, f 11, f 12, f 13, f 14, f 15, f 16, f 17, f 18, f 19, f 20, f 21, f 22, f 23, f 24, f 25, f 26, f 27, f 28, f 29, f 30, f 31, f 32, f 33, f 34, f 35, f 36, f 37, f 38, f 39, f 40, f 41, f 42, f 43, f 44, f 45, f 46, f 47, f 48, f 49, f 50, f 51, f 52, f 53, f 54, f 55, f 56, f 57, f 58, f 59, f 60, f 61, f 62, f 63, f 64, f 65, f 66, f 67, f 68, f 69, f 70, f 71, f 72, f 73, f 74, f 75, f 76, f 77, f 78, f 79, f 80, f 81, f 82, f 83, f 84, f 85, f 86, f 87, f 88, f 89, f 90, f 91, f 92, f 93, f 94, f 95, f 96, f 97, f 98, f 99, f 100, f 101, f 102, f 103, f 104, f 105, f 106, f 107, f 108, f 109, f 110, f 111, f 112, f 113, f 114, f 115, f 116, f 117, f 118, f 119, f 120, f 121, f 122, f 123, f 124, f 125, f 126, f 127, f 128, f 129, f 130, f 131, f 132, f 133, f 134, f 135, f 136, f 137, f 138, f 139, f 140, f 141, f 142, f 143, f 144, f 145, f 146, f 147, f 148, f 149, f 150, f 151, f 152, f 153, f 154, f 155, f 156, f 157, f 158, f 159, f 160, f 161, f 162, f 163, f 164, f 165, f 166, f 167, f 168, f 169, f 170, f 171, f 172, f 173, f 174, f 175, f 176, f 177, f 178, f 179, f 180, f 181, f 182, f 183, f 184, f 185, f 186, f 187, f 188, f 189, f 190, f 191, f 192, f 193, f 194, f 195, f 196, f 197, f 198, f 199, f 200, f 201, f 202, f 203, f 204, f 205, f 206, f 207, f 208, f 209, f 210, f 211, f 212, f 213, f 214, f 215, f 216, f 217, f 218, f 219, f 220, f 221, f 222, f 223, f 224, f 225, f 226, f 227, f 228, f 229, f 230, f 231, f 232, f 233, f 234, f 235, f 236, f 237, f 238, f 239, f 240, f 241, f 242, f 243, f 244, f 245, f 246, f 247, f 248, f 249, f 250, f 251, f 252, f 253, f 254, f 255, f 256, f 257, f 258, f 259, f 260, f 261, f 262, f 263, f 264, f 265, f 266, f 267, f 268, f 269, f 270, f 271, f 272, f 273, f 274, f 275, f 276, f 277, f 278, f 279, f 280, f 281, f 282, f 283, f 284, f 285, f 286, f 287, f 288, f 289, f 290, f 291, f 292, f 293, f 294, f 295, f 296, f 297, f 298, f 299, f 300, f 301, f 302, f 303, f 304, f 305, f 306, f 307, f 308, f 309, f 310, f 311, f 312, f 313, f 314, f 315, f 316, f 317, f 318, f 319, f 320, f 321, f 322, f 323, f 324, f 325, f 326, f 327, f 328, f 329, f 330, f 331, f 332, f 333, f 334, f 335, f 336, f 337, f 338, f 339, f 340, f 341, f 342, f 343, f 344, f 345, f 346, f 347, f 348, f 349, f 350, f 351, f 352, f 353, f 354, f 355, f 356, f 357, f 358, f 359, f 360, f 361, f 362, f 363, f 364, f 365, f 366, f 367, f 368, f 369, f 370, f 371, f 372, f 373, f 374, f 375, f 376, f 377, f 378, f 379, f 380, f 381, f 382, f 383, f 384, f 385, f 386, f 387, f 388, f 389, f 390, f 391, f 392, f 393, f 394, f 395, f 396, f 397, f 398, f 399, f 400] := rfl
theorem fr401 (xs : List Value) (h : xs.length = 401) : xs = [sel xs 0, sel xs 1, sel xs 2, sel xs 3, sel xs 4, sel xs 5, sel xs 6, sel xs 7, sel xs 8, sel xs 9, sel xs 10, sel xs 11, sel xs 12, sel xs 13, sel xs 14, sel xs 15, sel xs 16, sel xs 17, sel xs 18, sel xs 19, sel xs 20, sel xs 21, sel xs 22, sel xs 23, sel xs 24, sel xs 25, sel xs 26, sel xs 27, sel xs 28, sel xs 29, sel xs 30, sel xs 31, sel xs 32, sel xs 33, sel xs 34, sel xs 35, sel xs 36, sel xs 37, sel xs 38, sel xs 39, sel xs 40, sel xs 41, sel xs 42, sel xs 43, sel xs 44, sel xs 45, sel xs 46, sel xs 47, sel xs 48, sel xs 49, sel xs 50, sel xs 51, sel xs 52, sel xs 53, sel xs 54, sel xs 55, sel xs 56, sel xs 57, sel xs 58, sel xs 59, sel xs 60, sel xs 61, sel xs 62, sel xs 63, sel xs 64, sel xs 65, sel xs 66, sel xs 67, sel xs 68, sel xs 69, sel xs 70, sel xs 71, sel xs 72, sel xs 73, sel xs 74, sel xs 75, sel xs 76, sel xs 77, sel xs 78, sel xs 79, sel xs 80, sel xs 81, sel xs 82, sel xs 83, sel xs 84, sel xs 85, sel xs 86, sel xs 87, sel xs 88, sel xs 89, sel xs 90, sel xs 91, sel xs 92, sel xs 93, sel xs 94, sel xs 95, sel xs 96, sel xs 97, sel xs 98, sel xs 99, sel xs 100, sel xs 101, sel xs 102, sel xs 103, sel xs 104, sel xs 105, sel xs 106, sel xs 107, sel xs 108, sel xs 109, sel xs 110, sel xs 111, sel xs 112, sel xs 113, sel xs 114, sel xs 115, sel xs 116, sel xs 117, sel xs 118, sel xs 119, sel xs 120, sel xs 121, sel xs 122, sel xs 123, sel xs 124, sel xs 125, sel xs 126, sel xs 127, sel xs 128, sel xs 129, sel xs 130, sel xs 131, sel xs 132, sel xs 133, sel xs 134, sel xs 135, sel xs 136, sel xs 137, sel xs 138, sel xs 139, sel xs 140, sel xs 141, sel xs 142, sel xs 143, sel xs 144, sel xs 145, sel xs 146, sel xs 147, sel xs 148, sel xs 149, sel xs 150, sel xs 151, sel xs 152, sel xs 153, sel xs 154, sel xs 155, sel xs 156, sel xs 157, sel xs 158, sel xs 159, sel xs 160, sel xs 161, sel xs 162, sel xs 163, sel xs 164, sel xs 165, sel xs 166, sel xs 167, sel xs 168, sel xs 169, sel xs 170, sel xs 171, sel xs 172, sel xs 173, sel xs 174, sel xs 175, sel xs 176, sel xs 177, sel xs 178, sel xs 179, sel xs 180, sel xs 181, sel xs 182, sel xs 183, sel xs 184, sel xs 185, sel xs 186, sel xs 187, sel xs 188, sel xs 189, sel xs 190, sel xs 191, sel xs 192, sel xs 193, sel xs 194, sel xs 195, sel xs 196, sel xs 197, sel xs 198, sel xs 199, sel xs 200, sel xs 201, sel xs 202, sel xs 203, sel xs 204, sel xs 205, sel xs 206, sel xs 207, sel xs 208, sel xs 209, sel xs 210, sel xs 211, sel xs 212, sel xs 213, sel xs 214, sel xs 215, sel xs 216, sel xs 217, sel xs 218, sel xs 219, sel xs 220, sel xs 221, sel xs 222, sel xs 223, sel xs 224, sel xs 225, sel xs 226, sel xs 227, sel xs 228, sel xs 229, sel xs 230, sel xs 231, sel xs 232, sel xs 233, sel xs 234, sel xs 235, sel xs 236, sel xs 237, sel xs 238, sel xs 239, sel xs 240, sel xs 241, sel xs 242, sel xs 243, sel xs 244, sel xs 245, sel xs 246, sel xs 247, sel xs 248, sel xs 249, sel xs 250, sel xs 251, sel xs 252, sel xs 253, sel xs 254, sel xs 255, sel xs 256, sel xs 257, sel xs 258, sel xs 259, sel xs 260, sel xs 261, sel xs 262, sel xs 263, sel xs 264, sel xs 265, sel xs 266, sel xs 267, sel xs 268, sel xs 269, sel xs 270, sel xs 271, sel xs 272, sel xs 273, sel xs 274, sel xs 275, sel xs 276, sel xs 277, sel xs 278, sel xs 279, sel xs 280, sel xs 281, sel xs 282, sel xs 283, sel xs 284, sel xs 285, sel xs 286, sel xs 287, sel xs 288, sel xs 289, sel xs 290, sel xs 291, sel xs 292, sel xs 293, sel xs 294, sel xs 295, sel xs 296, sel xs 297, sel xs 298, sel xs 299, sel xs 300, sel xs 301, sel xs 302, sel xs 303, sel xs 304, sel xs 305, sel xs 306, sel xs 307, sel xs 308, sel xs 309, sel xs 310, sel xs 311, sel xs 312, sel xs 313, sel xs 314, sel xs 315, sel xs 316, sel xs 317, sel xs 318, sel xs 319, sel xs 320, sel xs 321, sel xs 322, sel xs 323, sel xs 324, sel xs 325, sel xs 326, sel xs 327, sel xs 328, sel xs 329, sel xs 330, sel xs 331, sel xs 332, sel xs 333, sel xs 334, sel xs 335, sel xs 336, sel xs 337, sel xs 338, sel xs 339, sel xs 340, sel xs 341, sel xs 342, sel xs 343, sel xs 344, sel xs 345, sel xs 346, sel xs 347, sel xs 348, sel xs 349, sel xs 350, sel xs 351, sel xs 352, sel xs 353, sel xs 354, sel xs 355, sel xs 356, sel xs 357, sel xs 358, sel xs 359, sel xs 360, sel xs 361, sel xs 362, sel xs 363, sel xs 364, sel xs 365, sel xs 366, sel xs 367, sel xs 368, sel xs 369, sel xs 370, sel xs 371, sel xs 372, sel xs 373, sel xs 374, sel xs 375, sel xs 376, sel xs 377, sel xs 378, sel xs 379, sel xs 380, sel xs 381, sel xs 382, sel xs 383, sel xs 384, sel xs 385, sel xs 386, sel xs 387, sel xs 388, sel xs 389, sel xs 390, sel xs 391, sel xs 392, sel xs 393, sel xs 394, sel xs 395, sel xs 396, sel xs 397, sel xs 398, sel xs 399, sel xs 400] := (map_sel xs 401 h).trans (lit401 (sel xs))
theorem wp_loop_K {P : Program} {Q : Exit → Act → World → Prop} {a : Act} {w : World} {c : Code} (I : Nat → Act → World → Prop) (n₀ : Nat) (h₀ : I n₀ a w)
    (round : ∀ n a w, I n a w → ∀ K : Act → World → Prop, (∀ a' w', (∃ n', n' < n ∧ I n' a' w') → K a' w') → c.wp P (Exit.then K Q) a w) : (Code.loop c).wp P Q a w :=
  wp_loop_ghost I n₀ h₀ fun n a w h => round n a w h _ fun _ _ h => h
theorem wp_scope_two {P : Program} {a : Act} {w : World} {Q : Exit → Act → World → Prop} {c : Code} (J : Nat → Nat → Act → World → Prop)
    (first : c.wp P (Exit.jumpN J none Q) a w)
    (lab : ∀ l n a w, J l n a w → l = 0 ∨ l = 1)
    (zero : ∃ rest, findLabel c 0 = some (.seq .skip rest) ∧ ∀ n a w, J 0 n a w → rest.wp P (Exit.jumpN J (some n) Q) a w)
    (one : ∃ rest, findLabel c 1 = some (.seq .skip rest) ∧ ∀ n a w, J 1 n a w → ∀ H : (∀ rest0 a' w', findLabel c 0 = some (.seq .skip rest0) → J 0 n a' w' → rest0.wp P (Exit.jumpN J (some n) Q) a' w'), rest.wp P (Exit.jumpN J (some n) Q) a w) : (Code.scope c).wp P Q a w := by
  refine wp_scope_jumpsN J first fun l n a w h => ?_
  rcases lab l n a w h with rfl | rfl
  · obtain ⟨r, h1, h2⟩ := zero
    exact ⟨_, h1, wp_seq (wp_skip (h2 n a w h))⟩
  · obtain ⟨r, h1, h2⟩ := one
    refine ⟨_, h1, wp_seq (wp_skip (h2 n a w h fun r0 a' w' e hj => ?_))⟩
    obtain ⟨r', h1', h2'⟩ := zero
    rw [h1'] at e
    injection e with e
    injection e with _ e
    subst e
    exact h2' n a' w' hj
/-- what holds of the frame: the search's own slots -/
structure Fr (xs : List Value) (R B : Nat) : Prop where
  len : xs.length = 401
  s0 : sel xs 0 = .pointer (some ⟨R, 0, none⟩)
  s1 : sel xs 1 = .pointer (some ⟨B, 0, none⟩)
  s2 : sel xs 2 = .iface 156 (.pointer (some ⟨B, 5, none⟩))
  s10 : sel xs 10 = .bool false
  s11 : sel xs 11 = .bool false
theorem jobCells_length : ∀ J : List (Nat × Bool × Int), (jobCells J).length = J.length * 3
  | [] => rfl
  | j :: J => by
    have := jobCells_length J
    simp [jobCells] at this ⊢
    omega
/-- the last job, and the state without it -/
theorem BS.last {w : World} {base B CB MB VB vn L : Nat} {s : ByteArray} {J : List (Nat × Bool × Int)} {j : Nat × Bool × Int} {V : Nat → Nat → Bool} {C M : List Int} (h : BS w base B CB MB VB vn L s (J ++ [j]) V C M) :
    ∃ g cap, w.cell? ⟨B, 3, none⟩ = some (.slice (some ⟨g, 0, none⟩) (J.length + 1) cap) ∧ w.frozen? ⟨B, 3, none⟩ = false ∧ w.cell? ⟨g, J.length * 3, none⟩ = some (.int .u32 j.1) ∧ w.cell? ⟨g, J.length * 3 + 1, none⟩ = some (.bool j.2.1) ∧ w.cell? ⟨g, J.length * 3 + 2, none⟩ = some (.int .i64 j.2.2) ∧
      J.length + 1 ≤ cap ∧ cap ≤ maxLen ∧ BS (w.setCell ⟨B, 3, none⟩ (.slice (some ⟨g, 0, none⟩) J.length cap)) base B CB MB VB vn L s J V C M := by
  obtain ⟨jv, hb, hj⟩ := h.hb
  have b3 : w.cell? ⟨B, 3, none⟩ = some jv := cell_of_row _ _ 3 _ _ _ hb
  have f3 : w.frozen? ⟨B, 3, none⟩ = false := frozen_of_row _ _ _ _ _ hb
  have hlen : (J ++ [j]).length = J.length + 1 := by simp
  rw [hlen] at hj
  rcases hj.2 with ⟨_, h0⟩ | ⟨g, cap, cur, rfl, hbg, hg, hnc, hcm, hcs, htake⟩
  · omega
  · have hcell : ∀ i u, (jobCells (J ++ [j]))[i]? = some u → w.cell? ⟨g, i, none⟩ = some u := fun i u hu => by
      have := hj.cells (g := g) rfl i u hu
      have e : (⟨g, 0, none⟩ : Addr).add i = ⟨g, i, none⟩ := by simp [Addr.add]; omega
      rwa [e] at this
    have hjc : jobCells (J ++ [j]) = jobCells J ++ [.int .u32 j.1, .bool j.2.1, .int .i64 j.2.2] := by simp [jobCells]
    have hl := jobCells_length J
    have hat : ∀ i, (jobCells (J ++ [j]))[J.length * 3 + i]? = ([.int .u32 j.1, .bool j.2.1, .int .i64 j.2.2] : List Value)[i]? := fun i => by
      rw [hjc, List.getElem?_append_right (by omega), hl]; congr 1; omega
    have hj' : w.ownsRow base 170 3 (.slice (some ⟨g, 0, none⟩) J.length cap) J.length (jobCells J) := by
      refine ⟨hl, .inr ⟨g, cap, cur, rfl, hbg, hg, by omega, hcm, hcs, ?_⟩⟩
      have := congrArg (List.take (J.length * 3)) htake
      rw [List.take_take, hjc, List.take_left' hl] at this
      rw [← this]; congr 1; omega
    refine ⟨g, cap, b3, f3, hcell _ _ (by rw [show J.length * 3 = J.length * 3 + 0 by rfl, hat]; rfl), hcell _ _ (by rw [hat]; rfl), hcell _ _ (by rw [hat]; rfl), hnc, hcm, ?_⟩
    have hw := BS.setJobs (w1 := w) h hb (by rw [hlen]; exact hj) ⟨rfl, rfl, rfl, Nat.le_refl _, fun _ _ _ => rfl⟩ hj'
    exact hw
/-- a popped job -/
structure Popped (w0 w wr : World) (base R PB IB icap B CB MB VB vn nc : Nat) (T : List I) (s : ByteArray) (M : List Int) (k : Nat) (c f : Cfg) (pc : Nat) (p : Int) (J : List (Nat × Bool × Int)) : Prop where
  ctl : c.ctl = .pop
  jobs : c.jobs = (pc, true, p) :: J
  ctx : Ctx w0 wr base R PB IB icap T s
  good : Rx.Good T s.size nc c
  steps : Rx.Steps (envOf T s) k c f
  bs : BS wr base B CB MB VB vn T.length s J.reverse c.vis c.cap M
  below : Below base w wr
/-- what holds at a label: 0: the job is taken up; 1: its place is looked at -/
def Lab (w0 w : World) (base R PB IB icap B CB MB VB vn nc : Nat) (T : List I) (s : ByteArray) (M : List Int) (f : Cfg) (g : Nat) (l n : Nat) (a : Act) (wr : World) : Prop :=
  ∃ xs : List Value, a = { tmps := xs.toArray, defers := [] } ∧ Fr xs R B ∧ n ≤ g ∧ ∃ (pc : Nat) (p : Int) (arg : Bool), sel xs 13 = .int .u32 pc ∧ sel xs 14 = .int .i64 p ∧ sel xs 15 = .bool arg ∧
    ((l = 1 ∧ arg = false ∧ ∃ (c : Cfg) (pos : Nat), p = pos ∧ c.ctl = .chk pc pos ∧ At w0 w wr base R PB IB icap B CB MB VB vn nc T s M n c f) ∨
     (l = 0 ∧ arg = false ∧ ∃ (c : Cfg) (pos : Nat), p = pos ∧ c.ctl = .at_ pc pos ∧ ∃ m, m < n ∧ At w0 w wr base R PB IB icap B CB MB VB vn nc T s M m c f) ∨
     (l = 0 ∧ arg = true ∧ ∃ (c : Cfg) (J : List (Nat × Bool × Int)), Popped w0 w wr base R PB IB icap B CB MB VB vn nc T s M n c f pc p J))
/-- the loop's invariant -/
def Inv (w0 w : World) (base R PB IB icap B CB MB VB vn nc : Nat) (T : List I) (s : ByteArray) (M : List Int) (f : Cfg) (g : Nat) (a : Act) (wr : World) : Prop :=
  ∃ xs : List Value, a = { tmps := xs.toArray, defers := [] } ∧ Fr xs R B ∧ ∃ c : Cfg, c.ctl = .pop ∧ At w0 w wr base R PB IB icap B CB MB VB vn nc T s M g c f
/-- how the scope is left -/
def Left (I : Nat → Act → World → Prop) (Q : Exit → Act → World → Prop) (g : Nat) : Exit → Act → World → Prop
  | .exit l, a, w => l = 1 ∧ ∃ n', n' < g ∧ I n' a w
  | .ret, a, w => Q .ret a w
  | _, _, _ => False
theorem BS.c5 {w : World} {base B CB MB VB vn L : Nat} {s : ByteArray} {J : List (Nat × Bool × Int)} {V : Nat → Nat → Bool} {C M : List Int} (h : BS w base B CB MB VB vn L s J V C M) : w.cell? ⟨B, 5, none⟩ = some (.string s) := by
  obtain ⟨jv, hb, hj⟩ := h.hb
  exact cell_of_row _ _ 5 _ _ _ hb
theorem Ctx.tab' {w0 w : World} {base R PB IB icap : Nat} {T : List I} {s : ByteArray} (h : Ctx w0 w base R PB IB icap T s) : Lib.Utf8Tabs 11 12 w := Utf8Tabs_below h.tabs (by rw [h.size]; exact h.below)
theorem BS.cc {w : World} {base B CB MB VB vn L : Nat} {s : ByteArray} {J : List (Nat × Bool × Int)} {V : Nat → Nat → Bool} {C M : List Int} (h : BS w base B CB MB VB vn L s J V C M) (a : Nat) (ha : a < C.length) :
    w.cell? ⟨B, 1, none⟩ = some (.slice (some ⟨CB, 0, none⟩) C.length C.length) ∧ w.cell? ⟨CB, a, none⟩ = some (.int .i64 C[a]) ∧ w.frozen? ⟨CB, a, none⟩ = false := by
  obtain ⟨jv, hb, hj⟩ := h.hb
  have h1 : w.cell? ⟨B, 1, none⟩ = some (sl CB C.length) := cell_of_row _ _ 1 _ _ _ hb
  have hc := h.hc (by omega)
  refine ⟨by rw [h1]; unfold sl; rw [if_neg (by omega)], ?_, frozen_of_row _ _ _ _ _ hc⟩
  have h2 := cell_of_row _ _ a _ _ _ hc
  rw [h2]
  simp [ints, ha]
theorem BS.setC {w : World} {base B CB MB VB vn L : Nat} {s : ByteArray} {J : List (Nat × Bool × Int)} {V : Nat → Nat → Bool} {C M : List Int} (h : BS w base B CB MB VB vn L s J V C M) (a : Nat) (p : Int) (ha : a < C.length) :
    BS (w.setCell ⟨CB, a, none⟩ (.int .i64 p)) base B CB MB VB vn L s J V (C.set a p) M := by
  obtain ⟨cur, x, hv1, hv⟩ := h.hv.ex
  obtain ⟨jv, hb, hj⟩ := h.hb
  have hc0 := h.hc (by omega)
  have ob : ∀ {k : Nat} {cs : Array Value} {t : TypeId} {f : Nat × Nat}, w.heap[k]? = some (.cells cs t f) → t ≠ 3 → (w.setCell ⟨CB, a, none⟩ (.int .i64 p)).heap[k]? = some (.cells cs t f) := fun {k cs t f} hk ht => by
    rw [heap_setCell_other _ _ _ _ (typ_ne hk hc0 ht)]; exact hk
  refine ⟨⟨jv, by simpa using ob hb (by decide), own_of hj fun g cur hg hc => (ob hc (by decide)).trans hc.symm⟩, fun hc => ?_, fun hm => ?_, ⟨⟨cur, x, ob hv1 (by decide), hv⟩, h.hv.le, h.hv.fits⟩, h.cm, h.bb, h.bc, h.bm, h.bv, by simpa using h.bw⟩
  · have := heap_setCell_same w CB a _ 3 (.int .i64 p) hc0
    rw [this]
    simp [ints]
  · rw [heap_setCell_other _ _ _ _ (show MB ≠ CB from fun e => h.cm e.symm)]; exact h.hm hm
theorem BS.cg {w : World} {base B CB MB VB vn L : Nat} {s : ByteArray} {J : List (Nat × Bool × Int)} {V : Nat → Nat → Bool} {C M : List Int} (h : BS w base B CB MB VB vn L s J V C M) (a : Nat) (old : Int) (hg : C[a]? = some old) :
    w.cell? ⟨B, 1, none⟩ = some (.slice (some ⟨CB, 0, none⟩) C.length C.length) ∧ w.cell? ⟨CB, a, none⟩ = some (.int .i64 old) ∧ w.frozen? ⟨CB, a, none⟩ = false := by
  obtain ⟨ha, rfl⟩ := List.getElem?_eq_some_iff.1 hg
  exact h.cc a ha
theorem BS.c1 {w : World} {base B CB MB VB vn L : Nat} {s : ByteArray} {J : List (Nat × Bool × Int)} {V : Nat → Nat → Bool} {C M : List Int} (h : BS w base B CB MB VB vn L s J V C M) : w.cell? ⟨B, 1, none⟩ = some (sl CB C.length) := by
  obtain ⟨jv, hb, hj⟩ := h.hb
  exact cell_of_row _ _ 1 _ _ _ hb
theorem BS.c2 {w : World} {base B CB MB VB vn L : Nat} {s : ByteArray} {J : List (Nat × Bool × Int)} {V : Nat → Nat → Bool} {C M : List Int} (h : BS w base B CB MB VB vn L s J V C M) : w.cell? ⟨B, 2, none⟩ = some (sl MB M.length) := by
  obtain ⟨jv, hb, hj⟩ := h.hb
  exact cell_of_row _ _ 2 _ _ _ hb
theorem BS.mm {w : World} {base B CB MB VB vn L : Nat} {s : ByteArray} {J : List (Nat × Bool × Int)} {V : Nat → Nat → Bool} {C M : List Int} (h : BS w base B CB MB VB vn L s J V C M) (a : Nat) (ha : a < M.length) : w.cell? ⟨MB, a, none⟩ = some (.int .i64 M[a]) := by
  rw [cell_of_row _ _ a _ _ _ (h.hm (by omega))]
  simp [ints, ha]
/-- the match is laid down -/
theorem BS.setM {w : World} {base B CB MB VB vn L : Nat} {s : ByteArray} {J : List (Nat × Bool × Int)} {V : Nat → Nat → Bool} {C M : List Int} (h : BS w base B CB MB VB vn L s J V C M) (M' : List Int) (hl : M'.length = M.length) (h0 : 0 < M.length) :
    BS (w.setRow MB (ints M').toArray) base B CB MB VB vn L s J V C M' := by
  obtain ⟨cur, x, hv1, hv⟩ := h.hv.ex
  obtain ⟨jv, hb, hj⟩ := h.hb
  have hm0 := h.hm h0
  have ob : ∀ {k : Nat} {cs : Array Value} {t : TypeId} {f : Nat × Nat}, w.heap[k]? = some (.cells cs t f) → t ≠ 3 → (w.setRow MB (ints M').toArray).heap[k]? = some (.cells cs t f) := fun {k cs t f} hk ht => by
    rw [setRow_other _ _ _ _ (typ_ne hk hm0 ht)]; exact hk
  refine ⟨⟨jv, by rw [hl]; exact ob hb (by decide), own_of hj fun g cur hg hc => (ob hc (by decide)).trans hc.symm⟩, fun hc => ?_, fun _ => ?_, ⟨⟨cur, x, ob hv1 (by decide), hv⟩, h.hv.le, h.hv.fits⟩, h.cm, h.bb, h.bc, h.bm, h.bv, ?_⟩
  · rw [setRow_other _ _ _ _ h.cm]; exact h.hc hc
  · exact setRow_heap w MB _ _ 3 _ hm0
  · have := h.bw; simpa [World.setRow] using this
theorem size3 : (Tryz.prog.info? 3).map (·.size) = some 1 := by kernel_rfl
theorem BS.copyM {w : World} {base B CB MB VB vn L : Nat} {s : ByteArray} {J : List (Nat × Bool × Int)} {V : Nat → Nat → Bool} {C M : List Int} (h : BS w base B CB MB VB vn L s J V C M) (nc : Nat) (hC : C.length = nc) (hM : M.length = nc) (h0 : 0 < nc) :
    (Builtin.copy_ #[114, 114] 3 #[.slice (some ⟨MB, 0, none⟩) nc nc, .slice (some ⟨CB, 0, none⟩) nc nc]).run Tryz.prog w = .ok (.int .i64 nc) (w.setRow MB (ints C).toArray) := by
  have hr := run_copy_row (P := Tryz.prog) w 114 114 3 3 MB 0 nc nc ⟨CB, 0, none⟩ nc nc _ 3 (ints C) Tryz.underlying114 size3 (h.hm (by omega)) (by simp [ints, hC]) (fun j v hj => by
    have e : (⟨CB, 0, none⟩ : Addr).add j = ⟨CB, j, none⟩ := by simp [Addr.add]; omega
    rw [e, cell_of_row _ _ _ _ _ _ (h.hc (by omega)), ← Array.getElem?_toList]
    exact hj) (by simp [ints, hC, hM]) (by intro v hv; simp [ints] at hv; obtain ⟨a, _, rfl⟩ := hv; rfl)
  rw [hr]
  have hd : (ints M).drop nc = [] := List.drop_eq_nil_of_le (by simp [ints, hM])
  simp only [List.toList_toArray, Nat.zero_add, List.take_zero, List.nil_append, goInt]
  rw [show (ints C).length = nc by simp [ints, hC], hd, List.append_nil]
theorem steps_inv {E : Env} {k : Nat} {c : Cfg} {b : Bool} {J : List (Nat × Bool × Int)} {V : Nat → Nat → Bool} {C : List Int} (h : Rx.Steps E k c ⟨.fin b, J, V, C⟩) (hc : ∀ b, c.ctl ≠ .fin b) : ∃ m d, k = m + 1 ∧ mstep E c = some d ∧ Rx.Steps E m d ⟨.fin b, J, V, C⟩ := by
  cases h with
  | zero => exact absurd rfl (hc b)
  | succ h2 h3 => exact ⟨_, _, rfl, h2, h3⟩
/-- no jobs are left behind a search in vain -/
def JEnd (b : Bool) (J : List (Nat × Bool × Int)) : Prop := b = false → J = []
set_option maxHeartbeats 4000000 in
theorem tTry {w0 w : World} {base R PB IB icap B CB MB VB vn nc : Nat} {T : List I} {s : ByteArray} {M : List Int} {V : Nat → Nat → Bool} {C : List Int} (hc : Ctx w0 w base R PB IB icap T s) (h : BS w base B CB MB VB vn T.length s [] V C M) (start pos : Nat) (x : I) (hx : T[start]? = some x) (hf : opc x ≠ 5) (hpos : pos ≤ s.size)
    (hC : C.length = nc) (hnc : nc = 0 ∨ (2 ≤ nc ∧ nc ≤ 1000)) (hM : M = List.replicate nc (-1)) (k : Nat) (b : Bool) (Jf : List (Nat × Bool × Int)) (Vf : Nat → Nat → Bool) (Cf : List Int) (hs : Rx.Steps (envOf T s) k (cfg0 start pos V C) ⟨.fin b, Jf, Vf, Cf⟩) :
    Calls Tryz.prog 99 #[.pointer (some ⟨R, 0, none⟩), .pointer (some ⟨B, 0, none⟩), .iface 156 (.pointer (some ⟨B, 5, none⟩)), .int .u32 start, .int .i64 pos] w fun e w' => e = .returned (.bool b) ∧ (∃ J, JEnd b J ∧ BS w' base B CB MB VB vn T.length s J Vf Cf (if b then Cf else M)) ∧ Below base w w' := by
  
  have hg : Rx.Good T s.size nc (cfg0 start pos V C) := by
    unfold cfg0
    cases hv : V start pos with
    | true => exact ⟨fun j hj => (by cases hj), hC, Nat.zero_le _⟩
    | false =>
      refine ⟨fun j hj => ?_, hC, ?_⟩
      · have : j = (start, false, (pos : Int)) := by simpa using hj
        subst this
        exact ⟨⟨x, hx⟩, pos, rfl, hpos⟩
      · show 1 ≤ visited (Rx.mark V start pos) T.length s.size
        rw [visited_mark hv (List.getElem?_eq_some_iff.1 hx).1 hpos]
        omega
  have r15 := hc.prog.r15
  obtain ⟨M', hM'⟩ : ∃ M', M' = if b then Cf else M := ⟨_, rfl⟩
  rw [← hM']
  have HM' := Lib.hid hM'
  clear hM'
  have HC := Lib.hid hc
  have HP := Lib.hid (tPushF h hc.prog start x hx hf pos hpos hc.len hc.prog.len (List.getElem?_eq_some_iff.1 hx).1 (Nat.zero_le _))
  have HS := Lib.hid hs
  have HG := Lib.hid hg
  have HM := Lib.hid hM
  have HNC := Lib.hid hnc
  clear hs hg hC hx hf hpos h hM hnc
  go_enter Tryz.func99, Tryz.ntmps99
  go_wp2_with (go_at_call 111; refine HP.out.mono ?_; rintro e w1 ⟨⟨v, rfl⟩, hbs, hbel⟩; have H1 := Lib.hid hbs; have H2 := Lib.hid hbel; clear hbs hbel)
  refine wp_loop_K (Inv w0 w base R PB IB icap B CB MB VB vn nc T s M ⟨.fin b, Jf, Vf, Cf⟩) k ?_ ?_
  · refine ⟨_, rfl, ⟨rfl, rfl, rfl, rfl, rfl, rfl⟩, cfg0 start pos V C, by unfold cfg0; split <;> rfl, HC.out.go H2.out, HG.out, HS.out, ?_, H2.out⟩
    have hb := H1.out
    unfold cfg0
    cases hv : V start pos with
    | true => simpa [hv] using hb
    | false => simpa [hv] using hb
  · rintro g _ wr ⟨xs, rfl, hF, c, hpop, hAt⟩ K hK
    have HA := Lib.hid hAt
    have HPop := Lib.hid hpop
    have HF := Lib.hid hF
    have HK := Lib.hid hK
    obtain ⟨hl, e0, e1, e2, e10, e11⟩ := hF
    rw [fr401 xs hl, e0, e1, e2, e10, e11]
    clear hl e0 e1 e2 e10 e11 hAt hpop hK
    cases hj : c.jobs with
    | nil =>
      obtain ⟨jv, hb, hjs⟩ := HA.out.bs.hb
      have hfin : b = false ∧ Vf = c.vis ∧ Cf = c.cap := by
        have h1 : mstep (envOf T s) c = some { c with ctl := .fin false } := by
          obtain ⟨ctl, J, V, C⟩ := c
          have h2 : ctl = .pop := HPop.out
          subst h2
          have h3 : J = [] := hj
          subst h3
          rfl
        have := HA.out.steps
        cases this with
        | zero => have h2 := HPop.out; cases h2
        | succ h2 h3 =>
          rw [h1] at h2
          injection h2 with h2
          subst h2
          cases h3 with
          | zero => exact ⟨rfl, rfl, rfl⟩
          | succ h4 _ => cases h4
      obtain ⟨rfl, rfl, rfl⟩ := hfin
      have b3 : wr.cell? ⟨B, 3, none⟩ = some jv := cell_of_row _ _ 3 _ _ _ hb
      have hjv : ∃ a cap, jv = .slice a 0 cap := by
        rcases hjs.2 with ⟨rfl, _⟩ | ⟨g, cap, cur, rfl, _⟩
        · exact ⟨_, _, rfl⟩
        · exact ⟨_, cap, by rw [hj]; rfl⟩
      obtain ⟨ja, jc, rfl⟩ := hjv
      have HB := Lib.hid (show BS wr base B CB MB VB vn T.length s [] c.vis c.cap M by have := HA.out.bs; rw [hj] at this; exact this)
      have HBel := Lib.hid HA.out.below
      clear hb hjs hj HA HS HG HP H1 H2 HK
      go_wp2
      go_ret
      exact ⟨rfl, ⟨[], fun _ => rfl, by rw [HM'.out]; simpa using HB.out⟩, HBel.out⟩
    | cons j J =>
      obtain ⟨pc, arg, p⟩ := j
      have hbs : BS wr base B CB MB VB vn T.length s (J.reverse ++ [(pc, arg, p)]) c.vis c.cap M := by have := HA.out.bs; rw [hj] at this; simpa using this
      obtain ⟨g', cap, b3, f3, c0, c1, c2, hcap, hcm, hbs'⟩ := hbs.last
      rw [List.length_reverse] at b3 c0 c1 c2 hcap hbs'
      have hJ : J.length < 1099511627776 := by
        have h1 := HA.out.good.at_
        rw [HPop.out] at h1
        have h1 : c.jobs.length ≤ visited c.vis T.length s.size := h1
        rw [hj] at h1
        have h2 := visited_le c.vis T.length s.size
        have h3 : T.length * (s.size + 1) ≤ 1000 * 1000001 := Nat.mul_le_mul HA.out.ctx.pg.len (by have := HA.out.ctx.len; omega)
        simp at h1
        omega
      have HBS := Lib.hid hbs'
      clear hbs hbs'
      go_wp2
      refine Code.wp_mono (Q := Left (Inv w0 w base R PB IB icap B CB MB VB vn nc T s M ⟨.fin b, Jf, Vf, Cf⟩) (bodyPost Tryz.prog Tryz.f99 fun e w' => e = Ending.returned (Value.bool b) ∧ (∃ J, JEnd b J ∧ BS w' base B CB MB VB vn T.length s J Vf Cf M') ∧ Below base w w') g) ?_ ?_
      · rintro e a' w' hq
        cases e with
        | exit l => obtain ⟨rfl, hq⟩ := hq; exact HK.out _ _ hq
        | ret => exact hq
        | _ => exact hq.elim
      · refine wp_scope_two (Lab w0 w base R PB IB icap B CB MB VB vn nc T s M ⟨.fin b, Jf, Vf, Cf⟩ g) ?_ ?_ ?_ ?_
        · have HJ := Lib.hid hj
          clear hj HK
          go_wp2
          refine wp_goto ?_
          have hcfg : c = ⟨.pop, (pc, arg, p) :: J, c.vis, c.cap⟩ := by
            obtain ⟨ctl, J', V', C'⟩ := c
            have h2 : ctl = .pop := HPop.out
            have h3 : J' = (pc, arg, p) :: J := HJ.out
            subst h2 h3; rfl
          have hb1 := (Below.refl base wr).setCell (p := ⟨B, 3, none⟩) HBS.out.bb (.slice (some ⟨g', 0, none⟩) J.length cap)
          have hbel : Below base w (wr.setCell ⟨B, 3, none⟩ (.slice (some ⟨g', 0, none⟩) J.length cap)) := HA.out.below.setCell (p := ⟨B, 3, none⟩) HBS.out.bb _
          refine ⟨g, fun _ h => (by cases h), _, rfl, ⟨rfl, rfl, rfl, rfl, rfl, rfl⟩, Nat.le_refl _, pc, p, arg, rfl, rfl, rfl, .inr ?_⟩
          cases arg with
          | true => exact .inr ⟨rfl, rfl, c, J, HPop.out, HJ.out, HA.out.ctx.go hb1, HA.out.good, HA.out.steps, HBS.out, hbel⟩
          | false =>
            obtain ⟨m, d, rfl, hd, hsd⟩ := steps_inv HA.out.steps (by rw [HPop.out]; intro b h; cases h)
            have hjob := HA.out.good.jobs (pc, false, p) (by rw [HJ.out]; exact List.mem_cons_self)
            obtain ⟨_, q, hq, hqn⟩ := hjob
            have hq : p = (q : Int) := hq
            subst hq
            have hgd := HA.out.good.step HC.out.tab rfl HC.out.ok hd
            rw [hcfg] at hd
            simp [mstep] at hd
            subst hd
            exact .inl ⟨rfl, rfl, _, q, rfl, rfl, m, Nat.lt_succ_self _, HA.out.ctx.go hb1, hgd, hsd, HBS.out, hbel⟩
        · rintro l n a wr ⟨xs, _, _, _, pc, p, arg, _, _, _, h | h | h⟩
          · exact .inr h.1
          · exact .inl h.1
          · exact .inl h.1
        · refine ⟨_, rfl, ?_⟩
          rintro n _ wr ⟨xs, rfl, hF, hn, pc, p, arg, e13, e14, e15, h⟩
          obtain ⟨hl, e0, e1, e2, e10, e11⟩ := hF
          rw [fr401 xs hl, e0, e1, e2, e10, e11, e13, e14, e15]
          clear hl e0 e1 e2 e10 e11 e13 e14 e15 HBS HA HK HPop HF HP H1 H2 HS HG
          rcases h with h | ⟨_, rfl, c', pos', rfl, hctl, m', hm', hA⟩ | ⟨_, rfl, c', J', hP⟩
          · exact absurd h.1 (by decide)
          · have HA' := Lib.hid hA
            have hgd := hA.good.at_
            rw [hctl] at hgd
            obtain ⟨x, hx⟩ : ∃ x, T[pc]? = some x := ⟨_, List.getElem?_eq_getElem hgd.1⟩
            have hPG := hA.ctx.prog
            obtain ⟨m, d, rfl, hd, hsd⟩ := steps_inv hA.steps (by rw [hctl]; intro b h; cases h)
            have hgood := hA.good.step HC.out.tab rfl HC.out.ok hd
            have HGd := Lib.hid hA.good
            have hcfg : c' = ⟨.at_ pc pos', c'.jobs, c'.vis, c'.cap⟩ := by
              obtain ⟨ctl, J', V', C'⟩ := c'
              have h2 : ctl = .at_ pc pos' := hctl
              subst h2; rfl
            have hE : (envOf T s).prog pc = x := tabP_of hx
            have r1 := hPG.r1
            have p0 := hPG.p0
            have i0 := (hPG.inst pc x hx).op
            have i1 := (hPG.inst pc x hx).out
            have i2 := (hPG.inst pc x hx).arg
            have k1 : (pc : Int) < (T.length : Int) := by have := hgd.1; omega
            have HG' := Lib.hid hgood
            have HS' := Lib.hid hsd
            have HN := Lib.hid (show m + 1 < n ∧ n ≤ g from ⟨hm', hn⟩)
            have HX := Lib.hid hx
            have HPG := Lib.hid hPG
            have HD := Lib.hid hgd
            have hjl : c'.jobs.reverse.length ≤ 1002000000 := by
              have h1 := hgd.2.2
              have h2 := visited_le c'.vis T.length s.size
              have h3 : T.length * (s.size + 1) ≤ 1000 * 1000001 := Nat.mul_le_mul hPG.len (by have := hA.ctx.len; omega)
              simp at h1 ⊢
              omega
            rw [hcfg] at hd
            simp only [mstep, hE] at hd
            clear hE hcfg hgood hsd hm' hn hx hPG hgd hA hctl
            cases x with
            | alt o a' =>
              have HV := Lib.hid (tPushT HA'.out.bs HPG.out pc _ HX.out (by simp [opc]) (pos' : Int) hjl)
              simp only [Option.some.injEq] at hd
              subst hd
              simp only [opc, outc, argc] at i0 i1 i2
              go_wp2_with (go_at_call 111; refine HV.out.mono ?_; rintro e w2 ⟨⟨v, rfl⟩, hbs2, hbel2⟩; have i1' := ((HA'.out.ctx.go hbel2).prog.inst pc _ HX.out).out)
              refine wp_goto ?_
              refine ⟨m, fun k h => (by injection h; have := HN.out; omega), _, rfl, ⟨rfl, rfl, rfl, rfl, rfl, rfl⟩, (by have := HN.out; omega), o, _, _, rfl, rfl, rfl, .inl ⟨rfl, rfl, _, pos', rfl, rfl, HA'.out.ctx.go hbel2, HG'.out, HS'.out, by simpa using hbs2, HA'.out.below.trans hbel2⟩⟩
            | nop o =>
              simp only [Option.some.injEq] at hd
              subst hd
              simp only [opc, outc, argc] at i0 i1 i2
              go_wp2
              refine wp_goto ?_
              refine ⟨m, fun k h => (by injection h; have := HN.out; omega), _, rfl, ⟨rfl, rfl, rfl, rfl, rfl, rfl⟩, (by have := HN.out; omega), _, _, _, rfl, rfl, rfl, .inl ⟨rfl, rfl, _, pos', rfl, rfl, HA'.out.ctx, HG'.out, HS'.out, HA'.out.bs, HA'.out.below⟩⟩
            | rune o rs =>
              obtain ⟨⟨rb, rcap, hR⟩, hl, hri⟩ := (HPG.out.inst pc _ HX.out).rune o rs rfl
              have HV := Lib.hid (tStep B s pos' (by have := HD.out.2.1; have := HC.out.len; omega) HC.out.len wr HA'.out.ctx.tab' HA'.out.bs.c5)
              have HR := Lib.hid hR
              have HL := Lib.hid (And.intro hl hri)
              clear hR hl hri
              change (if matchRune rs (stepB s pos').1 then _ else _) = _ at hd
              simp only [opc, outc, argc] at i0 i1 i2
              cases hm : matchRune rs (stepB s pos').1 with
              | true =>
                simp only [hm, if_true, Option.some.injEq] at hd
                subst hd
                have hw : pos' + (stepB s pos').2 ≤ s.size := HG'.out.at_.2.1
                have hlen := HC.out.len
                go_wp2_with (first
                  | (go_at_call 85; refine HV.out.mono ?_; rintro e w2 ⟨rfl, hb2⟩; have hbel2 := hb2.mono HA'.out.bs.bw; have i1' := ((HA'.out.ctx.go hbel2).prog.inst pc _ HX.out).out; simp only [outc] at i1')
                  | (go_at_call 113; refine (tMatchRune IB (pc * 4) rb rcap rs _ w2 (HR.out.keep hb2) HL.out.1 HL.out.2).mono ?_; rintro e w3 ⟨rfl, rfl⟩; rw [hm]))
                refine wp_goto ?_
                refine ⟨m, fun k h => (by injection h; have := HN.out; omega), _, rfl, ⟨rfl, rfl, rfl, rfl, rfl, rfl⟩, (by have := HN.out; omega), o, _, _, rfl, rfl, rfl, .inl ⟨rfl, rfl, _, pos' + (stepB s pos').2, by simp, rfl, HA'.out.ctx.go hbel2, HG'.out, HS'.out, HA'.out.bs.keep hb2, HA'.out.below.trans hbel2⟩⟩
              | false =>
                simp only [hm, Bool.false_eq_true, if_false, Option.some.injEq] at hd
                subst hd
                go_wp2_with (first
                  | (go_at_call 85; refine HV.out.mono ?_; rintro e w2 ⟨rfl, hb2⟩; have hbel2 := hb2.mono HA'.out.bs.bw)
                  | (go_at_call 113; refine (tMatchRune IB (pc * 4) rb rcap rs _ w2 (HR.out.keep hb2) HL.out.1 HL.out.2).mono ?_; rintro e w3 ⟨rfl, rfl⟩; rw [hm]))
                refine ⟨rfl, m, (by have := HN.out; omega), _, rfl, ⟨rfl, rfl, rfl, rfl, rfl, rfl⟩, _, rfl, HA'.out.ctx.go hbel2, HG'.out, HS'.out, HA'.out.bs.keep hb2, HA'.out.below.trans hbel2⟩
            | one o r =>
              obtain ⟨rb, rcap, hR⟩ := (HPG.out.inst pc _ HX.out).one o r rfl
              have HV := Lib.hid (tStep B s pos' (by have := HD.out.2.1; have := HC.out.len; omega) HC.out.len wr HA'.out.ctx.tab' HA'.out.bs.c5)
              have HR := Lib.hid hR
              clear hR
              change (if (stepB s pos').1 = r then _ else _) = _ at hd
              simp only [opc, outc, argc] at i0 i1 i2
              by_cases hm : (stepB s pos').1 = r
              · simp only [hm, if_true, Option.some.injEq] at hd
                subst hd
                have hw : pos' + (stepB s pos').2 ≤ s.size := HG'.out.at_.2.1
                have hlen := HC.out.len
                go_wp2_with (go_at_call 85; refine HV.out.mono ?_; rintro e w2 ⟨rfl, hb2⟩; rw [hm]; have hbel2 := hb2.mono HA'.out.bs.bw; have i1' := ((HA'.out.ctx.go hbel2).prog.inst pc _ HX.out).out; simp only [outc] at i1'; have i3 := (HR.out.keep hb2).at3; have i4 := (HR.out.keep hb2).get 0 (by simp); simp at i3 i4)
                refine wp_goto ?_
                refine ⟨m, fun k h => (by injection h; have := HN.out; omega), _, rfl, ⟨rfl, rfl, rfl, rfl, rfl, rfl⟩, (by have := HN.out; omega), o, _, _, rfl, rfl, rfl, .inl ⟨rfl, rfl, _, pos' + (stepB s pos').2, by simp, rfl, HA'.out.ctx.go hbel2, HG'.out, HS'.out, HA'.out.bs.keep hb2, HA'.out.below.trans hbel2⟩⟩
              · simp only [hm, if_false, Option.some.injEq] at hd
                subst hd
                go_wp2_with (go_at_call 85; refine HV.out.mono ?_; rintro e w2 ⟨rfl, hb2⟩; have hbel2 := hb2.mono HA'.out.bs.bw; have i3 := (HR.out.keep hb2).at3; have i4 := (HR.out.keep hb2).get 0 (by simp); simp at i3 i4)
                refine ⟨rfl, m, (by have := HN.out; omega), _, rfl, ⟨rfl, rfl, rfl, rfl, rfl, rfl⟩, _, rfl, HA'.out.ctx.go hbel2, HG'.out, HS'.out, HA'.out.bs.keep hb2, HA'.out.below.trans hbel2⟩
            | fail => cases hd
            | emp o a' =>
              rcases HC.out.emp pc o a' HX.out with rfl | rfl
              · have HV := Lib.hid (tCtx B s pos' HD.out.2.1 HC.out.len wr HA'.out.ctx.tab' HA'.out.bs.c5)
                have hl1 := lastB_range s pos'
                have hs1 := stepB_range s pos'
                have HW := Lib.hid (fun w2 => tMatch4 (lastB s pos') (stepB s pos').1 (by omega) (by omega) (by omega) (by omega) w2)
                have hneg := lastB_neg s pos'
                clear hl1 hs1
                change (if (decide (pos' = 0) = true) then _ else _) = _ at hd
                simp only [opc, outc, argc] at i0 i1 i2
                by_cases hm : pos' = 0
                · rw [if_pos (decide_eq_true hm)] at hd
                  rw [decide_eq_true hm] at hneg
                  simp only [Option.some.injEq] at hd
                  subst hd
                  clear hm
                  go_wp2_with (first
                    | (go_at_call 154; refine HV.out.mono ?_; rintro e w2 ⟨rfl, hb2⟩; have hbel2 := hb2.mono HA'.out.bs.bw; have i1' := ((HA'.out.ctx.go hbel2).prog.inst pc _ HX.out).out; have i2' := ((HA'.out.ctx.go hbel2).prog.inst pc _ HX.out).arg; simp only [outc, argc] at i1' i2')
                    | (go_at_call 114; refine (HW.out _).mono ?_; rintro e w3 ⟨rfl, rfl⟩; rw [hneg]))
                  refine wp_goto ?_
                  exact ⟨m, fun k h => (by injection h; have := HN.out; omega), _, rfl, ⟨rfl, rfl, rfl, rfl, rfl, rfl⟩, (by have := HN.out; omega), o, _, _, rfl, rfl, rfl, .inl ⟨rfl, rfl, _, pos', rfl, rfl, HA'.out.ctx.go hbel2, HG'.out, HS'.out, HA'.out.bs.keep hb2, HA'.out.below.trans hbel2⟩⟩
                · rw [if_neg (by simpa using hm)] at hd
                  rw [decide_eq_false hm] at hneg
                  simp only [Option.some.injEq] at hd
                  subst hd
                  clear hm
                  go_wp2_with (first
                    | (go_at_call 154; refine HV.out.mono ?_; rintro e w2 ⟨rfl, hb2⟩; have hbel2 := hb2.mono HA'.out.bs.bw; have i2' := ((HA'.out.ctx.go hbel2).prog.inst pc _ HX.out).arg; simp only [argc] at i2')
                    | (go_at_call 114; refine (HW.out _).mono ?_; rintro e w3 ⟨rfl, rfl⟩; rw [hneg]))
                  exact ⟨rfl, m, (by have := HN.out; omega), _, rfl, ⟨rfl, rfl, rfl, rfl, rfl, rfl⟩, _, rfl, HA'.out.ctx.go hbel2, HG'.out, HS'.out, HA'.out.bs.keep hb2, HA'.out.below.trans hbel2⟩
              · have HV := Lib.hid (tCtx B s pos' HD.out.2.1 HC.out.len wr HA'.out.ctx.tab' HA'.out.bs.c5)
                have hl1 := lastB_range s pos'
                have hs1 := stepB_range s pos'
                have HW := Lib.hid (fun w2 => tMatch8 (lastB s pos') (stepB s pos').1 (by omega) (by omega) (by omega) (by omega) w2)
                have hneg := stepB_neg s pos' HD.out.2.1
                clear hl1 hs1
                change (if (decide (pos' = s.size) = true) then _ else _) = _ at hd
                simp only [opc, outc, argc] at i0 i1 i2
                by_cases hm : pos' = s.size
                · rw [if_pos (decide_eq_true hm)] at hd
                  rw [decide_eq_true hm] at hneg
                  simp only [Option.some.injEq] at hd
                  subst hd
                  clear hm
                  go_wp2_with (first
                    | (go_at_call 154; refine HV.out.mono ?_; rintro e w2 ⟨rfl, hb2⟩; have hbel2 := hb2.mono HA'.out.bs.bw; have i1' := ((HA'.out.ctx.go hbel2).prog.inst pc _ HX.out).out; have i2' := ((HA'.out.ctx.go hbel2).prog.inst pc _ HX.out).arg; simp only [outc, argc] at i1' i2')
                    | (go_at_call 114; refine (HW.out _).mono ?_; rintro e w3 ⟨rfl, rfl⟩; rw [hneg]))
                  refine wp_goto ?_
                  exact ⟨m, fun k h => (by injection h; have := HN.out; omega), _, rfl, ⟨rfl, rfl, rfl, rfl, rfl, rfl⟩, (by have := HN.out; omega), o, _, _, rfl, rfl, rfl, .inl ⟨rfl, rfl, _, pos', rfl, rfl, HA'.out.ctx.go hbel2, HG'.out, HS'.out, HA'.out.bs.keep hb2, HA'.out.below.trans hbel2⟩⟩
                · rw [if_neg (by simpa using hm)] at hd
                  rw [decide_eq_false hm] at hneg
                  simp only [Option.some.injEq] at hd
                  subst hd
                  clear hm
                  go_wp2_with (first
                    | (go_at_call 154; refine HV.out.mono ?_; rintro e w2 ⟨rfl, hb2⟩; have hbel2 := hb2.mono HA'.out.bs.bw; have i2' := ((HA'.out.ctx.go hbel2).prog.inst pc _ HX.out).arg; simp only [argc] at i2')
                    | (go_at_call 114; refine (HW.out _).mono ?_; rintro e w3 ⟨rfl, rfl⟩; rw [hneg]))
                  exact ⟨rfl, m, (by have := HN.out; omega), _, rfl, ⟨rfl, rfl, rfl, rfl, rfl, rfl⟩, _, rfl, HA'.out.ctx.go hbel2, HG'.out, HS'.out, HA'.out.bs.keep hb2, HA'.out.below.trans hbel2⟩
            | cap o a' =>
              simp only [opc, outc, argc] at i0 i1 i2
              have hnl : c'.cap.length = nc := HGd.out.cap
              cases hg : c'.cap[a']? with
              | none =>
                simp only [hg, Option.some.injEq] at hd
                subst hd
                have b1 := HA'.out.bs.c1
                have hal : c'.cap.length ≤ a' := List.getElem?_eq_none_iff.1 hg
                obtain ⟨cp, hcp⟩ : ∃ cp, sl CB c'.cap.length = .slice cp c'.cap.length c'.cap.length := by
                  unfold sl; split
                  · next h => exact ⟨_, by rw [h]⟩
                  · exact ⟨_, rfl⟩
                rw [hcp] at b1
                have k2 : ¬ (a' : Int) < (c'.cap.length : Int) := by omega
                have kw : IntKind.u32.wrap (c'.cap.length : Int) = (c'.cap.length : Int) := by have := HNC.out; rw [IntKind.wrap_u32]; omega
                clear hal hcp hg hnl
                go_wp2
                go_region_held3 (fun w' => w'.cell? ⟨IB, pc * 4 + 2, none⟩ = some (.int .u32 a') ∧ w'.cell? ⟨B, 1, none⟩ = some (.slice cp c'.cap.length c'.cap.length)) (exact ⟨by assumption, by assumption⟩) (fail)
                go_wp2
                refine wp_goto ?_
                refine ⟨m, fun k h => (by injection h; have := HN.out; omega), _, rfl, ⟨rfl, rfl, rfl, rfl, rfl, rfl⟩, (by have := HN.out; omega), o, _, _, rfl, rfl, rfl, .inl ⟨rfl, rfl, _, pos', rfl, rfl, HA'.out.ctx.go ((Below.refl _ _).drew), HG'.out, HS'.out, HA'.out.bs.keep ((Below.refl _ _).drew), HA'.out.below.trans ((Below.refl _ _).drew)⟩⟩
              | some old =>
                simp only [hg, Option.some.injEq] at hd
                subst hd
                have hal : a' < c'.cap.length := (List.getElem?_eq_some_iff.1 hg).1
                obtain ⟨b1, b2, b3⟩ := HA'.out.bs.cg a' old hg
                have HCG := Lib.hid hg
                have k2 : (a' : Int) < (c'.cap.length : Int) := by omega
                have kw : IntKind.u32.wrap (c'.cap.length : Int) = (c'.cap.length : Int) := by have := HNC.out; rw [IntKind.wrap_u32]; omega
                have hdr := (Below.refl wr.heap.size wr).drew
                have HV := Lib.hid (tPushT (HA'.out.bs.keep hdr.drew) (HPG.out.keep hdr.drew) pc _ HX.out (by simp [opc]) old hjl)
                have HAL := Lib.hid (show a' < c'.cap.length from hal)
                clear hal hg hnl
                go_wp2
                go_region_held3 (fun w' => w'.cell? ⟨IB, pc * 4 + 2, none⟩ = some (.int .u32 a') ∧ w'.cell? ⟨B, 1, none⟩ = some (.slice (some ⟨CB, 0, none⟩) c'.cap.length c'.cap.length)) (exact ⟨by assumption, by assumption⟩) (fail)
                go_wp2
                go_region_held3 (fun w' => w'.cell? ⟨IB, pc * 4 + 2, none⟩ = some (.int .u32 a') ∧ w'.cell? ⟨B, 1, none⟩ = some (.slice (some ⟨CB, 0, none⟩) c'.cap.length c'.cap.length) ∧ w'.cell? ⟨CB, a', none⟩ = some (.int .i64 old)) (exact ⟨by assumption, by assumption, by assumption⟩) (first | (go_at_call 111; refine HV.out.mono ?_; rintro e w2 ⟨⟨v, rfl⟩, hbs2, hbel2⟩; obtain ⟨b1', b2', b3'⟩ := hbs2.cg a' old HCG.out; have hbel3 := (Below.refl base wr).drew.drew.trans hbel2; have hbelS := hbel3.trans ((Below.refl base w2).setCell (p := ⟨CB, a', none⟩) hbs2.bc (.int .i64 pos')); have i1' := ((HA'.out.ctx.go hbelS).prog.inst pc _ HX.out).out; have i2' := ((HA'.out.ctx.go hbel3).prog.inst pc _ HX.out).arg; simp only [outc, argc] at i1' i2'))
                go_wp2
                go_region_with (fail)
                all_goals go_wp2
                all_goals refine wp_goto ?_
                all_goals exact ⟨m, fun k h => (by injection h; have := HN.out; omega), _, rfl, ⟨rfl, rfl, rfl, rfl, rfl, rfl⟩, (by have := HN.out; omega), o, _, _, rfl, rfl, rfl, .inl ⟨rfl, rfl, _, pos', rfl, rfl, HA'.out.ctx.go hbelS.drew, HG'.out, HS'.out, by simpa using (hbs2.setC a' (pos' : Int) HAL.out).keep ((Below.refl _ _).drew), HA'.out.below.trans hbelS.drew⟩⟩
            | mtch =>
              simp only [Option.some.injEq] at hd
              subst hd
              simp only [opc, outc, argc] at i0 i1 i2
              have hnl : c'.cap.length = nc := HGd.out.cap
              have hfin : b = true ∧ Vf = c'.vis ∧ Cf = c'.cap.set 1 (pos' : Int) := by
                cases HS'.out with
                | zero => exact ⟨rfl, rfl, rfl⟩
                | succ h4 _ => cases h4
              obtain ⟨rfl, rfl, hCf⟩ := hfin
              have HCf := Lib.hid hCf
              have hbm := HA'.out.bs
              have hM := HM.out
              have HL := Lib.hid hnl
              rcases HNC.out with hz | ⟨hz, hz'⟩
              · have b1 : wr.cell? ⟨B, 1, none⟩ = some (.slice none 0 0) := by rw [hbm.c1, hnl, hz]; rfl
                have HZ := Lib.hid hz
                clear hCf hM hnl hbm hz
                go_wp2
                change bodyPost Tryz.prog Tryz.f99 (fun e w' => e = Ending.returned (Value.bool true) ∧ (∃ J, JEnd true J ∧ BS w' base B CB MB VB vn T.length s J c'.vis Cf M') ∧ Below base w w') .ret _ _
                go_ret
                refine ⟨rfl, ⟨c'.jobs.reverse, fun h => (by cases h), ?_⟩, HA'.out.below⟩
                have h1 : M = [] := by have := HM.out; rw [HZ.out] at this; exact this
                have h2 : c'.cap = [] := List.eq_nil_of_length_eq_zero (by rw [HL.out, HZ.out])
                have h3 : Cf = c'.cap := by rw [HCf.out, h2]; rfl
                have h4 : M' = M := by rw [HM'.out, h3, h1]; simpa using h2
                rw [h4, h3]; exact HA'.out.bs
              · have b1 : wr.cell? ⟨B, 1, none⟩ = some (.slice (some ⟨CB, 0, none⟩) nc nc) := by rw [hbm.c1, hnl]; unfold sl; rw [if_neg (by omega)]
                have hml : M.length = nc := by rw [hM]; simp
                have b2 : wr.cell? ⟨B, 2, none⟩ = some (.slice (some ⟨MB, 0, none⟩) nc nc) := by rw [hbm.c2, hml]; unfold sl; rw [if_neg (by omega)]
                have b3 := (hbm.cc 1 (by omega)).2.2
                obtain ⟨x1, hx1⟩ : ∃ x, wr.cell? ⟨CB, 1, none⟩ = some x := ⟨_, (hbm.cc 1 (by omega)).2.1⟩
                have hcp := (hbm.setC 1 (pos' : Int) (by omega)).keep ((Below.refl _ _).drew)
                have hBS3 := hcp.setM (c'.cap.set 1 (pos' : Int)) (by rw [List.length_set, hml]; exact hnl) (by omega)
                have HBS3 := Lib.hid hBS3
                have HE1 := Lib.hid hBS3.c1
                have HE2 := Lib.hid hBS3.c2
                rw [List.length_set, hnl] at HE1 HE2
                unfold sl at HE1 HE2
                rw [if_neg (by omega)] at HE1 HE2
                clear hBS3
                have hcp := hcp.copyM nc (by rw [List.length_set]; exact hnl) hml (by omega)
                have k4 : ¬ ((nc : Int) = 0) := by omega
                have k5 : (1 : Int) < (nc : Int) := by omega
                have hbs2 := hbm.setC 1 (pos' : Int) (by omega)
                have b4 : (wr.setCell ⟨CB, 1, none⟩ (.int .i64 pos')).cell? ⟨MB, 1, none⟩ = some (.int .i64 (-1)) := by rw [hbs2.mm 1 (by omega)]; simp [hM]
                have b5 := hbs2.c2
                rw [hml] at b5
                unfold sl at b5
                rw [if_neg (by omega)] at b5
                have b6 : (wr.setCell ⟨CB, 1, none⟩ (.int .i64 pos')).cell? ⟨B, 1, none⟩ = some (.slice (some ⟨CB, 0, none⟩) nc nc) := by rw [hbs2.c1, List.length_set, hnl]; unfold sl; rw [if_neg (by omega)]
                have HB2 := Lib.hid hbs2
                have HML := Lib.hid hml
                have HZ := Lib.hid hz
                clear hbs2 hml hCf hM hnl hbm hz
                go_wp2
                go_region_held3 (fun w' => w'.cell? ⟨B, 2, none⟩ = some (.slice (some ⟨MB, 0, none⟩) nc nc) ∧ w'.cell? ⟨B, 1, none⟩ = some (.slice (some ⟨CB, 0, none⟩) nc nc)) (first | exact ⟨by assumption, by assumption⟩ | exact ⟨HE2.out, HE1.out⟩) (fail)
                go_wp2
                change bodyPost Tryz.prog Tryz.f99 (fun e w' => e = Ending.returned (Value.bool true) ∧ (∃ J, JEnd true J ∧ BS w' base B CB MB VB vn T.length s J c'.vis Cf M') ∧ Below base w w') .ret _ _
                go_ret
                refine ⟨rfl, ⟨c'.jobs.reverse, fun h => (by cases h), ?_⟩, ?_⟩
                · have h4 : M' = Cf := by rw [HM'.out]; rfl
                  rw [h4, HCf.out]; exact HBS3.out
                · exact HA'.out.below.trans (below_setRow ((Below.refl base wr).setCell (p := ⟨CB, 1, none⟩) HA'.out.bs.bc _).drew HA'.out.bs.bm _)
          · have hjob := hP.good.jobs (pc, true, p) (by rw [hP.jobs]; exact List.mem_cons_self)
            have hPG := hP.ctx.prog
            obtain ⟨m, d, rfl, hd, hsd⟩ := steps_inv hP.steps (by rw [hP.ctl]; intro b h; cases h)
            have hgood := hP.good.step HC.out.tab rfl HC.out.ok hd
            have hcfg : c' = ⟨.pop, (pc, true, p) :: J', c'.vis, c'.cap⟩ := by
              obtain ⟨ctl, J'', V', C'⟩ := c'
              have h2 : ctl = .pop := hP.ctl
              have h3 : J'' = (pc, true, p) :: J' := hP.jobs
              subst h2 h3; rfl
            have r1 := hPG.r1
            have p0 := hPG.p0
            have HG' := Lib.hid hgood
            have HS' := Lib.hid hsd
            have HP' := Lib.hid hP
            have HN := Lib.hid (show m + 1 ≤ g from hn)
            rcases hjob with ⟨o, a', hx, q, hq, hqn⟩ | ⟨o, a', hx, ha⟩
            · have hq : p = (q : Int) := hq
              subst hq
              have hE : (envOf T s).prog pc = .alt o a' := tabP_of hx
              have i0 := (hPG.inst pc _ hx).op
              have i2 := (hPG.inst pc _ hx).arg
              have k1 : (pc : Int) < (T.length : Int) := by have := (List.getElem?_eq_some_iff.1 hx).1; omega
              rw [hcfg] at hd
              simp only [mstep, hE, Option.some.injEq] at hd
              subst hd
              simp only [opc, outc, argc] at i0 i2
              clear hE hcfg hgood hsd hn hx hPG hP
              go_wp2
              refine wp_goto ?_
              refine ⟨m, fun k h => (by injection h; omega), _, rfl, ⟨rfl, rfl, rfl, rfl, rfl, rfl⟩, (by have := HN.out; omega), a', _, _, rfl, rfl, rfl, .inl ⟨rfl, rfl, _, q, rfl, by simp, HP'.out.ctx, HG'.out, HS'.out, HP'.out.bs, HP'.out.below⟩⟩
            · have hE : (envOf T s).prog pc = .cap o a' := tabP_of hx
              have i0 := (hPG.inst pc _ hx).op
              have i2 := (hPG.inst pc _ hx).arg
              have k1 : (pc : Int) < (T.length : Int) := by have := (List.getElem?_eq_some_iff.1 hx).1; omega
              have hal : a' < c'.cap.length := by rw [hP.good.cap]; exact ha
              obtain ⟨b1, b2, b3⟩ := hP.bs.cc a' hal
              have hbs2 := hP.bs.setC a' p hal
              have hbel2 := (Below.refl base wr).setCell (p := ⟨CB, a', none⟩) hP.bs.bc (.int .i64 p)
              have HB2 := Lib.hid hbs2
              have HBel2 := Lib.hid hbel2
              have k2 : (a' : Int) < (c'.cap.length : Int) := by omega
              rw [hcfg] at hd
              simp only [mstep, hE, Option.some.injEq] at hd
              subst hd
              simp only [opc, outc, argc] at i0 i2
              clear hE hcfg hgood hsd hn hx hPG hP hbs2 hbel2
              go_wp2
              go_region_with (fail)
              all_goals try go_wp2
              all_goals exact ⟨rfl, m, HN.out, _, rfl, ⟨rfl, rfl, rfl, rfl, rfl, rfl⟩, _, rfl, HP'.out.ctx.go HBel2.out.drew, HG'.out, HS'.out, HB2.out.keep ((Below.refl _ _).drew), HP'.out.below.trans HBel2.out.drew⟩
        · refine ⟨_, rfl, ?_⟩
          rintro n _ wr ⟨xs, rfl, hF, hn, pc, p, arg, e13, e14, e15, h⟩ H
          obtain ⟨hl, e0, e1, e2, e10, e11⟩ := hF
          rw [fr401 xs hl, e0, e1, e2, e10, e11, e13, e14, e15]
          refine wp_seq_k fun KK hKK => ?_
          have HKK := Lib.hid (fun a' w' => (fun h => hKK a' w' (wp_seq (wp_label (H _ a' w' rfl h)))))
          clear hKK H
          rcases h with ⟨_, rfl, c', pos', rfl, hctl, hA⟩ | h | h
          · have HA' := Lib.hid hA
            have hgd := hA.good.at_
            rw [hctl] at hgd
            have HV := Lib.hid (tVisit hA.bs pc pos' hgd.1 hgd.2.1 hA.ctx.len hA.ctx.pg.len)
            have HC' := Lib.hid hctl
            obtain ⟨m, d, rfl, hd, hsd⟩ := steps_inv hA.steps (by rw [hctl]; intro b h; cases h)
            have hgood := hA.good.step HC.out.tab rfl HC.out.ok hd
            have hcfg : c' = ⟨.chk pc pos', c'.jobs, c'.vis, c'.cap⟩ := by
              obtain ⟨ctl, J', V', C'⟩ := c'
              have h2 : ctl = .chk pc pos' := hctl
              subst h2; rfl
            have HG' := Lib.hid hgood
            have HS' := Lib.hid hsd
            have HN := Lib.hid hn
            rw [hcfg] at hd
            clear hgood hsd hA hgd hctl HBS HA hcfg hn
            cases hv : c'.vis pc pos' with
            | true =>
              simp only [mstep, hv, if_true, Option.some.injEq] at hd
              subst hd
              simp only [hv, if_true, Bool.not_true] at HV
              clear hv
              go_wp2_with (go_at_call 112; refine HV.out.mono ?_; rintro e w2 ⟨rfl, hbs2, hbel2⟩)
              refine ⟨rfl, m, HN.out, _, rfl, ⟨rfl, rfl, rfl, rfl, rfl, rfl⟩, _, rfl, HA'.out.ctx.go hbel2, HG'.out, HS'.out, hbs2, HA'.out.below.trans hbel2⟩
            | false =>
              simp only [mstep, hv, Bool.false_eq_true, if_false, Option.some.injEq] at hd
              subst hd
              simp only [hv, Bool.false_eq_true, if_false, Bool.not_false] at HV
              clear hv
              go_wp2_with (go_at_call 112; refine HV.out.mono ?_; rintro e w2 ⟨rfl, hbs2, hbel2⟩)
              refine HKK.out _ _ ⟨_, rfl, ⟨rfl, rfl, rfl, rfl, rfl, rfl⟩, HN.out, pc, _, _, rfl, rfl, rfl, .inr (.inl ⟨rfl, rfl, _, pos', rfl, rfl, m, Nat.lt_succ_self _, HA'.out.ctx.go hbel2, HG'.out, HS'.out, hbs2, HA'.out.below.trans hbel2⟩)⟩
          · exact absurd h.1 (by decide)
          · exact absurd h.1 (by decide)
end Go.Proofs.YtpbmbaffncnglaaGreatDoor.Sv
end
