/- a part of the proof: FnSemverUpgrade: for every version the law's function returns true and leaves its argument as it was; no condition is added, the statement is the given tied card. -/
import Derived.Test.YtflcanlniddgoaaGreatDoorNG
section
set_option linter.unusedVariables false
set_option linter.unusedSimpArgs false
/- the next versions -/
namespace Go.Proofs.YtflcanlniddgoaaGreatDoor.Sv
open Go Go.RowKit Rx
set_option maxRecDepth 100000
theorem e0_size : (⟨#[]⟩ : ByteArray).size = 0 := rfl
theorem u64_small (x : Int) (h : 0 ≤ x) (h' : x < 18446744073709551616) : IntKind.u64.wrap x = x := by
  have e : IntKind.u64.bits = 64 := rfl
  unfold IntKind.wrap
  simp [e, IntKind.signed]
  omega
/-- a version's next one, with some original text -/
def NextV (a b c : Nat) (e : Ending) : Prop := ∃ o, e = .returned (ver a b c e0 e0 o)
structure SI (w : World) (T1 T2 T3 a b c a2 b2 c2 : Nat) (W : World) : Prop where
  h1 : W.heap[T1]? = some (.cells #[.int .u64 a, .int .u64 b, .int .u64 c, .string e0, .string e0, .string e0] 33 (0, 0))
  h2 : W.heap[T2]? = some (.cells #[.int .u64 0, .int .u64 0, .int .u64 0, .string e0, .string e0, .string e0] 33 (0, 0))
  h3 : W.heap[T3]? = some (.cells #[.int .u64 a2, .int .u64 b2, .int .u64 c2, .string e0, .string e0, .string e0] 33 (0, 0))
  pow : Pow W
  b : Below w.heap.size w W
  l2 : w.heap.size ≤ T2
  l3 : w.heap.size ≤ T3
theorem SI.keep {w W W' : World} {T1 T2 T3 a b c a2 b2 c2 : Nat} (h : SI w T1 T2 T3 a b c a2 b2 c2 W) (hb : Below W.heap.size W W') : SI w T1 T2 T3 a b c a2 b2 c2 W' :=
  ⟨blk hb h.h1, blk hb h.h2, blk hb h.h3, h.pow.below hb, h.b.trans (hb.mono h.b.size), h.l2, h.l3⟩
theorem SI.drew {w W : World} {T1 T2 T3 a b c a2 b2 c2 : Nat} (h : SI w T1 T2 T3 a b c a2 b2 c2 W) : SI w T1 T2 T3 a b c a2 b2 c2 W.drew := h.keep (Below.refl _ _).drew
theorem SI.start (w : World) (a b c a2 b2 c2 : Nat) (hP : Pow w) : SI w w.heap.size (w.heap.size + 1) (w.heap.size + 1 + 1) a b c a2 b2 c2 (((w.alloc (.cells #[.int .u64 a, .int .u64 b, .int .u64 c, .string e0, .string e0, .string e0] 33)).alloc (.cells #[.int .u64 0, .int .u64 0, .int .u64 0, .string ⟨#[]⟩, .string ⟨#[]⟩, .string ⟨#[]⟩] 33)).alloc (.cells #[.int .u64 a2, .int .u64 b2, .int .u64 c2, .string ⟨#[]⟩, .string ⟨#[]⟩, .string e0] 33)) := by
  have hb : ∀ (w : World) o, Below w.heap.size w (w.alloc o) := fun w o => (Below.refl _ w).alloc (Nat.le_refl _) _
  have hz : ∀ (w : World) o, (w.alloc o).heap.size = w.heap.size + 1 := fun w o => by simp
  refine ⟨blk (hb _ _) (blk (hb _ _) (heap_alloc_new w _)), blk (hb _ _) ?_, ?_, ((hP.below (hb _ _)).below (hb _ _)).below (hb _ _), (((Below.refl _ w).alloc (Nat.le_refl _) _).alloc (by simp) _).alloc (by simp; omega) _, by omega, by omega⟩
  · have := heap_alloc_new (w.alloc (.cells #[.int .u64 a, .int .u64 b, .int .u64 c, .string e0, .string e0, .string e0] 33)) (.cells #[.int .u64 0, .int .u64 0, .int .u64 0, .string ⟨#[]⟩, .string ⟨#[]⟩, .string ⟨#[]⟩] 33)
    rw [hz] at this; exact this
  · have := heap_alloc_new ((w.alloc (.cells #[.int .u64 a, .int .u64 b, .int .u64 c, .string e0, .string e0, .string e0] 33)).alloc (.cells #[.int .u64 0, .int .u64 0, .int .u64 0, .string ⟨#[]⟩, .string ⟨#[]⟩, .string ⟨#[]⟩] 33)) (.cells #[.int .u64 a2, .int .u64 b2, .int .u64 c2, .string ⟨#[]⟩, .string ⟨#[]⟩, .string e0] 33)
    rw [hz, hz] at this; exact this
set_option maxHeartbeats 4000000 in
theorem tIncPatch (a b c n : Nat) (ha : a < 18446744073709551616) (hb : b < 18446744073709551616) (hc : c < 18446744073709551616) (hn64 : n < 18446744073709551616) (hn : n = c + 1) (w : World) (hP : Pow w) :
    Calls Tryz.prog 15 #[ver a b c e0 e0 e0] w fun e w' => NextV a b n e ∧ Below w.heap.size w w' := by
  have k1 : ((c : Int) == 18446744073709551615) = false := by simp; omega
  have k2 : IntKind.u64.wrap ((c : Int) + 1) = (n : Int) := by rw [u64_small _ (by omega) (by omega)]; omega
  have z1 : (bytesOf (dv a b n).text).size < 100 := by rw [bytesOf_size]; have := dv_len a b n (by omega) (by omega) (by omega); omega
  have HS := Lib.hid (show ∀ w, Pow w → Calls Tryz.prog 14 #[.agg #[.int .u64 (a : Nat), .int .u64 (b : Nat), .int .u64 (n : Nat), .string e0, .string e0, .string e0]] w fun e w' => e = .returned (.string (bytesOf (dv a b n).text)) ∧ Below w.heap.size w w' from fun w h => tString a b n e0 (by omega) (by omega) (by omega) w h)
  clear ha hb hc hn hn64
  have HP := Lib.hid hP
  clear hP
  unfold ver
  go_enter Tryz.func15, Tryz.ntmps15
  generalize (18446744073709551615 : Int) = T at *
  go_upto_region 10 with fail
  have H0 := SI.start w a b c a b n HP.out
  generalize hw0 : ((w.alloc (.cells #[.int .u64 a, .int .u64 b, .int .u64 c, .string e0, .string e0, .string e0] 33)).alloc (.cells #[.int .u64 0, .int .u64 0, .int .u64 0, .string ⟨#[]⟩, .string ⟨#[]⟩, .string ⟨#[]⟩] 33)).alloc (.cells #[.int .u64 (a : Nat), .int .u64 (b : Nat), .int .u64 (n : Nat), .string ⟨#[]⟩, .string ⟨#[]⟩, .string e0] 33) = w0 at *
  clear hw0
  have hne : w.heap.size + 1 ≠ w.heap.size + 1 + 1 := by omega
  generalize w.heap.size + 1 + 1 = T3 at *
  generalize w.heap.size + 1 = T2 at *
  obtain ⟨T1, hT⟩ : ∃ T, w.heap.size = T := ⟨_, rfl⟩
  rw [hT] at H0
  simp only [hT]
  have HT := Lib.hid hT
  clear hT
  refine wp_region_gate 7 (SI w T1 T2 T3 a b c a b n) (by kernel_rfl) ?_
  have H0 := H0.drew
  refine wpAnyG_take (i := 0) (oi := { dst := some 20, op := Op.load 33 (Operand.tmp 1), type := 33, pos := "version.go:404", after := #[], guard := none }) (v := ?_) rfl (by kernel_rfl) (by kernel_rfl) (by kernel_rfl) (by kernel_rfl) (fun _ _ _ h => h) (Or.inl ⟨by rfl, ?_⟩) (by assumption) ?_
  rotate_left
  · intro W hSw
    have s0 := cell_of_row _ _ 0 _ _ _ hSw.h1; have s1 := cell_of_row _ _ 1 _ _ _ hSw.h1; have s2 := cell_of_row _ _ 2 _ _ _ hSw.h1; have s3 := cell_of_row _ _ 3 _ _ _ hSw.h1; have s4 := cell_of_row _ _ 4 _ _ _ hSw.h1; have s5 := cell_of_row _ _ 5 _ _ _ hSw.h1; clear hSw
    go_simp
    try with_reducible rfl
  try simp only [Act.put, List.setIfInBounds_toArray, List.set_cons_zero, List.set_cons_succ]
  refine wpAnyG_take (i := 3) (oi := { dst := some 23, op := Op.load 33 (Operand.tmp 3), type := 33, pos := "version.go:404", after := #[], guard := none }) (v := ?_) rfl (by kernel_rfl) (by kernel_rfl) (by kernel_rfl) (by kernel_rfl) (fun _ _ _ h => h) (Or.inl ⟨by rfl, ?_⟩) (by assumption) ?_
  rotate_left
  · intro W hSw
    have s0 := cell_of_row _ _ 0 _ _ _ hSw.h3; have s1 := cell_of_row _ _ 1 _ _ _ hSw.h3; have s2 := cell_of_row _ _ 2 _ _ _ hSw.h3; have s3 := cell_of_row _ _ 3 _ _ _ hSw.h3; have s4 := cell_of_row _ _ 4 _ _ _ hSw.h3; have s5 := cell_of_row _ _ 5 _ _ _ hSw.h3; clear hSw
    go_simp
    try with_reducible rfl
  try simp only [Act.put, List.setIfInBounds_toArray, List.set_cons_zero, List.set_cons_succ]
  refine wpAnyG_one (i := 1) (o := { dst := some 21, op := Op.call { callee := Callee.value (Operand.func 25), args := #[Operand.tmp 20], argTypes := #[33] }, type := 9, pos := "version.go:404", after := #[{ on := 0, ground := Ground.data }], guard := none }) (by kernel_rfl) rfl (fun K hK => ?_)
  go_simp
  (go_at_call 25; (with_reducible refine (l25 _ _ _ _ _ _).mono ?_); rintro e w1 ⟨rfl, hb⟩; have H1 := H0.keep hb; clear hb)
  refine hK.out _ _ (.inr H1) ?_
  clear hK K
  try simp only [Act.put, List.setIfInBounds_toArray, List.set_cons_zero, List.set_cons_succ]
  refine wpAnyG_take (i := 2) (oi := { dst := some 22, op := Op.binOp BinOp.add 9 (Operand.tmp 21) (Operand.const (Value.string { data := #[] })) 9, type := 9, pos := "version.go:404", after := #[{ on := 1, ground := Ground.data }], guard := none }) (v := .string (e0 ++ e0)) rfl (by kernel_rfl) (by kernel_rfl) (by kernel_rfl) (by kernel_rfl) (fun _ _ _ h => h) (Or.inl ⟨by rfl, ?_⟩) (by assumption) ?_
  · intro W hSw
    clear hSw
    go_simp
  try simp only [Act.put, List.setIfInBounds_toArray, List.set_cons_zero, List.set_cons_succ]
  refine wpAnyG_one (i := 4) (o := { dst := some 24, op := Op.call { callee := Callee.value (Operand.func 14), args := #[Operand.tmp 23], argTypes := #[33] }, type := 9, pos := "version.go:404", after := #[{ on := 3, ground := Ground.data }, { on := 1, ground := Ground.chain }], guard := none }) (by kernel_rfl) rfl (fun K hK => ?_)
  go_simp
  (go_at_call 14; (with_reducible refine (HS.out _ H1.pow).mono ?_); rintro e w2 ⟨rfl, hb⟩; have H2 := H1.keep hb; clear hb)
  refine hK.out _ _ (.inr H2) ?_
  clear hK K
  try simp only [Act.put, List.setIfInBounds_toArray, List.set_cons_zero, List.set_cons_succ]
  refine wpAnyG_take (i := 5) (oi := { dst := some 25, op := Op.binOp BinOp.add 9 (Operand.tmp 22) (Operand.tmp 24) 9, type := 9, pos := "version.go:404", after := #[{ on := 2, ground := Ground.data }, { on := 4, ground := Ground.data }], guard := none }) (v := .string (e0 ++ e0 ++ bytesOf (dv a b n).text)) rfl (by kernel_rfl) (by kernel_rfl) (by kernel_rfl) (by kernel_rfl) (fun _ _ _ h => h) (Or.inl ⟨by rfl, ?_⟩) (by assumption) ?_
  · intro W hSw
    clear hSw
    go_simp
    (try simp only [ByteArray.size_append, e0_size]); omega
  try simp only [Act.put, List.setIfInBounds_toArray, List.set_cons_zero, List.set_cons_succ]
  refine wpAnyG_take (i := 6) (oi := { dst := some 26, op := Op.fieldAddr 33 (Operand.tmp 3) 5, type := 0, pos := "version.go:404", after := #[{ on := 0, ground := Ground.phase }, { on := 1, ground := Ground.phase }, { on := 2, ground := Ground.phase }, { on := 3, ground := Ground.phase }, { on := 4, ground := Ground.phase }, { on := 5, ground := Ground.phase }], guard := none }) (v := ?_) rfl (by kernel_rfl) (by kernel_rfl) (by kernel_rfl) (by kernel_rfl) (fun _ _ _ h => h) (Or.inl ⟨by rfl, ?_⟩) (by assumption) ?_
  rotate_left
  · intro W hSw
    clear hSw
    go_simp
    try with_reducible rfl
  try simp only [Act.put, List.setIfInBounds_toArray, List.set_cons_zero, List.set_cons_succ]
  have c0 : w2.cell? ⟨T3, 0, none⟩ = some (.int .u64 (a : Nat)) := cell_of_row _ _ 0 _ _ _ H2.h3
  have c1 : w2.cell? ⟨T3, 1, none⟩ = some (.int .u64 (b : Nat)) := cell_of_row _ _ 1 _ _ _ H2.h3
  have c2 : w2.cell? ⟨T3, 2, none⟩ = some (.int .u64 (n : Nat)) := cell_of_row _ _ 2 _ _ _ H2.h3
  have c3 : w2.cell? ⟨T3, 3, none⟩ = some (.string e0) := cell_of_row _ _ 3 _ _ _ H2.h3
  have c4 : w2.cell? ⟨T3, 4, none⟩ = some (.string e0) := cell_of_row _ _ 4 _ _ _ H2.h3
  have c5 : w2.cell? ⟨T3, 5, none⟩ = some (.string e0) := cell_of_row _ _ 5 _ _ _ H2.h3
  have d0 : w2.cell? ⟨T2, 0, none⟩ = some (.int .u64 0) := cell_of_row _ _ 0 _ _ _ H2.h2
  have d1 : w2.cell? ⟨T2, 1, none⟩ = some (.int .u64 0) := cell_of_row _ _ 1 _ _ _ H2.h2
  have d2 : w2.cell? ⟨T2, 2, none⟩ = some (.int .u64 0) := cell_of_row _ _ 2 _ _ _ H2.h2
  have d3 : w2.cell? ⟨T2, 3, none⟩ = some (.string e0) := cell_of_row _ _ 3 _ _ _ H2.h2
  have d4 : w2.cell? ⟨T2, 4, none⟩ = some (.string e0) := cell_of_row _ _ 4 _ _ _ H2.h2
  have d5 : w2.cell? ⟨T2, 5, none⟩ = some (.string e0) := cell_of_row _ _ 5 _ _ _ H2.h2
  have fz3 := fun k => frozen_of_row _ _ k _ _ H2.h3
  have fz2 := fun k => frozen_of_row _ _ k _ _ H2.h2
  refine wpAnyG_one (i := 7) (o := { dst := none, op := Op.store 9 (Operand.tmp 26) (Operand.tmp 25), type := 0, pos := "version.go:404", after := #[{ on := 6, ground := Ground.data }, { on := 5, ground := Ground.data }, { on := 4, ground := Ground.chain }, { on := 0, ground := Ground.phase }, { on := 1, ground := Ground.phase }, { on := 2, ground := Ground.phase }, { on := 3, ground := Ground.phase }, { on := 4, ground := Ground.phase }, { on := 5, ground := Ground.phase }], guard := none }) (by kernel_rfl) rfl (fun K hK => ?_)
  go_simp
  refine hK.out _ _ (.inl rfl) ?_
  clear hK K
  try simp only [Act.put, List.setIfInBounds_toArray, List.set_cons_zero, List.set_cons_succ]
  refine wpAnyG_done (by kernel_rfl) ?_ _
  have hne2 : T3 ≠ T2 := Ne.symm hne
  have HZ := Lib.hid H2
  clear H2 H1 H0
  generalize e0 ++ e0 ++ bytesOf (dv a b n).text = oo
  go_wp2
  exact bodyPost_ret (v := ver a b n e0 e0 oo) (by simp [results, Tryz.results15, go_sem, d0, d1, d2, d3, d4, d5, hne, hne2]) rfl ⟨⟨_, rfl⟩, ((((((HZ.out.b.setCell HZ.out.l3 _).setCell HZ.out.l2 _).setCell HZ.out.l2 _).setCell HZ.out.l2 _).setCell HZ.out.l2 _).setCell HZ.out.l2 _).setCell HZ.out.l2 _⟩
set_option maxHeartbeats 4000000 in
theorem tIncMinor (a b c n : Nat) (ha : a < 18446744073709551616) (hb : b < 18446744073709551616) (hc : c < 18446744073709551616) (hn64 : n < 18446744073709551616) (hn : n = b + 1) (w : World) (hP : Pow w) :
    Calls Tryz.prog 17 #[ver a b c e0 e0 e0] w fun e w' => NextV a n 0 e ∧ Below w.heap.size w w' := by
  have k1 : ((b : Int) == 18446744073709551615) = false := by simp; omega
  have k2 : IntKind.u64.wrap ((b : Int) + 1) = (n : Int) := by rw [u64_small _ (by omega) (by omega)]; omega
  have z1 : (bytesOf (dv a n 0).text).size < 100 := by rw [bytesOf_size]; have := dv_len a n 0 (by omega) (by omega) (by omega); omega
  have HS := Lib.hid (show ∀ w, Pow w → Calls Tryz.prog 14 #[.agg #[.int .u64 (a : Nat), .int .u64 (n : Nat), .int .u64 0, .string e0, .string e0, .string e0]] w fun e w' => e = .returned (.string (bytesOf (dv a n 0).text)) ∧ Below w.heap.size w w' from fun w h => tString a n 0 e0 (by omega) (by omega) (by omega) w h)
  clear ha hb hc hn hn64
  have HP := Lib.hid hP
  clear hP
  unfold ver
  go_enter Tryz.func17, Tryz.ntmps17
  generalize (18446744073709551615 : Int) = T at *
  go_upto_region 8 with fail
  have H0 := SI.start w a b c a n 0 HP.out
  generalize hw0 : ((w.alloc (.cells #[.int .u64 a, .int .u64 b, .int .u64 c, .string e0, .string e0, .string e0] 33)).alloc (.cells #[.int .u64 0, .int .u64 0, .int .u64 0, .string ⟨#[]⟩, .string ⟨#[]⟩, .string ⟨#[]⟩] 33)).alloc (.cells #[.int .u64 (a : Nat), .int .u64 (n : Nat), .int .u64 (0 : Nat), .string ⟨#[]⟩, .string ⟨#[]⟩, .string e0] 33) = w0 at *
  clear hw0
  have hne : w.heap.size + 1 ≠ w.heap.size + 1 + 1 := by omega
  generalize w.heap.size + 1 + 1 = T3 at *
  generalize w.heap.size + 1 = T2 at *
  obtain ⟨T1, hT⟩ : ∃ T, w.heap.size = T := ⟨_, rfl⟩
  rw [hT] at H0
  simp only [hT]
  have HT := Lib.hid hT
  clear hT
  refine wp_region_gate 7 (SI w T1 T2 T3 a b c a n 0) (by kernel_rfl) ?_
  have H0 := H0.drew
  refine wpAnyG_take (i := 0) (oi := { dst := some 16, op := Op.load 33 (Operand.tmp 1), type := 33, pos := "version.go:422", after := #[], guard := none }) (v := ?_) rfl (by kernel_rfl) (by kernel_rfl) (by kernel_rfl) (by kernel_rfl) (fun _ _ _ h => h) (Or.inl ⟨by rfl, ?_⟩) (by assumption) ?_
  rotate_left
  · intro W hSw
    have s0 := cell_of_row _ _ 0 _ _ _ hSw.h1; have s1 := cell_of_row _ _ 1 _ _ _ hSw.h1; have s2 := cell_of_row _ _ 2 _ _ _ hSw.h1; have s3 := cell_of_row _ _ 3 _ _ _ hSw.h1; have s4 := cell_of_row _ _ 4 _ _ _ hSw.h1; have s5 := cell_of_row _ _ 5 _ _ _ hSw.h1; clear hSw
    go_simp
    try with_reducible rfl
  try simp only [Act.put, List.setIfInBounds_toArray, List.set_cons_zero, List.set_cons_succ]
  refine wpAnyG_take (i := 3) (oi := { dst := some 19, op := Op.load 33 (Operand.tmp 3), type := 33, pos := "version.go:422", after := #[], guard := none }) (v := ?_) rfl (by kernel_rfl) (by kernel_rfl) (by kernel_rfl) (by kernel_rfl) (fun _ _ _ h => h) (Or.inl ⟨by rfl, ?_⟩) (by assumption) ?_
  rotate_left
  · intro W hSw
    have s0 := cell_of_row _ _ 0 _ _ _ hSw.h3; have s1 := cell_of_row _ _ 1 _ _ _ hSw.h3; have s2 := cell_of_row _ _ 2 _ _ _ hSw.h3; have s3 := cell_of_row _ _ 3 _ _ _ hSw.h3; have s4 := cell_of_row _ _ 4 _ _ _ hSw.h3; have s5 := cell_of_row _ _ 5 _ _ _ hSw.h3; clear hSw
    go_simp
    try with_reducible rfl
  try simp only [Act.put, List.setIfInBounds_toArray, List.set_cons_zero, List.set_cons_succ]
  refine wpAnyG_one (i := 1) (o := { dst := some 17, op := Op.call { callee := Callee.value (Operand.func 25), args := #[Operand.tmp 16], argTypes := #[33] }, type := 9, pos := "version.go:422", after := #[{ on := 0, ground := Ground.data }], guard := none }) (by kernel_rfl) rfl (fun K hK => ?_)
  go_simp
  (go_at_call 25; (with_reducible refine (l25 _ _ _ _ _ _).mono ?_); rintro e w1 ⟨rfl, hb⟩; have H1 := H0.keep hb; clear hb)
  refine hK.out _ _ (.inr H1) ?_
  clear hK K
  try simp only [Act.put, List.setIfInBounds_toArray, List.set_cons_zero, List.set_cons_succ]
  refine wpAnyG_take (i := 2) (oi := { dst := some 18, op := Op.binOp BinOp.add 9 (Operand.tmp 17) (Operand.const (Value.string { data := #[] })) 9, type := 9, pos := "version.go:422", after := #[{ on := 1, ground := Ground.data }], guard := none }) (v := .string (e0 ++ e0)) rfl (by kernel_rfl) (by kernel_rfl) (by kernel_rfl) (by kernel_rfl) (fun _ _ _ h => h) (Or.inl ⟨by rfl, ?_⟩) (by assumption) ?_
  · intro W hSw
    clear hSw
    go_simp
  try simp only [Act.put, List.setIfInBounds_toArray, List.set_cons_zero, List.set_cons_succ]
  refine wpAnyG_one (i := 4) (o := { dst := some 20, op := Op.call { callee := Callee.value (Operand.func 14), args := #[Operand.tmp 19], argTypes := #[33] }, type := 9, pos := "version.go:422", after := #[{ on := 3, ground := Ground.data }, { on := 1, ground := Ground.chain }], guard := none }) (by kernel_rfl) rfl (fun K hK => ?_)
  go_simp
  (go_at_call 14; (with_reducible refine (HS.out _ H1.pow).mono ?_); rintro e w2 ⟨rfl, hb⟩; have H2 := H1.keep hb; clear hb)
  refine hK.out _ _ (.inr H2) ?_
  clear hK K
  try simp only [Act.put, List.setIfInBounds_toArray, List.set_cons_zero, List.set_cons_succ]
  refine wpAnyG_take (i := 5) (oi := { dst := some 21, op := Op.binOp BinOp.add 9 (Operand.tmp 18) (Operand.tmp 20) 9, type := 9, pos := "version.go:422", after := #[{ on := 2, ground := Ground.data }, { on := 4, ground := Ground.data }], guard := none }) (v := .string (e0 ++ e0 ++ bytesOf (dv a n 0).text)) rfl (by kernel_rfl) (by kernel_rfl) (by kernel_rfl) (by kernel_rfl) (fun _ _ _ h => h) (Or.inl ⟨by rfl, ?_⟩) (by assumption) ?_
  · intro W hSw
    clear hSw
    go_simp
    (try simp only [ByteArray.size_append, e0_size]); omega
  try simp only [Act.put, List.setIfInBounds_toArray, List.set_cons_zero, List.set_cons_succ]
  refine wpAnyG_take (i := 6) (oi := { dst := some 22, op := Op.fieldAddr 33 (Operand.tmp 3) 5, type := 0, pos := "version.go:422", after := #[{ on := 0, ground := Ground.phase }, { on := 1, ground := Ground.phase }, { on := 2, ground := Ground.phase }, { on := 3, ground := Ground.phase }, { on := 4, ground := Ground.phase }, { on := 5, ground := Ground.phase }], guard := none }) (v := ?_) rfl (by kernel_rfl) (by kernel_rfl) (by kernel_rfl) (by kernel_rfl) (fun _ _ _ h => h) (Or.inl ⟨by rfl, ?_⟩) (by assumption) ?_
  rotate_left
  · intro W hSw
    clear hSw
    go_simp
    try with_reducible rfl
  try simp only [Act.put, List.setIfInBounds_toArray, List.set_cons_zero, List.set_cons_succ]
  have c0 : w2.cell? ⟨T3, 0, none⟩ = some (.int .u64 (a : Nat)) := cell_of_row _ _ 0 _ _ _ H2.h3
  have c1 : w2.cell? ⟨T3, 1, none⟩ = some (.int .u64 (n : Nat)) := cell_of_row _ _ 1 _ _ _ H2.h3
  have c2 : w2.cell? ⟨T3, 2, none⟩ = some (.int .u64 (0 : Nat)) := cell_of_row _ _ 2 _ _ _ H2.h3
  have c3 : w2.cell? ⟨T3, 3, none⟩ = some (.string e0) := cell_of_row _ _ 3 _ _ _ H2.h3
  have c4 : w2.cell? ⟨T3, 4, none⟩ = some (.string e0) := cell_of_row _ _ 4 _ _ _ H2.h3
  have c5 : w2.cell? ⟨T3, 5, none⟩ = some (.string e0) := cell_of_row _ _ 5 _ _ _ H2.h3
  have d0 : w2.cell? ⟨T2, 0, none⟩ = some (.int .u64 0) := cell_of_row _ _ 0 _ _ _ H2.h2
  have d1 : w2.cell? ⟨T2, 1, none⟩ = some (.int .u64 0) := cell_of_row _ _ 1 _ _ _ H2.h2
  have d2 : w2.cell? ⟨T2, 2, none⟩ = some (.int .u64 0) := cell_of_row _ _ 2 _ _ _ H2.h2
  have d3 : w2.cell? ⟨T2, 3, none⟩ = some (.string e0) := cell_of_row _ _ 3 _ _ _ H2.h2
  have d4 : w2.cell? ⟨T2, 4, none⟩ = some (.string e0) := cell_of_row _ _ 4 _ _ _ H2.h2
  have d5 : w2.cell? ⟨T2, 5, none⟩ = some (.string e0) := cell_of_row _ _ 5 _ _ _ H2.h2
  have fz3 := fun k => frozen_of_row _ _ k _ _ H2.h3
  have fz2 := fun k => frozen_of_row _ _ k _ _ H2.h2
  refine wpAnyG_one (i := 7) (o := { dst := none, op := Op.store 9 (Operand.tmp 22) (Operand.tmp 21), type := 0, pos := "version.go:422", after := #[{ on := 6, ground := Ground.data }, { on := 5, ground := Ground.data }, { on := 4, ground := Ground.chain }, { on := 0, ground := Ground.phase }, { on := 1, ground := Ground.phase }, { on := 2, ground := Ground.phase }, { on := 3, ground := Ground.phase }, { on := 4, ground := Ground.phase }, { on := 5, ground := Ground.phase }], guard := none }) (by kernel_rfl) rfl (fun K hK => ?_)
  go_simp
  refine hK.out _ _ (.inl rfl) ?_
  clear hK K
  try simp only [Act.put, List.setIfInBounds_toArray, List.set_cons_zero, List.set_cons_succ]
  refine wpAnyG_done (by kernel_rfl) ?_ _
  have hne2 : T3 ≠ T2 := Ne.symm hne
  have HZ := Lib.hid H2
  clear H2 H1 H0
  generalize e0 ++ e0 ++ bytesOf (dv a n 0).text = oo
  go_wp2
  exact bodyPost_ret (v := ver a n 0 e0 e0 oo) (by simp [results, Tryz.results17, go_sem, d0, d1, d2, d3, d4, d5, hne, hne2]) rfl ⟨⟨_, rfl⟩, ((((((HZ.out.b.setCell HZ.out.l3 _).setCell HZ.out.l2 _).setCell HZ.out.l2 _).setCell HZ.out.l2 _).setCell HZ.out.l2 _).setCell HZ.out.l2 _).setCell HZ.out.l2 _⟩
set_option maxHeartbeats 4000000 in
theorem tIncMajor (a b c n : Nat) (ha : a < 18446744073709551616) (hb : b < 18446744073709551616) (hc : c < 18446744073709551616) (hn64 : n < 18446744073709551616) (hn : n = a + 1) (w : World) (hP : Pow w) :
    Calls Tryz.prog 18 #[ver a b c e0 e0 e0] w fun e w' => NextV n 0 0 e ∧ Below w.heap.size w w' := by
  have k1 : ((a : Int) == 18446744073709551615) = false := by simp; omega
  have k2 : IntKind.u64.wrap ((a : Int) + 1) = (n : Int) := by rw [u64_small _ (by omega) (by omega)]; omega
  have z1 : (bytesOf (dv n 0 0).text).size < 100 := by rw [bytesOf_size]; have := dv_len n 0 0 (by omega) (by omega) (by omega); omega
  have HS := Lib.hid (show ∀ w, Pow w → Calls Tryz.prog 14 #[.agg #[.int .u64 (n : Nat), .int .u64 0, .int .u64 0, .string e0, .string e0, .string e0]] w fun e w' => e = .returned (.string (bytesOf (dv n 0 0).text)) ∧ Below w.heap.size w w' from fun w h => tString n 0 0 e0 (by omega) (by omega) (by omega) w h)
  clear ha hb hc hn hn64
  have HP := Lib.hid hP
  clear hP
  unfold ver
  go_enter Tryz.func18, Tryz.ntmps18
  generalize (18446744073709551615 : Int) = T at *
  go_upto_region 9 with fail
  have H0 := SI.start w a b c n 0 0 HP.out
  generalize hw0 : ((w.alloc (.cells #[.int .u64 a, .int .u64 b, .int .u64 c, .string e0, .string e0, .string e0] 33)).alloc (.cells #[.int .u64 0, .int .u64 0, .int .u64 0, .string ⟨#[]⟩, .string ⟨#[]⟩, .string ⟨#[]⟩] 33)).alloc (.cells #[.int .u64 (n : Nat), .int .u64 (0 : Nat), .int .u64 (0 : Nat), .string ⟨#[]⟩, .string ⟨#[]⟩, .string e0] 33) = w0 at *
  clear hw0
  have hne : w.heap.size + 1 ≠ w.heap.size + 1 + 1 := by omega
  generalize w.heap.size + 1 + 1 = T3 at *
  generalize w.heap.size + 1 = T2 at *
  obtain ⟨T1, hT⟩ : ∃ T, w.heap.size = T := ⟨_, rfl⟩
  rw [hT] at H0
  simp only [hT]
  have HT := Lib.hid hT
  clear hT
  refine wp_region_gate 7 (SI w T1 T2 T3 a b c n 0 0) (by kernel_rfl) ?_
  have H0 := H0.drew
  refine wpAnyG_take (i := 0) (oi := { dst := some 17, op := Op.load 33 (Operand.tmp 1), type := 33, pos := "version.go:442", after := #[], guard := none }) (v := ?_) rfl (by kernel_rfl) (by kernel_rfl) (by kernel_rfl) (by kernel_rfl) (fun _ _ _ h => h) (Or.inl ⟨by rfl, ?_⟩) (by assumption) ?_
  rotate_left
  · intro W hSw
    have s0 := cell_of_row _ _ 0 _ _ _ hSw.h1; have s1 := cell_of_row _ _ 1 _ _ _ hSw.h1; have s2 := cell_of_row _ _ 2 _ _ _ hSw.h1; have s3 := cell_of_row _ _ 3 _ _ _ hSw.h1; have s4 := cell_of_row _ _ 4 _ _ _ hSw.h1; have s5 := cell_of_row _ _ 5 _ _ _ hSw.h1; clear hSw
    go_simp
    try with_reducible rfl
  try simp only [Act.put, List.setIfInBounds_toArray, List.set_cons_zero, List.set_cons_succ]
  refine wpAnyG_take (i := 3) (oi := { dst := some 20, op := Op.load 33 (Operand.tmp 3), type := 33, pos := "version.go:442", after := #[], guard := none }) (v := ?_) rfl (by kernel_rfl) (by kernel_rfl) (by kernel_rfl) (by kernel_rfl) (fun _ _ _ h => h) (Or.inl ⟨by rfl, ?_⟩) (by assumption) ?_
  rotate_left
  · intro W hSw
    have s0 := cell_of_row _ _ 0 _ _ _ hSw.h3; have s1 := cell_of_row _ _ 1 _ _ _ hSw.h3; have s2 := cell_of_row _ _ 2 _ _ _ hSw.h3; have s3 := cell_of_row _ _ 3 _ _ _ hSw.h3; have s4 := cell_of_row _ _ 4 _ _ _ hSw.h3; have s5 := cell_of_row _ _ 5 _ _ _ hSw.h3; clear hSw
    go_simp
    try with_reducible rfl
  try simp only [Act.put, List.setIfInBounds_toArray, List.set_cons_zero, List.set_cons_succ]
  refine wpAnyG_one (i := 1) (o := { dst := some 18, op := Op.call { callee := Callee.value (Operand.func 25), args := #[Operand.tmp 17], argTypes := #[33] }, type := 9, pos := "version.go:442", after := #[{ on := 0, ground := Ground.data }], guard := none }) (by kernel_rfl) rfl (fun K hK => ?_)
  go_simp
  (go_at_call 25; (with_reducible refine (l25 _ _ _ _ _ _).mono ?_); rintro e w1 ⟨rfl, hb⟩; have H1 := H0.keep hb; clear hb)
  refine hK.out _ _ (.inr H1) ?_
  clear hK K
  try simp only [Act.put, List.setIfInBounds_toArray, List.set_cons_zero, List.set_cons_succ]
  refine wpAnyG_take (i := 2) (oi := { dst := some 19, op := Op.binOp BinOp.add 9 (Operand.tmp 18) (Operand.const (Value.string { data := #[] })) 9, type := 9, pos := "version.go:442", after := #[{ on := 1, ground := Ground.data }], guard := none }) (v := .string (e0 ++ e0)) rfl (by kernel_rfl) (by kernel_rfl) (by kernel_rfl) (by kernel_rfl) (fun _ _ _ h => h) (Or.inl ⟨by rfl, ?_⟩) (by assumption) ?_
  · intro W hSw
    clear hSw
    go_simp
  try simp only [Act.put, List.setIfInBounds_toArray, List.set_cons_zero, List.set_cons_succ]
  refine wpAnyG_one (i := 4) (o := { dst := some 21, op := Op.call { callee := Callee.value (Operand.func 14), args := #[Operand.tmp 20], argTypes := #[33] }, type := 9, pos := "version.go:442", after := #[{ on := 3, ground := Ground.data }, { on := 1, ground := Ground.chain }], guard := none }) (by kernel_rfl) rfl (fun K hK => ?_)
  go_simp
  (go_at_call 14; (with_reducible refine (HS.out _ H1.pow).mono ?_); rintro e w2 ⟨rfl, hb⟩; have H2 := H1.keep hb; clear hb)
  refine hK.out _ _ (.inr H2) ?_
  clear hK K
  try simp only [Act.put, List.setIfInBounds_toArray, List.set_cons_zero, List.set_cons_succ]
  refine wpAnyG_take (i := 5) (oi := { dst := some 22, op := Op.binOp BinOp.add 9 (Operand.tmp 19) (Operand.tmp 21) 9, type := 9, pos := "version.go:442", after := #[{ on := 2, ground := Ground.data }, { on := 4, ground := Ground.data }], guard := none }) (v := .string (e0 ++ e0 ++ bytesOf (dv n 0 0).text)) rfl (by kernel_rfl) (by kernel_rfl) (by kernel_rfl) (by kernel_rfl) (fun _ _ _ h => h) (Or.inl ⟨by rfl, ?_⟩) (by assumption) ?_
  · intro W hSw
    clear hSw
    go_simp
    (try simp only [ByteArray.size_append, e0_size]); omega
  try simp only [Act.put, List.setIfInBounds_toArray, List.set_cons_zero, List.set_cons_succ]
  refine wpAnyG_take (i := 6) (oi := { dst := some 23, op := Op.fieldAddr 33 (Operand.tmp 3) 5, type := 0, pos := "version.go:442", after := #[{ on := 0, ground := Ground.phase }, { on := 1, ground := Ground.phase }, { on := 2, ground := Ground.phase }, { on := 3, ground := Ground.phase }, { on := 4, ground := Ground.phase }, { on := 5, ground := Ground.phase }], guard := none }) (v := ?_) rfl (by kernel_rfl) (by kernel_rfl) (by kernel_rfl) (by kernel_rfl) (fun _ _ _ h => h) (Or.inl ⟨by rfl, ?_⟩) (by assumption) ?_
  rotate_left
  · intro W hSw
    clear hSw
    go_simp
    try with_reducible rfl
  try simp only [Act.put, List.setIfInBounds_toArray, List.set_cons_zero, List.set_cons_succ]
  have c0 : w2.cell? ⟨T3, 0, none⟩ = some (.int .u64 (n : Nat)) := cell_of_row _ _ 0 _ _ _ H2.h3
  have c1 : w2.cell? ⟨T3, 1, none⟩ = some (.int .u64 (0 : Nat)) := cell_of_row _ _ 1 _ _ _ H2.h3
  have c2 : w2.cell? ⟨T3, 2, none⟩ = some (.int .u64 (0 : Nat)) := cell_of_row _ _ 2 _ _ _ H2.h3
  have c3 : w2.cell? ⟨T3, 3, none⟩ = some (.string e0) := cell_of_row _ _ 3 _ _ _ H2.h3
  have c4 : w2.cell? ⟨T3, 4, none⟩ = some (.string e0) := cell_of_row _ _ 4 _ _ _ H2.h3
  have c5 : w2.cell? ⟨T3, 5, none⟩ = some (.string e0) := cell_of_row _ _ 5 _ _ _ H2.h3
  have d0 : w2.cell? ⟨T2, 0, none⟩ = some (.int .u64 0) := cell_of_row _ _ 0 _ _ _ H2.h2
  have d1 : w2.cell? ⟨T2, 1, none⟩ = some (.int .u64 0) := cell_of_row _ _ 1 _ _ _ H2.h2
  have d2 : w2.cell? ⟨T2, 2, none⟩ = some (.int .u64 0) := cell_of_row _ _ 2 _ _ _ H2.h2
  have d3 : w2.cell? ⟨T2, 3, none⟩ = some (.string e0) := cell_of_row _ _ 3 _ _ _ H2.h2
  have d4 : w2.cell? ⟨T2, 4, none⟩ = some (.string e0) := cell_of_row _ _ 4 _ _ _ H2.h2
  have d5 : w2.cell? ⟨T2, 5, none⟩ = some (.string e0) := cell_of_row _ _ 5 _ _ _ H2.h2
  have fz3 := fun k => frozen_of_row _ _ k _ _ H2.h3
  have fz2 := fun k => frozen_of_row _ _ k _ _ H2.h2
  refine wpAnyG_one (i := 7) (o := { dst := none, op := Op.store 9 (Operand.tmp 23) (Operand.tmp 22), type := 0, pos := "version.go:442", after := #[{ on := 6, ground := Ground.data }, { on := 5, ground := Ground.data }, { on := 4, ground := Ground.chain }, { on := 0, ground := Ground.phase }, { on := 1, ground := Ground.phase }, { on := 2, ground := Ground.phase }, { on := 3, ground := Ground.phase }, { on := 4, ground := Ground.phase }, { on := 5, ground := Ground.phase }], guard := none }) (by kernel_rfl) rfl (fun K hK => ?_)
  go_simp
  refine hK.out _ _ (.inl rfl) ?_
  clear hK K
  try simp only [Act.put, List.setIfInBounds_toArray, List.set_cons_zero, List.set_cons_succ]
  refine wpAnyG_done (by kernel_rfl) ?_ _
  have hne2 : T3 ≠ T2 := Ne.symm hne
  have HZ := Lib.hid H2
  clear H2 H1 H0
  generalize e0 ++ e0 ++ bytesOf (dv n 0 0).text = oo
  go_wp2
  exact bodyPost_ret (v := ver n 0 0 e0 e0 oo) (by simp [results, Tryz.results18, go_sem, d0, d1, d2, d3, d4, d5, hne, hne2]) rfl ⟨⟨_, rfl⟩, ((((((HZ.out.b.setCell HZ.out.l3 _).setCell HZ.out.l2 _).setCell HZ.out.l2 _).setCell HZ.out.l2 _).setCell HZ.out.l2 _).setCell HZ.out.l2 _).setCell HZ.out.l2 _⟩
end Go.Proofs.YtflcanlniddgoaaGreatDoor.Sv
end
section
set_option linter.unusedVariables false
set_option linter.unusedSimpArgs false
/- the thin package's versions -/
namespace Go.Proofs.YtflcanlniddgoaaGreatDoor.Sv
open Go Go.RowKit Rx
set_option maxRecDepth 100000
structure SP (w : World) (V T2 a b c : Nat) (o : ByteArray) (W : World) : Prop where
  h1 : W.heap[V]? = some (.cells #[.int .u64 a, .int .u64 b, .int .u64 c, .string e0, .string e0, .string o] 33 (0, 0))
  h2 : W.heap[T2]? = some (.cells #[.int .u64 0, .int .u64 0, .int .u64 0, .string e0, .string e0] 24 (0, 0))
  b : Below w.heap.size w W
  l2 : w.heap.size ≤ T2
theorem SP.keep {w W W' : World} {V T2 a b c : Nat} {o : ByteArray} (h : SP w V T2 a b c o W) (hb : Below W.heap.size W W') : SP w V T2 a b c o W' :=
  ⟨blk hb h.h1, blk hb h.h2, h.b.trans (hb.mono h.b.size), h.l2⟩
set_option maxHeartbeats 4000000 in
theorem tPlainV (V a b c : Nat) (o : ByteArray) (w : World) (hV : w.heap[V]? = some (.cells #[.int .u64 a, .int .u64 b, .int .u64 c, .string e0, .string e0, .string o] 33 (0, 0))) :
    Calls Tryz.prog 16 #[.pointer (some ⟨V, 0, none⟩)] w fun e w' => e = .returned (iv a b c e0 e0) ∧ Below w.heap.size w w' := by
  have HV := Lib.hid hV
  clear hV
  go_enter Tryz.func16, Tryz.ntmps16
  go_upto_region 1 with fail
  have H0 : SP w V w.heap.size a b c o (w.alloc (.cells #[.int .u64 0, .int .u64 0, .int .u64 0, .string ⟨#[]⟩, .string ⟨#[]⟩] 24)) := ⟨blk ((Below.refl _ w).alloc (Nat.le_refl _) _) HV.out, heap_alloc_new w _, (Below.refl _ w).alloc (Nat.le_refl _) _, Nat.le_refl _⟩
  generalize w.alloc (.cells #[.int .u64 0, .int .u64 0, .int .u64 0, .string ⟨#[]⟩, .string ⟨#[]⟩] 24) = w0 at *
  obtain ⟨T2, hT⟩ : ∃ T, w.heap.size = T := ⟨_, rfl⟩
  rw [hT] at H0
  simp only [hT]
  have HT := Lib.hid hT
  clear hT
  refine wp_region_gate 21 (SP w V T2 a b c o) (by kernel_rfl) ?_
  have H0 := H0.keep (Below.refl _ _).drew
  refine wpAnyG_take (i := 0) (oi := { dst := some 3, op := Op.move (Operand.tmp 0), type := 29, pos := "semver.go:15", after := #[], guard := none }) (v := ?_) rfl (by kernel_rfl) (by kernel_rfl) (by kernel_rfl) (by kernel_rfl) (fun _ _ _ h => h) (Or.inl ⟨by rfl, ?_⟩) (by assumption) ?_
  rotate_left
  · intro W hSw
    clear hSw
    go_simp
    try with_reducible rfl
  try simp only [Act.put, List.setIfInBounds_toArray, List.set_cons_zero, List.set_cons_succ]
  refine wpAnyG_take (i := 1) (oi := { dst := some 4, op := Op.nilCheck (Operand.tmp 3), type := 0, pos := "semver.go:15", after := #[{ on := 0, ground := Ground.data }], guard := none }) (v := ?_) rfl (by kernel_rfl) (by kernel_rfl) (by kernel_rfl) (by kernel_rfl) (fun _ _ _ h => h) (Or.inl ⟨by rfl, ?_⟩) (by assumption) ?_
  rotate_left
  · intro W hSw
    clear hSw
    go_simp
    try with_reducible rfl
  try simp only [Act.put, List.setIfInBounds_toArray, List.set_cons_zero, List.set_cons_succ]
  refine wpAnyG_take (i := 4) (oi := { dst := some 7, op := Op.move (Operand.tmp 0), type := 29, pos := "semver.go:15", after := #[], guard := none }) (v := ?_) rfl (by kernel_rfl) (by kernel_rfl) (by kernel_rfl) (by kernel_rfl) (fun _ _ _ h => h) (Or.inl ⟨by rfl, ?_⟩) (by assumption) ?_
  rotate_left
  · intro W hSw
    clear hSw
    go_simp
    try with_reducible rfl
  try simp only [Act.put, List.setIfInBounds_toArray, List.set_cons_zero, List.set_cons_succ]
  refine wpAnyG_take (i := 5) (oi := { dst := some 8, op := Op.nilCheck (Operand.tmp 7), type := 0, pos := "semver.go:15", after := #[{ on := 4, ground := Ground.data }], guard := none }) (v := ?_) rfl (by kernel_rfl) (by kernel_rfl) (by kernel_rfl) (by kernel_rfl) (fun _ _ _ h => h) (Or.inl ⟨by rfl, ?_⟩) (by assumption) ?_
  rotate_left
  · intro W hSw
    clear hSw
    go_simp
    try with_reducible rfl
  try simp only [Act.put, List.setIfInBounds_toArray, List.set_cons_zero, List.set_cons_succ]
  refine wpAnyG_take (i := 8) (oi := { dst := some 11, op := Op.move (Operand.tmp 0), type := 29, pos := "semver.go:15", after := #[], guard := none }) (v := ?_) rfl (by kernel_rfl) (by kernel_rfl) (by kernel_rfl) (by kernel_rfl) (fun _ _ _ h => h) (Or.inl ⟨by rfl, ?_⟩) (by assumption) ?_
  rotate_left
  · intro W hSw
    clear hSw
    go_simp
    try with_reducible rfl
  try simp only [Act.put, List.setIfInBounds_toArray, List.set_cons_zero, List.set_cons_succ]
  refine wpAnyG_take (i := 9) (oi := { dst := some 12, op := Op.nilCheck (Operand.tmp 11), type := 0, pos := "semver.go:15", after := #[{ on := 8, ground := Ground.data }], guard := none }) (v := ?_) rfl (by kernel_rfl) (by kernel_rfl) (by kernel_rfl) (by kernel_rfl) (fun _ _ _ h => h) (Or.inl ⟨by rfl, ?_⟩) (by assumption) ?_
  rotate_left
  · intro W hSw
    clear hSw
    go_simp
    try with_reducible rfl
  try simp only [Act.put, List.setIfInBounds_toArray, List.set_cons_zero, List.set_cons_succ]
  refine wpAnyG_take (i := 12) (oi := { dst := some 15, op := Op.move (Operand.tmp 0), type := 29, pos := "semver.go:15", after := #[], guard := none }) (v := ?_) rfl (by kernel_rfl) (by kernel_rfl) (by kernel_rfl) (by kernel_rfl) (fun _ _ _ h => h) (Or.inl ⟨by rfl, ?_⟩) (by assumption) ?_
  rotate_left
  · intro W hSw
    clear hSw
    go_simp
    try with_reducible rfl
  try simp only [Act.put, List.setIfInBounds_toArray, List.set_cons_zero, List.set_cons_succ]
  refine wpAnyG_take (i := 13) (oi := { dst := some 16, op := Op.nilCheck (Operand.tmp 15), type := 0, pos := "semver.go:15", after := #[{ on := 12, ground := Ground.data }], guard := none }) (v := ?_) rfl (by kernel_rfl) (by kernel_rfl) (by kernel_rfl) (by kernel_rfl) (fun _ _ _ h => h) (Or.inl ⟨by rfl, ?_⟩) (by assumption) ?_
  rotate_left
  · intro W hSw
    clear hSw
    go_simp
    try with_reducible rfl
  try simp only [Act.put, List.setIfInBounds_toArray, List.set_cons_zero, List.set_cons_succ]
  refine wpAnyG_take (i := 16) (oi := { dst := some 19, op := Op.move (Operand.tmp 0), type := 29, pos := "semver.go:15", after := #[], guard := none }) (v := ?_) rfl (by kernel_rfl) (by kernel_rfl) (by kernel_rfl) (by kernel_rfl) (fun _ _ _ h => h) (Or.inl ⟨by rfl, ?_⟩) (by assumption) ?_
  rotate_left
  · intro W hSw
    clear hSw
    go_simp
    try with_reducible rfl
  try simp only [Act.put, List.setIfInBounds_toArray, List.set_cons_zero, List.set_cons_succ]
  refine wpAnyG_take (i := 17) (oi := { dst := some 20, op := Op.nilCheck (Operand.tmp 19), type := 0, pos := "semver.go:15", after := #[{ on := 16, ground := Ground.data }], guard := none }) (v := ?_) rfl (by kernel_rfl) (by kernel_rfl) (by kernel_rfl) (by kernel_rfl) (fun _ _ _ h => h) (Or.inl ⟨by rfl, ?_⟩) (by assumption) ?_
  rotate_left
  · intro W hSw
    clear hSw
    go_simp
    try with_reducible rfl
  try simp only [Act.put, List.setIfInBounds_toArray, List.set_cons_zero, List.set_cons_succ]
  refine wpAnyG_take (i := 2) (oi := { dst := some 5, op := Op.load 33 (Operand.tmp 4), type := 33, pos := "semver.go:15", after := #[{ on := 1, ground := Ground.data }], guard := none }) (v := ?_) rfl (by kernel_rfl) (by kernel_rfl) (by kernel_rfl) (by kernel_rfl) (fun _ _ _ h => h) (Or.inl ⟨by rfl, ?_⟩) (by assumption) ?_
  rotate_left
  · intro W hSw
    have s0 : W.cell? ⟨V, 0, none⟩ = some (.int .u64 a) := cell_of_row _ _ 0 _ _ _ hSw.h1; have s1 : W.cell? ⟨V, 1, none⟩ = some (.int .u64 b) := cell_of_row _ _ 1 _ _ _ hSw.h1; have s2 : W.cell? ⟨V, 2, none⟩ = some (.int .u64 c) := cell_of_row _ _ 2 _ _ _ hSw.h1; have s3 : W.cell? ⟨V, 3, none⟩ = some (.string e0) := cell_of_row _ _ 3 _ _ _ hSw.h1; have s4 : W.cell? ⟨V, 4, none⟩ = some (.string e0) := cell_of_row _ _ 4 _ _ _ hSw.h1; have s5 : W.cell? ⟨V, 5, none⟩ = some (.string o) := cell_of_row _ _ 5 _ _ _ hSw.h1; clear hSw
    go_simp
    try with_reducible rfl
  try simp only [Act.put, List.setIfInBounds_toArray, List.set_cons_zero, List.set_cons_succ]
  refine wpAnyG_take (i := 6) (oi := { dst := some 9, op := Op.load 33 (Operand.tmp 8), type := 33, pos := "semver.go:15", after := #[{ on := 5, ground := Ground.data }], guard := none }) (v := ?_) rfl (by kernel_rfl) (by kernel_rfl) (by kernel_rfl) (by kernel_rfl) (fun _ _ _ h => h) (Or.inl ⟨by rfl, ?_⟩) (by assumption) ?_
  rotate_left
  · intro W hSw
    have s0 : W.cell? ⟨V, 0, none⟩ = some (.int .u64 a) := cell_of_row _ _ 0 _ _ _ hSw.h1; have s1 : W.cell? ⟨V, 1, none⟩ = some (.int .u64 b) := cell_of_row _ _ 1 _ _ _ hSw.h1; have s2 : W.cell? ⟨V, 2, none⟩ = some (.int .u64 c) := cell_of_row _ _ 2 _ _ _ hSw.h1; have s3 : W.cell? ⟨V, 3, none⟩ = some (.string e0) := cell_of_row _ _ 3 _ _ _ hSw.h1; have s4 : W.cell? ⟨V, 4, none⟩ = some (.string e0) := cell_of_row _ _ 4 _ _ _ hSw.h1; have s5 : W.cell? ⟨V, 5, none⟩ = some (.string o) := cell_of_row _ _ 5 _ _ _ hSw.h1; clear hSw
    go_simp
    try with_reducible rfl
  try simp only [Act.put, List.setIfInBounds_toArray, List.set_cons_zero, List.set_cons_succ]
  refine wpAnyG_take (i := 10) (oi := { dst := some 13, op := Op.load 33 (Operand.tmp 12), type := 33, pos := "semver.go:15", after := #[{ on := 9, ground := Ground.data }], guard := none }) (v := ?_) rfl (by kernel_rfl) (by kernel_rfl) (by kernel_rfl) (by kernel_rfl) (fun _ _ _ h => h) (Or.inl ⟨by rfl, ?_⟩) (by assumption) ?_
  rotate_left
  · intro W hSw
    have s0 : W.cell? ⟨V, 0, none⟩ = some (.int .u64 a) := cell_of_row _ _ 0 _ _ _ hSw.h1; have s1 : W.cell? ⟨V, 1, none⟩ = some (.int .u64 b) := cell_of_row _ _ 1 _ _ _ hSw.h1; have s2 : W.cell? ⟨V, 2, none⟩ = some (.int .u64 c) := cell_of_row _ _ 2 _ _ _ hSw.h1; have s3 : W.cell? ⟨V, 3, none⟩ = some (.string e0) := cell_of_row _ _ 3 _ _ _ hSw.h1; have s4 : W.cell? ⟨V, 4, none⟩ = some (.string e0) := cell_of_row _ _ 4 _ _ _ hSw.h1; have s5 : W.cell? ⟨V, 5, none⟩ = some (.string o) := cell_of_row _ _ 5 _ _ _ hSw.h1; clear hSw
    go_simp
    try with_reducible rfl
  try simp only [Act.put, List.setIfInBounds_toArray, List.set_cons_zero, List.set_cons_succ]
  refine wpAnyG_take (i := 14) (oi := { dst := some 17, op := Op.load 33 (Operand.tmp 16), type := 33, pos := "semver.go:15", after := #[{ on := 13, ground := Ground.data }], guard := none }) (v := ?_) rfl (by kernel_rfl) (by kernel_rfl) (by kernel_rfl) (by kernel_rfl) (fun _ _ _ h => h) (Or.inl ⟨by rfl, ?_⟩) (by assumption) ?_
  rotate_left
  · intro W hSw
    have s0 : W.cell? ⟨V, 0, none⟩ = some (.int .u64 a) := cell_of_row _ _ 0 _ _ _ hSw.h1; have s1 : W.cell? ⟨V, 1, none⟩ = some (.int .u64 b) := cell_of_row _ _ 1 _ _ _ hSw.h1; have s2 : W.cell? ⟨V, 2, none⟩ = some (.int .u64 c) := cell_of_row _ _ 2 _ _ _ hSw.h1; have s3 : W.cell? ⟨V, 3, none⟩ = some (.string e0) := cell_of_row _ _ 3 _ _ _ hSw.h1; have s4 : W.cell? ⟨V, 4, none⟩ = some (.string e0) := cell_of_row _ _ 4 _ _ _ hSw.h1; have s5 : W.cell? ⟨V, 5, none⟩ = some (.string o) := cell_of_row _ _ 5 _ _ _ hSw.h1; clear hSw
    go_simp
    try with_reducible rfl
  try simp only [Act.put, List.setIfInBounds_toArray, List.set_cons_zero, List.set_cons_succ]
  refine wpAnyG_take (i := 18) (oi := { dst := some 21, op := Op.load 33 (Operand.tmp 20), type := 33, pos := "semver.go:15", after := #[{ on := 17, ground := Ground.data }], guard := none }) (v := ?_) rfl (by kernel_rfl) (by kernel_rfl) (by kernel_rfl) (by kernel_rfl) (fun _ _ _ h => h) (Or.inl ⟨by rfl, ?_⟩) (by assumption) ?_
  rotate_left
  · intro W hSw
    have s0 : W.cell? ⟨V, 0, none⟩ = some (.int .u64 a) := cell_of_row _ _ 0 _ _ _ hSw.h1; have s1 : W.cell? ⟨V, 1, none⟩ = some (.int .u64 b) := cell_of_row _ _ 1 _ _ _ hSw.h1; have s2 : W.cell? ⟨V, 2, none⟩ = some (.int .u64 c) := cell_of_row _ _ 2 _ _ _ hSw.h1; have s3 : W.cell? ⟨V, 3, none⟩ = some (.string e0) := cell_of_row _ _ 3 _ _ _ hSw.h1; have s4 : W.cell? ⟨V, 4, none⟩ = some (.string e0) := cell_of_row _ _ 4 _ _ _ hSw.h1; have s5 : W.cell? ⟨V, 5, none⟩ = some (.string o) := cell_of_row _ _ 5 _ _ _ hSw.h1; clear hSw
    go_simp
    try with_reducible rfl
  try simp only [Act.put, List.setIfInBounds_toArray, List.set_cons_zero, List.set_cons_succ]
  refine wpAnyG_one (i := 3) (o := { dst := some 6, op := Op.call { callee := Callee.value (Operand.func 26), args := #[Operand.tmp 5], argTypes := #[29] }, type := 22, pos := "semver.go:15", after := #[{ on := 2, ground := Ground.data }], guard := none }) (by kernel_rfl) rfl (fun K hK => ?_)
  go_simp
  (go_at_call 26; (with_reducible refine (tMajor _ _ _ _ _ _ _).mono ?_); rintro e w1 ⟨rfl, hb⟩; have H1 := H0.keep hb; clear hb)
  refine hK.out _ _ (.inr H1) ?_
  clear hK K
  try simp only [Act.put, List.setIfInBounds_toArray, List.set_cons_zero, List.set_cons_succ]
  refine wpAnyG_one (i := 7) (o := { dst := some 10, op := Op.call { callee := Callee.value (Operand.func 27), args := #[Operand.tmp 9], argTypes := #[29] }, type := 22, pos := "semver.go:15", after := #[{ on := 6, ground := Ground.data }, { on := 3, ground := Ground.chain }], guard := none }) (by kernel_rfl) rfl (fun K hK => ?_)
  go_simp
  (go_at_call 27; (with_reducible refine (tMinor _ _ _ _ _ _ _).mono ?_); rintro e w2 ⟨rfl, hb⟩; have H2 := H1.keep hb; clear hb)
  refine hK.out _ _ (.inr H2) ?_
  clear hK K
  try simp only [Act.put, List.setIfInBounds_toArray, List.set_cons_zero, List.set_cons_succ]
  refine wpAnyG_one (i := 11) (o := { dst := some 14, op := Op.call { callee := Callee.value (Operand.func 28), args := #[Operand.tmp 13], argTypes := #[29] }, type := 22, pos := "semver.go:15", after := #[{ on := 10, ground := Ground.data }, { on := 7, ground := Ground.chain }], guard := none }) (by kernel_rfl) rfl (fun K hK => ?_)
  go_simp
  (go_at_call 28; (with_reducible refine (tPatch _ _ _ _ _ _ _).mono ?_); rintro e w3 ⟨rfl, hb⟩; have H3 := H2.keep hb; clear hb)
  refine hK.out _ _ (.inr H3) ?_
  clear hK K
  try simp only [Act.put, List.setIfInBounds_toArray, List.set_cons_zero, List.set_cons_succ]
  refine wpAnyG_one (i := 15) (o := { dst := some 18, op := Op.call { callee := Callee.value (Operand.func 29), args := #[Operand.tmp 17], argTypes := #[29] }, type := 9, pos := "semver.go:15", after := #[{ on := 14, ground := Ground.data }, { on := 11, ground := Ground.chain }], guard := none }) (by kernel_rfl) rfl (fun K hK => ?_)
  go_simp
  (go_at_call 29; (with_reducible refine (tPrere _ _ _ _ _ _ _).mono ?_); rintro e w4 ⟨rfl, hb⟩; have H4 := H3.keep hb; clear hb)
  refine hK.out _ _ (.inr H4) ?_
  clear hK K
  try simp only [Act.put, List.setIfInBounds_toArray, List.set_cons_zero, List.set_cons_succ]
  refine wpAnyG_one (i := 19) (o := { dst := some 22, op := Op.call { callee := Callee.value (Operand.func 30), args := #[Operand.tmp 21], argTypes := #[29] }, type := 9, pos := "semver.go:15", after := #[{ on := 18, ground := Ground.data }, { on := 15, ground := Ground.chain }], guard := none }) (by kernel_rfl) rfl (fun K hK => ?_)
  go_simp
  (go_at_call 30; (with_reducible refine (tMeta _ _ _ _ _ _ _).mono ?_); rintro e w5 ⟨rfl, hb⟩; have H5 := H4.keep hb; clear hb)
  refine hK.out _ _ (.inr H5) ?_
  clear hK K
  try simp only [Act.put, List.setIfInBounds_toArray, List.set_cons_zero, List.set_cons_succ]
  refine wpAnyG_take (i := 20) (oi := { dst := some 23, op := Op.build 24 #[(0, Operand.tmp 6), (1, Operand.tmp 10), (2, Operand.tmp 14), (3, Operand.tmp 18), (4, Operand.tmp 22)], type := 24, pos := "semver.go:15", after := #[{ on := 3, ground := Ground.data }, { on := 7, ground := Ground.data }, { on := 11, ground := Ground.data }, { on := 15, ground := Ground.data }, { on := 19, ground := Ground.data }], guard := none }) (v := ?_) rfl (by kernel_rfl) (by kernel_rfl) (by kernel_rfl) (by kernel_rfl) (fun _ _ _ h => h) (Or.inl ⟨by rfl, ?_⟩) (by assumption) ?_
  rotate_left
  · intro W hSw
    clear hSw
    go_simp
    try with_reducible rfl
  try simp only [Act.put, List.setIfInBounds_toArray, List.set_cons_zero, List.set_cons_succ]
  have d0 : w5.cell? ⟨T2, 0, none⟩ = some (.int .u64 0) := cell_of_row _ _ 0 _ _ _ H5.h2
  have d1 : w5.cell? ⟨T2, 1, none⟩ = some (.int .u64 0) := cell_of_row _ _ 1 _ _ _ H5.h2
  have d2 : w5.cell? ⟨T2, 2, none⟩ = some (.int .u64 0) := cell_of_row _ _ 2 _ _ _ H5.h2
  have d3 : w5.cell? ⟨T2, 3, none⟩ = some (.string e0) := cell_of_row _ _ 3 _ _ _ H5.h2
  have d4 : w5.cell? ⟨T2, 4, none⟩ = some (.string e0) := cell_of_row _ _ 4 _ _ _ H5.h2
  have fz2 := fun k => frozen_of_row _ _ k _ _ H5.h2
  have HZ := Lib.hid H5
  clear H1 H2 H3 H4
  refine wpAnyG_one (i := 21) (o := { dst := none, op := Op.store 24 (Operand.tmp 2) (Operand.tmp 23), type := 0, pos := "semver.go:15", after := #[{ on := 20, ground := Ground.data }, { on := 19, ground := Ground.chain }, { on := 0, ground := Ground.phase }, { on := 1, ground := Ground.phase }, { on := 2, ground := Ground.phase }, { on := 3, ground := Ground.phase }, { on := 4, ground := Ground.phase }, { on := 5, ground := Ground.phase }, { on := 6, ground := Ground.phase }, { on := 7, ground := Ground.phase }, { on := 8, ground := Ground.phase }, { on := 9, ground := Ground.phase }, { on := 10, ground := Ground.phase }, { on := 11, ground := Ground.phase }, { on := 12, ground := Ground.phase }, { on := 13, ground := Ground.phase }, { on := 14, ground := Ground.phase }, { on := 15, ground := Ground.phase }, { on := 16, ground := Ground.phase }, { on := 17, ground := Ground.phase }, { on := 18, ground := Ground.phase }, { on := 19, ground := Ground.phase }, { on := 20, ground := Ground.phase }], guard := none }) (by kernel_rfl) rfl (fun K hK => ?_)
  go_simp
  refine hK.out _ _ (.inl rfl) ?_
  clear hK K
  try simp only [Act.put, List.setIfInBounds_toArray, List.set_cons_zero, List.set_cons_succ]
  refine wpAnyG_done (by kernel_rfl) ?_ _
  go_wp2
  exact bodyPost_ret (v := iv a b c e0 e0) (by simp [results, Tryz.results16, go_sem, d0, d1, d2, d3, d4]) rfl ⟨rfl, ((((HZ.out.b.setCell HZ.out.l2 _).setCell HZ.out.l2 _).setCell HZ.out.l2 _).setCell HZ.out.l2 _).setCell HZ.out.l2 _⟩
set_option maxHeartbeats 4000000 in
theorem tVText (a b c : Nat) (ha : a < 18446744073709551616) (hb : b < 18446744073709551616) (hc : c < 18446744073709551616) (w : World) (hP : Pow w) :
    Calls Tryz.prog 7 #[iv a b c e0 e0] w fun e w' => e = .returned (.string (bytesOf (dv a b c).text)) ∧ Below w.heap.size w w' := by
  have HS := Lib.hid (fun w h => tString a b c e0 ha hb hc w h)
  clear ha hb hc
  have HP := Lib.hid hP
  clear hP
  unfold iv
  go_enter Tryz.func7, Tryz.ntmps7
  go_upto_region 1 with fail
  have HB0 := Lib.hid ((Below.refl _ w).alloc (Nat.le_refl _) (.cells #[.int .u64 a, .int .u64 b, .int .u64 c, .string e0, .string e0] 24))
  go_wp2_with (first
    | (go_at_call 13; (with_reducible refine (l13 _ _ _ _ _ _).mono ?_); rintro e w1 ⟨V, rfl, hV, hr, hb⟩; have s0 : w1.cell? ⟨V, 0, none⟩ = some (.int .u64 a) := cell_of_row _ _ 0 _ _ _ hr; have s1 : w1.cell? ⟨V, 1, none⟩ = some (.int .u64 b) := cell_of_row _ _ 1 _ _ _ hr; have s2 : w1.cell? ⟨V, 2, none⟩ = some (.int .u64 c) := cell_of_row _ _ 2 _ _ _ hr; have s3 : w1.cell? ⟨V, 3, none⟩ = some (.string e0) := cell_of_row _ _ 3 _ _ _ hr; have s4 : w1.cell? ⟨V, 4, none⟩ = some (.string e0) := cell_of_row _ _ 4 _ _ _ hr; have s5 : w1.cell? ⟨V, 5, none⟩ = some (.string e0) := cell_of_row _ _ 5 _ _ _ hr; have HB1 := Lib.hid (belk hb HB0.out); clear hb hr hV)
    | (go_at_call 14; (with_reducible refine (HS.out _ (HP.out.below HB1.out)).mono ?_); rintro e w2 ⟨rfl, hb⟩; have HB2 := Lib.hid (belk hb HB1.out); clear hb))
  go_ret
  exact ⟨rfl, HB2.out⟩
structure SV (w : World) (T2 : Nat) (W : World) : Prop where
  h2 : W.heap[T2]? = some (.cells #[.int .u64 0, .int .u64 0, .int .u64 0, .string e0, .string e0] 24 (0, 0))
  pow : Pow W
  b : Below w.heap.size w W
  l2 : w.heap.size ≤ T2
theorem SV.keep {w W W' : World} {T2 : Nat} (h : SV w T2 W) (hb : Below W.heap.size W W') : SV w T2 W' := ⟨blk hb h.h2, h.pow.below hb, h.b.trans (hb.mono h.b.size), h.l2⟩
set_option maxHeartbeats 4000000 in
theorem tVPatch (a b c n : Nat) (ha : a < 18446744073709551616) (hb : b < 18446744073709551616) (hc : c < 18446744073709551616) (hn64 : n < 18446744073709551616) (hn : n = c + 1) (w : World) (hP : Pow w) :
    Calls Tryz.prog 8 #[iv a b c e0 e0] w fun e w' => e = .returned (iv a b n e0 e0) ∧ Below w.heap.size w w' := by
  have HS := Lib.hid (fun w h => tIncPatch a b c n ha hb hc hn64 hn w h)
  have HL := Lib.hid (show ∀ (o : ByteArray) (V : Nat) (w : World), w.heap[V]? = some (.cells #[.int .u64 (a : Nat), .int .u64 (b : Nat), .int .u64 (n : Nat), .string e0, .string e0, .string o] 33) → Calls Tryz.prog 16 #[.pointer (some ⟨V, 0, none⟩)] w fun e w' => e = .returned (.agg #[.int .u64 (a : Nat), .int .u64 (b : Nat), .int .u64 (n : Nat), .string e0, .string e0]) ∧ Below w.heap.size w w' from fun o V w h => tPlainV V a b n o w h)
  clear ha hb hc hn hn64
  have HP := Lib.hid hP
  clear hP
  unfold iv
  go_enter Tryz.func8, Tryz.ntmps8
  go_upto_region 1 with fail
  have hb0 := (Below.refl _ w).alloc (Nat.le_refl _) (.cells #[.int .u64 a, .int .u64 b, .int .u64 c, .string e0, .string e0] 24)
  have hb1 := hb0.alloc (by simp) (.cells #[.int .u64 0, .int .u64 0, .int .u64 0, .string ⟨#[]⟩, .string ⟨#[]⟩] 24)
  have H0 : SV w (w.heap.size + 1) ((w.alloc (.cells #[.int .u64 a, .int .u64 b, .int .u64 c, .string e0, .string e0] 24)).alloc (.cells #[.int .u64 0, .int .u64 0, .int .u64 0, .string ⟨#[]⟩, .string ⟨#[]⟩] 24)) := ⟨(by have := heap_alloc_new (w.alloc (.cells #[.int .u64 a, .int .u64 b, .int .u64 c, .string e0, .string e0] 24)) (.cells #[.int .u64 0, .int .u64 0, .int .u64 0, .string ⟨#[]⟩, .string ⟨#[]⟩] 24); rw [show (w.alloc (.cells #[.int .u64 a, .int .u64 b, .int .u64 c, .string e0, .string e0] 24)).heap.size = w.heap.size + 1 by simp] at this; exact this), HP.out.below hb1, hb1, by omega⟩
  clear hb0 hb1
  have s0 : ((w.alloc (.cells #[.int .u64 a, .int .u64 b, .int .u64 c, .string e0, .string e0] 24)).alloc (.cells #[.int .u64 0, .int .u64 0, .int .u64 0, .string ⟨#[]⟩, .string ⟨#[]⟩] 24)).cell? ⟨w.heap.size, 0, none⟩ = some (.int .u64 a) := cell_of_row _ _ 0 _ _ _ (blk ((Below.refl _ _).alloc (Nat.le_refl _) _) (heap_alloc_new w _))
  have s1 : ((w.alloc (.cells #[.int .u64 a, .int .u64 b, .int .u64 c, .string e0, .string e0] 24)).alloc (.cells #[.int .u64 0, .int .u64 0, .int .u64 0, .string ⟨#[]⟩, .string ⟨#[]⟩] 24)).cell? ⟨w.heap.size, 1, none⟩ = some (.int .u64 b) := cell_of_row _ _ 1 _ _ _ (blk ((Below.refl _ _).alloc (Nat.le_refl _) _) (heap_alloc_new w _))
  have s2 : ((w.alloc (.cells #[.int .u64 a, .int .u64 b, .int .u64 c, .string e0, .string e0] 24)).alloc (.cells #[.int .u64 0, .int .u64 0, .int .u64 0, .string ⟨#[]⟩, .string ⟨#[]⟩] 24)).cell? ⟨w.heap.size, 2, none⟩ = some (.int .u64 c) := cell_of_row _ _ 2 _ _ _ (blk ((Below.refl _ _).alloc (Nat.le_refl _) _) (heap_alloc_new w _))
  have s3 : ((w.alloc (.cells #[.int .u64 a, .int .u64 b, .int .u64 c, .string e0, .string e0] 24)).alloc (.cells #[.int .u64 0, .int .u64 0, .int .u64 0, .string ⟨#[]⟩, .string ⟨#[]⟩] 24)).cell? ⟨w.heap.size, 3, none⟩ = some (.string e0) := cell_of_row _ _ 3 _ _ _ (blk ((Below.refl _ _).alloc (Nat.le_refl _) _) (heap_alloc_new w _))
  have s4 : ((w.alloc (.cells #[.int .u64 a, .int .u64 b, .int .u64 c, .string e0, .string e0] 24)).alloc (.cells #[.int .u64 0, .int .u64 0, .int .u64 0, .string ⟨#[]⟩, .string ⟨#[]⟩] 24)).cell? ⟨w.heap.size, 4, none⟩ = some (.string e0) := cell_of_row _ _ 4 _ _ _ (blk ((Below.refl _ _).alloc (Nat.le_refl _) _) (heap_alloc_new w _))
  generalize (w.alloc (.cells #[.int .u64 a, .int .u64 b, .int .u64 c, .string e0, .string e0] 24)).alloc (.cells #[.int .u64 0, .int .u64 0, .int .u64 0, .string ⟨#[]⟩, .string ⟨#[]⟩] 24) = w0 at *
  generalize w.heap.size + 1 = T2 at *
  obtain ⟨T1, hT⟩ : ∃ T, w.heap.size = T := ⟨_, rfl⟩
  simp only [hT] at *
  have HT := Lib.hid hT
  clear hT
  go_wp2_with (first
    | (go_at_call 13; (with_reducible refine (l13 _ _ _ _ _ _).mono ?_); rintro e w1 ⟨V, rfl, hV, hr, hb⟩; clear s0 s1 s2 s3 s4; have s0 : w1.cell? ⟨V, 0, none⟩ = some (.int .u64 a) := cell_of_row _ _ 0 _ _ _ hr; have s1 : w1.cell? ⟨V, 1, none⟩ = some (.int .u64 b) := cell_of_row _ _ 1 _ _ _ hr; have s2 : w1.cell? ⟨V, 2, none⟩ = some (.int .u64 c) := cell_of_row _ _ 2 _ _ _ hr; have s3 : w1.cell? ⟨V, 3, none⟩ = some (.string e0) := cell_of_row _ _ 3 _ _ _ hr; have s4 : w1.cell? ⟨V, 4, none⟩ = some (.string e0) := cell_of_row _ _ 4 _ _ _ hr; have s5 : w1.cell? ⟨V, 5, none⟩ = some (.string e0) := cell_of_row _ _ 5 _ _ _ hr; have H1 := H0.keep hb; clear hb hr hV)
    | (go_at_call 15; (with_reducible refine (HS.out _ H1.pow).mono ?_); rintro e w2 ⟨⟨o, rfl⟩, hb⟩; have H2 := H1.keep hb; clear hb s0 s1 s2 s3 s4; unfold ver)
    | (go_at_call 16; (with_reducible refine (HL.out o _ _ (heap_alloc_new _ _)).mono ?_); rintro e w3 ⟨rfl, hb⟩; have H3 := (H2.keep ((Below.refl _ _).alloc (Nat.le_refl _) _)).keep hb; clear hb; have d0 : w3.cell? ⟨T2, 0, none⟩ = some (.int .u64 0) := cell_of_row _ _ 0 _ _ _ H3.h2; have d1 : w3.cell? ⟨T2, 1, none⟩ = some (.int .u64 0) := cell_of_row _ _ 1 _ _ _ H3.h2; have d2 : w3.cell? ⟨T2, 2, none⟩ = some (.int .u64 0) := cell_of_row _ _ 2 _ _ _ H3.h2; have d3 : w3.cell? ⟨T2, 3, none⟩ = some (.string e0) := cell_of_row _ _ 3 _ _ _ H3.h2; have d4 : w3.cell? ⟨T2, 4, none⟩ = some (.string e0) := cell_of_row _ _ 4 _ _ _ H3.h2; have fz2 := fun k => frozen_of_row _ _ k _ _ H3.h2; have HZ := Lib.hid H3; clear H3 H2 H1))
  exact bodyPost_ret (v := iv a b n e0 e0) (by simp [results, Tryz.results8, go_sem, d0, d1, d2, d3, d4]) rfl ⟨rfl, ((((HZ.out.b.setCell HZ.out.l2 _).setCell HZ.out.l2 _).setCell HZ.out.l2 _).setCell HZ.out.l2 _).setCell HZ.out.l2 _⟩
set_option maxHeartbeats 4000000 in
theorem tVMinor (a b c n : Nat) (ha : a < 18446744073709551616) (hb : b < 18446744073709551616) (hc : c < 18446744073709551616) (hn64 : n < 18446744073709551616) (hn : n = b + 1) (w : World) (hP : Pow w) :
    Calls Tryz.prog 9 #[iv a b c e0 e0] w fun e w' => e = .returned (iv a n 0 e0 e0) ∧ Below w.heap.size w w' := by
  have HS := Lib.hid (fun w h => tIncMinor a b c n ha hb hc hn64 hn w h)
  have HL := Lib.hid (show ∀ (o : ByteArray) (V : Nat) (w : World), w.heap[V]? = some (.cells #[.int .u64 (a : Nat), .int .u64 (n : Nat), .int .u64 0, .string e0, .string e0, .string o] 33) → Calls Tryz.prog 16 #[.pointer (some ⟨V, 0, none⟩)] w fun e w' => e = .returned (.agg #[.int .u64 (a : Nat), .int .u64 (n : Nat), .int .u64 0, .string e0, .string e0]) ∧ Below w.heap.size w w' from fun o V w h => tPlainV V a n 0 o w h)
  clear ha hb hc hn hn64
  have HP := Lib.hid hP
  clear hP
  unfold iv
  go_enter Tryz.func9, Tryz.ntmps9
  go_upto_region 1 with fail
  have hb0 := (Below.refl _ w).alloc (Nat.le_refl _) (.cells #[.int .u64 a, .int .u64 b, .int .u64 c, .string e0, .string e0] 24)
  have hb1 := hb0.alloc (by simp) (.cells #[.int .u64 0, .int .u64 0, .int .u64 0, .string ⟨#[]⟩, .string ⟨#[]⟩] 24)
  have H0 : SV w (w.heap.size + 1) ((w.alloc (.cells #[.int .u64 a, .int .u64 b, .int .u64 c, .string e0, .string e0] 24)).alloc (.cells #[.int .u64 0, .int .u64 0, .int .u64 0, .string ⟨#[]⟩, .string ⟨#[]⟩] 24)) := ⟨(by have := heap_alloc_new (w.alloc (.cells #[.int .u64 a, .int .u64 b, .int .u64 c, .string e0, .string e0] 24)) (.cells #[.int .u64 0, .int .u64 0, .int .u64 0, .string ⟨#[]⟩, .string ⟨#[]⟩] 24); rw [show (w.alloc (.cells #[.int .u64 a, .int .u64 b, .int .u64 c, .string e0, .string e0] 24)).heap.size = w.heap.size + 1 by simp] at this; exact this), HP.out.below hb1, hb1, by omega⟩
  clear hb0 hb1
  have s0 : ((w.alloc (.cells #[.int .u64 a, .int .u64 b, .int .u64 c, .string e0, .string e0] 24)).alloc (.cells #[.int .u64 0, .int .u64 0, .int .u64 0, .string ⟨#[]⟩, .string ⟨#[]⟩] 24)).cell? ⟨w.heap.size, 0, none⟩ = some (.int .u64 a) := cell_of_row _ _ 0 _ _ _ (blk ((Below.refl _ _).alloc (Nat.le_refl _) _) (heap_alloc_new w _))
  have s1 : ((w.alloc (.cells #[.int .u64 a, .int .u64 b, .int .u64 c, .string e0, .string e0] 24)).alloc (.cells #[.int .u64 0, .int .u64 0, .int .u64 0, .string ⟨#[]⟩, .string ⟨#[]⟩] 24)).cell? ⟨w.heap.size, 1, none⟩ = some (.int .u64 b) := cell_of_row _ _ 1 _ _ _ (blk ((Below.refl _ _).alloc (Nat.le_refl _) _) (heap_alloc_new w _))
  have s2 : ((w.alloc (.cells #[.int .u64 a, .int .u64 b, .int .u64 c, .string e0, .string e0] 24)).alloc (.cells #[.int .u64 0, .int .u64 0, .int .u64 0, .string ⟨#[]⟩, .string ⟨#[]⟩] 24)).cell? ⟨w.heap.size, 2, none⟩ = some (.int .u64 c) := cell_of_row _ _ 2 _ _ _ (blk ((Below.refl _ _).alloc (Nat.le_refl _) _) (heap_alloc_new w _))
  have s3 : ((w.alloc (.cells #[.int .u64 a, .int .u64 b, .int .u64 c, .string e0, .string e0] 24)).alloc (.cells #[.int .u64 0, .int .u64 0, .int .u64 0, .string ⟨#[]⟩, .string ⟨#[]⟩] 24)).cell? ⟨w.heap.size, 3, none⟩ = some (.string e0) := cell_of_row _ _ 3 _ _ _ (blk ((Below.refl _ _).alloc (Nat.le_refl _) _) (heap_alloc_new w _))
  have s4 : ((w.alloc (.cells #[.int .u64 a, .int .u64 b, .int .u64 c, .string e0, .string e0] 24)).alloc (.cells #[.int .u64 0, .int .u64 0, .int .u64 0, .string ⟨#[]⟩, .string ⟨#[]⟩] 24)).cell? ⟨w.heap.size, 4, none⟩ = some (.string e0) := cell_of_row _ _ 4 _ _ _ (blk ((Below.refl _ _).alloc (Nat.le_refl _) _) (heap_alloc_new w _))
  generalize (w.alloc (.cells #[.int .u64 a, .int .u64 b, .int .u64 c, .string e0, .string e0] 24)).alloc (.cells #[.int .u64 0, .int .u64 0, .int .u64 0, .string ⟨#[]⟩, .string ⟨#[]⟩] 24) = w0 at *
  generalize w.heap.size + 1 = T2 at *
  obtain ⟨T1, hT⟩ : ∃ T, w.heap.size = T := ⟨_, rfl⟩
  simp only [hT] at *
  have HT := Lib.hid hT
  clear hT
  go_wp2_with (first
    | (go_at_call 13; (with_reducible refine (l13 _ _ _ _ _ _).mono ?_); rintro e w1 ⟨V, rfl, hV, hr, hb⟩; clear s0 s1 s2 s3 s4; have s0 : w1.cell? ⟨V, 0, none⟩ = some (.int .u64 a) := cell_of_row _ _ 0 _ _ _ hr; have s1 : w1.cell? ⟨V, 1, none⟩ = some (.int .u64 b) := cell_of_row _ _ 1 _ _ _ hr; have s2 : w1.cell? ⟨V, 2, none⟩ = some (.int .u64 c) := cell_of_row _ _ 2 _ _ _ hr; have s3 : w1.cell? ⟨V, 3, none⟩ = some (.string e0) := cell_of_row _ _ 3 _ _ _ hr; have s4 : w1.cell? ⟨V, 4, none⟩ = some (.string e0) := cell_of_row _ _ 4 _ _ _ hr; have s5 : w1.cell? ⟨V, 5, none⟩ = some (.string e0) := cell_of_row _ _ 5 _ _ _ hr; have H1 := H0.keep hb; clear hb hr hV)
    | (go_at_call 17; (with_reducible refine (HS.out _ H1.pow).mono ?_); rintro e w2 ⟨⟨o, rfl⟩, hb⟩; have H2 := H1.keep hb; clear hb s0 s1 s2 s3 s4; unfold ver)
    | (go_at_call 16; (with_reducible refine (HL.out o _ _ (heap_alloc_new _ _)).mono ?_); rintro e w3 ⟨rfl, hb⟩; have H3 := (H2.keep ((Below.refl _ _).alloc (Nat.le_refl _) _)).keep hb; clear hb; have d0 : w3.cell? ⟨T2, 0, none⟩ = some (.int .u64 0) := cell_of_row _ _ 0 _ _ _ H3.h2; have d1 : w3.cell? ⟨T2, 1, none⟩ = some (.int .u64 0) := cell_of_row _ _ 1 _ _ _ H3.h2; have d2 : w3.cell? ⟨T2, 2, none⟩ = some (.int .u64 0) := cell_of_row _ _ 2 _ _ _ H3.h2; have d3 : w3.cell? ⟨T2, 3, none⟩ = some (.string e0) := cell_of_row _ _ 3 _ _ _ H3.h2; have d4 : w3.cell? ⟨T2, 4, none⟩ = some (.string e0) := cell_of_row _ _ 4 _ _ _ H3.h2; have fz2 := fun k => frozen_of_row _ _ k _ _ H3.h2; have HZ := Lib.hid H3; clear H3 H2 H1))
  exact bodyPost_ret (v := iv a n 0 e0 e0) (by simp [results, Tryz.results9, go_sem, d0, d1, d2, d3, d4]) rfl ⟨rfl, ((((HZ.out.b.setCell HZ.out.l2 _).setCell HZ.out.l2 _).setCell HZ.out.l2 _).setCell HZ.out.l2 _).setCell HZ.out.l2 _⟩
set_option maxHeartbeats 4000000 in
theorem tVMajor (a b c n : Nat) (ha : a < 18446744073709551616) (hb : b < 18446744073709551616) (hc : c < 18446744073709551616) (hn64 : n < 18446744073709551616) (hn : n = a + 1) (w : World) (hP : Pow w) :
    Calls Tryz.prog 10 #[iv a b c e0 e0] w fun e w' => e = .returned (iv n 0 0 e0 e0) ∧ Below w.heap.size w w' := by
  have HS := Lib.hid (fun w h => tIncMajor a b c n ha hb hc hn64 hn w h)
  have HL := Lib.hid (show ∀ (o : ByteArray) (V : Nat) (w : World), w.heap[V]? = some (.cells #[.int .u64 (n : Nat), .int .u64 0, .int .u64 0, .string e0, .string e0, .string o] 33) → Calls Tryz.prog 16 #[.pointer (some ⟨V, 0, none⟩)] w fun e w' => e = .returned (.agg #[.int .u64 (n : Nat), .int .u64 0, .int .u64 0, .string e0, .string e0]) ∧ Below w.heap.size w w' from fun o V w h => tPlainV V n 0 0 o w h)
  clear ha hb hc hn hn64
  have HP := Lib.hid hP
  clear hP
  unfold iv
  go_enter Tryz.func10, Tryz.ntmps10
  go_upto_region 1 with fail
  have hb0 := (Below.refl _ w).alloc (Nat.le_refl _) (.cells #[.int .u64 a, .int .u64 b, .int .u64 c, .string e0, .string e0] 24)
  have hb1 := hb0.alloc (by simp) (.cells #[.int .u64 0, .int .u64 0, .int .u64 0, .string ⟨#[]⟩, .string ⟨#[]⟩] 24)
  have H0 : SV w (w.heap.size + 1) ((w.alloc (.cells #[.int .u64 a, .int .u64 b, .int .u64 c, .string e0, .string e0] 24)).alloc (.cells #[.int .u64 0, .int .u64 0, .int .u64 0, .string ⟨#[]⟩, .string ⟨#[]⟩] 24)) := ⟨(by have := heap_alloc_new (w.alloc (.cells #[.int .u64 a, .int .u64 b, .int .u64 c, .string e0, .string e0] 24)) (.cells #[.int .u64 0, .int .u64 0, .int .u64 0, .string ⟨#[]⟩, .string ⟨#[]⟩] 24); rw [show (w.alloc (.cells #[.int .u64 a, .int .u64 b, .int .u64 c, .string e0, .string e0] 24)).heap.size = w.heap.size + 1 by simp] at this; exact this), HP.out.below hb1, hb1, by omega⟩
  clear hb0 hb1
  have s0 : ((w.alloc (.cells #[.int .u64 a, .int .u64 b, .int .u64 c, .string e0, .string e0] 24)).alloc (.cells #[.int .u64 0, .int .u64 0, .int .u64 0, .string ⟨#[]⟩, .string ⟨#[]⟩] 24)).cell? ⟨w.heap.size, 0, none⟩ = some (.int .u64 a) := cell_of_row _ _ 0 _ _ _ (blk ((Below.refl _ _).alloc (Nat.le_refl _) _) (heap_alloc_new w _))
  have s1 : ((w.alloc (.cells #[.int .u64 a, .int .u64 b, .int .u64 c, .string e0, .string e0] 24)).alloc (.cells #[.int .u64 0, .int .u64 0, .int .u64 0, .string ⟨#[]⟩, .string ⟨#[]⟩] 24)).cell? ⟨w.heap.size, 1, none⟩ = some (.int .u64 b) := cell_of_row _ _ 1 _ _ _ (blk ((Below.refl _ _).alloc (Nat.le_refl _) _) (heap_alloc_new w _))
  have s2 : ((w.alloc (.cells #[.int .u64 a, .int .u64 b, .int .u64 c, .string e0, .string e0] 24)).alloc (.cells #[.int .u64 0, .int .u64 0, .int .u64 0, .string ⟨#[]⟩, .string ⟨#[]⟩] 24)).cell? ⟨w.heap.size, 2, none⟩ = some (.int .u64 c) := cell_of_row _ _ 2 _ _ _ (blk ((Below.refl _ _).alloc (Nat.le_refl _) _) (heap_alloc_new w _))
  have s3 : ((w.alloc (.cells #[.int .u64 a, .int .u64 b, .int .u64 c, .string e0, .string e0] 24)).alloc (.cells #[.int .u64 0, .int .u64 0, .int .u64 0, .string ⟨#[]⟩, .string ⟨#[]⟩] 24)).cell? ⟨w.heap.size, 3, none⟩ = some (.string e0) := cell_of_row _ _ 3 _ _ _ (blk ((Below.refl _ _).alloc (Nat.le_refl _) _) (heap_alloc_new w _))
  have s4 : ((w.alloc (.cells #[.int .u64 a, .int .u64 b, .int .u64 c, .string e0, .string e0] 24)).alloc (.cells #[.int .u64 0, .int .u64 0, .int .u64 0, .string ⟨#[]⟩, .string ⟨#[]⟩] 24)).cell? ⟨w.heap.size, 4, none⟩ = some (.string e0) := cell_of_row _ _ 4 _ _ _ (blk ((Below.refl _ _).alloc (Nat.le_refl _) _) (heap_alloc_new w _))
  generalize (w.alloc (.cells #[.int .u64 a, .int .u64 b, .int .u64 c, .string e0, .string e0] 24)).alloc (.cells #[.int .u64 0, .int .u64 0, .int .u64 0, .string ⟨#[]⟩, .string ⟨#[]⟩] 24) = w0 at *
  generalize w.heap.size + 1 = T2 at *
  obtain ⟨T1, hT⟩ : ∃ T, w.heap.size = T := ⟨_, rfl⟩
  simp only [hT] at *
  have HT := Lib.hid hT
  clear hT
  go_wp2_with (first
    | (go_at_call 13; (with_reducible refine (l13 _ _ _ _ _ _).mono ?_); rintro e w1 ⟨V, rfl, hV, hr, hb⟩; clear s0 s1 s2 s3 s4; have s0 : w1.cell? ⟨V, 0, none⟩ = some (.int .u64 a) := cell_of_row _ _ 0 _ _ _ hr; have s1 : w1.cell? ⟨V, 1, none⟩ = some (.int .u64 b) := cell_of_row _ _ 1 _ _ _ hr; have s2 : w1.cell? ⟨V, 2, none⟩ = some (.int .u64 c) := cell_of_row _ _ 2 _ _ _ hr; have s3 : w1.cell? ⟨V, 3, none⟩ = some (.string e0) := cell_of_row _ _ 3 _ _ _ hr; have s4 : w1.cell? ⟨V, 4, none⟩ = some (.string e0) := cell_of_row _ _ 4 _ _ _ hr; have s5 : w1.cell? ⟨V, 5, none⟩ = some (.string e0) := cell_of_row _ _ 5 _ _ _ hr; have H1 := H0.keep hb; clear hb hr hV)
    | (go_at_call 18; (with_reducible refine (HS.out _ H1.pow).mono ?_); rintro e w2 ⟨⟨o, rfl⟩, hb⟩; have H2 := H1.keep hb; clear hb s0 s1 s2 s3 s4; unfold ver)
    | (go_at_call 16; (with_reducible refine (HL.out o _ _ (heap_alloc_new _ _)).mono ?_); rintro e w3 ⟨rfl, hb⟩; have H3 := (H2.keep ((Below.refl _ _).alloc (Nat.le_refl _) _)).keep hb; clear hb; have d0 : w3.cell? ⟨T2, 0, none⟩ = some (.int .u64 0) := cell_of_row _ _ 0 _ _ _ H3.h2; have d1 : w3.cell? ⟨T2, 1, none⟩ = some (.int .u64 0) := cell_of_row _ _ 1 _ _ _ H3.h2; have d2 : w3.cell? ⟨T2, 2, none⟩ = some (.int .u64 0) := cell_of_row _ _ 2 _ _ _ H3.h2; have d3 : w3.cell? ⟨T2, 3, none⟩ = some (.string e0) := cell_of_row _ _ 3 _ _ _ H3.h2; have d4 : w3.cell? ⟨T2, 4, none⟩ = some (.string e0) := cell_of_row _ _ 4 _ _ _ H3.h2; have fz2 := fun k => frozen_of_row _ _ k _ _ H3.h2; have HZ := Lib.hid H3; clear H3 H2 H1))
  exact bodyPost_ret (v := iv n 0 0 e0 e0) (by simp [results, Tryz.results10, go_sem, d0, d1, d2, d3, d4]) rfl ⟨rfl, ((((HZ.out.b.setCell HZ.out.l2 _).setCell HZ.out.l2 _).setCell HZ.out.l2 _).setCell HZ.out.l2 _).setCell HZ.out.l2 _⟩
end Go.Proofs.YtflcanlniddgoaaGreatDoor.Sv
end
