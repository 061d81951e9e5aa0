/- a part of the proof: FnSemverDeMorgan: for every list of terms, every style and every version the law's function returns true and leaves its arguments as they were. No condition is added: the statement is the given one, the tied card. -/
import Derived.Test.YtnamjojceadgdaaGreatDoorNL
section
set_option linter.unusedVariables false
set_option linter.unusedSimpArgs false
/- how many numbers a term shows -/
namespace Go.Proofs.YtnamjojceadgdaaGreatDoor.Sv
open Go Go.RowKit Rx
set_option maxRecDepth 100000
theorem wrap_i (z : Int) (h : 0 ≤ z ∧ z ≤ 1000) : IntKind.i64.wrap z = z := by
  have e : IntKind.i64.bits = 64 := rfl
  unfold IntKind.wrap; simp [e, IntKind.signed]; omega
def ops6 : Array Oper := #[{ dst := some 31, op := Op.fieldAddr 31 (Operand.tmp 2) 1, type := 0, pos := "constraint.go:175", after := #[], guard := none }, { dst := some 32, op := Op.load 3 (Operand.tmp 31), type := 3, pos := "constraint.go:175", after := #[{ on := 0, ground := Ground.data }], guard := none }, { dst := some 33, op := Op.move (Operand.tmp 1), type := 78, pos := "constraint.go:175", after := #[], guard := none }, { dst := some 34, op := Op.fieldAddr 31 (Operand.tmp 2) 1, type := 0, pos := "constraint.go:175", after := #[], guard := none }, { dst := some 35, op := Op.load 3 (Operand.tmp 34), type := 3, pos := "constraint.go:175", after := #[{ on := 3, ground := Ground.data }], guard := none }, { dst := some 36, op := Op.binOp BinOp.sub 3 (Operand.const (Value.int IntKind.i64 4)) (Operand.tmp 35) 3, type := 3, pos := "constraint.go:175", after := #[{ on := 4, ground := Ground.data }], guard := none }, { dst := some 37, op := Op.call { callee := Callee.value (Operand.func 39), args := #[Operand.tmp 33, Operand.tmp 36], argTypes := #[78, 3] }, type := 3, pos := "constraint.go:175", after := #[{ on := 2, ground := Ground.data }, { on := 5, ground := Ground.data }], guard := none }, { dst := some 38, op := Op.binOp BinOp.add 3 (Operand.tmp 32) (Operand.tmp 37) 3, type := 3, pos := "constraint.go:175", after := #[{ on := 1, ground := Ground.data }, { on := 6, ground := Ground.data }], guard := none }, { dst := some 7, op := Op.assign (Operand.tmp 38), type := 3, pos := "constraint.go:175", after := #[{ on := 7, ground := Ground.data }, { on := 6, ground := Ground.chain }, { on := 0, ground := Ground.phase }, { on := 1, ground := Ground.phase }, { on := 2, ground := Ground.phase }, { on := 3, ground := Ground.phase }, { on := 4, ground := Ground.phase }, { on := 5, ground := Ground.phase }, { on := 6, ground := Ground.phase }, { on := 7, ground := Ground.phase }], guard := none }]
def fr6 (S T2 : Nat) (x0 x3 x4 x5 x6 x8 x9 x10 x11 x12 x13 x14 x15 x16 x17 x18 x19 x20 x21 x22 x23 x24 x25 x26 x27 x28 x29 x30 x39 x40 x41 x42 x43 x44 x45 x46 x47 x48 x49 x50 x51 x52 x53 x54 x55 x56 x57 x58 x59 x60 x61 x62 x63 x64 x65 x66 x67 x68 x69 x70 x71 x72 x73 x74 x75 x76 x77 x78 x79 x80 x81 x82 x83 x84 x85 x86 x87 x88 x89 x90 x91 x92 : Value) (s7 s31 s32 s33 s34 s35 s36 s37 s38 : Value) : Act := ⟨(x0 :: .pointer (some ⟨S, 0, none⟩) :: .pointer (some ⟨T2, 0, none⟩) :: x3 :: x4 :: x5 :: x6 :: s7 :: x8 :: x9 :: x10 :: x11 :: x12 :: x13 :: x14 :: x15 :: x16 :: x17 :: x18 :: x19 :: x20 :: x21 :: x22 :: x23 :: x24 :: x25 :: x26 :: x27 :: x28 :: x29 :: x30 :: s31 :: s32 :: s33 :: s34 :: s35 :: s36 :: s37 :: s38 :: x39 :: x40 :: x41 :: x42 :: x43 :: x44 :: x45 :: x46 :: x47 :: x48 :: x49 :: x50 :: x51 :: x52 :: x53 :: x54 :: x55 :: x56 :: x57 :: x58 :: x59 :: x60 :: x61 :: x62 :: x63 :: x64 :: x65 :: x66 :: x67 :: x68 :: x69 :: x70 :: x71 :: x72 :: x73 :: x74 :: x75 :: x76 :: x77 :: x78 :: x79 :: x80 :: x81 :: x82 :: x83 :: x84 :: x85 :: x86 :: x87 :: x88 :: x89 :: x90 :: x91 :: x92 :: []).toArray, []⟩
structure I60 (w : World) (S N5 T2 : Nat) (t : TV) (L : Nat → Prop) (s7 s31 s32 s33 s34 s35 s36 s37 s38 : Value) (W : World) : Prop where
  pt : PT w S N5 T2 t W
  v31 : L 0 → s31 = .pointer (some ⟨T2, 1, none⟩)
  v32 : L 1 → s32 = .int .i64 0
  v33 : L 2 → s33 = .pointer (some ⟨S, 0, none⟩)
  v34 : L 3 → s34 = .pointer (some ⟨T2, 1, none⟩)
  v35 : L 4 → s35 = .int .i64 0
  v36 : L 5 → s36 = .int .i64 4
  v37 : L 6 → ∃ q : Nat, q < 4 ∧ s37 = .int .i64 (q : Nat)
  v38 : L 7 → ∃ q : Nat, q < 4 ∧ s38 = .int .i64 (q : Int)
  v7 : L 8 → ∃ q : Nat, q < 4 ∧ s7 = .int .i64 (q : Int)
theorem I60.put {w : World} {S N5 T2 : Nat} {t : TV} {L : Nat → Prop} {s7 s31 s32 s33 s34 s35 s36 s37 s38 : Value} {W : World} (h : I60 w S N5 T2 t L s7 s31 s32 s33 s34 s35 s36 s37 s38 W) (y : Int) : I60 w S N5 T2 t L s7 s31 s32 s33 s34 s35 s36 s37 s38 (W.setCell ⟨S, 0, none⟩ (.int .u64 y)) :=
  ⟨h.pt.put y, h.v31, h.v32, h.v33, h.v34, h.v35, h.v36, h.v37, h.v38, h.v7⟩
set_option maxHeartbeats 8000000 in
theorem region6_0 (y7 : Value) (x0 x3 x4 x5 x6 x8 x9 x10 x11 x12 x13 x14 x15 x16 x17 x18 x19 x20 x21 x22 x23 x24 x25 x26 x27 x28 x29 x30 x39 x40 x41 x42 x43 x44 x45 x46 x47 x48 x49 x50 x51 x52 x53 x54 x55 x56 x57 x58 x59 x60 x61 x62 x63 x64 x65 x66 x67 x68 x69 x70 x71 x72 x73 x74 x75 x76 x77 x78 x79 x80 x81 x82 x83 x84 x85 x86 x87 x88 x89 x90 x91 x92 : Value) (w : World) (S N5 T2 : Nat) (t : TV) (w5 : World) (hpt : PT w S N5 T2 t w5) (hg : t.g = 0)
    {Q : Exit → Act → World → Prop} (hQ : ∀ (q : Nat) s7 s31 s32 s33 s34 s35 s36 s37 s38 W, PT w S N5 T2 t W → q < 4 → s7 = .int .i64 (q : Int) → Q .normal (fr6 S T2 x0 x3 x4 x5 x6 x8 x9 x10 x11 x12 x13 x14 x15 x16 x17 x18 x19 x20 x21 x22 x23 x24 x25 x26 x27 x28 x29 x30 x39 x40 x41 x42 x43 x44 x45 x46 x47 x48 x49 x50 x51 x52 x53 x54 x55 x56 x57 x58 x59 x60 x61 x62 x63 x64 x65 x66 x67 x68 x69 x70 x71 x72 x73 x74 x75 x76 x77 x78 x79 x80 x81 x82 x83 x84 x85 x86 x87 x88 x89 x90 x91 x92 s7 s31 s32 s33 s34 s35 s36 s37 s38) W) :
    (Code.region 6 ops6 true).wp Tryz.prog Q (fr6 S T2 x0 x3 x4 x5 x6 x8 x9 x10 x11 x12 x13 x14 x15 x16 x17 x18 x19 x20 x21 x22 x23 x24 x25 x26 x27 x28 x29 x30 x39 x40 x41 x42 x43 x44 x45 x46 x47 x48 x49 x50 x51 x52 x53 x54 x55 x56 x57 x58 x59 x60 x61 x62 x63 x64 x65 x66 x67 x68 x69 x70 x71 x72 x73 x74 x75 x76 x77 x78 x79 x80 x81 x82 x83 x84 x85 x86 x87 x88 x89 x90 x91 x92 y7 undef undef undef undef undef undef undef undef) w5 := by
  have hd0 := hpt.keep (Below.refl w5.heap.size w5).drew
  refine wp_region_inv (by kernel_rfl) (fun L a' W => ∃ s7 s31 s32 s33 s34 s35 s36 s37 s38, a' = fr6 S T2 x0 x3 x4 x5 x6 x8 x9 x10 x11 x12 x13 x14 x15 x16 x17 x18 x19 x20 x21 x22 x23 x24 x25 x26 x27 x28 x29 x30 x39 x40 x41 x42 x43 x44 x45 x46 x47 x48 x49 x50 x51 x52 x53 x54 x55 x56 x57 x58 x59 x60 x61 x62 x63 x64 x65 x66 x67 x68 x69 x70 x71 x72 x73 x74 x75 x76 x77 x78 x79 x80 x81 x82 x83 x84 x85 x86 x87 x88 x89 x90 x91 x92 s7 s31 s32 s33 s34 s35 s36 s37 s38 ∧ I60 w S N5 T2 t L s7 s31 s32 s33 s34 s35 s36 s37 s38 W) (by kernel_rfl) ⟨_, _, _, _, _, _, _, _, _, rfl, ⟨hd0, fun h => h.elim, fun h => h.elim, fun h => h.elim, fun h => h.elim, fun h => h.elim, fun h => h.elim, fun h => h.elim, fun h => h.elim, fun h => h.elim⟩⟩ ?_ ?_
  · intro j o ho L a' W hni hdep hI K hK
    obtain ⟨s7, s31, s32, s33, s34, s35, s36, s37, s38, rfl, hk⟩ := hI
    have hq : W.cell? ⟨T2, 1, none⟩ = some (.int .i64 0) := by rw [← hg]; exact cell_of_row _ _ 1 _ _ _ hk.pt.t2
    rcases j with _ | _ | _ | _ | _ | _ | _ | _ | _ | j
    · obtain rfl := Option.some.inj (show some ({ dst := some 31, op := Op.fieldAddr 31 (Operand.tmp 2) 1, type := 0, pos := "constraint.go:175", after := #[], guard := none } : Oper) = some o from ho)
      unfold fr6
      go_simp
      refine hK.out _ _ ⟨s7, (.pointer (some ⟨T2, 1, none⟩)), s32, s33, s34, s35, s36, s37, s38, rfl, ⟨hk.pt, (fun _ => rfl), (fun hl => hk.v32 (hl.resolve_left (by decide))), (fun hl => hk.v33 (hl.resolve_left (by decide))), (fun hl => hk.v34 (hl.resolve_left (by decide))), (fun hl => hk.v35 (hl.resolve_left (by decide))), (fun hl => hk.v36 (hl.resolve_left (by decide))), (fun hl => hk.v37 (hl.resolve_left (by decide))), (fun hl => hk.v38 (hl.resolve_left (by decide))), (fun hl => hk.v7 (hl.resolve_left (by decide)))⟩⟩
    · obtain rfl := Option.some.inj (show some ({ dst := some 32, op := Op.load 3 (Operand.tmp 31), type := 3, pos := "constraint.go:175", after := #[{ on := 0, ground := Ground.data }], guard := none } : Oper) = some o from ho)
      have g0 := hk.v31 (hdep ⟨0, .data⟩ (by simp) rfl)
      subst g0
      unfold fr6
      go_simp
      refine hK.out _ _ ⟨s7, (.pointer (some ⟨T2, 1, none⟩)), (.int .i64 0), s33, s34, s35, s36, s37, s38, rfl, ⟨hk.pt, (fun hl => hk.v31 (hl.resolve_left (by decide))), (fun _ => rfl), (fun hl => hk.v33 (hl.resolve_left (by decide))), (fun hl => hk.v34 (hl.resolve_left (by decide))), (fun hl => hk.v35 (hl.resolve_left (by decide))), (fun hl => hk.v36 (hl.resolve_left (by decide))), (fun hl => hk.v37 (hl.resolve_left (by decide))), (fun hl => hk.v38 (hl.resolve_left (by decide))), (fun hl => hk.v7 (hl.resolve_left (by decide)))⟩⟩
    · obtain rfl := Option.some.inj (show some ({ dst := some 33, op := Op.move (Operand.tmp 1), type := 78, pos := "constraint.go:175", after := #[], guard := none } : Oper) = some o from ho)
      unfold fr6
      go_simp
      refine hK.out _ _ ⟨s7, s31, s32, (.pointer (some ⟨S, 0, none⟩)), s34, s35, s36, s37, s38, rfl, ⟨hk.pt, (fun hl => hk.v31 (hl.resolve_left (by decide))), (fun hl => hk.v32 (hl.resolve_left (by decide))), (fun _ => rfl), (fun hl => hk.v34 (hl.resolve_left (by decide))), (fun hl => hk.v35 (hl.resolve_left (by decide))), (fun hl => hk.v36 (hl.resolve_left (by decide))), (fun hl => hk.v37 (hl.resolve_left (by decide))), (fun hl => hk.v38 (hl.resolve_left (by decide))), (fun hl => hk.v7 (hl.resolve_left (by decide)))⟩⟩
    · obtain rfl := Option.some.inj (show some ({ dst := some 34, op := Op.fieldAddr 31 (Operand.tmp 2) 1, type := 0, pos := "constraint.go:175", after := #[], guard := none } : Oper) = some o from ho)
      unfold fr6
      go_simp
      refine hK.out _ _ ⟨s7, s31, s32, s33, (.pointer (some ⟨T2, 1, none⟩)), s35, s36, s37, s38, rfl, ⟨hk.pt, (fun hl => hk.v31 (hl.resolve_left (by decide))), (fun hl => hk.v32 (hl.resolve_left (by decide))), (fun hl => hk.v33 (hl.resolve_left (by decide))), (fun _ => rfl), (fun hl => hk.v35 (hl.resolve_left (by decide))), (fun hl => hk.v36 (hl.resolve_left (by decide))), (fun hl => hk.v37 (hl.resolve_left (by decide))), (fun hl => hk.v38 (hl.resolve_left (by decide))), (fun hl => hk.v7 (hl.resolve_left (by decide)))⟩⟩
    · obtain rfl := Option.some.inj (show some ({ dst := some 35, op := Op.load 3 (Operand.tmp 34), type := 3, pos := "constraint.go:175", after := #[{ on := 3, ground := Ground.data }], guard := none } : Oper) = some o from ho)
      have g3 := hk.v34 (hdep ⟨3, .data⟩ (by simp) rfl)
      subst g3
      unfold fr6
      go_simp
      refine hK.out _ _ ⟨s7, s31, s32, s33, (.pointer (some ⟨T2, 1, none⟩)), (.int .i64 0), s36, s37, s38, rfl, ⟨hk.pt, (fun hl => hk.v31 (hl.resolve_left (by decide))), (fun hl => hk.v32 (hl.resolve_left (by decide))), (fun hl => hk.v33 (hl.resolve_left (by decide))), (fun hl => hk.v34 (hl.resolve_left (by decide))), (fun _ => rfl), (fun hl => hk.v36 (hl.resolve_left (by decide))), (fun hl => hk.v37 (hl.resolve_left (by decide))), (fun hl => hk.v38 (hl.resolve_left (by decide))), (fun hl => hk.v7 (hl.resolve_left (by decide)))⟩⟩
    · obtain rfl := Option.some.inj (show some ({ dst := some 36, op := Op.binOp BinOp.sub 3 (Operand.const (Value.int IntKind.i64 4)) (Operand.tmp 35) 3, type := 3, pos := "constraint.go:175", after := #[{ on := 4, ground := Ground.data }], guard := none } : Oper) = some o from ho)
      have g4 := hk.v35 (hdep ⟨4, .data⟩ (by simp) rfl)
      subst g4
      unfold fr6
      go_simp
      refine hK.out _ _ ⟨s7, s31, s32, s33, s34, (.int .i64 0), (.int .i64 4), s37, s38, rfl, ⟨hk.pt, (fun hl => hk.v31 (hl.resolve_left (by decide))), (fun hl => hk.v32 (hl.resolve_left (by decide))), (fun hl => hk.v33 (hl.resolve_left (by decide))), (fun hl => hk.v34 (hl.resolve_left (by decide))), (fun hl => hk.v35 (hl.resolve_left (by decide))), (fun _ => rfl), (fun hl => hk.v37 (hl.resolve_left (by decide))), (fun hl => hk.v38 (hl.resolve_left (by decide))), (fun hl => hk.v7 (hl.resolve_left (by decide)))⟩⟩
    · obtain rfl := Option.some.inj (show some ({ dst := some 37, op := Op.call { callee := Callee.value (Operand.func 39), args := #[Operand.tmp 33, Operand.tmp 36], argTypes := #[78, 3] }, type := 3, pos := "constraint.go:175", after := #[{ on := 2, ground := Ground.data }, { on := 5, ground := Ground.data }], guard := none } : Oper) = some o from ho)
      have g2 := hk.v33 (hdep ⟨2, .data⟩ (by simp) rfl)
      have g5 := hk.v36 (hdep ⟨5, .data⟩ (by simp) rfl)
      subst g2 g5
      unfold fr6
      go_simp
      obtain ⟨x, hx⟩ := hk.pt.s
      (go_at_call 39; refine (m17 S x 4 (by omega) (by omega) W hx).mono ?_; rintro e W1 ⟨q, y, rfl, hq2, hw⟩; subst hw; have hk := hk.put y)
      refine hK.out _ _ ⟨s7, s31, s32, (.pointer (some ⟨S, 0, none⟩)), s34, s35, (.int .i64 4), (.int .i64 (q : Nat)), s38, rfl, ⟨hk.pt, (fun hl => hk.v31 (hl.resolve_left (by decide))), (fun hl => hk.v32 (hl.resolve_left (by decide))), (fun hl => hk.v33 (hl.resolve_left (by decide))), (fun hl => hk.v34 (hl.resolve_left (by decide))), (fun hl => hk.v35 (hl.resolve_left (by decide))), (fun hl => hk.v36 (hl.resolve_left (by decide))), (fun _ => ⟨q, hq2, rfl⟩), (fun hl => hk.v38 (hl.resolve_left (by decide))), (fun hl => hk.v7 (hl.resolve_left (by decide)))⟩⟩
    · obtain rfl := Option.some.inj (show some ({ dst := some 38, op := Op.binOp BinOp.add 3 (Operand.tmp 32) (Operand.tmp 37) 3, type := 3, pos := "constraint.go:175", after := #[{ on := 1, ground := Ground.data }, { on := 6, ground := Ground.data }], guard := none } : Oper) = some o from ho)
      have g1 := hk.v32 (hdep ⟨1, .data⟩ (by simp) rfl)
      obtain ⟨q, hq2, g6⟩ := hk.v37 (hdep ⟨6, .data⟩ (by simp) rfl)
      subst g1 g6
      have hqi : (q : Int) < 4 := by omega
      unfold fr6
      go_simp
      rw [wrap_i _ (by omega)]
      refine hK.out _ _ ⟨s7, s31, (.int .i64 0), s33, s34, s35, s36, (.int .i64 (q : Nat)), (.int .i64 (q : Int)), rfl, ⟨hk.pt, (fun hl => hk.v31 (hl.resolve_left (by decide))), (fun hl => hk.v32 (hl.resolve_left (by decide))), (fun hl => hk.v33 (hl.resolve_left (by decide))), (fun hl => hk.v34 (hl.resolve_left (by decide))), (fun hl => hk.v35 (hl.resolve_left (by decide))), (fun hl => hk.v36 (hl.resolve_left (by decide))), (fun hl => hk.v37 (hl.resolve_left (by decide))), (fun _ => ⟨q, hq2, rfl⟩), (fun hl => hk.v7 (hl.resolve_left (by decide)))⟩⟩
    · obtain rfl := Option.some.inj (show some ({ dst := some 7, op := Op.assign (Operand.tmp 38), type := 3, pos := "constraint.go:175", after := #[{ on := 7, ground := Ground.data }, { on := 6, ground := Ground.chain }, { on := 0, ground := Ground.phase }, { on := 1, ground := Ground.phase }, { on := 2, ground := Ground.phase }, { on := 3, ground := Ground.phase }, { on := 4, ground := Ground.phase }, { on := 5, ground := Ground.phase }, { on := 6, ground := Ground.phase }, { on := 7, ground := Ground.phase }], guard := none } : Oper) = some o from ho)
      obtain ⟨q, hq2, g7⟩ := hk.v38 (hdep ⟨7, .data⟩ (by simp) rfl)
      subst g7
      unfold fr6
      go_simp
      refine hK.out _ _ ⟨(.int .i64 (q : Int)), s31, s32, s33, s34, s35, s36, s37, (.int .i64 (q : Int)), rfl, ⟨hk.pt, (fun hl => hk.v31 (hl.resolve_left (by decide))), (fun hl => hk.v32 (hl.resolve_left (by decide))), (fun hl => hk.v33 (hl.resolve_left (by decide))), (fun hl => hk.v34 (hl.resolve_left (by decide))), (fun hl => hk.v35 (hl.resolve_left (by decide))), (fun hl => hk.v36 (hl.resolve_left (by decide))), (fun hl => hk.v37 (hl.resolve_left (by decide))), (fun hl => hk.v38 (hl.resolve_left (by decide))), (fun _ => ⟨q, hq2, rfl⟩)⟩⟩
    · exact absurd (Array.getElem?_eq_some_iff.1 ho).1 (by simp [ops6])
  · intro L a' W hall hI
    obtain ⟨s7, s31, s32, s33, s34, s35, s36, s37, s38, rfl, hk⟩ := hI
    obtain ⟨q, hq, h7⟩ := hk.v7 (hall 8 (by decide))
    exact hQ q _ _ _ _ _ _ _ _ _ W hk.pt hq h7
structure I61 (w : World) (S N5 T2 : Nat) (t : TV) (L : Nat → Prop) (s7 s31 s32 s33 s34 s35 s36 s37 s38 : Value) (W : World) : Prop where
  pt : PT w S N5 T2 t W
  v31 : L 0 → s31 = .pointer (some ⟨T2, 1, none⟩)
  v32 : L 1 → s32 = .int .i64 1
  v33 : L 2 → s33 = .pointer (some ⟨S, 0, none⟩)
  v34 : L 3 → s34 = .pointer (some ⟨T2, 1, none⟩)
  v35 : L 4 → s35 = .int .i64 1
  v36 : L 5 → s36 = .int .i64 3
  v37 : L 6 → ∃ q : Nat, q < 3 ∧ s37 = .int .i64 (q : Nat)
  v38 : L 7 → ∃ q : Nat, q < 3 ∧ s38 = .int .i64 (1 + (q : Int))
  v7 : L 8 → ∃ q : Nat, q < 3 ∧ s7 = .int .i64 (1 + (q : Int))
theorem I61.put {w : World} {S N5 T2 : Nat} {t : TV} {L : Nat → Prop} {s7 s31 s32 s33 s34 s35 s36 s37 s38 : Value} {W : World} (h : I61 w S N5 T2 t L s7 s31 s32 s33 s34 s35 s36 s37 s38 W) (y : Int) : I61 w S N5 T2 t L s7 s31 s32 s33 s34 s35 s36 s37 s38 (W.setCell ⟨S, 0, none⟩ (.int .u64 y)) :=
  ⟨h.pt.put y, h.v31, h.v32, h.v33, h.v34, h.v35, h.v36, h.v37, h.v38, h.v7⟩
set_option maxHeartbeats 8000000 in
theorem region6_1 (y7 : Value) (x0 x3 x4 x5 x6 x8 x9 x10 x11 x12 x13 x14 x15 x16 x17 x18 x19 x20 x21 x22 x23 x24 x25 x26 x27 x28 x29 x30 x39 x40 x41 x42 x43 x44 x45 x46 x47 x48 x49 x50 x51 x52 x53 x54 x55 x56 x57 x58 x59 x60 x61 x62 x63 x64 x65 x66 x67 x68 x69 x70 x71 x72 x73 x74 x75 x76 x77 x78 x79 x80 x81 x82 x83 x84 x85 x86 x87 x88 x89 x90 x91 x92 : Value) (w : World) (S N5 T2 : Nat) (t : TV) (w5 : World) (hpt : PT w S N5 T2 t w5) (hg : t.g = 1)
    {Q : Exit → Act → World → Prop} (hQ : ∀ (q : Nat) s7 s31 s32 s33 s34 s35 s36 s37 s38 W, PT w S N5 T2 t W → q < 3 → s7 = .int .i64 (1 + (q : Int)) → Q .normal (fr6 S T2 x0 x3 x4 x5 x6 x8 x9 x10 x11 x12 x13 x14 x15 x16 x17 x18 x19 x20 x21 x22 x23 x24 x25 x26 x27 x28 x29 x30 x39 x40 x41 x42 x43 x44 x45 x46 x47 x48 x49 x50 x51 x52 x53 x54 x55 x56 x57 x58 x59 x60 x61 x62 x63 x64 x65 x66 x67 x68 x69 x70 x71 x72 x73 x74 x75 x76 x77 x78 x79 x80 x81 x82 x83 x84 x85 x86 x87 x88 x89 x90 x91 x92 s7 s31 s32 s33 s34 s35 s36 s37 s38) W) :
    (Code.region 6 ops6 true).wp Tryz.prog Q (fr6 S T2 x0 x3 x4 x5 x6 x8 x9 x10 x11 x12 x13 x14 x15 x16 x17 x18 x19 x20 x21 x22 x23 x24 x25 x26 x27 x28 x29 x30 x39 x40 x41 x42 x43 x44 x45 x46 x47 x48 x49 x50 x51 x52 x53 x54 x55 x56 x57 x58 x59 x60 x61 x62 x63 x64 x65 x66 x67 x68 x69 x70 x71 x72 x73 x74 x75 x76 x77 x78 x79 x80 x81 x82 x83 x84 x85 x86 x87 x88 x89 x90 x91 x92 y7 undef undef undef undef undef undef undef undef) w5 := by
  have hd0 := hpt.keep (Below.refl w5.heap.size w5).drew
  refine wp_region_inv (by kernel_rfl) (fun L a' W => ∃ s7 s31 s32 s33 s34 s35 s36 s37 s38, a' = fr6 S T2 x0 x3 x4 x5 x6 x8 x9 x10 x11 x12 x13 x14 x15 x16 x17 x18 x19 x20 x21 x22 x23 x24 x25 x26 x27 x28 x29 x30 x39 x40 x41 x42 x43 x44 x45 x46 x47 x48 x49 x50 x51 x52 x53 x54 x55 x56 x57 x58 x59 x60 x61 x62 x63 x64 x65 x66 x67 x68 x69 x70 x71 x72 x73 x74 x75 x76 x77 x78 x79 x80 x81 x82 x83 x84 x85 x86 x87 x88 x89 x90 x91 x92 s7 s31 s32 s33 s34 s35 s36 s37 s38 ∧ I61 w S N5 T2 t L s7 s31 s32 s33 s34 s35 s36 s37 s38 W) (by kernel_rfl) ⟨_, _, _, _, _, _, _, _, _, rfl, ⟨hd0, fun h => h.elim, fun h => h.elim, fun h => h.elim, fun h => h.elim, fun h => h.elim, fun h => h.elim, fun h => h.elim, fun h => h.elim, fun h => h.elim⟩⟩ ?_ ?_
  · intro j o ho L a' W hni hdep hI K hK
    obtain ⟨s7, s31, s32, s33, s34, s35, s36, s37, s38, rfl, hk⟩ := hI
    have hq : W.cell? ⟨T2, 1, none⟩ = some (.int .i64 1) := by rw [← hg]; exact cell_of_row _ _ 1 _ _ _ hk.pt.t2
    rcases j with _ | _ | _ | _ | _ | _ | _ | _ | _ | j
    · obtain rfl := Option.some.inj (show some ({ dst := some 31, op := Op.fieldAddr 31 (Operand.tmp 2) 1, type := 0, pos := "constraint.go:175", after := #[], guard := none } : Oper) = some o from ho)
      unfold fr6
      go_simp
      refine hK.out _ _ ⟨s7, (.pointer (some ⟨T2, 1, none⟩)), s32, s33, s34, s35, s36, s37, s38, rfl, ⟨hk.pt, (fun _ => rfl), (fun hl => hk.v32 (hl.resolve_left (by decide))), (fun hl => hk.v33 (hl.resolve_left (by decide))), (fun hl => hk.v34 (hl.resolve_left (by decide))), (fun hl => hk.v35 (hl.resolve_left (by decide))), (fun hl => hk.v36 (hl.resolve_left (by decide))), (fun hl => hk.v37 (hl.resolve_left (by decide))), (fun hl => hk.v38 (hl.resolve_left (by decide))), (fun hl => hk.v7 (hl.resolve_left (by decide)))⟩⟩
    · obtain rfl := Option.some.inj (show some ({ dst := some 32, op := Op.load 3 (Operand.tmp 31), type := 3, pos := "constraint.go:175", after := #[{ on := 0, ground := Ground.data }], guard := none } : Oper) = some o from ho)
      have g0 := hk.v31 (hdep ⟨0, .data⟩ (by simp) rfl)
      subst g0
      unfold fr6
      go_simp
      refine hK.out _ _ ⟨s7, (.pointer (some ⟨T2, 1, none⟩)), (.int .i64 1), s33, s34, s35, s36, s37, s38, rfl, ⟨hk.pt, (fun hl => hk.v31 (hl.resolve_left (by decide))), (fun _ => rfl), (fun hl => hk.v33 (hl.resolve_left (by decide))), (fun hl => hk.v34 (hl.resolve_left (by decide))), (fun hl => hk.v35 (hl.resolve_left (by decide))), (fun hl => hk.v36 (hl.resolve_left (by decide))), (fun hl => hk.v37 (hl.resolve_left (by decide))), (fun hl => hk.v38 (hl.resolve_left (by decide))), (fun hl => hk.v7 (hl.resolve_left (by decide)))⟩⟩
    · obtain rfl := Option.some.inj (show some ({ dst := some 33, op := Op.move (Operand.tmp 1), type := 78, pos := "constraint.go:175", after := #[], guard := none } : Oper) = some o from ho)
      unfold fr6
      go_simp
      refine hK.out _ _ ⟨s7, s31, s32, (.pointer (some ⟨S, 0, none⟩)), s34, s35, s36, s37, s38, rfl, ⟨hk.pt, (fun hl => hk.v31 (hl.resolve_left (by decide))), (fun hl => hk.v32 (hl.resolve_left (by decide))), (fun _ => rfl), (fun hl => hk.v34 (hl.resolve_left (by decide))), (fun hl => hk.v35 (hl.resolve_left (by decide))), (fun hl => hk.v36 (hl.resolve_left (by decide))), (fun hl => hk.v37 (hl.resolve_left (by decide))), (fun hl => hk.v38 (hl.resolve_left (by decide))), (fun hl => hk.v7 (hl.resolve_left (by decide)))⟩⟩
    · obtain rfl := Option.some.inj (show some ({ dst := some 34, op := Op.fieldAddr 31 (Operand.tmp 2) 1, type := 0, pos := "constraint.go:175", after := #[], guard := none } : Oper) = some o from ho)
      unfold fr6
      go_simp
      refine hK.out _ _ ⟨s7, s31, s32, s33, (.pointer (some ⟨T2, 1, none⟩)), s35, s36, s37, s38, rfl, ⟨hk.pt, (fun hl => hk.v31 (hl.resolve_left (by decide))), (fun hl => hk.v32 (hl.resolve_left (by decide))), (fun hl => hk.v33 (hl.resolve_left (by decide))), (fun _ => rfl), (fun hl => hk.v35 (hl.resolve_left (by decide))), (fun hl => hk.v36 (hl.resolve_left (by decide))), (fun hl => hk.v37 (hl.resolve_left (by decide))), (fun hl => hk.v38 (hl.resolve_left (by decide))), (fun hl => hk.v7 (hl.resolve_left (by decide)))⟩⟩
    · obtain rfl := Option.some.inj (show some ({ dst := some 35, op := Op.load 3 (Operand.tmp 34), type := 3, pos := "constraint.go:175", after := #[{ on := 3, ground := Ground.data }], guard := none } : Oper) = some o from ho)
      have g3 := hk.v34 (hdep ⟨3, .data⟩ (by simp) rfl)
      subst g3
      unfold fr6
      go_simp
      refine hK.out _ _ ⟨s7, s31, s32, s33, (.pointer (some ⟨T2, 1, none⟩)), (.int .i64 1), s36, s37, s38, rfl, ⟨hk.pt, (fun hl => hk.v31 (hl.resolve_left (by decide))), (fun hl => hk.v32 (hl.resolve_left (by decide))), (fun hl => hk.v33 (hl.resolve_left (by decide))), (fun hl => hk.v34 (hl.resolve_left (by decide))), (fun _ => rfl), (fun hl => hk.v36 (hl.resolve_left (by decide))), (fun hl => hk.v37 (hl.resolve_left (by decide))), (fun hl => hk.v38 (hl.resolve_left (by decide))), (fun hl => hk.v7 (hl.resolve_left (by decide)))⟩⟩
    · obtain rfl := Option.some.inj (show some ({ dst := some 36, op := Op.binOp BinOp.sub 3 (Operand.const (Value.int IntKind.i64 4)) (Operand.tmp 35) 3, type := 3, pos := "constraint.go:175", after := #[{ on := 4, ground := Ground.data }], guard := none } : Oper) = some o from ho)
      have g4 := hk.v35 (hdep ⟨4, .data⟩ (by simp) rfl)
      subst g4
      unfold fr6
      go_simp
      refine hK.out _ _ ⟨s7, s31, s32, s33, s34, (.int .i64 1), (.int .i64 3), s37, s38, rfl, ⟨hk.pt, (fun hl => hk.v31 (hl.resolve_left (by decide))), (fun hl => hk.v32 (hl.resolve_left (by decide))), (fun hl => hk.v33 (hl.resolve_left (by decide))), (fun hl => hk.v34 (hl.resolve_left (by decide))), (fun hl => hk.v35 (hl.resolve_left (by decide))), (fun _ => rfl), (fun hl => hk.v37 (hl.resolve_left (by decide))), (fun hl => hk.v38 (hl.resolve_left (by decide))), (fun hl => hk.v7 (hl.resolve_left (by decide)))⟩⟩
    · obtain rfl := Option.some.inj (show some ({ dst := some 37, op := Op.call { callee := Callee.value (Operand.func 39), args := #[Operand.tmp 33, Operand.tmp 36], argTypes := #[78, 3] }, type := 3, pos := "constraint.go:175", after := #[{ on := 2, ground := Ground.data }, { on := 5, ground := Ground.data }], guard := none } : Oper) = some o from ho)
      have g2 := hk.v33 (hdep ⟨2, .data⟩ (by simp) rfl)
      have g5 := hk.v36 (hdep ⟨5, .data⟩ (by simp) rfl)
      subst g2 g5
      unfold fr6
      go_simp
      obtain ⟨x, hx⟩ := hk.pt.s
      (go_at_call 39; refine (m17 S x 3 (by omega) (by omega) W hx).mono ?_; rintro e W1 ⟨q, y, rfl, hq2, hw⟩; subst hw; have hk := hk.put y)
      refine hK.out _ _ ⟨s7, s31, s32, (.pointer (some ⟨S, 0, none⟩)), s34, s35, (.int .i64 3), (.int .i64 (q : Nat)), s38, rfl, ⟨hk.pt, (fun hl => hk.v31 (hl.resolve_left (by decide))), (fun hl => hk.v32 (hl.resolve_left (by decide))), (fun hl => hk.v33 (hl.resolve_left (by decide))), (fun hl => hk.v34 (hl.resolve_left (by decide))), (fun hl => hk.v35 (hl.resolve_left (by decide))), (fun hl => hk.v36 (hl.resolve_left (by decide))), (fun _ => ⟨q, hq2, rfl⟩), (fun hl => hk.v38 (hl.resolve_left (by decide))), (fun hl => hk.v7 (hl.resolve_left (by decide)))⟩⟩
    · obtain rfl := Option.some.inj (show some ({ dst := some 38, op := Op.binOp BinOp.add 3 (Operand.tmp 32) (Operand.tmp 37) 3, type := 3, pos := "constraint.go:175", after := #[{ on := 1, ground := Ground.data }, { on := 6, ground := Ground.data }], guard := none } : Oper) = some o from ho)
      have g1 := hk.v32 (hdep ⟨1, .data⟩ (by simp) rfl)
      obtain ⟨q, hq2, g6⟩ := hk.v37 (hdep ⟨6, .data⟩ (by simp) rfl)
      subst g1 g6
      have hqi : (q : Int) < 4 := by omega
      unfold fr6
      go_simp
      rw [wrap_i _ (by omega)]
      refine hK.out _ _ ⟨s7, s31, (.int .i64 1), s33, s34, s35, s36, (.int .i64 (q : Nat)), (.int .i64 (1 + (q : Int))), rfl, ⟨hk.pt, (fun hl => hk.v31 (hl.resolve_left (by decide))), (fun hl => hk.v32 (hl.resolve_left (by decide))), (fun hl => hk.v33 (hl.resolve_left (by decide))), (fun hl => hk.v34 (hl.resolve_left (by decide))), (fun hl => hk.v35 (hl.resolve_left (by decide))), (fun hl => hk.v36 (hl.resolve_left (by decide))), (fun hl => hk.v37 (hl.resolve_left (by decide))), (fun _ => ⟨q, hq2, rfl⟩), (fun hl => hk.v7 (hl.resolve_left (by decide)))⟩⟩
    · obtain rfl := Option.some.inj (show some ({ dst := some 7, op := Op.assign (Operand.tmp 38), type := 3, pos := "constraint.go:175", after := #[{ on := 7, ground := Ground.data }, { on := 6, ground := Ground.chain }, { on := 0, ground := Ground.phase }, { on := 1, ground := Ground.phase }, { on := 2, ground := Ground.phase }, { on := 3, ground := Ground.phase }, { on := 4, ground := Ground.phase }, { on := 5, ground := Ground.phase }, { on := 6, ground := Ground.phase }, { on := 7, ground := Ground.phase }], guard := none } : Oper) = some o from ho)
      obtain ⟨q, hq2, g7⟩ := hk.v38 (hdep ⟨7, .data⟩ (by simp) rfl)
      subst g7
      unfold fr6
      go_simp
      refine hK.out _ _ ⟨(.int .i64 (1 + (q : Int))), s31, s32, s33, s34, s35, s36, s37, (.int .i64 (1 + (q : Int))), rfl, ⟨hk.pt, (fun hl => hk.v31 (hl.resolve_left (by decide))), (fun hl => hk.v32 (hl.resolve_left (by decide))), (fun hl => hk.v33 (hl.resolve_left (by decide))), (fun hl => hk.v34 (hl.resolve_left (by decide))), (fun hl => hk.v35 (hl.resolve_left (by decide))), (fun hl => hk.v36 (hl.resolve_left (by decide))), (fun hl => hk.v37 (hl.resolve_left (by decide))), (fun hl => hk.v38 (hl.resolve_left (by decide))), (fun _ => ⟨q, hq2, rfl⟩)⟩⟩
    · exact absurd (Array.getElem?_eq_some_iff.1 ho).1 (by simp [ops6])
  · intro L a' W hall hI
    obtain ⟨s7, s31, s32, s33, s34, s35, s36, s37, s38, rfl, hk⟩ := hI
    obtain ⟨q, hq, h7⟩ := hk.v7 (hall 8 (by decide))
    exact hQ q _ _ _ _ _ _ _ _ _ W hk.pt hq h7
structure I62 (w : World) (S N5 T2 : Nat) (t : TV) (L : Nat → Prop) (s7 s31 s32 s33 s34 s35 s36 s37 s38 : Value) (W : World) : Prop where
  pt : PT w S N5 T2 t W
  v31 : L 0 → s31 = .pointer (some ⟨T2, 1, none⟩)
  v32 : L 1 → s32 = .int .i64 2
  v33 : L 2 → s33 = .pointer (some ⟨S, 0, none⟩)
  v34 : L 3 → s34 = .pointer (some ⟨T2, 1, none⟩)
  v35 : L 4 → s35 = .int .i64 2
  v36 : L 5 → s36 = .int .i64 2
  v37 : L 6 → ∃ q : Nat, q < 2 ∧ s37 = .int .i64 (q : Nat)
  v38 : L 7 → ∃ q : Nat, q < 2 ∧ s38 = .int .i64 (2 + (q : Int))
  v7 : L 8 → ∃ q : Nat, q < 2 ∧ s7 = .int .i64 (2 + (q : Int))
theorem I62.put {w : World} {S N5 T2 : Nat} {t : TV} {L : Nat → Prop} {s7 s31 s32 s33 s34 s35 s36 s37 s38 : Value} {W : World} (h : I62 w S N5 T2 t L s7 s31 s32 s33 s34 s35 s36 s37 s38 W) (y : Int) : I62 w S N5 T2 t L s7 s31 s32 s33 s34 s35 s36 s37 s38 (W.setCell ⟨S, 0, none⟩ (.int .u64 y)) :=
  ⟨h.pt.put y, h.v31, h.v32, h.v33, h.v34, h.v35, h.v36, h.v37, h.v38, h.v7⟩
set_option maxHeartbeats 8000000 in
theorem region6_2 (y7 : Value) (x0 x3 x4 x5 x6 x8 x9 x10 x11 x12 x13 x14 x15 x16 x17 x18 x19 x20 x21 x22 x23 x24 x25 x26 x27 x28 x29 x30 x39 x40 x41 x42 x43 x44 x45 x46 x47 x48 x49 x50 x51 x52 x53 x54 x55 x56 x57 x58 x59 x60 x61 x62 x63 x64 x65 x66 x67 x68 x69 x70 x71 x72 x73 x74 x75 x76 x77 x78 x79 x80 x81 x82 x83 x84 x85 x86 x87 x88 x89 x90 x91 x92 : Value) (w : World) (S N5 T2 : Nat) (t : TV) (w5 : World) (hpt : PT w S N5 T2 t w5) (hg : t.g = 2)
    {Q : Exit → Act → World → Prop} (hQ : ∀ (q : Nat) s7 s31 s32 s33 s34 s35 s36 s37 s38 W, PT w S N5 T2 t W → q < 2 → s7 = .int .i64 (2 + (q : Int)) → Q .normal (fr6 S T2 x0 x3 x4 x5 x6 x8 x9 x10 x11 x12 x13 x14 x15 x16 x17 x18 x19 x20 x21 x22 x23 x24 x25 x26 x27 x28 x29 x30 x39 x40 x41 x42 x43 x44 x45 x46 x47 x48 x49 x50 x51 x52 x53 x54 x55 x56 x57 x58 x59 x60 x61 x62 x63 x64 x65 x66 x67 x68 x69 x70 x71 x72 x73 x74 x75 x76 x77 x78 x79 x80 x81 x82 x83 x84 x85 x86 x87 x88 x89 x90 x91 x92 s7 s31 s32 s33 s34 s35 s36 s37 s38) W) :
    (Code.region 6 ops6 true).wp Tryz.prog Q (fr6 S T2 x0 x3 x4 x5 x6 x8 x9 x10 x11 x12 x13 x14 x15 x16 x17 x18 x19 x20 x21 x22 x23 x24 x25 x26 x27 x28 x29 x30 x39 x40 x41 x42 x43 x44 x45 x46 x47 x48 x49 x50 x51 x52 x53 x54 x55 x56 x57 x58 x59 x60 x61 x62 x63 x64 x65 x66 x67 x68 x69 x70 x71 x72 x73 x74 x75 x76 x77 x78 x79 x80 x81 x82 x83 x84 x85 x86 x87 x88 x89 x90 x91 x92 y7 undef undef undef undef undef undef undef undef) w5 := by
  have hd0 := hpt.keep (Below.refl w5.heap.size w5).drew
  refine wp_region_inv (by kernel_rfl) (fun L a' W => ∃ s7 s31 s32 s33 s34 s35 s36 s37 s38, a' = fr6 S T2 x0 x3 x4 x5 x6 x8 x9 x10 x11 x12 x13 x14 x15 x16 x17 x18 x19 x20 x21 x22 x23 x24 x25 x26 x27 x28 x29 x30 x39 x40 x41 x42 x43 x44 x45 x46 x47 x48 x49 x50 x51 x52 x53 x54 x55 x56 x57 x58 x59 x60 x61 x62 x63 x64 x65 x66 x67 x68 x69 x70 x71 x72 x73 x74 x75 x76 x77 x78 x79 x80 x81 x82 x83 x84 x85 x86 x87 x88 x89 x90 x91 x92 s7 s31 s32 s33 s34 s35 s36 s37 s38 ∧ I62 w S N5 T2 t L s7 s31 s32 s33 s34 s35 s36 s37 s38 W) (by kernel_rfl) ⟨_, _, _, _, _, _, _, _, _, rfl, ⟨hd0, fun h => h.elim, fun h => h.elim, fun h => h.elim, fun h => h.elim, fun h => h.elim, fun h => h.elim, fun h => h.elim, fun h => h.elim, fun h => h.elim⟩⟩ ?_ ?_
  · intro j o ho L a' W hni hdep hI K hK
    obtain ⟨s7, s31, s32, s33, s34, s35, s36, s37, s38, rfl, hk⟩ := hI
    have hq : W.cell? ⟨T2, 1, none⟩ = some (.int .i64 2) := by rw [← hg]; exact cell_of_row _ _ 1 _ _ _ hk.pt.t2
    rcases j with _ | _ | _ | _ | _ | _ | _ | _ | _ | j
    · obtain rfl := Option.some.inj (show some ({ dst := some 31, op := Op.fieldAddr 31 (Operand.tmp 2) 1, type := 0, pos := "constraint.go:175", after := #[], guard := none } : Oper) = some o from ho)
      unfold fr6
      go_simp
      refine hK.out _ _ ⟨s7, (.pointer (some ⟨T2, 1, none⟩)), s32, s33, s34, s35, s36, s37, s38, rfl, ⟨hk.pt, (fun _ => rfl), (fun hl => hk.v32 (hl.resolve_left (by decide))), (fun hl => hk.v33 (hl.resolve_left (by decide))), (fun hl => hk.v34 (hl.resolve_left (by decide))), (fun hl => hk.v35 (hl.resolve_left (by decide))), (fun hl => hk.v36 (hl.resolve_left (by decide))), (fun hl => hk.v37 (hl.resolve_left (by decide))), (fun hl => hk.v38 (hl.resolve_left (by decide))), (fun hl => hk.v7 (hl.resolve_left (by decide)))⟩⟩
    · obtain rfl := Option.some.inj (show some ({ dst := some 32, op := Op.load 3 (Operand.tmp 31), type := 3, pos := "constraint.go:175", after := #[{ on := 0, ground := Ground.data }], guard := none } : Oper) = some o from ho)
      have g0 := hk.v31 (hdep ⟨0, .data⟩ (by simp) rfl)
      subst g0
      unfold fr6
      go_simp
      refine hK.out _ _ ⟨s7, (.pointer (some ⟨T2, 1, none⟩)), (.int .i64 2), s33, s34, s35, s36, s37, s38, rfl, ⟨hk.pt, (fun hl => hk.v31 (hl.resolve_left (by decide))), (fun _ => rfl), (fun hl => hk.v33 (hl.resolve_left (by decide))), (fun hl => hk.v34 (hl.resolve_left (by decide))), (fun hl => hk.v35 (hl.resolve_left (by decide))), (fun hl => hk.v36 (hl.resolve_left (by decide))), (fun hl => hk.v37 (hl.resolve_left (by decide))), (fun hl => hk.v38 (hl.resolve_left (by decide))), (fun hl => hk.v7 (hl.resolve_left (by decide)))⟩⟩
    · obtain rfl := Option.some.inj (show some ({ dst := some 33, op := Op.move (Operand.tmp 1), type := 78, pos := "constraint.go:175", after := #[], guard := none } : Oper) = some o from ho)
      unfold fr6
      go_simp
      refine hK.out _ _ ⟨s7, s31, s32, (.pointer (some ⟨S, 0, none⟩)), s34, s35, s36, s37, s38, rfl, ⟨hk.pt, (fun hl => hk.v31 (hl.resolve_left (by decide))), (fun hl => hk.v32 (hl.resolve_left (by decide))), (fun _ => rfl), (fun hl => hk.v34 (hl.resolve_left (by decide))), (fun hl => hk.v35 (hl.resolve_left (by decide))), (fun hl => hk.v36 (hl.resolve_left (by decide))), (fun hl => hk.v37 (hl.resolve_left (by decide))), (fun hl => hk.v38 (hl.resolve_left (by decide))), (fun hl => hk.v7 (hl.resolve_left (by decide)))⟩⟩
    · obtain rfl := Option.some.inj (show some ({ dst := some 34, op := Op.fieldAddr 31 (Operand.tmp 2) 1, type := 0, pos := "constraint.go:175", after := #[], guard := none } : Oper) = some o from ho)
      unfold fr6
      go_simp
      refine hK.out _ _ ⟨s7, s31, s32, s33, (.pointer (some ⟨T2, 1, none⟩)), s35, s36, s37, s38, rfl, ⟨hk.pt, (fun hl => hk.v31 (hl.resolve_left (by decide))), (fun hl => hk.v32 (hl.resolve_left (by decide))), (fun hl => hk.v33 (hl.resolve_left (by decide))), (fun _ => rfl), (fun hl => hk.v35 (hl.resolve_left (by decide))), (fun hl => hk.v36 (hl.resolve_left (by decide))), (fun hl => hk.v37 (hl.resolve_left (by decide))), (fun hl => hk.v38 (hl.resolve_left (by decide))), (fun hl => hk.v7 (hl.resolve_left (by decide)))⟩⟩
    · obtain rfl := Option.some.inj (show some ({ dst := some 35, op := Op.load 3 (Operand.tmp 34), type := 3, pos := "constraint.go:175", after := #[{ on := 3, ground := Ground.data }], guard := none } : Oper) = some o from ho)
      have g3 := hk.v34 (hdep ⟨3, .data⟩ (by simp) rfl)
      subst g3
      unfold fr6
      go_simp
      refine hK.out _ _ ⟨s7, s31, s32, s33, (.pointer (some ⟨T2, 1, none⟩)), (.int .i64 2), s36, s37, s38, rfl, ⟨hk.pt, (fun hl => hk.v31 (hl.resolve_left (by decide))), (fun hl => hk.v32 (hl.resolve_left (by decide))), (fun hl => hk.v33 (hl.resolve_left (by decide))), (fun hl => hk.v34 (hl.resolve_left (by decide))), (fun _ => rfl), (fun hl => hk.v36 (hl.resolve_left (by decide))), (fun hl => hk.v37 (hl.resolve_left (by decide))), (fun hl => hk.v38 (hl.resolve_left (by decide))), (fun hl => hk.v7 (hl.resolve_left (by decide)))⟩⟩
    · obtain rfl := Option.some.inj (show some ({ dst := some 36, op := Op.binOp BinOp.sub 3 (Operand.const (Value.int IntKind.i64 4)) (Operand.tmp 35) 3, type := 3, pos := "constraint.go:175", after := #[{ on := 4, ground := Ground.data }], guard := none } : Oper) = some o from ho)
      have g4 := hk.v35 (hdep ⟨4, .data⟩ (by simp) rfl)
      subst g4
      unfold fr6
      go_simp
      refine hK.out _ _ ⟨s7, s31, s32, s33, s34, (.int .i64 2), (.int .i64 2), s37, s38, rfl, ⟨hk.pt, (fun hl => hk.v31 (hl.resolve_left (by decide))), (fun hl => hk.v32 (hl.resolve_left (by decide))), (fun hl => hk.v33 (hl.resolve_left (by decide))), (fun hl => hk.v34 (hl.resolve_left (by decide))), (fun hl => hk.v35 (hl.resolve_left (by decide))), (fun _ => rfl), (fun hl => hk.v37 (hl.resolve_left (by decide))), (fun hl => hk.v38 (hl.resolve_left (by decide))), (fun hl => hk.v7 (hl.resolve_left (by decide)))⟩⟩
    · obtain rfl := Option.some.inj (show some ({ dst := some 37, op := Op.call { callee := Callee.value (Operand.func 39), args := #[Operand.tmp 33, Operand.tmp 36], argTypes := #[78, 3] }, type := 3, pos := "constraint.go:175", after := #[{ on := 2, ground := Ground.data }, { on := 5, ground := Ground.data }], guard := none } : Oper) = some o from ho)
      have g2 := hk.v33 (hdep ⟨2, .data⟩ (by simp) rfl)
      have g5 := hk.v36 (hdep ⟨5, .data⟩ (by simp) rfl)
      subst g2 g5
      unfold fr6
      go_simp
      obtain ⟨x, hx⟩ := hk.pt.s
      (go_at_call 39; refine (m17 S x 2 (by omega) (by omega) W hx).mono ?_; rintro e W1 ⟨q, y, rfl, hq2, hw⟩; subst hw; have hk := hk.put y)
      refine hK.out _ _ ⟨s7, s31, s32, (.pointer (some ⟨S, 0, none⟩)), s34, s35, (.int .i64 2), (.int .i64 (q : Nat)), s38, rfl, ⟨hk.pt, (fun hl => hk.v31 (hl.resolve_left (by decide))), (fun hl => hk.v32 (hl.resolve_left (by decide))), (fun hl => hk.v33 (hl.resolve_left (by decide))), (fun hl => hk.v34 (hl.resolve_left (by decide))), (fun hl => hk.v35 (hl.resolve_left (by decide))), (fun hl => hk.v36 (hl.resolve_left (by decide))), (fun _ => ⟨q, hq2, rfl⟩), (fun hl => hk.v38 (hl.resolve_left (by decide))), (fun hl => hk.v7 (hl.resolve_left (by decide)))⟩⟩
    · obtain rfl := Option.some.inj (show some ({ dst := some 38, op := Op.binOp BinOp.add 3 (Operand.tmp 32) (Operand.tmp 37) 3, type := 3, pos := "constraint.go:175", after := #[{ on := 1, ground := Ground.data }, { on := 6, ground := Ground.data }], guard := none } : Oper) = some o from ho)
      have g1 := hk.v32 (hdep ⟨1, .data⟩ (by simp) rfl)
      obtain ⟨q, hq2, g6⟩ := hk.v37 (hdep ⟨6, .data⟩ (by simp) rfl)
      subst g1 g6
      have hqi : (q : Int) < 4 := by omega
      unfold fr6
      go_simp
      rw [wrap_i _ (by omega)]
      refine hK.out _ _ ⟨s7, s31, (.int .i64 2), s33, s34, s35, s36, (.int .i64 (q : Nat)), (.int .i64 (2 + (q : Int))), rfl, ⟨hk.pt, (fun hl => hk.v31 (hl.resolve_left (by decide))), (fun hl => hk.v32 (hl.resolve_left (by decide))), (fun hl => hk.v33 (hl.resolve_left (by decide))), (fun hl => hk.v34 (hl.resolve_left (by decide))), (fun hl => hk.v35 (hl.resolve_left (by decide))), (fun hl => hk.v36 (hl.resolve_left (by decide))), (fun hl => hk.v37 (hl.resolve_left (by decide))), (fun _ => ⟨q, hq2, rfl⟩), (fun hl => hk.v7 (hl.resolve_left (by decide)))⟩⟩
    · obtain rfl := Option.some.inj (show some ({ dst := some 7, op := Op.assign (Operand.tmp 38), type := 3, pos := "constraint.go:175", after := #[{ on := 7, ground := Ground.data }, { on := 6, ground := Ground.chain }, { on := 0, ground := Ground.phase }, { on := 1, ground := Ground.phase }, { on := 2, ground := Ground.phase }, { on := 3, ground := Ground.phase }, { on := 4, ground := Ground.phase }, { on := 5, ground := Ground.phase }, { on := 6, ground := Ground.phase }, { on := 7, ground := Ground.phase }], guard := none } : Oper) = some o from ho)
      obtain ⟨q, hq2, g7⟩ := hk.v38 (hdep ⟨7, .data⟩ (by simp) rfl)
      subst g7
      unfold fr6
      go_simp
      refine hK.out _ _ ⟨(.int .i64 (2 + (q : Int))), s31, s32, s33, s34, s35, s36, s37, (.int .i64 (2 + (q : Int))), rfl, ⟨hk.pt, (fun hl => hk.v31 (hl.resolve_left (by decide))), (fun hl => hk.v32 (hl.resolve_left (by decide))), (fun hl => hk.v33 (hl.resolve_left (by decide))), (fun hl => hk.v34 (hl.resolve_left (by decide))), (fun hl => hk.v35 (hl.resolve_left (by decide))), (fun hl => hk.v36 (hl.resolve_left (by decide))), (fun hl => hk.v37 (hl.resolve_left (by decide))), (fun hl => hk.v38 (hl.resolve_left (by decide))), (fun _ => ⟨q, hq2, rfl⟩)⟩⟩
    · exact absurd (Array.getElem?_eq_some_iff.1 ho).1 (by simp [ops6])
  · intro L a' W hall hI
    obtain ⟨s7, s31, s32, s33, s34, s35, s36, s37, s38, rfl, hk⟩ := hI
    obtain ⟨q, hq, h7⟩ := hk.v7 (hall 8 (by decide))
    exact hQ q _ _ _ _ _ _ _ _ _ W hk.pt hq h7
end Go.Proofs.YtnamjojceadgdaaGreatDoor.Sv
end
section
set_option linter.unusedVariables false
set_option linter.unusedSimpArgs false
/- what PartialText writes is a version in one of its ways -/
namespace Go.Proofs.YtnamjojceadgdaaGreatDoor.Sv
open Go Go.RowKit Rx
set_option maxRecDepth 100000
/-- a version's text of a term -/
def VerTx (t : TV) (V : Bs) : Prop := ∃ q : GT, q.g = t.g.toNat ∧ q.a = t.a ∧ q.b = t.b ∧ q.c = t.c ∧ q.pre = t.pre ∧ wildB q.w1 ∧ (∀ y, q.w2 = some y → wildB y) ∧ (∀ y, q.w3 = some y → wildB y) ∧ (q.g ≤ 1 → q.w2 = none → q.w3 = none) ∧ V = q.ver.text
def vb (v : Bool) : Bs := if v then [118] else []
def mb (m : Bool) : Bs := if m then [43, 98, 46, 48, 49] else []
def pb (p : Bs) : Bs := if p = [] then [] else 45 :: p
theorem gtext_pgrp (p : Bs) : gtext 45 (pgrp p) = pb p := by
  unfold pgrp pb
  split
  · rfl
  · obtain ⟨x, r, e1, e2⟩ := idents_join p.length p (Nat.le_refl _)
    rw [e1]
    exact congrArg (45 :: ·) e2.symm
theorem gtext_mgrp (m : Bool) : gtext 43 (mgrp m) = mb m := by cases m <;> simp [mgrp, mb, gtext, dots]
theorem vertx0 (t : TV) (hg : t.g = 0) (v : Bool) (w1 : Bs) (l : List Bs) (h1 : wildB w1) (hl : ∀ y ∈ l, wildB y) (hn : l.length ≤ 2) : VerTx t (vb v ++ (w1 ++ dots l)) := by
  match l, hn with
  | [], _ => exact ⟨⟨[], [], 0, v, false, false, false, w1, none, none, t.a, t.b, t.c, t.pre, false⟩, by simp [hg], rfl, rfl, rfl, rfl, h1, by simp, by simp, by simp, by simp [GT.ver, Ver.text, ptext, gtext, dots, vb]⟩
  | [w2], _ => exact ⟨⟨[], [], 0, v, false, false, false, w1, some w2, none, t.a, t.b, t.c, t.pre, false⟩, by simp [hg], rfl, rfl, rfl, rfl, h1, fun y hy => by obtain rfl := Option.some.inj hy; exact hl _ (by simp), by simp, by simp, by simp [GT.ver, Ver.text, ptext, gtext, dots, vb]⟩
  | [w2, w3], _ => exact ⟨⟨[], [], 0, v, false, false, false, w1, some w2, some w3, t.a, t.b, t.c, t.pre, false⟩, by simp [hg], rfl, rfl, rfl, rfl, h1, fun y hy => by obtain rfl := Option.some.inj hy; exact hl _ (by simp), fun y hy => by obtain rfl := Option.some.inj hy; exact hl _ (by simp), by simp, by simp [GT.ver, Ver.text, ptext, gtext, dots, vb]⟩
theorem wx1 : wildB [120] := .inl rfl
theorem vertx1 (t : TV) (hg : t.g = 1) (v z1 : Bool) (l : List Bs) (hl : ∀ y ∈ l, wildB y) (hn : l.length ≤ 2) : VerTx t (vb v ++ (num z1 t.a ++ dots l)) := by
  match l, hn with
  | [], _ => exact ⟨⟨[], [], 1, v, z1, false, false, [120], none, none, t.a, t.b, t.c, t.pre, false⟩, by simp [hg], rfl, rfl, rfl, rfl, wx1, by simp, by simp, by simp, by simp [GT.ver, Ver.text, ptext, gtext, dots, vb]⟩
  | [w2], _ => exact ⟨⟨[], [], 1, v, z1, false, false, [120], some w2, none, t.a, t.b, t.c, t.pre, false⟩, by simp [hg], rfl, rfl, rfl, rfl, wx1, fun y hy => by obtain rfl := Option.some.inj hy; exact hl _ (by simp), by simp, by simp, by simp [GT.ver, Ver.text, ptext, gtext, dots, vb]⟩
  | [w2, w3], _ => exact ⟨⟨[], [], 1, v, z1, false, false, [120], some w2, some w3, t.a, t.b, t.c, t.pre, false⟩, by simp [hg], rfl, rfl, rfl, rfl, wx1, fun y hy => by obtain rfl := Option.some.inj hy; exact hl _ (by simp), fun y hy => by obtain rfl := Option.some.inj hy; exact hl _ (by simp), by simp, by simp [GT.ver, Ver.text, ptext, gtext, dots, vb]⟩
theorem vertx2 (t : TV) (hg : t.g = 2) (v z1 z2 : Bool) (l : List Bs) (hl : ∀ y ∈ l, wildB y) (hn : l.length ≤ 1) : VerTx t (vb v ++ (num z1 t.a ++ dots (num z2 t.b :: l))) := by
  match l, hn with
  | [], _ => exact ⟨⟨[], [], 2, v, z1, z2, false, [120], none, none, t.a, t.b, t.c, t.pre, false⟩, by simp [hg], rfl, rfl, rfl, rfl, wx1, by simp, by simp, by simp, by simp [GT.ver, Ver.text, ptext, gtext, dots, vb]⟩
  | [w3], _ => exact ⟨⟨[], [], 2, v, z1, z2, false, [120], none, some w3, t.a, t.b, t.c, t.pre, false⟩, by simp [hg], rfl, rfl, rfl, rfl, wx1, by simp, fun y hy => by obtain rfl := Option.some.inj hy; exact hl _ (by simp), by simp, by simp [GT.ver, Ver.text, ptext, gtext, dots, vb]⟩
theorem vertx3 (t : TV) (hg : t.g = 3) (v z1 z2 z3 m : Bool) : VerTx t (((vb v ++ (num z1 t.a ++ dots [num z2 t.b, num z3 t.c])) ++ pb t.pre) ++ mb m) :=
  ⟨⟨[], [], 3, v, z1, z2, z3, [120], none, none, t.a, t.b, t.c, t.pre, m⟩, by simp [hg], rfl, rfl, rfl, rfl, wx1, by simp, by simp, by simp, by simp [GT.ver, Ver.text, ptext, gtext_pgrp, gtext_mgrp, dots, vb]⟩
/-- the pieces so far -/
def PJ : List Bs → Bs
  | [] => []
  | x :: l => x ++ dots l
theorem PJ_snoc (x : Bs) (l : List Bs) (p : Bs) : PJ (x :: l ++ [p]) = PJ (x :: l) ++ (46 :: p) := by simp [PJ, dots]
/-- the pieces of a term with g numbers given -/
structure PcsOk (t : TV) (g : Nat) (L : List Bs) : Prop where
  n0 : ∀ p, L[0]? = some p → 0 < g → ∃ z, p = num z t.a
  n1 : ∀ p, L[1]? = some p → 1 < g → ∃ z, p = num z t.b
  n2 : ∀ p, L[2]? = some p → 2 < g → ∃ z, p = num z t.c
  w : ∀ j p, L[j]? = some p → g ≤ j → wildB p
theorem pieces_tx (t : TV) (g : Nat) (hg : t.g = (g : Nat)) (hg3 : g ≤ 3) (hp : g < 3 → t.pre = []) (v m : Bool) (hm : g < 3 → m = false) (L : List Bs) (h : PcsOk t g L) (h1 : 1 ≤ L.length) (h3 : L.length ≤ 3) (hgl : g ≤ L.length) : VerTx t (((vb v ++ PJ L) ++ pb t.pre) ++ mb m) := by
  have hlow : g < 3 → pb t.pre = [] ∧ mb m = [] := fun h => by rw [hp h, hm h]; exact ⟨rfl, rfl⟩
  match L, h1 with
  | x :: l, _ =>
    have hgc : g = 0 ∨ g = 1 ∨ g = 2 ∨ g = 3 := by omega
    rcases hgc with rfl | rfl | rfl | rfl
    · obtain ⟨e1, e2⟩ := hlow (by omega)
      rw [e1, e2, List.append_nil, List.append_nil]
      exact vertx0 t hg v x l (h.w 0 x rfl (Nat.le_refl _)) (fun y hy => by
        obtain ⟨j, hj, rfl⟩ := List.getElem_of_mem hy
        exact h.w (j + 1) _ (by simp) (by omega)) (by simp at h3; omega)
    · obtain ⟨e1, e2⟩ := hlow (by omega)
      rw [e1, e2, List.append_nil, List.append_nil]
      obtain ⟨z, rfl⟩ := h.n0 x rfl (by omega)
      exact vertx1 t hg v z l (fun y hy => by
        obtain ⟨j, hj, rfl⟩ := List.getElem_of_mem hy
        exact h.w (j + 1) _ (by simp) (by omega)) (by simp at h3; omega)
    · obtain ⟨e1, e2⟩ := hlow (by omega)
      rw [e1, e2, List.append_nil, List.append_nil]
      obtain ⟨z, rfl⟩ := h.n0 x rfl (by omega)
      match l, hgl with
      | y :: l, _ =>
        obtain ⟨z2, rfl⟩ := h.n1 y rfl (by omega)
        exact vertx2 t hg v z z2 l (fun y hy => by
          obtain ⟨j, hj, rfl⟩ := List.getElem_of_mem hy
          exact h.w (j + 2) _ (by simp) (by omega)) (by simp at h3; omega)
    · obtain ⟨z, rfl⟩ := h.n0 x rfl (by omega)
      match l, hgl, h3 with
      | [y, y2], _, _ =>
        obtain ⟨z2, rfl⟩ := h.n1 y rfl (by omega)
        obtain ⟨z3, rfl⟩ := h.n2 y2 rfl (by omega)
        exact vertx3 t hg v z z2 z3 m
end Go.Proofs.YtnamjojceadgdaaGreatDoor.Sv
end
section
set_option linter.unusedVariables false
set_option linter.unusedSimpArgs false
/- PartialText -/
namespace Go.Proofs.YtnamjojceadgdaaGreatDoor.Sv
open Go Go.RowKit Rx
set_option maxRecDepth 100000
def vrow4 : Obj := .cells #[.string ⟨#[]⟩, .string ⟨#[]⟩, .string ⟨#[]⟩, .string ⟨#[118]⟩] 9 (0, 0)
theorem new2' (w : World) (o1 : Obj) (xs : Array Value) (t : TypeId) : ((w.alloc o1).alloc (.cells xs t (0, 0))).heap[w.heap.size + 1]? = some (.cells xs t (0, 0)) := by
  have h := heap_alloc_new (w.alloc o1) (.cells xs t (0, 0))
  rwa [World.size_alloc] at h
theorem v4cell {W : World} {P q : Nat} (h : W.heap[P]? = some vrow4) (hq : q < 4) : ∃ v : Bool, W.cell? ⟨P, q, none⟩ = some (.string (bytesOf (vb v))) := by
  have h' : q = 0 ∨ q = 1 ∨ q = 2 ∨ q = 3 := by omega
  unfold vrow4 at h
  rcases h' with rfl | rfl | rfl | rfl
  all_goals first
    | exact ⟨false, cell_of_row _ _ _ _ _ _ h⟩
    | exact ⟨true, cell_of_row _ _ _ _ _ _ h⟩
theorem PT.setg {w : World} {S N5 T2 : Nat} {t : TV} {W : World} (h : PT w S N5 T2 t W) (hN : N5 ≠ T2) : PT w S N5 T2 t (W.setCell ⟨T2, 1, none⟩ (.int .i64 t.g)) := by
  obtain ⟨x, hx⟩ := h.s
  have hl := h.l
  exact ⟨(heap_setCell_other _ _ _ _ (by show N5 ≠ T2; omega)).trans h.n5, heap_setCell_same _ _ 1 _ _ _ h.t2, ⟨x, (heap_setCell_other _ _ _ _ (by show S ≠ T2; omega)).trans hx⟩, h.b.setCell (p := ⟨T2, 1, none⟩) (by show S ≤ T2; omega) _, by simp; exact hl⟩
theorem PcsOk.snoc {t : TV} {g : Nat} {L : List Bs} (h : PcsOk t g L) (p : Bs) (h0 : L.length = 0 → 0 < g → ∃ z, p = num z t.a) (h1 : L.length = 1 → 1 < g → ∃ z, p = num z t.b) (h2 : L.length = 2 → 2 < g → ∃ z, p = num z t.c) (hw : g ≤ L.length → wildB p) : PcsOk t g (L ++ [p]) := by
  have key : ∀ j y, (L ++ [p])[j]? = some y → L[j]? = some y ∨ (j = L.length ∧ y = p) := fun j y hy => by
    rw [List.getElem?_append] at hy
    split at hy
    · exact .inl hy
    · have hj : j - L.length = 0 := by
        have := (List.getElem?_eq_some_iff.1 hy).1
        simp at this; omega
      rw [hj] at hy
      exact .inr ⟨by omega, by simpa using hy.symm⟩
  refine ⟨fun y hy hg => ?_, fun y hy hg => ?_, fun y hy hg => ?_, fun j y hy hg => ?_⟩
  · rcases key _ _ hy with h3 | ⟨h3, rfl⟩
    · exact h.n0 y h3 hg
    · exact h0 h3.symm hg
  · rcases key _ _ hy with h3 | ⟨h3, rfl⟩
    · exact h.n1 y h3 hg
    · exact h1 h3.symm hg
  · rcases key _ _ hy with h3 | ⟨h3, rfl⟩
    · exact h.n2 y h3 hg
    · exact h2 h3.symm hg
  · rcases key _ _ hy with h3 | ⟨h3, rfl⟩
    · exact h.w j y h3 hg
    · exact hw (by omega)
theorem PJ_step (v : Bool) (L : List Bs) (p : Bs) : (L = [] → (vb v ++ PJ L) ++ p = vb v ++ PJ (L ++ [p])) ∧ (L ≠ [] → (vb v ++ PJ L ++ [46]) ++ p = vb v ++ PJ (L ++ [p])) := by
  constructor
  · rintro rfl; simp [PJ, dots]
  · intro h
    match L, h with
    | x :: l, _ => rw [PJ_snoc]; simp
def mrow8 : Obj := .cells #[.string ⟨#[]⟩, .string ⟨#[]⟩, .string ⟨#[]⟩, .string ⟨#[]⟩, .string ⟨#[]⟩, .string ⟨#[]⟩, .string ⟨#[]⟩, .string ⟨#[43, 98, 46, 48, 49]⟩] 9 (0, 0)
theorem m8cell {W : World} {P q : Nat} (h : W.heap[P]? = some mrow8) (hq : q < 8) : ∃ m : Bool, W.cell? ⟨P, q, none⟩ = some (.string (bytesOf (mb m))) := by
  have h' : q = 0 ∨ q = 1 ∨ q = 2 ∨ q = 3 ∨ q = 4 ∨ q = 5 ∨ q = 6 ∨ q = 7 := by omega
  unfold mrow8 at h
  rcases h' with rfl | rfl | rfl | rfl | rfl | rfl | rfl | rfl
  all_goals first
    | exact ⟨false, cell_of_row _ _ _ _ _ _ h⟩
    | exact ⟨true, cell_of_row _ _ _ _ _ _ h⟩
set_option maxHeartbeats 8000000 in
theorem m51_3 (op : Int) (a b c : Nat) (pre : Bs) (ha : a < 18446744073709551616) (hb : b < 18446744073709551616) (hc : c < 18446744073709551616) (hpl : pre.length ≤ 2147483647) (S : Nat) (x : Int) (w : World) (hS : w.heap[S]? = some (.cells #[.int .u64 x] 116 (0, 0))) :
    Calls Tryz.prog 90 #[.agg #[.int .i64 op, .int .i64 3, .int .u64 a, .int .u64 b, .int .u64 c, .string (bytesOf pre)], .pointer (some ⟨S, 0, none⟩)] w fun e w' => ∃ V, e = .returned (.string (bytesOf V)) ∧ VerTx ⟨op, 3, a, b, c, pre⟩ V ∧ Below S w w' ∧ ∃ y : Int, w'.heap[S]? = some (.cells #[.int .u64 y] 116 (0, 0)) := by
  have hSl := (Array.getElem?_eq_some_iff.1 hS).1
  have HH := Lib.hid (And.intro ha (And.intro hb (And.intro hc hpl)))
  have hal1 := (Below.refl _ w).alloc (Nat.le_refl _) (.cells #[.int .i64 op, .int .i64 3, .int .u64 a, .int .u64 b, .int .u64 c, .string (bytesOf pre)] 31)
  have hal2 := hal1.alloc hal1.size (.cells #[.int .u64 a, .int .u64 b, .int .u64 c] 23)
  have H0 : PT w S (w.heap.size + 1) w.heap.size ⟨op, 3, a, b, c, pre⟩ ((w.alloc (.cells #[.int .i64 op, .int .i64 3, .int .u64 a, .int .u64 b, .int .u64 c, .string (bytesOf pre)] 31)).alloc (.cells #[.int .u64 a, .int .u64 b, .int .u64 c] 23)) :=
    ⟨new2' w _ _ _, jblk' ((Below.refl _ _).alloc (Nat.le_refl _) _) (heap_alloc_new w _), ⟨x, jblk' hal2 hS⟩, hal2.mono (Nat.le_of_lt hSl), by simp; omega⟩
  clear ha hb hc hpl hal1 hal2 hS
  go_enter Tryz.func90, Tryz.ntmps90
  go_upto_region 2 with fail
  generalize (w.alloc (.cells #[.int .i64 op, .int .i64 3, .int .u64 a, .int .u64 b, .int .u64 c, .string (bytesOf pre)] 31)).alloc (.cells #[.int .u64 a, .int .u64 b, .int .u64 c] 23) = w0 at *
  generalize hN5 : w.heap.size + 1 = N5 at *
  generalize hT2 : w.heap.size = T2 at *
  have H1 := H0.keep ((Below.refl _ _).alloc (Nat.le_refl _) vrow4)
  have hrow := heap_alloc_new w0 vrow4
  have hP : w0.heap.size ≠ S := by have := H0.l; omega
  obtain ⟨x1, hx1⟩ := H1.s
  have HX := Lib.hid hx1
  unfold vrow4 at H1 hrow hx1
  have HPT := Lib.hid (fun y => H1.put y)
  have HRW := Lib.hid (fun y : Int => (show ((w0.alloc (.cells #[.string ⟨#[]⟩, .string ⟨#[]⟩, .string ⟨#[]⟩, .string ⟨#[118]⟩] 9)).setCell ⟨S, 0, none⟩ (.int .u64 y)).heap[w0.heap.size]? = (w0.alloc (.cells #[.string ⟨#[]⟩, .string ⟨#[]⟩, .string ⟨#[]⟩, .string ⟨#[118]⟩] 9)).heap[w0.heap.size]? from heap_setCell_other _ _ _ _ hP).trans hrow)
  have HM := Lib.hid (m17 S x1 4 (by omega) (by omega) _ hx1)
  clear H0 H1 hrow hx1 HX
  go_upto_region 3 with (go_at_call 39; refine HM.out.mono ?_; rintro e w1 ⟨q, y, rfl, hq, hw⟩; have H2 := HPT.out y; have hr2 := HRW.out y; rw [← hw] at H2 hr2; obtain ⟨v, hv⟩ := v4cell hr2 hq; have hqi : (q : Int) < 4 := (by omega); clear hw hr2)
  have q1 : w1.cell? ⟨T2, 1, none⟩ = some (.int .i64 3) := cell_of_row _ _ 1 _ _ _ H2.t2
  have fz := fun k => frozen_of_row _ _ k _ _ H2.t2
  go_upto_region 4 with fail
  rw [show (max 0 3 : Int) = 3 from rfl]
  have H3 : PT w S N5 T2 ⟨op, 3, a, b, c, pre⟩ (w1.setCell ⟨T2, 1, none⟩ (.int .i64 3)) := H2.setg (by omega)
  generalize w1.setCell ⟨T2, 1, none⟩ (.int .i64 3) = w2 at *
  clear H2 q1 fz hv HPT HRW HM
  have q1 : w2.cell? ⟨T2, 1, none⟩ = some (.int .i64 3) := cell_of_row _ _ 1 _ _ _ H3.t2
  go_upto_region 8 with fail
  rw [show (max 1 3 : Int) = 3 from rfl]
  have HP3 := Lib.hid H3
  clear q1 H3
  go_wp2
  go_loopw [6, 42] (fun tv iv W => ∃ (k : Nat) (L : List Bs), iv = .int .i64 (k : Nat) ∧ tv = .string (bytesOf (vb v ++ PJ L)) ∧ k ≤ 3 ∧ L.length = k ∧ Hid (PcsOk ⟨op, 3, a, b, c, pre⟩ 3 L ∧ (vb v ++ PJ L).length ≤ 1 + 22 * k ∧ PT w S N5 T2 ⟨op, 3, a, b, c, pre⟩ W)) (fun _ iv _ => 3 - (intOf iv).toNat)
  case atStart => exact ⟨0, [], rfl, by simp [PJ], by omega, rfl, Lib.hid ⟨⟨by simp, by simp, by simp, by simp⟩, by cases v <;> simp [vb, PJ], HP3.out⟩⟩
  case round =>
    obtain ⟨k, L, rfl, rfl, hk, hL, HI⟩ := hrel
    have hkc : k = 0 ∨ k = 1 ∨ k = 2 ∨ k = 3 := by omega
    have q1 : wr.cell? ⟨T2, 1, none⟩ = some (.int .i64 3) := cell_of_row _ _ 1 _ _ _ HI.out.2.2.t2
    rcases hkc with rfl | rfl | rfl | rfl
    · have hsz : (bytesOf (vb v ++ PJ L)).size < 200 := by rw [bytesOf_size]; have := HI.out.2.1; omega
      go_upto_region 14 with fail

      refine region14 _ _ _ _ _ _ _ _ _ _ _ _ _ _ _ _ _ _ _ _ _ _ _ _ _ _ _ _ _ _ _ _ _ _ _ _ _ _ _ _ _ _ _ _ _ _ _ _ _ _ _ _ _ _ _ _ _ _ _ _ _ _ _ _ _ _ _ _ _ _ _ _ _ _ _ _ _ _ _ _ _ _ _ _ _ _ _ _ _ _ (hpt := HI.out.2.2) (i := 0) (n := a) (tx := vb v ++ PJ L) (hi := by omega) (hn := by simp) (hn64 := by have := HH.out; omega) (htx := by have := HI.out.2.1; simp at this ⊢; omega) (h6 := rfl) (hQ := fun z s6 s53 s54 s55 s56 s57 s58 s59 s60 s61 s62 s63 s64 s65 W hW h6 => ?_)
      subst h6
      unfold fr14
      have hnl := num_len z a (by have := HH.out; omega)
      have hpj := (PJ_step v L (num z a)).1 (List.length_eq_zero_iff.1 hL)
      have HK := Lib.hid (And.intro hnl hpj)
      clear hnl hpj
      rw [HK.out.2]
      go_wp2
      refine ⟨⟨1, L ++ [num z a], rfl, rfl, by omega, by rw [List.length_append, hL]; rfl, Lib.hid ⟨HI.out.1.snoc _ (fun h _ => ⟨z, rfl⟩) (fun h _ => by omega) (fun h _ => by omega) (fun h => by omega), ?_, hW⟩⟩, by simp [intOf]⟩
      have h1 := HI.out.2.1
      have h2 := HK.out.1
      rw [← HK.out.2]
      simp at h1 ⊢
      omega
    · have hsz : (bytesOf (vb v ++ PJ L)).size < 200 := by rw [bytesOf_size]; have := HI.out.2.1; omega
      go_upto_region 14 with fail
      rw [show (⟨#[46]⟩ : ByteArray) = bytesOf [46] from rfl, bytes_add]
      refine region14 _ _ _ _ _ _ _ _ _ _ _ _ _ _ _ _ _ _ _ _ _ _ _ _ _ _ _ _ _ _ _ _ _ _ _ _ _ _ _ _ _ _ _ _ _ _ _ _ _ _ _ _ _ _ _ _ _ _ _ _ _ _ _ _ _ _ _ _ _ _ _ _ _ _ _ _ _ _ _ _ _ _ _ _ _ _ _ _ _ _ (hpt := HI.out.2.2) (i := 1) (n := b) (tx := vb v ++ PJ L ++ [46]) (hi := by omega) (hn := by simp) (hn64 := by have := HH.out; omega) (htx := by have := HI.out.2.1; simp at this ⊢; omega) (h6 := rfl) (hQ := fun z s6 s53 s54 s55 s56 s57 s58 s59 s60 s61 s62 s63 s64 s65 W hW h6 => ?_)
      subst h6
      unfold fr14
      have hnl := num_len z b (by have := HH.out; omega)
      have hpj := (PJ_step v L (num z b)).2 (fun e => by rw [e] at hL; simp at hL)
      have HK := Lib.hid (And.intro hnl hpj)
      clear hnl hpj
      rw [HK.out.2]
      go_wp2
      refine ⟨⟨2, L ++ [num z b], rfl, rfl, by omega, by rw [List.length_append, hL]; rfl, Lib.hid ⟨HI.out.1.snoc _ (fun h _ => by omega) (fun h _ => ⟨z, rfl⟩) (fun h _ => by omega) (fun h => by omega), ?_, hW⟩⟩, by simp [intOf]⟩
      have h1 := HI.out.2.1
      have h2 := HK.out.1
      rw [← HK.out.2]
      simp at h1 ⊢
      omega
    · have hsz : (bytesOf (vb v ++ PJ L)).size < 200 := by rw [bytesOf_size]; have := HI.out.2.1; omega
      go_upto_region 14 with fail
      rw [show (⟨#[46]⟩ : ByteArray) = bytesOf [46] from rfl, bytes_add]
      refine region14 _ _ _ _ _ _ _ _ _ _ _ _ _ _ _ _ _ _ _ _ _ _ _ _ _ _ _ _ _ _ _ _ _ _ _ _ _ _ _ _ _ _ _ _ _ _ _ _ _ _ _ _ _ _ _ _ _ _ _ _ _ _ _ _ _ _ _ _ _ _ _ _ _ _ _ _ _ _ _ _ _ _ _ _ _ _ _ _ _ _ (hpt := HI.out.2.2) (i := 2) (n := c) (tx := vb v ++ PJ L ++ [46]) (hi := by omega) (hn := by simp) (hn64 := by have := HH.out; omega) (htx := by have := HI.out.2.1; simp at this ⊢; omega) (h6 := rfl) (hQ := fun z s6 s53 s54 s55 s56 s57 s58 s59 s60 s61 s62 s63 s64 s65 W hW h6 => ?_)
      subst h6
      unfold fr14
      have hnl := num_len z c (by have := HH.out; omega)
      have hpj := (PJ_step v L (num z c)).2 (fun e => by rw [e] at hL; simp at hL)
      have HK := Lib.hid (And.intro hnl hpj)
      clear hnl hpj
      rw [HK.out.2]
      go_wp2
      refine ⟨⟨3, L ++ [num z c], rfl, rfl, by omega, by rw [List.length_append, hL]; rfl, Lib.hid ⟨HI.out.1.snoc _ (fun h _ => by omega) (fun h _ => by omega) (fun h _ => ⟨z, rfl⟩) (fun h => by omega), ?_, hW⟩⟩, by simp [intOf]⟩
      have h1 := HI.out.2.1
      have h2 := HK.out.1
      rw [← HK.out.2]
      simp at h1 ⊢
      omega
    · have q5 : wr.cell? ⟨T2, 5, none⟩ = some (.string (bytesOf pre)) := cell_of_row _ _ 5 _ _ _ HI.out.2.2.t2
      have e1 := bytesOf_toList pre
      have hsz : (bytesOf (vb v ++ PJ L)).size < 200 := by rw [bytesOf_size]; have := HI.out.2.1; omega
      have hsp : (bytesOf pre).size ≤ 2147483647 := by rw [bytesOf_size]; exact HH.out.2.2.2
      by_cases hp : pre = []
      · have d5 : (pre == ([] : Bs)) = true := by rw [hp]; rfl
        have HPP := Lib.hid hp
        clear hp
        go_upto_region 20 with fail
        have H1 := HI.out.2.2.keep ((Below.refl _ _).alloc (Nat.le_refl _) mrow8)
        have hrow := heap_alloc_new wr mrow8
        have hP : wr.heap.size ≠ S := by have := HI.out.2.2.l; omega
        obtain ⟨x1, hx1⟩ := H1.s
        unfold mrow8 at H1 hrow hx1
        have HPT := Lib.hid (fun y => H1.put y)
        have HRW := Lib.hid (fun y : Int => (show ((wr.alloc (.cells #[.string ⟨#[]⟩, .string ⟨#[]⟩, .string ⟨#[]⟩, .string ⟨#[]⟩, .string ⟨#[]⟩, .string ⟨#[]⟩, .string ⟨#[]⟩, .string ⟨#[43, 98, 46, 48, 49]⟩] 9)).setCell ⟨S, 0, none⟩ (.int .u64 y)).heap[wr.heap.size]? = (wr.alloc (.cells #[.string ⟨#[]⟩, .string ⟨#[]⟩, .string ⟨#[]⟩, .string ⟨#[]⟩, .string ⟨#[]⟩, .string ⟨#[]⟩, .string ⟨#[]⟩, .string ⟨#[43, 98, 46, 48, 49]⟩] 9)).heap[wr.heap.size]? from heap_setCell_other _ _ _ _ hP).trans hrow)
        have HM := Lib.hid (m17 S x1 8 (by omega) (by omega) _ hx1)
        clear H1 hrow hx1
        go_wp2_with (go_at_call 39; refine HM.out.mono ?_; rintro e w9 ⟨q9, y, rfl, hq9, hw⟩; have H2 := HPT.out y; have hr2 := HRW.out y; rw [← hw] at H2 hr2; obtain ⟨m, hm⟩ := m8cell hr2 hq9; have hqi9 : (q9 : Int) < 8 := (by omega); have zm : (bytesOf (mb m)).size ≤ 5 := (by rw [bytesOf_size]; cases m <;> simp [mb]); have HF := Lib.hid H2; clear hw hr2 H2)
        go_ret
        have hv := pieces_tx ⟨op, 3, a, b, c, pre⟩ 3 rfl (by omega) (by omega) v m (by omega) L HI.out.1 (by omega) (by omega) (by omega)
        refine ⟨_, ?_, hv, HF.out.b, HF.out.s⟩
        simp only [bytes_add, pb]
        rw [if_pos HPP.out]
        simp
      · have d5 : (pre == ([] : Bs)) = false := by cases pre with | nil => exact absurd rfl hp | cons y l => rfl
        have HPP := Lib.hid hp
        clear hp
        go_upto_region 20 with fail
        rw [show (⟨#[45]⟩ : ByteArray) = bytesOf [45] from rfl, bytes_add, bytes_add]
        have hs2 : (bytesOf (vb v ++ PJ L ++ ([45] ++ pre))).size < 2147484000 := by rw [bytesOf_size]; have h1 := HI.out.2.1; have h2 := HH.out.2.2.2; simp at h1 ⊢; omega
        obtain ⟨Y, hY⟩ : ∃ Y, Y = vb v ++ PJ L ++ ([45] ++ pre) := ⟨_, rfl⟩
        rw [← hY] at hs2 ⊢
        have HYY := Lib.hid hY
        clear hY
        have H1 := HI.out.2.2.keep ((Below.refl _ _).alloc (Nat.le_refl _) mrow8)
        have hrow := heap_alloc_new wr mrow8
        have hP : wr.heap.size ≠ S := by have := HI.out.2.2.l; omega
        obtain ⟨x1, hx1⟩ := H1.s
        unfold mrow8 at H1 hrow hx1
        have HPT := Lib.hid (fun y => H1.put y)
        have HRW := Lib.hid (fun y : Int => (show ((wr.alloc (.cells #[.string ⟨#[]⟩, .string ⟨#[]⟩, .string ⟨#[]⟩, .string ⟨#[]⟩, .string ⟨#[]⟩, .string ⟨#[]⟩, .string ⟨#[]⟩, .string ⟨#[43, 98, 46, 48, 49]⟩] 9)).setCell ⟨S, 0, none⟩ (.int .u64 y)).heap[wr.heap.size]? = (wr.alloc (.cells #[.string ⟨#[]⟩, .string ⟨#[]⟩, .string ⟨#[]⟩, .string ⟨#[]⟩, .string ⟨#[]⟩, .string ⟨#[]⟩, .string ⟨#[]⟩, .string ⟨#[43, 98, 46, 48, 49]⟩] 9)).heap[wr.heap.size]? from heap_setCell_other _ _ _ _ hP).trans hrow)
        have HM := Lib.hid (m17 S x1 8 (by omega) (by omega) _ hx1)
        clear H1 hrow hx1
        go_wp2_with (go_at_call 39; refine HM.out.mono ?_; rintro e w9 ⟨q9, y, rfl, hq9, hw⟩; have H2 := HPT.out y; have hr2 := HRW.out y; rw [← hw] at H2 hr2; obtain ⟨m, hm⟩ := m8cell hr2 hq9; have hqi9 : (q9 : Int) < 8 := (by omega); have zm : (bytesOf (mb m)).size ≤ 5 := (by rw [bytesOf_size]; cases m <;> simp [mb]); have HF := Lib.hid H2; clear hw hr2 H2)
        go_ret
        have hv := pieces_tx ⟨op, 3, a, b, c, pre⟩ 3 rfl (by omega) (by omega) v m (by omega) L HI.out.1 (by omega) (by omega) (by omega)
        refine ⟨_, ?_, hv, HF.out.b, HF.out.s⟩
        simp only [bytes_add, pb]
        rw [HYY.out, if_neg HPP.out]
        rfl
end Go.Proofs.YtnamjojceadgdaaGreatDoor.Sv
end
