/- FnSemverTilde: for every two versions, number and wildcard the law's function returns true and leaves its arguments as they were; no condition is added, the statement is the given tied card. -/
import Derived.Test.YtpbmbaffncnglaaGreatDoorNJ
import Derived.Deep.CutRange
import Derived.Test.YtpbmbaffncnglaaGreatDoorRows
import Derived.Test.YtpbmbaffncnglaaGreatDoorCards
import Derived.Test.YtpbmbaffncnglaaGreatDoorTie
import Derived.WalkKit
import Derived.ProofKit
import Derived.OpenShut
import Derived.ShutString
import Derived.ChangeOld
import Derived.Below
import Derived.SizedLaws
import Derived.Lib.SmallJoins
import Derived.Deep.Grids
import Derived.ChangeMaps5
import Derived.LaidMore
import Derived.Lay
import Derived.SevenTiedAt
import Derived.Stop.Joined
import Derived.Lib.LaidU8
section
set_option linter.unusedVariables false
set_option linter.unusedSimpArgs false
/- the law's variables; two regions that draw their order -/
namespace Go.Proofs.YtpbmbaffncnglaaGreatDoor.Sv
open Go Go.RowKit Rx
set_option maxRecDepth 100000
/-- what the law's two versions hold -/
structure LT (w : World) (T4 T7 a b c x y z : Nat) (p m pv mv : ByteArray) (W : World) : Prop where
  t4 : W.heap[T4]? = some (.cells #[.int .u64 a, .int .u64 b, .int .u64 c, .string p, .string m] 24 (0, 0))
  t7 : W.heap[T7]? = some (.cells #[.int .u64 x, .int .u64 y, .int .u64 z, .string pv, .string mv] 24 (0, 0))
  tabs : Lib.Utf8Tabs 11 12 W
  b : Below w.heap.size w W
  l4 : w.heap.size ≤ T4
  l7 : w.heap.size ≤ T7
  ne : T4 ≠ T7
theorem LT.keep {w : World} {T4 T7 a b c x y z : Nat} {p m pv mv : ByteArray} {W W' : World} (h : LT w T4 T7 a b c x y z p m pv mv W) (hb : Below W.heap.size W W') : LT w T4 T7 a b c x y z p m pv mv W' :=
  ⟨jblk hb h.t4, jblk hb h.t7, Utf8Tabs_below h.tabs hb, h.b.trans (hb.mono h.b.size), h.l4, h.l7, h.ne⟩
theorem LT.cells4 {w : World} {T4 T7 a b c x y z : Nat} {p m pv mv : ByteArray} {W : World} (h : LT w T4 T7 a b c x y z p m pv mv W) : W.cell? ⟨T4, 0, none⟩ = some (.int .u64 a) ∧ W.cell? ⟨T4, 1, none⟩ = some (.int .u64 b) ∧ W.cell? ⟨T4, 2, none⟩ = some (.int .u64 c) ∧ W.cell? ⟨T4, 3, none⟩ = some (.string p) ∧ W.cell? ⟨T4, 4, none⟩ = some (.string m) :=
  ⟨cell_of_row _ _ 0 _ _ _ h.t4, cell_of_row _ _ 1 _ _ _ h.t4, cell_of_row _ _ 2 _ _ _ h.t4, cell_of_row _ _ 3 _ _ _ h.t4, cell_of_row _ _ 4 _ _ _ h.t4⟩
theorem LT.cells7 {w : World} {T4 T7 a b c x y z : Nat} {p m pv mv : ByteArray} {W : World} (h : LT w T4 T7 a b c x y z p m pv mv W) : W.cell? ⟨T7, 0, none⟩ = some (.int .u64 x) ∧ W.cell? ⟨T7, 1, none⟩ = some (.int .u64 y) ∧ W.cell? ⟨T7, 2, none⟩ = some (.int .u64 z) ∧ W.cell? ⟨T7, 3, none⟩ = some (.string pv) ∧ W.cell? ⟨T7, 4, none⟩ = some (.string mv) :=
  ⟨cell_of_row _ _ 0 _ _ _ h.t7, cell_of_row _ _ 1 _ _ _ h.t7, cell_of_row _ _ 2 _ _ _ h.t7, cell_of_row _ _ 3 _ _ _ h.t7, cell_of_row _ _ 4 _ _ _ h.t7⟩
def ops7 : Array Oper := #[{ dst := some 52, op := Op.load 24 (Operand.tmp 4), type := 24, pos := "semver_check.go:327", after := #[], guard := none }, { dst := some 53, op := Op.move (Operand.tmp 1), type := 3, pos := "semver_check.go:327", after := #[], guard := none }, { dst := some 54, op := Op.call { callee := Callee.value (Operand.func 8), args := #[Operand.tmp 52, Operand.tmp 53], argTypes := #[24, 3] }, type := 9, pos := "semver_check.go:327", after := #[{ on := 0, ground := Ground.data }, { on := 1, ground := Ground.data }], guard := none }, { dst := some 55, op := Op.fieldAddr 24 (Operand.tmp 4) 0, type := 0, pos := "semver_check.go:327", after := #[], guard := none }, { dst := some 56, op := Op.load 22 (Operand.tmp 55), type := 22, pos := "semver_check.go:327", after := #[{ on := 3, ground := Ground.data }], guard := none }, { dst := some 57, op := Op.binOp BinOp.add 22 (Operand.tmp 56) (Operand.const (Value.int IntKind.u64 1)) 22, type := 22, pos := "semver_check.go:327", after := #[{ on := 4, ground := Ground.data }], guard := none }, { dst := some 58, op := Op.call { callee := Callee.value (Operand.func 9), args := #[Operand.tmp 57], argTypes := #[22] }, type := 9, pos := "semver_check.go:327", after := #[{ on := 5, ground := Ground.data }, { on := 2, ground := Ground.chain }], guard := none }, { dst := some 10, op := Op.assign (Operand.tmp 54), type := 9, pos := "semver_check.go:327", after := #[{ on := 2, ground := Ground.data }, { on := 6, ground := Ground.chain }, { on := 0, ground := Ground.phase }, { on := 1, ground := Ground.phase }, { on := 2, ground := Ground.phase }, { on := 3, ground := Ground.textOnly Departure.lateStores }, { on := 4, ground := Ground.textOnly Departure.lateStores }, { on := 5, ground := Ground.textOnly Departure.lateStores }, { on := 6, ground := Ground.textOnly Departure.lateStoresUnsure }], guard := none }, { dst := some 11, op := Op.assign (Operand.tmp 58), type := 9, pos := "semver_check.go:327", after := #[{ on := 6, ground := Ground.data }, { on := 7, ground := Ground.chain }, { on := 0, ground := Ground.phase }, { on := 1, ground := Ground.phase }, { on := 2, ground := Ground.phase }, { on := 3, ground := Ground.phase }, { on := 4, ground := Ground.phase }, { on := 5, ground := Ground.phase }, { on := 6, ground := Ground.phase }, { on := 7, ground := Ground.phase }], guard := none }]
def fr7 (k : Int) (T4 : Nat) (x0 x2 x3 x5 x6 x7 x8 x9 x12 x13 x14 x15 x16 x17 x18 x19 x20 x21 x22 x23 x24 x25 x26 x27 x28 x29 x30 x31 x32 x33 x34 x35 x36 x37 x38 x39 x40 x41 x42 x43 x44 x45 x46 x47 x48 x49 x50 x51 x59 x60 x61 x62 x63 x64 x65 x66 x67 x68 x69 x70 x71 x72 x73 x74 x75 x76 x77 x78 x79 x80 x81 x82 x83 x84 x85 x86 : Value) (s10 s11 s52 s53 s54 s55 s56 s57 s58 : Value) : Act := ⟨(x0 :: .int .i64 k :: x2 :: x3 :: .pointer (some ⟨T4, 0, none⟩) :: x5 :: x6 :: x7 :: x8 :: x9 :: s10 :: s11 :: x12 :: x13 :: x14 :: x15 :: x16 :: x17 :: x18 :: x19 :: x20 :: x21 :: x22 :: x23 :: x24 :: x25 :: x26 :: x27 :: x28 :: x29 :: x30 :: x31 :: x32 :: x33 :: x34 :: x35 :: x36 :: x37 :: x38 :: x39 :: x40 :: x41 :: x42 :: x43 :: x44 :: x45 :: x46 :: x47 :: x48 :: x49 :: x50 :: x51 :: s52 :: s53 :: s54 :: s55 :: s56 :: s57 :: s58 :: x59 :: x60 :: x61 :: x62 :: x63 :: x64 :: x65 :: x66 :: x67 :: x68 :: x69 :: x70 :: x71 :: x72 :: x73 :: x74 :: x75 :: x76 :: x77 :: x78 :: x79 :: x80 :: x81 :: x82 :: x83 :: x84 :: x85 :: x86 :: []).toArray, []⟩
structure I7 (w : World) (T4 T7 a b c x y z : Nat) (p m pv mv : ByteArray) (lo : List UInt8) (n : Nat) (k : Int) (L : Nat → Prop) (s10 s11 s52 s53 s54 s55 s56 s57 s58 : Value) (W : World) : Prop where
  lw : LT w T4 T7 a b c x y z p m pv mv W
  v0 : L 0 → s52 = .agg #[.int .u64 a, .int .u64 b, .int .u64 c, .string p, .string m]
  v1 : L 1 → s53 = .int .i64 k
  v2 : L 2 → s54 = .string (bOf lo)
  v3 : L 3 → s55 = .pointer (some ⟨T4, 0, none⟩)
  v4 : L 4 → s56 = .int .u64 (a : Nat)
  v5 : L 5 → s57 = .int .u64 (n : Nat)
  v6 : L 6 → s58 = .string (bOf (Lib.decDigits n))
  v7 : L 7 → s10 = .string (bOf lo)
  v8 : L 8 → s11 = .string (bOf (Lib.decDigits n))
theorem I7.keep {w : World} {T4 T7 a b c x y z : Nat} {p m pv mv : ByteArray} {lo : List UInt8} {n : Nat} {k : Int} {L : Nat → Prop} {s10 s11 s52 s53 s54 s55 s56 s57 s58 : Value} {W W' : World} (h : I7 w T4 T7 a b c x y z p m pv mv lo n k L s10 s11 s52 s53 s54 s55 s56 s57 s58 W) (hb : Below W.heap.size W W') : I7 w T4 T7 a b c x y z p m pv mv lo n k L s10 s11 s52 s53 s54 s55 s56 s57 s58 W' :=
  ⟨h.lw.keep hb, h.v0, h.v1, h.v2, h.v3, h.v4, h.v5, h.v6, h.v7, h.v8⟩
set_option maxHeartbeats 8000000 in
theorem region7 (x10 x11 : Value) (x0 x2 x3 x5 x6 x7 x8 x9 x12 x13 x14 x15 x16 x17 x18 x19 x20 x21 x22 x23 x24 x25 x26 x27 x28 x29 x30 x31 x32 x33 x34 x35 x36 x37 x38 x39 x40 x41 x42 x43 x44 x45 x46 x47 x48 x49 x50 x51 x59 x60 x61 x62 x63 x64 x65 x66 x67 x68 x69 x70 x71 x72 x73 x74 x75 x76 x77 x78 x79 x80 x81 x82 x83 x84 x85 x86 : Value) (w : World) (T4 T7 a b c x y z n : Nat) (p m pv mv : ByteArray) (lo : List UInt8) (k : Int) (w5 : World) (hlw : LT w T4 T7 a b c x y z p m pv mv w5) (hn : IntKind.u64.wrap ((a : Int) + 1) = (n : Int))
    (hN : ∀ W, Calls Tryz.prog 8 #[.agg #[.int .u64 a, .int .u64 b, .int .u64 c, .string p, .string m], .int .i64 k] W fun e w' => e = .returned (.string (bOf lo)) ∧ Below W.heap.size W w')
    (hD : ∀ W, Calls Tryz.prog 9 #[.int .u64 (n : Nat)] W fun e w' => e = .returned (.string (bOf (Lib.decDigits n))) ∧ Below W.heap.size W w')
    {Q : Exit → Act → World → Prop} (hQ : ∀ s10 s11 s52 s53 s54 s55 s56 s57 s58 W, LT w T4 T7 a b c x y z p m pv mv W → s10 = .string (bOf lo) → s11 = .string (bOf (Lib.decDigits n)) → Q .normal (fr7 k T4 x0 x2 x3 x5 x6 x7 x8 x9 x12 x13 x14 x15 x16 x17 x18 x19 x20 x21 x22 x23 x24 x25 x26 x27 x28 x29 x30 x31 x32 x33 x34 x35 x36 x37 x38 x39 x40 x41 x42 x43 x44 x45 x46 x47 x48 x49 x50 x51 x59 x60 x61 x62 x63 x64 x65 x66 x67 x68 x69 x70 x71 x72 x73 x74 x75 x76 x77 x78 x79 x80 x81 x82 x83 x84 x85 x86 s10 s11 s52 s53 s54 s55 s56 s57 s58) W) :
    (Code.region 7 ops7 true).wp Tryz.prog Q (fr7 k T4 x0 x2 x3 x5 x6 x7 x8 x9 x12 x13 x14 x15 x16 x17 x18 x19 x20 x21 x22 x23 x24 x25 x26 x27 x28 x29 x30 x31 x32 x33 x34 x35 x36 x37 x38 x39 x40 x41 x42 x43 x44 x45 x46 x47 x48 x49 x50 x51 x59 x60 x61 x62 x63 x64 x65 x66 x67 x68 x69 x70 x71 x72 x73 x74 x75 x76 x77 x78 x79 x80 x81 x82 x83 x84 x85 x86 x10 x11 undef undef undef undef undef undef undef) w5 := by
  have HN := Lib.hid hN
  have HD := Lib.hid hD
  clear hN hD
  have hd0 := hlw.keep (Below.refl w5.heap.size w5).drew
  refine wp_region_inv (by kernel_rfl) (fun L a' W => ∃ s10 s11 s52 s53 s54 s55 s56 s57 s58, a' = fr7 k T4 x0 x2 x3 x5 x6 x7 x8 x9 x12 x13 x14 x15 x16 x17 x18 x19 x20 x21 x22 x23 x24 x25 x26 x27 x28 x29 x30 x31 x32 x33 x34 x35 x36 x37 x38 x39 x40 x41 x42 x43 x44 x45 x46 x47 x48 x49 x50 x51 x59 x60 x61 x62 x63 x64 x65 x66 x67 x68 x69 x70 x71 x72 x73 x74 x75 x76 x77 x78 x79 x80 x81 x82 x83 x84 x85 x86 s10 s11 s52 s53 s54 s55 s56 s57 s58 ∧ I7 w T4 T7 a b c x y z p m pv mv lo n k L s10 s11 s52 s53 s54 s55 s56 s57 s58 W) (by kernel_rfl) ⟨_, _, _, _, _, _, _, _, _, rfl, ⟨hd0, fun h => h.elim, fun h => h.elim, fun h => h.elim, fun h => h.elim, fun h => h.elim, fun h => h.elim, fun h => h.elim, fun h => h.elim, fun h => h.elim⟩⟩ ?_ ?_
  · intro i o ho L a' W hni hdep hI K hK
    obtain ⟨s10, s11, s52, s53, s54, s55, s56, s57, s58, rfl, hk⟩ := hI
    rcases i with _ | _ | _ | _ | _ | _ | _ | _ | _ | i
    · obtain rfl := Option.some.inj (show some ({ dst := some 52, op := Op.load 24 (Operand.tmp 4), type := 24, pos := "semver_check.go:327", after := #[], guard := none } : Oper) = some o from ho)
      unfold fr7
      obtain ⟨q0, q1, q2, q3, q4⟩ := hk.lw.cells4
      go_simp
      refine hK.out _ _ ⟨s10, s11, (.agg #[.int .u64 a, .int .u64 b, .int .u64 c, .string p, .string m]), s53, s54, s55, s56, s57, s58, rfl, ⟨hk.lw, (fun _ => rfl), (fun hl => hk.v1 (hl.resolve_left (by decide))), (fun hl => hk.v2 (hl.resolve_left (by decide))), (fun hl => hk.v3 (hl.resolve_left (by decide))), (fun hl => hk.v4 (hl.resolve_left (by decide))), (fun hl => hk.v5 (hl.resolve_left (by decide))), (fun hl => hk.v6 (hl.resolve_left (by decide))), (fun hl => hk.v7 (hl.resolve_left (by decide))), (fun hl => hk.v8 (hl.resolve_left (by decide)))⟩⟩
    · obtain rfl := Option.some.inj (show some ({ dst := some 53, op := Op.move (Operand.tmp 1), type := 3, pos := "semver_check.go:327", after := #[], guard := none } : Oper) = some o from ho)
      unfold fr7
      go_simp
      refine hK.out _ _ ⟨s10, s11, s52, (.int .i64 k), s54, s55, s56, s57, s58, rfl, ⟨hk.lw, (fun hl => hk.v0 (hl.resolve_left (by decide))), (fun _ => rfl), (fun hl => hk.v2 (hl.resolve_left (by decide))), (fun hl => hk.v3 (hl.resolve_left (by decide))), (fun hl => hk.v4 (hl.resolve_left (by decide))), (fun hl => hk.v5 (hl.resolve_left (by decide))), (fun hl => hk.v6 (hl.resolve_left (by decide))), (fun hl => hk.v7 (hl.resolve_left (by decide))), (fun hl => hk.v8 (hl.resolve_left (by decide)))⟩⟩
    · obtain rfl := Option.some.inj (show some ({ dst := some 54, op := Op.call { callee := Callee.value (Operand.func 8), args := #[Operand.tmp 52, Operand.tmp 53], argTypes := #[24, 3] }, type := 9, pos := "semver_check.go:327", after := #[{ on := 0, ground := Ground.data }, { on := 1, ground := Ground.data }], guard := none } : Oper) = some o from ho)
      have g0 := hk.v0 (hdep ⟨0, .data⟩ (by simp) rfl)
      have g1 := hk.v1 (hdep ⟨1, .data⟩ (by simp) rfl)
      subst g0
      subst g1
      unfold fr7
      go_simp
      (go_at_call 8; refine (HN.out _).mono ?_; rintro e W1 ⟨rfl, hb⟩; have hk := hk.keep hb)
      refine hK.out _ _ ⟨s10, s11, (.agg #[.int .u64 a, .int .u64 b, .int .u64 c, .string p, .string m]), (.int .i64 k), (.string (bOf lo)), s55, s56, s57, s58, rfl, ⟨hk.lw, (fun hl => hk.v0 (hl.resolve_left (by decide))), (fun hl => hk.v1 (hl.resolve_left (by decide))), (fun _ => rfl), (fun hl => hk.v3 (hl.resolve_left (by decide))), (fun hl => hk.v4 (hl.resolve_left (by decide))), (fun hl => hk.v5 (hl.resolve_left (by decide))), (fun hl => hk.v6 (hl.resolve_left (by decide))), (fun hl => hk.v7 (hl.resolve_left (by decide))), (fun hl => hk.v8 (hl.resolve_left (by decide)))⟩⟩
    · obtain rfl := Option.some.inj (show some ({ dst := some 55, op := Op.fieldAddr 24 (Operand.tmp 4) 0, type := 0, pos := "semver_check.go:327", after := #[], guard := none } : Oper) = some o from ho)
      unfold fr7
      go_simp
      refine hK.out _ _ ⟨s10, s11, s52, s53, s54, (.pointer (some ⟨T4, 0, none⟩)), s56, s57, s58, rfl, ⟨hk.lw, (fun hl => hk.v0 (hl.resolve_left (by decide))), (fun hl => hk.v1 (hl.resolve_left (by decide))), (fun hl => hk.v2 (hl.resolve_left (by decide))), (fun _ => rfl), (fun hl => hk.v4 (hl.resolve_left (by decide))), (fun hl => hk.v5 (hl.resolve_left (by decide))), (fun hl => hk.v6 (hl.resolve_left (by decide))), (fun hl => hk.v7 (hl.resolve_left (by decide))), (fun hl => hk.v8 (hl.resolve_left (by decide)))⟩⟩
    · obtain rfl := Option.some.inj (show some ({ dst := some 56, op := Op.load 22 (Operand.tmp 55), type := 22, pos := "semver_check.go:327", after := #[{ on := 3, ground := Ground.data }], guard := none } : Oper) = some o from ho)
      have g3 := hk.v3 (hdep ⟨3, .data⟩ (by simp) rfl)
      subst g3
      unfold fr7
      obtain ⟨q0, q1, q2, q3, q4⟩ := hk.lw.cells4
      go_simp
      refine hK.out _ _ ⟨s10, s11, s52, s53, s54, (.pointer (some ⟨T4, 0, none⟩)), (.int .u64 (a : Nat)), s57, s58, rfl, ⟨hk.lw, (fun hl => hk.v0 (hl.resolve_left (by decide))), (fun hl => hk.v1 (hl.resolve_left (by decide))), (fun hl => hk.v2 (hl.resolve_left (by decide))), (fun hl => hk.v3 (hl.resolve_left (by decide))), (fun _ => rfl), (fun hl => hk.v5 (hl.resolve_left (by decide))), (fun hl => hk.v6 (hl.resolve_left (by decide))), (fun hl => hk.v7 (hl.resolve_left (by decide))), (fun hl => hk.v8 (hl.resolve_left (by decide)))⟩⟩
    · obtain rfl := Option.some.inj (show some ({ dst := some 57, op := Op.binOp BinOp.add 22 (Operand.tmp 56) (Operand.const (Value.int IntKind.u64 1)) 22, type := 22, pos := "semver_check.go:327", after := #[{ on := 4, ground := Ground.data }], guard := none } : Oper) = some o from ho)
      have g4 := hk.v4 (hdep ⟨4, .data⟩ (by simp) rfl)
      subst g4
      unfold fr7
      go_simp
      refine hK.out _ _ ⟨s10, s11, s52, s53, s54, s55, (.int .u64 (a : Nat)), (.int .u64 (n : Nat)), s58, rfl, ⟨hk.lw, (fun hl => hk.v0 (hl.resolve_left (by decide))), (fun hl => hk.v1 (hl.resolve_left (by decide))), (fun hl => hk.v2 (hl.resolve_left (by decide))), (fun hl => hk.v3 (hl.resolve_left (by decide))), (fun hl => hk.v4 (hl.resolve_left (by decide))), (fun _ => rfl), (fun hl => hk.v6 (hl.resolve_left (by decide))), (fun hl => hk.v7 (hl.resolve_left (by decide))), (fun hl => hk.v8 (hl.resolve_left (by decide)))⟩⟩
    · obtain rfl := Option.some.inj (show some ({ dst := some 58, op := Op.call { callee := Callee.value (Operand.func 9), args := #[Operand.tmp 57], argTypes := #[22] }, type := 9, pos := "semver_check.go:327", after := #[{ on := 5, ground := Ground.data }, { on := 2, ground := Ground.chain }], guard := none } : Oper) = some o from ho)
      have g5 := hk.v5 (hdep ⟨5, .data⟩ (by simp) rfl)
      subst g5
      unfold fr7
      go_simp
      (go_at_call 9; refine (HD.out _).mono ?_; rintro e W1 ⟨rfl, hb⟩; have hk := hk.keep hb)
      refine hK.out _ _ ⟨s10, s11, s52, s53, s54, s55, s56, (.int .u64 (n : Nat)), (.string (bOf (Lib.decDigits n))), rfl, ⟨hk.lw, (fun hl => hk.v0 (hl.resolve_left (by decide))), (fun hl => hk.v1 (hl.resolve_left (by decide))), (fun hl => hk.v2 (hl.resolve_left (by decide))), (fun hl => hk.v3 (hl.resolve_left (by decide))), (fun hl => hk.v4 (hl.resolve_left (by decide))), (fun hl => hk.v5 (hl.resolve_left (by decide))), (fun _ => rfl), (fun hl => hk.v7 (hl.resolve_left (by decide))), (fun hl => hk.v8 (hl.resolve_left (by decide)))⟩⟩
    · obtain rfl := Option.some.inj (show some ({ dst := some 10, op := Op.assign (Operand.tmp 54), type := 9, pos := "semver_check.go:327", after := #[{ on := 2, ground := Ground.data }, { on := 6, ground := Ground.chain }, { on := 0, ground := Ground.phase }, { on := 1, ground := Ground.phase }, { on := 2, ground := Ground.phase }, { on := 3, ground := Ground.textOnly Departure.lateStores }, { on := 4, ground := Ground.textOnly Departure.lateStores }, { on := 5, ground := Ground.textOnly Departure.lateStores }, { on := 6, ground := Ground.textOnly Departure.lateStoresUnsure }], guard := none } : Oper) = some o from ho)
      have g2 := hk.v2 (hdep ⟨2, .data⟩ (by simp) rfl)
      subst g2
      unfold fr7
      go_simp
      refine hK.out _ _ ⟨(.string (bOf lo)), s11, s52, s53, (.string (bOf lo)), s55, s56, s57, s58, rfl, ⟨hk.lw, (fun hl => hk.v0 (hl.resolve_left (by decide))), (fun hl => hk.v1 (hl.resolve_left (by decide))), (fun hl => hk.v2 (hl.resolve_left (by decide))), (fun hl => hk.v3 (hl.resolve_left (by decide))), (fun hl => hk.v4 (hl.resolve_left (by decide))), (fun hl => hk.v5 (hl.resolve_left (by decide))), (fun hl => hk.v6 (hl.resolve_left (by decide))), (fun _ => rfl), (fun hl => hk.v8 (hl.resolve_left (by decide)))⟩⟩
    · obtain rfl := Option.some.inj (show some ({ dst := some 11, op := Op.assign (Operand.tmp 58), type := 9, pos := "semver_check.go:327", after := #[{ on := 6, ground := Ground.data }, { on := 7, ground := Ground.chain }, { on := 0, ground := Ground.phase }, { on := 1, ground := Ground.phase }, { on := 2, ground := Ground.phase }, { on := 3, ground := Ground.phase }, { on := 4, ground := Ground.phase }, { on := 5, ground := Ground.phase }, { on := 6, ground := Ground.phase }, { on := 7, ground := Ground.phase }], guard := none } : Oper) = some o from ho)
      have g6 := hk.v6 (hdep ⟨6, .data⟩ (by simp) rfl)
      subst g6
      unfold fr7
      go_simp
      refine hK.out _ _ ⟨s10, (.string (bOf (Lib.decDigits n))), s52, s53, s54, s55, s56, s57, (.string (bOf (Lib.decDigits n))), rfl, ⟨hk.lw, (fun hl => hk.v0 (hl.resolve_left (by decide))), (fun hl => hk.v1 (hl.resolve_left (by decide))), (fun hl => hk.v2 (hl.resolve_left (by decide))), (fun hl => hk.v3 (hl.resolve_left (by decide))), (fun hl => hk.v4 (hl.resolve_left (by decide))), (fun hl => hk.v5 (hl.resolve_left (by decide))), (fun hl => hk.v6 (hl.resolve_left (by decide))), (fun hl => hk.v7 (hl.resolve_left (by decide))), (fun _ => rfl)⟩⟩
    · exact absurd (Array.getElem?_eq_some_iff.1 ho).1 (by simp [ops7])
  · intro L a' W hall hI
    obtain ⟨s10, s11, s52, s53, s54, s55, s56, s57, s58, rfl, hk⟩ := hI
    exact hQ _ _ _ _ _ _ _ _ _ W hk.lw (hk.v7 (hall 7 (by decide))) (hk.v8 (hall 8 (by decide)))
def ops9 : Array Oper := #[{ dst := some 61, op := Op.fieldAddr 24 (Operand.tmp 4) 0, type := 0, pos := "semver_check.go:329", after := #[], guard := none }, { dst := some 62, op := Op.load 22 (Operand.tmp 61), type := 22, pos := "semver_check.go:329", after := #[{ on := 0, ground := Ground.data }], guard := none }, { dst := some 63, op := Op.call { callee := Callee.value (Operand.func 9), args := #[Operand.tmp 62], argTypes := #[22] }, type := 9, pos := "semver_check.go:329", after := #[{ on := 1, ground := Ground.data }], guard := none }, { dst := some 64, op := Op.binOp BinOp.add 9 (Operand.tmp 63) (Operand.const (Value.string { data := #[46] })) 9, type := 9, pos := "semver_check.go:329", after := #[{ on := 2, ground := Ground.data }], guard := none }, { dst := some 65, op := Op.fieldAddr 24 (Operand.tmp 4) 1, type := 0, pos := "semver_check.go:329", after := #[], guard := none }, { dst := some 66, op := Op.load 22 (Operand.tmp 65), type := 22, pos := "semver_check.go:329", after := #[{ on := 4, ground := Ground.data }], guard := none }, { dst := some 67, op := Op.binOp BinOp.add 22 (Operand.tmp 66) (Operand.const (Value.int IntKind.u64 1)) 22, type := 22, pos := "semver_check.go:329", after := #[{ on := 5, ground := Ground.data }], guard := none }, { dst := some 68, op := Op.call { callee := Callee.value (Operand.func 9), args := #[Operand.tmp 67], argTypes := #[22] }, type := 9, pos := "semver_check.go:329", after := #[{ on := 6, ground := Ground.data }, { on := 2, ground := Ground.chain }], guard := none }, { dst := some 69, op := Op.binOp BinOp.add 9 (Operand.tmp 64) (Operand.tmp 68) 9, type := 9, pos := "semver_check.go:329", after := #[{ on := 3, ground := Ground.data }, { on := 7, ground := Ground.data }], guard := none }, { dst := some 11, op := Op.assign (Operand.tmp 69), type := 9, pos := "semver_check.go:329", after := #[{ on := 8, ground := Ground.data }, { on := 7, ground := Ground.chain }, { on := 0, ground := Ground.phase }, { on := 1, ground := Ground.phase }, { on := 2, ground := Ground.phase }, { on := 3, ground := Ground.phase }, { on := 4, ground := Ground.phase }, { on := 5, ground := Ground.phase }, { on := 6, ground := Ground.phase }, { on := 7, ground := Ground.phase }, { on := 8, ground := Ground.phase }], guard := none }]
def fr9 (k : Int) (T4 : Nat) (x0 x2 x3 x5 x6 x7 x8 x9 x10 x12 x13 x14 x15 x16 x17 x18 x19 x20 x21 x22 x23 x24 x25 x26 x27 x28 x29 x30 x31 x32 x33 x34 x35 x36 x37 x38 x39 x40 x41 x42 x43 x44 x45 x46 x47 x48 x49 x50 x51 x52 x53 x54 x55 x56 x57 x58 x59 x60 x70 x71 x72 x73 x74 x75 x76 x77 x78 x79 x80 x81 x82 x83 x84 x85 x86 : Value) (s11 s61 s62 s63 s64 s65 s66 s67 s68 s69 : Value) : Act := ⟨(x0 :: .int .i64 k :: x2 :: x3 :: .pointer (some ⟨T4, 0, none⟩) :: x5 :: x6 :: x7 :: x8 :: x9 :: x10 :: s11 :: x12 :: x13 :: x14 :: x15 :: x16 :: x17 :: x18 :: x19 :: x20 :: x21 :: x22 :: x23 :: x24 :: x25 :: x26 :: x27 :: x28 :: x29 :: x30 :: x31 :: x32 :: x33 :: x34 :: x35 :: x36 :: x37 :: x38 :: x39 :: x40 :: x41 :: x42 :: x43 :: x44 :: x45 :: x46 :: x47 :: x48 :: x49 :: x50 :: x51 :: x52 :: x53 :: x54 :: x55 :: x56 :: x57 :: x58 :: x59 :: x60 :: s61 :: s62 :: s63 :: s64 :: s65 :: s66 :: s67 :: s68 :: s69 :: x70 :: x71 :: x72 :: x73 :: x74 :: x75 :: x76 :: x77 :: x78 :: x79 :: x80 :: x81 :: x82 :: x83 :: x84 :: x85 :: x86 :: []).toArray, []⟩
structure I9 (w : World) (T4 T7 a b c x y z : Nat) (p m pv mv : ByteArray) (n : Nat) (k : Int) (L : Nat → Prop) (s11 s61 s62 s63 s64 s65 s66 s67 s68 s69 : Value) (W : World) : Prop where
  lw : LT w T4 T7 a b c x y z p m pv mv W
  v0 : L 0 → s61 = .pointer (some ⟨T4, 0, none⟩)
  v1 : L 1 → s62 = .int .u64 (a : Nat)
  v2 : L 2 → s63 = .string (bOf (Lib.decDigits a))
  v3 : L 3 → s64 = .string (bOf (Lib.decDigits a) ++ ⟨#[46]⟩)
  v4 : L 4 → s65 = .pointer (some ⟨T4, 1, none⟩)
  v5 : L 5 → s66 = .int .u64 (b : Nat)
  v6 : L 6 → s67 = .int .u64 (n : Nat)
  v7 : L 7 → s68 = .string (bOf (Lib.decDigits n))
  v8 : L 8 → s69 = .string (bOf (Lib.decDigits a) ++ ⟨#[46]⟩ ++ bOf (Lib.decDigits n))
  v9 : L 9 → s11 = .string (bOf (Lib.decDigits a) ++ ⟨#[46]⟩ ++ bOf (Lib.decDigits n))
theorem I9.keep {w : World} {T4 T7 a b c x y z : Nat} {p m pv mv : ByteArray} {n : Nat} {k : Int} {L : Nat → Prop} {s11 s61 s62 s63 s64 s65 s66 s67 s68 s69 : Value} {W W' : World} (h : I9 w T4 T7 a b c x y z p m pv mv n k L s11 s61 s62 s63 s64 s65 s66 s67 s68 s69 W) (hb : Below W.heap.size W W') : I9 w T4 T7 a b c x y z p m pv mv n k L s11 s61 s62 s63 s64 s65 s66 s67 s68 s69 W' :=
  ⟨h.lw.keep hb, h.v0, h.v1, h.v2, h.v3, h.v4, h.v5, h.v6, h.v7, h.v8, h.v9⟩
set_option maxHeartbeats 8000000 in
theorem region9 (x11 : Value) (x0 x2 x3 x5 x6 x7 x8 x9 x10 x12 x13 x14 x15 x16 x17 x18 x19 x20 x21 x22 x23 x24 x25 x26 x27 x28 x29 x30 x31 x32 x33 x34 x35 x36 x37 x38 x39 x40 x41 x42 x43 x44 x45 x46 x47 x48 x49 x50 x51 x52 x53 x54 x55 x56 x57 x58 x59 x60 x70 x71 x72 x73 x74 x75 x76 x77 x78 x79 x80 x81 x82 x83 x84 x85 x86 : Value) (w : World) (T4 T7 a b c x y z n : Nat) (p m pv mv : ByteArray) (k : Int) (w5 : World) (hlw : LT w T4 T7 a b c x y z p m pv mv w5) (hn : IntKind.u64.wrap ((b : Int) + 1) = (n : Int))
    (hA : ∀ W, Calls Tryz.prog 9 #[.int .u64 (a : Nat)] W fun e w' => e = .returned (.string (bOf (Lib.decDigits a))) ∧ Below W.heap.size W w')
    (hD : ∀ W, Calls Tryz.prog 9 #[.int .u64 (n : Nat)] W fun e w' => e = .returned (.string (bOf (Lib.decDigits n))) ∧ Below W.heap.size W w')
    (z1 : (bOf (Lib.decDigits a)).size < 100) (z2 : (bOf (Lib.decDigits n)).size < 100)
    {Q : Exit → Act → World → Prop} (hQ : ∀ s11 s61 s62 s63 s64 s65 s66 s67 s68 s69 W, LT w T4 T7 a b c x y z p m pv mv W → s11 = .string (bOf (Lib.decDigits a) ++ ⟨#[46]⟩ ++ bOf (Lib.decDigits n)) → Q .normal (fr9 k T4 x0 x2 x3 x5 x6 x7 x8 x9 x10 x12 x13 x14 x15 x16 x17 x18 x19 x20 x21 x22 x23 x24 x25 x26 x27 x28 x29 x30 x31 x32 x33 x34 x35 x36 x37 x38 x39 x40 x41 x42 x43 x44 x45 x46 x47 x48 x49 x50 x51 x52 x53 x54 x55 x56 x57 x58 x59 x60 x70 x71 x72 x73 x74 x75 x76 x77 x78 x79 x80 x81 x82 x83 x84 x85 x86 s11 s61 s62 s63 s64 s65 s66 s67 s68 s69) W) :
    (Code.region 9 ops9 true).wp Tryz.prog Q (fr9 k T4 x0 x2 x3 x5 x6 x7 x8 x9 x10 x12 x13 x14 x15 x16 x17 x18 x19 x20 x21 x22 x23 x24 x25 x26 x27 x28 x29 x30 x31 x32 x33 x34 x35 x36 x37 x38 x39 x40 x41 x42 x43 x44 x45 x46 x47 x48 x49 x50 x51 x52 x53 x54 x55 x56 x57 x58 x59 x60 x70 x71 x72 x73 x74 x75 x76 x77 x78 x79 x80 x81 x82 x83 x84 x85 x86 x11 undef undef undef undef undef undef undef undef undef) w5 := by
  have HA := Lib.hid hA
  have HD := Lib.hid hD
  clear hA hD
  have hd0 := hlw.keep (Below.refl w5.heap.size w5).drew
  refine wp_region_inv (by kernel_rfl) (fun L a' W => ∃ s11 s61 s62 s63 s64 s65 s66 s67 s68 s69, a' = fr9 k T4 x0 x2 x3 x5 x6 x7 x8 x9 x10 x12 x13 x14 x15 x16 x17 x18 x19 x20 x21 x22 x23 x24 x25 x26 x27 x28 x29 x30 x31 x32 x33 x34 x35 x36 x37 x38 x39 x40 x41 x42 x43 x44 x45 x46 x47 x48 x49 x50 x51 x52 x53 x54 x55 x56 x57 x58 x59 x60 x70 x71 x72 x73 x74 x75 x76 x77 x78 x79 x80 x81 x82 x83 x84 x85 x86 s11 s61 s62 s63 s64 s65 s66 s67 s68 s69 ∧ I9 w T4 T7 a b c x y z p m pv mv n k L s11 s61 s62 s63 s64 s65 s66 s67 s68 s69 W) (by kernel_rfl) ⟨_, _, _, _, _, _, _, _, _, _, rfl, ⟨hd0, fun h => h.elim, fun h => h.elim, fun h => h.elim, fun h => h.elim, fun h => h.elim, fun h => h.elim, fun h => h.elim, fun h => h.elim, fun h => h.elim, fun h => h.elim⟩⟩ ?_ ?_
  · intro i o ho L a' W hni hdep hI K hK
    obtain ⟨s11, s61, s62, s63, s64, s65, s66, s67, s68, s69, rfl, hk⟩ := hI
    rcases i with _ | _ | _ | _ | _ | _ | _ | _ | _ | _ | i
    · obtain rfl := Option.some.inj (show some ({ dst := some 61, op := Op.fieldAddr 24 (Operand.tmp 4) 0, type := 0, pos := "semver_check.go:329", after := #[], guard := none } : Oper) = some o from ho)
      unfold fr9
      go_simp
      refine hK.out _ _ ⟨s11, (.pointer (some ⟨T4, 0, none⟩)), s62, s63, s64, s65, s66, s67, s68, s69, rfl, ⟨hk.lw, (fun _ => rfl), (fun hl => hk.v1 (hl.resolve_left (by decide))), (fun hl => hk.v2 (hl.resolve_left (by decide))), (fun hl => hk.v3 (hl.resolve_left (by decide))), (fun hl => hk.v4 (hl.resolve_left (by decide))), (fun hl => hk.v5 (hl.resolve_left (by decide))), (fun hl => hk.v6 (hl.resolve_left (by decide))), (fun hl => hk.v7 (hl.resolve_left (by decide))), (fun hl => hk.v8 (hl.resolve_left (by decide))), (fun hl => hk.v9 (hl.resolve_left (by decide)))⟩⟩
    · obtain rfl := Option.some.inj (show some ({ dst := some 62, op := Op.load 22 (Operand.tmp 61), type := 22, pos := "semver_check.go:329", after := #[{ on := 0, ground := Ground.data }], guard := none } : Oper) = some o from ho)
      have g0 := hk.v0 (hdep ⟨0, .data⟩ (by simp) rfl)
      subst g0
      unfold fr9
      obtain ⟨q0, q1, q2, q3, q4⟩ := hk.lw.cells4
      go_simp
      refine hK.out _ _ ⟨s11, (.pointer (some ⟨T4, 0, none⟩)), (.int .u64 (a : Nat)), s63, s64, s65, s66, s67, s68, s69, rfl, ⟨hk.lw, (fun hl => hk.v0 (hl.resolve_left (by decide))), (fun _ => rfl), (fun hl => hk.v2 (hl.resolve_left (by decide))), (fun hl => hk.v3 (hl.resolve_left (by decide))), (fun hl => hk.v4 (hl.resolve_left (by decide))), (fun hl => hk.v5 (hl.resolve_left (by decide))), (fun hl => hk.v6 (hl.resolve_left (by decide))), (fun hl => hk.v7 (hl.resolve_left (by decide))), (fun hl => hk.v8 (hl.resolve_left (by decide))), (fun hl => hk.v9 (hl.resolve_left (by decide)))⟩⟩
    · obtain rfl := Option.some.inj (show some ({ dst := some 63, op := Op.call { callee := Callee.value (Operand.func 9), args := #[Operand.tmp 62], argTypes := #[22] }, type := 9, pos := "semver_check.go:329", after := #[{ on := 1, ground := Ground.data }], guard := none } : Oper) = some o from ho)
      have g1 := hk.v1 (hdep ⟨1, .data⟩ (by simp) rfl)
      subst g1
      unfold fr9
      go_simp
      (go_at_call 9; refine (HA.out _).mono ?_; rintro e W1 ⟨rfl, hb⟩; have hk := hk.keep hb)
      refine hK.out _ _ ⟨s11, s61, (.int .u64 (a : Nat)), (.string (bOf (Lib.decDigits a))), s64, s65, s66, s67, s68, s69, rfl, ⟨hk.lw, (fun hl => hk.v0 (hl.resolve_left (by decide))), (fun hl => hk.v1 (hl.resolve_left (by decide))), (fun _ => rfl), (fun hl => hk.v3 (hl.resolve_left (by decide))), (fun hl => hk.v4 (hl.resolve_left (by decide))), (fun hl => hk.v5 (hl.resolve_left (by decide))), (fun hl => hk.v6 (hl.resolve_left (by decide))), (fun hl => hk.v7 (hl.resolve_left (by decide))), (fun hl => hk.v8 (hl.resolve_left (by decide))), (fun hl => hk.v9 (hl.resolve_left (by decide)))⟩⟩
    · obtain rfl := Option.some.inj (show some ({ dst := some 64, op := Op.binOp BinOp.add 9 (Operand.tmp 63) (Operand.const (Value.string { data := #[46] })) 9, type := 9, pos := "semver_check.go:329", after := #[{ on := 2, ground := Ground.data }], guard := none } : Oper) = some o from ho)
      have g2 := hk.v2 (hdep ⟨2, .data⟩ (by simp) rfl)
      subst g2
      unfold fr9
      go_simp
      rw [if_neg (by omega)]
      go_simp
      refine hK.out _ _ ⟨s11, s61, s62, (.string (bOf (Lib.decDigits a))), (.string (bOf (Lib.decDigits a) ++ ⟨#[46]⟩)), s65, s66, s67, s68, s69, rfl, ⟨hk.lw, (fun hl => hk.v0 (hl.resolve_left (by decide))), (fun hl => hk.v1 (hl.resolve_left (by decide))), (fun hl => hk.v2 (hl.resolve_left (by decide))), (fun _ => rfl), (fun hl => hk.v4 (hl.resolve_left (by decide))), (fun hl => hk.v5 (hl.resolve_left (by decide))), (fun hl => hk.v6 (hl.resolve_left (by decide))), (fun hl => hk.v7 (hl.resolve_left (by decide))), (fun hl => hk.v8 (hl.resolve_left (by decide))), (fun hl => hk.v9 (hl.resolve_left (by decide)))⟩⟩
    · obtain rfl := Option.some.inj (show some ({ dst := some 65, op := Op.fieldAddr 24 (Operand.tmp 4) 1, type := 0, pos := "semver_check.go:329", after := #[], guard := none } : Oper) = some o from ho)
      unfold fr9
      go_simp
      refine hK.out _ _ ⟨s11, s61, s62, s63, s64, (.pointer (some ⟨T4, 1, none⟩)), s66, s67, s68, s69, rfl, ⟨hk.lw, (fun hl => hk.v0 (hl.resolve_left (by decide))), (fun hl => hk.v1 (hl.resolve_left (by decide))), (fun hl => hk.v2 (hl.resolve_left (by decide))), (fun hl => hk.v3 (hl.resolve_left (by decide))), (fun _ => rfl), (fun hl => hk.v5 (hl.resolve_left (by decide))), (fun hl => hk.v6 (hl.resolve_left (by decide))), (fun hl => hk.v7 (hl.resolve_left (by decide))), (fun hl => hk.v8 (hl.resolve_left (by decide))), (fun hl => hk.v9 (hl.resolve_left (by decide)))⟩⟩
    · obtain rfl := Option.some.inj (show some ({ dst := some 66, op := Op.load 22 (Operand.tmp 65), type := 22, pos := "semver_check.go:329", after := #[{ on := 4, ground := Ground.data }], guard := none } : Oper) = some o from ho)
      have g4 := hk.v4 (hdep ⟨4, .data⟩ (by simp) rfl)
      subst g4
      unfold fr9
      obtain ⟨q0, q1, q2, q3, q4⟩ := hk.lw.cells4
      go_simp
      refine hK.out _ _ ⟨s11, s61, s62, s63, s64, (.pointer (some ⟨T4, 1, none⟩)), (.int .u64 (b : Nat)), s67, s68, s69, rfl, ⟨hk.lw, (fun hl => hk.v0 (hl.resolve_left (by decide))), (fun hl => hk.v1 (hl.resolve_left (by decide))), (fun hl => hk.v2 (hl.resolve_left (by decide))), (fun hl => hk.v3 (hl.resolve_left (by decide))), (fun hl => hk.v4 (hl.resolve_left (by decide))), (fun _ => rfl), (fun hl => hk.v6 (hl.resolve_left (by decide))), (fun hl => hk.v7 (hl.resolve_left (by decide))), (fun hl => hk.v8 (hl.resolve_left (by decide))), (fun hl => hk.v9 (hl.resolve_left (by decide)))⟩⟩
    · obtain rfl := Option.some.inj (show some ({ dst := some 67, op := Op.binOp BinOp.add 22 (Operand.tmp 66) (Operand.const (Value.int IntKind.u64 1)) 22, type := 22, pos := "semver_check.go:329", after := #[{ on := 5, ground := Ground.data }], guard := none } : Oper) = some o from ho)
      have g5 := hk.v5 (hdep ⟨5, .data⟩ (by simp) rfl)
      subst g5
      unfold fr9
      go_simp
      refine hK.out _ _ ⟨s11, s61, s62, s63, s64, s65, (.int .u64 (b : Nat)), (.int .u64 (n : Nat)), s68, s69, rfl, ⟨hk.lw, (fun hl => hk.v0 (hl.resolve_left (by decide))), (fun hl => hk.v1 (hl.resolve_left (by decide))), (fun hl => hk.v2 (hl.resolve_left (by decide))), (fun hl => hk.v3 (hl.resolve_left (by decide))), (fun hl => hk.v4 (hl.resolve_left (by decide))), (fun hl => hk.v5 (hl.resolve_left (by decide))), (fun _ => rfl), (fun hl => hk.v7 (hl.resolve_left (by decide))), (fun hl => hk.v8 (hl.resolve_left (by decide))), (fun hl => hk.v9 (hl.resolve_left (by decide)))⟩⟩
    · obtain rfl := Option.some.inj (show some ({ dst := some 68, op := Op.call { callee := Callee.value (Operand.func 9), args := #[Operand.tmp 67], argTypes := #[22] }, type := 9, pos := "semver_check.go:329", after := #[{ on := 6, ground := Ground.data }, { on := 2, ground := Ground.chain }], guard := none } : Oper) = some o from ho)
      have g6 := hk.v6 (hdep ⟨6, .data⟩ (by simp) rfl)
      subst g6
      unfold fr9
      go_simp
      (go_at_call 9; refine (HD.out _).mono ?_; rintro e W1 ⟨rfl, hb⟩; have hk := hk.keep hb)
      refine hK.out _ _ ⟨s11, s61, s62, s63, s64, s65, s66, (.int .u64 (n : Nat)), (.string (bOf (Lib.decDigits n))), s69, rfl, ⟨hk.lw, (fun hl => hk.v0 (hl.resolve_left (by decide))), (fun hl => hk.v1 (hl.resolve_left (by decide))), (fun hl => hk.v2 (hl.resolve_left (by decide))), (fun hl => hk.v3 (hl.resolve_left (by decide))), (fun hl => hk.v4 (hl.resolve_left (by decide))), (fun hl => hk.v5 (hl.resolve_left (by decide))), (fun hl => hk.v6 (hl.resolve_left (by decide))), (fun _ => rfl), (fun hl => hk.v8 (hl.resolve_left (by decide))), (fun hl => hk.v9 (hl.resolve_left (by decide)))⟩⟩
    · obtain rfl := Option.some.inj (show some ({ dst := some 69, op := Op.binOp BinOp.add 9 (Operand.tmp 64) (Operand.tmp 68) 9, type := 9, pos := "semver_check.go:329", after := #[{ on := 3, ground := Ground.data }, { on := 7, ground := Ground.data }], guard := none } : Oper) = some o from ho)
      have g3 := hk.v3 (hdep ⟨3, .data⟩ (by simp) rfl)
      have g7 := hk.v7 (hdep ⟨7, .data⟩ (by simp) rfl)
      subst g3
      subst g7
      unfold fr9
      go_simp
      rw [if_neg (by omega)]
      go_simp
      refine hK.out _ _ ⟨s11, s61, s62, s63, (.string (bOf (Lib.decDigits a) ++ ⟨#[46]⟩)), s65, s66, s67, (.string (bOf (Lib.decDigits n))), (.string (bOf (Lib.decDigits a) ++ ⟨#[46]⟩ ++ bOf (Lib.decDigits n))), rfl, ⟨hk.lw, (fun hl => hk.v0 (hl.resolve_left (by decide))), (fun hl => hk.v1 (hl.resolve_left (by decide))), (fun hl => hk.v2 (hl.resolve_left (by decide))), (fun hl => hk.v3 (hl.resolve_left (by decide))), (fun hl => hk.v4 (hl.resolve_left (by decide))), (fun hl => hk.v5 (hl.resolve_left (by decide))), (fun hl => hk.v6 (hl.resolve_left (by decide))), (fun hl => hk.v7 (hl.resolve_left (by decide))), (fun _ => rfl), (fun hl => hk.v9 (hl.resolve_left (by decide)))⟩⟩
    · obtain rfl := Option.some.inj (show some ({ dst := some 11, op := Op.assign (Operand.tmp 69), type := 9, pos := "semver_check.go:329", after := #[{ on := 8, ground := Ground.data }, { on := 7, ground := Ground.chain }, { on := 0, ground := Ground.phase }, { on := 1, ground := Ground.phase }, { on := 2, ground := Ground.phase }, { on := 3, ground := Ground.phase }, { on := 4, ground := Ground.phase }, { on := 5, ground := Ground.phase }, { on := 6, ground := Ground.phase }, { on := 7, ground := Ground.phase }, { on := 8, ground := Ground.phase }], guard := none } : Oper) = some o from ho)
      have g8 := hk.v8 (hdep ⟨8, .data⟩ (by simp) rfl)
      subst g8
      unfold fr9
      go_simp
      refine hK.out _ _ ⟨(.string (bOf (Lib.decDigits a) ++ ⟨#[46]⟩ ++ bOf (Lib.decDigits n))), s61, s62, s63, s64, s65, s66, s67, s68, (.string (bOf (Lib.decDigits a) ++ ⟨#[46]⟩ ++ bOf (Lib.decDigits n))), rfl, ⟨hk.lw, (fun hl => hk.v0 (hl.resolve_left (by decide))), (fun hl => hk.v1 (hl.resolve_left (by decide))), (fun hl => hk.v2 (hl.resolve_left (by decide))), (fun hl => hk.v3 (hl.resolve_left (by decide))), (fun hl => hk.v4 (hl.resolve_left (by decide))), (fun hl => hk.v5 (hl.resolve_left (by decide))), (fun hl => hk.v6 (hl.resolve_left (by decide))), (fun hl => hk.v7 (hl.resolve_left (by decide))), (fun hl => hk.v8 (hl.resolve_left (by decide))), (fun _ => rfl)⟩⟩
    · exact absurd (Array.getElem?_eq_some_iff.1 ho).1 (by simp [ops9])
  · intro L a' W hall hI
    obtain ⟨s11, s61, s62, s63, s64, s65, s66, s67, s68, s69, rfl, hk⟩ := hI
    exact hQ _ _ _ _ _ _ _ _ _ _ W hk.lw (hk.v9 (hall 9 (by decide)))
end Go.Proofs.YtpbmbaffncnglaaGreatDoor.Sv
end
section
set_option linter.unusedVariables false
set_option linter.unusedSimpArgs false
/- the law's walk -/
namespace Go.Proofs.YtpbmbaffncnglaaGreatDoor.Sv
open Go Go.RowKit Rx
set_option maxRecDepth 100000
theorem j10law (k : Nat) (hk : k = 1 ∨ k = 2 ∨ k = 3) (wild : Bool) (a b c x y z : Nat) (mv S1 S2 : ByteArray) (ha : a + 1 < 18446744073709551616) (hb : b < 18446744073709551616) (hb1 : k = 1 ∨ b + 1 < 18446744073709551616) (hc : c < 18446744073709551616) (h0 : k = 3 → ¬ (a = 0 ∧ b = 0 ∧ c = 0))
    (h1 : S1 = bOf (126 :: (low k a b c ++ wx k wild))) (h2 : S2 = bOf (62 :: 61 :: (low k a b c ++ 44 :: 32 :: 60 :: hi k a b))) (w : World) (hT : Lib.Utf8Tabs 11 12 w) :
    Calls Tryz.prog 10 #[.string S1, .string S2, .agg #[.int .u64 x, .int .u64 y, .int .u64 z, .string e0, .string mv], .bool false] w fun e w' => e = .returned (.bool true) ∧ Below w.heap.size w w' := by
  subst h1 h2
  refine j10 _ _ x y z mv false (rA k wild a b c x y z) (fun w h => chkA k hk wild a b c x y z mv false (by omega) hb hc w h) (fun w h => ?_) w hT
  rw [law_plain k hk wild a b c x y z h0]
  exact chkG k hk a b c x y z mv false ha hb hb1 hc w h
theorem zr3_zero {a b c : Nat} (h : zr3 a b c ≠ 0) : ¬ (a = 0 ∧ b = 0 ∧ c = 0) := by
  rintro ⟨rfl, rfl, rfl⟩
  exact h (by simp [zr3])
theorem b126 : (⟨#[126]⟩ : ByteArray) = bOf [126] := rfl
theorem b46x : (⟨#[46, 120]⟩ : ByteArray) = bOf [46, 120] := rfl
theorem b62 : (⟨#[62, 61]⟩ : ByteArray) = bOf [62, 61] := rfl
theorem b44 : (⟨#[44, 32, 60]⟩ : ByteArray) = bOf [44, 32, 60] := rfl
theorem b46 : (⟨#[46]⟩ : ByteArray) = bOf [46] := rfl
set_option maxHeartbeats 16000000 in
theorem lawA (k : Int) (wild : Bool) (a b c x y z : Nat) (ha : a < 18446744073709551616) (hb : b < 18446744073709551616) (hc : c < 18446744073709551616) (p m pv mv : ByteArray) (w : World) (hT : Lib.Utf8Tabs 11 12 w) :
    Calls Tryz.prog 3 #[iv a b c p m, .int .i64 k, .bool wild, iv x y z pv mv] w fun e w' => e = .returned (.bool true) ∧ Below w.heap.size w w' := by
  have H0 : LT w w.heap.size (w.heap.size + 1) a b c x y z p m pv mv ((w.alloc (.cells #[.int .u64 a, .int .u64 b, .int .u64 c, .string p, .string m] 24)).alloc (.cells #[.int .u64 x, .int .u64 y, .int .u64 z, .string pv, .string mv] 24)) :=
    have hal := (Below.refl _ w).alloc (Nat.le_refl _) (.cells #[.int .u64 a, .int .u64 b, .int .u64 c, .string p, .string m] 24)
    have hal2 := hal.alloc hal.size (.cells #[.int .u64 x, .int .u64 y, .int .u64 z, .string pv, .string mv] 24)
    ⟨jblk ((Below.refl _ _).alloc (Nat.le_refl _) _) (heap_alloc_new w _), new2 w _ _ _, Utf8Tabs_below hT hal2, hal2, Nat.le_refl _, by omega, by omega⟩
  have HH := Lib.hid (And.intro ha (And.intro hb hc))
  have HX := Lib.hid (fun w => And.intro (l4 a b c p m w) (And.intro (l4 x y z pv mv w) (j5 a b c p m ⟨#[]⟩ ⟨#[]⟩ w)))
  have HT := Lib.hid hT
  obtain ⟨Z, hZ⟩ : ∃ Z, Z = zr3 a b c := ⟨_, rfl⟩
  rw [← hZ] at HX
  have HZ := Lib.hid hZ
  clear ha hb hc hT hZ
  unfold iv at *
  go_enter Tryz.func3, Tryz.ntmps3
  go_upto_region 1 with fail
  generalize hw0 : (w.alloc (.cells #[.int .u64 a, .int .u64 b, .int .u64 c, .string p, .string m] 24)).alloc (.cells #[.int .u64 x, .int .u64 y, .int .u64 z, .string pv, .string mv] 24) = w0 at *
  clear hw0
  generalize hT7 : w.heap.size + 1 = T7 at H0 ⊢
  clear hT7
  generalize hT4 : w.heap.size = T4 at H0 ⊢
  clear hT4
  obtain ⟨q0, q1, q2, q3, q4⟩ := H0.cells4
  obtain ⟨y0, y1, y2, y3, y4⟩ := H0.cells7
  go_upto_region 3 with (go_at_call 4; first
    | ((with_reducible refine (HX.out _).1.mono ?_); rintro e w1 ⟨⟨r, rfl⟩, hb⟩; have H1 := H0.keep hb; clear hb q0 q1 q2 q3 q4 y0 y1 y2 y3 y4; obtain ⟨q0, q1, q2, q3, q4⟩ := H1.cells4; obtain ⟨y0, y1, y2, y3, y4⟩ := H1.cells7)
    | ((with_reducible refine (HX.out _).2.1.mono ?_); rintro e w2 ⟨⟨r, rfl⟩, hb⟩; have H2 := H1.keep hb; clear hb q0 q1 q2 q3 q4 y0 y1 y2 y3 y4; obtain ⟨q0, q1, q2, q3, q4⟩ := H2.cells4; obtain ⟨y0, y1, y2, y3, y4⟩ := H2.cells7))
  · go_ret
    exact ⟨rfl, H2.b⟩
  · have fz := fun k => frozen_of_row _ _ k _ _ H2.t7
    have H3 : LT w T4 T7 a b c x y z p m e0 mv (w2.setCell ⟨T7, 3, none⟩ (.string e0)) := by
      have hb : Below w.heap.size w (w2.setCell ⟨T7, 3, none⟩ (.string e0)) := H2.b.setCell H2.l7 _
      exact ⟨(heap_setCell_other _ _ _ _ H2.ne).trans H2.t4, heap_setCell_same _ _ 3 _ _ _ H2.t7, Utf8Tabs_below HT.out hb, hb, H2.l4, H2.l7, H2.ne⟩
    go_upto_region 4 with fail
    generalize w2.setCell ⟨T7, 3, none⟩ (.string e0) = w3 at *
    clear q0 q1 q2 q3 q4 y0 y1 y2 y3 y4 fz H0 H1 H2
    obtain ⟨q0, q1, q2, q3, q4⟩ := H3.cells4
    go_upto_region 5 with (go_at_call 5; (with_reducible refine (HX.out _).2.2.mono ?_); rintro e w4 ⟨rfl, hb⟩; have H4 := H3.keep hb; clear hb q0 q1 q2 q3 q4; obtain ⟨q0, q1, q2, q3, q4⟩ := H4.cells4; obtain ⟨y0, y1, y2, y3, y4⟩ := H4.cells7)
    clear H3 HX
    obtain ⟨sz, hsz⟩ : ∃ s, s = (Z == 0) := ⟨_, rfl⟩
    rw [← hsz]
    have HSZ := Lib.hid hsz
    clear hsz
    go_cut [51] from 26 to 51 (fun s51 wc => ∃ rr, s51 = .bool rr ∧ Hid (LT w T4 T7 a b c x y z p m e0 mv wc ∧ (rr = false → (k = 1 ∨ k = 2 ∨ k = 3) ∧ plusB (if k = 1 then 1 else 2) a b = true ∧ (k = 3 → sz = false))))
    case first =>
      have H7 := Lib.hid (fun w B h => j7 x y z mv w B h)
      by_cases c1 : k < 1
      · go_wp2
        go_meet
        exact ⟨_, rfl, Lib.hid ⟨H4, fun h => by cases h⟩⟩
      · by_cases c2 : 3 < k
        · go_wp2
          go_meet
          exact ⟨_, rfl, Lib.hid ⟨H4, fun h => by cases h⟩⟩
        · have hk : k = 1 ∨ k = 2 ∨ k = 3 := by omega
          clear c1 c2
          rcases hk with rfl | rfl | rfl
          · skip
            have H6 := Lib.hid (fun w => jPlus 1 (by omega) a b c p m HH.out.1 HH.out.2.1 w)
            unfold iv at H6
            cases hpl : plusB 1 a b with
            | false =>
              rw [hpl] at H6
              clear hpl
              go_wp2_with (go_at_call 6; refine (H6.out _).mono ?_; rintro e w5 ⟨rfl, hb⟩; have H5 := H4.keep hb; clear hb q0 q1 q2 q3 q4 y0 y1 y2 y3 y4; obtain ⟨q0, q1, q2, q3, q4⟩ := H5.cells4; obtain ⟨y0, y1, y2, y3, y4⟩ := H5.cells7)
              go_meet
              exact ⟨_, rfl, Lib.hid ⟨H5, fun h => by cases h⟩⟩
            | true =>
              rw [hpl] at H6
              have HPL := Lib.hid hpl
              clear hpl
              go_wp2_with (first
                | (go_at_call 6; refine (H6.out _).mono ?_; rintro e w5 ⟨rfl, hb⟩; have H5 := H4.keep hb; clear hb q0 q1 q2 q3 q4 y0 y1 y2 y3 y4; obtain ⟨q0, q1, q2, q3, q4⟩ := H5.cells4; obtain ⟨y0, y1, y2, y3, y4⟩ := H5.cells7)
                | (go_at_call 7; refine (H7.out _ _ (heap_alloc_new _ _)).mono ?_; rintro e w6 ⟨⟨r2, rfl⟩, hb⟩; have H8 := (H5.keep ((Below.refl _ _).alloc (Nat.le_refl _) _)).keep hb; clear hb))
              go_meet
              refine ⟨_, rfl, Lib.hid ⟨H8, fun h => ⟨?_, ?_, ?_⟩⟩⟩
              · first | trivial | omega | simp
              · exact HPL.out
              · first | trivial | simp | (intro h; omega)
          · skip
            have H6 := Lib.hid (fun w => jPlus 2 (by omega) a b c p m HH.out.1 HH.out.2.1 w)
            unfold iv at H6
            cases hpl : plusB 2 a b with
            | false =>
              rw [hpl] at H6
              clear hpl
              go_wp2_with (go_at_call 6; refine (H6.out _).mono ?_; rintro e w5 ⟨rfl, hb⟩; have H5 := H4.keep hb; clear hb q0 q1 q2 q3 q4 y0 y1 y2 y3 y4; obtain ⟨q0, q1, q2, q3, q4⟩ := H5.cells4; obtain ⟨y0, y1, y2, y3, y4⟩ := H5.cells7)
              go_meet
              exact ⟨_, rfl, Lib.hid ⟨H5, fun h => by cases h⟩⟩
            | true =>
              rw [hpl] at H6
              have HPL := Lib.hid hpl
              clear hpl
              go_wp2_with (first
                | (go_at_call 6; refine (H6.out _).mono ?_; rintro e w5 ⟨rfl, hb⟩; have H5 := H4.keep hb; clear hb q0 q1 q2 q3 q4 y0 y1 y2 y3 y4; obtain ⟨q0, q1, q2, q3, q4⟩ := H5.cells4; obtain ⟨y0, y1, y2, y3, y4⟩ := H5.cells7)
                | (go_at_call 7; refine (H7.out _ _ (heap_alloc_new _ _)).mono ?_; rintro e w6 ⟨⟨r2, rfl⟩, hb⟩; have H8 := (H5.keep ((Below.refl _ _).alloc (Nat.le_refl _) _)).keep hb; clear hb))
              go_meet
              refine ⟨_, rfl, Lib.hid ⟨H8, fun h => ⟨?_, ?_, ?_⟩⟩⟩
              · first | trivial | omega | simp
              · exact HPL.out
              · first | trivial | simp | (intro h; omega)
          · cases sz
            · skip
              have H6 := Lib.hid (fun w => jPlus 2 (by omega) a b c p m HH.out.1 HH.out.2.1 w)
              unfold iv at H6
              cases hpl : plusB 2 a b with
              | false =>
                rw [hpl] at H6
                clear hpl
                go_wp2_with (go_at_call 6; refine (H6.out _).mono ?_; rintro e w5 ⟨rfl, hb⟩; have H5 := H4.keep hb; clear hb q0 q1 q2 q3 q4 y0 y1 y2 y3 y4; obtain ⟨q0, q1, q2, q3, q4⟩ := H5.cells4; obtain ⟨y0, y1, y2, y3, y4⟩ := H5.cells7)
                go_meet
                exact ⟨_, rfl, Lib.hid ⟨H5, fun h => by cases h⟩⟩
              | true =>
                rw [hpl] at H6
                have HPL := Lib.hid hpl
                clear hpl
                go_wp2_with (first
                  | (go_at_call 6; refine (H6.out _).mono ?_; rintro e w5 ⟨rfl, hb⟩; have H5 := H4.keep hb; clear hb q0 q1 q2 q3 q4 y0 y1 y2 y3 y4; obtain ⟨q0, q1, q2, q3, q4⟩ := H5.cells4; obtain ⟨y0, y1, y2, y3, y4⟩ := H5.cells7)
                  | (go_at_call 7; refine (H7.out _ _ (heap_alloc_new _ _)).mono ?_; rintro e w6 ⟨⟨r2, rfl⟩, hb⟩; have H8 := (H5.keep ((Below.refl _ _).alloc (Nat.le_refl _) _)).keep hb; clear hb))
                go_meet
                refine ⟨_, rfl, Lib.hid ⟨H8, fun h => ⟨?_, ?_, ?_⟩⟩⟩
                · first | trivial | omega | simp
                · exact HPL.out
                · first | trivial | simp
            · go_wp2
              go_meet
              exact ⟨_, rfl, Lib.hid ⟨H4, fun h => by cases h⟩⟩
    case rest =>
      obtain ⟨rr, rfl, HC⟩ := hcut
      clear q0 q1 q2 q3 q4 y0 y1 y2 y3 y4
      cases rr with
      | true =>
        go_wp2
        go_ret
        exact ⟨rfl, HC.out.1.b⟩
      | false =>
        have H6 := HC.out.1
        have HF := Lib.hid (HC.out.2 rfl)
        clear H4 HC
        go_upto_region 7 with fail
        obtain rfl | rfl | rfl := HF.out.1
        · skip
          have hp : a + 1 < 18446744073709551616 ∧ True := by
            have h := HF.out.2.1
            simp [plusB] at h
            exact ⟨by omega, trivial⟩
          have HP := Lib.hid hp
          have HZ3 := Lib.hid (show 1 = 3 → ¬ (a = 0 ∧ b = 0 ∧ c = 0) from fun h => by omega)
          obtain ⟨n, hn⟩ : ∃ n, n = a + 1 := ⟨_, rfl⟩
          have hw : IntKind.u64.wrap ((a : Int) + 1) = (n : Int) := by
            obtain ⟨-, h⟩ | ⟨h, -⟩ := wrap1 a (by omega)
            · rw [h, hn]
            · omega
          have z1 : (bOf (low 1 a b c)).size < 100 := by rw [bOf_size]; have := low_len 1 a b c HH.out.1 HH.out.2.1 HH.out.2.2; omega
          have z2 : (bOf (Lib.decDigits n)).size < 100 := by rw [bOf_size]; have := dec_len n (by omega); omega
          have hD := fun W => jDec n n (Nat.le_refl _) (by omega) W
          have hN : ∀ W, Calls Tryz.prog 8 #[iv a b c p m, .int .i64 1] W fun e w' => e = .returned (.string (bOf (low 1 a b c))) ∧ Below W.heap.size W w' := fun W => jNum 1 (by omega) (by omega) a b c p m HH.out.1 HH.out.2.1 HH.out.2.2 W
          have HNN := Lib.hid hn
          unfold iv at hN
          clear hn hp
          refine region7 _ _ _ _ _ _ _ _ _ _ _ _ _ _ _ _ _ _ _ _ _ _ _ _ _ _ _ _ _ _ _ _ _ _ _ _ _ _ _ _ _ _ _ _ _ _ _ _ _ _ _ _ _ _ _ _ _ _ _ _ _ _ _ _ _ _ _ _ _ _ _ _ _ _ _ _ _ _ (hlw := H6) (hn := hw) (hN := hN) (hD := hD) (hQ := fun s10 s11 s52 s53 s54 s55 s56 s57 s58 W7 H7 h10 h11 => ?_)
          subst h10 h11
          unfold fr7
          clear hD hN hw H6
          obtain ⟨y0, y1, y2, y3, y4⟩ := H7.cells7
          have HW := Lib.hid H7
          clear H7
          cases wild
          · skip
            have HL := Lib.hid (fun w h => j10law 1 (by omega) false a b c x y z mv (⟨#[126]⟩ ++ bOf (low 1 a b c)) (⟨#[62, 61]⟩ ++ bOf (low 1 a b c) ++ ⟨#[44, 32, 60]⟩ ++ bOf (Lib.decDigits n)) HP.out.1 HH.out.2.1 (.inl rfl) HH.out.2.2 HZ3.out (by rw [b126, bOf_app]; simp [wx]) (by obtain rfl := HNN.out; rw [b62, b44]; simp only [bOf_app]; simp [hi]) w h)
            go_wp2_with (go_at_call 10; refine (HL.out _ HW.out.tabs).mono ?_; rintro e w9 ⟨rfl, hb⟩; have H9 := HW.out.keep hb; clear hb)
            go_ret
            exact ⟨rfl, H9.b⟩
          · skip
            have HL := Lib.hid (fun w h => j10law 1 (by omega) true a b c x y z mv (⟨#[126]⟩ ++ bOf (low 1 a b c) ++ ⟨#[46, 120]⟩) (⟨#[62, 61]⟩ ++ bOf (low 1 a b c) ++ ⟨#[44, 32, 60]⟩ ++ bOf (Lib.decDigits n)) HP.out.1 HH.out.2.1 (.inl rfl) HH.out.2.2 HZ3.out (by rw [b126, b46x, bOf_app, bOf_app]; simp [wx]) (by obtain rfl := HNN.out; rw [b62, b44]; simp only [bOf_app]; simp [hi]) w h)
            go_wp2_with (go_at_call 10; refine (HL.out _ HW.out.tabs).mono ?_; rintro e w9 ⟨rfl, hb⟩; have H9 := HW.out.keep hb; clear hb)
            go_ret
            exact ⟨rfl, H9.b⟩
        · skip
          have hp : a + 1 < 18446744073709551616 ∧ b + 1 < 18446744073709551616 := by
            have h := HF.out.2.1
            simp [plusB] at h
            omega
          have HP := Lib.hid hp
          have HZ3 := Lib.hid (show 2 = 3 → ¬ (a = 0 ∧ b = 0 ∧ c = 0) from fun h => by omega)
          obtain ⟨n, hn⟩ : ∃ n, n = a + 1 := ⟨_, rfl⟩
          have hw : IntKind.u64.wrap ((a : Int) + 1) = (n : Int) := by
            obtain ⟨-, h⟩ | ⟨h, -⟩ := wrap1 a (by omega)
            · rw [h, hn]
            · omega
          have z1 : (bOf (low 2 a b c)).size < 100 := by rw [bOf_size]; have := low_len 2 a b c HH.out.1 HH.out.2.1 HH.out.2.2; omega
          have z2 : (bOf (Lib.decDigits n)).size < 100 := by rw [bOf_size]; have := dec_len n (by omega); omega
          have hD := fun W => jDec n n (Nat.le_refl _) (by omega) W
          have hN : ∀ W, Calls Tryz.prog 8 #[iv a b c p m, .int .i64 2] W fun e w' => e = .returned (.string (bOf (low 2 a b c))) ∧ Below W.heap.size W w' := fun W => jNum 2 (by omega) (by omega) a b c p m HH.out.1 HH.out.2.1 HH.out.2.2 W
          have HNN := Lib.hid hn
          unfold iv at hN
          obtain ⟨n2, hn2⟩ : ∃ n, n = b + 1 := ⟨_, rfl⟩
          have hw2 : IntKind.u64.wrap ((b : Int) + 1) = (n2 : Int) := by
            obtain ⟨-, h⟩ | ⟨h, -⟩ := wrap1 b (by omega)
            · rw [h, hn2]
            · omega
          have z3 : (bOf (Lib.decDigits a)).size < 100 := by rw [bOf_size]; have := dec_len a (by omega); omega
          have z4 : (bOf (Lib.decDigits n2)).size < 100 := by rw [bOf_size]; have := dec_len n2 (by omega); omega
          have hD2 := fun W => jDec n2 n2 (Nat.le_refl _) (by omega) W
          have hDa := fun W => jDec a a (Nat.le_refl _) (by omega) W
          have HNN2 := Lib.hid hn2
          clear hn2
          clear hn hp
          refine region7 _ _ _ _ _ _ _ _ _ _ _ _ _ _ _ _ _ _ _ _ _ _ _ _ _ _ _ _ _ _ _ _ _ _ _ _ _ _ _ _ _ _ _ _ _ _ _ _ _ _ _ _ _ _ _ _ _ _ _ _ _ _ _ _ _ _ _ _ _ _ _ _ _ _ _ _ _ _ (hlw := H6) (hn := hw) (hN := hN) (hD := hD) (hQ := fun s10 s11 s52 s53 s54 s55 s56 s57 s58 W7 H7 h10 h11 => ?_)
          subst h10 h11
          unfold fr7
          clear hD hN hw H6
          go_upto_region 9 with fail
          refine region9 _ _ _ _ _ _ _ _ _ _ _ _ _ _ _ _ _ _ _ _ _ _ _ _ _ _ _ _ _ _ _ _ _ _ _ _ _ _ _ _ _ _ _ _ _ _ _ _ _ _ _ _ _ _ _ _ _ _ _ _ _ _ _ _ _ _ _ _ _ _ _ _ _ _ _ _ (hlw := H7) (hn := hw2) (hA := hDa) (hD := hD2) (z1 := z3) (z2 := z4) (hQ := fun s11 s61 s62 s63 s64 s65 s66 s67 s68 s69 W8 H8 h11 => ?_)
          subst h11
          unfold fr9
          clear hD2 hDa hw2 H7
          obtain ⟨y0, y1, y2, y3, y4⟩ := H8.cells7
          have HW := Lib.hid H8
          clear H8
          cases wild
          · skip
            have HL := Lib.hid (fun w h => j10law 2 (by omega) false a b c x y z mv (⟨#[126]⟩ ++ bOf (low 2 a b c)) (⟨#[62, 61]⟩ ++ bOf (low 2 a b c) ++ ⟨#[44, 32, 60]⟩ ++ (bOf (Lib.decDigits a) ++ ⟨#[46]⟩ ++ bOf (Lib.decDigits n2))) HP.out.1 HH.out.2.1 (.inr HP.out.2) HH.out.2.2 HZ3.out (by rw [b126, bOf_app]; simp [wx]) (by obtain rfl := HNN2.out; rw [b62, b44, b46]; simp only [bOf_app]; simp [hi]) w h)
            go_wp2_with (go_at_call 10; refine (HL.out _ HW.out.tabs).mono ?_; rintro e w9 ⟨rfl, hb⟩; have H9 := HW.out.keep hb; clear hb)
            go_ret
            exact ⟨rfl, H9.b⟩
          · skip
            have HL := Lib.hid (fun w h => j10law 2 (by omega) true a b c x y z mv (⟨#[126]⟩ ++ bOf (low 2 a b c) ++ ⟨#[46, 120]⟩) (⟨#[62, 61]⟩ ++ bOf (low 2 a b c) ++ ⟨#[44, 32, 60]⟩ ++ (bOf (Lib.decDigits a) ++ ⟨#[46]⟩ ++ bOf (Lib.decDigits n2))) HP.out.1 HH.out.2.1 (.inr HP.out.2) HH.out.2.2 HZ3.out (by rw [b126, b46x, bOf_app, bOf_app]; simp [wx]) (by obtain rfl := HNN2.out; rw [b62, b44, b46]; simp only [bOf_app]; simp [hi]) w h)
            go_wp2_with (go_at_call 10; refine (HL.out _ HW.out.tabs).mono ?_; rintro e w9 ⟨rfl, hb⟩; have H9 := HW.out.keep hb; clear hb)
            go_ret
            exact ⟨rfl, H9.b⟩
        · skip
          have hp : a + 1 < 18446744073709551616 ∧ b + 1 < 18446744073709551616 := by
            have h := HF.out.2.1
            simp [plusB] at h
            omega
          have HP := Lib.hid hp
          have HZ3 := Lib.hid (show 3 = 3 → ¬ (a = 0 ∧ b = 0 ∧ c = 0) from fun h => zr3_zero (by have h2 := HSZ.out; rw [HF.out.2.2 (by rfl)] at h2; have h3 := HZ.out; rw [← h3]; intro h4; rw [h4] at h2; simp at h2))
          obtain ⟨n, hn⟩ : ∃ n, n = a + 1 := ⟨_, rfl⟩
          have hw : IntKind.u64.wrap ((a : Int) + 1) = (n : Int) := by
            obtain ⟨-, h⟩ | ⟨h, -⟩ := wrap1 a (by omega)
            · rw [h, hn]
            · omega
          have z1 : (bOf (low 3 a b c)).size < 100 := by rw [bOf_size]; have := low_len 3 a b c HH.out.1 HH.out.2.1 HH.out.2.2; omega
          have z2 : (bOf (Lib.decDigits n)).size < 100 := by rw [bOf_size]; have := dec_len n (by omega); omega
          have hD := fun W => jDec n n (Nat.le_refl _) (by omega) W
          have hN : ∀ W, Calls Tryz.prog 8 #[iv a b c p m, .int .i64 3] W fun e w' => e = .returned (.string (bOf (low 3 a b c))) ∧ Below W.heap.size W w' := fun W => jNum 3 (by omega) (by omega) a b c p m HH.out.1 HH.out.2.1 HH.out.2.2 W
          have HNN := Lib.hid hn
          unfold iv at hN
          obtain ⟨n2, hn2⟩ : ∃ n, n = b + 1 := ⟨_, rfl⟩
          have hw2 : IntKind.u64.wrap ((b : Int) + 1) = (n2 : Int) := by
            obtain ⟨-, h⟩ | ⟨h, -⟩ := wrap1 b (by omega)
            · rw [h, hn2]
            · omega
          have z3 : (bOf (Lib.decDigits a)).size < 100 := by rw [bOf_size]; have := dec_len a (by omega); omega
          have z4 : (bOf (Lib.decDigits n2)).size < 100 := by rw [bOf_size]; have := dec_len n2 (by omega); omega
          have hD2 := fun W => jDec n2 n2 (Nat.le_refl _) (by omega) W
          have hDa := fun W => jDec a a (Nat.le_refl _) (by omega) W
          have HNN2 := Lib.hid hn2
          clear hn2
          clear hn hp
          refine region7 _ _ _ _ _ _ _ _ _ _ _ _ _ _ _ _ _ _ _ _ _ _ _ _ _ _ _ _ _ _ _ _ _ _ _ _ _ _ _ _ _ _ _ _ _ _ _ _ _ _ _ _ _ _ _ _ _ _ _ _ _ _ _ _ _ _ _ _ _ _ _ _ _ _ _ _ _ _ (hlw := H6) (hn := hw) (hN := hN) (hD := hD) (hQ := fun s10 s11 s52 s53 s54 s55 s56 s57 s58 W7 H7 h10 h11 => ?_)
          subst h10 h11
          unfold fr7
          clear hD hN hw H6
          go_upto_region 9 with fail
          refine region9 _ _ _ _ _ _ _ _ _ _ _ _ _ _ _ _ _ _ _ _ _ _ _ _ _ _ _ _ _ _ _ _ _ _ _ _ _ _ _ _ _ _ _ _ _ _ _ _ _ _ _ _ _ _ _ _ _ _ _ _ _ _ _ _ _ _ _ _ _ _ _ _ _ _ _ _ (hlw := H7) (hn := hw2) (hA := hDa) (hD := hD2) (z1 := z3) (z2 := z4) (hQ := fun s11 s61 s62 s63 s64 s65 s66 s67 s68 s69 W8 H8 h11 => ?_)
          subst h11
          unfold fr9
          clear hD2 hDa hw2 H7
          obtain ⟨y0, y1, y2, y3, y4⟩ := H8.cells7
          have HW := Lib.hid H8
          clear H8
          cases wild
          · skip
            have HL := Lib.hid (fun w h => j10law 3 (by omega) false a b c x y z mv (⟨#[126]⟩ ++ bOf (low 3 a b c)) (⟨#[62, 61]⟩ ++ bOf (low 3 a b c) ++ ⟨#[44, 32, 60]⟩ ++ (bOf (Lib.decDigits a) ++ ⟨#[46]⟩ ++ bOf (Lib.decDigits n2))) HP.out.1 HH.out.2.1 (.inr HP.out.2) HH.out.2.2 HZ3.out (by rw [b126, bOf_app]; simp [wx]) (by obtain rfl := HNN2.out; rw [b62, b44, b46]; simp only [bOf_app]; simp [hi]) w h)
            go_wp2_with (go_at_call 10; refine (HL.out _ HW.out.tabs).mono ?_; rintro e w9 ⟨rfl, hb⟩; have H9 := HW.out.keep hb; clear hb)
            go_ret
            exact ⟨rfl, H9.b⟩
          · skip
            have HL := Lib.hid (fun w h => j10law 3 (by omega) true a b c x y z mv (⟨#[126]⟩ ++ bOf (low 3 a b c)) (⟨#[62, 61]⟩ ++ bOf (low 3 a b c) ++ ⟨#[44, 32, 60]⟩ ++ (bOf (Lib.decDigits a) ++ ⟨#[46]⟩ ++ bOf (Lib.decDigits n2))) HP.out.1 HH.out.2.1 (.inr HP.out.2) HH.out.2.2 HZ3.out (by rw [b126, bOf_app]; simp [wx]) (by obtain rfl := HNN2.out; rw [b62, b44, b46]; simp only [bOf_app]; simp [hi]) w h)
            go_wp2_with (go_at_call 10; refine (HL.out _ HW.out.tabs).mono ?_; rintro e w9 ⟨rfl, hb⟩; have H9 := HW.out.keep hb; clear hb)
            go_ret
            exact ⟨rfl, H9.b⟩
  · go_ret
    exact ⟨rfl, H1.b⟩
end Go.Proofs.YtpbmbaffncnglaaGreatDoor.Sv
end
section
set_option linter.unusedVariables false
set_option linter.unusedSimpArgs false
namespace Go.Proofs.YtpbmbaffncnglaaGreatDoor.Sv
open Go Go.ChangeShapes Go.WideShapes Go.ChangeAt Go.RowKit Go.Joins Go.Deep
open Go.ChangeMaps (open_string)
section
variable {H : Type} {enc : TypeId × Value → H} {P : Program} {w : World} {base : Nat} {spare : Nat → Bool} {held : Bool}
theorem open_agg5 {r : Reach} {b0 : Nat} {t : TypeId} {f0 f1 f2 f3 f4 : Field} {v : Value} {d : DataW H} {p : List MemPlace} (hs : P.underlying t = some (.struct #[f0, f1, f2, f3, f4])) (hone : oneCellFields P #[f0, f1, f2, f3, f4] = true) (hC : P.cellsOf t = 5)
    (hv : Value.okWide P w r b0 t v) (h : DataW.Trod enc P w base spare held t v d p) :
    ∃ (v0 v1 v2 v3 v4 : Value) (y0 y1 y2 y3 y4 : DataW H × List MemPlace) (n : Nat), v = .agg #[v0, v1, v2, v3, v4] ∧ d = .agg [y0.1, y1.1, y2.1, y3.1, y4.1] ∧ p = y0.2 ++ (y1.2 ++ (y2.2 ++ (y3.2 ++ y4.2))) ∧
      DataW.trod enc P w base spare held n f0.type [v0] = some y0 ∧ DataW.trod enc P w base spare held n f1.type [v1] = some y1 ∧ DataW.trod enc P w base spare held n f2.type [v2] = some y2 ∧ DataW.trod enc P w base spare held n f3.type [v3] = some y3 ∧ DataW.trod enc P w base spare held n f4.type [v4] = some y4 := by
  obtain ⟨cs, rfl, hsz⟩ := okWide_struct hs hv
  obtain ⟨l⟩ := cs
  match l, hsz.trans hC with
  | [c0, c1, c2, c3, c4], _ =>
    obtain ⟨fuel, hf⟩ := h
    obtain ⟨xs, n, _, hx, _, hlen, hg⟩ := DataW.trod_struct hs hf
    obtain ⟨o0, k0⟩ := hone_of hone 0 f0 rfl
    obtain ⟨o1, k1⟩ := hone_of hone 1 f1 rfl
    obtain ⟨o2, k2⟩ := hone_of hone 2 f2 rfl
    obtain ⟨o3, k3⟩ := hone_of hone 3 f3 rfl
    obtain ⟨o4, k4⟩ := hone_of hone 4 f4 rfl
    match xs, hlen with
    | [y0, y1, y2, y3, y4], _ =>
      simp only [Prod.mk.injEq] at hx
      exact ⟨c0, c1, c2, c3, c4, y0, y1, y2, y3, y4, n, rfl, by simpa using hx.1, by simpa using hx.2, by simpa [Value.cells, o0, k0] using hg 0 f0 rfl, by simpa [Value.cells, o1, k1] using hg 1 f1 rfl, by simpa [Value.cells, o2, k2] using hg 2 f2 rfl, by simpa [Value.cells, o3, k3] using hg 3 f3 rfl, by simpa [Value.cells, o4, k4] using hg 4 f4 rfl⟩
end
theorem own : ownKnob Tryz.prog.godebug = none := by kernel_rfl
theorem laidOut : laidOutB Tryz.prog = true := by kernel_rfl
abbrev laidL : List (String × DataW Unit) := Rows.fnSemverTildeRow.laid
theorem nat_of_u64 {z : Int} (h : (Lit.int .u64 z).wf = true) : ∃ n : Nat, z = (n : Int) ∧ n < 18446744073709551616 := by
  have e1 : IntKind.u64.min = 0 := rfl
  have e2 : IntKind.u64.max = 18446744073709551615 := rfl
  simp [Lit.wf, e1, e2] at h
  exact ⟨z.toNat, by omega, by omega⟩
/-- the tables that the row lists -/
theorem tabs_of {W : World} (hL : laidMetH Tryz.prog laidL W) : Lib.Utf8Tabs 11 12 W := by
  rw [MakeChecks.laidMetH_plain _ _ _ (by kernel_rfl)] at hL
  have e1 : (Rows.laid_unicode_utf8_first : DataW Unit) = Lib.firstData := by kernel_rfl
  have e2 : (Rows.laid_unicode_utf8_acceptRanges : DataW Unit) = Lib.acceptData := by kernel_rfl
  have h1 := Lib.laidMet.reads hL (n := "unicode/utf8.first") (d := Rows.laid_unicode_utf8_first) (.tail _ (.tail _ (.tail _ (.tail _ (.tail _ (.tail _ (.tail _ (.tail _ (.tail _ (.tail _ (.tail _ (.tail _ (.tail _ (.tail _ (.tail _ (.head _))))))))))))))))
  have h2 := Lib.laidMet.reads hL (n := "unicode/utf8.acceptRanges") (d := Rows.laid_unicode_utf8_acceptRanges) (.tail _ (.tail _ (.tail _ (.head _))))
  rw [e1] at h1
  rw [e2] at h2
  exact utf8Tabs_of_reads (ρ := Tryz.lays197_ren) { Tryz.lays197 with } ⟨by kernel_rfl, by kernel_rfl, by kernel_rfl, by kernel_rfl, by kernel_rfl, by kernel_rfl, by kernel_rfl⟩ h1 h2
set_option maxRecDepth 100000 in
theorem lifted (os : Os) (started : os.Started) (H : Type) (enc : TypeId × Value → H) :
    ReturnsInHanded {} Tryz.checked os 3 .any (fun w args => (Rows.fnSemverTildeSpec.pre enc Tryz.prog Tryz.f3 Rows.fnSemverTildeRow.domain false w args ∧ laidMetH Tryz.prog laidL w) ∧ sizedMet enc Tryz.prog Tryz.f3 (OpenSpec.ofChange Rows.fnSemverTildeSpec) false w args)
      (Rows.fnSemverTildeSpec.post enc Tryz.prog Tryz.f3 false true false false) := by
  refine returnsInHanded_of_change_and (C := Tryz.checked) (X := fun w _ => laidMetH Tryz.prog laidL w) (fun _ _ _ hh h => h.of_heap hh) own started (by kernel_rfl) Tryz.func3
    (ChangeSpec.witness_shaped (enc := enc) (C := Tryz.checked) (os := os) (X := fun w _ => laidMetH Tryz.prog laidL w) false (World.laidAll Tryz.prog os laidL) #[.agg #[.int .u64 0, .int .u64 0, .int .u64 0, .string ⟨#[]⟩, .string ⟨#[]⟩], .int .i64 0, .bool false, .agg #[.int .u64 0, .int .u64 0, .int .u64 0, .string ⟨#[]⟩, .string ⟨#[]⟩]] 8 (World.laidAll_os _ _ _)
      (World.shaped_of_ZipB (by kernel_rfl) (by kernel_rfl)) (by kernel_rfl) (by kernel_rfl) (by kernel_rfl)
      (by rw [MakeChecks.laidMetH_plain _ _ _ (by kernel_rfl)]; exact laidMet_laidAll _ (by kernel_rfl) (by kernel_rfl))) ?_
  intro W base args ds gs before hval0 hW hc _ hL _
  have hval : ∀ (j : Nat) t v, Tryz.f3.params[j]? = some t → args[j]? = some v → Value.okWide Tryz.prog W .any base t v := hval0
  have hW' := hW
  obtain ⟨p, q, hA0, hV, rfl, hfz, hnd⟩ := hW
  have hA : DataW.TrodAll enc Tryz.prog W 0 (fun _ => true) true Tryz.f3.params.toList args.toList ds p := hA0
  rw [Tryz.params3] at hA hval
  obtain ⟨v0, vs0, d0, ds0, p0, q0, hargs, rfl, rfl, h0, r0⟩ := trodAll_cons hA
  obtain ⟨v1, vs1, d1, ds1, p1, q1, rfl, rfl, rfl, h1, r1⟩ := trodAll_cons r0
  obtain ⟨v2, vs2, d2, ds2, p2, q2, rfl, rfl, rfl, h2, r2⟩ := trodAll_cons r1
  obtain ⟨v3, vs3, d3, ds3, p3, q3, rfl, rfl, rfl, h3, r3⟩ := trodAll_cons r2
  obtain ⟨rfl, rfl, rfl⟩ := trodAll_nil r3
  obtain rfl : args = #[v0, v1, v2, v3] := by cases args; simp_all
  obtain ⟨rfl, rfl⟩ := trodVars_none hV
  have k0 := h0
  have lt0 : ∀ x ∈ p0, x.block < W.heap.size := by obtain ⟨m, hm⟩ := k0; exact DataW.trod_lt m _ _ _ hm
  have k1 := h1
  have lt1 : ∀ x ∈ p1, x.block < W.heap.size := by obtain ⟨m, hm⟩ := k1; exact DataW.trod_lt m _ _ _ hm
  have k2 := h2
  have lt2 : ∀ x ∈ p2, x.block < W.heap.size := by obtain ⟨m, hm⟩ := k2; exact DataW.trod_lt m _ _ _ hm
  have k3 := h3
  have lt3 : ∀ x ∈ p3, x.block < W.heap.size := by obtain ⟨m, hm⟩ := k3; exact DataW.trod_lt m _ _ _ hm
  obtain ⟨b0, b1, b2, b3, b4, z0, z1, z2, z3, z4, n1, rfl, -, -, t0, t1, t2, t3, t4⟩ := open_agg5 Tryz.underlying24 (by kernel_rfl) (by kernel_rfl) (hval 0 24 v0 rfl rfl) h0
  obtain ⟨as0, e0', -, x0⟩ := DataW.trod_int Tryz.underlying22 t0
  obtain ⟨as1, e1, -, x1⟩ := DataW.trod_int Tryz.underlying22 t1
  obtain ⟨as2, e2, -, x2⟩ := DataW.trod_int Tryz.underlying22 t2
  obtain ⟨as3, e3, -, x3⟩ := DataW.trod_string Tryz.underlying9 t3
  obtain ⟨as4, e4, -, x4⟩ := DataW.trod_string Tryz.underlying9 t4
  injection e0' with e0' _
  injection e1 with e1 _
  injection e2 with e2 _
  injection e3 with e3 _
  injection e4 with e4 _
  subst e0' e1 e2 e3 e4
  obtain ⟨a0, rfl, ha0⟩ := nat_of_u64 x0
  obtain ⟨a1, rfl, ha1⟩ := nat_of_u64 x1
  obtain ⟨a2, rfl, ha2⟩ := nat_of_u64 x2
  clear t0 t1 t2 t3 t4 x0 x1 x2 x3 x4
  obtain ⟨b0, b1, b2, b3, b4, z0, z1, z2, z3, z4, n1, rfl, -, -, t0, t1, t2, t3, t4⟩ := open_agg5 Tryz.underlying24 (by kernel_rfl) (by kernel_rfl) (hval 3 24 v3 rfl rfl) h3
  obtain ⟨bs0, e0', -, x0⟩ := DataW.trod_int Tryz.underlying22 t0
  obtain ⟨bs1, e1, -, x1⟩ := DataW.trod_int Tryz.underlying22 t1
  obtain ⟨bs2, e2, -, x2⟩ := DataW.trod_int Tryz.underlying22 t2
  obtain ⟨bs3, e3, -, x3⟩ := DataW.trod_string Tryz.underlying9 t3
  obtain ⟨bs4, e4, -, x4⟩ := DataW.trod_string Tryz.underlying9 t4
  injection e0' with e0' _
  injection e1 with e1 _
  injection e2 with e2 _
  injection e3 with e3 _
  injection e4 with e4 _
  subst e0' e1 e2 e3 e4
  obtain ⟨b0, rfl, hb0⟩ := nat_of_u64 x0
  obtain ⟨b1, rfl, hb1⟩ := nat_of_u64 x1
  obtain ⟨b2, rfl, hb2⟩ := nat_of_u64 x2
  clear t0 t1 t2 t3 t4 x0 x1 x2 x3 x4
  obtain ⟨k, rfl, -, xk⟩ := open_int Tryz.underlying3 (hval 1 3 v1 rfl rfl) h1
  obtain ⟨wild, rfl, -, -⟩ := open_bool Tryz.underlying4 (hval 2 4 v2 rfl rfl) h2
  refine (lawA k wild a0 a1 a2 b0 b1 b2 ha0 ha1 ha2 as3 as4 bs3 bs4 W (tabs_of hL)).mono fun e W' h => ?_
  obtain ⟨he, bel⟩ := h
  subst he
  exact ⟨_, rfl, _, _, _, [], _, [], hW', trodAll_mk1 (shut_bool Tryz.underlying4 _), (trodAll_cons_mk (Below.trod laidOut (by kernel_rfl) (of_decide_eq_true (by kernel_rfl)) k0 bel lt0) (trodAll_cons_mk (Below.trod laidOut (by kernel_rfl) (of_decide_eq_true (by kernel_rfl)) k1 bel lt1) (trodAll_cons_mk (Below.trod laidOut (by kernel_rfl) (of_decide_eq_true (by kernel_rfl)) k2 bel lt2) (trodAll_cons_mk (Below.trod laidOut (by kernel_rfl) (of_decide_eq_true (by kernel_rfl)) k3 bel lt3) trodAll_mk0)))), rfl, bel.frame _, fun h => by cases h⟩
theorem over : Rows.FnSemverTildeSaid :=
  OpenClaim.holds_of_wide 3 Tryz.f3 rfl rfl rfl rfl rfl rfl rfl ⟨rfl, rfl, rfl, rfl, rfl⟩ rfl rfl rfl rfl rfl (by kernel_rfl) Tryz.func3 (by kernel_rfl)
    (of_decide_eq_true (by kernel_rfl)) (by unfold Func.isWrapper; first | (rw [if_pos (by decide +kernel)]; kernel_rfl) | (rw [if_neg (by decide +kernel)]; exact ⟨rfl, rfl⟩))
    (fun os started H enc _ => lifted os started H enc)
end Go.Proofs.YtpbmbaffncnglaaGreatDoor.Sv
namespace Go.Proofs.YtpbmbaffncnglaaGreatDoor
/-- The law holds of every input; what it lists is tied to the program's text. -/
theorem fnSemverTilde_card : Rows.FnSemverTildeCardSaid :=
  Claim7.holds_tied_plain_at .later [] [.data, .data, .data, .data, .sentinel, .sentinel, .sentinel, .sentinel, .sentinel, .sentinel, .sentinel, .sentinel, .sentinel, .sentinel, .sentinel, .pinned] true (true, "e9c7326d6b1b4540ce0bc54984e45b0f6ee25d1d0e3782c0bd9f348e68e818f3") true Sv.over (fun _ h => by cases h) (by kernel_rfl) (fun _ h => by cases h) fnSemverTilde_row_tie rfl ⟨rfl, rfl⟩ (by kernel_rfl) rfl
    (fun f fn hf hfn => by
      obtain rfl : f = 3 := Option.some.inj ((show Tryz.prog.funcNamed "pub-timebook/laws.FnSemverTilde" = some 3 by kernel_rfl).symm.trans hf) |>.symm
      obtain rfl : fn = Tryz.f3 := (Option.some.inj (Tryz.func3.symm.trans hfn)).symm
      exact ⟨by kernel_rfl, fun j t ht => by
        rw [Tryz.params3] at ht
        have hm : t ∈ [24, 3, 4, 24] := by simpa using Array.mem_of_getElem? ht
        have hall : ([24, 3, 4, 24].all fun u => !Tryz.prog.wantsStandIn u) = true := by kernel_rfl
        exact (show Tryz.prog.wantsStandIn t = false by simpa using List.all_eq_true.1 hall t hm)⟩)
    (by kernel_rfl)
end Go.Proofs.YtpbmbaffncnglaaGreatDoor
#print axioms Go.Proofs.YtpbmbaffncnglaaGreatDoor.fnSemverTilde_card
end
