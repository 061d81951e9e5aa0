/- a part of the proof: FnSemverBroken: for every list of lists of terms, every style and every byte the law's function returns true and leaves its arguments as they were. No condition is added: the statement is the given one, the tied card. -/
import Derived.Shelf.Small.Utf8
import Derived.Shelf.Strconv.Itoa0
import Derived.Shelf.Strconv.Itoa1
import Derived.Shelf.LaysM
import Derived.Shelf.Strconv.Itoa2
import Derived.Shelf.Strconv.Itoa3
import Derived.Shelf.Strconv.Clone
import Derived.Shelf.Strconv.SyntaxError
import Derived.Shelf.LaysC
import Derived.Shelf.Strconv.ToError
import Derived.Shelf.Strconv.Lower
import Derived.Shelf.Strconv.ParseUint10
import Derived.Shelf.Strconv.ParseUint10Empty
import Derived.Shelf.Strconv.ParseUint10Any
import Derived.Shelf.Strconv.RangeError
import Derived.Shelf.Strconv.ToErrorRange
import Derived.Shelf.Strconv.ParseUintEmpty
import Derived.Shelf.Strconv.ParseUint10b64
import Derived.Shelf.Strconv.ParseUint10b32
import Derived.Shelf.Strconv.ParseUint10b16
import Derived.Shelf.Strconv.ParseUint10b8
import Derived.Shelf.Strconv.ParseUint10At
import Derived.Ground.MpProg
import Derived.Shelf.Pu.ParseUintPublic10
import Derived.Shelf.Strings.Prefix
import Derived.Shelf.Unicode.Decode
import Derived.Shelf.Unicode.DecodeSlow
import Derived.Shelf.Unicode.DecodeAny
import Derived.Shelf.Unicode.DecodeLast
import Derived.Test.YthejepmnnpmdmaaGreatDoorProg
import Derived.Test.YthejepmnnpmdmaaGreatDoorChecked
import Derived.WalkKit
import Derived.Below
import Derived.Lib.Hide
import Derived.Laws.BitsAllLaws
import Derived.Lib.TrimU
import Derived.Lib.AtoiErrMem
import Derived.Shelf.Unicode.DecodeLastEight
import Derived.Test.YthejepmnnpmdmaaGreatDoorNA
import Derived.Deep.LoopGhost
import Derived.Laws.OwnMore
import Derived.Lib.OthersKept
import Derived.Deep.AppendSrc
import Derived.Maps.AppendAt
import Derived.RowKit3
import Derived.Deep.AppendLies
import Derived.ScopeJumps
section
namespace Go.Proofs
open Go.Shelf
def Tryz.lays197_ren : Go.Shelf.Ren := ⟨fun | 197 => 86 | 260 => 101 | n => n, fun | 9 => 9 | 21 => 21 | 3 => 3 | 4 => 4 | 5 => 5 | 105 => 136 | 119 => 181 | 0 => 0 | 46 => 75 | 139 => 184 | 138 => 183 | n => n, fun | 3 => 11 | 4 => 12 | n => n⟩
theorem Tryz.lays197 : Go.Proofs.Lays.n197 Tryz.prog Tryz.lays197_ren := {
  mixed := by kernel_rfl
  f197 := Tryz.func86.trans (congrArg some (by kernel_rfl))
  f260 := Tryz.func101.trans (congrArg some (by kernel_rfl))
  t0 := Tryz.underlying0
  a0 := Tryz.isAgg0
  z0 := Tryz.sizeOf0
  v0 := Tryz.zeroValue0
  t3 := Tryz.underlying3
  a3 := Tryz.isAgg3
  z3 := Tryz.sizeOf3
  v3 := Tryz.zeroValue3
  t4 := Tryz.underlying4
  a4 := Tryz.isAgg4
  z4 := Tryz.sizeOf4
  v4 := Tryz.zeroValue4
  t5 := Tryz.underlying5
  a5 := Tryz.isAgg5
  z5 := Tryz.sizeOf5
  v5 := Tryz.zeroValue5
  t9 := Tryz.underlying9
  a9 := Tryz.isAgg9
  z9 := Tryz.sizeOf9
  v9 := Tryz.zeroValue9
  t21 := Tryz.underlying21
  a21 := Tryz.isAgg21
  z21 := Tryz.sizeOf21
  v21 := Tryz.zeroValue21
  t46 := Tryz.underlying75
  a46 := Tryz.isAgg75
  z46 := Tryz.sizeOf75
  v46 := Tryz.zeroValue75
  t105 := Tryz.underlying136
  a105 := Tryz.isAgg136
  z105 := Tryz.sizeOf136
  v105 := Tryz.zeroValue136
  t119 := Tryz.underlying181
  a119 := Tryz.isAgg181
  z119 := Tryz.sizeOf181
  t138 := Tryz.underlying183
  a138 := Tryz.isAgg183
  z138 := Tryz.sizeOf183
  v138 := Tryz.zeroValue183
  t139 := Tryz.underlying184
  a139 := Tryz.isAgg184
  z139 := Tryz.sizeOf184
  v139 := Tryz.zeroValue184
  g3 := by kernel_rfl
  g4 := by kernel_rfl }
open Go.RowKit Go.Lib in
/-- **unicode/utf8.DecodeRuneInString AT EVERY STRING.** (LAID: no walk: one application.) -/
theorem Tryz.utf8_DecodeRuneInString (s : ByteArray) (w : World) (hT : Lib.Utf8Tabs 11 12 w) :
    Calls Tryz.prog 86 #[.string s] w fun e w' => e = .returned (.tuple #[.int .i32 (Lib.decodeGo s).1, .int .i64 (Lib.decodeGo s).2]) ∧ Below w.heap.size w w' := Any.utf8_DecodeRuneInString Tryz.lays197 s w hT
def Tryz.lays271_ren : Go.Shelf.Ren := ⟨fun | 271 => 143 | 120 => 146 | 197 => 86 | 260 => 101 | n => n, fun | 9 => 9 | 21 => 21 | 3 => 3 | 4 => 4 | 5 => 5 | 105 => 136 | 119 => 181 | 0 => 0 | 46 => 75 | 139 => 184 | 138 => 183 | n => n, fun | 3 => 11 | 4 => 12 | n => n⟩
theorem Tryz.lays271 : Go.Proofs.Lays.n271 Tryz.prog Tryz.lays271_ren := {
  mixed := by kernel_rfl
  f120 := Tryz.func146.trans (congrArg some (by kernel_rfl))
  f197 := Tryz.func86.trans (congrArg some (by kernel_rfl))
  f260 := Tryz.func101.trans (congrArg some (by kernel_rfl))
  f271 := Tryz.func143.trans (congrArg some (by kernel_rfl))
  t0 := Tryz.underlying0
  a0 := Tryz.isAgg0
  z0 := Tryz.sizeOf0
  v0 := Tryz.zeroValue0
  t3 := Tryz.underlying3
  a3 := Tryz.isAgg3
  z3 := Tryz.sizeOf3
  v3 := Tryz.zeroValue3
  t4 := Tryz.underlying4
  a4 := Tryz.isAgg4
  z4 := Tryz.sizeOf4
  v4 := Tryz.zeroValue4
  t5 := Tryz.underlying5
  a5 := Tryz.isAgg5
  z5 := Tryz.sizeOf5
  v5 := Tryz.zeroValue5
  t9 := Tryz.underlying9
  a9 := Tryz.isAgg9
  z9 := Tryz.sizeOf9
  v9 := Tryz.zeroValue9
  t21 := Tryz.underlying21
  a21 := Tryz.isAgg21
  z21 := Tryz.sizeOf21
  v21 := Tryz.zeroValue21
  t46 := Tryz.underlying75
  a46 := Tryz.isAgg75
  z46 := Tryz.sizeOf75
  v46 := Tryz.zeroValue75
  t105 := Tryz.underlying136
  a105 := Tryz.isAgg136
  z105 := Tryz.sizeOf136
  v105 := Tryz.zeroValue136
  t119 := Tryz.underlying181
  a119 := Tryz.isAgg181
  z119 := Tryz.sizeOf181
  t138 := Tryz.underlying183
  a138 := Tryz.isAgg183
  z138 := Tryz.sizeOf183
  v138 := Tryz.zeroValue183
  t139 := Tryz.underlying184
  a139 := Tryz.isAgg184
  z139 := Tryz.sizeOf184
  v139 := Tryz.zeroValue184
  g3 := by kernel_rfl
  g4 := by kernel_rfl }
open Go.RowKit Go.Lib in
/-- **unicode/utf8.DecodeLastRuneInString AT EVERY STRING.** (LAID: no walk: one application.) -/
theorem Tryz.utf8_DecodeLastRuneInString (s : ByteArray) (w : World) (hs : s.size ≤ 9223372036854775807) (hT : Lib.Utf8Tabs 11 12 w) :
    Calls Tryz.prog 143 #[.string s] w fun e w' => e = .returned (.tuple #[.int .i32 (Lib.decodeLastL s.data.toList).1, .int .i64 (Lib.decodeLastL s.data.toList).2]) ∧ Below w.heap.size w w' := Any.utf8_DecodeLastRuneInString Tryz.lays271 s w hs hT
end Go.Proofs
end
section
set_option linter.unusedVariables false
set_option linter.unusedSimpArgs false
/- the regexp engine's small functions: flags, a step, the runes about a place -/
namespace Go.Proofs.YthejepmnnpmdmaaGreatDoor.Sv
open Go Go.RowKit
set_option maxRecDepth 100000
/-- two runes in one number -/
def lz (r1 r2 : Int) : Int := (r1 % 4294967296) * 4294967296 + r2 % 4294967296
theorem or_lz (a b : Int) (ha : 0 ≤ a) (ha' : a < 4294967296) (hb : 0 ≤ b) (hb' : b < 4294967296) : bits .or .u64 (a * 4294967296) b = a * 4294967296 + b := by
  obtain ⟨a, rfl⟩ := Int.eq_ofNat_of_zero_le ha
  obtain ⟨b, rfl⟩ := Int.eq_ofNat_of_zero_le hb
  have e : ((a : Int) * 4294967296) = ((a * 4294967296 : Nat) : Int) := by omega
  rw [e, u64_or_nat _ _ (by omega) (by omega)]
  rw [nat_join 32 (a * 4294967296) b (by omega) (by omega)]
  omega
theorem tLazy (r1 r2 : Int) (h1 : -2147483648 ≤ r1) (h1' : r1 ≤ 2147483647) (h2 : -2147483648 ≤ r2) (h2' : r2 ≤ 2147483647) (w : World) : Calls Tryz.prog 144 #[.int .i32 r1, .int .i32 r2] w fun e w' => e = .returned (.int .u64 (lz r1 r2)) ∧ w' = w := by
  go_enter Tryz.func144, Tryz.ntmps144
  go_wp2
  go_ret
  refine ⟨?_, rfl⟩
  have e : bits .or .u64 (IntKind.u64.wrap (IntKind.u64.wrap r1 * 4294967296)) (r2 % 4294967296) = lz r1 r2 := by
    have e1 : IntKind.u64.wrap (IntKind.u64.wrap r1 * 4294967296) = (r1 % 4294967296) * 4294967296 := by
      simp only [IntKind.wrap_u64]
      omega
    rw [e1, or_lz _ _ (by omega) (by omega) (by omega) (by omega)]
    rfl
  rw [e]
  rfl
theorem lz_r1 (r1 r2 : Int) (h1 : -2147483648 ≤ r1) (h1' : r1 ≤ 2147483647) : IntKind.i32.wrap (lz r1 r2 / 4294967296) = r1 := by
  rw [IntKind.wrap_i32]
  unfold lz
  omega
theorem lz_r2 (r1 r2 : Int) (h2 : -2147483648 ≤ r2) (h2' : r2 ≤ 2147483647) : IntKind.i32.wrap (lz r1 r2) = r2 := by
  rw [IntKind.wrap_i32]
  unfold lz
  omega
theorem tMatch4 (r1 r2 : Int) (h1 : -2147483648 ≤ r1) (h1' : r1 ≤ 2147483647) (h2 : -2147483648 ≤ r2) (h2' : r2 ≤ 2147483647) (w : World) : Calls Tryz.prog 99 #[.int .u64 (lz r1 r2), .int .u8 4] w fun e w' => e = .returned (.bool (decide (r1 < 0))) ∧ w' = w := by
  have e1 := lz_r1 r1 r2 h1 h1'
  have b1 : bits .and .u8 4 1 = 0 := by decide
  have b2 : bits .and .u8 4 4 = 4 := by decide
  have b3 : bits .andNot .u8 4 4 = 0 := by decide
  have b4 : bits .andNot .u8 4 1 = 4 := by decide
  generalize lz r1 r2 = f at *
  by_cases c : (0 : Int) ≤ r1
  · have hd : decide (r1 < 0) = false := by simp; omega
    go_enter Tryz.func99, Tryz.ntmps99
    go_wp2
    go_ret
    first | exact ⟨rfl, rfl⟩ | exact ⟨by rw [hd]; rfl, rfl⟩
  · have hd : decide (r1 < 0) = true := by simp; omega
    go_enter Tryz.func99, Tryz.ntmps99
    go_wp2
    go_ret
    first | exact ⟨rfl, rfl⟩ | exact ⟨by rw [hd]; rfl, rfl⟩
theorem tMatch8 (r1 r2 : Int) (h1 : -2147483648 ≤ r1) (h1' : r1 ≤ 2147483647) (h2 : -2147483648 ≤ r2) (h2' : r2 ≤ 2147483647) (w : World) : Calls Tryz.prog 99 #[.int .u64 (lz r1 r2), .int .u8 8] w fun e w' => e = .returned (.bool (decide (r2 < 0))) ∧ w' = w := by
  have e1 := lz_r1 r1 r2 h1 h1'
  have e2 := lz_r2 r1 r2 h2 h2'
  have b1 : bits .and .u8 8 1 = 0 := by decide
  have b2 : bits .and .u8 8 4 = 0 := by decide
  have b3 : bits .and .u8 8 2 = 0 := by decide
  have b4 : bits .and .u8 8 8 = 8 := by decide
  have b5 : bits .andNot .u8 8 8 = 0 := by decide
  generalize lz r1 r2 = f at *
  by_cases c : (0 : Int) ≤ r2
  · have hd : decide (r2 < 0) = false := by simp; omega
    go_enter Tryz.func99, Tryz.ntmps99
    go_wp2
    go_ret
    first | exact ⟨rfl, rfl⟩ | exact ⟨by rw [hd]; rfl, rfl⟩
  · have hd : decide (r2 < 0) = true := by simp; omega
    go_enter Tryz.func99, Tryz.ntmps99
    go_wp2
    go_ret
    first | exact ⟨rfl, rfl⟩ | exact ⟨by rw [hd]; rfl, rfl⟩
/-- a step of the input: the rune at a place and its width -/
def stepB (s : ByteArray) (p : Nat) : Int × Nat := if p < s.size then (((Lib.decodeGo (s.extract p s.size)).1 : Int), (Lib.decodeGo (s.extract p s.size)).2) else (-1, 0)
theorem tStep (B : Nat) (s : ByteArray) (p : Nat) (hp : p ≤ 1000000) (hs : s.size ≤ 1000000) (w : World) (hT : Lib.Utf8Tabs 11 12 w) (hc : w.cell? ⟨B, 5, none⟩ = some (.string s)) :
    Calls Tryz.prog 72 #[.pointer (some ⟨B, 5, none⟩), .int .i64 p] w fun e w' => e = .returned (.tuple #[.int .i32 (stepB s p).1, .int .i64 (stepB s p).2]) ∧ Below w.heap.size w w' := by
  by_cases c : p < s.size
  · have e : stepB s p = (((Lib.decodeGo (s.extract p s.size)).1 : Int), (Lib.decodeGo (s.extract p s.size)).2) := by unfold stepB; rw [if_pos c]
    have c1 : (p : Int) < (s.size : Int) := by omega
    have c2 : (p : Int) ≤ (s.size : Int) := by omega
    have c3 : (0 : Int) ≤ (p : Int) := by omega
    rw [e]
    go_enter Tryz.func72, Tryz.ntmps72
    go_wp2_with (go_at_call 86; refine (Tryz.utf8_DecodeRuneInString _ _ hT).mono ?_; rintro e w' ⟨rfl, hb⟩)
    go_ret2
    exact ⟨rfl, hb⟩
  · have e : stepB s p = (-1, 0) := by unfold stepB; rw [if_neg c]
    have c1 : ¬ (p : Int) < (s.size : Int) := by omega
    rw [e]
    go_enter Tryz.func72, Tryz.ntmps72
    go_wp2
    go_ret2
    exact ⟨rfl, Below.refl _ _⟩
/-- the runes ahead of a place and at it -/
def lastB (s : ByteArray) (p : Nat) : Int := if p = 0 then -1 else ((Lib.decodeLastL (s.data.toList.take p)).1 : Int)
theorem decodeGo_rune (s : ByteArray) : (Lib.decodeGo s).1 ≤ 1114111 := by
  unfold Lib.decodeGo
  split
  · decide
  · exact Lib.rune_le _ _
theorem stepB_range (s : ByteArray) (p : Nat) : -1 ≤ (stepB s p).1 ∧ (stepB s p).1 ≤ 1114111 := by
  unfold stepB
  split
  · have := decodeGo_rune (s.extract p s.size); simp only []; omega
  · simp only []; omega
theorem lastB_range (s : ByteArray) (p : Nat) : -1 ≤ lastB s p ∧ lastB s p ≤ 1114111 := by
  unfold lastB
  split
  · omega
  · have := Lib.decodeLastL_rune (s.data.toList.take p); omega
theorem lastB_neg (s : ByteArray) (p : Nat) : decide (lastB s p < 0) = decide (p = 0) := by
  unfold lastB
  split
  · next h => simp [h]
  · next h => simp [h]
theorem stepB_neg (s : ByteArray) (p : Nat) (hp : p ≤ s.size) : decide ((stepB s p).1 < 0) = decide (p = s.size) := by
  unfold stepB
  split
  · next h => have : p ≠ s.size := by omega
              simp [this]
  · next h => have : p = s.size := by omega
              simp [this]
theorem tCtx (B : Nat) (s : ByteArray) (p : Nat) (hp : p ≤ s.size) (hs : s.size ≤ 1000000) (w : World) (hT : Lib.Utf8Tabs 11 12 w) (hc : w.cell? ⟨B, 5, none⟩ = some (.string s)) :
    Calls Tryz.prog 140 #[.pointer (some ⟨B, 5, none⟩), .int .i64 p] w fun e w' => e = .returned (.int .u64 (lz (lastB s p) (stepB s p).1)) ∧ Below w.heap.size w w' := by
  obtain ⟨a1, a2⟩ := lastB_range s p
  obtain ⟨a3, a4⟩ := stepB_range s p
  have hB : B < w.heap.size := Lib.lt_of_cell hc
  have c3 : (0 : Int) ≤ (p : Int) := by omega
  have c2 : (p : Int) ≤ (s.size : Int) := by omega
  by_cases p0 : p = 0
  · subst p0
    have l0 : lastB s 0 = -1 := rfl
    have w1 : (IntKind.u64.wrap (-1) : Int) = 18446744073709551615 := by decide
    have c4 : ¬ (18446744073709551615 : Int) < (s.size : Int) := by omega
    rw [l0]
    by_cases c : 0 < s.size
    · have e : (stepB s 0).1 = ((Lib.decodeGo s).1 : Int) := by unfold stepB; rw [if_pos c]; simp
      have c1 : (0 : Int) < (s.size : Int) := by omega
      rw [e] at a3 a4 ⊢
      go_enter Tryz.func140, Tryz.ntmps140
      go_wp2_with (first
        | (go_at_call 86; refine (Tryz.utf8_DecodeRuneInString _ _ hT).mono ?_; rintro e w1 ⟨rfl, hb⟩)
        | (go_at_call 144; refine (tLazy _ _ (by omega) (by omega) (by omega) (by omega) _).mono ?_; rintro e w2 ⟨rfl, rfl⟩))
      go_ret
      exact ⟨rfl, hb⟩
    · have e : (stepB s 0).1 = -1 := by unfold stepB; rw [if_neg c]
      have c1 : ¬ (0 : Int) < (s.size : Int) := by omega
      rw [e]
      go_enter Tryz.func140, Tryz.ntmps140
      go_wp2_with (go_at_call 144; refine (tLazy _ _ (by omega) (by omega) (by omega) (by omega) _).mono ?_; rintro e w2 ⟨rfl, rfl⟩)
      go_ret
      exact ⟨rfl, Below.refl _ _⟩
  · have l0 : lastB s p = ((Lib.decodeLastL (s.data.toList.take p)).1 : Int) := by unfold lastB; rw [if_neg p0]
    have w1 : IntKind.i64.wrap ((p : Int) - 1) = (p : Int) - 1 := by rw [IntKind.wrap_i64]; omega
    have w2 : IntKind.u64.wrap ((p : Int) - 1) = (p : Int) - 1 := by rw [IntKind.wrap_u64]; omega
    have c4 : (p : Int) - 1 < (s.size : Int) := by omega
    have hx : (s.extract 0 p).size ≤ 9223372036854775807 := by simp; omega
    rw [l0] at a1 a2 ⊢
    by_cases c : p < s.size
    · have e : (stepB s p).1 = ((Lib.decodeGo (s.extract p s.size)).1 : Int) := by unfold stepB; rw [if_pos c]
      have c1 : (p : Int) < (s.size : Int) := by omega
      rw [e] at a3 a4 ⊢
      go_enter Tryz.func140, Tryz.ntmps140
      go_wp2_with (first
        | (go_at_call 143; refine (Tryz.utf8_DecodeLastRuneInString _ _ hx hT).mono ?_; rintro e w1 ⟨rfl, hb⟩; have hT1 := Utf8Tabs_below hT hb; have hc1 : w1.cell? ⟨B, 5, none⟩ = some (.string s) := (hb.cell (p := ⟨B, 5, none⟩) hB).trans hc)
        | (go_at_call 86; refine (Tryz.utf8_DecodeRuneInString _ _ hT1).mono ?_; rintro e w2 ⟨rfl, hb2⟩)
        | (go_at_call 144; go_loud (refine (tLazy _ _ (by omega) (by omega) (by omega) (by omega) _).mono ?_; rintro e w2 ⟨rfl, rfl⟩)))
      go_ret
      exact ⟨rfl, hb.trans (hb2.mono hb.size)⟩
    · have e : (stepB s p).1 = -1 := by unfold stepB; rw [if_neg c]
      have c1 : ¬ (p : Int) < (s.size : Int) := by omega
      rw [e]
      go_enter Tryz.func140, Tryz.ntmps140
      go_wp2_with (first
        | (go_at_call 143; refine (Tryz.utf8_DecodeLastRuneInString _ _ hx hT).mono ?_; rintro e w1 ⟨rfl, hb⟩; have hT1 := Utf8Tabs_below hT hb; have hc1 : w1.cell? ⟨B, 5, none⟩ = some (.string s) := (hb.cell (p := ⟨B, 5, none⟩) hB).trans hc)
        | (go_at_call 144; refine (tLazy _ _ (by omega) (by omega) (by omega) (by omega) _).mono ?_; rintro e w2 ⟨rfl, rfl⟩))
      go_ret
      exact ⟨rfl, hb⟩
end Go.Proofs.YthejepmnnpmdmaaGreatDoor.Sv
end
section
set_option linter.unusedVariables false
set_option linter.unusedSimpArgs false
/- a rune held against an instruction's ranges -/
namespace Go.Proofs.YthejepmnnpmdmaaGreatDoor.Sv
open Go Go.RowKit Rx
set_option maxRecDepth 100000
/-- the ranges' ends rise -/
def Rises (rs : List Int) : Prop := ∀ i j, i ≤ j → j < rs.length → rs.getD i 0 ≤ rs.getD j 0
theorem getD_cons2 (a b : Int) (l : List Int) (i : Nat) : (a :: b :: l).getD (i + 2) 0 = l.getD i 0 := by simp [List.getD]
/-- a rune lies in one of the pairs -/
theorem match_iff : ∀ (rs : List Int) (r : Int), rs.length % 2 = 0 → (matchRune rs r = true ↔ ∃ i, 2 * i + 1 < rs.length ∧ rs.getD (2 * i) 0 ≤ r ∧ r ≤ rs.getD (2 * i + 1) 0)
  | [], r, _ => by simp [matchRune]
  | [a], r, h => by simp at h
  | a :: b :: l, r, h => by
    have ih := match_iff l r (by simp at h; omega)
    simp only [matchRune, Bool.or_eq_true, Bool.and_eq_true, decide_eq_true_eq, ih]
    constructor
    · rintro (⟨h1, h2⟩ | ⟨i, h1, h2, h3⟩)
      · exact ⟨0, by simp, by simpa using h1, by simpa using h2⟩
      · refine ⟨i + 1, by simp; omega, ?_, ?_⟩
        · rw [show 2 * (i + 1) = 2 * i + 2 by omega, getD_cons2]; exact h2
        · rw [show 2 * (i + 1) + 1 = (2 * i + 1) + 2 by omega, getD_cons2]; exact h3
    · rintro ⟨i, h1, h2, h3⟩
      cases i with
      | zero => exact .inl ⟨by simpa using h2, by simpa using h3⟩
      | succ i =>
        refine .inr ⟨i, by simp at h1; omega, ?_, ?_⟩
        · rw [show 2 * (i + 1) = 2 * i + 2 by omega, getD_cons2] at h2; exact h2
        · rw [show 2 * (i + 1) + 1 = (2 * i + 1) + 2 by omega, getD_cons2] at h3; exact h3
theorem match_yes {rs : List Int} {r : Int} (he : rs.length % 2 = 0) (i : Nat) (h : 2 * i + 1 < rs.length) (h1 : rs.getD (2 * i) 0 ≤ r) (h2 : r ≤ rs.getD (2 * i + 1) 0) : matchRune rs r = true := (match_iff rs r he).2 ⟨i, h, h1, h2⟩
/-- all pairs ahead of lo end below r; all from hi on begin above it; lo = hi -/
theorem match_no {rs : List Int} {r : Int} (he : rs.length % 2 = 0) (m : Nat) (h1 : ∀ i, i < m → 2 * i + 1 < rs.length → rs.getD (2 * i + 1) 0 < r) (h2 : ∀ i, m ≤ i → 2 * i + 1 < rs.length → r < rs.getD (2 * i) 0) : matchRune rs r = false := by
  cases h : matchRune rs r with
  | false => rfl
  | true =>
    obtain ⟨i, a, b, c⟩ := (match_iff rs r he).1 h
    by_cases hm : i < m
    · have := h1 i hm a; omega
    · have := h2 i (by omega) a; omega
/-- an instruction's ranges in memory -/
structure Runes (w : World) (ib io rb cap : Nat) (rs : List Int) : Prop where
  at3 : w.cell? ⟨ib, io + 3, none⟩ = some (.slice (some ⟨rb, 0, none⟩) rs.length cap)
  get : ∀ i, i < rs.length → w.cell? ⟨rb, i, none⟩ = some (.int .i32 (rs.getD i 0))
theorem tMatchPos (ib io rb cap : Nat) (rs : List Int) (r : Int) (w : World) (h : Runes w ib io rb cap rs) (hl : rs.length = 2 ∨ rs.length = 4 ∨ rs.length = 6 ∨ rs.length = 8 ∨ rs.length = 10) (hr : Rises rs) :
    Calls Tryz.prog 104 #[.pointer (some ⟨ib, io, none⟩), .int .i32 r] w fun e w' => (∃ k : Int, e = .returned (.int .i64 k) ∧ (k != -1) = matchRune rs r) ∧ w' = w := by
  obtain ⟨h3, hg⟩ := h
  rcases hl with hl | hl | hl | hl | hl
  · have c0 := hg 0 (by omega)
    have c1 := hg 1 (by omega)
    rw [hl] at h3
    have he : rs.length % 2 = 0 := by omega
    have H := Lib.hid (show (rs.getD 0 0 ≤ r ∧ r ≤ rs.getD 1 0 ↔ matchRune rs r = true) by
      rw [match_iff rs r he]
      constructor
      · exact fun h => ⟨0, by omega, h.1, h.2⟩
      · rintro ⟨i, h1, h2, h3⟩
        have : i = 0 := by omega
        subst this
        exact ⟨h2, h3⟩)
    generalize rs.getD 0 0 = a at *
    generalize rs.getD 1 0 = b at *
    clear hg hl he hr
    by_cases ca : a ≤ r
    · by_cases cb : r ≤ b
      · go_enter Tryz.func104, Tryz.ntmps104
        go_wp2
        go_ret
        exact ⟨⟨0, rfl, by rw [H.out.1 ⟨ca, cb⟩]; decide⟩, rfl⟩
      · go_enter Tryz.func104, Tryz.ntmps104
        go_wp2
        go_ret
        exact ⟨⟨-1, rfl, by rw [show matchRune rs r = false from Bool.eq_false_iff.2 fun e => by have := (H.out.2 e).2; omega]; decide⟩, rfl⟩
    · go_enter Tryz.func104, Tryz.ntmps104
      go_wp2
      go_ret
      exact ⟨⟨-1, rfl, by rw [show matchRune rs r = false from Bool.eq_false_iff.2 fun e => by have := (H.out.2 e).1; omega]; decide⟩, rfl⟩
  · have he : rs.length % 2 = 0 := by omega
    rw [hl] at h3
    have HG := Lib.hid hg
    have HR := Lib.hid hr
    have HE := Lib.hid he
    have HL := Lib.hid hl
    clear hg hr he hl
    go_enter Tryz.func104, Tryz.ntmps104
    go_wp2
    go_loopw [7] (fun j wr => ∃ a : Nat, j = .int .i64 (2 * (a : Int)) ∧ Hid (2 * a ≤ 4 ∧ ∀ i, i < a → 2 * i + 1 < rs.length → rs.getD (2 * i + 1) 0 < r) ∧ wr = w) (fun j _ => 20 - (intOf j).toNat)
    case atStart => exact ⟨0, rfl, Lib.hid ⟨by omega, fun i h => by omega⟩, rfl⟩
    case round =>
      obtain ⟨a, rfl, HH, rfl⟩ := hrel
      obtain ⟨h1, h2⟩ := HH.out
      by_cases c : 2 * a < 4
      · have c1 : (2 : Int) * (a : Int) < 4 := by omega
        have m3 : ((2 : Int) * (a : Int)).toNat = 2 * a := by omega
        have m4 : ((2 : Int) * (a : Int) + 1).toNat = 2 * a + 1 := by omega
        have m6 : (2 : Int) * (a : Int) + 1 < 4 := by omega
        have m7 : (0 : Int) ≤ 2 * (a : Int) := by omega
        have m8 : (0 : Int) ≤ 2 * (a : Int) + 1 := by omega
        have mw : IntKind.i64.wrap (2 * (a : Int) + 2) = 2 * ((a + 1 : Nat) : Int) := by rw [IntKind.wrap_i64]; omega
        have l10 := HL.out
        have g0 := HG.out (2 * a) (by omega)
        have g1 := HG.out (2 * a + 1) (by omega)
        have R1 := Lib.hid (fun (c1 : r < rs.getD (2 * a) 0) (i : Nat) (hi : a ≤ i) (h : 2 * i + 1 < rs.length) => Int.lt_of_lt_of_le c1 (HR.out (2 * a) (2 * i) (by omega) (by omega)))
        have R2 := Lib.hid (fun (c1 : rs.getD (2 * a + 1) 0 < r) (i : Nat) (hi : i < a + 1) (h : 2 * i + 1 < rs.length) => Int.lt_of_le_of_lt (HR.out (2 * i + 1) (2 * a + 1) (by omega) (by omega)) c1)
        have R3 := Lib.hid (fun h1 h2 => match_yes (r := r) HE.out a (by omega) h1 h2)
        have HH2 := Lib.hid h2
        clear h1 h2 l10
        by_cases ca : r < rs.getD (2 * a) 0
        · have Y := Lib.hid (match_no (r := r) HE.out a HH2.out (R1.out ca))
          generalize rs.getD (2 * a) 0 = x at *
          generalize rs.getD (2 * a + 1) 0 = y at *
          clear R1 R2 R3
          go_wp2
          go_ret
          exact ⟨⟨-1, rfl, by rw [Y.out]; decide⟩, rfl⟩
        · by_cases cb : r ≤ rs.getD (2 * a + 1) 0
          · have Y := Lib.hid (R3.out (by omega) cb)
            generalize rs.getD (2 * a) 0 = x at *
            generalize rs.getD (2 * a + 1) 0 = y at *
            clear R1 R2 R3
            go_wp2
            go_ret
            exact ⟨⟨_, rfl, by rw [Y.out]; simp <;> omega⟩, rfl⟩
          · have cb' : rs.getD (2 * a + 1) 0 < r := by omega
            have Y := Lib.hid (R2.out cb')
            generalize rs.getD (2 * a) 0 = x at *
            generalize rs.getD (2 * a + 1) 0 = y at *
            clear R1 R2 R3
            go_wp2
            go_roundw
            case measure => simp [intOf]; omega
            case rel => exact ⟨a + 1, by go_num, Lib.hid ⟨by omega, Y.out⟩, trivial⟩
      · have ha : 2 * a = 4 := by omega
        have hm := match_no (r := r) HE.out a h2 (fun i hi h => by have := HL.out; omega)
        have HM := Lib.hid hm
        clear hm h1 h2 HH
        have c1 : ¬ (2 : Int) * (a : Int) < 4 := by omega
        go_wp2
        go_ret
        exact ⟨⟨-1, rfl, by rw [HM.out]; decide⟩, rfl⟩
  · have he : rs.length % 2 = 0 := by omega
    rw [hl] at h3
    have HG := Lib.hid hg
    have HR := Lib.hid hr
    have HE := Lib.hid he
    have HL := Lib.hid hl
    clear hg hr he hl
    go_enter Tryz.func104, Tryz.ntmps104
    go_wp2
    go_loopw [7] (fun j wr => ∃ a : Nat, j = .int .i64 (2 * (a : Int)) ∧ Hid (2 * a ≤ 6 ∧ ∀ i, i < a → 2 * i + 1 < rs.length → rs.getD (2 * i + 1) 0 < r) ∧ wr = w) (fun j _ => 20 - (intOf j).toNat)
    case atStart => exact ⟨0, rfl, Lib.hid ⟨by omega, fun i h => by omega⟩, rfl⟩
    case round =>
      obtain ⟨a, rfl, HH, rfl⟩ := hrel
      obtain ⟨h1, h2⟩ := HH.out
      by_cases c : 2 * a < 6
      · have c1 : (2 : Int) * (a : Int) < 6 := by omega
        have m3 : ((2 : Int) * (a : Int)).toNat = 2 * a := by omega
        have m4 : ((2 : Int) * (a : Int) + 1).toNat = 2 * a + 1 := by omega
        have m6 : (2 : Int) * (a : Int) + 1 < 6 := by omega
        have m7 : (0 : Int) ≤ 2 * (a : Int) := by omega
        have m8 : (0 : Int) ≤ 2 * (a : Int) + 1 := by omega
        have mw : IntKind.i64.wrap (2 * (a : Int) + 2) = 2 * ((a + 1 : Nat) : Int) := by rw [IntKind.wrap_i64]; omega
        have l10 := HL.out
        have g0 := HG.out (2 * a) (by omega)
        have g1 := HG.out (2 * a + 1) (by omega)
        have R1 := Lib.hid (fun (c1 : r < rs.getD (2 * a) 0) (i : Nat) (hi : a ≤ i) (h : 2 * i + 1 < rs.length) => Int.lt_of_lt_of_le c1 (HR.out (2 * a) (2 * i) (by omega) (by omega)))
        have R2 := Lib.hid (fun (c1 : rs.getD (2 * a + 1) 0 < r) (i : Nat) (hi : i < a + 1) (h : 2 * i + 1 < rs.length) => Int.lt_of_le_of_lt (HR.out (2 * i + 1) (2 * a + 1) (by omega) (by omega)) c1)
        have R3 := Lib.hid (fun h1 h2 => match_yes (r := r) HE.out a (by omega) h1 h2)
        have HH2 := Lib.hid h2
        clear h1 h2 l10
        by_cases ca : r < rs.getD (2 * a) 0
        · have Y := Lib.hid (match_no (r := r) HE.out a HH2.out (R1.out ca))
          generalize rs.getD (2 * a) 0 = x at *
          generalize rs.getD (2 * a + 1) 0 = y at *
          clear R1 R2 R3
          go_wp2
          go_ret
          exact ⟨⟨-1, rfl, by rw [Y.out]; decide⟩, rfl⟩
        · by_cases cb : r ≤ rs.getD (2 * a + 1) 0
          · have Y := Lib.hid (R3.out (by omega) cb)
            generalize rs.getD (2 * a) 0 = x at *
            generalize rs.getD (2 * a + 1) 0 = y at *
            clear R1 R2 R3
            go_wp2
            go_ret
            exact ⟨⟨_, rfl, by rw [Y.out]; simp <;> omega⟩, rfl⟩
          · have cb' : rs.getD (2 * a + 1) 0 < r := by omega
            have Y := Lib.hid (R2.out cb')
            generalize rs.getD (2 * a) 0 = x at *
            generalize rs.getD (2 * a + 1) 0 = y at *
            clear R1 R2 R3
            go_wp2
            go_roundw
            case measure => simp [intOf]; omega
            case rel => exact ⟨a + 1, by go_num, Lib.hid ⟨by omega, Y.out⟩, trivial⟩
      · have ha : 2 * a = 6 := by omega
        have hm := match_no (r := r) HE.out a h2 (fun i hi h => by have := HL.out; omega)
        have HM := Lib.hid hm
        clear hm h1 h2 HH
        have c1 : ¬ (2 : Int) * (a : Int) < 6 := by omega
        go_wp2
        go_ret
        exact ⟨⟨-1, rfl, by rw [HM.out]; decide⟩, rfl⟩
  · have he : rs.length % 2 = 0 := by omega
    rw [hl] at h3
    have HG := Lib.hid hg
    have HR := Lib.hid hr
    have HE := Lib.hid he
    have HL := Lib.hid hl
    clear hg hr he hl
    go_enter Tryz.func104, Tryz.ntmps104
    go_wp2
    go_loopw [7] (fun j wr => ∃ a : Nat, j = .int .i64 (2 * (a : Int)) ∧ Hid (2 * a ≤ 8 ∧ ∀ i, i < a → 2 * i + 1 < rs.length → rs.getD (2 * i + 1) 0 < r) ∧ wr = w) (fun j _ => 20 - (intOf j).toNat)
    case atStart => exact ⟨0, rfl, Lib.hid ⟨by omega, fun i h => by omega⟩, rfl⟩
    case round =>
      obtain ⟨a, rfl, HH, rfl⟩ := hrel
      obtain ⟨h1, h2⟩ := HH.out
      by_cases c : 2 * a < 8
      · have c1 : (2 : Int) * (a : Int) < 8 := by omega
        have m3 : ((2 : Int) * (a : Int)).toNat = 2 * a := by omega
        have m4 : ((2 : Int) * (a : Int) + 1).toNat = 2 * a + 1 := by omega
        have m6 : (2 : Int) * (a : Int) + 1 < 8 := by omega
        have m7 : (0 : Int) ≤ 2 * (a : Int) := by omega
        have m8 : (0 : Int) ≤ 2 * (a : Int) + 1 := by omega
        have mw : IntKind.i64.wrap (2 * (a : Int) + 2) = 2 * ((a + 1 : Nat) : Int) := by rw [IntKind.wrap_i64]; omega
        have l10 := HL.out
        have g0 := HG.out (2 * a) (by omega)
        have g1 := HG.out (2 * a + 1) (by omega)
        have R1 := Lib.hid (fun (c1 : r < rs.getD (2 * a) 0) (i : Nat) (hi : a ≤ i) (h : 2 * i + 1 < rs.length) => Int.lt_of_lt_of_le c1 (HR.out (2 * a) (2 * i) (by omega) (by omega)))
        have R2 := Lib.hid (fun (c1 : rs.getD (2 * a + 1) 0 < r) (i : Nat) (hi : i < a + 1) (h : 2 * i + 1 < rs.length) => Int.lt_of_le_of_lt (HR.out (2 * i + 1) (2 * a + 1) (by omega) (by omega)) c1)
        have R3 := Lib.hid (fun h1 h2 => match_yes (r := r) HE.out a (by omega) h1 h2)
        have HH2 := Lib.hid h2
        clear h1 h2 l10
        by_cases ca : r < rs.getD (2 * a) 0
        · have Y := Lib.hid (match_no (r := r) HE.out a HH2.out (R1.out ca))
          generalize rs.getD (2 * a) 0 = x at *
          generalize rs.getD (2 * a + 1) 0 = y at *
          clear R1 R2 R3
          go_wp2
          go_ret
          exact ⟨⟨-1, rfl, by rw [Y.out]; decide⟩, rfl⟩
        · by_cases cb : r ≤ rs.getD (2 * a + 1) 0
          · have Y := Lib.hid (R3.out (by omega) cb)
            generalize rs.getD (2 * a) 0 = x at *
            generalize rs.getD (2 * a + 1) 0 = y at *
            clear R1 R2 R3
            go_wp2
            go_ret
            exact ⟨⟨_, rfl, by rw [Y.out]; simp <;> omega⟩, rfl⟩
          · have cb' : rs.getD (2 * a + 1) 0 < r := by omega
            have Y := Lib.hid (R2.out cb')
            generalize rs.getD (2 * a) 0 = x at *
            generalize rs.getD (2 * a + 1) 0 = y at *
            clear R1 R2 R3
            go_wp2
            go_roundw
            case measure => simp [intOf]; omega
            case rel => exact ⟨a + 1, by go_num, Lib.hid ⟨by omega, Y.out⟩, trivial⟩
      · have ha : 2 * a = 8 := by omega
        have hm := match_no (r := r) HE.out a h2 (fun i hi h => by have := HL.out; omega)
        have HM := Lib.hid hm
        clear hm h1 h2 HH
        have c1 : ¬ (2 : Int) * (a : Int) < 8 := by omega
        go_wp2
        go_ret
        exact ⟨⟨-1, rfl, by rw [HM.out]; decide⟩, rfl⟩
  · have he : rs.length % 2 = 0 := by omega
    rw [hl] at h3
    have HG := Lib.hid hg
    have HR := Lib.hid hr
    have HE := Lib.hid he
    have HL := Lib.hid hl
    clear hg hr he hl
    go_enter Tryz.func104, Tryz.ntmps104
    go_wp2
    go_loopw [8, 9] (fun lo hi wr => ∃ a b : Nat, lo = .int .i64 a ∧ hi = .int .i64 b ∧ Hid (a ≤ b ∧ b ≤ 5 ∧ (∀ i, i < a → 2 * i + 1 < rs.length → rs.getD (2 * i + 1) 0 < r) ∧ (∀ i, b ≤ i → 2 * i + 1 < rs.length → r < rs.getD (2 * i) 0)) ∧ wr = w) (fun lo hi _ => (intOf hi).toNat - (intOf lo).toNat)
    case atStart => exact ⟨0, 5, rfl, rfl, Lib.hid ⟨by omega, by omega, fun i h => by omega, fun i h h2 => by have := HL.out; omega⟩, rfl⟩
    case round =>
      obtain ⟨a, b, rfl, rfl, HH, rfl⟩ := hrel
      obtain ⟨h1, h2, h3', h4⟩ := HH.out
      by_cases c : a < b
      · have c1 : (a : Int) < (b : Int) := by omega
        have m1 : IntKind.u64.wrap ((a : Int) + (b : Int)) = (a : Int) + (b : Int) := by rw [IntKind.wrap_u64]; omega
        obtain ⟨m, hm⟩ : ∃ m : Nat, m = (a + b) / 2 := ⟨_, rfl⟩
        have m2 : ((a : Int) + (b : Int)) / 2 = (m : Int) := by omega
        have m3 : ((2 : Int) * (m : Int)).toNat = 2 * m := by omega
        have m4 : ((2 : Int) * (m : Int) + 1).toNat = 2 * m + 1 := by omega
        have m5 : (2 : Int) * (m : Int) < 10 := by omega
        have m6 : (2 : Int) * (m : Int) + 1 < 10 := by omega
        have m7 : (0 : Int) ≤ 2 * (m : Int) := by omega
        have m8 : (0 : Int) ≤ 2 * (m : Int) + 1 := by omega
        have l10 := HL.out
        have g0 := HG.out (2 * m) (by omega)
        have g1 := HG.out (2 * m + 1) (by omega)
        have mb : (m : Int) < 5 := by omega
        have R1 := Lib.hid (fun (c1 : r < rs.getD (2 * m) 0) (i : Nat) (hi : m ≤ i) (h : 2 * i + 1 < rs.length) => Int.lt_of_lt_of_le c1 (HR.out (2 * m) (2 * i) (by omega) (by omega)))
        have R2 := Lib.hid (fun (c1 : rs.getD (2 * m + 1) 0 < r) (i : Nat) (hi : i < m + 1) (h : 2 * i + 1 < rs.length) => Int.lt_of_le_of_lt (HR.out (2 * i + 1) (2 * m + 1) (by omega) (by omega)) c1)
        have R3 := Lib.hid (fun h1 h2 => match_yes (r := r) HE.out m (by omega) h1 h2)
        have LT := Lib.hid (show a ≤ m ∧ m < b by omega)
        have HH4 := Lib.hid h4
        have HH3 := Lib.hid h3'
        clear hm h1 h2 h3' h4 l10
        by_cases ca : rs.getD (2 * m) 0 ≤ r
        · by_cases cb : r ≤ rs.getD (2 * m + 1) 0
          · have Y := Lib.hid (R3.out ca cb)
            generalize rs.getD (2 * m) 0 = x at *
            generalize rs.getD (2 * m + 1) 0 = y at *
            go_wp2
            go_ret
            exact ⟨⟨m, rfl, by rw [Y.out]; simp <;> omega⟩, rfl⟩
          · have cb' : rs.getD (2 * m + 1) 0 < r := by omega
            have Y := Lib.hid (R2.out cb')
            generalize rs.getD (2 * m) 0 = x at *
            generalize rs.getD (2 * m + 1) 0 = y at *
            have mw : IntKind.i64.wrap ((m : Int) + 1) = ((m + 1 : Nat) : Int) := by rw [IntKind.wrap_i64]; omega
            go_wp2
            go_roundw
            case measure => simp [intOf]; have := LT.out; omega
            case rel => exact ⟨m + 1, b, by go_num, rfl, Lib.hid ⟨by have := LT.out; omega, HH.out.2.1, Y.out, HH4.out⟩, trivial⟩
        · have ca' : r < rs.getD (2 * m) 0 := by omega
          have Y := Lib.hid (R1.out ca')
          generalize rs.getD (2 * m) 0 = x at *
          generalize rs.getD (2 * m + 1) 0 = y at *
          go_wp2
          go_roundw
          case measure => simp [intOf]; have := LT.out; omega
          case rel => exact ⟨a, m, rfl, rfl, Lib.hid ⟨by have := LT.out; omega, by omega, HH3.out, Y.out⟩, trivial⟩
      · have hab : a = b := by omega
        subst hab
        have hm := match_no (r := r) HE.out a h3' h4
        have HM := Lib.hid hm
        clear hm h1 h2 h3' h4 HH
        have c1 : ¬ (a : Int) < (a : Int) := by omega
        go_wp2
        go_ret
        exact ⟨⟨-1, rfl, by rw [HM.out]; decide⟩, rfl⟩
theorem tMatchRune (ib io rb cap : Nat) (rs : List Int) (r : Int) (w : World) (h : Runes w ib io rb cap rs) (hl : rs.length = 2 ∨ rs.length = 4 ∨ rs.length = 6 ∨ rs.length = 8 ∨ rs.length = 10) (hr : Rises rs) :
    Calls Tryz.prog 98 #[.pointer (some ⟨ib, io, none⟩), .int .i32 r] w fun e w' => e = .returned (.bool (matchRune rs r)) ∧ w' = w := by
  have H := Lib.hid (tMatchPos ib io rb cap rs r w h hl hr)
  clear h hl hr
  generalize matchRune rs r = b at *
  go_enter Tryz.func98, Tryz.ntmps98
  go_wp2_with (go_at_call 104; refine H.out.mono ?_; rintro e w' ⟨⟨k, rfl, hk⟩, rfl⟩)
  go_ret
  exact ⟨by rw [← hk]; rfl, rfl⟩
end Go.Proofs.YthejepmnnpmdmaaGreatDoor.Sv
end
section
set_option linter.unusedVariables false
set_option linter.unusedSimpArgs false
/- the backtracker's state in memory; a place is visited once -/
namespace Go.Proofs.YthejepmnnpmdmaaGreatDoor.Sv
open Go Go.RowKit Rx
set_option maxRecDepth 100000
def sl (b n : Nat) : Value := if n = 0 then .slice none 0 0 else .slice (some ⟨b, 0, none⟩) n n
def jobCells (J : List (Nat × Bool × Int)) : List Value := J.flatMap fun j => [.int .u32 j.1, .bool j.2.1, .int .i64 j.2.2]
def ints (C : List Int) : List Value := C.map (.int .i64 ·)
/-- the marks -/
structure Vis (w : World) (VB vn L N : Nat) (V : Nat → Nat → Bool) : Prop where
  ex : ∃ (cur : Array Value) (x : Nat → Nat), w.heap[VB]? = some (.cells cur 92 (0, 0)) ∧ cur.size = 8192 ∧ (∀ i, i < vn → cur[i]? = some (.int .u32 (x i))) ∧ (∀ i, x i < 4294967296) ∧
    ∀ p q, p < L → q ≤ N → V p q = (x ((p * (N + 1) + q) / 32)).testBit ((p * (N + 1) + q) % 32)
  le : vn ≤ 8192
  fits : L * (N + 1) ≤ 32 * vn
/-- the state: its block, the jobs (the last pushed at the end), the marks, the slots, the match -/
structure BS (w : World) (base B CB MB VB vn L : Nat) (s : ByteArray) (J : List (Nat × Bool × Int)) (V : Nat → Nat → Bool) (C M : List Int) : Prop where
  hb : ∃ jv, w.heap[B]? = some (.cells #[.int .i64 s.size, sl CB C.length, sl MB M.length, jv, .slice (some ⟨VB, 0, none⟩) vn 8192, .string s] 152 (0, 0)) ∧ w.ownsRow base 171 3 jv J.length (jobCells J)
  hc : 0 < C.length → w.heap[CB]? = some (.cells (ints C).toArray 3 (0, 0))
  hm : 0 < M.length → w.heap[MB]? = some (.cells (ints M).toArray 3 (0, 0))
  hv : Vis w VB vn L s.size V
  cm : CB ≠ MB
  bb : base ≤ B
  bc : base ≤ CB
  bm : base ≤ MB
  bv : base ≤ VB
  bw : base ≤ w.heap.size
theorem own_of {w w' : World} {base e k n : Nat} {v : Value} {xs : List Value} (h : w.ownsRow base e k v n xs) (hh : ∀ g cur, v.ownBlock = some g → w.heap[g]? = some (.cells cur e (0, 0)) → w'.heap[g]? = w.heap[g]?) : w'.ownsRow base e k v n xs := by
  refine ⟨h.1, ?_⟩
  rcases h.2 with hn | ⟨g, cap, cur, rfl, hb, hg, rest⟩
  · exact .inl hn
  · exact .inr ⟨g, cap, cur, rfl, hb, (hh g cur rfl hg).trans hg, rest⟩
theorem typ_ne {w : World} {a b t u : Nat} {x y : Array Value} {f g : Nat × Nat} (h : w.heap[a]? = some (.cells x t f)) (h' : w.heap[b]? = some (.cells y u g)) (hn : t ≠ u) : a ≠ b := fun e => by
  subst e
  rw [h] at h'
  injection h' with h'
  injection h' with _ h2 _
  exact hn h2
theorem BS.setVB {w : World} {base B CB MB VB vn L : Nat} {s : ByteArray} {J : List (Nat × Bool × Int)} {V V' : Nat → Nat → Bool} {C M : List Int} (h : BS w base B CB MB VB vn L s J V C M) (i : Nat) (v : Value) (hV : Vis (w.setCell ⟨VB, i, none⟩ v) VB vn L s.size V') : BS (w.setCell ⟨VB, i, none⟩ v) base B CB MB VB vn L s J V' C M := by
  obtain ⟨cur, x, hv1, _⟩ := h.hv.ex
  obtain ⟨jv, hb, hj⟩ := h.hb
  refine ⟨⟨jv, ?_, own_of hj fun g cur hg hc => ?_⟩, fun hc => ?_, fun hm => ?_, hV, h.cm, h.bb, h.bc, h.bm, h.bv, by simpa using h.bw⟩
  · rw [heap_setCell_other _ _ _ _ (typ_ne hb hv1 (by decide))]; exact hb
  · exact heap_setCell_other _ _ _ _ (typ_ne hc hv1 (by decide))
  · rw [heap_setCell_other _ _ _ _ (typ_ne (h.hc hc) hv1 (by decide))]; exact h.hc hc
  · rw [heap_setCell_other _ _ _ _ (typ_ne (h.hm hm) hv1 (by decide))]; exact h.hm hm
theorem testBit_pow (x k : Nat) : (x &&& 2 ^ k = 0) ↔ x.testBit k = false := by
  rw [nat_bit, Nat.testBit_eq_decide_div_mod_eq]
  have : 0 < 2 ^ k := Nat.two_pow_pos k
  have h2 : x / 2 ^ k % 2 = 0 ∨ x / 2 ^ k % 2 = 1 := by omega
  rcases h2 with h | h
  · simp [h]
  · simp [h]
theorem idx_inj {N p q p' q' : Nat} (h : p * (N + 1) + q = p' * (N + 1) + q') (hq : q ≤ N) (hq' : q' ≤ N) : p = p' ∧ q = q' := by
  have h1 : (p * (N + 1) + q) / (N + 1) = p := by rw [Nat.mul_comm, Nat.mul_add_div (by omega)]; simp [Nat.div_eq_of_lt (show q < N + 1 by omega)]
  have h2 : (p' * (N + 1) + q') / (N + 1) = p' := by rw [Nat.mul_comm, Nat.mul_add_div (by omega)]; simp [Nat.div_eq_of_lt (show q' < N + 1 by omega)]
  have e : p = p' := by rw [← h1, h, h2]
  subst e
  exact ⟨rfl, by omega⟩
theorem tVisit {w : World} {base B CB MB VB vn L : Nat} {s : ByteArray} {J : List (Nat × Bool × Int)} {V : Nat → Nat → Bool} {C M : List Int} (h : BS w base B CB MB VB vn L s J V C M) (pc pos : Nat) (hpc : pc < L) (hpos : pos ≤ s.size) (hs : s.size ≤ 1000000) (hL : L ≤ 1000) :
    Calls Tryz.prog 97 #[.pointer (some ⟨B, 0, none⟩), .int .u32 pc, .int .i64 pos] w fun e w' => e = .returned (.bool (!V pc pos)) ∧ BS w' base B CB MB VB vn L s J (if V pc pos then V else Rx.mark V pc pos) C M ∧ Below base w w' := by
  obtain ⟨cur, x, hv1, hv2, hv3, hv4, hv5⟩ := h.hv.ex
  obtain ⟨jv, hb, hj⟩ := h.hb
  have c0 : w.cell? ⟨B, 0, none⟩ = some (.int .i64 s.size) := cell_of_row _ _ 0 _ _ _ hb
  have c4 : w.cell? ⟨B, 4, none⟩ = some (.slice (some ⟨VB, 0, none⟩) vn 8192) := cell_of_row _ _ 4 _ _ _ hb
  obtain ⟨n, hn⟩ : ∃ n, n = pc * (s.size + 1) + pos := ⟨_, rfl⟩
  have hlt : n < L * (s.size + 1) := by
    have h1 : (pc + 1) * (s.size + 1) ≤ L * (s.size + 1) := Nat.mul_le_mul_right _ hpc
    rw [Nat.add_mul] at h1
    omega
  have hvn := h.hv.le
  have hfit := h.hv.fits
  have hw : n / 32 < vn := by omega
  have cv : w.cell? ⟨VB, n / 32, none⟩ = some (.int .u32 (x (n / 32))) := by rw [cell_of_row _ _ _ _ _ _ hv1]; exact hv3 _ hw
  have fv : w.frozen? ⟨VB, n / 32, none⟩ = false := frozen_of_row _ _ _ _ _ hv1
  have w1 : IntKind.i64.wrap ((s.size : Int) + 1) = (s.size : Int) + 1 := by rw [IntKind.wrap_i64]; omega
  have hnI : (pc : Int) * ((s.size : Int) + 1) + (pos : Int) = (n : Int) := by rw [hn]; push_cast; rfl
  have hpI : (0 : Int) ≤ (pc : Int) * ((s.size : Int) + 1) := by
    have : ((pc * (s.size + 1) : Nat) : Int) = (pc : Int) * ((s.size : Int) + 1) := by push_cast; rfl
    omega
  have w2 : IntKind.i64.wrap ((pc : Int) * ((s.size : Int) + 1)) = (pc : Int) * ((s.size : Int) + 1) := by rw [IntKind.wrap_i64]; omega
  have w3 : IntKind.i64.wrap ((pc : Int) * ((s.size : Int) + 1) + (pos : Int)) = (n : Int) := by rw [hnI, IntKind.wrap_i64]; omega
  have w4 : IntKind.u64.wrap (n : Int) = (n : Int) := by rw [IntKind.wrap_u64]; omega
  have q1 : ((n : Int) / 32).toNat = n / 32 := by omega
  have q2 : (0 : Int) ≤ (n : Int) / 32 := by omega
  have q3 : (n : Int) / 32 < (vn : Int) := by omega
  have q4 : bits .and .u64 (n : Int) 31 = ((n % 32 : Nat) : Int) := by
    have := u64_and_nat n 31 (by omega) (by omega)
    rw [show ((31 : Nat) : Int) = 31 from rfl] at this
    rw [this, show (31 : Nat) = 2 ^ 5 - 1 from rfl, Nat.and_two_pow_sub_one_eq_mod]
  have w5 : IntKind.u64.wrap ((n : Int) / 32) = (n : Int) / 32 := by rw [IntKind.wrap_u64]; omega
  have pw : ((2 : Int) ^ (n % 32) % 4294967296) = ((2 ^ (n % 32) : Nat) : Int) := by
    have hlt : 2 ^ (n % 32) < 2 ^ 32 := Nat.pow_lt_pow_right (by decide) (by omega)
    have e : ((2 : Int) ^ (n % 32)) = ((2 ^ (n % 32) : Nat) : Int) := by push_cast; rfl
    rw [e]
    exact Int.emod_eq_of_lt (Int.natCast_nonneg _) (Int.ofNat_lt.2 hlt)
  have plt : 2 ^ (n % 32) < 4294967296 := Nat.pow_lt_pow_right (a := 2) (n := 32) (by decide) (by omega)
  have band : bits .and .u32 (x (n / 32)) ((2 : Int) ^ (n % 32) % 4294967296) = ((x (n / 32) &&& 2 ^ (n % 32) : Nat) : Int) := by rw [pw]; exact u32_and_nat _ _ (hv4 _) plt
  have bor : bits .or .u32 (x (n / 32)) ((2 : Int) ^ (n % 32) % 4294967296) = ((x (n / 32) ||| 2 ^ (n % 32) : Nat) : Int) := by rw [pw]; exact u32_or_nat _ _ (hv4 _) plt
  have vbit : V pc pos = (x (n / 32)).testBit (n % 32) := by rw [hv5 pc pos hpc hpos, hn]
  have big : bits .or .u32 (x (n / 32)) ((2 : Int) ^ (n % 32) % 4294967296) = ((x (n / 32) ||| 2 ^ (n % 32) : Nat) : Int) → Vis (w.setCell ⟨VB, n / 32, none⟩ (.int .u32 (bits .or .u32 (x (n / 32)) ((2 : Int) ^ (n % 32) % 4294967296)))) VB vn L s.size (Rx.mark V pc pos) := fun bor => by
    have hsame := heap_setCell_same w VB (n / 32) cur 92 (.int .u32 (bits .or .u32 (x (n / 32)) ((2 : Int) ^ (n % 32) % 4294967296))) hv1
    refine ⟨⟨_, fun i => if i = n / 32 then x (n / 32) ||| 2 ^ (n % 32) else x i, hsame, by simpa using hv2, fun i hi => ?_, fun i => ?_, fun p q hp hq => ?_⟩, h.hv.le, h.hv.fits⟩
    · by_cases e : i = n / 32
      · subst e
        simp only [if_true]
        rw [bor, Array.getElem?_setIfInBounds_self_of_lt (by omega)]
      · simp only [if_neg e]
        rw [Array.getElem?_setIfInBounds_ne (Ne.symm e)]
        exact hv3 i hi
    · simp only []
      split
      · exact Nat.or_lt_two_pow (n := 32) (hv4 _) plt
      · exact hv4 i
    · unfold Rx.mark
      rw [hv5 p q hp hq]
      by_cases e : (p * (s.size + 1) + q) / 32 = n / 32
      · simp only [if_pos e]
        rw [e, Nat.testBit_or, Nat.testBit_two_pow, Bool.or_comm]
        congr 1
        by_cases e2 : p * (s.size + 1) + q = n
        · obtain ⟨rfl, rfl⟩ := idx_inj (e2.trans hn) hq hpos
          simp [← hn]
        · have : ¬ (p = pc ∧ q = pos) := fun ⟨a, b⟩ => e2 (by rw [hn, a, b])
          have h3 : ¬ n % 32 = (p * (s.size + 1) + q) % 32 := by omega
          simp only [h3, decide_false]
          by_cases ha : p = pc
          · by_cases hb : q = pos
            · exact absurd ⟨ha, hb⟩ this
            · simp [hb]
          · simp [ha]
      · simp only [if_neg e]
        have : ¬ (p = pc ∧ q = pos) := fun ⟨a, b⟩ => e (by rw [hn, a, b])
        by_cases ha : p = pc
        · by_cases hb : q = pos
          · exact absurd ⟨ha, hb⟩ this
          · simp [hb]
        · simp [ha]
  have HN := Lib.hid hn
  have HH := Lib.hid h
  have HL := Lib.hid hlt
  have H5 := Lib.hid hv5
  have H4 := Lib.hid hv4
  have H3 := Lib.hid hv3
  have H1 := Lib.hid hv1
  have H2 := Lib.hid hv2
  have HB := Lib.hid hb
  have HJ := Lib.hid hj
  have BIG := Lib.hid big
  clear hnI hpI hfit hvn hn h hlt hv5 hv4 hv3 hv1 hv2 hb hj pw plt big
  have BB : base ≤ VB := HH.out.bv
  cases hV : V pc pos with
  | true =>
    have hne : ¬ (bits .and .u32 (x (n / 32)) ((2 : Int) ^ (n % 32) % 4294967296) = 0) := fun e => by
      rw [band] at e
      have := (testBit_pow _ _).1 (show x (n / 32) &&& 2 ^ (n % 32) = 0 by omega)
      rw [← vbit, hV] at this
      cases this
    clear band bor vbit
    have HV := Lib.hid hV
    clear hV
    go_enter Tryz.func97, Tryz.ntmps97
    go_wp2
    go_ret
    exact ⟨rfl, HH.out, Below.refl _ _⟩
  | false =>
    have heq : bits .and .u32 (x (n / 32)) ((2 : Int) ^ (n % 32) % 4294967296) = 0 := by
      rw [band]
      have := (testBit_pow _ _).2 (show (x (n / 32)).testBit (n % 32) = false by rw [← vbit, hV])
      omega
    have BOR := Lib.hid bor
    clear band bor vbit
    have HV := Lib.hid hV
    clear hV
    go_enter Tryz.func97, Tryz.ntmps97
    go_wp2
    go_ret
    exact ⟨rfl, HH.out.setVB _ _ (BIG.out BOR.out), (Below.refl _ _).setCell (p := ⟨VB, n / 32, none⟩) BB _⟩
end Go.Proofs.YthejepmnnpmdmaaGreatDoor.Sv
end
section
set_option linter.unusedVariables false
set_option linter.unusedSimpArgs false
/- the program in memory; a job is pushed -/
namespace Go.Proofs.YthejepmnnpmdmaaGreatDoor.Sv
open Go Go.RowKit Rx
set_option maxRecDepth 100000
def opc : I → Int
  | .alt _ _ => 0 | .cap _ _ => 2 | .emp _ _ => 3 | .mtch => 4 | .fail => 5 | .nop _ => 6 | .rune _ _ => 7 | .one _ _ => 8
def outc : I → Nat
  | .alt o _ => o | .cap o _ => o | .emp o _ => o | .mtch => 0 | .fail => 0 | .nop o => o | .rune o _ => o | .one o _ => o
def argc : I → Nat
  | .alt _ a => a | .cap _ a => a | .emp _ a => a | .mtch => 0 | .fail => 0 | .nop _ => 0 | .rune _ _ => 0 | .one _ _ => 0
def LenOk (n : Nat) : Prop := n = 2 ∨ n = 4 ∨ n = 6 ∨ n = 8 ∨ n = 10
structure InstAt (w : World) (IB i : Nat) (x : I) : Prop where
  op : w.cell? ⟨IB, i * 4, none⟩ = some (.int .u8 (opc x))
  out : w.cell? ⟨IB, i * 4 + 1, none⟩ = some (.int .u32 (outc x))
  arg : w.cell? ⟨IB, i * 4 + 2, none⟩ = some (.int .u32 (argc x))
  rune : ∀ o rs, x = .rune o rs → (∃ rb cap, Runes w IB (i * 4) rb cap rs) ∧ LenOk rs.length ∧ Rises rs
  one : ∀ o r, x = .one o r → ∃ rb cap, Runes w IB (i * 4) rb cap [r]
structure PG (w : World) (R PB IB icap : Nat) (T : List I) : Prop where
  r1 : w.cell? ⟨R, 1, none⟩ = some (.pointer (some ⟨PB, 0, none⟩))
  r15 : w.cell? ⟨R, 15, none⟩ = some (.bool false)
  p0 : w.cell? ⟨PB, 0, none⟩ = some (.slice (some ⟨IB, 0, none⟩) T.length icap)
  inst : ∀ (i : Nat) (x : I), T[i]? = some x → InstAt w IB i x
  outs : ∀ (i : Nat) (x : I), T[i]? = some x → outc x < T.length ∧ argc x < 1000
  alt : ∀ (i o a : Nat), T[i]? = some (.alt o a) → a < T.length
  len : T.length ≤ 1000
theorem keepc {w w' : World} (h : Below w.heap.size w w') {a : Addr} {v : Value} (hc : w.cell? a = some v) : w'.cell? a = some v := (h.cell (p := a) (Lib.lt_of_cell hc)).trans hc
theorem Runes.keep {w w' : World} {ib io rb cap : Nat} {rs : List Int} (h : Runes w ib io rb cap rs) (hb : Below w.heap.size w w') : Runes w' ib io rb cap rs := ⟨keepc hb h.at3, fun i hi => keepc hb (h.get i hi)⟩
theorem InstAt.keep {w w' : World} {IB i : Nat} {x : I} (h : InstAt w IB i x) (hb : Below w.heap.size w w') : InstAt w' IB i x :=
  ⟨keepc hb h.op, keepc hb h.out, keepc hb h.arg, fun o rs e => by obtain ⟨⟨rb, cap, hr⟩, h2⟩ := h.rune o rs e; exact ⟨⟨rb, cap, hr.keep hb⟩, h2⟩, fun o r e => by obtain ⟨rb, cap, hr⟩ := h.one o r e; exact ⟨rb, cap, hr.keep hb⟩⟩
theorem PG.keep {w w' : World} {R PB IB icap : Nat} {T : List I} (h : PG w R PB IB icap T) (hb : Below w.heap.size w w') : PG w' R PB IB icap T :=
  ⟨keepc hb h.r1, keepc hb h.r15, keepc hb h.p0, fun i x hx => (h.inst i x hx).keep hb, h.outs, h.alt, h.len⟩
theorem info181 : (Tryz.prog.info? 171).map (fun i => (i.zero, i.size, i.bytes)) = some (some (.agg #[.int .u32 0, .bool false, .int .i64 0]), 3, 16) := by kernel_rfl
/-- the jobs grow: their slice stands in the state's block -/
theorem BS.setJobs {w w1 : World} {base B CB MB VB vn L : Nat} {s : ByteArray} {J J' : List (Nat × Bool × Int)} {V : Nat → Nat → Bool} {C M : List Int} (h : BS w base B CB MB VB vn L s J V C M)
    {jv jv' : Value} (hb : w.heap[B]? = some (.cells #[.int .i64 s.size, sl CB C.length, sl MB M.length, jv, .slice (some ⟨VB, 0, none⟩) vn 8192, .string s] 152 (0, 0))) (hown : w.ownsRow base 171 3 jv J.length (jobCells J))
    (hg : w.grownBy w1 jv.ownBlock) (hown' : w1.ownsRow base 171 3 jv' J'.length (jobCells J')) : BS (w1.setCell ⟨B, 3, none⟩ jv') base B CB MB VB vn L s J' V C M := by
  obtain ⟨cur, x, hv1, hv2, hv3, hv4, hv5⟩ := h.hv.ex
  have nb : ∀ {k : Nat} {cs : Array Value} {t : TypeId} {f : Nat × Nat}, w.heap[k]? = some (.cells cs t f) → t ≠ 171 → w1.heap[k]? = some (.cells cs t f) := fun {k cs t f} hk ht => by
    rw [hg.block k (Array.getElem?_eq_some_iff.1 hk).1 ?_]
    · exact hk
    · intro e
      rcases hown.2 with ⟨rfl, _⟩ | ⟨g, cap, cur', rfl, _, hgg, _⟩
      · cases e
      · injection e with e
        have e : g = k := e.symm
        subst e
        rw [hk] at hgg
        injection hgg with hgg
        injection hgg with _ h2 _
        exact ht h2
  have hb1 := nb hb (by decide)
  have ob : ∀ {k : Nat} {cs : Array Value} {t : TypeId} {f : Nat × Nat}, w1.heap[k]? = some (.cells cs t f) → t ≠ 152 → (w1.setCell ⟨B, 3, none⟩ jv').heap[k]? = some (.cells cs t f) := fun {k cs t f} hk ht => by
    rw [heap_setCell_other _ _ _ _ (typ_ne hk hb1 ht)]; exact hk
  refine ⟨⟨jv', ?_, own_of hown' fun g cur hg hc => ?_⟩, fun hc => ob (nb (h.hc hc) (by decide)) (by decide), fun hm => ob (nb (h.hm hm) (by decide)) (by decide), ⟨⟨cur, x, ob (nb hv1 (by decide)) (by decide), hv2, hv3, hv4, hv5⟩, h.hv.le, h.hv.fits⟩, h.cm, h.bb, h.bc, h.bm, h.bv, ?_⟩
  · have := heap_setCell_same w1 B 3 _ 152 jv' hb1
    simpa using this
  · exact heap_setCell_other _ _ _ _ (typ_ne hc hb1 (by decide))
  · have := hg.size; have := h.bw; simp; omega
theorem BS.keep {w w' : World} {base B CB MB VB vn L : Nat} {s : ByteArray} {J : List (Nat × Bool × Int)} {V : Nat → Nat → Bool} {C M : List Int} (h : BS w base B CB MB VB vn L s J V C M) (hb : Below w.heap.size w w') : BS w' base B CB MB VB vn L s J V C M := by
  have k : ∀ {g : Nat} {o : Obj}, w.heap[g]? = some o → w'.heap[g]? = some o := fun {g o} hg => (hb.block g (Array.getElem?_eq_some_iff.1 hg).1).trans hg
  obtain ⟨cur, x, hv1, hv⟩ := h.hv.ex
  obtain ⟨jv, hb', hj⟩ := h.hb
  exact ⟨⟨jv, k hb', own_of hj fun g cur hg hc => (k hc).trans hc.symm⟩, fun hc => k (h.hc hc), fun hm => k (h.hm hm), ⟨⟨cur, x, k hv1, hv⟩, h.hv.le, h.hv.fits⟩, h.cm, h.bb, h.bc, h.bm, h.bv, by have := hb.size; have := h.bw; omega⟩
theorem cell_new3 (w : World) (a b c : Value) (t : TypeId) : ∀ (j : Nat) (u : Value), [a, b, c][j]? = some u → (w.alloc (.cells #[a, b, c] t)).cell? ((⟨w.heap.size, 0, none⟩ : Addr).add j) = some u := fun j u h => by
  have e : (⟨w.heap.size, 0, none⟩ : Addr).add j = ⟨w.heap.size, j, none⟩ := by simp [Addr.add]; omega
  rw [e, cell_of_row _ _ _ _ _ _ (heap_alloc_new w _)]
  simpa using h
theorem BS.at3 {w w1 : World} {base B CB MB VB vn L : Nat} {s : ByteArray} {J : List (Nat × Bool × Int)} {V : Nat → Nat → Bool} {C M : List Int} (h : BS w base B CB MB VB vn L s J V C M)
    {jv : Value} (hb : w.heap[B]? = some (.cells #[.int .i64 s.size, sl CB C.length, sl MB M.length, jv, .slice (some ⟨VB, 0, none⟩) vn 8192, .string s] 152 (0, 0))) (hown : w.ownsRow base 171 3 jv J.length (jobCells J))
    (hg : w.grownBy w1 jv.ownBlock) : w1.cell? ⟨B, 3, none⟩ = some jv ∧ w1.frozen? ⟨B, 3, none⟩ = false := by
  have hb1 : w1.heap[B]? = _ := (hg.block B (Array.getElem?_eq_some_iff.1 hb).1 (fun e => by
      rcases hown.2 with ⟨rfl, _⟩ | ⟨g, cap, cur', rfl, _, hgg, _⟩
      · cases e
      · injection e with e
        exact typ_ne hb hgg (by decide) e)).trans hb
  exact ⟨cell_of_row _ _ 3 _ _ _ hb1, frozen_of_row _ _ _ _ _ hb1⟩
theorem tPushT {w : World} {base B CB MB VB vn L R PB IB icap : Nat} {s : ByteArray} {J : List (Nat × Bool × Int)} {V : Nat → Nat → Bool} {C M : List Int} {T : List I} (h : BS w base B CB MB VB vn L s J V C M) (hp : PG w R PB IB icap T) (pc : Nat) (x : I) (hx : T[pc]? = some x) (hf : opc x ≠ 5) (pos : Int) (hJ : J.length ≤ 1002000000) :
    Calls Tryz.prog 96 #[.pointer (some ⟨B, 0, none⟩), .pointer (some ⟨R, 0, none⟩), .int .u32 pc, .int .i64 pos, .bool true] w fun e w' => (∃ v, e = .returned v) ∧ BS w' base B CB MB VB vn L s (J ++ [(pc, true, pos)]) V C M ∧ Below base w w' := by
  obtain ⟨jv, hb, hj⟩ := h.hb
  obtain ⟨i0, hi, hz0, hz1, hz2⟩ := info_parts info181
  have hlt : pc < T.length := (List.getElem?_eq_some_iff.1 hx).1
  have c1 := hp.r1
  have c2 := hp.p0
  have c3 := (hp.inst pc x hx).op
  have k1 : (pc : Int) < (T.length : Int) := by omega
  have b3 : w.cell? ⟨B, 3, none⟩ = some jv := cell_of_row _ _ 3 _ _ _ hb
  have f3 : w.frozen? ⟨B, 3, none⟩ = false := frozen_of_row _ _ _ _ _ hb
  have hop : ¬ (opc x = 5) := hf
  have HH := Lib.hid h
  have HB := Lib.hid hb
  have HJ := Lib.hid hj
  have HI := Lib.hid (And.intro hi (And.intro hz0 (And.intro hz1 hz2)))
  have LJ := Lib.hid hJ
  have hBs : B < w.heap.size := Lib.lt_of_cell b3
  have KK := Lib.hid (h.keep ((Below.refl _ w).alloc (Nat.le_refl _) (.cells #[.int .u32 pc, .bool true, .int .i64 pos] 171)))
  have KB := Lib.hid ((Below.heap_alloc w (.cells #[.int .u32 pc, .bool true, .int .i64 pos] 171) B hBs).trans hb)
  clear h hb hj hi hz0 hz1 hz2 hJ hx hf hp
  generalize opc x = ox at *
  go_enter Tryz.func96, Tryz.ntmps96
  go_wp2_with ((with_reducible refine wpList_append_own (o := ⟨some 41, _, _, _, _, _⟩) _ ?h1 (.tmp 35) (.tmp 40) 148 ?h2 base 171 i0 (.agg #[.int .u32 0, .bool false, .int .i64 0]) 3 16 Tryz.underlying148 HI.out.1 HI.out.2.1 HI.out.2.2.1 HI.out.2.2.2 rfl (by decide) _ J.length _ ?h3 (HJ.out.alloc _) ⟨w.heap.size, 0, none⟩ 1 1 [.int .u32 pc, .bool true, .int .i64 pos] ?h4 rfl ?h5 ?h6 ?h7 ?h8 ?h9 ?_); (case h1 => rfl); (case h2 => rfl); (case h3 => rfl); (case h4 => rfl); (case h5 => exact cell_new3 _ _ _ _ _); (case h6 => (intro u hu; simp at hu; rcases hu with rfl | rfl | rfl <;> rfl)); (case h7 => (have := LJ.out; unfold maxLen; omega)); (case h8 => (have := LJ.out; omega)); (case h9 => (have := HH.out.bw; simp; omega)); intro v' w' ho' hg' _; have hF : ∃ g cap, v' = .slice (some ⟨g, 0, none⟩) (J.length + 1) cap := (by obtain ⟨g, cap, h, _⟩ := World.ownsRow.form ho' (by omega); exact ⟨g, cap, h⟩); obtain ⟨g', cap', hvv⟩ := hF; subst hvv; have hA3 := BS.at3 KK.out KB.out (HJ.out.alloc _) hg'; have g3 := hA3.1; have gf3 := hA3.2; have OO := Lib.hid ho'; have GG := Lib.hid hg'; clear ho' hg')
  go_end0
  refine ⟨⟨_, rfl⟩, KK.out.setJobs KB.out (HJ.out.alloc _) GG.out (by simpa [jobCells] using OO.out), ?_⟩
  exact (Below.grown ((Below.refl base w).alloc HH.out.bw _) GG.out (by have := HH.out.bw; simp; omega) (fun k hk => (HJ.out.lt k hk).1)).setCell (p := ⟨B, 3, none⟩) HH.out.bb _
theorem tPushF {w : World} {base B CB MB VB vn L R PB IB icap : Nat} {s : ByteArray} {J : List (Nat × Bool × Int)} {V : Nat → Nat → Bool} {C M : List Int} {T : List I} (h : BS w base B CB MB VB vn L s J V C M) (hp : PG w R PB IB icap T) (pc : Nat) (x : I) (hx : T[pc]? = some x) (hf : opc x ≠ 5) (pos : Nat) (hpos : pos ≤ s.size) (hs : s.size ≤ 1000000) (hL : L ≤ 1000) (hpc : pc < L) (hJ : J.length ≤ 1002000000) :
    Calls Tryz.prog 96 #[.pointer (some ⟨B, 0, none⟩), .pointer (some ⟨R, 0, none⟩), .int .u32 pc, .int .i64 pos, .bool false] w fun e w' => (∃ v, e = .returned v) ∧ BS w' base B CB MB VB vn L s (if V pc pos then J else J ++ [(pc, false, (pos : Int))]) (if V pc pos then V else Rx.mark V pc pos) C M ∧ Below base w w' := by
  obtain ⟨i0, hi, hz0, hz1, hz2⟩ := info_parts info181
  have hlt : pc < T.length := (List.getElem?_eq_some_iff.1 hx).1
  have c1 := hp.r1
  have c2 := hp.p0
  have c3 := (hp.inst pc x hx).op
  have k1 : (pc : Int) < (T.length : Int) := by omega
  have hop : ¬ (opc x = 5) := hf
  have HV := Lib.hid (tVisit h pc pos hpc hpos hs hL)
  have HI := Lib.hid (And.intro hi (And.intro hz0 (And.intro hz1 hz2)))
  have LJ := Lib.hid hJ
  clear h hi hz0 hz1 hz2 hJ hx hf hp
  generalize opc x = ox at *
  cases hv : V pc pos with
  | true =>
    simp only [hv, if_true, Bool.not_true] at HV ⊢
    clear hv
    go_enter Tryz.func96, Tryz.ntmps96
    go_wp2_with (go_at_call 97; refine HV.out.mono ?_; rintro e w1 ⟨rfl, hbs, hbel⟩)
    go_end0
    exact ⟨⟨_, rfl⟩, hbs, hbel⟩
  | false =>
    simp only [hv, if_false, Bool.not_false, Bool.false_eq_true] at HV ⊢
    clear hv
    go_enter Tryz.func96, Tryz.ntmps96
    go_wp2_with (first
      | (go_at_call 97; refine HV.out.mono ?_; rintro e w1 ⟨rfl, hbs, hbel⟩; obtain ⟨jv, hb, hj⟩ := hbs.hb; have b3 : w1.cell? ⟨B, 3, none⟩ = some jv := cell_of_row _ _ 3 _ _ _ hb; have hBs : B < w1.heap.size := Lib.lt_of_cell b3; have HH := Lib.hid hbs; have HB := Lib.hid hb; have HJ := Lib.hid hj; have HBel := Lib.hid hbel; have KK := Lib.hid (hbs.keep ((Below.refl _ w1).alloc (Nat.le_refl _) (.cells #[.int .u32 pc, .bool false, .int .i64 pos] 171))); have KB := Lib.hid ((Below.heap_alloc w1 (.cells #[.int .u32 pc, .bool false, .int .i64 pos] 171) B hBs).trans hb); clear hbs hb hj hbel)
      | ((with_reducible refine wpList_append_own (o := ⟨some 41, _, _, _, _, _⟩) _ ?h1 (.tmp 35) (.tmp 40) 148 ?h2 base 171 i0 (.agg #[.int .u32 0, .bool false, .int .i64 0]) 3 16 Tryz.underlying148 HI.out.1 HI.out.2.1 HI.out.2.2.1 HI.out.2.2.2 rfl (by decide) _ J.length _ ?h3 (HJ.out.alloc _) ⟨w1.heap.size, 0, none⟩ 1 1 [.int .u32 pc, .bool false, .int .i64 pos] ?h4 rfl ?h5 ?h6 ?h7 ?h8 ?h9 ?_); (case h1 => rfl); (case h2 => rfl); (case h3 => rfl); (case h4 => rfl); (case h5 => exact cell_new3 _ _ _ _ _); (case h6 => (intro u hu; simp at hu; rcases hu with rfl | rfl | rfl <;> rfl)); (case h7 => (have := LJ.out; unfold maxLen; omega)); (case h8 => (have := LJ.out; omega)); (case h9 => (have := HH.out.bw; simp; omega)); intro v' w' ho' hg' _; have hF : ∃ g cap, v' = .slice (some ⟨g, 0, none⟩) (J.length + 1) cap := (by obtain ⟨g, cap, h, _⟩ := World.ownsRow.form ho' (by omega); exact ⟨g, cap, h⟩); obtain ⟨g', cap', hvv⟩ := hF; subst hvv; have hA3 := BS.at3 KK.out KB.out (HJ.out.alloc _) hg'; have g3 := hA3.1; have gf3 := hA3.2; have OO := Lib.hid ho'; have GG := Lib.hid hg'; clear ho' hg'))
    go_end0
    refine ⟨⟨_, rfl⟩, KK.out.setJobs KB.out (HJ.out.alloc _) GG.out (by simpa [jobCells] using OO.out), ?_⟩
    exact HBel.out.trans ((Below.grown ((Below.refl base w1).alloc HH.out.bw _) GG.out (by have := HH.out.bw; simp; omega) (fun k hk => (HJ.out.lt k hk).1)).setCell (p := ⟨B, 3, none⟩) HH.out.bb _)
end Go.Proofs.YthejepmnnpmdmaaGreatDoor.Sv
end
section
namespace Go.Proofs.YthejepmnnpmdmaaGreatDoor
open Go
/-- As Q; by a goto to a label l: J l at a number below n. -/
def Exit.jumpN (J : Nat → Nat → Act → World → Prop) (n : Option Nat) (Q : Exit → Act → World → Prop) : Exit → Act → World → Prop
  | .goto l, a, w => ∃ m, (∀ k, n = some k → m < k) ∧ J l m a w
  | e, a, w => Q e a w
/-- a scope in which the run jumps to its labels: what holds at each jump, with a number that falls from jump to jump -/
theorem wp_scope_jumpsN {P : Program} {a : Act} {w : World} {Q : Exit → Act → World → Prop} {c : Code} (J : Nat → Nat → Act → World → Prop)
    (first : c.wp P (Exit.jumpN J none Q) a w)
    (pass : ∀ l n a w, J l n a w → ∃ rest, findLabel c l = some rest ∧ rest.wp P (Exit.jumpN J (some n) Q) a w) : (Code.scope c).wp P Q a w := by
  intro b k cs
  have key : ∀ n l a w, J l n a w → ∃ rest, findLabel c l = some rest ∧ ∃ e a' w', Q e a' w' ∧ Arrives P (lone (b.at a (.code rest :: .inScope c :: k)) cs w) b k cs e a' w' := by
    intro n
    induction n using Nat.strongRecOn with
    | _ n ih =>
      intro l a w hJ
      obtain ⟨rest, hf, hw⟩ := pass l n a w hJ
      refine ⟨rest, hf, ?_⟩
      obtain ⟨e, a₁, w₁, hq, harr⟩ := hw b (.inScope c :: k) cs
      cases e with
      | normal => exact ⟨.normal, a₁, w₁, hq, Steps.trans harr (.one step_inScope)⟩
      | exit id => exact ⟨.exit id, a₁, w₁, hq, fun k' hk => harr k' (by simp [exitTo, hk])⟩
      | goto l' =>
        obtain ⟨m, hlt, hJ'⟩ := hq
        obtain ⟨rest', hf', e₂, a₂, w₂, hq₂, harr₂⟩ := ih m (hlt n rfl) l' a₁ w₁ hJ'
        have hg : gotoIn l' (.inScope c :: k) = some (.code rest' :: .inScope c :: k) := by simp [gotoIn, hf']
        exact ⟨e₂, a₂, w₂, hq₂, .of_steps (harr _ hg) harr₂⟩
      | ret => exact ⟨_, a₁, w₁, hq, harr⟩
      | panic ch => exact ⟨_, a₁, w₁, hq, harr⟩
      | outgrown => exact ⟨_, a₁, w₁, hq, harr⟩
  obtain ⟨e, a₁, w₁, hq, harr⟩ := first b (.inScope c :: k) cs
  cases e with
  | normal => exact ⟨.normal, a₁, w₁, hq, .head step_scope (Steps.trans harr (.one step_inScope))⟩
  | exit id => exact ⟨.exit id, a₁, w₁, hq, fun k' hk => .head step_scope (harr k' (by simp [exitTo, hk]))⟩
  | goto l' =>
    obtain ⟨m, _, hJ'⟩ := hq
    obtain ⟨rest', hf', e₂, a₂, w₂, hq₂, harr₂⟩ := key m l' a₁ w₁ hJ'
    have hg : gotoIn l' (.inScope c :: k) = some (.code rest' :: .inScope c :: k) := by simp [gotoIn, hf']
    exact ⟨e₂, a₂, w₂, hq₂, .of_steps (.head step_scope (harr _ hg)) harr₂⟩
  | ret => exact ⟨_, a₁, w₁, hq, .of_steps (.one step_scope) harr⟩
  | panic ch => exact ⟨_, a₁, w₁, hq, .of_steps (.one step_scope) harr⟩
  | outgrown => exact ⟨_, a₁, w₁, hq, .of_steps (.one step_scope) harr⟩
end Go.Proofs.YthejepmnnpmdmaaGreatDoor
end
