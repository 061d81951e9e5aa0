/- a part of the proof: FnSemverUpgrade: for every version the law's function returns true and leaves its argument as it was; no condition is added, the statement is the given tied card. -/
import Derived.Shelf.Small.Utf8
import Derived.Shelf.Strconv.Itoa0
import Derived.Shelf.Strconv.Itoa1
import Derived.Shelf.LaysM
import Derived.Shelf.Strconv.Itoa2
import Derived.Shelf.Strconv.Itoa3
import Derived.Shelf.Strconv.Clone
import Derived.Shelf.Strconv.SyntaxError
import Derived.Shelf.LaysC
import Derived.Shelf.Strconv.ToError
import Derived.Shelf.Strconv.Lower
import Derived.Shelf.Strconv.ParseUint10
import Derived.Shelf.Strconv.ParseUint10Empty
import Derived.Shelf.Strconv.ParseUint10Any
import Derived.Shelf.Strconv.RangeError
import Derived.Shelf.Strconv.ToErrorRange
import Derived.Shelf.Strconv.ParseUintEmpty
import Derived.Shelf.Strconv.ParseUint10b64
import Derived.Shelf.Strconv.ParseUint10b32
import Derived.Shelf.Strconv.ParseUint10b16
import Derived.Shelf.Strconv.ParseUint10b8
import Derived.Shelf.Strconv.ParseUint10At
import Derived.Ground.MpProg
import Derived.Shelf.Pu.ParseUintPublic10
import Derived.Shelf.Strings.Prefix
import Derived.Shelf.Unicode.Decode
import Derived.Shelf.Unicode.DecodeSlow
import Derived.Shelf.Unicode.DecodeAny
import Derived.Shelf.Unicode.DecodeLast
import Derived.Test.YtflcanlniddgoaaGreatDoorProg
import Derived.Test.YtflcanlniddgoaaGreatDoorNF
import Derived.Lib.ItoaMem
import Derived.Lib.AppendIntMem
import Derived.Lib.SmallJoins
import Derived.Test.YtflcanlniddgoaaGreatDoorNC
section
namespace Go.Proofs
open Go.Shelf
def Tryz.lays283_ren : Go.Shelf.Ren := ⟨fun | 283 => 48 | n => n, fun | 3 => 3 | 9 => 9 | 4 => 4 | n => n, fun | n => n⟩
theorem Tryz.lays283 : Go.Proofs.Lays.n283 Tryz.prog Tryz.lays283_ren := {
  mixed := by kernel_rfl
  f283 := Tryz.func48.trans (congrArg some (by kernel_rfl))
  t3 := Tryz.underlying3
  a3 := Tryz.isAgg3
  z3 := Tryz.sizeOf3
  v3 := Tryz.zeroValue3
  t4 := Tryz.underlying4
  a4 := Tryz.isAgg4
  z4 := Tryz.sizeOf4
  v4 := Tryz.zeroValue4
  t9 := Tryz.underlying9
  a9 := Tryz.isAgg9
  z9 := Tryz.sizeOf9
  v9 := Tryz.zeroValue9 }
open Go.Lib in
/-- internal/strconv.small: "small returns the string for an i with 0 <= i < nSmalls.": i's decimal numeral. The world is as it was. (LAID: no walk: one application.) -/
theorem Tryz.internal_strconv_small (i : Nat) (h : i < 100) (w : World) :
    Calls Tryz.prog 48 #[.int .i64 i] w fun e w' => e = .returned (.string ⟨(Lib.decDigits i).toArray⟩) ∧ w' = w := Any.internal_strconv_small Tryz.lays283 i h w
def Tryz.laysM284_ren : Go.Shelf.Ren := ⟨fun | 284 => 49 | 129 => 75 | 317 => 74 | 318 => 76 | n => n, fun | 53 => 22 | 3 => 3 | 212 => 110 | 0 => 0 | 4 => 4 | 46 => 113 | 5 => 5 | 9 => 9 | n => n, fun | 17 => 2 | n => n⟩
theorem Tryz.laysM284 : Go.Proofs.LaysM.n284 Tryz.prog Tryz.laysM284_ren := {
  mixed := by kernel_rfl
  f129 := Tryz.func75.trans (congrArg some (by kernel_rfl))
  f284 := Tryz.func49.trans (congrArg some (by kernel_rfl))
  f317 := Tryz.func74.trans (congrArg some (by kernel_rfl))
  f318 := Tryz.func76.trans (congrArg some (by kernel_rfl))
  t0 := Tryz.underlying0
  a0 := Tryz.isAgg0
  z0 := Tryz.sizeOf0
  v0 := Tryz.zeroValue0
  t3 := Tryz.underlying3
  a3 := Tryz.isAgg3
  z3 := Tryz.sizeOf3
  v3 := Tryz.zeroValue3
  t4 := Tryz.underlying4
  a4 := Tryz.isAgg4
  z4 := Tryz.sizeOf4
  v4 := Tryz.zeroValue4
  t5 := Tryz.underlying5
  a5 := Tryz.isAgg5
  z5 := Tryz.sizeOf5
  v5 := Tryz.zeroValue5
  t9 := Tryz.underlying9
  a9 := Tryz.isAgg9
  z9 := Tryz.sizeOf9
  v9 := Tryz.zeroValue9
  t46 := Tryz.underlying113
  a46 := Tryz.isAgg113
  z46 := Tryz.sizeOf113
  v46 := Tryz.zeroValue113
  t53 := Tryz.underlying22
  a53 := Tryz.isAgg22
  z53 := Tryz.sizeOf22
  v53 := Tryz.zeroValue22
  t212 := Tryz.underlying110
  a212 := Tryz.isAgg110
  z212 := Tryz.sizeOf110
  v212 := Tryz.zeroValue110
  g17 := by kernel_rfl
  i0 := by kernel_rfl
  i3 := by kernel_rfl
  i4 := by kernel_rfl
  i5 := by kernel_rfl
  i9 := by kernel_rfl
  i46 := by kernel_rfl
  i53 := by kernel_rfl
  i212 := by kernel_rfl
  m17 := by kernel_rfl }
open Go.Lib in
/-- internal/strconv.numDigits, at a d that is not 0: THE NUMBER OF d's DECIMAL DIGITS. The world is as it was. (LAID: no walk: one application.) -/
theorem Tryz.internal_strconv_numDigits (u : Nat) (h1 : 1 ≤ u) (h2 : u < 18446744073709551616) (w : World) (htab : Lib.TabIs Tryz.prog w "internal/strconv.uint64pow10" .u64 Lib.pow10Tab) :
    Calls Tryz.prog 49 #[.int .u64 u] w fun e w' => e = .returned (.int .i64 (Lib.nDigits u)) ∧ w' = w := Any.internal_strconv_numDigits Tryz.laysM284 u h1 h2 w htab
def Tryz.lays285_ren : Go.Shelf.Ren := ⟨fun | 285 => 50 | n => n, fun | 37 => 73 | 53 => 22 | 3 => 3 | 4 => 4 | 51 => 91 | 9 => 9 | 5 => 5 | 0 => 0 | n => n, fun | n => n⟩
theorem Tryz.lays285 : Go.Proofs.Lays.n285 Tryz.prog Tryz.lays285_ren := {
  mixed := by kernel_rfl
  f285 := Tryz.func50.trans (congrArg some (by kernel_rfl))
  t0 := Tryz.underlying0
  a0 := Tryz.isAgg0
  z0 := Tryz.sizeOf0
  v0 := Tryz.zeroValue0
  t3 := Tryz.underlying3
  a3 := Tryz.isAgg3
  z3 := Tryz.sizeOf3
  v3 := Tryz.zeroValue3
  t4 := Tryz.underlying4
  a4 := Tryz.isAgg4
  z4 := Tryz.sizeOf4
  v4 := Tryz.zeroValue4
  t5 := Tryz.underlying5
  a5 := Tryz.isAgg5
  z5 := Tryz.sizeOf5
  v5 := Tryz.zeroValue5
  t9 := Tryz.underlying9
  a9 := Tryz.isAgg9
  z9 := Tryz.sizeOf9
  v9 := Tryz.zeroValue9
  t37 := Tryz.underlying73
  a37 := Tryz.isAgg73
  z37 := Tryz.sizeOf73
  v37 := Tryz.zeroValue73
  t51 := Tryz.underlying91
  a51 := Tryz.isAgg91
  z51 := Tryz.sizeOf91
  v51 := Tryz.zeroValue91
  t53 := Tryz.underlying22
  a53 := Tryz.isAgg22
  z53 := Tryz.sizeOf22
  v53 := Tryz.zeroValue22 }
open Go.RowKit Go.Sort Go.Lib in
/-- internal/strconv.formatBase10: "formatBase10 formats the decimal representation of u into a. The caller is responsible for ensuring that a is big enough to hold u. If a is too big, leading zeros will be filled in as needed.": THE ROW HOLDS u's DIGITS ('FmtInv .. 0 ..': every place t holds 'dg u (len - 1 - t)'); all else is as it was but for the count of draws. (LAID: no walk: one application.) -/
theorem Tryz.internal_strconv_formatBase10 (blk off cap : Nat) (u : Nat) (d : Array UInt8) (w : World) (hH : Holds (fun (b : UInt8) => Value.int .u8 (b.toNat : Int)) w blk off d) (hu : u < 10 ^ d.size) (hu64 : u < 18446744073709551616) (hsz : d.size < 4611686018427387904) :
    Calls Tryz.prog 50 #[.slice (some ⟨blk, off, none⟩) d.size cap, .int .u64 u] w fun e w' =>
      e = .returned (.tuple #[]) ∧ ∃ (n v' : Nat) (dk : Array UInt8), w' = (putRow (fun (b : UInt8) => Value.int .u8 (b.toNat : Int)) w blk off dk).drewN n ∧ FmtInv d.size u 0 v' dk := Any.internal_strconv_formatBase10 Tryz.lays285 blk off cap u d w hH hu hu64 hsz
def Tryz.laysPu14_ren : Go.Shelf.Ren := ⟨fun | 14 => 93 | 16 => 111 | 17 => 112 | 19 => 123 | 20 => 124 | 21 => 125 | 22 => 126 | 23 => 127 | 24 => 128 | 25 => 136 | 27 => 137 | 26 => 41 | 28 => 140 | 29 => 141 | 30 => 48 | 31 => 49 | 32 => 50 | 33 => 51 | 35 => 75 | 34 => 74 | 36 => 76 | 37 => 77 | 38 => 78 | 39 => 98 | 40 => 99 | n => n, fun | 9 => 9 | 3 => 3 | 22 => 22 | 24 => 44 | 25 => 133 | 4 => 4 | 34 => 172 | 5 => 5 | 36 => 113 | 37 => 73 | 0 => 0 | 39 => 174 | 21 => 21 | 44 => 188 | 47 => 194 | 50 => 99 | 48 => 97 | 2 => 2 | 52 => 70 | 55 => 74 | 59 => 110 | 60 => 91 | 20 => 20 | 61 => 111 | 65 => 151 | 66 => 152 | 67 => 31 | n => n, fun | 0 => 12 | 1 => 13 | 2 => 2 | 3 => 10 | 4 => 11 | n => n⟩
theorem Tryz.laysPu14 : Go.Proofs.LaysPu.n14 Tryz.prog Tryz.laysPu14_ren := {
  mixed := by kernel_rfl
  f14 := Tryz.func93.trans (congrArg some (by kernel_rfl))
  f16 := Tryz.func111.trans (congrArg some (by kernel_rfl))
  f17 := Tryz.func112.trans (congrArg some (by kernel_rfl))
  f19 := Tryz.func123.trans (congrArg some (by kernel_rfl))
  f20 := Tryz.func124.trans (congrArg some (by kernel_rfl))
  f21 := Tryz.func125.trans (congrArg some (by kernel_rfl))
  f22 := Tryz.func126.trans (congrArg some (by kernel_rfl))
  f23 := Tryz.func127.trans (congrArg some (by kernel_rfl))
  f24 := Tryz.func128.trans (congrArg some (by kernel_rfl))
  f25 := Tryz.func136.trans (congrArg some (by kernel_rfl))
  f26 := Tryz.func41.trans (congrArg some (by kernel_rfl))
  f27 := Tryz.func137.trans (congrArg some (by kernel_rfl))
  f28 := Tryz.func140.trans (congrArg some (by kernel_rfl))
  f29 := Tryz.func141.trans (congrArg some (by kernel_rfl))
  f30 := Tryz.func48.trans (congrArg some (by kernel_rfl))
  f31 := Tryz.func49.trans (congrArg some (by kernel_rfl))
  f32 := Tryz.func50.trans (congrArg some (by kernel_rfl))
  f33 := Tryz.func51.trans (congrArg some (by kernel_rfl))
  f34 := Tryz.func74.trans (congrArg some (by kernel_rfl))
  f35 := Tryz.func75.trans (congrArg some (by kernel_rfl))
  f36 := Tryz.func76.trans (congrArg some (by kernel_rfl))
  f37 := Tryz.func77.trans (congrArg some (by kernel_rfl))
  f38 := Tryz.func78.trans (congrArg some (by kernel_rfl))
  f39 := Tryz.func98.trans (congrArg some (by kernel_rfl))
  f40 := Tryz.func99.trans (congrArg some (by kernel_rfl))
  t0 := Tryz.underlying0
  a0 := Tryz.isAgg0
  z0 := Tryz.sizeOf0
  v0 := Tryz.zeroValue0
  i0 := by kernel_rfl
  t2 := Tryz.underlying2
  a2 := Tryz.isAgg2
  z2 := Tryz.sizeOf2
  v2 := Tryz.zeroValue2
  i2 := by kernel_rfl
  t3 := Tryz.underlying3
  a3 := Tryz.isAgg3
  z3 := Tryz.sizeOf3
  v3 := Tryz.zeroValue3
  i3 := by kernel_rfl
  t4 := Tryz.underlying4
  a4 := Tryz.isAgg4
  z4 := Tryz.sizeOf4
  v4 := Tryz.zeroValue4
  i4 := by kernel_rfl
  t5 := Tryz.underlying5
  a5 := Tryz.isAgg5
  z5 := Tryz.sizeOf5
  v5 := Tryz.zeroValue5
  i5 := by kernel_rfl
  t9 := Tryz.underlying9
  a9 := Tryz.isAgg9
  z9 := Tryz.sizeOf9
  v9 := Tryz.zeroValue9
  i9 := by kernel_rfl
  t20 := Tryz.underlying20
  a20 := Tryz.isAgg20
  z20 := Tryz.sizeOf20
  v20 := Tryz.zeroValue20
  i20 := by kernel_rfl
  t21 := Tryz.underlying21
  a21 := Tryz.isAgg21
  z21 := Tryz.sizeOf21
  v21 := Tryz.zeroValue21
  i21 := by kernel_rfl
  t22 := Tryz.underlying22
  a22 := Tryz.isAgg22
  z22 := Tryz.sizeOf22
  v22 := Tryz.zeroValue22
  i22 := by kernel_rfl
  t24 := Tryz.underlying44
  a24 := Tryz.isAgg44
  z24 := Tryz.sizeOf44
  v24 := Tryz.zeroValue44
  i24 := by kernel_rfl
  t25 := Tryz.underlying133
  a25 := Tryz.isAgg133
  z25 := Tryz.sizeOf133
  v25 := Tryz.zeroValue133
  i25 := by kernel_rfl
  t34 := Tryz.underlying172
  a34 := Tryz.isAgg172
  z34 := Tryz.sizeOf172
  v34 := Tryz.zeroValue172
  i34 := by kernel_rfl
  c34 := by kernel_rfl
  t36 := Tryz.underlying113
  a36 := Tryz.isAgg113
  z36 := Tryz.sizeOf113
  v36 := Tryz.zeroValue113
  i36 := by kernel_rfl
  t37 := Tryz.underlying73
  a37 := Tryz.isAgg73
  z37 := Tryz.sizeOf73
  v37 := Tryz.zeroValue73
  i37 := by kernel_rfl
  t39 := Tryz.underlying174
  a39 := Tryz.isAgg174
  z39 := Tryz.sizeOf174
  v39 := Tryz.zeroValue174
  i39 := by kernel_rfl
  t44 := Tryz.underlying188
  a44 := Tryz.isAgg188
  z44 := Tryz.sizeOf188
  v44 := Tryz.zeroValue188
  i44 := by kernel_rfl
  t47 := Tryz.underlying194
  a47 := Tryz.isAgg194
  z47 := Tryz.sizeOf194
  v47 := Tryz.zeroValue194
  i47 := by kernel_rfl
  t48 := Tryz.underlying97
  a48 := Tryz.isAgg97
  z48 := Tryz.sizeOf97
  v48 := Tryz.zeroValue97
  i48 := by kernel_rfl
  t50 := Tryz.underlying99
  a50 := Tryz.isAgg99
  z50 := Tryz.sizeOf99
  v50 := Tryz.zeroValue99
  i50 := by kernel_rfl
  t52 := Tryz.underlying70
  a52 := Tryz.isAgg70
  z52 := Tryz.sizeOf70
  v52 := Tryz.zeroValue70
  i52 := by kernel_rfl
  t55 := Tryz.underlying74
  a55 := Tryz.isAgg74
  z55 := Tryz.sizeOf74
  v55 := Tryz.zeroValue74
  i55 := by kernel_rfl
  t59 := Tryz.underlying110
  a59 := Tryz.isAgg110
  z59 := Tryz.sizeOf110
  v59 := Tryz.zeroValue110
  i59 := by kernel_rfl
  t60 := Tryz.underlying91
  a60 := Tryz.isAgg91
  z60 := Tryz.sizeOf91
  v60 := Tryz.zeroValue91
  i60 := by kernel_rfl
  t61 := Tryz.underlying111
  a61 := Tryz.isAgg111
  z61 := Tryz.sizeOf111
  t65 := Tryz.underlying151
  a65 := Tryz.isAgg151
  z65 := Tryz.sizeOf151
  v65 := Tryz.zeroValue151
  i65 := by kernel_rfl
  t66 := Tryz.underlying152
  a66 := Tryz.isAgg152
  z66 := Tryz.sizeOf152
  v66 := Tryz.zeroValue152
  i66 := by kernel_rfl
  t67 := Tryz.underlying31
  a67 := Tryz.isAgg31
  z67 := Tryz.sizeOf31
  v67 := Tryz.zeroValue31
  i67 := by kernel_rfl
  g0 := by kernel_rfl
  m0 := by kernel_rfl
  g1 := by kernel_rfl
  m1 := by kernel_rfl
  g2 := by kernel_rfl
  m2 := by kernel_rfl
  g3 := by kernel_rfl
  m3 := by kernel_rfl
  g4 := by kernel_rfl
  m4 := by kernel_rfl }
open Go.RowKit in
/-- strconv.ParseUint(s, 10, 64), AT EVERY STRING THAT SPELLS A uint64 ('Lib.parseUintB 64 s.data.toList = .ok u'): u, AND NO ERROR. (LAID: no walk: one application.) -/
theorem Tryz.strconv_ParseUint_10_at64_ok (s : ByteArray) (hmax : s.size ≤ 9223372036854775806) (u : Nat) (h : Lib.parseUintB 64 s.data.toList = .ok u) (w : World) :
    Calls Tryz.prog 93 #[.string s, .int .i64 10, .int .i64 64] w fun e w' => e = .returned (.tuple #[.int .u64 u, .nilIface]) ∧ (w' = w ∨ w' = Lib.bytesWorld w 5 s) := Any.strconv_ParseUint_10_at64_ok Tryz.laysPu14 s hmax u h w
end Go.Proofs
end
section
set_option linter.unusedVariables false
set_option linter.unusedSimpArgs false
/- a number's decimal numeral -/
namespace Go.Proofs.YtflcanlniddgoaaGreatDoor.Sv
open Go Go.RowKit Rx Go.Sort Go.Lib
set_option maxRecDepth 100000
theorem u70 : Tryz.prog.underlying 70 = some (.array 24 5) := by kernel_rfl
theorem tB10 (u : Nat) (hu1 : 1 ≤ u) (hu64 : u < 18446744073709551616) (hnd : Lib.nDigits u ≤ 20) (w : World) :
    Calls Tryz.prog 50 #[.slice (some ⟨w.heap.size, 0, none⟩) (Lib.nDigits u) 24, .int .u64 u] (w.alloc (.cells Lib.zeros24 70)) fun e w2 => e = .returned (.tuple #[]) ∧ RowKit.Below w.heap.size w w2 ∧
      (convert 73 9 (.slice (some ⟨w.heap.size, 0, none⟩) (Lib.nDigits u) 24)).run Tryz.prog w2 = .ok (.string (bytesOf (Lib.decDigits u))) w2 := by
  have hH0 := Lib.holds_zero0 w 70 (Lib.nDigits u) (by omega)
  have hfmt := Tryz.internal_strconv_formatBase10 w.heap.size 0 24 u (Array.replicate (Lib.nDigits u) 0) (w.alloc (.cells Lib.zeros24 70)) hH0 (by rw [Array.size_replicate]; exact Lib.lt_pow_nDigits u) hu64 (by rw [Array.size_replicate]; omega)
  rw [Array.size_replicate] at hfmt
  refine hfmt.mono ?_
  rintro e w' ⟨rfl, k, v', dk, rfl, hF⟩
  refine ⟨rfl, ?_, ?_⟩
  · obtain ⟨os, e⟩ := Lib.fin_at w (.cells Lib.zeros24 70) dk k 0
    rw [e]
    exact Lib.below_grow _ w (Nat.le_refl _) k os
  · have h := run_convert_bytes_back (P := Tryz.prog) ((putRow (fun (b : UInt8) => Value.int .u8 (b.toNat : Int)) (w.alloc (.cells Lib.zeros24 70)) w.heap.size 0 dk).drewN k) 73 9 5 ⟨w.heap.size, 0, none⟩ 24 (Lib.decDigits u) Tryz.underlying73 Tryz.underlying5 Tryz.underlying9 (fun j hj => by
      rw [Lib.row_is_numeral hF j hj, Lib.add_plain, World.cell?_drewN]
      exact cell?_putRow (fun (b : UInt8) => Value.int .u8 (b.toNat : Int)) _ w.heap.size 0 _ dk hH0 (by rw [hF.size, Array.size_replicate]) j (by rw [hF.size]; rw [Lib.decDigits_length] at hj; exact hj))
    rw [Lib.decDigits_length] at h
    exact h
set_option maxHeartbeats 2000000 in
theorem tFmt (u : Nat) (hu64 : u < 18446744073709551616) (w : World) (htab : Lib.TabIs Tryz.prog w "internal/strconv.uint64pow10" .u64 Lib.pow10Tab) :
    Calls Tryz.prog 24 #[.int .u64 u, .int .i64 10] w fun e w' => e = .returned (.string (bytesOf (Lib.decDigits u))) ∧ RowKit.Below w.heap.size w w' := by
  by_cases hs : u < 100
  · have k1 : (u : Int) < 100 := by omega
    go_enter Tryz.func24, Tryz.ntmps24
    go_wp2_with (first
      | (go_at_call 48; refine (Tryz.internal_strconv_small u hs _).mono ?_; rintro e w' ⟨rfl, rfl⟩)
      | go_in)
    go_ret
    exact ⟨rfl, RowKit.Below.refl _ _⟩
  · have k1 : ¬ (u : Int) < 100 := by omega
    have hu1 : 1 ≤ u := by omega
    have hnd20 : Lib.nDigits u ≤ 20 := by have := Lib.numDigits_eq u hu1 hu64; split at this <;> omega
    have k2 : (Lib.nDigits u : Int) ≤ 20 := by omega
    have k3 : (Lib.nDigits u : Int) ≤ 24 := by omega
    have H := Lib.hid (tB10 u hu1 hu64 hnd20 w)
    go_enter Tryz.func24, Tryz.ntmps24
    go_wp2_with (first
      | (go_at_call 49; refine (Tryz.internal_strconv_numDigits u hu1 hu64 _ (Lib.tabIs_alloc htab _)).mono ?_; rintro e w' ⟨rfl, rfl⟩)
      | (go_at_call 50; refine H.out.mono ?_; rintro e w2 ⟨rfl, hb, hcv⟩; have HB := Lib.hid hb; clear hb)
      | go_in)
    go_ret
    exact ⟨rfl, HB.out⟩
/-- a number is read -/
theorem tParse (u : Nat) (t : Bs) (ht : Lib.parseUintB 64 t = .ok u) (hl : t.length ≤ 1000) (w : World) :
    Calls Tryz.prog 93 #[.string (bytesOf t), .int .i64 10, .int .i64 64] w fun e w' => e = .returned (.tuple #[.int .u64 u, .nilIface]) ∧ RowKit.Below w.heap.size w w' := by
  refine (Tryz.strconv_ParseUint_10_at64_ok (bytesOf t) (by rw [bytesOf_size]; omega) u ht w).mono ?_
  rintro e w' ⟨rfl, h⟩
  refine ⟨rfl, ?_⟩
  rcases h with rfl | rfl
  · exact RowKit.Below.refl _ _
  · exact Go.Joins.below_bytesWorld _ w 5 _ (Nat.le_refl _)
theorem parseM_app (M : Nat) : ∀ (l : List UInt8) (acc u d : Nat), Lib.parseUintM M acc l = .ok u → d < 10 → u < 1844674407370955162 → u * 10 + d ≤ M → Lib.parseUintM M acc (l ++ [UInt8.ofNat (48 + d)]) = .ok (u * 10 + d)
  | [], acc, u, d, h, hd, hu, hM => by
    simp only [Lib.parseUintM] at h
    injection h with h
    subst h
    have e : (UInt8.ofNat (48 + d)).toNat = 48 + d := by simp; omega
    simp only [List.nil_append, Lib.parseUintM, e]
    rw [if_pos (by omega), if_neg (by omega), if_neg (by omega)]
    congr 1; omega
  | c :: l, acc, u, d, h, hd, hu, hM => by
    simp only [List.cons_append, Lib.parseUintM] at h ⊢
    split at h
    · rename_i hc
      rw [if_pos hc]
      split at h
      · cases h
      · rename_i h1
        rw [if_neg h1]
        split at h
        · cases h
        · rename_i h2
          rw [if_neg h2]
          exact parseM_app M l _ u d h hd hu hM
    · cases h
theorem decDigits_ne (u : Nat) : Lib.decDigits u ≠ [] := by
  rw [Lib.decDigits]
  split <;> simp
theorem parse_dec : ∀ (n u : Nat), u ≤ n → u < 18446744073709551616 → Lib.parseUintM 18446744073709551615 0 (Lib.decDigits u) = .ok u
  | 0, u, hn, hu => by
    have : u = 0 := by omega
    subst this
    rw [Lib.decDigits_one (by omega)]; rfl
  | n + 1, u, hn, hu => by
    by_cases h : u < 10
    · rw [Lib.decDigits_one h]
      have e : (UInt8.ofNat (48 + u)).toNat = 48 + u := by simp; omega
      simp only [Lib.parseUintM, e]
      rw [if_pos (by omega), if_neg (by omega), if_neg (by omega)]
      congr 1; omega
    · rw [Lib.decDigits, dif_neg h]
      have ih := parse_dec n (u / 10) (by omega) (by omega)
      have := parseM_app 18446744073709551615 _ 0 (u / 10) (u % 10) ih (by omega) (by omega) (by omega)
      rw [this]
      congr 1; omega
theorem parse_dec64 (u : Nat) (hu : u < 18446744073709551616) : Lib.parseUintB 64 (Lib.decDigits u) = .ok u := by
  unfold Lib.parseUintB
  rw [if_neg (decDigits_ne u)]
  exact parse_dec u u (Nat.le_refl _) hu
theorem decDigits_dB : ∀ (n u : Nat), u ≤ n → ∀ y ∈ Lib.decDigits u, dB y = true
  | 0, u, hn, y, hy => by
    have : u = 0 := by omega
    subst this
    rw [Lib.decDigits_one (by omega)] at hy
    have : y = 48 := by simpa using hy
    subst this; decide
  | n + 1, u, hn, y, hy => by
    have key : ∀ d, d < 10 → dB (UInt8.ofNat (48 + d)) = true := by decide
    by_cases h : u < 10
    · rw [Lib.decDigits_one h] at hy
      have : y = UInt8.ofNat (48 + u) := by simpa using hy
      subst this; exact key u h
    · rw [Lib.decDigits, dif_neg h] at hy
      rcases List.mem_append.1 hy with hy | hy
      · exact decDigits_dB n (u / 10) (by omega) y hy
      · have : y = UInt8.ofNat (48 + u % 10) := by simpa using hy
        subst this; exact key _ (by omega)
theorem nDigits_le (u : Nat) (hu : u < 18446744073709551616) : (Lib.decDigits u).length ≤ 20 := by
  rw [Lib.decDigits_length]
  by_cases h : u = 0
  · subst h; rw [Lib.nDigits]; decide
  · have := Lib.numDigits_eq u (by omega) hu; split at this <;> omega
end Go.Proofs.YtflcanlniddgoaaGreatDoor.Sv
end
section
set_option linter.unusedVariables false
set_option linter.unusedSimpArgs false
/- a version is read loosely -/
namespace Go.Proofs.YtflcanlniddgoaaGreatDoor.Sv
open Go Go.RowKit Rx
set_option maxRecDepth 100000
theorem u52e : Tryz.prog.underlying 52 = some (.slice 9) := Tryz.underlying52
theorem q52 (w : World) (a : Option Addr) (n c : Nat) : (binOp .eql 52 (.slice a n c) (.slice none 0 0)).run Tryz.prog w = .ok (.bool a.isNone) w := Lib.run_eql_slice_nil w 52 9 a n c 0 0 Tryz.underlying52
/-- a piece in memory -/
theorem piece_cell {w' : World} {b k : Nat} {f : Nat → ByteArray} (h : w'.heap[b]? = some (.cells (strs ((List.range k).map f)) 9 (0, 0))) (i : Nat) (hi : i < k) : w'.cell? ⟨b, i, none⟩ = some (.string (f i)) := by
  rw [cell_of_row _ _ _ _ _ _ h]
  simp [strs, hi]
/-- a version under way: its block, the pieces, the world before -/
structure VAt (w : World) (V bp : Nat) (cs ps : Array Value) (W : World) : Prop where
  v : W.heap[V]? = some (.cells cs 33 (0, 0))
  p : W.heap[bp]? = some (.cells ps 9 (0, 0))
  b : Below w.heap.size w W
  h : w.heap.size ≤ V
theorem VAt.keep {w W W' : World} {V bp : Nat} {cs ps : Array Value} (h : VAt w V bp cs ps W) (hb : Below W.heap.size W W') : VAt w V bp cs ps W' :=
  ⟨(hb.block V (Array.getElem?_eq_some_iff.1 h.v).1).trans h.v, (hb.block bp (Array.getElem?_eq_some_iff.1 h.p).1).trans h.p, h.b.trans (hb.mono h.b.size), h.h⟩
theorem VAt.store {w W : World} {V bp : Nat} {cs ps : Array Value} (h : VAt w V bp cs ps W) (i : Nat) (v : Value) : VAt w V bp (cs.setIfInBounds i v) ps (W.setCell ⟨V, i, none⟩ v) :=
  ⟨heap_setCell_same W V i cs 33 v h.v, (heap_setCell_other _ _ _ _ (typ_ne h.p h.v (by decide))).trans h.p, h.b.setCell (p := ⟨V, i, none⟩) h.h _, h.h⟩
theorem VAt.cell {w W : World} {V bp : Nat} {cs ps : Array Value} (h : VAt w V bp cs ps W) (i : Nat) (v : Value) (hv : cs[i]? = some v) : W.cell? ⟨V, i, none⟩ = some v := by rw [cell_of_row _ _ _ _ _ _ h.v, hv]
theorem VAt.piece {w W : World} {V bp : Nat} {cs ps : Array Value} (h : VAt w V bp cs ps W) (i : Nat) (v : Value) (hv : ps[i]? = some v) : W.cell? ⟨bp, i, none⟩ = some v := by rw [cell_of_row _ _ _ _ _ _ h.p, hv]
theorem VAt.fz {w W : World} {V bp : Nat} {cs ps : Array Value} (h : VAt w V bp cs ps W) (i : Nat) : W.frozen? ⟨V, i, none⟩ = false := frozen_of_row _ _ _ _ _ h.v
set_option maxHeartbeats 4000000 in
theorem tCoerce3 (x : Ver) (hx : x.Ok dB iB) (r2 r3 : Bs) (h2 : x.p2 = some r2) (h3 : x.p3 = some r3) (hpre : x.pre = none) (hmeta : x.meta_ = none) (a b c : Nat) (ha : Lib.parseUintB 64 x.p1 = .ok a) (hb : Lib.parseUintB 64 r2 = .ok b) (hc : Lib.parseUintB 64 r3 = .ok c)
    (hl : x.text.length ≤ 256) (w : World) (hT : Lib.Utf8Tabs 14 15 w) :
    Calls Tryz.prog 87 #[.string (bytesOf x.text)] w fun e w' => ∃ V, e = .returned (.tuple #[.pointer (some ⟨V, 0, none⟩), .nilIface]) ∧ w.heap.size ≤ V ∧ w'.heap[V]? = some (.cells #[.int .u64 a, .int .u64 b, .int .u64 c, .string ⟨#[]⟩, .string ⟨#[]⟩, .string (bytesOf x.text)] 33 (0, 0)) ∧ Below w.heap.size w w' := by
  have hlen : x.p1.length + (r2.length + 1 + (r3.length + 1)) ≤ x.text.length := by
    rw [Ver.text, h2, h3]; simp [ptext]; omega
  have H61 := Lib.hid (fun (w : World) (R PB IB icap : Nat) (hp : PG w R PB IB icap looseT) (hr : RH w R PB 4 1 20 1 9) (hT : Lib.Utf8Tabs 14 15 w) => looseM (s := bytesOf x.text) hp hr hT (by rw [bytesOf_size]; omega) hx rfl)
  have HA := Lib.hid (fun w => tParse a x.p1 ha (by omega) w)
  have HB := Lib.hid (fun w => tParse b r2 hb (by omega) w)
  have HC := Lib.hid (fun w => tParse c r3 hc (by omega) w)
  have HT := Lib.hid hT
  have HTa := Lib.hid (fun w => tTrimDot (46 :: r2) (.inr ⟨_, rfl⟩) (by simp; omega) w)
  have HTb := Lib.hid (fun w => tTrimDot (46 :: r3) (.inr ⟨_, rfl⟩) (by simp; omega) w)
  have q := q52
  rw [h2, h3, hpre, hmeta] at H61
  clear hx h2 h3 hpre hmeta ha hb hc hT hlen hl
  generalize bytesOf x.text = s at *
  generalize x.p1 = r1 at *
  go_enter Tryz.func87, Tryz.ntmps87
  go_wp2_with (first
    | (go_at_call 107; refine (t107 w).mono ?_; rintro e w1 ⟨R, PB, IB, icap, rfl, hp, hr, hb⟩; have HP := Lib.hid (And.intro hp (And.intro hr (And.intro (Utf8Tabs_below HT.out hb) hb))); clear hp hr hb)
    | (go_at_call 61; refine (H61.out _ _ _ _ _ HP.out.1 HP.out.2.1 HP.out.2.2.1).mono ?_; rintro e w2 ⟨hb2, f, ⟨bp, rfl, h1, h2⟩, e1, e2, e3, e5, e8⟩; have c1 := piece_cell h2 1 (by decide); have c2 := piece_cell h2 2 (by decide); have c3 := piece_cell h2 3 (by decide); have c5 := piece_cell h2 5 (by decide); have c8 := piece_cell h2 8 (by decide); rw [e1] at c1; rw [e2] at c2; rw [e3] at c3; rw [e5] at c5; rw [e8] at c8; have HB2 := Lib.hid (And.intro h1 (And.intro h2 (HP.out.2.2.2.trans (hb2.mono HP.out.2.2.2.size)))); clear hb2 h1 h2 e1 e2 e3 e5 e8))
  simp only [gpre] at *
  go_region
  have hst : VAt w w2.heap.size bp #[.int .u64 0, .int .u64 0, .int .u64 0, .string ⟨#[]⟩, .string ⟨#[]⟩, .string s] (strs ((List.range 10).map f)) ((w2.alloc (.cells #[.int .u64 0, .int .u64 0, .int .u64 0, .string (bytesOf []), .string (bytesOf []), .string s] 33)).drew) := by
    obtain ⟨k1, k2, k3⟩ := HB2.out
    refine ⟨heap_alloc_new w2 _, (Below.heap_alloc w2 _ bp (Array.getElem?_eq_some_iff.1 k2).1).trans k2, (k3.alloc k3.size _).drew, k3.size⟩
  have e1 : (strs ((List.range 10).map f))[1]? = some (.string (bytesOf r1)) := by rw [← c1, cell_of_row _ _ _ _ _ _ HB2.out.2.1]
  have e2 : (strs ((List.range 10).map f))[2]? = some (.string (bytesOf (ptext (some r2)))) := by rw [← c2, cell_of_row _ _ _ _ _ _ HB2.out.2.1]
  have e3 : (strs ((List.range 10).map f))[3]? = some (.string (bytesOf (ptext (some r3)))) := by rw [← c3, cell_of_row _ _ _ _ _ _ HB2.out.2.1]
  have HE := Lib.hid (And.intro e1 (And.intro e2 e3))
  clear c1 c2 c3 c5 c8 e1 e2 e3
  generalize (w2.alloc (.cells #[.int .u64 0, .int .u64 0, .int .u64 0, .string (bytesOf []), .string (bytesOf []), .string s] 33)).drew = W3 at *
  generalize strs ((List.range 10).map f) = ps at *
  generalize w2.heap.size = V at *
  have HS := Lib.hid hst
  have c1 := hst.piece 1 _ HE.out.1
  clear hst
  go_upto_region 9 with (first
    | (go_at_call 93; refine (HA.out _).mono ?_; rintro e w4 ⟨rfl, hb4⟩; have hst4 := HS.out.keep hb4; have HS4 := Lib.hid hst4; have v0 := hst4.cell 0 _ rfl; have fz0 := hst4.fz 0; clear hb4 hst4)
    | go_in)
  have HS := Lib.hid (HS4.out.store 0 (.int .u64 a))
  clear HS4 v0 fz0 c1
  generalize w4.setCell ⟨V, 0, none⟩ (.int .u64 a) = W5 at *
  have c1 := HS.out.piece 2 _ HE.out.2.1
  simp only [ptext] at c1
  have n1 := bytesOf_toList (46 :: r2)
  go_upto_region 14 with (first
    | (go_at_call 63; refine (HTa.out _).mono ?_; rintro e w6 ⟨rfl, hw⟩; subst hw; rw [show (46 :: r2 : Bs).tail = r2 from rfl])
    | (go_at_call 93; refine (HB.out _).mono ?_; rintro e w4 ⟨rfl, hb4⟩; have hst4 := HS.out.keep hb4; have HS4 := Lib.hid hst4; have v0 := hst4.cell 1 _ rfl; have fz0 := hst4.fz 1; clear hb4 hst4)
    | go_in)
  have HS := Lib.hid (HS4.out.store 1 (.int .u64 b))
  clear HS4 v0 fz0 c1 n1
  generalize w4.setCell ⟨V, 1, none⟩ (.int .u64 b) = W6 at *
  have c1 := HS.out.piece 3 _ HE.out.2.2
  simp only [ptext] at c1
  have n1 := bytesOf_toList (46 :: r3)
  go_upto_region 19 with (first
    | (go_at_call 63; refine (HTb.out _).mono ?_; rintro e w6 ⟨rfl, hw⟩; subst hw; rw [show (46 :: r3 : Bs).tail = r3 from rfl])
    | (go_at_call 93; refine (HC.out _).mono ?_; rintro e w4 ⟨rfl, hb4⟩; have hst4 := HS.out.keep hb4; have HS4 := Lib.hid hst4; have v0 := hst4.cell 2 _ rfl; have fz0 := hst4.fz 2; clear hb4 hst4)
    | go_in)
  have HS := Lib.hid (HS4.out.store 2 (.int .u64 c))
  clear HS4 v0 fz0 c1 n1
  generalize w4.setCell ⟨V, 2, none⟩ (.int .u64 c) = W7 at *
  have v3 := HS.out.cell 3 _ rfl
  have v4 := HS.out.cell 4 _ rfl
  go_wp2_with go_in
  go_ret2
  exact ⟨V, rfl, HS.out.h, HS.out.v, HS.out.b⟩
/-- a version that was read -/
def VerAt (W : World) (V : Nat) (a b c : Nat) (pre me orig : Bs) : Prop := W.heap[V]? = some (.cells #[.int .u64 a, .int .u64 b, .int .u64 c, .string (bytesOf pre), .string (bytesOf me), .string (bytesOf orig)] 33 (0, 0))
theorem tNewVer3 (x : Ver) (hx : x.Ok dB iB) (r2 r3 : Bs) (h2 : x.p2 = some r2) (h3 : x.p3 = some r3) (hpre : x.pre = none) (hmeta : x.meta_ = none) (a b c : Nat) (ha : Lib.parseUintB 64 x.p1 = .ok a) (hb : Lib.parseUintB 64 r2 = .ok b) (hc : Lib.parseUintB 64 r3 = .ok c)
    (hl : x.text.length ≤ 256) (w : World) (hT : Lib.Utf8Tabs 14 15 w) :
    Calls Tryz.prog 64 #[.string (bytesOf x.text)] w fun e w' => ∃ V, e = .returned (.tuple #[.pointer (some ⟨V, 0, none⟩), .nilIface]) ∧ w.heap.size ≤ V ∧ VerAt w' V a b c [] [] x.text ∧ Below w.heap.size w w' := by
  have H := Lib.hid (tCoerce3 x hx r2 r3 h2 h3 hpre hmeta a b c ha hb hc hl w hT)
  have k1 : ¬ (256 : Int) < ((bytesOf x.text).size : Int) := by rw [bytesOf_size]; omega
  clear hx h2 h3 hpre hmeta ha hb hc hl hT
  unfold VerAt
  generalize bytesOf x.text = s at *
  go_enter Tryz.func64, Tryz.ntmps64
  go_wp2_with (go_at_call 87; refine H.out.mono ?_; rintro e w1 ⟨V, rfl, h1, h2, h3⟩; have HV := Lib.hid (And.intro h1 (And.intro h2 h3)); clear h1 h2 h3)
  go_ret2
  exact ⟨V, rfl, HV.out⟩
end Go.Proofs.YtflcanlniddgoaaGreatDoor.Sv
end
section
set_option linter.unusedVariables false
set_option linter.unusedSimpArgs false
/- one term is read -/
namespace Go.Proofs.YtflcanlniddgoaaGreatDoor.Sv
open Go Go.RowKit Rx
set_option maxRecDepth 100000
structure CAt (w : World) (V bp : Nat) (cs ps : Array Value) (W : World) : Prop where
  v : W.heap[V]? = some (.cells cs 65 (0, 0))
  p : W.heap[bp]? = some (.cells ps 9 (0, 0))
  b : Below w.heap.size w W
  h : w.heap.size ≤ V
theorem CAt.keep {w W W' : World} {V bp : Nat} {cs ps : Array Value} (h : CAt w V bp cs ps W) (hb : Below W.heap.size W W') : CAt w V bp cs ps W' :=
  ⟨(hb.block V (Array.getElem?_eq_some_iff.1 h.v).1).trans h.v, (hb.block bp (Array.getElem?_eq_some_iff.1 h.p).1).trans h.p, h.b.trans (hb.mono h.b.size), h.h⟩
theorem CAt.store {w W : World} {V bp : Nat} {cs ps : Array Value} (h : CAt w V bp cs ps W) (i : Nat) (v : Value) : CAt w V bp (cs.setIfInBounds i v) ps (W.setCell ⟨V, i, none⟩ v) :=
  ⟨heap_setCell_same W V i cs 65 v h.v, (heap_setCell_other _ _ _ _ (typ_ne h.p h.v (by decide))).trans h.p, h.b.setCell (p := ⟨V, i, none⟩) h.h _, h.h⟩
theorem CAt.cell {w W : World} {V bp : Nat} {cs ps : Array Value} (h : CAt w V bp cs ps W) (i : Nat) (v : Value) (hv : cs[i]? = some v) : W.cell? ⟨V, i, none⟩ = some v := by rw [cell_of_row _ _ _ _ _ _ h.v, hv]
theorem CAt.piece {w W : World} {V bp : Nat} {cs ps : Array Value} (h : CAt w V bp cs ps W) (i : Nat) (v : Value) (hv : ps[i]? = some v) : W.cell? ⟨bp, i, none⟩ = some v := by rw [cell_of_row _ _ _ _ _ _ h.p, hv]
theorem CAt.fz {w W : World} {V bp : Nat} {cs ps : Array Value} (h : CAt w V bp cs ps W) (i : Nat) : W.frozen? ⟨V, i, none⟩ = false := frozen_of_row _ _ _ _ _ h.v
def isXb (t : Bs) : Bool := t == [120] || t == [42] || t == [88]
/-- a term that was read -/
def ConAt (W : World) (C : Nat) (V : Nat) (orig op : Bs) (md d pd : Bool) : Prop := W.heap[C]? = some (.cells #[.pointer (some ⟨V, 0, none⟩), .string (bytesOf orig), .string (bytesOf op), .bool md, .bool d, .bool pd] 65 (0, 0))
theorem tIsXb (t : Bs) (w : World) : Calls Tryz.prog 62 #[.string (bytesOf t)] w fun e w' => e = .returned (.bool (isXb t)) ∧ w' = w := by
  have := tIsX (bytesOf t) w
  rw [bytesOf_toList] at this
  exact this
/-- what reading a version's text does, with its digits -/
def Reads (yt : Bs) (a b c : Nat) (pre me : Bs) : Prop := ∀ w, Lib.Utf8Tabs 14 15 w → Calls Tryz.prog 64 #[.string (bytesOf yt)] w fun e w' => ∃ V, e = .returned (.tuple #[.pointer (some ⟨V, 0, none⟩), .nilIface]) ∧ w.heap.size ≤ V ∧ VerAt w' V a b c pre me yt ∧ Below w.heap.size w w'
set_option maxHeartbeats 4000000 in
theorem t44full (x : Tm) {L RR : Bs} {s : ByteArray} (hs : s.size ≤ 1000) (hx : x.Ok) (ht : s.data.toList = L ++ (x.text ++ RR)) (hL : ∀ y ∈ L, ws y = true) (hR : ∀ y ∈ RR, ws y = true) (h0 : x.op = [] → x.blank = [])
    (r2 r3 : Bs) (h2 : x.ver.p2 = some r2) (h3 : x.ver.p3 = some r3) (x1 : isXb x.ver.p1 = false) (x2 : isXb r2 = false) (x3 : isXb r3 = false) (a b c : Nat) (pre me : Bs) (hv : Reads x.ver.text a b c pre me) (w : World) (hT : Lib.Utf8Tabs 14 15 w) :
    Calls Tryz.prog 44 #[.string s] w fun e w' => ∃ C V, e = .returned (.tuple #[.pointer (some ⟨C, 0, none⟩), .nilIface]) ∧ w.heap.size ≤ C ∧ w.heap.size ≤ V ∧ ConAt w' C V x.ver.text x.op false false false ∧ VerAt w' V a b c pre me x.ver.text ∧ Below w.heap.size w w' := by
  have hsz : L.length + (x.text.length + RR.length) = s.size := by rw [← list_size, ht]; simp
  have hxp := tm_pos hx
  have hlen : x.ver.p1.length + (r2.length + 1 + (r3.length + 1)) ≤ x.text.length := by
    rw [Tm.text, Ver.text, h2, h3]; simp [ptext]; omega
  have hp1 : (bytesOf x.ver.p1).toList.isEmpty = false := by
    rw [bytesOf_toList]
    have := hx.ver.p1.1
    cases h : x.ver.p1 with
    | nil => exact absurd h this
    | cons y l => rfl
  have k0 : (0 : Int) < (s.size : Int) := by omega
  have H61 := Lib.hid (fun (w : World) (R PB IB icap : Nat) (hp : PG w R PB IB icap conT) (hr : RH w R PB 4 1 24 1 11) (hT : Lib.Utf8Tabs 14 15 w) => conM (s := s) hp hr hT hs hx ht hL hR h0)
  have HT := Lib.hid hT
  have HTa := Lib.hid (fun w => tTrimDot (46 :: r2) (.inr ⟨_, rfl⟩) (by simp; omega) w)
  have HTb := Lib.hid (fun w => tTrimDot (46 :: r3) (.inr ⟨_, rfl⟩) (by simp; omega) w)
  have HX1 := Lib.hid (fun w => tIsXb x.ver.p1 w)
  have HX2 := Lib.hid (fun w => tIsXb r2 w)
  have HX3 := Lib.hid (fun w => tIsXb r3 w)
  have HV := Lib.hid hv
  have q := q52
  have n2 := bytesOf_toList (46 :: r2)
  have n3 := bytesOf_toList (46 :: r3)
  rw [h2, h3] at H61
  rw [x1] at HX1
  rw [x2] at HX2
  rw [x3] at HX3
  clear hx ht hL hR h0 h2 h3 x1 x2 x3 hv hT hsz hxp hlen hs
  simp only [ptext] at H61
  generalize x.ver.text = yt at *
  generalize x.ver.p1 = r1 at *
  generalize x.op = op at *
  generalize gtext 45 x.ver.pre = g6 at *
  go_enter Tryz.func44, Tryz.ntmps44
  go_wp2_with (first
    | (go_at_call 60; refine (t60 w).mono ?_; rintro e w1 ⟨R, PB, IB, icap, rfl, hp, hr, hb⟩; have HP := Lib.hid (And.intro hp (And.intro hr (And.intro (Utf8Tabs_below HT.out hb) hb))); clear hp hr hb)
    | (go_at_call 61; refine (H61.out _ _ _ _ _ HP.out.1 HP.out.2.1 HP.out.2.2.1).mono ?_; rintro e w2 ⟨hb2, f, ⟨bp, rfl, h1, h2⟩, e1, e2, e3, e4, e5, e6⟩; have c1 := piece_cell h2 1 (by decide); have c2 := piece_cell h2 2 (by decide); have c3 := piece_cell h2 3 (by decide); have c4 := piece_cell h2 4 (by decide); have c5 := piece_cell h2 5 (by decide); have c6 := piece_cell h2 6 (by decide); rw [e1] at c1; rw [e2] at c2; rw [e3] at c3; rw [e4] at c4; rw [e5] at c5; rw [e6] at c6; have HB2 := Lib.hid (And.intro h1 (And.intro h2 (HP.out.2.2.2.trans (hb2.mono HP.out.2.2.2.size)))); clear hb2 h1 h2 e1 e2 e3 e4 e5 e6))
  go_region
  have hst : CAt w w2.heap.size bp #[.pointer none, .string (bytesOf yt), .string (bytesOf op), .bool false, .bool false, .bool false] (strs ((List.range 12).map f)) ((w2.alloc (.cells #[.pointer none, .string (bytesOf yt), .string (bytesOf op), .bool false, .bool false, .bool false] 65)).drew) := by
    obtain ⟨k1, k2, k3⟩ := HB2.out
    exact ⟨heap_alloc_new w2 _, (Below.heap_alloc w2 _ bp (Array.getElem?_eq_some_iff.1 k2).1).trans k2, (k3.alloc k3.size _).drew, k3.size⟩
  have e2 : (strs ((List.range 12).map f))[2]? = some (.string (bytesOf yt)) := by rw [← c2, cell_of_row _ _ _ _ _ _ HB2.out.2.1]
  have e3 : (strs ((List.range 12).map f))[3]? = some (.string (bytesOf r1)) := by rw [← c3, cell_of_row _ _ _ _ _ _ HB2.out.2.1]
  have e4 : (strs ((List.range 12).map f))[4]? = some (.string (bytesOf (46 :: r2))) := by rw [← c4, cell_of_row _ _ _ _ _ _ HB2.out.2.1]
  have e5 : (strs ((List.range 12).map f))[5]? = some (.string (bytesOf (46 :: r3))) := by rw [← c5, cell_of_row _ _ _ _ _ _ HB2.out.2.1]
  clear c1 c2 c3 c4 c5 c6
  generalize (w2.alloc (.cells #[.pointer none, .string (bytesOf yt), .string (bytesOf op), .bool false, .bool false, .bool false] 65)).drew = W3 at *
  generalize strs ((List.range 12).map f) = ps at *
  generalize w2.heap.size = C at *
  have HS := Lib.hid hst
  have c2 := hst.piece 2 _ e2
  have c3 := hst.piece 3 _ e3
  have c4 := hst.piece 4 _ e4
  have c5 := hst.piece 5 _ e5
  clear hst e2 e3 e4 e5
  go_upto_region 21 with (first
    | (go_at_call 62; first | (refine (HX1.out _).mono ?_; rintro e w6 ⟨rfl, hw⟩; subst hw) | (refine (HX2.out _).mono ?_; rintro e w6 ⟨rfl, hw⟩; subst hw) | (refine (HX3.out _).mono ?_; rintro e w6 ⟨rfl, hw⟩; subst hw))
    | (go_at_call 63; first | (refine (HTa.out _).mono ?_; rintro e w6 ⟨rfl, hw⟩; subst hw; rw [show (46 :: r2 : Bs).tail = r2 from rfl]) | (refine (HTb.out _).mono ?_; rintro e w6 ⟨rfl, hw⟩; subst hw; rw [show (46 :: r3 : Bs).tail = r3 from rfl]))
    | go_in)
  clear c2 c3 c4 c5 n2 n3 k0
  have HU := Lib.hid (Utf8Tabs_below HT.out HS.out.b)
  go_wp2_with (go_at_call 64; refine (HV.out _ HU.out).mono ?_; rintro e w7 ⟨V, rfl, hVs, hVa, hb7⟩; have hst4 := HS.out.keep hb7; have HS4 := Lib.hid hst4; have HW := Lib.hid (And.intro hVs hVa); have v0 := hst4.cell 0 _ rfl; have v3 := hst4.cell 3 _ rfl; have v4 := hst4.cell 4 _ rfl; have v5 := hst4.cell 5 _ rfl; have z0 := hst4.fz 0; have z3 := hst4.fz 3; have z4 := hst4.fz 4; have z5 := hst4.fz 5; clear hb7 hst4 hVs hVa)
  go_ret2
  have hfin := (((HS4.out.store 0 (.pointer (some ⟨V, 0, none⟩))).store 3 (.bool false)).store 5 (.bool false)).store 4 (.bool false)
  have hne : V ≠ C := typ_ne HW.out.2 HS4.out.v (by decide)
  refine ⟨C, V, rfl, hfin.h, Nat.le_trans HS.out.b.size HW.out.1, hfin.v, ?_, hfin.b⟩
  unfold VerAt
  rw [heap_setCell_other _ _ _ _ hne, heap_setCell_other _ _ _ _ hne, heap_setCell_other _ _ _ _ hne, heap_setCell_other _ _ _ _ hne]
  exact HW.out.2
end Go.Proofs.YtflcanlniddgoaaGreatDoor.Sv
end
section
set_option linter.unusedVariables false
set_option linter.unusedSimpArgs false
/- terms, lists of terms, in memory -/
namespace Go.Proofs.YtflcanlniddgoaaGreatDoor.Sv
open Go Go.RowKit Rx
set_option maxRecDepth 100000
structure TD where
  op : Bs
  orig : Bs
  md : Bool
  d : Bool
  pd : Bool
  a : Nat
  b : Nat
  c : Nat
  pre : Bs
  me : Bs
  vt : Bs
def TDAt (W : World) (C : Nat) (t : TD) : Prop := ∃ V, ConAt W C V t.orig t.op t.md t.d t.pd ∧ VerAt W V t.a t.b t.c t.pre t.me t.vt
/-- all but one block is as it was -/
def Kp (X : Nat) (W W' : World) : Prop := ∀ k, k < W.heap.size → k ≠ X → W'.heap[k]? = W.heap[k]?
theorem Kp.of (X : Nat) {W W' : World} (h : Below W.heap.size W W') : Kp X W W' := fun k hk _ => h.block k hk
theorem Kp.setCell (X i : Nat) (W : World) (v : Value) : Kp X W (W.setCell ⟨X, i, none⟩ v) := fun k _ hn => heap_setCell_other _ _ _ _ hn
/-- the block that may turn holds neither a term nor a version -/
def Free (X : Nat) (W : World) : Prop := ∀ cs t f, W.heap[X]? = some (.cells cs t f) → t ≠ 65 ∧ t ≠ 33
theorem TDAt.kp {W W' : World} {C X : Nat} {t : TD} (h : TDAt W C t) (hk : Kp X W W') (hf : Free X W) : TDAt W' C t := by
  obtain ⟨V, h1, h2⟩ := h
  have n1 : C ≠ X := fun e => by subst e; exact (hf _ _ _ h1).1 rfl
  have n2 : V ≠ X := fun e => by subst e; exact (hf _ _ _ h2).2 rfl
  exact ⟨V, (hk C (Array.getElem?_eq_some_iff.1 h1).1 n1).trans h1, (hk V (Array.getElem?_eq_some_iff.1 h2).1 n2).trans h2⟩
theorem TDAt.keep {W W' : World} {C : Nat} {t : TD} (h : TDAt W C t) (hb : Below W.heap.size W W') : TDAt W' C t := by
  obtain ⟨V, h1, h2⟩ := h
  exact ⟨V, (hb.block C (Array.getElem?_eq_some_iff.1 h1).1).trans h1, (hb.block V (Array.getElem?_eq_some_iff.1 h2).1).trans h2⟩
def ptr (C : Nat) : Value := .pointer (some ⟨C, 0, none⟩)
/-- the terms stand at these places -/
def TDs (W : World) : List Nat → List TD → Prop
  | [], [] => True
  | C :: Cs, t :: ts => TDAt W C t ∧ TDs W Cs ts
  | _, _ => False
theorem TDs.length {W : World} : ∀ {Cs : List Nat} {ts : List TD}, TDs W Cs ts → Cs.length = ts.length
  | [], [], _ => rfl
  | C :: Cs, t :: ts, h => by simp [TDs.length h.2]
  | [], _ :: _, h => h.elim
  | _ :: _, [], h => h.elim
theorem TDs.kp {W W' : World} {X : Nat} (hk : Kp X W W') (hf : Free X W) : ∀ {Cs : List Nat} {ts : List TD}, TDs W Cs ts → TDs W' Cs ts
  | [], [], _ => trivial
  | C :: Cs, t :: ts, h => ⟨h.1.kp hk hf, TDs.kp hk hf h.2⟩
  | [], _ :: _, h => h.elim
  | _ :: _, [], h => h.elim
theorem TDs.keep {W W' : World} (hb : Below W.heap.size W W') : ∀ {Cs : List Nat} {ts : List TD}, TDs W Cs ts → TDs W' Cs ts
  | [], [], _ => trivial
  | C :: Cs, t :: ts, h => ⟨h.1.keep hb, TDs.keep hb h.2⟩
  | [], _ :: _, h => h.elim
  | _ :: _, [], h => h.elim
theorem TDs.snoc {W : World} {C : Nat} {t : TD} (h : TDAt W C t) : ∀ {Cs : List Nat} {ts : List TD}, TDs W Cs ts → TDs W (Cs ++ [C]) (ts ++ [t])
  | [], [], _ => ⟨h, trivial⟩
  | D :: Cs, u :: ts, g => ⟨g.1, TDs.snoc h g.2⟩
  | [], _ :: _, g => g.elim
  | _ :: _, [], g => g.elim
theorem TDs.get {W : World} : ∀ {Cs : List Nat} {ts : List TD} {i : Nat} {t : TD}, TDs W Cs ts → ts[i]? = some t → ∃ C, Cs[i]? = some C ∧ TDAt W C t
  | [], [], i, t, _, h => by simp at h
  | C :: Cs, u :: ts, 0, t, g, h => by simp at h; subst h; exact ⟨C, rfl, g.1⟩
  | C :: Cs, u :: ts, i + 1, t, g, h => by simpa using TDs.get g.2 (by simpa using h)
  | [], _ :: _, _, _, g, _ => g.elim
  | _ :: _, [], _, _, g, _ => g.elim
/-- a row of pointers, the rest of it nil -/
def ptrRow (Cs : List Nat) (n : Nat) : Array Value := (Cs.map ptr ++ List.replicate (n - Cs.length) (Value.pointer none)).toArray
/-- a row that grows from the left: a cell is written -/
theorem fill_step (l : List Value) (n : Nat) (v z : Value) (h : l.length < n) : ((l ++ List.replicate (n - l.length) z).toArray.setIfInBounds l.length v) = ((l ++ [v]) ++ List.replicate (n - (l ++ [v]).length) z).toArray := by
  obtain ⟨m, hm⟩ : ∃ m, n - l.length = m + 1 := ⟨n - l.length - 1, by omega⟩
  have e : n - (l ++ [v]).length = m := by simp; omega
  rw [hm, e, List.replicate_succ]
  apply Array.toList_inj.1
  simp
theorem ptrRow_step (Cs : List Nat) (n C : Nat) (h : Cs.length < n) : (ptrRow Cs n).setIfInBounds Cs.length (ptr C) = ptrRow (Cs ++ [C]) n := by
  have := fill_step (Cs.map ptr) n (ptr C) (.pointer none) (by simpa using h)
  simpa [ptrRow] using this
/-- a list of terms in memory -/
def RowAt (W : World) (X : Nat) (ts : List TD) : Prop := ∃ Cs, W.heap[X]? = some (.cells (ptrRow Cs ts.length) 61 (0, 0)) ∧ TDs W Cs ts
theorem RowAt.kp {W W' : World} {R X : Nat} {ts : List TD} (h : RowAt W R ts) (hk : Kp X W W') (hf : Free X W) (hn : R ≠ X) : RowAt W' R ts := by
  obtain ⟨Cs, h1, h2⟩ := h
  exact ⟨Cs, (hk R (Array.getElem?_eq_some_iff.1 h1).1 hn).trans h1, h2.kp hk hf⟩
theorem RowAt.keep {W W' : World} {R : Nat} {ts : List TD} (h : RowAt W R ts) (hb : Below W.heap.size W W') : RowAt W' R ts := by
  obtain ⟨Cs, h1, h2⟩ := h
  exact ⟨Cs, (hb.block R (Array.getElem?_eq_some_iff.1 h1).1).trans h1, h2.keep hb⟩
def Rows (W : World) : List Nat → List (List TD) → Prop
  | [], [] => True
  | X :: Xs, ts :: gs => RowAt W X ts ∧ Rows W Xs gs
  | _, _ => False
theorem Rows.length {W : World} : ∀ {Xs : List Nat} {gs : List (List TD)}, Rows W Xs gs → Xs.length = gs.length
  | [], [], _ => rfl
  | _ :: Xs, _ :: gs, h => by simp [Rows.length h.2]
  | [], _ :: _, h => h.elim
  | _ :: _, [], h => h.elim
theorem Rows.kp {W W' : World} {X : Nat} (hk : Kp X W W') (hf : Free X W) : ∀ {Xs : List Nat} {gs : List (List TD)}, Rows W Xs gs → X ∉ Xs → Rows W' Xs gs
  | [], [], _, _ => trivial
  | R :: Xs, t :: gs, h, hn => ⟨h.1.kp hk hf (fun e => hn (by simp [e])), Rows.kp hk hf h.2 (fun e => hn (by simp [e]))⟩
  | [], _ :: _, h, _ => h.elim
  | _ :: _, [], h, _ => h.elim
theorem Rows.keep {W W' : World} (hb : Below W.heap.size W W') : ∀ {Xs : List Nat} {gs : List (List TD)}, Rows W Xs gs → Rows W' Xs gs
  | [], [], _ => trivial
  | R :: Xs, t :: gs, h => ⟨h.1.keep hb, Rows.keep hb h.2⟩
  | [], _ :: _, h => h.elim
  | _ :: _, [], h => h.elim
theorem Rows.snoc {W : World} {X : Nat} {ts : List TD} (h : RowAt W X ts) : ∀ {Xs : List Nat} {gs : List (List TD)}, Rows W Xs gs → Rows W (Xs ++ [X]) (gs ++ [ts])
  | [], [], _ => ⟨h, trivial⟩
  | _ :: Xs, _ :: gs, g => ⟨g.1, Rows.snoc h g.2⟩
  | [], _ :: _, g => g.elim
  | _ :: _, [], g => g.elim
theorem Rows.get {W : World} : ∀ {Xs : List Nat} {gs : List (List TD)} {i : Nat} {ts : List TD}, Rows W Xs gs → gs[i]? = some ts → ∃ X, Xs[i]? = some X ∧ RowAt W X ts
  | [], [], i, t, _, h => by simp at h
  | X :: Xs, u :: gs, 0, t, g, h => by simp at h; subst h; exact ⟨X, rfl, g.1⟩
  | X :: Xs, u :: gs, i + 1, t, g, h => by simpa using Rows.get g.2 (by simpa using h)
  | [], _ :: _, _, _, g, _ => g.elim
  | _ :: _, [], _, _, g, _ => g.elim
theorem Rows.mem_lt {W : World} : ∀ {Xs : List Nat} {gs : List (List TD)}, Rows W Xs gs → ∀ X ∈ Xs, ∃ cs, W.heap[X]? = some (.cells cs 61 (0, 0))
  | [], [], _, X, h => by cases h
  | X :: Xs, u :: gs, g, Y, h => by
    rcases List.mem_cons.1 h with rfl | h
    · obtain ⟨Cs, h1, _⟩ := g.1; exact ⟨_, h1⟩
    · exact Rows.mem_lt g.2 Y h
  | [], _ :: _, g, _, _ => g.elim
  | _ :: _, [], g, _, _ => g.elim
def rowVal (X : Nat) (ts : List TD) : Value := .slice (some ⟨X, 0, none⟩) ts.length ts.length
def rowVals : List Nat → List (List TD) → List Value
  | X :: Xs, ts :: gs => rowVal X ts :: rowVals Xs gs
  | _, _ => []
theorem rowVals_length : ∀ {Xs : List Nat} {gs : List (List TD)}, Xs.length = gs.length → (rowVals Xs gs).length = gs.length
  | [], [], _ => rfl
  | _ :: Xs, _ :: gs, h => by simp [rowVals, rowVals_length (Xs := Xs) (gs := gs) (by simpa using h)]
  | [], _ :: _, h => by simp at h
  | _ :: _, [], h => by simp at h
theorem rowVals_snoc {X : Nat} {ts : List TD} : ∀ {Xs : List Nat} {gs : List (List TD)}, Xs.length = gs.length → rowVals (Xs ++ [X]) (gs ++ [ts]) = rowVals Xs gs ++ [rowVal X ts]
  | [], [], _ => rfl
  | _ :: Xs, _ :: gs, h => by simp [rowVals, rowVals_snoc (Xs := Xs) (gs := gs) (by simpa using h)]
  | [], _ :: _, h => by simp at h
  | _ :: _, [], h => by simp at h
theorem rowVals_get : ∀ {Xs : List Nat} {gs : List (List TD)} {i : Nat} {X : Nat} {ts : List TD}, Xs[i]? = some X → gs[i]? = some ts → (rowVals Xs gs)[i]? = some (rowVal X ts)
  | X :: Xs, t :: gs, 0, Y, ts, h, g => by simp at h g; subst h g; rfl
  | X :: Xs, t :: gs, i + 1, Y, ts, h, g => by simpa [rowVals] using rowVals_get (Xs := Xs) (gs := gs) (by simpa using h) (by simpa using g)
  | [], _, _, _, _, h, _ => by simp at h
  | _ :: _, [], _, _, _, _, g => by simp at g
/-- a prerelease stands in the list -/
def anyPre (ts : List TD) : Bool := ts.any fun t => !t.pre.isEmpty
/-- the constraints of a text, in memory -/
def ConsAt (W : World) (O : Nat) (gs : List (List TD)) (inc : Bool) : Prop := ∃ OR HP Xs, W.heap[O]? = some (.cells #[.slice (some ⟨OR, 0, none⟩) gs.length gs.length, .slice (some ⟨HP, 0, none⟩) gs.length gs.length, .bool inc] 50 (0, 0)) ∧
  W.heap[OR]? = some (.cells (rowVals Xs gs).toArray 60 (0, 0)) ∧ W.heap[HP]? = some (.cells ((gs.map anyPre).map Value.bool).toArray 4 (0, 0)) ∧ Rows W Xs gs
end Go.Proofs.YtflcanlniddgoaaGreatDoor.Sv
end
section
set_option linter.unusedVariables false
set_option linter.unusedSimpArgs false
/- a constraint's text is read -/
namespace Go.Proofs.YtflcanlniddgoaaGreatDoor.Sv
open Go Go.RowKit Rx
set_option maxRecDepth 100000
theorem info60 : (Tryz.prog.info? 60).map (fun i => (i.zero, i.size, i.bytes)) = some (some (.slice none 0 0), 1, 24) := by kernel_rfl
theorem info4 : (Tryz.prog.info? 4).map (fun i => (i.zero, i.size, i.bytes)) = some (some (.bool false), 1, 1) := by kernel_rfl
theorem info61 : (Tryz.prog.info? 61).map (fun i => (i.zero, i.size, i.bytes)) = some (some (.pointer none), 1, 8) := by kernel_rfl
def reps (n : Nat) (z : Value) : Array Value := (List.replicate n z).toArray
theorem mk47 (n : Nat) (hn : n ≤ 1000) (w : World) : (Instr.makeSlice 47 (.int .i64 n) (.int .i64 n)).run Tryz.prog w = .ok (.slice (some ⟨w.heap.size, 0, none⟩) n n) (w.alloc (.cells (reps n (.slice none 0 0)) 60)) := by
  rw [run_make_row' 47 60 (.slice none 0 0) 24 Tryz.underlying47 info60 rfl .i64 .i64 n (by omega) (by omega) w]
  congr 3
  apply Array.ext'
  rw [toList_madeCells_one]
  rfl
theorem mk48 (n : Nat) (hn : n ≤ 1000) (w : World) : (Instr.makeSlice 48 (.int .i64 n) (.int .i64 n)).run Tryz.prog w = .ok (.slice (some ⟨w.heap.size, 0, none⟩) n n) (w.alloc (.cells (reps n (.bool false)) 4)) := by
  rw [run_make_row' 48 4 (.bool false) 1 Tryz.underlying48 info4 rfl .i64 .i64 n (by omega) (by omega) w]
  congr 3
  apply Array.ext'
  rw [toList_madeCells_one]
  rfl
theorem mk60 (n : Nat) (hn : n ≤ 1000) (w : World) : (Instr.makeSlice 60 (.int .i64 n) (.int .i64 n)).run Tryz.prog w = .ok (.slice (some ⟨w.heap.size, 0, none⟩) n n) (w.alloc (.cells (reps n (.pointer none)) 61)) := by
  rw [run_make_row' 60 61 (.pointer none) 8 Tryz.underlying60 info61 rfl .i64 .i64 n (by omega) (by omega) w]
  congr 3
  apply Array.ext'
  rw [toList_madeCells_one]
  rfl
theorem own_cells {W : World} {base n cap ob : Nat} {e : TypeId} {xs : List Value} (h : W.ownsRow base e 1 (.slice (some ⟨ob, 0, none⟩) n cap) n xs) (hn : 0 < n) : ∃ cur, W.heap[ob]? = some (.cells cur e (0, 0)) ∧ ∀ (j : Nat) (v : Value), xs[j]? = some v → cur[j]? = some v := by
  rcases h.2 with ⟨hv, _⟩ | ⟨g, c, cur, q1, q2, q3, q4, q5, q6, q7⟩
  · cases hv
  · cases q1
    refine ⟨cur, q3, fun j v hj => ?_⟩
    rw [← q7, List.getElem?_take] at hj
    split at hj
    · simpa using hj
    · cases hj
/-- what is known of one list's text -/
structure GSpec (v : ByteArray) (tx : List Bs) (ts : List TD) : Prop where
  valid : ∀ (w : World) (R PB IB icap : Nat), PG w R PB IB icap validT → RH w R PB 4 1 50 1 24 → Lib.Utf8Tabs 14 15 w → Calls Tryz.prog 40 #[.pointer (some ⟨R, 0, none⟩), .string v] w fun e w' => e = .returned (.bool true) ∧ Below w.heap.size w w'
  find : ∀ (w : World) (R PB IB icap : Nat), PG w R PB IB icap findT → RH w R PB 0 1 24 1 11 → Lib.Utf8Tabs 14 15 w → Calls Tryz.prog 43 #[.pointer (some ⟨R, 0, none⟩), .string v, .int .i64 (-1)] w fun e w' => ∃ u, e = .returned u ∧ w'.ownsRow w.heap.size 9 1 u tx.length (tx.map fun t => Value.string (bytesOf t)) ∧ Below w.heap.size w w'
  len : tx.length = ts.length
  pos : 0 < tx.length
  le : tx.length ≤ 1000
  each : ∀ (i : Nat) (x : Bs) (t : TD), tx[i]? = some x → ts[i]? = some t → ∀ w, Lib.Utf8Tabs 14 15 w → Calls Tryz.prog 44 #[.string (bytesOf x)] w fun e w' => ∃ C, e = .returned (.tuple #[ptr C, .nilIface]) ∧ w.heap.size ≤ C ∧ TDAt w' C t ∧ Below w.heap.size w w'
/-- between two lists -/
structure NOut (w : World) (ob OR HP : Nat) (ocur : Array Value) (gs : List (List TD)) (k : Nat) (Xs : List Nat) (W : World) : Prop where
  o : W.heap[ob]? = some (.cells ocur 9 (0, 0))
  r : W.heap[OR]? = some (.cells (rowVals Xs (gs.take k) ++ List.replicate (gs.length - k) (Value.slice none 0 0)).toArray 60 (0, 0))
  h : W.heap[HP]? = some (.cells (((gs.take k).map anyPre).map Value.bool ++ List.replicate (gs.length - k) (Value.bool false)).toArray 4 (0, 0))
  rows : Rows W Xs (gs.take k)
  b : Below w.heap.size w W
  l1 : w.heap.size ≤ OR
  l2 : w.heap.size ≤ HP
/-- within a list -/
structure NIn (w : World) (ob OR HP : Nat) (ocur : Array Value) (gs : List (List TD)) (k : Nat) (Xs : List Nat) (ts : List TD) (cb : Nat) (ccur : Array Value) (RX i : Nat) (Cs : List Nat) (pr : Bool) (W : World) : Prop where
  o : W.heap[ob]? = some (.cells ocur 9 (0, 0))
  r : W.heap[OR]? = some (.cells (rowVals Xs (gs.take k) ++ List.replicate (gs.length - k) (Value.slice none 0 0)).toArray 60 (0, 0))
  h : W.heap[HP]? = some (.cells (((gs.take k).map anyPre).map Value.bool ++ Value.bool pr :: List.replicate (gs.length - (k + 1)) (Value.bool false)).toArray 4 (0, 0))
  rows : Rows W Xs (gs.take k)
  c : W.heap[cb]? = some (.cells ccur 9 (0, 0))
  x : W.heap[RX]? = some (.cells (ptrRow Cs ts.length) 61 (0, 0))
  t : TDs W Cs (ts.take i)
  nx : RX ∉ Xs
  b : Below w.heap.size w W
  l1 : w.heap.size ≤ OR
  l2 : w.heap.size ≤ HP
  l3 : w.heap.size ≤ RX
section
variable {w : World} {ob OR HP : Nat} {ocur : Array Value} {gs : List (List TD)} {k : Nat} {Xs : List Nat} {ts : List TD} {cb : Nat} {ccur : Array Value} {RX i : Nat} {Cs : List Nat} {pr : Bool} {W W' : World}
theorem blk {W W' : World} {j : Nat} {o : Obj} (hb : Below W.heap.size W W') (h : W.heap[j]? = some o) : W'.heap[j]? = some o := (hb.block j (Array.getElem?_eq_some_iff.1 h).1).trans h
theorem NOut.keep (h : NOut w ob OR HP ocur gs k Xs W) (hb : Below W.heap.size W W') : NOut w ob OR HP ocur gs k Xs W' :=
  ⟨blk hb h.o, blk hb h.r, blk hb h.h, h.rows.keep hb, h.b.trans (hb.mono h.b.size), h.l1, h.l2⟩
theorem NIn.keep (h : NIn w ob OR HP ocur gs k Xs ts cb ccur RX i Cs pr W) (hb : Below W.heap.size W W') : NIn w ob OR HP ocur gs k Xs ts cb ccur RX i Cs pr W' :=
  ⟨blk hb h.o, blk hb h.r, blk hb h.h, h.rows.keep hb, blk hb h.c, blk hb h.x, h.t.keep hb, h.nx, h.b.trans (hb.mono h.b.size), h.l1, h.l2, h.l3⟩
theorem free_of {W : World} {X : Nat} {cs : Array Value} {t : TypeId} (h : W.heap[X]? = some (.cells cs t (0, 0))) (h1 : t ≠ 65) (h2 : t ≠ 33) : Free X W := fun cs' t' f' h' => by
  rw [h] at h'; injection h' with h'; injection h' with e1 e2 e3; subst e2; exact ⟨h1, h2⟩
theorem oth {W : World} {X j i : Nat} {v : Value} {o : Obj} (h : W.heap[j]? = some o) (hn : j ≠ X) : (W.setCell ⟨X, i, none⟩ v).heap[j]? = some o := (heap_setCell_other _ _ _ _ hn).trans h
theorem NOut.start (h : NOut w ob OR HP ocur gs k Xs W) (hk : k < gs.length) (ts : List TD) {cb : Nat} {ccur : Array Value} {RX : Nat} (hc : W.heap[cb]? = some (.cells ccur 9 (0, 0))) (hx : W.heap[RX]? = some (.cells (reps ts.length (.pointer none)) 61 (0, 0))) (hnx : RX ∉ Xs) (h3 : w.heap.size ≤ RX) :
    NIn w ob OR HP ocur gs k Xs ts cb ccur RX 0 [] false W := by
  refine ⟨h.o, h.r, ?_, h.rows, hc, by rw [hx]; simp [ptrRow, reps], by simp [TDs], hnx, h.b, h.l1, h.l2, h3⟩
  rw [h.h]
  obtain ⟨m, hm⟩ : ∃ m, gs.length - k = m + 1 := ⟨gs.length - k - 1, by omega⟩
  rw [hm, show gs.length - (k + 1) = m by omega, List.replicate_succ]
theorem set_mid (A : List Value) (x y : Value) (B : List Value) (k : Nat) (h : A.length = k) : (A ++ x :: B).toArray.setIfInBounds k y = (A ++ y :: B).toArray := by
  subst h
  apply Array.toList_inj.1
  simp
theorem NIn.pre (h : NIn w ob OR HP ocur gs k Xs ts cb ccur RX i Cs pr W) (hk : k < gs.length) : NIn w ob OR HP ocur gs k Xs ts cb ccur RX i Cs true (W.setCell ⟨HP, k, none⟩ (.bool true)) := by
  have hf := free_of h.h (by decide) (by decide)
  have hkp := Kp.setCell HP k W (.bool true)
  have hl : (((gs.take k).map anyPre).map Value.bool).length = k := by simp; omega
  have hnr : HP ∉ Xs := fun hm => by
    obtain ⟨cs, hc⟩ := h.rows.mem_lt HP hm
    exact typ_ne h.h hc (by decide) rfl
  refine ⟨oth h.o (typ_ne h.o h.h (by decide)), oth h.r (typ_ne h.r h.h (by decide)), ?_, h.rows.kp hkp hf hnr, oth h.c (typ_ne h.c h.h (by decide)), oth h.x (typ_ne h.x h.h (by decide)), h.t.kp hkp hf, h.nx, h.b.setCell (p := ⟨HP, k, none⟩) h.l2 _, h.l1, h.l2, h.l3⟩
  rw [heap_setCell_same W HP k _ 4 _ h.h]
  rw [set_mid _ _ _ _ _ hl]
theorem NIn.term (h : NIn w ob OR HP ocur gs k Xs ts cb ccur RX i Cs pr W) {C : Nat} {t : TD} (ht : ts[i]? = some t) (hi : Cs.length = i) (hC : TDAt W C t) : NIn w ob OR HP ocur gs k Xs ts cb ccur RX (i + 1) (Cs ++ [C]) pr (W.setCell ⟨RX, i, none⟩ (ptr C)) := by
  have hf := free_of h.x (by decide) (by decide)
  have hkp := Kp.setCell RX i W (ptr C)
  have hlt : i < ts.length := (List.getElem?_eq_some_iff.1 ht).1
  refine ⟨oth h.o (typ_ne h.o h.x (by decide)), oth h.r (typ_ne h.r h.x (by decide)), oth h.h (typ_ne h.h h.x (by decide)), h.rows.kp hkp hf h.nx, oth h.c (typ_ne h.c h.x (by decide)), ?_, ?_, h.nx, h.b.setCell (p := ⟨RX, i, none⟩) h.l3 _, h.l1, h.l2, h.l3⟩
  · rw [heap_setCell_same W RX i _ 61 _ h.x, ← hi, ptrRow_step Cs ts.length C (by omega)]
  · rw [List.take_add_one, ht]
    exact TDs.snoc (hC.kp hkp hf) (h.t.kp hkp hf)
theorem NIn.done (h : NIn w ob OR HP ocur gs k Xs ts cb ccur RX i Cs pr W) (hi : i = ts.length) (hg : gs[k]? = some ts) (hpr : pr = anyPre ts) (hX : Xs.length = k) : NOut w ob OR HP ocur gs (k + 1) (Xs ++ [RX]) (W.setCell ⟨OR, k, none⟩ (rowVal RX ts)) := by
  have hf := free_of h.r (by decide) (by decide)
  have hkp := Kp.setCell OR k W (rowVal RX ts)
  have hlt : k < gs.length := (List.getElem?_eq_some_iff.1 hg).1
  have htk : (gs.take k).length = k := by simp; omega
  have hrl : (rowVals Xs (gs.take k)).length = k := by rw [rowVals_length (by omega)]; exact htk
  have hnr : OR ∉ Xs := fun hm => by
    obtain ⟨cs, hc⟩ := h.rows.mem_lt OR hm
    exact typ_ne h.r hc (by decide) rfl
  have hne : RX ≠ OR := typ_ne h.x h.r (by decide)
  have hrow : RowAt W RX ts := ⟨Cs, h.x, by have := h.t; rwa [hi, List.take_length] at this⟩
  have e1 : gs.take (k + 1) = gs.take k ++ [ts] := by rw [List.take_add_one, hg]; rfl
  refine ⟨oth h.o (typ_ne h.o h.r (by decide)), ?_, ?_, ?_, h.b.setCell (p := ⟨OR, k, none⟩) h.l1 _, h.l1, h.l2⟩
  · rw [heap_setCell_same W OR k _ 60 _ h.r, e1, rowVals_snoc (by omega)]
    have := fill_step (rowVals Xs (gs.take k)) gs.length (rowVal RX ts) (.slice none 0 0) (by omega)
    rw [hrl] at this
    rw [this]
    simp [hrl]
  · rw [oth h.h (typ_ne h.h h.r (by decide)), e1, hpr]
    simp
  · rw [e1]
    exact Rows.snoc (hrow.kp hkp hf hne) (h.rows.kp hkp hf hnr)
end
set_option maxHeartbeats 4000000 in
theorem t31 (s : ByteArray) (hs : s.size ≤ 512) (hrw : noWD s.data.toList = true) (Vs : List ByteArray) (hp : Parted ⟨#[124, 124]⟩ s Vs) (hn : Vs.length ≤ 32) (Ts : List (List Bs)) (gs : List (List TD)) (hl1 : Ts.length = Vs.length) (hl2 : gs.length = Vs.length)
    (hG : ∀ (k : Nat) (v : ByteArray) (tx : List Bs) (ts : List TD), Vs[k]? = some v → Ts[k]? = some tx → gs[k]? = some ts → GSpec v tx ts) (w : World) (hT : Lib.Utf8Tabs 14 15 w) :
    Calls Tryz.prog 31 #[.string s] w fun e w' => ∃ O, e = .returned (.tuple #[ptr O, .nilIface]) ∧ w.heap.size ≤ O ∧ ConsAt w' O gs false ∧ Below w.heap.size w w' := by
  have hnz : 0 < Vs.length := List.length_pos_iff.2 hp.ne
  have k0 : ¬ (512 : Int) < (s.size : Int) := by omega
  have k1 : ¬ (32 : Int) < (Vs.length : Int) := by omega
  have HR := Lib.hid (tRewrite s w (by omega) hT hrw)
  have HP := Lib.hid (fun w => t38 s ⟨#[124, 124]⟩ Vs hp (by omega) (by decide) (by decide) w)
  have HG := Lib.hid hG
  have HL := Lib.hid (And.intro hl1 hl2)
  have HT := Lib.hid hT
  have m47 := mk47 Vs.length (by omega)
  have m48 := mk48 Vs.length (by omega)
  clear hs hrw hp hG hT hl1 hl2
  go_enter Tryz.func31, Tryz.ntmps31
  go_upto_region 10 with (first
    | (go_at_call 37; refine HR.out.mono ?_; rintro e w1 ⟨rfl, hb1⟩; have HB1 := Lib.hid hb1; clear hb1)
    | (go_at_call 38; refine (HP.out _).mono ?_; rintro e w2 ⟨v2, rfl, ho, hb2⟩; obtain ⟨ob, oc, hv2, hob⟩ := World.ownsRow.form ho hnz; subst hv2; obtain ⟨ocur, hob2, hoc⟩ := own_cells ho hnz; have HO := Lib.hid (And.intro hob2 (And.intro hoc (HB1.out.trans (hb2.mono HB1.out.size)))); clear ho hb2 hob hob2 hoc))
  have hst : NOut w ob w2.heap.size (w2.heap.size + 1) ocur gs 0 [] ((w2.alloc (.cells (reps Vs.length (.slice none 0 0)) 60)).alloc (.cells (reps Vs.length (.bool false)) 4)) := by
    obtain ⟨h1, h2, h3⟩ := HO.out
    obtain ⟨l1, l2⟩ := HL.out
    have hobs := (Array.getElem?_eq_some_iff.1 h1).1
    refine ⟨?_, ?_, ?_, by simp [Rows], (h3.alloc h3.size _).alloc (by have := h3.size; simp; omega) _, h3.size, by have := h3.size; omega⟩
    · rw [Below.heap_alloc _ _ _ (by simp; omega), Below.heap_alloc _ _ _ hobs, h1]
    · rw [Below.heap_alloc _ _ _ (by simp), heap_alloc_new w2 _, l2]; simp [rowVals, reps]
    · have := heap_alloc_new (w2.alloc (.cells (reps Vs.length (.slice none 0 0)) 60)) (.cells (reps Vs.length (.bool false)) 4 (0, 0))
      rw [World.size_alloc] at this
      rw [this, l2]; simp [reps]
  generalize ((w2.alloc (.cells (reps Vs.length (.slice none 0 0)) 60)).alloc (.cells (reps Vs.length (.bool false)) 4)) = W3 at *
  generalize w2.heap.size + 1 = HPb at *
  generalize w2.heap.size = OR at *
  have HS := Lib.hid hst
  clear hst m47 m48 k1
  go_wp2
  go_loopw [37] (fun kv W => ∃ (k : Nat) (Xs : List Nat), kv = .int .i64 k ∧ Hid (k ≤ Vs.length ∧ NOut w ob OR HPb ocur gs k Xs W)) (fun kv _ => 100 - (intOf kv).toNat)
  case atStart => exact ⟨0, [], rfl, Lib.hid ⟨Nat.zero_le _, HS.out⟩⟩
  case round =>
    obtain ⟨k, Xs, rfl, HK⟩ := hrel
    by_cases c : k < Vs.length
    · have c1 : (k : Int) < (Vs.length : Int) := by omega
      obtain ⟨v, hv⟩ : ∃ v, Vs[k]? = some v := ⟨_, List.getElem?_eq_getElem c⟩
      obtain ⟨tx, htx⟩ : ∃ tx, Ts[k]? = some tx := ⟨_, List.getElem?_eq_getElem (by have := HL.out.1; omega)⟩
      obtain ⟨ts, hts⟩ : ∃ ts, gs[k]? = some ts := ⟨_, List.getElem?_eq_getElem (by have := HL.out.2; omega)⟩
      have hg := HG.out k v tx ts hv htx hts
      have q0 : wr.cell? ⟨ob, k, none⟩ = some (.string v) := by rw [cell_of_row _ _ _ _ _ _ HK.out.2.o, HO.out.2.1 k (.string v) (by simp [hv])]
      have HGS := Lib.hid hg
      have hpos := hg.pos
      have m60 := mk60 tx.length hg.le
      have q := q52
      have HC := Lib.hid (And.intro c hts)
      clear hv htx hts hg c
      go_upto_region 19 with (first
        | (go_at_call 39; refine (t39 _).mono ?_; rintro e w4 ⟨R, PB, IB, icap, rfl, hp, hr, hb⟩; have HA := Lib.hid (And.intro hp (And.intro hr hb)); clear hp hr hb)
        | (go_at_call 40; refine (HGS.out.valid _ _ _ _ _ HA.out.1 HA.out.2.1 (Utf8Tabs_below HT.out (HK.out.2.keep HA.out.2.2).b)).mono ?_; rintro e w5 ⟨rfl, hb5⟩; have HD := Lib.hid (HA.out.2.2.trans (hb5.mono HA.out.2.2.size)); clear hb5)
        | (go_at_call 42; refine (t42 _).mono ?_; rintro e w6 ⟨R, PB, IB, icap, rfl, hp, hr, hb⟩; have HA2 := Lib.hid (And.intro hp (And.intro hr (HD.out.trans (hb.mono HD.out.size)))); clear hp hr hb)
        | (go_at_call 43; refine (HGS.out.find _ _ _ _ _ HA2.out.1 HA2.out.2.1 (Utf8Tabs_below HT.out (HK.out.2.keep HA2.out.2.2).b)).mono ?_; rintro e w7 ⟨u, rfl, ho, hb7⟩; obtain ⟨cb, cc, hvu, hcb⟩ := World.ownsRow.form ho hpos; subst hvu; obtain ⟨ccur, h1, h2⟩ := own_cells ho hpos; have HF := Lib.hid (And.intro h1 (And.intro h2 (HA2.out.2.2.trans (hb7.mono HA2.out.2.2.size)))); clear ho hb7 hcb h1 h2))
      have hkp := HK.out.2.keep HF.out.2.2
      have hin : NIn w ob OR HPb ocur gs k Xs ts cb ccur w7.heap.size 0 [] false (w7.alloc (.cells (reps tx.length (.pointer none)) 61)) := by
        refine (hkp.keep ((Below.refl _ w7).alloc (Nat.le_refl _) _)).start (by have := HC.out.1; have := HL.out.2; omega) ts ?_ ?_ ?_ hkp.b.size
        · rw [Below.heap_alloc _ _ _ (Array.getElem?_eq_some_iff.1 HF.out.1).1, HF.out.1]
        · rw [heap_alloc_new w7 _, HGS.out.len]
        · intro hm
          obtain ⟨cs, hc⟩ := hkp.rows.mem_lt _ hm
          have := (Array.getElem?_eq_some_iff.1 hc).1
          omega
      generalize w7.alloc (.cells (reps tx.length (.pointer none)) 61) = W8 at *
      generalize w7.heap.size = RX at *
      have HN := Lib.hid hin
      have HX := Lib.hid (show Xs.length = k by have := hkp.rows.length; simp at this; have h1 := HC.out.1; have h2 := HL.out.2; omega)
      clear hin hkp m60 q q0 c1
      go_wp2
      go_loopw [61] (fun iv W => ∃ (i : Nat) (Cs : List Nat), iv = .int .i64 i ∧ Hid (i ≤ tx.length ∧ Cs.length = i ∧ NIn w ob OR HPb ocur gs k Xs ts cb ccur RX i Cs (anyPre (ts.take i)) W)) (fun iv _ => 2000 - (intOf iv).toNat)
      case atStart => exact ⟨0, [], rfl, Lib.hid ⟨Nat.zero_le _, rfl, HN.out⟩⟩
      case round =>
        obtain ⟨i, Cs, rfl, HI⟩ := hrel
        by_cases c : i < tx.length
        · have c1 : (i : Int) < (tx.length : Int) := by omega
          obtain ⟨x, hx⟩ : ∃ x, tx[i]? = some x := ⟨_, List.getElem?_eq_getElem c⟩
          obtain ⟨t, ht⟩ : ∃ t, ts[i]? = some t := ⟨_, List.getElem?_eq_getElem (by rw [← HGS.out.len]; exact c)⟩
          have q0 : wr.cell? ⟨cb, i, none⟩ = some (.string (bytesOf x)) := by rw [cell_of_row _ _ _ _ _ _ HI.out.2.2.c, HF.out.2.1 i (.string (bytesOf x)) (by simp [hx])]
          have HE := Lib.hid (HGS.out.each i x t hx ht)
          have HCI := Lib.hid (And.intro c ht)
          clear hx ht c
          go_upto_region 23 with (go_at_call 44; refine (HE.out _ (Utf8Tabs_below HT.out HI.out.2.2.b)).mono ?_; rintro e w9 ⟨C, rfl, hC1, hC2, hb9⟩; have HY := Lib.hid (And.intro (HI.out.2.2.keep hb9) hC2); clear hC1 hC2 hb9)
          obtain ⟨V, hcon, hver⟩ := HY.out.2
          have p0 : w9.cell? ⟨C, 0, none⟩ = some (.pointer (some ⟨V, 0, none⟩)) := cell_of_row _ _ 0 _ _ _ hcon
          have p3 : w9.cell? ⟨V, 3, none⟩ = some (.string (bytesOf t.pre)) := cell_of_row _ _ 3 _ _ _ hver
          clear hcon hver
          simp only [ptr] at HY ⊢
          have hx1 := HY.out.1
          have r0 : ∃ z, w9.cell? ⟨RX, i, none⟩ = some z := by
            have : i < (ptrRow Cs ts.length).size := by have := HGS.out.len; have := HCI.out.1; have := HI.out.2.1; simp [ptrRow]; omega
            exact ⟨_, by rw [cell_of_row _ _ _ _ _ _ hx1.x, Array.getElem?_eq_getElem this]⟩
          obtain ⟨z, r0⟩ := r0
          have rf := frozen_of_row _ _ i _ _ hx1.x
          have hle := HGS.out.le
          have kN : (k : Int) < (Vs.length : Int) := by have := HC.out.1; omega
          have hne : HPb ≠ RX := typ_ne hx1.h hx1.x (by decide)
          have hl : i < (ts.take i).length + 1 := by have := HGS.out.len; have := HCI.out.1; simp; omega
          have hany : anyPre (ts.take (i + 1)) = (anyPre (ts.take i) || !t.pre.isEmpty) := by
            rw [List.take_add_one, HCI.out.2]; simp [anyPre]
          have HZ := Lib.hid hany
          clear hx1 hl hany
          rcases hpre : t.pre with _ | ⟨y, pr⟩
          · rw [hpre] at p3 HZ
            have n1 := bytesOf_toList []
            go_wp2
            refine ⟨⟨i + 1, Cs ++ [C], by simp, Lib.hid ⟨by have := HCI.out.1; omega, by simp [HI.out.2.1], ?_⟩⟩, by simp only [intOf]; have := HCI.out.1; omega⟩
            rw [HZ.out]
            have := HY.out.1.term HCI.out.2 HI.out.2.1 HY.out.2
            simpa [ptr] using this
          · rw [hpre] at p3 HZ
            have n1 := bytesOf_toList (y :: pr)
            have h0 : ∃ z, w9.cell? ⟨HPb, k, none⟩ = some z := by
              refine ⟨.bool (anyPre (ts.take i)), ?_⟩
              rw [cell_of_row _ _ _ _ _ _ HY.out.1.h]
              have hl : (((gs.take k).map anyPre).map Value.bool).length = k := by simp; have := HC.out.1; have := HL.out.2; omega
              simp only [List.getElem?_toArray]
              rw [List.getElem?_append_right (by omega), hl, Nat.sub_self]
              rfl
            obtain ⟨z0, h0⟩ := h0
            have hf := frozen_of_row _ _ k _ _ HY.out.1.h
            go_wp2
            refine ⟨⟨i + 1, Cs ++ [C], by simp, Lib.hid ⟨by have := HCI.out.1; omega, by simp [HI.out.2.1], ?_⟩⟩, by simp only [intOf]; have := HCI.out.1; omega⟩
            rw [HZ.out]
            have hk : k < gs.length := by have := HC.out.1; have := HL.out.2; omega
            have hfr := free_of HY.out.1.h (by decide) (by decide)
            have := (HY.out.1.pre hk).term HCI.out.2 HI.out.2.1 (HY.out.2.kp (Kp.setCell HPb k w9 (.bool true)) hfr)
            simpa [ptr] using this
        · have hit : i = tx.length := by have := HI.out.1; omega
          subst hit
          clear c
          have kN : (k : Int) < (Vs.length : Int) := by have := HC.out.1; omega
          have r0 : ∃ z, wr.cell? ⟨OR, k, none⟩ = some z := by
            have h1 := HC.out.1
            have h2 := HL.out.2
            have hx := HX.out
            have h3 : (rowVals Xs (gs.take k)).length = k := by rw [rowVals_length (by simp; omega)]; simp; omega
            have : k < (rowVals Xs (gs.take k) ++ List.replicate (gs.length - k) (Value.slice none 0 0)).toArray.size := by simp [h3]; omega
            exact ⟨_, by rw [cell_of_row _ _ _ _ _ _ HI.out.2.2.r, Array.getElem?_eq_getElem this]⟩
          obtain ⟨z, r0⟩ := r0
          have rf := frozen_of_row _ _ k _ _ HI.out.2.2.r
          go_wp2
          refine ⟨⟨k + 1, Xs ++ [RX], by simp, Lib.hid ⟨by have := HC.out.1; omega, ?_⟩⟩, by simp only [intOf]; have := HC.out.1; omega⟩
          have hlen := HGS.out.len
          have hd := HI.out.2.2.done hlen HC.out.2 (by rw [hlen, List.take_length]) HX.out
          unfold rowVal at hd
          rw [← hlen] at hd
          exact hd
    · have hkn : k = Vs.length := by have := HK.out.1; omega
      subst hkn
      clear c
      go_wp2
      go_ret2
      have hN := HK.out.2
      have hlg := HL.out.2
      have hb : Below wr.heap.size wr (wr.alloc (.cells #[.slice (some ⟨OR, 0, none⟩) Vs.length Vs.length, .slice (some ⟨HPb, 0, none⟩) Vs.length Vs.length, .bool false] 50)) := (Below.refl _ wr).alloc (Nat.le_refl _) _
      have h2 := hN.keep hb
      have et : gs.take Vs.length = gs := by rw [← hlg, List.take_length]
      have en : gs.length - Vs.length = 0 := by omega
      refine ⟨wr.heap.size, rfl, hN.b.size, ⟨OR, HPb, Xs, by rw [hlg]; exact heap_alloc_new wr _, ?_, ?_, ?_⟩, h2.b⟩
      · have := h2.r; rw [et, en] at this; simpa using this
      · have := h2.h; rw [et, en] at this; simpa using this
      · have := h2.rows; rwa [et] at this
end Go.Proofs.YtflcanlniddgoaaGreatDoor.Sv
end
section
set_option linter.unusedVariables false
set_option linter.unusedSimpArgs false
/- versions are compared -/
namespace Go.Proofs.YtflcanlniddgoaaGreatDoor.Sv
open Go Go.RowKit Rx
set_option maxRecDepth 100000
abbrev ver (a b c : Nat) (p m o : ByteArray) : Value := .agg #[.int .u64 a, .int .u64 b, .int .u64 c, .string p, .string m, .string o]
theorem tMajor (a b c : Nat) (p m o : ByteArray) (w : World) : Calls Tryz.prog 26 #[ver a b c p m o] w fun e w' => e = .returned (.int .u64 a) ∧ Below w.heap.size w w' := by
  unfold ver
  go_enter Tryz.func26, Tryz.ntmps26
  go_wp2
  go_ret
  exact ⟨rfl, (Below.refl _ w).alloc (Nat.le_refl _) _⟩
theorem tMinor (a b c : Nat) (p m o : ByteArray) (w : World) : Calls Tryz.prog 27 #[ver a b c p m o] w fun e w' => e = .returned (.int .u64 b) ∧ Below w.heap.size w w' := by
  unfold ver
  go_enter Tryz.func27, Tryz.ntmps27
  go_wp2
  go_ret
  exact ⟨rfl, (Below.refl _ w).alloc (Nat.le_refl _) _⟩
theorem tPatch (a b c : Nat) (p m o : ByteArray) (w : World) : Calls Tryz.prog 28 #[ver a b c p m o] w fun e w' => e = .returned (.int .u64 c) ∧ Below w.heap.size w w' := by
  unfold ver
  go_enter Tryz.func28, Tryz.ntmps28
  go_wp2
  go_ret
  exact ⟨rfl, (Below.refl _ w).alloc (Nat.le_refl _) _⟩
theorem tPrere (a b c : Nat) (p m o : ByteArray) (w : World) : Calls Tryz.prog 29 #[ver a b c p m o] w fun e w' => e = .returned (.string p) ∧ Below w.heap.size w w' := by
  unfold ver
  go_enter Tryz.func29, Tryz.ntmps29
  go_wp2
  go_ret
  exact ⟨rfl, (Below.refl _ w).alloc (Nat.le_refl _) _⟩
theorem tMeta (a b c : Nat) (p m o : ByteArray) (w : World) : Calls Tryz.prog 30 #[ver a b c p m o] w fun e w' => e = .returned (.string m) ∧ Below w.heap.size w w' := by
  unfold ver
  go_enter Tryz.func30, Tryz.ntmps30
  go_wp2
  go_ret
  exact ⟨rfl, (Below.refl _ w).alloc (Nat.le_refl _) _⟩
def seg (x y : Nat) : Int := if x < y then -1 else if y < x then 1 else 0
theorem tSeg (x y : Nat) (w : World) : Calls Tryz.prog 114 #[.int .u64 x, .int .u64 y] w fun e w' => e = .returned (.int .i64 (seg x y)) ∧ w' = w := by
  unfold seg
  by_cases h1 : x < y
  · have k1 : (x : Int) < y := by omega
    rw [if_pos h1]
    go_enter Tryz.func114, Tryz.ntmps114
    go_wp2
    go_ret
    exact ⟨rfl, rfl⟩
  · have k1 : ¬ (x : Int) < y := by omega
    rw [if_neg h1]
    by_cases h2 : y < x
    · have k2 : (y : Int) < x := by omega
      rw [if_pos h2]
      go_enter Tryz.func114, Tryz.ntmps114
      go_wp2
      go_ret
      exact ⟨rfl, rfl⟩
    · have k2 : ¬ (y : Int) < x := by omega
      rw [if_neg h2]
      go_enter Tryz.func114, Tryz.ntmps114
      go_wp2
      go_ret
      exact ⟨rfl, rfl⟩
end Go.Proofs.YtflcanlniddgoaaGreatDoor.Sv
end
section
set_option linter.unusedVariables false
set_option linter.unusedSimpArgs false
/- Compare -/
namespace Go.Proofs.YtflcanlniddgoaaGreatDoor.Sv
open Go Go.RowKit Rx
set_option maxRecDepth 100000
def S2 (w : World) (V U a b c : Nat) (p m o : ByteArray) (a2 b2 c2 : Nat) (p2 m2 o2 : ByteArray) (w' : World) : Prop := w'.cell? ⟨V, 0, none⟩ = some (.int .u64 a) ∧ w'.cell? ⟨V, 1, none⟩ = some (.int .u64 b) ∧ w'.cell? ⟨V, 2, none⟩ = some (.int .u64 c) ∧ w'.cell? ⟨V, 3, none⟩ = some (.string p) ∧ w'.cell? ⟨V, 4, none⟩ = some (.string m) ∧ w'.cell? ⟨V, 5, none⟩ = some (.string o) ∧ w'.cell? ⟨U, 0, none⟩ = some (.int .u64 a2) ∧ w'.cell? ⟨U, 1, none⟩ = some (.int .u64 b2) ∧ w'.cell? ⟨U, 2, none⟩ = some (.int .u64 c2) ∧ w'.cell? ⟨U, 3, none⟩ = some (.string p2) ∧ w'.cell? ⟨U, 4, none⟩ = some (.string m2) ∧ w'.cell? ⟨U, 5, none⟩ = some (.string o2) ∧ Below w.heap.size w w'
theorem belk {w w1 w2 : World} (hb : Below w1.heap.size w1 w2) (h : Below w.heap.size w w1) : Below w.heap.size w w2 := h.trans (hb.mono h.size)
/-- a release against a version -/
def cmpRel (a b c a2 b2 c2 : Nat) (rel : Bool) : Int := if seg a a2 ≠ 0 then seg a a2 else if seg b b2 ≠ 0 then seg b b2 else if seg c c2 ≠ 0 then seg c c2 else if rel then 0 else 1
set_option maxHeartbeats 8000000 in
theorem tCmp (w : World) (V U a b c : Nat) (p m o : ByteArray) (a2 b2 c2 : Nat) (p2 m2 o2 : ByteArray) (h : S2 w V U a b c p m o a2 b2 c2 p2 m2 o2 w) (hp : p.toList.isEmpty = true) (rel : Bool) (hr : p2.toList.isEmpty = rel) :
    Calls Tryz.prog 96 #[.pointer (some ⟨V, 0, none⟩), .pointer (some ⟨U, 0, none⟩)] w fun e w' => e = .returned (.int .i64 (cmpRel a b c a2 b2 c2 rel)) ∧ Below w.heap.size w w' := by
  obtain ⟨q0, q1, q2, q3, q4, q5, q6, q7, q8, q9, q10, q11, q12⟩ := h
  generalize hres : cmpRel a b c a2 b2 c2 rel = r
  have HRES := Lib.hid hres
  clear hres
  go_enter Tryz.func96, Tryz.ntmps96
  go_wp2
  go_region_held3 (fun w' => w'.cell? ⟨V, 0, none⟩ = some (.int .u64 a) ∧ w'.cell? ⟨V, 1, none⟩ = some (.int .u64 b) ∧ w'.cell? ⟨V, 2, none⟩ = some (.int .u64 c) ∧ w'.cell? ⟨V, 3, none⟩ = some (.string p) ∧ w'.cell? ⟨V, 4, none⟩ = some (.string m) ∧ w'.cell? ⟨V, 5, none⟩ = some (.string o) ∧ w'.cell? ⟨U, 0, none⟩ = some (.int .u64 a2) ∧ w'.cell? ⟨U, 1, none⟩ = some (.int .u64 b2) ∧ w'.cell? ⟨U, 2, none⟩ = some (.int .u64 c2) ∧ w'.cell? ⟨U, 3, none⟩ = some (.string p2) ∧ w'.cell? ⟨U, 4, none⟩ = some (.string m2) ∧ w'.cell? ⟨U, 5, none⟩ = some (.string o2) ∧ Below w.heap.size w w') (first | exact ⟨by assumption, by assumption, by assumption, by assumption, by assumption, by assumption, by assumption, by assumption, by assumption, by assumption, by assumption, by assumption, by assumption⟩ | exact ⟨by first | assumption | (rw [World.cell?_drew]; assumption), by first | assumption | (rw [World.cell?_drew]; assumption), by first | assumption | (rw [World.cell?_drew]; assumption), by first | assumption | (rw [World.cell?_drew]; assumption), by first | assumption | (rw [World.cell?_drew]; assumption), by first | assumption | (rw [World.cell?_drew]; assumption), by first | assumption | (rw [World.cell?_drew]; assumption), by first | assumption | (rw [World.cell?_drew]; assumption), by first | assumption | (rw [World.cell?_drew]; assumption), by first | assumption | (rw [World.cell?_drew]; assumption), by first | assumption | (rw [World.cell?_drew]; assumption), by first | assumption | (rw [World.cell?_drew]; assumption), by first | assumption | (refine Below.drew ?_; assumption)⟩) (first | (go_at_call 26; refine (tMajor _ _ _ _ _ _ _).mono ?_; rintro e w1 ⟨rfl, hb⟩; have HS2 : S2 w V U a b c p m o a2 b2 c2 p2 m2 o2 w1 := ⟨keepc hb (by first | assumption | (rw [World.cell?_drew]; assumption)), keepc hb (by first | assumption | (rw [World.cell?_drew]; assumption)), keepc hb (by first | assumption | (rw [World.cell?_drew]; assumption)), keepc hb (by first | assumption | (rw [World.cell?_drew]; assumption)), keepc hb (by first | assumption | (rw [World.cell?_drew]; assumption)), keepc hb (by first | assumption | (rw [World.cell?_drew]; assumption)), keepc hb (by first | assumption | (rw [World.cell?_drew]; assumption)), keepc hb (by first | assumption | (rw [World.cell?_drew]; assumption)), keepc hb (by first | assumption | (rw [World.cell?_drew]; assumption)), keepc hb (by first | assumption | (rw [World.cell?_drew]; assumption)), keepc hb (by first | assumption | (rw [World.cell?_drew]; assumption)), keepc hb (by first | assumption | (rw [World.cell?_drew]; assumption)), belk hb (by first | assumption | (refine Below.drew ?_; assumption))⟩; clear hb; obtain ⟨q0, q1, q2, q3, q4, q5, q6, q7, q8, q9, q10, q11, q12⟩ := HS2) | (go_at_call 114; refine (tSeg _ _ _).mono ?_; rintro e w1 ⟨rfl, rfl⟩))
  by_cases d1 : seg a a2 ≠ 0
  · have e1 : (seg a a2 == 0) = false := by simpa using d1
    go_wp2
    go_ret
    exact ⟨by rw [← HRES.out, cmpRel, if_pos d1]; rfl, by first | assumption | (refine Below.drew ?_; assumption)⟩
  · have e1 : seg a a2 = 0 := by simpa using d1
    have HD1 := Lib.hid d1
    clear d1
    rw [e1]
    clear e1
    go_wp2
    go_region_held3 (fun w' => w'.cell? ⟨V, 0, none⟩ = some (.int .u64 a) ∧ w'.cell? ⟨V, 1, none⟩ = some (.int .u64 b) ∧ w'.cell? ⟨V, 2, none⟩ = some (.int .u64 c) ∧ w'.cell? ⟨V, 3, none⟩ = some (.string p) ∧ w'.cell? ⟨V, 4, none⟩ = some (.string m) ∧ w'.cell? ⟨V, 5, none⟩ = some (.string o) ∧ w'.cell? ⟨U, 0, none⟩ = some (.int .u64 a2) ∧ w'.cell? ⟨U, 1, none⟩ = some (.int .u64 b2) ∧ w'.cell? ⟨U, 2, none⟩ = some (.int .u64 c2) ∧ w'.cell? ⟨U, 3, none⟩ = some (.string p2) ∧ w'.cell? ⟨U, 4, none⟩ = some (.string m2) ∧ w'.cell? ⟨U, 5, none⟩ = some (.string o2) ∧ Below w.heap.size w w') (first | exact ⟨by assumption, by assumption, by assumption, by assumption, by assumption, by assumption, by assumption, by assumption, by assumption, by assumption, by assumption, by assumption, by assumption⟩ | exact ⟨by first | assumption | (rw [World.cell?_drew]; assumption), by first | assumption | (rw [World.cell?_drew]; assumption), by first | assumption | (rw [World.cell?_drew]; assumption), by first | assumption | (rw [World.cell?_drew]; assumption), by first | assumption | (rw [World.cell?_drew]; assumption), by first | assumption | (rw [World.cell?_drew]; assumption), by first | assumption | (rw [World.cell?_drew]; assumption), by first | assumption | (rw [World.cell?_drew]; assumption), by first | assumption | (rw [World.cell?_drew]; assumption), by first | assumption | (rw [World.cell?_drew]; assumption), by first | assumption | (rw [World.cell?_drew]; assumption), by first | assumption | (rw [World.cell?_drew]; assumption), by first | assumption | (refine Below.drew ?_; assumption)⟩) (first | (go_at_call 27; refine (tMinor _ _ _ _ _ _ _).mono ?_; rintro e w1 ⟨rfl, hb⟩; have HS2 : S2 w V U a b c p m o a2 b2 c2 p2 m2 o2 w1 := ⟨keepc hb (by first | assumption | (rw [World.cell?_drew]; assumption)), keepc hb (by first | assumption | (rw [World.cell?_drew]; assumption)), keepc hb (by first | assumption | (rw [World.cell?_drew]; assumption)), keepc hb (by first | assumption | (rw [World.cell?_drew]; assumption)), keepc hb (by first | assumption | (rw [World.cell?_drew]; assumption)), keepc hb (by first | assumption | (rw [World.cell?_drew]; assumption)), keepc hb (by first | assumption | (rw [World.cell?_drew]; assumption)), keepc hb (by first | assumption | (rw [World.cell?_drew]; assumption)), keepc hb (by first | assumption | (rw [World.cell?_drew]; assumption)), keepc hb (by first | assumption | (rw [World.cell?_drew]; assumption)), keepc hb (by first | assumption | (rw [World.cell?_drew]; assumption)), keepc hb (by first | assumption | (rw [World.cell?_drew]; assumption)), belk hb (by first | assumption | (refine Below.drew ?_; assumption))⟩; clear hb; obtain ⟨q0, q1, q2, q3, q4, q5, q6, q7, q8, q9, q10, q11, q12⟩ := HS2) | (go_at_call 114; refine (tSeg _ _ _).mono ?_; rintro e w1 ⟨rfl, rfl⟩))
    by_cases d2 : seg b b2 ≠ 0
    · have e2 : (seg b b2 == 0) = false := by simpa using d2
      go_wp2
      go_ret
      exact ⟨by rw [← HRES.out, cmpRel, if_neg HD1.out, if_pos d2]; rfl, by first | assumption | (refine Below.drew ?_; assumption)⟩
    · have e2 : seg b b2 = 0 := by simpa using d2
      have HD2 := Lib.hid d2
      clear d2
      rw [e2]
      clear e2
      go_wp2
      go_region_held3 (fun w' => w'.cell? ⟨V, 0, none⟩ = some (.int .u64 a) ∧ w'.cell? ⟨V, 1, none⟩ = some (.int .u64 b) ∧ w'.cell? ⟨V, 2, none⟩ = some (.int .u64 c) ∧ w'.cell? ⟨V, 3, none⟩ = some (.string p) ∧ w'.cell? ⟨V, 4, none⟩ = some (.string m) ∧ w'.cell? ⟨V, 5, none⟩ = some (.string o) ∧ w'.cell? ⟨U, 0, none⟩ = some (.int .u64 a2) ∧ w'.cell? ⟨U, 1, none⟩ = some (.int .u64 b2) ∧ w'.cell? ⟨U, 2, none⟩ = some (.int .u64 c2) ∧ w'.cell? ⟨U, 3, none⟩ = some (.string p2) ∧ w'.cell? ⟨U, 4, none⟩ = some (.string m2) ∧ w'.cell? ⟨U, 5, none⟩ = some (.string o2) ∧ Below w.heap.size w w') (first | exact ⟨by assumption, by assumption, by assumption, by assumption, by assumption, by assumption, by assumption, by assumption, by assumption, by assumption, by assumption, by assumption, by assumption⟩ | exact ⟨by first | assumption | (rw [World.cell?_drew]; assumption), by first | assumption | (rw [World.cell?_drew]; assumption), by first | assumption | (rw [World.cell?_drew]; assumption), by first | assumption | (rw [World.cell?_drew]; assumption), by first | assumption | (rw [World.cell?_drew]; assumption), by first | assumption | (rw [World.cell?_drew]; assumption), by first | assumption | (rw [World.cell?_drew]; assumption), by first | assumption | (rw [World.cell?_drew]; assumption), by first | assumption | (rw [World.cell?_drew]; assumption), by first | assumption | (rw [World.cell?_drew]; assumption), by first | assumption | (rw [World.cell?_drew]; assumption), by first | assumption | (rw [World.cell?_drew]; assumption), by first | assumption | (refine Below.drew ?_; assumption)⟩) (first | (go_at_call 28; refine (tPatch _ _ _ _ _ _ _).mono ?_; rintro e w1 ⟨rfl, hb⟩; have HS2 : S2 w V U a b c p m o a2 b2 c2 p2 m2 o2 w1 := ⟨keepc hb (by first | assumption | (rw [World.cell?_drew]; assumption)), keepc hb (by first | assumption | (rw [World.cell?_drew]; assumption)), keepc hb (by first | assumption | (rw [World.cell?_drew]; assumption)), keepc hb (by first | assumption | (rw [World.cell?_drew]; assumption)), keepc hb (by first | assumption | (rw [World.cell?_drew]; assumption)), keepc hb (by first | assumption | (rw [World.cell?_drew]; assumption)), keepc hb (by first | assumption | (rw [World.cell?_drew]; assumption)), keepc hb (by first | assumption | (rw [World.cell?_drew]; assumption)), keepc hb (by first | assumption | (rw [World.cell?_drew]; assumption)), keepc hb (by first | assumption | (rw [World.cell?_drew]; assumption)), keepc hb (by first | assumption | (rw [World.cell?_drew]; assumption)), keepc hb (by first | assumption | (rw [World.cell?_drew]; assumption)), belk hb (by first | assumption | (refine Below.drew ?_; assumption))⟩; clear hb; obtain ⟨q0, q1, q2, q3, q4, q5, q6, q7, q8, q9, q10, q11, q12⟩ := HS2) | (go_at_call 114; refine (tSeg _ _ _).mono ?_; rintro e w1 ⟨rfl, rfl⟩))
      by_cases d3 : seg c c2 ≠ 0
      · have e3 : (seg c c2 == 0) = false := by simpa using d3
        go_wp2
        go_ret
        exact ⟨by rw [← HRES.out, cmpRel, if_neg HD1.out, if_neg HD2.out, if_pos d3]; rfl, by first | assumption | (refine Below.drew ?_; assumption)⟩
      · have e3 : seg c c2 = 0 := by simpa using d3
        have HD3 := Lib.hid d3
        clear d3
        rw [e3]
        clear e3
        go_wp2_with (go_at_call 29; refine (tPrere _ _ _ _ _ _ _).mono ?_; rintro e w1 ⟨rfl, hb⟩)
        all_goals go_ret
        all_goals refine ⟨?_, belk hb (by first | assumption | (refine Below.drew ?_; assumption))⟩
        all_goals rw [← HRES.out, cmpRel, if_neg HD1.out, if_neg HD2.out, if_neg HD3.out]
        all_goals simp_all
end Go.Proofs.YtflcanlniddgoaaGreatDoor.Sv
end
section
set_option linter.unusedVariables false
set_option linter.unusedSimpArgs false
/- the operators of a constraint, of a release: no number missing -/
namespace Go.Proofs.YtflcanlniddgoaaGreatDoor.Sv
open Go Go.RowKit Rx
set_option maxRecDepth 100000
def S3 (w : World) (V U C a b c : Nat) (p m o : ByteArray) (a2 b2 c2 : Nat) (p2 m2 o2 op : ByteArray) (md d pd : Bool) (w' : World) : Prop := w'.cell? ⟨V, 0, none⟩ = some (.int .u64 a) ∧ w'.cell? ⟨V, 1, none⟩ = some (.int .u64 b) ∧ w'.cell? ⟨V, 2, none⟩ = some (.int .u64 c) ∧ w'.cell? ⟨V, 3, none⟩ = some (.string p) ∧ w'.cell? ⟨V, 4, none⟩ = some (.string m) ∧ w'.cell? ⟨V, 5, none⟩ = some (.string o) ∧ w'.cell? ⟨U, 0, none⟩ = some (.int .u64 a2) ∧ w'.cell? ⟨U, 1, none⟩ = some (.int .u64 b2) ∧ w'.cell? ⟨U, 2, none⟩ = some (.int .u64 c2) ∧ w'.cell? ⟨U, 3, none⟩ = some (.string p2) ∧ w'.cell? ⟨U, 4, none⟩ = some (.string m2) ∧ w'.cell? ⟨U, 5, none⟩ = some (.string o2) ∧ w'.cell? ⟨C, 0, none⟩ = some (.pointer (some ⟨U, 0, none⟩)) ∧ w'.cell? ⟨C, 2, none⟩ = some (.string op) ∧ w'.cell? ⟨C, 3, none⟩ = some (.bool md) ∧ w'.cell? ⟨C, 4, none⟩ = some (.bool d) ∧ w'.cell? ⟨C, 5, none⟩ = some (.bool pd) ∧ Below w.heap.size w w'
theorem tErr (s : ByteArray) (w : World) : Calls Tryz.prog 41 #[.string s] w fun e w' => ∃ t a, e = .returned (.iface t (.pointer (some a))) ∧ Below w.heap.size w w' := by
  go_enter Tryz.func41, Tryz.ntmps41
  go_wp2
  go_ret
  exact ⟨_, _, rfl, (Below.refl _ w).alloc (Nat.le_refl _) _⟩
theorem tLess (w : World) (V U a b c : Nat) (p m o : ByteArray) (a2 b2 c2 : Nat) (p2 m2 o2 : ByteArray) (h : S2 w V U a b c p m o a2 b2 c2 p2 m2 o2 w) (hp : p.toList.isEmpty = true) (rel : Bool) (hr : p2.toList.isEmpty = rel) :
    Calls Tryz.prog 97 #[.pointer (some ⟨V, 0, none⟩), .pointer (some ⟨U, 0, none⟩)] w fun e w' => e = .returned (.bool (decide (cmpRel a b c a2 b2 c2 rel < 0))) ∧ Below w.heap.size w w' := by
  have H := Lib.hid (tCmp w V U a b c p m o a2 b2 c2 p2 m2 o2 h hp rel hr)
  clear h hp hr
  generalize cmpRel a b c a2 b2 c2 rel = r at *
  go_enter Tryz.func97, Tryz.ntmps97
  go_wp2_with (go_at_call 96; refine H.out.mono ?_; rintro e w1 ⟨rfl, hb⟩; have HB := Lib.hid hb; clear hb)
  go_ret
  exact ⟨rfl, HB.out⟩
theorem ret_bool {x r : Bool} {ev : Value} {w w' : World} (hx : x = r) (hb : Below w.heap.size w w') : ∃ ev', Ending.returned (.tuple #[.bool x, ev]) = Ending.returned (.tuple #[.bool r, ev']) ∧ Below w.heap.size w w' := ⟨ev, by rw [hx], hb⟩
set_option maxHeartbeats 4000000 in
theorem tGt (w : World) (V U C a b c : Nat) (p m o : ByteArray) (a2 b2 c2 : Nat) (p2 m2 o2 op : ByteArray) (md d pd inc : Bool) (h : S3 w V U C a b c p m o a2 b2 c2 p2 m2 o2 op md d pd w) (hp : p.toList.isEmpty = true) (rel : Bool) (hr : p2.toList.isEmpty = rel) (hd : d = false) :
    Calls Tryz.prog 68 #[.pointer (some ⟨V, 0, none⟩), .pointer (some ⟨C, 0, none⟩), .bool inc] w fun e w' => ∃ ev, e = .returned (.tuple #[.bool (cmpRel a b c a2 b2 c2 rel == 1), ev]) ∧ Below w.heap.size w w' := by
  subst hd
  obtain ⟨q0, q1, q2, q3, q4, q5, q6, q7, q8, q9, q10, q11, q12, q13, q14, q15, q16, q17⟩ := h
  go_enter Tryz.func68, Tryz.ntmps68
  go_wp2_with (first
    | (go_at_call 29; refine (tPrere _ _ _ _ _ _ _).mono ?_; rintro e w1 ⟨rfl, hb⟩; have q0 := keepc hb q0; have q1 := keepc hb q1; have q2 := keepc hb q2; have q3 := keepc hb q3; have q4 := keepc hb q4; have q5 := keepc hb q5; have q6 := keepc hb q6; have q7 := keepc hb q7; have q8 := keepc hb q8; have q9 := keepc hb q9; have q10 := keepc hb q10; have q11 := keepc hb q11; have q12 := keepc hb q12; have q13 := keepc hb q13; have q14 := keepc hb q14; have q15 := keepc hb q15; have q16 := keepc hb q16; have q17 := belk hb q17; clear hb)
    | (go_at_call 96; refine (tCmp _ V U a b c p m o a2 b2 c2 p2 m2 o2 ⟨q0, q1, q2, q3, q4, q5, q6, q7, q8, q9, q10, q11, Below.refl _ _⟩ hp rel hr).mono ?_; rintro e w2 ⟨rfl, hb⟩; have q0 := keepc hb q0; have q1 := keepc hb q1; have q2 := keepc hb q2; have q3 := keepc hb q3; have q4 := keepc hb q4; have q5 := keepc hb q5; have q6 := keepc hb q6; have q7 := keepc hb q7; have q8 := keepc hb q8; have q9 := keepc hb q9; have q10 := keepc hb q10; have q11 := keepc hb q11; have q12 := keepc hb q12; have q13 := keepc hb q13; have q14 := keepc hb q14; have q15 := keepc hb q15; have q16 := keepc hb q16; have q17 := belk hb q17; clear hb)
    | (go_at_call 41; refine (tErr _ _).mono ?_; rintro e w3 ⟨t3, a3, rfl, hb⟩; have q0 := keepc hb q0; have q1 := keepc hb q1; have q2 := keepc hb q2; have q3 := keepc hb q3; have q4 := keepc hb q4; have q5 := keepc hb q5; have q6 := keepc hb q6; have q7 := keepc hb q7; have q8 := keepc hb q8; have q9 := keepc hb q9; have q10 := keepc hb q10; have q11 := keepc hb q11; have q12 := keepc hb q12; have q13 := keepc hb q13; have q14 := keepc hb q14; have q15 := keepc hb q15; have q16 := keepc hb q16; have q17 := belk hb q17; clear hb))
  all_goals go_ret2
  all_goals first
    | (rw [show (cmpRel a b c a2 b2 c2 rel == 1) = true by assumption]; exact ⟨_, rfl, by assumption⟩)
    | (rw [show (cmpRel a b c a2 b2 c2 rel == 1) = false by assumption]; exact ⟨_, rfl, by assumption⟩)
end Go.Proofs.YtflcanlniddgoaaGreatDoor.Sv
end
section
set_option linter.unusedVariables false
set_option linter.unusedSimpArgs false
/- a constraint of one term with three numbers -/
namespace Go.Proofs.YtflcanlniddgoaaGreatDoor.Sv
open Go Go.RowKit Rx
set_option maxRecDepth 100000
/-- a version of three numbers -/
def dv (a b c : Nat) : Ver := ⟨false, Lib.decDigits a, some (Lib.decDigits b), some (Lib.decDigits c), none, none⟩
theorem dB_pB (x : UInt8) (h : dB x = true) : pB x = true := by
  have := byte_all (p := fun x => !dB x || pB x) (by decide) x
  simpa [h] using this
theorem dB_not (x : UInt8) (h : dB x = true) : x ≠ 120 ∧ x ≠ 42 ∧ x ≠ 88 ∧ x ≠ 124 ∧ ws x = false := by
  have := byte_all (p := fun x => !dB x || (x != 120 && x != 42 && x != 88 && x != 124 && !ws x)) (by decide) x
  simpa [h, and_assoc] using this
theorem dec_part (a : Nat) : okPart dB (Lib.decDigits a) := ⟨decDigits_ne a, decDigits_dB a a (Nat.le_refl _)⟩
theorem dv_ok (a b c : Nat) : (dv a b c).Ok dB iB := by
  refine ⟨dec_part a, fun y h => ?_, fun y h => ⟨?_, by simp [dv]⟩, trivial, trivial⟩
  · obtain rfl : Lib.decDigits b = y := by simpa [dv] using h
    exact dec_part b
  · obtain rfl : Lib.decDigits c = y := by simpa [dv] using h
    exact dec_part c
theorem ok_pB {x : Ver} (h : x.Ok dB iB) : x.Ok pB iB :=
  ⟨⟨h.p1.1, fun y hy => dB_pB y (h.p1.2 y hy)⟩, fun y hy => ⟨(h.p2 y hy).1, fun z hz => dB_pB z ((h.p2 y hy).2 z hz)⟩, fun y hy => ⟨⟨(h.p3 y hy).1.1, fun z hz => dB_pB z ((h.p3 y hy).1.2 z hz)⟩, (h.p3 y hy).2⟩, h.pre, h.meta_⟩
theorem dv_text (a b c : Nat) : (dv a b c).text = Lib.decDigits a ++ (46 :: (Lib.decDigits b ++ 46 :: Lib.decDigits c)) := by simp [dv, Ver.text, ptext, gtext]
theorem dv_len (a b c : Nat) (ha : a < 18446744073709551616) (hb : b < 18446744073709551616) (hc : c < 18446744073709551616) : (dv a b c).text.length ≤ 62 := by
  have h1 := nDigits_le a ha
  have h2 := nDigits_le b hb
  have h3 := nDigits_le c hc
  rw [dv_text]
  generalize Lib.decDigits a = x at *
  generalize Lib.decDigits b = y at *
  generalize Lib.decDigits c = z at *
  simp; omega
theorem dec_noX (a : Nat) : isXb (Lib.decDigits a) = false := by
  have h := (dec_part a).2
  generalize Lib.decDigits a = l at *
  have k : ∀ y : UInt8, (y = 120 ∨ y = 42 ∨ y = 88) → ¬ l = [y] := by
    rintro y hy rfl
    have := dB_not y (h y (by simp))
    rcases hy with rfl | rfl | rfl <;> simp at this
  unfold isXb
  simp [k 120 (by simp), k 42 (by simp), k 88 (by simp)]
theorem bytesOf_list (l : Bs) : (bytesOf l).data.toList = l := by simp [bytesOf]
/-- no blank and no bar stands in the text -/
def tame (l : Bs) : Prop := ∀ y ∈ l, ws y = false ∧ y ≠ 124
theorem tame.noWD : ∀ {l : Bs}, tame l → noWD l = true
  | [], _ => rfl
  | [_], _ => rfl
  | x :: y :: l, h => by
    have h1 := (h x (by simp)).1
    have h2 : Rx.noWD (y :: l) = true := tame.noWD fun z hz => h z (by simp [hz])
    simp [Rx.noWD, h1, h2]
theorem tame.app {a b : Bs} (h : tame a) (h' : tame b) : tame (a ++ b) := fun y hy => by
  rcases List.mem_append.1 hy with h1 | h1
  · exact h y h1
  · exact h' y h1
theorem tame_dec (a : Nat) : tame (Lib.decDigits a) := fun y hy => by
  have := dB_not y ((dec_part a).2 y hy)
  exact ⟨this.2.2.2.2, this.2.2.2.1⟩
theorem tame_dv (a b c : Nat) : tame (dv a b c).text := by
  rw [dv_text]
  have h46 : ∀ {l : Bs}, tame l → tame (46 :: l) := fun h y hy => by
    rcases List.mem_cons.1 hy with rfl | h1
    · exact ⟨by decide, by decide⟩
    · exact h y h1
  exact (tame_dec a).app (h46 ((tame_dec b).app (h46 (tame_dec c))))
theorem tame_op {op : Bs} (h : op ∈ opTexts) : tame op := by
  have : opTexts.all (fun o => o.all fun y => !ws y && y != 124) = true := by decide
  have h1 := List.all_eq_true.1 (List.all_eq_true.1 this op h)
  exact fun y hy => by simpa using h1 y hy
theorem first_bars {l : Bs} (h : tame l) : First (bytesOf l) ⟨#[124, 124]⟩ none := by
  intro i hi
  have hs : (⟨#[124, 124]⟩ : ByteArray).size = 2 := rfl
  rw [hs, bytesOf_size] at hi
  rw [hs]
  have hl : i < l.length := by omega
  have e : ((bytesOf l).extract i (i + 2)).toList = (l.drop i).take 2 := by
    rw [extract_eq (A := l.take i) (B := (l.drop i).take 2) (C := (l.drop i).drop 2) (by rw [bytesOf_list, List.take_append_drop, List.take_append_drop]) (by simp; omega) (by simp; omega)]
    exact ByteArray.toList_mk _
  have hne := (h l[i] (List.getElem_mem hl)).2
  have e2 : (⟨#[124, 124]⟩ : ByteArray).toList = [124, 124] := ByteArray.toList_mk [124, 124]
  rw [e, e2, List.drop_eq_getElem_cons hl, List.take_succ_cons]
  rw [beq_eq_false_iff_ne]
  intro hh
  injection hh with h1 h2
  exact hne h1
theorem parted_tame {l : Bs} (h : tame l) : Parted ⟨#[124, 124]⟩ (bytesOf l) [bytesOf l] := .last _ (first_bars h)
/-- the term of an operator and three numbers -/
def dtm (op : Bs) (a b c : Nat) : Tm := ⟨op, [], dv a b c⟩
def dtd (op : Bs) (a b c : Nat) : TD := ⟨op, (dv a b c).text, false, false, false, a, b, c, [], [], (dv a b c).text⟩
theorem dtm_ok {op : Bs} (h : op ∈ opTexts) (a b c : Nat) : (dtm op a b c).Ok := ⟨h, fun y hy => by simp [dtm] at hy, ok_pB (dv_ok a b c)⟩
theorem dtm_text (op : Bs) (a b c : Nat) : (dtm op a b c).text = op ++ (dv a b c).text := by simp [dtm, Tm.text]
theorem reads_dv (a b c : Nat) (ha : a < 18446744073709551616) (hb : b < 18446744073709551616) (hc : c < 18446744073709551616) : Reads (dv a b c).text a b c [] [] := fun w hT => by
  have hl := dv_len a b c ha hb hc
  exact tNewVer3 (dv a b c) (dv_ok a b c) _ _ rfl rfl rfl rfl a b c (parse_dec64 a ha) (parse_dec64 b hb) (parse_dec64 c hc) (by omega) w hT
theorem op_len {op : Bs} (h : op ∈ opTexts) : op.length ≤ 2 := by
  have : opTexts.all (fun o => decide (o.length ≤ 2)) = true := by decide
  simpa using List.all_eq_true.1 this op h
theorem gspec {op : Bs} (h : op ∈ opTexts) (a b c : Nat) (ha : a < 18446744073709551616) (hb : b < 18446744073709551616) (hc : c < 18446744073709551616) : GSpec (bytesOf (dtm op a b c).text) [(dtm op a b c).text] [dtd op a b c] := by
  have hl := dv_len a b c ha hb hc
  have ho := op_len h
  have hs : (bytesOf (dtm op a b c).text).size ≤ 1000 := by rw [bytesOf_size, dtm_text]; simp; omega
  have hok := dtm_ok h a b c
  have h0 : (dtm op a b c).op = [] → (dtm op a b c).blank = [] := fun _ => rfl
  refine ⟨fun w R PB IB icap hp hr hT => ?_, fun w R PB IB icap hp hr hT => ?_, rfl, by simp, by simp, fun i x t hx ht w hT => ?_⟩
  · exact validM hp hr hT hs (B := []) (l := []) (by simp) hok (fun x hx => by cases hx) (by rw [bytesOf_list]; simp [ltext, ltail])
  · exact findM hp hr hT hs (x := dtm op a b c) (l := []) hok (fun x hx => by cases hx) (by rw [bytesOf_list]; simp [ltext, ltail])
  · cases i with
    | succ i => simp at hx
    | zero =>
      obtain rfl : (dtm op a b c).text = x := by simpa using hx
      obtain rfl : dtd op a b c = t := by simpa using ht
      refine (t44full (dtm op a b c) (L := []) (RR := []) hs hok (by rw [bytesOf_list]; simp) (by simp) (by simp) h0 _ _ rfl rfl (dec_noX a) (dec_noX b) (dec_noX c) a b c [] [] (reads_dv a b c ha hb hc) w hT).mono ?_
      rintro e w' ⟨C, V, rfl, h1, h2, h3, h4, h5⟩
      exact ⟨C, rfl, h1, ⟨V, h3, h4⟩, h5⟩
/-- NewConstraint of an operator and three numbers -/
theorem t31one {op : Bs} (h : op ∈ opTexts) (a b c : Nat) (ha : a < 18446744073709551616) (hb : b < 18446744073709551616) (hc : c < 18446744073709551616) (w : World) (hT : Lib.Utf8Tabs 14 15 w) :
    Calls Tryz.prog 31 #[.string (bytesOf (op ++ (dv a b c).text))] w fun e w' => ∃ O, e = .returned (.tuple #[ptr O, .nilIface]) ∧ w.heap.size ≤ O ∧ ConsAt w' O [[dtd op a b c]] false ∧ Below w.heap.size w w' := by
  have hl := dv_len a b c ha hb hc
  have ho := op_len h
  have ht : tame (op ++ (dv a b c).text) := (tame_op h).app (tame_dv a b c)
  have hg := gspec h a b c ha hb hc
  rw [dtm_text] at hg
  refine t31 (bytesOf (op ++ (dv a b c).text)) (by rw [bytesOf_size]; simp; omega) (by rw [bytesOf_list]; exact ht.noWD) [bytesOf (op ++ (dv a b c).text)] (parted_tame ht) (by simp) [[op ++ (dv a b c).text]] [[dtd op a b c]] rfl rfl (fun k v tx ts h1 h2 h3 => ?_) w hT
  cases k with
  | succ k => simp at h1
  | zero =>
    obtain rfl : bytesOf (op ++ (dv a b c).text) = v := by simpa using h1
    obtain rfl : [op ++ (dv a b c).text] = tx := by simpa using h2
    obtain rfl : [dtd op a b c] = ts := by simpa using h3
    exact hg
end Go.Proofs.YtflcanlniddgoaaGreatDoor.Sv
end
section
set_option linter.unusedVariables false
set_option linter.unusedSimpArgs false
/- a version's text, the next versions -/
namespace Go.Proofs.YtflcanlniddgoaaGreatDoor.Sv
open Go Go.RowKit Rx
set_option maxRecDepth 100000
/-- the table of powers of ten -/
def Pow (w : World) : Prop := Lib.TabIs Tryz.prog w "internal/strconv.uint64pow10" .u64 Lib.pow10Tab
theorem tab_below {P : Program} {w w' : World} {name : String} {k : IntKind} {zs : List Int} (h : Lib.TabIs P w name k zs) (hb : Below w.heap.size w w') : Lib.TabIs P w' name k zs := by
  unfold Lib.TabIs World.var? at *
  cases hg : P.globalNamed name with
  | none => simp [hg] at h
  | some g =>
    simp only [hg, Option.bind_some] at h ⊢
    have hlt : g < w.heap.size := by
      rcases Nat.lt_or_ge g w.heap.size with h' | h'
      · exact h'
      · rw [Array.getElem?_eq_none h'] at h; simp at h
    rw [hb.block g hlt]
    exact h
theorem Pow.below {w w' : World} (h : Pow w) (hb : Below w.heap.size w w') : Pow w' := tab_below h hb
theorem Pow.drew {w : World} (h : Pow w) : Pow w.drew := h.below (Below.refl _ _).drew
theorem bytes_app (x y : Bs) : bytesOf x ++ bytesOf y = bytesOf (x ++ y) := by
  apply ByteArray.ext
  simp [bytesOf]
theorem dot_bytes : (⟨#[46]⟩ : ByteArray) = bytesOf [46] := rfl
theorem dot_size : (⟨#[46]⟩ : ByteArray).size = 1 := rfl
theorem add_yields {P : Program} {S : World → Prop} {x y : ByteArray} {t u : TypeId} (h : x.size + y.size < 1000000) : ∀ w, S w → (binOp .add t (.string x) (.string y)).run P w = .ok (.string (x ++ y)) w := by
  intro w _
  go_simp
  omega
def SS (w : World) (T a b c : Nat) (o : ByteArray) (w' : World) : Prop := w'.cell? ⟨T, 0, none⟩ = some (.int .u64 a) ∧ w'.cell? ⟨T, 1, none⟩ = some (.int .u64 b) ∧ w'.cell? ⟨T, 2, none⟩ = some (.int .u64 c) ∧ w'.cell? ⟨T, 3, none⟩ = some (.string e0) ∧ w'.cell? ⟨T, 4, none⟩ = some (.string e0) ∧ w'.cell? ⟨T, 5, none⟩ = some (.string o) ∧ Pow w' ∧ Below w.heap.size w w'
set_option maxHeartbeats 4000000 in
theorem tString (a b c : Nat) (o : ByteArray) (ha : a < 18446744073709551616) (hb : b < 18446744073709551616) (hc : c < 18446744073709551616) (w : World) (hP : Pow w) :
    Calls Tryz.prog 14 #[ver a b c e0 e0 o] w fun e w' => e = .returned (.string (bytesOf (dv a b c).text)) ∧ Below w.heap.size w w' := by
  have HF := Lib.hid (fun w (h : Pow w) => And.intro (tFmt a ha w h) (And.intro (tFmt b hb w h) (tFmt c hc w h)))
  have z1 : (bytesOf (Lib.decDigits a)).size < 100 := by rw [bytesOf_size]; have := nDigits_le a ha; omega
  have z2 : (bytesOf (Lib.decDigits b)).size < 100 := by rw [bytesOf_size]; have := nDigits_le b hb; omega
  have z3 : (bytesOf (Lib.decDigits c)).size < 100 := by rw [bytesOf_size]; have := nDigits_le c hc; omega
  clear ha hb hc
  have htx : (((bytesOf (Lib.decDigits a) ++ bytesOf [46]) ++ bytesOf (Lib.decDigits b)) ++ bytesOf [46]) ++ bytesOf (Lib.decDigits c) = bytesOf (dv a b c).text := by
    rw [dv_text]; simp [bytes_app]
  have HX := Lib.hid htx
  clear htx
  have HP := Lib.hid hP
  clear hP
  unfold ver
  go_enter Tryz.func14, Tryz.ntmps14
  go_upto_region 1 with fail
  have hh := heap_alloc_new w (.cells #[.int .u64 a, .int .u64 b, .int .u64 c, .string e0, .string e0, .string o] 33)
  have hS : SS w w.heap.size a b c o (w.alloc (.cells #[.int .u64 a, .int .u64 b, .int .u64 c, .string e0, .string e0, .string o] 33)) := ⟨by rw [cell_of_row _ _ _ _ _ _ hh]; rfl, by rw [cell_of_row _ _ _ _ _ _ hh]; rfl, by rw [cell_of_row _ _ _ _ _ _ hh]; rfl, by rw [cell_of_row _ _ _ _ _ _ hh]; rfl, by rw [cell_of_row _ _ _ _ _ _ hh]; rfl, by rw [cell_of_row _ _ _ _ _ _ hh]; rfl, HP.out.below ((Below.refl _ w).alloc (Nat.le_refl _) _), (Below.refl _ w).alloc (Nat.le_refl _) _⟩
  clear hh
  generalize (w.alloc (.cells #[.int .u64 a, .int .u64 b, .int .u64 c, .string e0, .string e0, .string o] 33)) = w0 at *
  obtain ⟨T, hT⟩ : ∃ T, w.heap.size = T := ⟨_, rfl⟩
  rw [hT] at hS
  simp only [hT]
  have HT := Lib.hid hT
  clear hT
  obtain ⟨q0, q1, q2, q3, q4, q5, q6, q7⟩ := hS
  refine wp_region_held_drew (S := (fun w' => w'.cell? ⟨T, 0, none⟩ = some (.int .u64 a) ∧ w'.cell? ⟨T, 1, none⟩ = some (.int .u64 b) ∧ w'.cell? ⟨T, 2, none⟩ = some (.int .u64 c) ∧ w'.cell? ⟨T, 3, none⟩ = some (.string e0) ∧ w'.cell? ⟨T, 4, none⟩ = some (.string e0) ∧ w'.cell? ⟨T, 5, none⟩ = some (.string o) ∧ Pow w' ∧ Below w.heap.size w w')) (by kernel_rfl) ⟨by first | assumption | (rw [World.cell?_drew]; assumption), by first | assumption | (rw [World.cell?_drew]; assumption), by first | assumption | (rw [World.cell?_drew]; assumption), by first | assumption | (rw [World.cell?_drew]; assumption), by first | assumption | (rw [World.cell?_drew]; assumption), by first | assumption | (rw [World.cell?_drew]; assumption), by first | assumption | exact Pow.drew (by assumption), by first | assumption | (refine Below.drew ?_; assumption)⟩ (fun hHeld => ?_)
  refine wpAnyH_take (i := 0) (oi := { dst := some 4, op := Op.fieldAddr 33 (Operand.tmp 1) 0, type := 0, pos := "version.go:332", after := #[], guard := none }) (v := ?_) rfl (by kernel_rfl) (by kernel_rfl) (by kernel_rfl) (fun _ _ _ h => h) (Or.inl ⟨by rfl, ?_⟩) (by assumption) ?_
  rotate_left
  · intro W hSw
    clear hSw
    go_simp
    try with_reducible rfl
  try simp only [Act.put, List.setIfInBounds_toArray, List.set_cons_zero, List.set_cons_succ]
  refine wpAnyH_take (i := 4) (oi := { dst := some 8, op := Op.fieldAddr 33 (Operand.tmp 1) 1, type := 0, pos := "version.go:332", after := #[], guard := none }) (v := ?_) rfl (by kernel_rfl) (by kernel_rfl) (by kernel_rfl) (fun _ _ _ h => h) (Or.inl ⟨by rfl, ?_⟩) (by assumption) ?_
  rotate_left
  · intro W hSw
    clear hSw
    go_simp
    try with_reducible rfl
  try simp only [Act.put, List.setIfInBounds_toArray, List.set_cons_zero, List.set_cons_succ]
  refine wpAnyH_take (i := 9) (oi := { dst := some 13, op := Op.fieldAddr 33 (Operand.tmp 1) 2, type := 0, pos := "version.go:332", after := #[], guard := none }) (v := ?_) rfl (by kernel_rfl) (by kernel_rfl) (by kernel_rfl) (fun _ _ _ h => h) (Or.inl ⟨by rfl, ?_⟩) (by assumption) ?_
  rotate_left
  · intro W hSw
    clear hSw
    go_simp
    try with_reducible rfl
  try simp only [Act.put, List.setIfInBounds_toArray, List.set_cons_zero, List.set_cons_succ]
  refine wpAnyH_take (i := 1) (oi := { dst := some 5, op := Op.load 22 (Operand.tmp 4), type := 22, pos := "version.go:332", after := #[{ on := 0, ground := Ground.data }], guard := none }) (v := ?_) rfl (by kernel_rfl) (by kernel_rfl) (by kernel_rfl) (fun _ _ _ h => h) (Or.inl ⟨by rfl, ?_⟩) (by assumption) ?_
  rotate_left
  · intro W hSw
    obtain ⟨s0, s1, s2, s3, s4, s5, s6, s7⟩ := hSw
    go_simp
    try with_reducible rfl
  try simp only [Act.put, List.setIfInBounds_toArray, List.set_cons_zero, List.set_cons_succ]
  refine wpAnyH_take (i := 5) (oi := { dst := some 9, op := Op.load 22 (Operand.tmp 8), type := 22, pos := "version.go:332", after := #[{ on := 4, ground := Ground.data }], guard := none }) (v := ?_) rfl (by kernel_rfl) (by kernel_rfl) (by kernel_rfl) (fun _ _ _ h => h) (Or.inl ⟨by rfl, ?_⟩) (by assumption) ?_
  rotate_left
  · intro W hSw
    obtain ⟨s0, s1, s2, s3, s4, s5, s6, s7⟩ := hSw
    go_simp
    try with_reducible rfl
  try simp only [Act.put, List.setIfInBounds_toArray, List.set_cons_zero, List.set_cons_succ]
  refine wpAnyH_take (i := 10) (oi := { dst := some 14, op := Op.load 22 (Operand.tmp 13), type := 22, pos := "version.go:332", after := #[{ on := 9, ground := Ground.data }], guard := none }) (v := ?_) rfl (by kernel_rfl) (by kernel_rfl) (by kernel_rfl) (fun _ _ _ h => h) (Or.inl ⟨by rfl, ?_⟩) (by assumption) ?_
  rotate_left
  · intro W hSw
    obtain ⟨s0, s1, s2, s3, s4, s5, s6, s7⟩ := hSw
    go_simp
    try with_reducible rfl
  try simp only [Act.put, List.setIfInBounds_toArray, List.set_cons_zero, List.set_cons_succ]
  refine wpAnyH_ready (rs := [2]) (by kernel_rfl) (by simp) ?_
  refine (AllReadyH.cons (o := { dst := some 6, op := Op.call { callee := Callee.value (Operand.func 24), args := #[Operand.tmp 5, Operand.const (Value.int IntKind.i64 10)], argTypes := #[22, 3] }, type := 9, pos := "version.go:332", after := #[{ on := 1, ground := Ground.data }], guard := none }) rfl (fun K hK => ?_) AllReadyH.nil)
  go_simp
  (go_at_call 24; (with_reducible refine ((HF.out _ (by first | assumption | exact Pow.drew (by assumption))).1).mono ?_); rintro e w1 ⟨rfl, hb⟩; have HS2 : SS w T a b c o w1 := ⟨keepc hb (by first | assumption | (rw [World.cell?_drew]; assumption)), keepc hb (by first | assumption | (rw [World.cell?_drew]; assumption)), keepc hb (by first | assumption | (rw [World.cell?_drew]; assumption)), keepc hb (by first | assumption | (rw [World.cell?_drew]; assumption)), keepc hb (by first | assumption | (rw [World.cell?_drew]; assumption)), keepc hb (by first | assumption | (rw [World.cell?_drew]; assumption)), Pow.below (by first | assumption | exact Pow.drew (by assumption)) hb, belk hb (by first | assumption | (refine Below.drew ?_; assumption))⟩; clear hb; obtain ⟨q0, q1, q2, q3, q4, q5, q6, q7⟩ := HS2)
  refine hK.out _ _ ⟨by assumption, by assumption, by assumption, by assumption, by assumption, by assumption, by assumption, by assumption⟩ (fun hHeld => ?_)
  clear hK K
  try simp only [Act.put, List.setIfInBounds_toArray, List.set_cons_zero, List.set_cons_succ]
  refine wpAnyH_take (i := 3) (oi := { dst := some 7, op := Op.binOp BinOp.add 9 (Operand.tmp 6) (Operand.const (Value.string { data := #[46] })) 9, type := 9, pos := "version.go:332", after := #[{ on := 2, ground := Ground.data }], guard := none }) (v := .string (bytesOf (Lib.decDigits a) ++ ⟨#[46]⟩)) rfl (by kernel_rfl) (by kernel_rfl) (by kernel_rfl) (fun _ _ _ h => h) (Or.inl ⟨by rfl, ?sz3⟩) (by assumption) ?_
  case sz3 => (intro W hSw; clear hSw; go_simp; (try simp only [ByteArray.size_append, dot_size]); omega)
  try simp only [Act.put, List.setIfInBounds_toArray, List.set_cons_zero, List.set_cons_succ]
  refine wpAnyH_ready (rs := [6]) (by kernel_rfl) (by simp) ?_
  refine (AllReadyH.cons (o := { dst := some 10, op := Op.call { callee := Callee.value (Operand.func 24), args := #[Operand.tmp 9, Operand.const (Value.int IntKind.i64 10)], argTypes := #[22, 3] }, type := 9, pos := "version.go:332", after := #[{ on := 5, ground := Ground.data }, { on := 2, ground := Ground.chain }], guard := none }) rfl (fun K hK => ?_) AllReadyH.nil)
  go_simp
  (go_at_call 24; (with_reducible refine ((HF.out _ (by first | assumption | exact Pow.drew (by assumption))).2.1).mono ?_); rintro e w2 ⟨rfl, hb⟩; have HS2 : SS w T a b c o w2 := ⟨keepc hb (by first | assumption | (rw [World.cell?_drew]; assumption)), keepc hb (by first | assumption | (rw [World.cell?_drew]; assumption)), keepc hb (by first | assumption | (rw [World.cell?_drew]; assumption)), keepc hb (by first | assumption | (rw [World.cell?_drew]; assumption)), keepc hb (by first | assumption | (rw [World.cell?_drew]; assumption)), keepc hb (by first | assumption | (rw [World.cell?_drew]; assumption)), Pow.below (by first | assumption | exact Pow.drew (by assumption)) hb, belk hb (by first | assumption | (refine Below.drew ?_; assumption))⟩; clear hb; obtain ⟨q0, q1, q2, q3, q4, q5, q6, q7⟩ := HS2)
  refine hK.out _ _ ⟨by assumption, by assumption, by assumption, by assumption, by assumption, by assumption, by assumption, by assumption⟩ (fun hHeld => ?_)
  clear hK K
  try simp only [Act.put, List.setIfInBounds_toArray, List.set_cons_zero, List.set_cons_succ]
  refine wpAnyH_take (i := 7) (oi := { dst := some 11, op := Op.binOp BinOp.add 9 (Operand.tmp 7) (Operand.tmp 10) 9, type := 9, pos := "version.go:332", after := #[{ on := 3, ground := Ground.data }, { on := 6, ground := Ground.data }], guard := none }) (v := .string ((bytesOf (Lib.decDigits a) ++ ⟨#[46]⟩) ++ bytesOf (Lib.decDigits b))) rfl (by kernel_rfl) (by kernel_rfl) (by kernel_rfl) (fun _ _ _ h => h) (Or.inl ⟨by rfl, ?sz7⟩) (by assumption) ?_
  case sz7 => (intro W hSw; clear hSw; go_simp; (try simp only [ByteArray.size_append, dot_size]); omega)
  try simp only [Act.put, List.setIfInBounds_toArray, List.set_cons_zero, List.set_cons_succ]
  refine wpAnyH_take (i := 8) (oi := { dst := some 12, op := Op.binOp BinOp.add 9 (Operand.tmp 11) (Operand.const (Value.string { data := #[46] })) 9, type := 9, pos := "version.go:332", after := #[{ on := 7, ground := Ground.data }], guard := none }) (v := .string (((bytesOf (Lib.decDigits a) ++ ⟨#[46]⟩) ++ bytesOf (Lib.decDigits b)) ++ ⟨#[46]⟩)) rfl (by kernel_rfl) (by kernel_rfl) (by kernel_rfl) (fun _ _ _ h => h) (Or.inl ⟨by rfl, ?sz8⟩) (by assumption) ?_
  case sz8 => (intro W hSw; clear hSw; go_simp; (try simp only [ByteArray.size_append, dot_size]); omega)
  try simp only [Act.put, List.setIfInBounds_toArray, List.set_cons_zero, List.set_cons_succ]
  refine wpAnyH_ready (rs := [11]) (by kernel_rfl) (by simp) ?_
  refine (AllReadyH.cons (o := { dst := some 15, op := Op.call { callee := Callee.value (Operand.func 24), args := #[Operand.tmp 14, Operand.const (Value.int IntKind.i64 10)], argTypes := #[22, 3] }, type := 9, pos := "version.go:332", after := #[{ on := 10, ground := Ground.data }, { on := 6, ground := Ground.chain }], guard := none }) rfl (fun K hK => ?_) AllReadyH.nil)
  go_simp
  (go_at_call 24; (with_reducible refine ((HF.out _ (by first | assumption | exact Pow.drew (by assumption))).2.2).mono ?_); rintro e w3 ⟨rfl, hb⟩; have HS2 : SS w T a b c o w3 := ⟨keepc hb (by first | assumption | (rw [World.cell?_drew]; assumption)), keepc hb (by first | assumption | (rw [World.cell?_drew]; assumption)), keepc hb (by first | assumption | (rw [World.cell?_drew]; assumption)), keepc hb (by first | assumption | (rw [World.cell?_drew]; assumption)), keepc hb (by first | assumption | (rw [World.cell?_drew]; assumption)), keepc hb (by first | assumption | (rw [World.cell?_drew]; assumption)), Pow.below (by first | assumption | exact Pow.drew (by assumption)) hb, belk hb (by first | assumption | (refine Below.drew ?_; assumption))⟩; clear hb; obtain ⟨q0, q1, q2, q3, q4, q5, q6, q7⟩ := HS2)
  refine hK.out _ _ ⟨by assumption, by assumption, by assumption, by assumption, by assumption, by assumption, by assumption, by assumption⟩ (fun hHeld => ?_)
  clear hK K
  try simp only [Act.put, List.setIfInBounds_toArray, List.set_cons_zero, List.set_cons_succ]
  refine wpAnyH_take (i := 12) (oi := { dst := some 16, op := Op.binOp BinOp.add 9 (Operand.tmp 12) (Operand.tmp 15) 9, type := 9, pos := "version.go:332", after := #[{ on := 8, ground := Ground.data }, { on := 11, ground := Ground.data }], guard := none }) (v := .string ((((bytesOf (Lib.decDigits a) ++ ⟨#[46]⟩) ++ bytesOf (Lib.decDigits b)) ++ ⟨#[46]⟩) ++ bytesOf (Lib.decDigits c))) rfl (by kernel_rfl) (by kernel_rfl) (by kernel_rfl) (fun _ _ _ h => h) (Or.inl ⟨by rfl, ?sz12⟩) (by assumption) ?_
  case sz12 => (intro W hSw; clear hSw; go_simp; (try simp only [ByteArray.size_append, dot_size]); omega)
  try simp only [Act.put, List.setIfInBounds_toArray, List.set_cons_zero, List.set_cons_succ]
  refine wpAnyH_take (i := 13) (oi := { dst := some 3, op := Op.assign (Operand.tmp 16), type := 9, pos := "version.go:332", after := #[{ on := 12, ground := Ground.data }, { on := 11, ground := Ground.chain }, { on := 0, ground := Ground.phase }, { on := 1, ground := Ground.phase }, { on := 2, ground := Ground.phase }, { on := 3, ground := Ground.phase }, { on := 4, ground := Ground.phase }, { on := 5, ground := Ground.phase }, { on := 6, ground := Ground.phase }, { on := 7, ground := Ground.phase }, { on := 8, ground := Ground.phase }, { on := 9, ground := Ground.phase }, { on := 10, ground := Ground.phase }, { on := 11, ground := Ground.phase }, { on := 12, ground := Ground.phase }], guard := none }) (v := ?_) rfl (by kernel_rfl) (by kernel_rfl) (by kernel_rfl) (fun _ _ _ h => h) (Or.inl ⟨by rfl, ?_⟩) (by assumption) ?_
  rotate_left
  · intro W hSw
    clear hSw
    go_simp
    try with_reducible rfl
  try simp only [Act.put, List.setIfInBounds_toArray, List.set_cons_zero, List.set_cons_succ]
  refine wpAnyH_done (by kernel_rfl) ?_ _
  clear hHeld
  go_wp2
  go_ret
  exact ⟨congrArg (fun s => Ending.returned (Value.string s)) HX.out, by assumption⟩
end Go.Proofs.YtflcanlniddgoaaGreatDoor.Sv
end
