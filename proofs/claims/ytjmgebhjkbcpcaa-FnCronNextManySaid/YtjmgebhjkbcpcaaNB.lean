/- contracts of the time functions. -/
import Derived.Test.YtjmgebhjkbcpcaaProg
import Derived.WalkKit
import Derived.WalkLawsBesides
import Derived.WalkSpells
import Derived.KernelRfl
import Derived.Deep.RegionWith
import Derived.Test.YtjmgebhjkbcpcaaNA
import Derived.Lib.Hide
import Derived.Deep.QuietTactic
import Derived.BigQuiet
set_option linter.unusedVariables false
set_option linter.unusedSimpArgs false
namespace Go.Proofs.Ytjmgebhjkbcpcaa.NM
open Go.RowKit
theorem u64wrap_small (n : Int) (h0 : 0 ≤ n) (h1 : n < 18446744073709551616) : IntKind.u64.wrap n = n := by
  simp [IntKind.wrap, IntKind.bits, IntKind.signed]; omega
theorem wraps_u64 (n : Int) (h₀ : 0 ≤ n) (h₁ : n < 2 ^ 64) : IntKind.u64.wrap n = n := u64wrap_small n h₀ (by omega)
theorem bits_big (n : Int) (h0 : 0 ≤ n) (h1 : n < 1073741824) : (bits BinOp.and IntKind.u64 n 9223372036854775808 != 0) = false := by
  obtain ⟨a, rfl⟩ := Int.eq_ofNat_of_zero_le h0
  have h := (bits_nat .u64 64 (by decide) wraps_u64 a 9223372036854775808 (by omega) (by omega)).1
  have e : a &&& 9223372036854775808 = 0 := by
    apply Nat.eq_of_testBit_eq
    intro i
    rw [Nat.testBit_and, Nat.zero_testBit, show (9223372036854775808 : Nat) = 2 ^ 63 by decide, Nat.testBit_two_pow]
    by_cases hi : 63 = i
    · subst hi
      rw [Nat.testBit_lt_two_pow (by omega : a < 2 ^ 63)]; rfl
    · simp [hi]
  rw [e] at h
  rw [show ((9223372036854775808 : Int)) = ((9223372036854775808 : Nat) : Int) from rfl, h]; rfl
theorem bits_low (n : Int) (h0 : 0 ≤ n) (h1 : n < 1073741824) : bits BinOp.and IntKind.u64 n 1073741823 = n := by
  have h := bits_mask .u64 64 (by decide) wraps_u64 30 (by decide) n h0 (by omega)
  rw [show (2 : Int) ^ 30 - 1 = 1073741823 by decide, show (2 : Int) ^ 30 = 1073741824 by decide] at h
  rw [h]; omega
theorem bits_clr (n : Int) (h0 : 0 ≤ n) (h1 : n < 1073741824) : bits BinOp.andNot IntKind.u64 n 1073741823 = 0 := by
  obtain ⟨a, rfl⟩ := Int.eq_ofNat_of_zero_le h0
  unfold bits
  have : (BitVec.ofInt 64 (a : Int)) &&& ~~~(BitVec.ofInt 64 1073741823) = 0#64 := by
    apply BitVec.eq_of_getLsbD_eq
    intro i hi
    simp only [BitVec.ofInt_natCast, BitVec.getLsbD_and, BitVec.getLsbD_not, BitVec.getLsbD_ofNat]
    by_cases h30 : i < 30
    · have h1 : (BitVec.ofInt 64 1073741823).getLsbD i = true := by
        rw [show (BitVec.ofInt 64 1073741823) = BitVec.ofNat 64 (2 ^ 30 - 1) by decide, BitVec.getLsbD_ofNat, Nat.testBit_two_pow_sub_one]
        simp [hi, h30]
      rw [h1]; simp
    · have h2 : a.testBit i = false := Nat.testBit_lt_two_pow (Nat.lt_of_lt_of_le (show a < 2 ^ 30 by omega) (Nat.pow_le_pow_right (by decide) (by omega)))
      rw [h2]; simp
  show IntKind.u64.wrap (((BitVec.ofInt 64 (a : Int)) &&& ~~~(BitVec.ofInt 64 1073741823)).toNat : Int) = 0
  rw [this]; rfl
theorem bits_or0 (n : Int) (h0 : 0 ≤ n) (h1 : n < 1073741824) : bits BinOp.or IntKind.u64 0 n = n := by
  have := bits_join .u64 64 (by decide) wraps_u64 30 0 n (by decide) (by decide) (by decide) h0 (by omega) (by omega)
  omega
theorem bcell {W w1 : World} (hb : Below W.heap.size W w1) : (∀ b o, b < W.heap.size → w1.cell? ⟨b, o, none⟩ = W.cell? ⟨b, o, none⟩) ∧ (∀ b o, b < W.heap.size → w1.frozen? ⟨b, o, none⟩ = W.frozen? ⟨b, o, none⟩) :=
  ⟨fun b o h => hb.cell (p := ⟨b, o, none⟩) h, fun b o h => hb.frozen (p := ⟨b, o, none⟩) h⟩
theorem bA {w W : World} (h : Below w.heap.size w W) (o : Obj) : Below w.heap.size w (W.alloc o) := h.alloc h.size o
theorem ret_int {k : IntKind} {a b : Int} (h : a = b) : Ending.returned (.int k a) = .returned (.int k b) := by rw [h]
/-- a time of the years 1 to 30000: the two facts on its nanoseconds that the walk asks for -/
structure Nan (n : Int) : Prop where
  lo : 0 ≤ n
  hi : n < 1000000000
theorem tUnix (n x : Int) (L : Option Addr) (hn : Nan n) (h0 : -20000000 ≤ x) (h1 : x ≤ 4000000000000) (w : World) :
    Calls Try.prog 32 #[.agg #[.int .u64 n, .int .i64 x, .pointer L]] w fun e w' => e = .returned (.int .i64 (x - 62135596800)) ∧ Below w.heap.size w w' := by
  have hA := bits_big n hn.1 (by have := hn.2; omega)
  clear hn
  go_enter Try.func32, Try.ntmps32
  go_wp2
  go_ret
  exact ⟨rfl, bA (Below.refl _ _) _⟩
theorem tNano (n x : Int) (L : Option Addr) (hn : Nan n) (w : World) :
    Calls Try.prog 33 #[.agg #[.int .u64 n, .int .i64 x, .pointer L]] w fun e w' => e = .returned (.int .i64 n) ∧ Below w.heap.size w w' := by
  obtain ⟨h0, h1⟩ := hn
  have hB := bits_low n h0 (by omega)
  go_enter Try.func33, Try.ntmps33
  go_wp2
  go_ret
  exact ⟨rfl, bA (Below.refl _ _) _⟩
theorem tUnixTime (s n : Int) (h0 : -62165596800 ≤ s) (h1 : s ≤ 3000000000000) (hn0 : 0 ≤ n) (hn1 : n < 1000000000) (w : World) :
    Calls Try.prog 30 #[.int .i64 s, .int .i32 n] w fun e w' => e = .returned (.agg #[.int .u64 n, .int .i64 (s + 62135596800), .pointer none]) ∧ Below w.heap.size w w' := by
  go_enter Try.func30, Try.ntmps30
  go_wp2
  exact bodyPost_ret (v := .agg #[.int .u64 n, .int .i64 (s + 62135596800), .pointer none]) (by simp [results, Try.results30, go_sem]) rfl ⟨rfl, bA (Below.refl _ _) _⟩
theorem tMkUnix (s n : Int) (h0 : -62135596800 ≤ s) (h1 : s ≤ 3000000000000) (hn0 : 0 ≤ n) (hn1 : n < 1000000000) (w : World) :
    Calls Try.prog 19 #[.int .i64 s, .int .i64 n] w fun e w' => e = .returned (.agg #[.int .u64 n, .int .i64 (s + 62135596800), .pointer none]) ∧ Below w.heap.size w w' := by
  have q1 : decide (n < 0) = false := by simp; omega
  have q2 : decide (1000000000 ≤ n) = false := by simp; omega
  go_enter Try.func19, Try.ntmps19
  go_wp2
  refine bodyPost_ret (v := .agg #[.int .u64 n, .int .i64 (s + 62135596800), .pointer none]) (by simp [results, Try.results30, go_sem]) rfl ?_
  go_wp2
  exact bodyPost_ret (v := .agg #[.int .u64 n, .int .i64 (s + 62135596800), .pointer none]) (by simp [results, Try.results19, go_sem]) rfl ⟨rfl, by first | exact bA (bA (Below.refl _ _) _) _ | exact bA (Below.refl _ _) _⟩
theorem tIsZero (n x : Int) (L : Option Addr) (h : (x == 0) = false) (w : World) :
    Calls Try.prog 23 #[.agg #[.int .u64 n, .int .i64 x, .pointer L]] w fun e w' => e = .returned (.bool false) ∧ Below w.heap.size w w' := by
  by_cases hn : n = 0
  · have hq : (n == 0) = true := by simp [hn]
    clear hn
    go_enter Try.func23, Try.ntmps23
    go_wp2
    go_ret
    exact ⟨rfl, bA (Below.refl _ _) _⟩
  · have hq : (n == 0) = false := by simp [hn]
    clear hn
    go_enter Try.func23, Try.ntmps23
    go_wp2
    go_ret
    exact ⟨rfl, bA (Below.refl _ _) _⟩
theorem tIsZero0 (L : Option Addr) (w : World) :
    Calls Try.prog 23 #[.agg #[.int .u64 0, .int .i64 0, .pointer L]] w fun e w' => e = .returned (.bool true) ∧ Below w.heap.size w w' := by
  go_enter Try.func23, Try.ntmps23
  go_wp2
  go_ret
  exact ⟨rfl, bA (Below.refl _ _) _⟩
theorem tUTC (w : World) :
    Calls Try.prog 21 #[] w fun e w' => e = .returned (.pointer (some ⟨w.heap.size, 0, none⟩)) ∧ w.alloc (.cells #[.bool true, .string ⟨#[85, 84, 67]⟩, .slice none 0 0, .slice none 0 0, .string ⟨#[]⟩, .int .i64 0, .int .i64 0, .pointer none] 86) = w' := by
  go_enter Try.func21, Try.ntmps21
  go_wp2
  go_ret
  exact ⟨rfl, rfl⟩
end Go.Proofs.Ytjmgebhjkbcpcaa.NM
set_option linter.unusedVariables false
set_option linter.unusedSimpArgs false
namespace Go.Proofs.Ytjmgebhjkbcpcaa.NM
open Go.RowKit Cal
theorem ret_tuple2 {a b a' b' : Value} (h : a = a') (h' : b = b') : Ending.returned (.tuple #[a, b]) = .returned (.tuple #[a', b']) := by rw [h, h']
theorem ret_tuple3 {a b c a' b' c' : Value} (h : a = a') (h' : b = b') (h'' : c = c') : Ending.returned (.tuple #[a, b, c]) = .returned (.tuple #[a', b', c']) := by rw [h, h', h'']
theorem int_eq {k : IntKind} {a b : Int} (h : a = b) : Value.int k a = .int k b := by rw [h]
theorem u64_of_i64 (y : Int) (h0 : 0 ≤ y) (h1 : y < 18446744073709551616) : IntKind.u64.wrap (wrap64 y) = y := by
  simp [IntKind.wrap, IntKind.bits, IntKind.signed, wrap64]; omega
/-- The instant's seconds on the clocks, from the beginning of the count of days. -/
theorem absUTC (n x : Int) (hn : Nan n) (h0 : -20000000 ≤ x) (h1 : x ≤ 4000000000000) (w : World) :
    Calls Try.prog 81 #[.agg #[.int .u64 n, .int .i64 x, .pointer none]] w fun e w' => e = .returned (.int .u64 (x - 62135596800 + 9223372028741760000)) ∧ Below w.heap.size w w' := by
  have hA := bits_big n hn.1 (by have := hn.2; omega)
  clear hn
  go_enter Try.func81, Try.ntmps81
  go_wp2
  go_ret
  exact ⟨ret_int (u64_of_i64 _ (by omega) (by omega)), bA (bA (Below.refl _ _) _) _⟩
theorem days_any (a : Int) (h0 : 0 ≤ a) (h1 : a < 18446744073709551616) (w : World) :
    Calls Try.prog 82 #[.int .u64 a] w fun e w' => e = .returned (.int .u64 (a / 86400)) ∧ w = w' := by
  go_enter Try.func82, Try.ntmps82
  go_wp2
  go_ret
  exact ⟨rfl, rfl⟩
theorem bits_or3 (x : Int) (h0 : 0 ≤ x) (h1 : x < 4294967296) : bits BinOp.or IntKind.u32 x 3 = 4 * (x / 4) + 3 := by
  obtain ⟨a, rfl⟩ := Int.eq_ofNat_of_zero_le h0
  have h := (bits_nat .u32 32 (by decide) (fun n a b => by rw [IntKind.wrap_u32]; omega) a 3 (by omega) (by decide)).2
  have e : a ||| 3 = 4 * (a / 4) + 3 := by
    apply Nat.eq_of_testBit_eq
    intro i
    rw [Nat.testBit_or, show 4 * (a / 4) = 2 ^ 2 * (a / 4) by rfl, Nat.testBit_two_pow_mul_add _ (by decide : 3 < 2 ^ 2)]
    split
    · rename_i hi
      have : i = 0 ∨ i = 1 := by omega
      rcases this with rfl | rfl
      · simp
      · simp [show Nat.testBit 3 1 = true by decide]
    · rename_i hi
      rw [show (3 : Nat) = 2 ^ 2 - 1 by decide, Nat.testBit_two_pow_sub_one, show a / 4 = a / 2 ^ 2 by rfl, Nat.testBit_div_two_pow]
      simp [hi, show i - 2 + 2 = i by omega]
  have : bits BinOp.or IntKind.u32 (a : Int) 3 = ((a ||| 3 : Nat) : Int) := h
  rw [this, e]; omega
theorem split_math (q : Int) (h0 : 0 ≤ q) (h1 : q < 146097) :
    2939745 * (4 * (q / 4) + 3) / 4294967296 = (4 * (q / 4) + 3) / 1461 ∧
    2939745 * (4 * (q / 4) + 3) % 4294967296 / 2939745 = (4 * (q / 4) + 3) % 1461 := by
  obtain ⟨r, hr⟩ : ∃ r, r = 4 * (q / 4) + 3 := ⟨_, rfl⟩
  have hr0 : 0 ≤ r := by omega
  have hr1 : r ≤ 146099 := by omega
  rw [← hr]
  clear hr h0 h1
  obtain ⟨u, v, hs, hv0, hv1⟩ : ∃ u v : Int, r = 1461 * u + v ∧ 0 ≤ v ∧ v ≤ 1460 := ⟨r / 1461, r % 1461, by omega, by omega, by omega⟩
  have e : 2939745 * r = 4294967296 * u + (149 * u + 2939745 * v) := by omega
  have hu : 0 ≤ u ∧ u ≤ 99 := by omega
  rw [e]
  have e1 : (4294967296 * u + (149 * u + 2939745 * v)) / 4294967296 = u := by omega
  have e2 : (4294967296 * u + (149 * u + 2939745 * v)) % 4294967296 = 149 * u + 2939745 * v := by omega
  rw [e1, e2]
  constructor
  · omega
  · have : (149 * u + 2939745 * v) / 2939745 = v := by omega
    omega
theorem split_any (n : Int) (h0 : -1000000 ≤ n) (h1 : n ≤ 100000000) (w : World) :
    Calls Try.prog 83 #[.int .u64 (n + 106751991073400)] w fun e w' => e = .returned (.tuple #[.int .u64 (gc n + 2922770224), .int .i64 (gcy n), .int .i64 (gyd n)]) ∧ w = w' := by
  have hq := bits_or3 ((4 * (n + 106751991073400) + 3) % 146097) (by omega) (by omega)
  go_enter Try.func83, Try.ntmps83
  go_wp2
  go_ret3
  have hm := split_math ((4 * (n + 106751991073400) + 3) % 146097) (by omega) (by omega)
  refine ⟨ret_tuple3 (int_eq ?_) (int_eq ?_) (int_eq ?_), rfl⟩
  · unfold gc; omega
  · unfold gcy gr
    rw [hm.1, show (4 * (n + 106751991073400) + 3) % 146097 = (4 * (n + 719468) + 3) % 146097 by omega]
  · unfold gyd gr
    rw [hm.2, show (4 * (n + 106751991073400) + 3) % 146097 = (4 * (n + 719468) + 3) % 146097 by omega]
theorem ysplit_any (a : Int) (h0 : 0 ≤ a) (h1 : a < 366) (w : World) :
    Calls Try.prog 84 #[.int .i64 a] w fun e w' => e = .returned (.tuple #[.int .i64 ((2141 * a + 197913) / 65536), .int .i64 ((2141 * a + 197913) % 65536 / 2141 + 1)]) ∧ w = w' := by
  have hq : bits BinOp.and IntKind.u32 (2141 * a + 197913) 65535 = (2141 * a + 197913) % 65536 :=
    bits_mask .u32 32 (by decide) (fun n a b => by rw [IntKind.wrap_u32]; omega) 16 (by decide) _ (by omega) (by omega)
  go_enter Try.func84, Try.ntmps84
  go_wp2
  go_ret2
  exact ⟨ret_tuple2 rfl (int_eq (by omega)), rfl⟩
theorem janFeb_any (a : Int) (h0 : 0 ≤ a) (h1 : a < 366) (w : World) :
    Calls Try.prog 85 #[.int .i64 a] w fun e w' => e = .returned (.int .i64 (if 306 ≤ a then 1 else 0)) ∧ w = w' := by
  go_enter Try.func85, Try.ntmps85
  go_wp2
  · go_ret
    exact ⟨rfl, rfl⟩
  · go_ret
    exact ⟨rfl, rfl⟩
theorem cyear_any (c cy j : Int) (w : World) (h0 : -100000 ≤ c) (h1 : c ≤ 1000000) (h2 : 0 ≤ cy) (h3 : cy ≤ 100) (h4 : 0 ≤ j) (h5 : j ≤ 1) :
    Calls Try.prog 86 #[.int .u64 (c + 2922770224), .int .i64 cy, .int .i64 j] w fun e w' => e = .returned (.int .i64 (100 * c + cy + j)) ∧ w = w' := by
  go_enter Try.func86, Try.ntmps86
  go_wp2
  go_ret
  refine ⟨ret_int ?_, rfl⟩
  simp [IntKind.wrap, IntKind.bits, IntKind.signed, wrap64]; omega
theorem month_any (c j : Int) (w : World) (h0 : 0 ≤ c) (h1 : c ≤ 100) (h4 : 0 ≤ j) (h5 : j ≤ 1) :
    Calls Try.prog 87 #[.int .i64 c, .int .i64 j] w fun e w' => e = .returned (.int .i64 (c - 12 * j)) ∧ w = w' := by
  go_enter Try.func87, Try.ntmps87
  go_wp2
  go_ret
  exact ⟨ret_int (by omega), rfl⟩
theorem weekday_any (n : Int) (w : World) (h0 : -1000000 ≤ n) (h1 : n ≤ 100000000) :
    Calls Try.prog 100 #[.int .u64 (n + 106751991073400)] w fun e w' => e = .returned (.int .i64 ((n + 4) % 7)) ∧ w = w' := by
  go_enter Try.func100, Try.ntmps100
  go_wp2
  go_ret
  exact ⟨ret_int (by omega), rfl⟩
theorem clock_any (a : Int) (h0 : 0 ≤ a) (h1 : a < 18446744073709551616)  (w : World) :
    Calls Try.prog 99 #[.int .u64 a] w fun e w' => e = .returned (.tuple #[.int .i64 (a % 86400 / 3600), .int .i64 (a % 3600 / 60), .int .i64 (a % 60)]) ∧ w = w' := by
  go_enter Try.func99, Try.ntmps99
  go_wp2
  go_ret3
  exact ⟨ret_tuple3 rfl (int_eq (by omega)) (int_eq (by omega)), rfl⟩
end Go.Proofs.Ytjmgebhjkbcpcaa.NM
set_option linter.unusedVariables false
set_option linter.unusedSimpArgs false
namespace Go.Proofs.Ytjmgebhjkbcpcaa.NM
open Go.RowKit Cal
structure Zone where
  ws : List Int
  ix : List Int
  os : List Int
def offFrom (os : List Int) (s : Int) : List Int → List Int → Int → Int
  | w :: ws, k :: ks, acc => offFrom os s ws ks (if w ≤ s then os.getD k.toNat 0 else acc)
  | _, _, acc => acc
/-- ahead of all instants that int64 has: as at the first -/
def Zone.off (z : Zone) (s : Int) : Int := offFrom z.os s z.ws z.ix (z.os.getD (z.ix.getD 0 0).toNat 0)
structure Zone.Good (z : Zone) : Prop where
  n0 : 0 < z.ws.length
  n1 : z.ws.length ≤ 4096
  k0 : 0 < z.os.length
  k1 : z.os.length ≤ 64
  li : z.ix.length = z.ws.length
  first : z.ws.getD 0 0 = -9223372036854775808
  sorted : ∀ i, i + 1 < z.ws.length → z.ws.getD i 0 < z.ws.getD (i + 1) 0
  idx : ∀ i, i < z.ws.length → 0 ≤ z.ix.getD i 0 ∧ z.ix.getD i 0 < z.os.length
  offs : ∀ i, i < z.os.length → -86400 ≤ z.os.getD i 0 ∧ z.os.getD i 0 ≤ 86400
structure ZoneAt (w : World) (b : Nat) (z : Zone) (g1 g2 k1 k2 : Nat) : Prop where
  c0 : w.cell? ⟨b, 0, none⟩ = some (.bool false)
  c2 : w.cell? ⟨b, 2, none⟩ = some (.slice (some ⟨g1, 0, none⟩) z.os.length k1)
  c3 : w.cell? ⟨b, 3, none⟩ = some (.slice (some ⟨g2, 0, none⟩) z.ws.length k2)
  c7 : w.cell? ⟨b, 7, none⟩ = some (.pointer none)
  zn : ∀ i, i < z.os.length → w.cell? ⟨g1, i * 3, none⟩ = some (.string ⟨#[122, 111, 110, 101]⟩) ∧ w.cell? ⟨g1, i * 3 + 1, none⟩ = some (.int .i64 (z.os.getD i 0)) ∧ ∃ d, w.cell? ⟨g1, i * 3 + 2, none⟩ = some (.bool d)
  tr : ∀ i, i < z.ws.length → w.cell? ⟨g2, i * 4, none⟩ = some (.int .i64 (z.ws.getD i 0)) ∧ w.cell? ⟨g2, i * 4 + 1, none⟩ = some (.int .u8 (z.ix.getD i 0))

theorem bN {B : Nat} {w W : World} (h : Below B w W) (n : Nat) : Below B w (W.drewN n) := ⟨h.os, h.tape, h.output, h.size, h.block⟩
theorem offFrom_cons (os : List Int) (s w k acc : Int) (ws ks : List Int) : offFrom os s (w :: ws) (k :: ks) acc = offFrom os s ws ks (if w ≤ s then os.getD k.toNat 0 else acc) := rfl
theorem offFrom_above (os : List Int) (s : Int) : ∀ (ws ks : List Int) (acc : Int), (∀ i, i < ws.length → s < ws.getD i 0) → offFrom os s ws ks acc = acc := by
  intro ws
  induction ws with
  | nil => intro ks acc _; cases ks <;> rfl
  | cons w ws ih =>
    intro ks acc h
    cases ks with
    | nil => rfl
    | cons k ks =>
      rw [offFrom_cons, if_neg (by have := h 0 (by simp); simp at this; omega)]
      exact ih ks acc fun i hi => by have := h (i + 1) (by simpa using hi); simpa using this
theorem offFrom_at (os : List Int) (s : Int) : ∀ (ws ks : List Int) (acc : Int) (a : Nat), ks.length = ws.length → a < ws.length →
    (∀ i, i + 1 < ws.length → ws.getD i 0 < ws.getD (i + 1) 0) → ws.getD a 0 ≤ s → (a + 1 < ws.length → s < ws.getD (a + 1) 0) →
    offFrom os s ws ks acc = os.getD (ks.getD a 0).toNat 0 := by
  intro ws
  induction ws with
  | nil => intro ks acc a _ h; simp at h
  | cons w ws ih =>
    intro ks acc a hl ha hs h0 h1
    cases ks with
    | nil => simp at hl
    | cons k ks =>
      have hs' : ∀ i, i + 1 < ws.length → ws.getD i 0 < ws.getD (i + 1) 0 := fun i hi => by have := hs (i + 1) (by simpa using hi); simpa using this
      rw [offFrom_cons]
      cases a with
      | zero =>
        rw [if_pos (by simpa using h0)]
        have hab : ∀ i, i < ws.length → s < ws.getD i 0 := by
          intro i
          induction i with
          | zero => intro hi; have := h1 (by simpa using hi); simpa using this
          | succ i ih2 => intro hi; have := hs' i hi; have := ih2 (by omega); omega
        rw [offFrom_above _ _ _ _ _ hab]; simp
      | succ a =>
        have := ih ks (if w ≤ s then os.getD k.toNat 0 else acc) a (by simpa using hl) (by simpa using ha) hs' (by simpa using h0)
          (fun h => by have := h1 (by simpa using h); simpa using this)
        rw [this]; simp
theorem Zone.off_at {z : Zone} (h : z.Good) (s : Int) (a : Nat) (ha : a < z.ws.length) (h0 : z.ws.getD a 0 ≤ s) (h1 : a + 1 < z.ws.length → s < z.ws.getD (a + 1) 0) :
    z.off s = z.os.getD (z.ix.getD a 0).toNat 0 := offFrom_at _ _ _ _ _ _ h.li ha h.sorted h0 h1
def LookPost (z : Zone) (s : Int) (w : World) (e : Ending) (w' : World) : Prop :=
  ∃ (st en : Int) (d : Bool), e = .returned (.tuple #[.string ⟨#[122, 111, 110, 101]⟩, .int .i64 (z.off s), .int .i64 st, .int .i64 en, .bool d]) ∧ Below w.heap.size w w' ∧
    st ≤ s ∧ s < en ∧ ∀ r, st ≤ r → r < en → z.off r = z.off s
set_option maxRecDepth 100000 in
theorem lookup_walk (b g1 g2 k1 k2 : Nat) (z : Zone) (w : World) (s : Int) (hz : z.Good) (hw : ZoneAt w b z g1 g2 k1 k2) (hs0 : -9223372036854775808 ≤ s) (hs1 : s < 9223372036854775807) :
    Calls Try.prog 90 #[.pointer (some ⟨b, 0, none⟩), .int .i64 s] w (LookPost z s w) := by
  obtain ⟨c0, c2, c3, c7, zn, tr⟩ := hw
  have n0 := hz.n0
  have n1 := hz.n1
  have k0 := hz.k0
  have ky1 := hz.k1
  have hf := hz.first
  obtain ⟨t0, _⟩ := tr 0 n0
  rw [hf] at t0
  have q1 : ((z.ws.length : Int) == 0) = false := by rw [beq_eq_false_iff_ne]; omega
  have q2 : ((z.os.length : Int) == 0) = false := by rw [beq_eq_false_iff_ne]; omega
  have q3 : decide (s < -9223372036854775808) = false := by simp; omega
  have TR := Lib.hid tr
  have ZN := Lib.hid zn
  clear hf tr zn
  go_enter Try.func90, Try.ntmps90
  go_wp2
  go_loop [7, 12, 13] (fun en lo hi => ∃ (a c : Nat) (E : Int), a < c ∧ c ≤ z.ws.length ∧ en = .int .i64 E ∧ lo = .int .i64 a ∧ hi = .int .i64 c ∧ z.ws.getD a 0 ≤ s ∧ s < E ∧ (c < z.ws.length → z.ws.getD c 0 = E)) (fun _ lo hi => (intOf hi - intOf lo).toNat)
  case atStart => exact ⟨0, z.ws.length, _, n0, Nat.le_refl _, rfl, rfl, rfl, by rw [hz.first]; exact hs0, hs1, fun h => by omega⟩
  case round =>
    obtain ⟨a, c, E, hac, hc, rfl, rfl, rfl, ha, hE, hcE⟩ := hrel
    by_cases hlt : a + 1 < c
    · have hm : (a + c) / 2 < z.ws.length := by omega
      have ht := (TR.out ((a + c) / 2) hm).1
      obtain ⟨V, hV⟩ : ∃ V, z.ws.getD ((a + c) / 2) 0 = V := ⟨_, rfl⟩
      rw [hV] at ht
      have HV := Lib.hid hV
      have HA := Lib.hid ha
      have HE := Lib.hid hE
      have HC := Lib.hid hcE
      clear hV ha hE hcE
      by_cases hq : s < V
      · go_wp2
        go_round
        case rel => exact ⟨a, (a + c) / 2, _, by omega, by omega, rfl, rfl, rfl, HA.out, hq, fun _ => HV.out⟩
        case measure => simp [intOf]; omega
      · go_wp2
        go_round
        case rel => exact ⟨(a + c) / 2, c, _, by omega, by omega, rfl, rfl, rfl, by have := HV.out; omega, HE.out, HC.out⟩
        case measure => simp [intOf]; omega
    · obtain rfl : c = a + 1 := by omega
      obtain ⟨hi0, hi1⟩ := hz.idx a (by omega)
      obtain ⟨ta, tb⟩ := TR.out a (by omega)
      have hoff := Zone.off_at hz s a (by omega) ha (fun h => by rw [hcE h]; exact hE)
      have H : ∀ r, z.ws.getD a 0 ≤ r → r < E → z.off r = z.off s := fun r h0 h1 => by
        rw [hoff]; exact Zone.off_at hz r a (by omega) h0 (fun h => by rw [hcE h]; exact h1)
      obtain ⟨V, hV⟩ : ∃ V, z.ws.getD a 0 = V := ⟨_, rfl⟩
      obtain ⟨I, hI⟩ : ∃ I, z.ix.getD a 0 = I := ⟨_, rfl⟩
      rw [hV] at ta ha H
      rw [hI] at tb hi0 hi1 hoff
      obtain ⟨z0, z1, d, z2⟩ := ZN.out I.toNat (by omega)
      rw [← hoff] at z1
      have HR := Lib.hid H
      clear hoff H hcE t0 hV hI
      obtain ⟨O, hO⟩ : ∃ O, z.off s = O := ⟨_, rfl⟩
      rw [hO] at z1
      have HO := Lib.hid hO
      clear hO
      have hlen : I.toNat < z.os.length := by omega
      go_wp2
      go_quiet (fail)
      go_wp2
      exact bodyPost_ret (v := .tuple #[.string ⟨#[122, 111, 110, 101]⟩, .int .i64 O, .int .i64 V, .int .i64 E, .bool d]) (by simp [results, Try.results90, go_sem]) rfl
        ⟨V, E, d, by rw [HO.out], bN (Below.refl _ _) _, ha, hE, HR.out⟩
theorem keep {w W : World} (h : Below w.heap.size w W) {a : Addr} {v : Value} (hc : w.cell? a = some v) : W.cell? a = some v := (h.cell (World.block_lt_of_cell? w a hc)).trans hc
theorem ZoneAt.below {w W : World} {b g1 g2 k1 k2 : Nat} {z : Zone} (hw : ZoneAt w b z g1 g2 k1 k2) (h : Below w.heap.size w W) : ZoneAt W b z g1 g2 k1 k2 :=
  ⟨keep h hw.c0, keep h hw.c2, keep h hw.c3, keep h hw.c7,
   fun i hi => ⟨keep h (hw.zn i hi).1, keep h (hw.zn i hi).2.1, (hw.zn i hi).2.2.imp fun _ hd => keep h hd⟩,
   fun i hi => ⟨keep h (hw.tr i hi).1, keep h (hw.tr i hi).2⟩⟩
set_option maxRecDepth 100000 in
/-- lookup at UTC's own location (made by UTC) -/
theorem lookup_utc (b : Nat) (w : World) (s : Int) (c2 : w.cell? ⟨b, 2, none⟩ = some (.slice none 0 0)) :
    Calls Try.prog 90 #[.pointer (some ⟨b, 0, none⟩), .int .i64 s] w fun e w' => e = .returned (.tuple #[.string ⟨#[85, 84, 67]⟩, .int .i64 0, .int .i64 (-9223372036854775808), .int .i64 9223372036854775807, .bool false]) ∧ w = w' := by
  go_enter Try.func90, Try.ntmps90
  go_wp2
  exact bodyPost_ret (v := .tuple #[.string ⟨#[85, 84, 67]⟩, .int .i64 0, .int .i64 (-9223372036854775808), .int .i64 9223372036854775807, .bool false]) (by simp [results, Try.results90, go_sem]) rfl ⟨rfl, rfl⟩
/-- absSec on the clocks of a zone -/
theorem absZone (b g1 g2 k1 k2 : Nat) (z : Zone) (n x o : Int) (w : World) (hz : z.Good) (hw : ZoneAt w b z g1 g2 k1 k2) (hn : Nan n) (h0 : -20000000 ≤ x) (h1 : x ≤ 4000000000000)
    (ho : z.off (x - 62135596800) = o) (ho0 : -86400 ≤ o) (ho1 : o ≤ 86400) :
    Calls Try.prog 81 #[.agg #[.int .u64 n, .int .i64 x, .pointer (some ⟨b, 0, none⟩)]] w fun e w' => e = .returned (.int .u64 (x - 62135596800 + o + 9223372028741760000)) ∧ Below w.heap.size w w' := by
  have hA := bits_big n hn.1 (by have := hn.2; omega)
  clear hn
  have hcz := hw.c0
  have hc7 := hw.c7
  have HO := Lib.hid ho
  clear ho
  have hlt : b < w.heap.size := World.block_lt_of_cell? w _ hcz
  go_enter Try.func81, Try.ntmps81
  go_wp2_with (first | (go_at_call 90; refine (lookup_walk b g1 g2 k1 k2 z _ (x + -62135596800) hz (hw.below (bA (Below.refl _ _) _)) (by omega) (by omega)).mono ?_; rintro e w' ⟨st, en, d, rfl, hb, -, -, -⟩; rw [show x + -62135596800 = x - 62135596800 by omega, HO.out]) | go_in)
  go_ret
  exact ⟨ret_int (u64_of_i64 _ (by omega) (by omega)), (bA (Below.refl _ _) _).trans (hb.mono (by simp))⟩
end Go.Proofs.Ytjmgebhjkbcpcaa.NM
set_option linter.unusedVariables false
set_option linter.unusedSimpArgs false
namespace Go.Proofs.Ytjmgebhjkbcpcaa.NM
open Go.RowKit Cal
def offO : Option Zone → Int → Int
  | none, _ => 0
  | some z, s => z.off s
/-- what the clocks show, in seconds from 1970 on them, at an instant of x seconds from year 1 -/
def lo (z : Option Zone) (x : Int) : Int := x - 62135596800 + offO z (x - 62135596800)
def TLoc (w : World) (L : Option Addr) : Option Zone → Prop
  | none => L = none
  | some z => z.Good ∧ ∃ b g1 g2 k1 k2, L = some ⟨b, 0, none⟩ ∧ ZoneAt w b z g1 g2 k1 k2
theorem TLoc.below {w W : World} {L : Option Addr} {z : Option Zone} (h : TLoc w L z) (hb : Below w.heap.size w W) : TLoc W L z := by
  cases z with
  | none => exact h
  | some z => obtain ⟨hz, b, g1, g2, k1, k2, hL, hw⟩ := h; exact ⟨hz, b, g1, g2, k1, k2, hL, hw.below hb⟩
theorem offFrom_bd (os : List Int) (s : Int) (hos : ∀ i, i < os.length → -86400 ≤ os.getD i 0 ∧ os.getD i 0 ≤ 86400) : ∀ (ws ks : List Int) (acc : Int), -86400 ≤ acc → acc ≤ 86400 → -86400 ≤ offFrom os s ws ks acc ∧ offFrom os s ws ks acc ≤ 86400 := by
  intro ws
  induction ws with
  | nil => intro ks acc h0 h1; cases ks <;> exact ⟨h0, h1⟩
  | cons w ws ih =>
    intro ks acc h0 h1
    cases ks with
    | nil => exact ⟨h0, h1⟩
    | cons k ks =>
      rw [offFrom_cons]
      have : -86400 ≤ (if w ≤ s then os.getD k.toNat 0 else acc) ∧ (if w ≤ s then os.getD k.toNat 0 else acc) ≤ 86400 := by
        split
        · by_cases hk : k.toNat < os.length
          · exact hos _ hk
          · rw [List.getD_eq_getElem?_getD, List.getElem?_eq_none (by omega)]; simp
        · exact ⟨h0, h1⟩
      exact ih ks _ this.1 this.2
theorem Zone.off_bd {z : Zone} (h : z.Good) (s : Int) : -86400 ≤ z.off s ∧ z.off s ≤ 86400 := by
  have h0 := h.idx 0 h.n0
  have h1 := h.offs (z.ix.getD 0 0).toNat (by omega)
  exact offFrom_bd _ _ h.offs _ _ _ h1.1 h1.2
theorem TLoc.off_bd {w : World} {L : Option Addr} {z : Option Zone} (h : TLoc w L z) (s : Int) : -86400 ≤ offO z s ∧ offO z s ≤ 86400 := by
  cases z with
  | none => simp [offO]
  | some z => exact Zone.off_bd h.1 _
theorem TLoc.lo_bd {w : World} {L : Option Addr} {z : Option Zone} (h : TLoc w L z) (x : Int) (h0 : -20000000 ≤ x) (h1 : x ≤ 4000000000000) : -62155683200 ≤ lo z x ∧ lo z x ≤ 4000000000000 := by
  have := h.off_bd (x - 62135596800); unfold lo; omega
theorem abs_any (n x : Int) (L : Option Addr) (z : Option Zone) (w : World) (hL : TLoc w L z) (hn : Nan n) (h0 : -20000000 ≤ x) (h1 : x ≤ 4000000000000) :
    Calls Try.prog 81 #[.agg #[.int .u64 n, .int .i64 x, .pointer L]] w fun e w' => e = .returned (.int .u64 (lo z x + 9223372028741760000)) ∧ Below w.heap.size w w' := by
  have hb := hL.off_bd (x - 62135596800)
  cases z with
  | none =>
    obtain rfl : L = none := hL
    refine (absUTC n x hn h0 h1 w).mono ?_
    rintro e w' ⟨rfl, h⟩
    exact ⟨ret_int (by simp [lo, offO]), h⟩
  | some z =>
    obtain ⟨hz, b, g1, g2, k1, k2, rfl, hw⟩ := hL
    refine (absZone b g1 g2 k1 k2 z n x _ w hz hw hn h0 h1 rfl hb.1 hb.2).mono ?_
    rintro e w' ⟨rfl, h⟩
    exact ⟨ret_int (by simp [lo, offO]), h⟩
theorem janFeb_g (D : Int) (w : World) : Calls Try.prog 85 #[.int .i64 (gyd D)] w fun e w' => e = .returned (.int .i64 (gjf D)) ∧ w = w' :=
  janFeb_any (gyd D) (gyd_bd D).1 (gyd_bd D).2 w
theorem month_g (D : Int) (w : World) : Calls Try.prog 87 #[.int .i64 (gm0 D), .int .i64 (gjf D)] w fun e w' => e = .returned (.int .i64 (gmonth D)) ∧ w = w' := by
  have hy := gyd_bd D
  have hj : 0 ≤ gjf D ∧ gjf D ≤ 1 := by unfold gjf; split <;> omega
  have hm : 0 ≤ gm0 D ∧ gm0 D ≤ 100 := by unfold gm0; omega
  exact month_any _ _ w hm.1 hm.2 hj.1 hj.2
theorem ysplit_g (D : Int) (w : World) : Calls Try.prog 84 #[.int .i64 (gyd D)] w fun e w' => e = .returned (.tuple #[.int .i64 (gm0 D), .int .i64 (gday D)]) ∧ w = w' :=
  ysplit_any (gyd D) (gyd_bd D).1 (gyd_bd D).2 w
theorem year_g (D : Int) (w : World) (d0 : -1000000 ≤ D) (d1 : D ≤ 100000000) : Calls Try.prog 86 #[.int .u64 (gc D + 2922770224), .int .i64 (gcy D), .int .i64 (gjf D)] w fun e w' => e = .returned (.int .i64 (gyear D)) ∧ w = w' := by
  have hcy := gcy_bd D
  have hc := gc_bd D d0 d1
  have hj : 0 ≤ gjf D ∧ gjf D ≤ 1 := by unfold gjf; split <;> omega
  exact cyear_any (gc D) (gcy D) (gjf D) w hc.1 hc.2 hcy.1 hcy.2 hj.1 hj.2
theorem days_g (l : Int) (h0 : -62155683200 ≤ l) (h1 : l ≤ 4000000000000) (w : World) :
    Calls Try.prog 82 #[.int .u64 (l + 9223372028741760000)] w fun e w' => e = .returned (.int .u64 (l / 86400 + 106751991073400)) ∧ w = w' := by
  refine (days_any (l + 9223372028741760000) (by omega) (by omega) w).mono ?_
  rintro e w' ⟨rfl, rfl⟩
  exact ⟨ret_int (by omega), rfl⟩
theorem date_g (D : Int) (w : World) (d0 : -1000000 ≤ D) (d1 : D ≤ 100000000) : Calls Try.prog 98 #[.int .u64 (D + 106751991073400)] w fun e w' => e = .returned (.tuple #[.int .i64 (gyear D), .int .i64 (gmonth D), .int .i64 (gday D)]) ∧ w = w' := by
  go_enter Try.func98, Try.ntmps98
  go_wp2_with (first
    | (go_at_call 83; refine (split_any _ d0 d1 _).mono ?_; rintro e w' ⟨rfl, rfl⟩)
    | (go_at_call 84; refine (ysplit_g _ _).mono ?_; rintro e w' ⟨rfl, rfl⟩)
    | (go_at_call 85; refine (janFeb_g _ _).mono ?_; rintro e w' ⟨rfl, rfl⟩)
    | (go_at_call 86; refine (year_g _ _ d0 d1).mono ?_; rintro e w' ⟨rfl, rfl⟩)
    | (go_at_call 87; refine (month_g _ _).mono ?_; rintro e w' ⟨rfl, rfl⟩))
  go_ret3
  exact ⟨rfl, rfl⟩
section
variable (n x : Int) (L : Option Addr) (z : Option Zone) (w : World) (hL : TLoc w L z) (hn : Nan n) (h0 : -20000000 ≤ x) (h1 : x ≤ 4000000000000)
include hL hn h0 h1
theorem tHour : Calls Try.prog 77 #[.agg #[.int .u64 n, .int .i64 x, .pointer L]] w fun e w' => e = .returned (.int .i64 (lo z x % 86400 / 3600)) ∧ Below w.heap.size w w' := by
  obtain ⟨b0, b1⟩ := hL.lo_bd x h0 h1
  go_enter Try.func77, Try.ntmps77
  go_wp2_with (go_at_call 81; refine (abs_any n x L z _ (hL.below (bA (Below.refl _ _) _)) hn h0 h1).mono ?_; rintro e w' ⟨rfl, hb⟩)
  go_ret
  exact ⟨ret_int (by omega), (bA (Below.refl _ _) _).trans (hb.mono (by simp))⟩
theorem tMinute : Calls Try.prog 78 #[.agg #[.int .u64 n, .int .i64 x, .pointer L]] w fun e w' => e = .returned (.int .i64 (lo z x % 3600 / 60)) ∧ Below w.heap.size w w' := by
  obtain ⟨b0, b1⟩ := hL.lo_bd x h0 h1
  go_enter Try.func78, Try.ntmps78
  go_wp2_with (go_at_call 81; refine (abs_any n x L z _ (hL.below (bA (Below.refl _ _) _)) hn h0 h1).mono ?_; rintro e w' ⟨rfl, hb⟩)
  go_ret
  exact ⟨ret_int (by omega), (bA (Below.refl _ _) _).trans (hb.mono (by simp))⟩
theorem tSecond : Calls Try.prog 80 #[.agg #[.int .u64 n, .int .i64 x, .pointer L]] w fun e w' => e = .returned (.int .i64 (lo z x % 60)) ∧ Below w.heap.size w w' := by
  obtain ⟨b0, b1⟩ := hL.lo_bd x h0 h1
  go_enter Try.func80, Try.ntmps80
  go_wp2_with (go_at_call 81; refine (abs_any n x L z _ (hL.below (bA (Below.refl _ _) _)) hn h0 h1).mono ?_; rintro e w' ⟨rfl, hb⟩)
  go_ret
  exact ⟨ret_int (by omega), (bA (Below.refl _ _) _).trans (hb.mono (by simp))⟩
theorem tYear : Calls Try.prog 72 #[.agg #[.int .u64 n, .int .i64 x, .pointer L]] w fun e w' => e = .returned (.int .i64 (gyear (lo z x / 86400))) ∧ Below w.heap.size w w' := by
  obtain ⟨b0, b1⟩ := hL.lo_bd x h0 h1
  have d0 : -1000000 ≤ lo z x / 86400 := by omega
  have d1 : lo z x / 86400 ≤ 100000000 := by omega
  go_enter Try.func72, Try.ntmps72
  go_wp2_with (first
    | (go_at_call 81; refine (abs_any n x L z _ (hL.below (bA (Below.refl _ _) _)) hn h0 h1).mono ?_; rintro e w' ⟨rfl, hb⟩)
    | (go_at_call 82; refine (days_g _ b0 b1 _).mono ?_; rintro e w' ⟨rfl, rfl⟩)
    | (go_at_call 83; refine (split_any _ d0 d1 _).mono ?_; rintro e w' ⟨rfl, rfl⟩)
    | (go_at_call 85; refine (janFeb_g _ _).mono ?_; rintro e w' ⟨rfl, rfl⟩)
    | (go_at_call 86; refine (year_g _ _ d0 d1).mono ?_; rintro e w' ⟨rfl, rfl⟩))
  go_ret
  exact ⟨rfl, (bA (Below.refl _ _) _).trans (hb.mono (by simp))⟩
theorem tMonth : Calls Try.prog 73 #[.agg #[.int .u64 n, .int .i64 x, .pointer L]] w fun e w' => e = .returned (.int .i64 (gmonth (lo z x / 86400))) ∧ Below w.heap.size w w' := by
  obtain ⟨b0, b1⟩ := hL.lo_bd x h0 h1
  have d0 : -1000000 ≤ lo z x / 86400 := by omega
  have d1 : lo z x / 86400 ≤ 100000000 := by omega
  go_enter Try.func73, Try.ntmps73
  go_wp2_with (first
    | (go_at_call 81; refine (abs_any n x L z _ (hL.below (bA (Below.refl _ _) _)) hn h0 h1).mono ?_; rintro e w' ⟨rfl, hb⟩)
    | (go_at_call 82; refine (days_g _ b0 b1 _).mono ?_; rintro e w' ⟨rfl, rfl⟩)
    | (go_at_call 83; refine (split_any _ d0 d1 _).mono ?_; rintro e w' ⟨rfl, rfl⟩)
    | (go_at_call 84; refine (ysplit_g _ _).mono ?_; rintro e w' ⟨rfl, rfl⟩)
    | (go_at_call 85; refine (janFeb_g _ _).mono ?_; rintro e w' ⟨rfl, rfl⟩)
    | (go_at_call 87; refine (month_g _ _).mono ?_; rintro e w' ⟨rfl, rfl⟩))
  go_ret
  exact ⟨rfl, (bA (Below.refl _ _) _).trans (hb.mono (by simp))⟩
theorem tDay : Calls Try.prog 65 #[.agg #[.int .u64 n, .int .i64 x, .pointer L]] w fun e w' => e = .returned (.int .i64 (gday (lo z x / 86400))) ∧ Below w.heap.size w w' := by
  obtain ⟨b0, b1⟩ := hL.lo_bd x h0 h1
  have d0 : -1000000 ≤ lo z x / 86400 := by omega
  have d1 : lo z x / 86400 ≤ 100000000 := by omega
  go_enter Try.func65, Try.ntmps65
  go_wp2_with (first
    | (go_at_call 81; refine (abs_any n x L z _ (hL.below (bA (Below.refl _ _) _)) hn h0 h1).mono ?_; rintro e w' ⟨rfl, hb⟩)
    | (go_at_call 82; refine (days_g _ b0 b1 _).mono ?_; rintro e w' ⟨rfl, rfl⟩)
    | (go_at_call 83; refine (split_any _ d0 d1 _).mono ?_; rintro e w' ⟨rfl, rfl⟩)
    | (go_at_call 84; refine (ysplit_g _ _).mono ?_; rintro e w' ⟨rfl, rfl⟩))
  go_ret
  exact ⟨rfl, (bA (Below.refl _ _) _).trans (hb.mono (by simp))⟩
theorem tWeekday : Calls Try.prog 93 #[.agg #[.int .u64 n, .int .i64 x, .pointer L]] w fun e w' => e = .returned (.int .i64 ((lo z x / 86400 + 4) % 7)) ∧ Below w.heap.size w w' := by
  obtain ⟨b0, b1⟩ := hL.lo_bd x h0 h1
  have d0 : -1000000 ≤ lo z x / 86400 := by omega
  have d1 : lo z x / 86400 ≤ 100000000 := by omega
  go_enter Try.func93, Try.ntmps93
  go_wp2_with (first
    | (go_at_call 81; refine (abs_any n x L z _ (hL.below (bA (Below.refl _ _) _)) hn h0 h1).mono ?_; rintro e w' ⟨rfl, hb⟩)
    | (go_at_call 82; refine (days_g _ b0 b1 _).mono ?_; rintro e w' ⟨rfl, rfl⟩)
    | (go_at_call 100; refine (weekday_any _ _ d0 d1).mono ?_; rintro e w' ⟨rfl, rfl⟩))
  go_ret
  exact ⟨rfl, (bA (Below.refl _ _) _).trans (hb.mono (by simp))⟩
theorem tDate : Calls Try.prog 91 #[.agg #[.int .u64 n, .int .i64 x, .pointer L]] w fun e w' => e = .returned (.tuple #[.int .i64 (gyear (lo z x / 86400)), .int .i64 (gmonth (lo z x / 86400)), .int .i64 (gday (lo z x / 86400))]) ∧ Below w.heap.size w w' := by
  obtain ⟨b0, b1⟩ := hL.lo_bd x h0 h1
  have d0 : -1000000 ≤ lo z x / 86400 := by omega
  have d1 : lo z x / 86400 ≤ 100000000 := by omega
  go_enter Try.func91, Try.ntmps91
  go_wp2_with (first
    | (go_at_call 81; refine (abs_any n x L z _ (hL.below (bA (Below.refl _ _) _)) hn h0 h1).mono ?_; rintro e w' ⟨rfl, hb⟩)
    | (go_at_call 82; refine (days_g _ b0 b1 _).mono ?_; rintro e w' ⟨rfl, rfl⟩)
    | (go_at_call 98; refine (date_g _ _ d0 d1).mono ?_; rintro e w' ⟨rfl, rfl⟩))
  go_ret3
  exact ⟨rfl, (bA (Below.refl _ _) _).trans (hb.mono (by simp))⟩
theorem tClock : Calls Try.prog 92 #[.agg #[.int .u64 n, .int .i64 x, .pointer L]] w fun e w' => e = .returned (.tuple #[.int .i64 (lo z x % 86400 / 3600), .int .i64 (lo z x % 3600 / 60), .int .i64 (lo z x % 60)]) ∧ Below w.heap.size w w' := by
  obtain ⟨b0, b1⟩ := hL.lo_bd x h0 h1
  go_enter Try.func92, Try.ntmps92
  go_wp2_with (first
    | (go_at_call 81; refine (abs_any n x L z _ (hL.below (bA (Below.refl _ _) _)) hn h0 h1).mono ?_; rintro e w' ⟨rfl, hb⟩)
    | (go_at_call 99; refine (clock_any _ (by omega) (by omega) _).mono ?_; rintro e w' ⟨rfl, rfl⟩))
  go_ret3
  exact ⟨ret_tuple3 (int_eq (by omega)) (int_eq (by omega)) (int_eq (by omega)), (bA (Below.refl _ _) _).trans (hb.mono (by simp))⟩
end
end Go.Proofs.Ytjmgebhjkbcpcaa.NM
set_option linter.unusedVariables false
set_option linter.unusedSimpArgs false
namespace Go.Proofs.Ytjmgebhjkbcpcaa.NM
open Go.RowKit Cal
/-- what a *Location points to -/
def LocP (w : World) (b : Nat) : Option Zone → Prop
  | none => w.cell? ⟨b, 0, none⟩ = some (.bool true) ∧ w.cell? ⟨b, 2, none⟩ = some (.slice none 0 0)
  | some z => z.Good ∧ ∃ g1 g2 k1 k2, ZoneAt w b z g1 g2 k1 k2
theorem LocP.below {w W : World} {b : Nat} {z : Option Zone} (h : LocP w b z) (hb : Below w.heap.size w W) : LocP W b z := by
  cases z with
  | none => exact ⟨keep hb h.1, keep hb h.2⟩
  | some z => obtain ⟨hz, g1, g2, k1, k2, hw⟩ := h; exact ⟨hz, g1, g2, k1, k2, hw.below hb⟩
def canon (b : Nat) : Option Zone → Option Addr
  | none => none
  | some _ => some ⟨b, 0, none⟩
theorem LocP.tl {w : World} {b : Nat} {z : Option Zone} (h : LocP w b z) : TLoc w (canon b z) z := by
  cases z with
  | none => rfl
  | some z => obtain ⟨hz, g1, g2, k1, k2, hw⟩ := h; exact ⟨hz, b, g1, g2, k1, k2, rfl, hw⟩
theorem tIn (n x : Int) (L : Option Addr) (b : Nat) (z : Option Zone) (w : World) (hL : LocP w b z) (hn : Nan n) :
    Calls Try.prog 20 #[.agg #[.int .u64 n, .int .i64 x, .pointer L], .pointer (some ⟨b, 0, none⟩)] w fun e w' => e = .returned (.agg #[.int .u64 n, .int .i64 x, .pointer (canon b z)]) ∧ Below w.heap.size w w' := by
  have hA := bits_big n hn.1 (by have := hn.2; omega)
  clear hn
  cases z with
  | none =>
    have h0 : w.cell? ⟨b, 0, none⟩ = some (.bool true) := hL.1
    have hlt : b < w.heap.size := World.block_lt_of_cell? w _ h0
    go_enter Try.func20, Try.ntmps20
    go_wp2
    go_end0
    go_wp2
    go_end0
    go_wp2
    exact bodyPost_ret (v := .agg #[.int .u64 n, .int .i64 x, .pointer none]) (by simp [results, Try.results20, go_sem]) rfl ⟨rfl, bA (bA (Below.refl _ _) _) _⟩
  | some z =>
    obtain ⟨hz, g1, g2, k1, k2, hw⟩ := hL
    have h0 : w.cell? ⟨b, 0, none⟩ = some (.bool false) := hw.c0
    have hlt : b < w.heap.size := World.block_lt_of_cell? w _ h0
    clear hw
    go_enter Try.func20, Try.ntmps20
    go_wp2
    go_end0
    go_wp2
    go_end0
    go_wp2
    exact bodyPost_ret (v := .agg #[.int .u64 n, .int .i64 x, .pointer (some ⟨b, 0, none⟩)]) (by simp [results, Try.results20, go_sem]) rfl ⟨rfl, bA (bA (Below.refl _ _) _) _⟩
theorem tLoc (n x : Int) (L : Option Addr) (z : Option Zone) (w : World) (hL : TLoc w L z) :
    Calls Try.prog 71 #[.agg #[.int .u64 n, .int .i64 x, .pointer L]] w fun e w' => ∃ b, e = .returned (.pointer (some ⟨b, 0, none⟩)) ∧ LocP w' b z ∧ canon b z = L ∧ Below w.heap.size w w' := by
  cases z with
  | none =>
    obtain rfl : L = none := hL
    go_enter Try.func71, Try.ntmps71
    go_wp2
    go_ret
    exact ⟨w.heap.size + 1, rfl, ⟨by simp [go_sem], by simp [go_sem]⟩, rfl, bA (bA (Below.refl _ _) _) _⟩
  | some z =>
    obtain ⟨hz, b, g1, g2, k1, k2, rfl, hw⟩ := hL
    go_enter Try.func71, Try.ntmps71
    go_wp2
    go_ret
    exact ⟨b, rfl, ⟨hz, g1, g2, k1, k2, hw.below (bA (Below.refl _ _) _)⟩, rfl, bA (Below.refl _ _) _⟩
theorem tAdd0 (x d k : Int) (L : Option Addr) (w : World) (h0 : -20000000 ≤ x) (h1 : x ≤ 2000000000000) (hd0 : 0 ≤ d) (hd1 : d < 9223372036854775808) (hk : d / 1000000000 = k) (hm : d % 1000000000 = 0) :
    Calls Try.prog 68 #[.agg #[.int .u64 0, .int .i64 x, .pointer L], .int .i64 d] w fun e w' => e = .returned (.agg #[.int .u64 0, .int .i64 (x + k), .pointer L]) ∧ Below w.heap.size w w' := by
  have hk0 : 0 ≤ k := by omega
  have hk1 : k < 9223372037 := by omega
  have hA0 := bits_big 0 (by decide) (by decide)
  have hB0 := bits_low 0 (by decide) (by decide)
  have hC0 := bits_clr 0 (by decide) (by decide)
  have hD0 := bits_or0 0 (by decide) (by decide)
  by_cases hz : k = 0
  · have hq : decide (0 < k) = false := by simp; omega
    have hq2 : decide (x < x + k) = false := by simp; omega
    clear hz
    go_enter Try.func68, Try.ntmps68
    go_wp2
    go_end0
    go_wp2
    exact bodyPost_ret (v := .agg #[.int .u64 0, .int .i64 (x + k), .pointer L]) (by simp [results, Try.results68, go_sem, hk]) rfl ⟨rfl, bA (bA (Below.refl _ _) _) _⟩
  · have hq : decide (0 < k) = true := by simp; omega
    have hq2 : decide (x < x + k) = true := by simp; omega
    clear hz
    go_enter Try.func68, Try.ntmps68
    go_wp2
    go_end0
    go_wp2
    exact bodyPost_ret (v := .agg #[.int .u64 0, .int .i64 (x + k), .pointer L]) (by simp [results, Try.results68, go_sem, hk]) rfl ⟨rfl, bA (bA (Below.refl _ _) _) _⟩
theorem tAddN (n x d k : Int) (L : Option Addr) (w : World) (hn0 : 0 < n) (hn1 : n < 1000000000) (h0 : 0 ≤ x) (h1 : x ≤ 2000000000000) (hd0 : 0 ≤ d) (hd1 : d < 9223372036854775808) (hk : d / 1000000000 + 1 = k) (hm : d % 1000000000 = 1000000000 - n) :
    Calls Try.prog 68 #[.agg #[.int .u64 n, .int .i64 x, .pointer L], .int .i64 d] w fun e w' => e = .returned (.agg #[.int .u64 0, .int .i64 (x + k), .pointer L]) ∧ Below w.heap.size w w' := by
  have hk0 : 1 ≤ k := by omega
  have hk1 : k < 9223372038 := by omega
  have hA := bits_big n (by omega) (by omega)
  have hB := bits_low n (by omega) (by omega)
  have hC := bits_clr n (by omega) (by omega)
  have hA0 := bits_big 0 (by decide) (by decide)
  have hD0 := bits_or0 0 (by decide) (by decide)
  have e0 : n + (1000000000 - n) - 1000000000 = 0 := by omega
  have hq : decide (0 < k) = true := by simp; omega
  have hq2 : decide (x < x + k) = true := by simp; omega
  go_enter Try.func68, Try.ntmps68
  go_wp2
  go_end0
  go_wp2
  exact bodyPost_ret (v := .agg #[.int .u64 0, .int .i64 (x + k), .pointer L]) (by simp [results, Try.results68, go_sem]) rfl ⟨rfl, bA (bA (Below.refl _ _) _) _⟩
theorem tAddNeg0 (x d m : Int) (L : Option Addr) (w : World) (h0 : 0 ≤ x) (h1 : x ≤ 2000000000000) (hm0 : m < 0) (hm1 : -61 ≤ m) (e1 : d.tdiv 1000000000 = m) (e2 : d.tmod 1000000000 = 0) (hd0 : d < 0) (hd1 : -100000000000 ≤ d) :
    Calls Try.prog 68 #[.agg #[.int .u64 0, .int .i64 x, .pointer L], .int .i64 d] w fun e w' => e = .returned (.agg #[.int .u64 0, .int .i64 (x + m), .pointer L]) ∧ Below w.heap.size w w' := by
  have hA0 := bits_big 0 (by decide) (by decide)
  have hB0 := bits_low 0 (by decide) (by decide)
  have hC0 := bits_clr 0 (by decide) (by decide)
  have hD0 := bits_or0 0 (by decide) (by decide)
  have hq2 : decide (x < x + m) = false := by simp; omega
  have hq3 : decide (0 < m) = false := by simp; omega
  go_enter Try.func68, Try.ntmps68
  go_wp2
  go_end0
  go_wp2
  exact bodyPost_ret (v := .agg #[.int .u64 0, .int .i64 (x + m), .pointer L]) (by simp [results, Try.results68, go_sem]) rfl ⟨rfl, bA (bA (Below.refl _ _) _) _⟩
theorem tAddNeg (x k : Int) (L : Option Addr) (w : World) (h0 : 0 ≤ x) (h1 : x ≤ 2000000000000) (hd0 : 0 ≤ k) (hd1 : k ≤ 60) (hx : k ≤ x) :
    Calls Try.prog 68 #[.agg #[.int .u64 0, .int .i64 x, .pointer L], .int .i64 (-(k * 1000000000))] w fun e w' => e = .returned (.agg #[.int .u64 0, .int .i64 (x - k), .pointer L]) ∧ Below w.heap.size w w' := by
  by_cases hz : k = 0
  · subst hz
    refine (tAdd0 x 0 0 L w (by omega) h1 (by decide) (by decide) (by decide) (by decide)).mono ?_
    rintro e w' ⟨rfl, hb⟩
    exact ⟨by rw [show x - 0 = x + 0 by omega], hb⟩
  · have e1 : (-(k * 1000000000)).tdiv 1000000000 = -k := by rw [Int.neg_tdiv, Int.mul_tdiv_cancel _ (by decide)]
    have e2 : (-(k * 1000000000)).tmod 1000000000 = 0 := by rw [Int.neg_tmod, Int.mul_tmod_left]; rfl
    refine (tAddNeg0 x _ (-k) L w h0 h1 (by omega) (by omega) e1 e2 (by omega) (by omega)).mono ?_
    rintro e w' ⟨rfl, hb⟩
    exact ⟨by rw [show x - k = x + -k by omega], hb⟩
end Go.Proofs.Ytjmgebhjkbcpcaa.NM
set_option linter.unusedVariables false
set_option linter.unusedSimpArgs false
namespace Go.Proofs.Ytjmgebhjkbcpcaa.NM
open Go.RowKit Cal
theorem div60 (x : Int) (L : Option Addr) (w : World) (h0 : 0 ≤ x) (h1 : x ≤ 2000000000000) :
    Calls Try.prog 94 #[.agg #[.int .u64 0, .int .i64 x, .pointer L], .int .i64 60000000000] w fun e w' => ∃ q, e = .returned (.tuple #[q, .int .i64 (x % 60 * 1000000000)]) ∧ Below w.heap.size w w' := by
  have hA0 := bits_big 0 (by decide) (by decide)
  have hB0 := bits_low 0 (by decide) (by decide)
  have hq : decide (x < 0) = false := by simp; omega
  go_enter Try.func94, Try.ntmps94
  go_wp2
  go_ret2
  exact ⟨_, ret_tuple2 rfl rfl, bA (Below.refl _ _) _⟩
theorem div1 (x : Int) (L : Option Addr) (w : World) (h0 : 0 ≤ x) (h1 : x ≤ 2000000000000) :
    Calls Try.prog 94 #[.agg #[.int .u64 0, .int .i64 x, .pointer L], .int .i64 1000000000] w fun e w' => ∃ q, e = .returned (.tuple #[q, .int .i64 0]) ∧ Below w.heap.size w w' := by
  have hA0 := bits_big 0 (by decide) (by decide)
  have hB0 := bits_low 0 (by decide) (by decide)
  have hq : decide (x < 0) = false := by simp; omega
  go_enter Try.func94, Try.ntmps94
  go_wp2
  go_ret2
  exact ⟨_, ret_tuple2 rfl rfl, bA (Below.refl _ _) _⟩
theorem norm_id (a b c : Int) (w : World) (h0 : 0 ≤ b) (h1 : b < c) (hc : c ≤ 1000000000) :
    Calls Try.prog 88 #[.int .i64 a, .int .i64 b, .int .i64 c] w fun e w' => e = .returned (.tuple #[.int .i64 a, .int .i64 b]) ∧ w = w' := by
  go_enter Try.func88, Try.ntmps88
  go_wp2
  go_ret2
  exact ⟨rfl, rfl⟩
theorem norm_12 (a : Int) (w : World) (h0 : -1000000 ≤ a) (h1 : a < 1000000000) :
    Calls Try.prog 88 #[.int .i64 a, .int .i64 12, .int .i64 12] w fun e w' => e = .returned (.tuple #[.int .i64 (a + 1), .int .i64 0]) ∧ w = w' := by
  go_enter Try.func88, Try.ntmps88
  go_wp2
  go_ret2
  exact ⟨rfl, rfl⟩
theorem d2a_core (Y q r : Int) (h : Y = 100 * q + r) (h0 : 0 ≤ r) (h1 : r < 100) :
    146097 * (q + 2922770224) / 4 + 1461 * r / 4 = ystart (Y + 1) + 719162 + 106751990353932 := by
  obtain ⟨a, b, hq, hb0, hb1⟩ : ∃ a b : Int, q = 4 * a + b ∧ 0 ≤ b ∧ b ≤ 3 := ⟨q / 4, q % 4, by omega, by omega, by omega⟩
  obtain ⟨c, d, hr, hd0, hd1⟩ : ∃ c d : Int, r = 4 * c + d ∧ 0 ≤ d ∧ d ≤ 3 := ⟨r / 4, r % 4, by omega, by omega, by omega⟩
  have e1 : 146097 * (q + 2922770224) / 4 = 36524 * q + a + 106751990353932 := by
    have : b = 0 ∨ b = 1 ∨ b = 2 ∨ b = 3 := by omega
    rcases this with rfl | rfl | rfl | rfl <;> omega
  have e2 : 1461 * r / 4 = 365 * r + c := by
    have : d = 0 ∨ d = 1 ∨ d = 2 ∨ d = 3 := by omega
    rcases this with rfl | rfl | rfl | rfl <;> omega
  have e3 : Y / 4 = 25 * q + c := by omega
  have e4 : Y / 100 = q := by omega
  have e5 : Y / 400 = a := by omega
  have e6 : (Y + 1 - 1) = Y := by omega
  unfold ystart
  rw [e1, e2, e6, e3, e4, e5]
  omega
theorem wrap_y (y : Int) (hy0 : -2001 ≤ y) (hy1 : y ≤ 200000) : IntKind.u64.wrap (IntKind.u64.wrap (IntKind.u64.wrap y) + 292277022400) = y + 292277022400 := by
  simp [IntKind.wrap, IntKind.bits, IntKind.signed]; omega
theorem wrap_y1 (y : Int) (hy0 : -2000 ≤ y) (hy1 : y ≤ 200000) : IntKind.u64.wrap (IntKind.u64.wrap (IntKind.u64.wrap y - 1) + 292277022400) = y - 1 + 292277022400 := by
  simp [IntKind.wrap, IntKind.bits, IntKind.signed]; omega
theorem d2a_fin (Y e d : Int) (hy0 : -2001 ≤ Y) (hy1 : Y ≤ 200000) (he0 : 0 ≤ e) (he1 : e ≤ 400) (hd0 : 1 ≤ d) (hd1 : d ≤ 32) :
    IntKind.u64.wrap (IntKind.u64.wrap ((IntKind.u64.wrap (146097 * IntKind.u64.wrap ((Y + 292277022400).tdiv 100))).tdiv 4) +
      ((1461 * ((Y + 292277022400).tmod 100 % 4294967296) % 4294967296 / 4 + e) + d - 1)) = ystart (Y + 1) - 306 + e + d - 1 + 106751991073400 := by
  have hp : 0 ≤ Y + 292277022400 := by omega
  rw [Int.tdiv_eq_ediv_of_nonneg hp, Int.tmod_eq_emod_of_nonneg hp]
  have e1 : (Y + 292277022400) / 100 = Y / 100 + 2922770224 := by omega
  have e2 : (Y + 292277022400) % 100 = Y % 100 := by omega
  rw [e1, e2, u64wrap_small (Y / 100 + 2922770224) (by omega) (by omega)]
  have hc := d2a_core Y (Y / 100) (Y % 100) (by omega) (by omega) (by omega)
  have e3 : Y % 100 % 4294967296 = Y % 100 := by omega
  have e4 : 1461 * (Y % 100) % 4294967296 = 1461 * (Y % 100) := by omega
  rw [e3, e4, u64wrap_small (146097 * (Y / 100 + 2922770224)) (by omega) (by omega), Int.tdiv_eq_ediv_of_nonneg (by omega),
    u64wrap_small (146097 * (Y / 100 + 2922770224) / 4) (by omega) (by omega), u64wrap_small _ (by omega) (by omega)]
  omega
theorem cum_lo (y m : Int) (h0 : 1 ≤ m) (h1 : m < 3) : ystart (y - 1 + 1) - 306 + (979 * (m + 12) - 2919) / 32 = ystart y + cum y m := by
  have e : y - 1 + 1 = y := by omega
  have : m = 1 ∨ m = 2 := by omega
  rw [e]
  rcases this with rfl | rfl <;> simp [cum] <;> omega
theorem cum_hi (y m : Int) (h0 : 3 ≤ m) (h1 : m ≤ 12) : ystart (y + 1) - 306 + (979 * m - 2919) / 32 = ystart y + cum y m := by
  have hs := ystart_succ y
  have : m = 3 ∨ m = 4 ∨ m = 5 ∨ m = 6 ∨ m = 7 ∨ m = 8 ∨ m = 9 ∨ m = 10 ∨ m = 11 ∨ m = 12 := by omega
  rcases this with rfl | rfl | rfl | rfl | rfl | rfl | rfl | rfl | rfl | rfl <;> simp [cum] <;> omega
theorem d2a (y m d : Int) (w : World) (hy0 : -2000 ≤ y) (hy1 : y ≤ 200000) (hm0 : 1 ≤ m) (hm1 : m ≤ 12) (hd0 : 1 ≤ d) (hd1 : d ≤ 32) :
    Calls Try.prog 89 #[.int .i64 y, .int .i64 m, .int .i64 d] w fun e w' => e = .returned (.int .u64 (ystart y + cum y m + d - 1 + 106751991073400)) ∧ w = w' := by
  by_cases hm : m < 3
  · go_enter Try.func89, Try.ntmps89
    go_wp2
    go_ret
    refine ⟨ret_int ?_, rfl⟩
    have h := d2a_fin (y - 1) ((979 * (m + 12) - 2919) / 32) d (by omega) (by omega) (by omega) (by omega) hd0 hd1
    rw [wrap_y1 y hy0 hy1, h, cum_lo y m hm0 hm]
  · go_enter Try.func89, Try.ntmps89
    go_wp2
    go_ret
    refine ⟨ret_int ?_, rfl⟩
    have h := d2a_fin y ((979 * m - 2919) / 32) d (by omega) (by omega) (by omega) (by omega) hd0 hd1
    rw [wrap_y y (by omega) hy1, show ∀ a : Int, (1461 * a % 4294967296 / 4 + (979 * m - 2919) / 32) % 4294967296 = 1461 * a % 4294967296 / 4 + (979 * m - 2919) / 32 from fun a => by omega, h, cum_hi y m (by omega) hm1]
end Go.Proofs.Ytjmgebhjkbcpcaa.NM
set_option linter.unusedVariables false
set_option linter.unusedSimpArgs false
namespace Go.Proofs.Ytjmgebhjkbcpcaa.NM
open Go.RowKit Cal
/-- the instant (seconds from 1970) that Date takes for T seconds on the clocks -/
def reso (z : Option Zone) (T : Int) : Int := T - offO z (T - offO z T)
theorem cum_bd (y m : Int) (h0 : 1 ≤ m) (h1 : m ≤ 13) : 0 ≤ cum y m ∧ cum y m ≤ 366 := by
  have a := cum_le y 1 m h0
  have b := cum_le y m 13 h1
  have c := leapI_01 y
  rw [cum_one] at a
  rw [cum_13] at b
  omega
theorem day_bd (y m d N : Int) (hy0 : -1000 ≤ y) (hy1 : y ≤ 60000) (hm0 : 1 ≤ m) (hm1 : m ≤ 12) (hd0 : 1 ≤ d) (hd1 : d ≤ 32) (hN : ystart y + cum y m + d - 1 = N) : -1100000 ≤ N ∧ N ≤ 23000000 := by
  have := cum_bd y m hm0 (by omega)
  unfold ystart at hN; omega
theorem wraps_T (N r : Int) (h0 : -1100000 ≤ N) (h1 : N ≤ 23000000) (r0 : 0 ≤ r) (r1 : r < 86400) :
    wrap64 (wrap64 (wrap64 ((N + 106751991073400) * 86400) + r) + -9223372028741760000) = N * 86400 + r := by
  unfold wrap64; omega
theorem fin_agg3 {w w1 : World} {o : Obj} (hb : Below (w.alloc o).heap.size (w.alloc o) w1) (v0 v1 v2 : Value) :
    Below w.heap.size w (((w1.setCell ⟨w.heap.size, 0, none⟩ v0).setCell ⟨w.heap.size, 1, none⟩ v1).setCell ⟨w.heap.size, 2, none⟩ v2) := by
  have h1 : Below w.heap.size w w1 := (bA (Below.refl _ _) o).trans (hb.mono (by simp))
  exact ((h1.setCell (by simp) _).setCell (by simp) _).setCell (by simp) _
section
variable (y0 m0 y m d h mi s : Int) (hq0 : 1 ≤ m0) (hq1 : m0 ≤ 13) (hno : Hid (∀ w : World, Calls Try.prog 88 #[.int .i64 y0, .int .i64 (m0 - 1), .int .i64 12] w fun e w' => e = .returned (.tuple #[.int .i64 y, .int .i64 (m - 1)]) ∧ w = w')) (b : Nat) (w : World) (hy0 : -1000 ≤ y) (hy1 : y ≤ 60000) (hm0 : 1 ≤ m) (hm1 : m ≤ 12) (hd0 : 1 ≤ d) (hd1 : d ≤ 32) (hh0 : 0 ≤ h) (hh1 : h < 24) (hi0 : 0 ≤ mi) (hi1 : mi < 60) (hs0 : 0 ≤ s) (hs1 : s < 60) (N T : Int)
    (hN : ystart y + cum y m + d - 1 = N) (hT : N * 86400 + (h * 3600 + mi * 60 + s) = T)
include hq0 hq1 hno hy0 hy1 hm0 hm1 hd0 hd1 hh0 hh1 hi0 hi1 hs0 hs1 hN hT
theorem dmk_utc (hL : LocP w b none) (hu0 : -62160000000 ≤ T) (hu1 : T ≤ 1900000000000) :
    Calls Try.prog 74 #[.int .i64 y0, .int .i64 m0, .int .i64 d, .int .i64 h, .int .i64 mi, .int .i64 s, .int .i64 0, .pointer (some ⟨b, 0, none⟩)] w fun e w' => e = .returned (.agg #[.int .u64 0, .int .i64 (reso none T + 62135596800), .pointer none]) ∧ Below w.heap.size w w' := by
  obtain ⟨c0, c2⟩ := hL
  have hlt : b < w.heap.size := World.block_lt_of_cell? w _ c0
  have hA0 := bits_big 0 (by decide) (by decide)
  have hb := day_bd y m d N hy0 hy1 hm0 hm1 hd0 hd1 hN
  have hw := wraps_T N (h * 3600 + mi * 60 + s) hb.1 hb.2 (by omega) (by omega)
  rw [hT] at hw
  have HN := Lib.hid hN
  have HW := Lib.hid hw
  clear hN hT hw
  have hc2 : ∀ o, (w.alloc o).cell? ⟨b, 2, none⟩ = some (.slice none 0 0) := fun o => keep (bA (Below.refl _ _) _) c2
  go_enter Try.func74, Try.ntmps74
  go_wp2_with (first
    | (go_at_call 88; (with_reducible refine (hno.out _).mono ?_); rintro e w' ⟨rfl, rfl⟩)
    | (go_at_call 88; refine (norm_id _ _ _ _ (by omega) (by omega) (by omega)).mono ?_; rintro e w' ⟨rfl, rfl⟩)
    | (go_at_call 89; refine (d2a _ _ _ _ (by omega) (by omega) (by omega) (by omega) (by omega) (by omega)).mono ?_; rintro e w' ⟨rfl, rfl⟩; rw [HN.out])
    | (go_at_call 90; rw [HW.out]; refine (lookup_utc b _ _ (hc2 _)).mono ?_; rintro e w' ⟨rfl, rfl⟩)
    | (go_at_call 30; refine (tUnixTime _ _ (by omega) (by omega) (by omega) (by omega) _).mono ?_; rintro e w1 ⟨rfl, hb1⟩; obtain ⟨hc, hf⟩ := bcell hb1; have hz : w.heap.size < w1.heap.size := (by have := hb1.size; simp at this; omega); have hbz : b < w1.heap.size := (by omega))
    | go_in)
  go_end0
  go_wp2
  go_end0
  go_wp2
  exact bodyPost_ret (v := .agg #[.int .u64 0, .int .i64 (T + 62135596800), .pointer none]) (by simp [results, Try.results74, go_sem, hc, hz]) rfl ⟨by simp [reso, offO], bA (fin_agg3 hb1 _ _ _) _⟩
set_option maxHeartbeats 400000 in
theorem dmk_zone (g1 g2 k1 k2 : Nat) (z : Zone) (hz : z.Good) (hw0 : ZoneAt w b z g1 g2 k1 k2) (hu0 : -62160000000 ≤ T) (hu1 : T ≤ 1900000000000) :
    Calls Try.prog 74 #[.int .i64 y0, .int .i64 m0, .int .i64 d, .int .i64 h, .int .i64 mi, .int .i64 s, .int .i64 0, .pointer (some ⟨b, 0, none⟩)] w fun e w' => e = .returned (.agg #[.int .u64 0, .int .i64 (reso (some z) T + 62135596800), .pointer (some ⟨b, 0, none⟩)]) ∧ Below w.heap.size w w' := by
  have c0 := hw0.c0
  have hlt : b < w.heap.size := World.block_lt_of_cell? w _ c0
  have hA0 := bits_big 0 (by decide) (by decide)
  have hb := day_bd y m d N hy0 hy1 hm0 hm1 hd0 hd1 hN
  have hw := wraps_T N (h * 3600 + mi * 60 + s) hb.1 hb.2 (by omega) (by omega)
  rw [hT] at hw
  have HN := Lib.hid hN
  have HW := Lib.hid hw
  have HZ := Lib.hid hz
  have HZA := Lib.hid hw0
  clear hN hT hw hz hw0
  have ho : ∀ r, -86400 ≤ z.off r ∧ z.off r ≤ 86400 := fun r => Zone.off_bd HZ.out r
  obtain ⟨o, hoo⟩ : ∃ o, z.off T = o := ⟨_, rfl⟩
  obtain ⟨o2, hoo2⟩ : ∃ o2, z.off (T - o) = o2 := ⟨_, rfl⟩
  have b1 := ho T
  have b2 := ho (T - o)
  rw [hoo] at b1
  rw [hoo2] at b2
  have hr : reso (some z) T = T - o2 := by unfold reso offO; simp only [hoo, hoo2]
  rw [hr]
  have HO := Lib.hid hoo
  have HO2 := Lib.hid hoo2
  clear ho hr hoo hoo2
  go_enter Try.func74, Try.ntmps74
  go_wp2_with (first
    | (go_at_call 88; (with_reducible refine (hno.out _).mono ?_); rintro e w' ⟨rfl, rfl⟩)
    | (go_at_call 88; refine (norm_id _ _ _ _ (by omega) (by omega) (by omega)).mono ?_; rintro e w' ⟨rfl, rfl⟩)
    | (go_at_call 89; refine (d2a _ _ _ _ (by omega) (by omega) (by omega) (by omega) (by omega) (by omega)).mono ?_; rintro e w' ⟨rfl, rfl⟩; rw [HN.out])
    | (go_at_call 90; rw [HW.out]; refine (lookup_walk b g1 g2 k1 k2 z _ T HZ.out (HZA.out.below (bA (Below.refl _ _) _)) (by omega) (by omega)).mono ?_; rintro e w' ⟨st, en, dd, rfl, hbl, l1, l2, l3⟩; rw [HO.out]; have LL := Lib.hid l3; clear l3))
  · clear LL
    refine (lookup_walk b g1 g2 k1 k2 z _ (T - o) HZ.out ((HZA.out.below (bA (Below.refl _ _) _)).below hbl) (by omega) (by omega)).mono ?_
    rintro e w2 ⟨st2, en2, dd2, rfl, hb2, -, -, -⟩
    rw [HO2.out]
    replace hbl := hbl.trans (hb2.mono hbl.size)
    clear hb2
    go_wp2_with fail
    refine (tUnixTime _ _ (by omega) (by omega) (by omega) (by omega) _).mono ?_
    rintro e w1 ⟨rfl, hb1⟩
    have hbb := hbl.trans (hb1.mono hbl.size)
    obtain ⟨hc, hf⟩ := bcell hbb
    have hz : w.heap.size < w1.heap.size := by have := hbb.size; simp at this; omega
    have hbz : b < w1.heap.size := by omega
    clear hb1 hbl
    go_wp2_with go_in
    go_end0
    go_wp2
    go_end0
    go_wp2
    exact bodyPost_ret (v := .agg #[.int .u64 0, .int .i64 (T - o2 + 62135596800), .pointer (some ⟨b, 0, none⟩)]) (by simp [results, Try.results74, go_sem, hc, hz]) rfl ⟨rfl, bA (fin_agg3 hbb _ _ _) _⟩
  · obtain rfl : o2 = o := by rw [← HO2.out, LL.out (T - o) (by omega) (by omega), HO.out]
    clear LL
    refine (tUnixTime _ _ (by omega) (by omega) (by omega) (by omega) _).mono ?_
    rintro e w1 ⟨rfl, hb1⟩
    have hbb := hbl.trans (hb1.mono hbl.size)
    obtain ⟨hc, hf⟩ := bcell hbb
    have hz : w.heap.size < w1.heap.size := by have := hbb.size; simp at this; omega
    have hbz : b < w1.heap.size := by omega
    clear hb1 hbl
    go_wp2_with go_in
    go_end0
    go_wp2
    go_end0
    go_wp2
    exact bodyPost_ret (v := .agg #[.int .u64 0, .int .i64 (T - o2 + 62135596800), .pointer (some ⟨b, 0, none⟩)]) (by simp [results, Try.results74, go_sem, hc, hz]) rfl ⟨rfl, bA (fin_agg3 hbb _ _ _) _⟩
  · clear LL
    refine (lookup_walk b g1 g2 k1 k2 z _ (T - o) HZ.out ((HZA.out.below (bA (Below.refl _ _) _)).below hbl) (by omega) (by omega)).mono ?_
    rintro e w2 ⟨st2, en2, dd2, rfl, hb2, -, -, -⟩
    rw [HO2.out]
    replace hbl := hbl.trans (hb2.mono hbl.size)
    clear hb2
    go_wp2_with fail
    refine (tUnixTime _ _ (by omega) (by omega) (by omega) (by omega) _).mono ?_
    rintro e w1 ⟨rfl, hb1⟩
    have hbb := hbl.trans (hb1.mono hbl.size)
    obtain ⟨hc, hf⟩ := bcell hbb
    have hz : w.heap.size < w1.heap.size := by have := hbb.size; simp at this; omega
    have hbz : b < w1.heap.size := by omega
    clear hb1 hbl
    go_wp2_with go_in
    go_end0
    go_wp2
    go_end0
    go_wp2
    exact bodyPost_ret (v := .agg #[.int .u64 0, .int .i64 (T - o2 + 62135596800), .pointer (some ⟨b, 0, none⟩)]) (by simp [results, Try.results74, go_sem, hc, hz]) rfl ⟨rfl, bA (fin_agg3 hbb _ _ _) _⟩
  · clear LL
    obtain rfl : o = 0 := by simpa using ‹(o != 0) = false›
    obtain rfl : o2 = 0 := by rw [← HO2.out, show T - 0 = T by omega, HO.out]
    refine (tUnixTime _ _ (by omega) (by omega) (by omega) (by omega) _).mono ?_
    rintro e w1 ⟨rfl, hb1⟩
    have hbb := hbl.trans (hb1.mono hbl.size)
    obtain ⟨hc, hf⟩ := bcell hbb
    have hz : w.heap.size < w1.heap.size := by have := hbb.size; simp at this; omega
    have hbz : b < w1.heap.size := by omega
    clear hb1 hbl
    go_wp2_with go_in
    go_end0
    go_wp2
    go_end0
    go_wp2
    exact bodyPost_ret (v := .agg #[.int .u64 0, .int .i64 (T + 62135596800), .pointer (some ⟨b, 0, none⟩)]) (by simp [results, Try.results74, go_sem, hc, hz]) rfl ⟨by rw [show T - 0 = T by omega], bA (fin_agg3 hbb _ _ _) _⟩
theorem dmk (z : Option Zone) (hL : LocP w b z) (hu0 : -62160000000 ≤ T) (hu1 : T ≤ 1900000000000) :
    Calls Try.prog 74 #[.int .i64 y0, .int .i64 m0, .int .i64 d, .int .i64 h, .int .i64 mi, .int .i64 s, .int .i64 0, .pointer (some ⟨b, 0, none⟩)] w fun e w' => e = .returned (.agg #[.int .u64 0, .int .i64 (reso z T + 62135596800), .pointer (canon b z)]) ∧ Below w.heap.size w w' := by
  cases z with
  | none => exact dmk_utc y0 m0 y m d h mi s hq0 hq1 hno b w hy0 hy1 hm0 hm1 hd0 hd1 hh0 hh1 hi0 hi1 hs0 hs1 N T hN hT hL (by omega) hu1
  | some z =>
    obtain ⟨hz, g1, g2, k1, k2, hw⟩ := hL
    exact dmk_zone y0 m0 y m d h mi s hq0 hq1 hno b w hy0 hy1 hm0 hm1 hd0 hd1 hh0 hh1 hi0 hi1 hs0 hs1 N T hN hT g1 g2 k1 k2 z hz hw hu0 hu1
end
end Go.Proofs.Ytjmgebhjkbcpcaa.NM
set_option linter.unusedVariables false
set_option linter.unusedSimpArgs false
namespace Go.Proofs.Ytjmgebhjkbcpcaa.NM
open Go.RowKit Cal
theorem nsec0 (b : Nat) (w : World) (h0 : w.cell? ⟨b, 0, none⟩ = some (.int .u64 0)) : Calls Try.prog 45 #[.pointer (some ⟨b, 0, none⟩)] w fun e w' => e = .returned (.int .i32 0) ∧ w = w' := by
  have hB0 := bits_low 0 (by decide) (by decide)
  go_enter Try.func45, Try.ntmps45
  go_wp2
  go_ret
  exact ⟨rfl, rfl⟩
theorem norm_h0 (y m : Int) (h0 : 1 ≤ m) (h1 : m ≤ 12) : Hid (∀ w : World, Calls Try.prog 88 #[.int .i64 y, .int .i64 (m - 1), .int .i64 12] w fun e w' => e = .returned (.tuple #[.int .i64 y, .int .i64 (m - 1)]) ∧ w = w') :=
  fun w => norm_id _ _ _ w (by omega) (by omega) (by omega)
theorem norm_h1 (y : Int) (h0 : -1000 ≤ y) (h1 : y ≤ 100000) : Hid (∀ w : World, Calls Try.prog 88 #[.int .i64 y, .int .i64 (13 - 1), .int .i64 12] w fun e w' => e = .returned (.tuple #[.int .i64 (y + 1), .int .i64 (1 - 1)]) ∧ w = w') :=
  fun w => norm_12 y w (by omega) (by omega)
/-- Date at AddDate's arguments -/
theorem dmk_add (z : Option Zone) (l k dm dd : Int) (b : Nat) (w : World) (hL : LocP w b z) (hl0 : -62155000000 ≤ l) (hl1 : l ≤ 1500000000000)
    (hc : (dm = 0 ∧ dd = 1 ∧ k = 1) ∨ (dm = 1 ∧ dd = 0 ∧ k = mlen (gyear (l / 86400)) (gmonth (l / 86400)))) :
    Calls Try.prog 74 #[.int .i64 (gyear (l / 86400)), .int .i64 (gmonth (l / 86400) + dm), .int .i64 (gday (l / 86400) + dd), .int .i64 (l % 86400 / 3600), .int .i64 (l % 3600 / 60), .int .i64 (l % 60), .int .i64 0, .pointer (some ⟨b, 0, none⟩)] w
      fun e w' => e = .returned (.agg #[.int .u64 0, .int .i64 (reso z (l + 86400 * k) + 62135596800), .pointer (canon b z)]) ∧ Below w.heap.size w w' := by
  have hg := gdate (l / 86400)
  have hd := mlen_bd (gyear (l / 86400)) (gmonth (l / 86400))
  have hy0 : -900 ≤ gyear (l / 86400) := by
    have := hg.hi; unfold ystart at this; omega
  have hy1 : gyear (l / 86400) ≤ 50000 := by
    have := hg.lo; unfold ystart at this; omega
  obtain ⟨glo, gm1, gm12, gd1, gdm, geq⟩ := hg
  generalize gyear (l / 86400) = y at *
  generalize gmonth (l / 86400) = m at *
  generalize gday (l / 86400) = d at *
  have hT : ∀ N, N = l / 86400 + k → N * 86400 + (l % 86400 / 3600 * 3600 + l % 3600 / 60 * 60 + l % 60) = l + 86400 * k := fun N h => by omega
  rcases hc with ⟨rfl, rfl, rfl⟩ | ⟨rfl, rfl, rfl⟩
  · rw [show m + 0 = m by omega]
    exact dmk y m y m (d + 1) _ _ _ gm1 (by omega) (norm_h0 y m gm1 gm12) b w (by omega) (by omega) gm1 gm12 (by omega) (by omega) (by omega) (by omega) (by omega) (by omega) (by omega) (by omega)
      (ystart y + cum y m + (d + 1) - 1) _ rfl (hT _ (by omega)) z hL (by omega) (by omega)
  · rw [show d + 0 = d by omega]
    by_cases h12 : m = 12
    · subst h12
      have e1 := ystart_succ y
      have e2 := cum_succ y 12 (by omega) (by omega)
      have e3 := cum_13 y
      have e4 := cum_one (y + 1)
      rw [show (12 : Int) + 1 = 13 by rfl] at *
      exact dmk y 13 (y + 1) 1 d _ _ _ (by omega) (by omega) (norm_h1 y (by omega) (by omega)) b w (by omega) (by omega) (by omega) (by omega) (by omega) (by omega) (by omega) (by omega) (by omega) (by omega) (by omega) (by omega)
        (ystart (y + 1) + cum (y + 1) 1 + d - 1) _ rfl (hT _ (by omega)) z hL (by omega) (by omega)
    · have e2 := cum_succ y m gm1 gm12
      exact dmk y (m + 1) y (m + 1) d _ _ _ (by omega) (by omega) (norm_h0 y (m + 1) (by omega) (by omega)) b w (by omega) (by omega) (by omega) (by omega) (by omega) (by omega) (by omega) (by omega) (by omega) (by omega) (by omega) (by omega)
        (ystart y + cum y (m + 1) + d - 1) _ rfl (hT _ (by omega)) z hL (by omega) (by omega)
set_option maxHeartbeats 2000000 in
theorem tAddDate (x k dm dd : Int) (L : Option Addr) (z : Option Zone) (w : World) (hL : TLoc w L z) (h0 : -15000000 ≤ x) (h1 : x ≤ 1500000000000) (hl0 : -62155000000 ≤ lo z x) (hl1 : lo z x ≤ 1500000000000)
    (hc : Hid ((dm = 0 ∧ dd = 1 ∧ k = 1) ∨ (dm = 1 ∧ dd = 0 ∧ k = mlen (gyear (lo z x / 86400)) (gmonth (lo z x / 86400))))) (hdm0 : 0 ≤ dm) (hdm1 : dm ≤ 1) (hdd0 : 0 ≤ dd) (hdd1 : dd ≤ 1) :
    Calls Try.prog 75 #[.agg #[.int .u64 0, .int .i64 x, .pointer L], .int .i64 0, .int .i64 dm, .int .i64 dd] w fun e w' => e = .returned (.agg #[.int .u64 0, .int .i64 (reso z (lo z x + 86400 * k) + 62135596800), .pointer L]) ∧ Below w.heap.size w w' := by
  have hn : Nan 0 := ⟨by decide, by decide⟩
  have hg := gdate (lo z x / 86400)
  have hd := mlen_bd (gyear (lo z x / 86400)) (gmonth (lo z x / 86400))
  have hy0 : -900 ≤ gyear (lo z x / 86400) := by
    have := hg.hi; unfold ystart at this; omega
  have hy1 : gyear (lo z x / 86400) ≤ 50000 := by
    have := hg.lo; unfold ystart at this; omega
  obtain ⟨glo, gm1, gm12, gd1, gdm, geq⟩ := hg
  clear glo geq
  have HL := Lib.hid hL
  clear hL
  have hA0 := bits_low 0 (by decide) (by decide)
  go_enter Try.func75, Try.ntmps75
  go_wp2_with (first
    | (go_at_call 91; refine (tDate 0 x L z _ (HL.out.below (bA (bA (Below.refl _ _) _) _)) hn (by omega) (by omega)).mono ?_; rintro e w1 ⟨rfl, hb1⟩; obtain ⟨hc1, hf1⟩ := bcell hb1; have hz1 : w.heap.size + 1 < w1.heap.size := (by have := hb1.size; simp at this; omega))
    | (go_at_call 92; refine (tClock 0 x L z _ ((HL.out.below (bA (bA (Below.refl _ _) _) _)).below hb1) hn (by omega) (by omega)).mono ?_; rintro e w2 ⟨rfl, hb2⟩; have hbb := hb1.trans (hb2.mono hb1.size); clear hc1 hf1 hz1; obtain ⟨hc1, hf1⟩ := bcell hbb; have hz1 : w.heap.size + 1 < w2.heap.size := (by have := hbb.size; simp at this; omega); clear hb1 hb2))
  have hcn : w2.cell? ⟨w.heap.size, 0, none⟩ = some (.int .u64 0) := by rw [hc1 _ _ (by simp; omega)]; simp [go_sem]
  have hcw : w2.cell? ⟨w.heap.size, 1, none⟩ = some (.int .i64 x) := by rw [hc1 _ _ (by simp; omega)]; simp [go_sem]
  have hcL : w2.cell? ⟨w.heap.size, 2, none⟩ = some (.pointer L) := by rw [hc1 _ _ (by simp; omega)]; simp [go_sem]
  have hr0 : w2.drew.cell? ⟨w.heap.size + 1, 0, none⟩ = some (.int .u64 0) := by show w2.cell? _ = _; rw [hc1 _ _ (by simp)]; simp [go_sem]
  have hr1 : w2.drew.cell? ⟨w.heap.size + 1, 1, none⟩ = some (.int .i64 0) := by show w2.cell? _ = _; rw [hc1 _ _ (by simp)]; simp [go_sem]
  have hr2 : w2.drew.cell? ⟨w.heap.size + 1, 2, none⟩ = some (.pointer none) := by show w2.cell? _ = _; rw [hc1 _ _ (by simp)]; simp [go_sem]
  have hq : ∀ o, w2.drew.frozen? ⟨w.heap.size + 1, o, none⟩ = false := fun o => by show w2.frozen? _ = _; rw [hf1 _ _ (by simp)]; simp [go_sem]
  have HQ := Lib.hid hq
  clear hq
  have HL2 : Hid (TLoc w2 L z) := (HL.out.below (bA (bA (Below.refl _ _) _) _)).below hbb
  have HBB := Lib.hid hbb
  have HC1 := Lib.hid hc1
  have HF1 := Lib.hid hf1
  clear hbb hc1 hf1
  have ew1 : IntKind.i64.wrap (gyear (lo z x / 86400)) = gyear (lo z x / 86400) := IntWalk.i64_in _ (by omega)
  have ew2 : IntKind.i64.wrap (gmonth (lo z x / 86400) + dm) = gmonth (lo z x / 86400) + dm := IntWalk.i64_in _ (by omega)
  have ew3 : IntKind.i64.wrap (gday (lo z x / 86400) + dd) = gday (lo z x / 86400) + dd := IntWalk.i64_in _ (by omega)
  have ew4 : IntKind.i64.wrap 0 = 0 := by decide
  go_region_with (first
    | (go_at_call 45; refine (nsec0 _ _ (by first | exact hcn | assumption)).mono ?_; rintro e w3 ⟨rfl, rfl⟩)
    | (go_at_call 71; refine (tLoc 0 x L z _ (HL2.out.below (Below.refl _ _).drew)).mono ?_; rintro e w3 ⟨b3, rfl, hp3, rfl, hb3⟩; have hcn3 := keep hb3 (show w2.drew.cell? _ = _ from hcn))
    | (go_at_call 74; refine (dmk_add z (lo z x) k dm dd _ _ (by assumption) hl0 hl1 hc.out).mono ?_; rintro e w4 ⟨rfl, hb4⟩; have hb34 := hb3.trans (hb4.mono hb3.size); have hs0 := keep hb34 hr0; have hs1 := keep hb34 hr1; have hs2 := keep hb34 hr2; have hlt4 := World.block_lt_of_cell? _ _ hr0; have hq0 := (hb34.frozen (p := ⟨w.heap.size + 1, 0, none⟩) hlt4).trans (HQ.out 0); have hq1 := (hb34.frozen (p := ⟨w.heap.size + 1, 1, none⟩) hlt4).trans (HQ.out 1); have hq2 := (hb34.frozen (p := ⟨w.heap.size + 1, 2, none⟩) hlt4).trans (HQ.out 2)))
  all_goals
    go_wp2
    have hB : Below w.heap.size w w4 := ((bA (bA (Below.refl _ _) _) _).trans (HBB.out.mono (by simp; omega))).drew.trans (hb34.mono (by show w.heap.size ≤ w2.heap.size; omega))
    exact bodyPost_ret (v := .agg #[.int .u64 0, .int .i64 (reso z (lo z x + 86400 * k) + 62135596800), .pointer (canon b3 z)]) (by simp [results, Try.results75, go_sem, hs0, hs1, hs2]) rfl ⟨rfl, ((hB.setCell (by simp) _).setCell (by simp) _).setCell (by simp) _⟩
end Go.Proofs.Ytjmgebhjkbcpcaa.NM
set_option linter.unusedVariables false
set_option linter.unusedSimpArgs false
namespace Go.Proofs.Ytjmgebhjkbcpcaa.NM
open Go.RowKit Cal
theorem tTrunc60 (x : Int) (L : Option Addr) (w : World) (h0 : 0 ≤ x) (h1 : x ≤ 1500000000000) :
    Calls Try.prog 79 #[.agg #[.int .u64 0, .int .i64 x, .pointer L], .int .i64 60000000000] w fun e w' => e = .returned (.agg #[.int .u64 0, .int .i64 (x - x % 60), .pointer L]) ∧ Below w.heap.size w w' := by
  have hA0 := bits_big 0 (by decide) (by decide)
  go_enter Try.func79, Try.ntmps79
  go_wp2_with (first
    | (go_at_call 94; refine (div60 x L _ h0 (by omega)).mono ?_; rintro e w1 ⟨q, rfl, hb1⟩; obtain ⟨hc, hf⟩ := bcell hb1; have hz : w.heap.size + 1 < w1.heap.size := (by have := hb1.size; simp at this; omega))
    | (go_at_call 68; refine (tAddNeg x (x % 60) L _ h0 (by omega) (by omega) (by omega) (by omega)).mono ?_; rintro e w2 ⟨rfl, hb2⟩; have hbb := hb1.trans (hb2.mono hb1.size); clear hc hf; obtain ⟨hc, hf⟩ := bcell hbb; have hz2 : w.heap.size + 1 < w2.heap.size := (by have := hbb.size; simp at this; omega))
    | go_in)
  go_end0
  go_wp2_with (first
    | (go_at_call 94; refine (div60 x L _ h0 (by omega)).mono ?_; rintro e w1 ⟨q, rfl, hb1⟩; obtain ⟨hc, hf⟩ := bcell hb1; have hz : w.heap.size + 1 < w1.heap.size := (by have := hb1.size; simp at this; omega))
    | (go_at_call 68; refine (tAddNeg x (x % 60) L _ h0 (by omega) (by omega) (by omega) (by omega)).mono ?_; rintro e w2 ⟨rfl, hb2⟩; have hbb := hb1.trans (hb2.mono hb1.size); clear hc hf; obtain ⟨hc, hf⟩ := bcell hbb; have hz2 : w.heap.size + 1 < w2.heap.size := (by have := hbb.size; simp at this; omega))
    | go_in)
  exact bodyPost_ret (v := .agg #[.int .u64 0, .int .i64 (x - x % 60), .pointer L]) (by simp [results, Try.results79, go_sem, hc, hz2]) rfl ⟨rfl, (((((bA (bA (Below.refl _ _) _) _).trans (hbb.mono (by simp; omega)))).setCell (by simp) _).setCell (by simp) _).setCell (by simp) _⟩
theorem tTrunc1 (x : Int) (L : Option Addr) (w : World) (h0 : 0 ≤ x) (h1 : x ≤ 1500000000000) :
    Calls Try.prog 79 #[.agg #[.int .u64 0, .int .i64 x, .pointer L], .int .i64 1000000000] w fun e w' => e = .returned (.agg #[.int .u64 0, .int .i64 x, .pointer L]) ∧ Below w.heap.size w w' := by
  have hA0 := bits_big 0 (by decide) (by decide)
  go_enter Try.func79, Try.ntmps79
  go_wp2_with go_in
  go_end0
  go_wp2_with (first
    | (go_at_call 94; refine (div1 x L _ h0 (by omega)).mono ?_; rintro e w1 ⟨q, rfl, hb1⟩; obtain ⟨hc, hf⟩ := bcell hb1; have hz : w.heap.size + 1 < w1.heap.size := (by have := hb1.size; simp at this; omega))
    | (go_at_call 68; refine (tAdd0 x _ 0 L _ (by omega) (by omega) (by omega) (by omega) (by decide) (by decide)).mono ?_; rintro e w2 ⟨rfl, hb2⟩; have hbb := hb1.trans (hb2.mono hb1.size); clear hc hf; obtain ⟨hc, hf⟩ := bcell hbb; have hz2 : w.heap.size + 1 < w2.heap.size := (by have := hbb.size; simp at this; omega)))
  exact bodyPost_ret (v := .agg #[.int .u64 0, .int .i64 (x + 0), .pointer L]) (by simp [results, Try.results79, go_sem, hc, hz2]) rfl ⟨by rw [show x + 0 = x by omega], (((((bA (bA (Below.refl _ _) _) _).trans (hbb.mono (by simp; omega)))).setCell (by simp) _).setCell (by simp) _).setCell (by simp) _⟩
end Go.Proofs.Ytjmgebhjkbcpcaa.NM
