/- a part of the proof: FnCronListNext: for every six words, kind of field, part and instant the law function returns true and leaves its arguments as they were. No condition is added: the statement is the given one, the tied card. -/
import Derived.Shelf.LaysC
import Derived.Shelf.Strconv.AtoiAll
import Derived.Shelf.Strings.FieldsFuncAny
import Derived.Shelf.Unicode.Decode
import Derived.Test.YtjmgebhjkbcpcaaGreatDoorProg
import Derived.Test.YtjmgebhjkbcpcaaGreatDoorNH
import Derived.MapKept
import Derived.Carry
import Derived.WalkSpells
import Derived.Deep.RegionHeld3
import Derived.Lib.FieldsP
import Derived.Laws.RangeString
import Derived.Test.YtjmgebhjkbcpcaaGreatDoorNE
section
namespace Go.Proofs
open Go.Shelf
def Tryz.laysC172_ren : Go.Shelf.Ren := ⟨fun | 172 => 129 | 244 => 134 | 245 => 135 | 247 => 137 | 279 => 138 | 280 => 139 | 281 => 140 | 282 => 141 | 287 => 142 | 316 => 143 | 171 => 144 | 205 => 43 | 321 => 145 | 322 => 146 | 243 => 147 | 246 => 148 | 283 => 149 | 284 => 150 | 285 => 151 | 286 => 152 | 129 => 154 | 317 => 153 | 318 => 155 | 319 => 156 | 320 => 157 | 337 => 158 | 338 => 159 | n => n, fun | 9 => 9 | 3 => 3 | 75 => 72 | 76 => 212 | 4 => 4 | 5 => 5 | 167 => 218 | 37 => 215 | 0 => 0 | 85 => 219 | 2 => 2 | 168 => 221 | 53 => 28 | 175 => 118 | 46 => 114 | 210 => 226 | 127 => 227 | 145 => 148 | 143 => 146 | 21 => 21 | 171 => 229 | 173 => 232 | 212 => 235 | 51 => 236 | 20 => 20 | 213 => 237 | 232 => 240 | 233 => 241 | 80 => 242 | n => n, fun | 15 => 4 | 16 => 5 | 17 => 6 | 18 => 7 | 19 => 8 | n => n⟩
theorem Tryz.laysC172 : Go.Proofs.LaysC.n172 Tryz.prog Tryz.laysC172_ren := {
  mixed := by kernel_rfl
  f129 := Tryz.func154.trans (congrArg some (by kernel_rfl))
  f171 := Tryz.func144.trans (congrArg some (by kernel_rfl))
  f172 := Tryz.func129.trans (congrArg some (by kernel_rfl))
  f205 := Tryz.func43.trans (congrArg some (by kernel_rfl))
  f243 := Tryz.func147.trans (congrArg some (by kernel_rfl))
  f244 := Tryz.func134.trans (congrArg some (by kernel_rfl))
  f245 := Tryz.func135.trans (congrArg some (by kernel_rfl))
  f246 := Tryz.func148.trans (congrArg some (by kernel_rfl))
  f247 := Tryz.func137.trans (congrArg some (by kernel_rfl))
  f279 := Tryz.func138.trans (congrArg some (by kernel_rfl))
  f280 := Tryz.func139.trans (congrArg some (by kernel_rfl))
  f281 := Tryz.func140.trans (congrArg some (by kernel_rfl))
  f282 := Tryz.func141.trans (congrArg some (by kernel_rfl))
  f283 := Tryz.func149.trans (congrArg some (by kernel_rfl))
  f284 := Tryz.func150.trans (congrArg some (by kernel_rfl))
  f285 := Tryz.func151.trans (congrArg some (by kernel_rfl))
  f286 := Tryz.func152.trans (congrArg some (by kernel_rfl))
  f287 := Tryz.func142.trans (congrArg some (by kernel_rfl))
  f316 := Tryz.func143.trans (congrArg some (by kernel_rfl))
  f317 := Tryz.func153.trans (congrArg some (by kernel_rfl))
  f318 := Tryz.func155.trans (congrArg some (by kernel_rfl))
  f319 := Tryz.func156.trans (congrArg some (by kernel_rfl))
  f320 := Tryz.func157.trans (congrArg some (by kernel_rfl))
  f321 := Tryz.func145.trans (congrArg some (by kernel_rfl))
  f322 := Tryz.func146.trans (congrArg some (by kernel_rfl))
  f337 := Tryz.func158.trans (congrArg some (by kernel_rfl))
  f338 := Tryz.func159.trans (congrArg some (by kernel_rfl))
  t0 := Tryz.underlying0
  a0 := Tryz.isAgg0
  z0 := Tryz.sizeOf0
  v0 := Tryz.zeroValue0
  t2 := Tryz.underlying2
  a2 := Tryz.isAgg2
  z2 := Tryz.sizeOf2
  v2 := Tryz.zeroValue2
  t3 := Tryz.underlying3
  a3 := Tryz.isAgg3
  z3 := Tryz.sizeOf3
  v3 := Tryz.zeroValue3
  t4 := Tryz.underlying4
  a4 := Tryz.isAgg4
  z4 := Tryz.sizeOf4
  v4 := Tryz.zeroValue4
  t5 := Tryz.underlying5
  a5 := Tryz.isAgg5
  z5 := Tryz.sizeOf5
  v5 := Tryz.zeroValue5
  t9 := Tryz.underlying9
  a9 := Tryz.isAgg9
  z9 := Tryz.sizeOf9
  v9 := Tryz.zeroValue9
  t20 := Tryz.underlying20
  a20 := Tryz.isAgg20
  z20 := Tryz.sizeOf20
  v20 := Tryz.zeroValue20
  t21 := Tryz.underlying21
  a21 := Tryz.isAgg21
  z21 := Tryz.sizeOf21
  v21 := Tryz.zeroValue21
  t37 := Tryz.underlying215
  a37 := Tryz.isAgg215
  z37 := Tryz.sizeOf215
  v37 := Tryz.zeroValue215
  t46 := Tryz.underlying114
  a46 := Tryz.isAgg114
  z46 := Tryz.sizeOf114
  v46 := Tryz.zeroValue114
  t51 := Tryz.underlying236
  a51 := Tryz.isAgg236
  z51 := Tryz.sizeOf236
  v51 := Tryz.zeroValue236
  t53 := Tryz.underlying28
  a53 := Tryz.isAgg28
  z53 := Tryz.sizeOf28
  v53 := Tryz.zeroValue28
  t75 := Tryz.underlying72
  a75 := Tryz.isAgg72
  z75 := Tryz.sizeOf72
  v75 := Tryz.zeroValue72
  t76 := Tryz.underlying212
  a76 := Tryz.isAgg212
  z76 := Tryz.sizeOf212
  v76 := Tryz.zeroValue212
  t85 := Tryz.underlying219
  a85 := Tryz.isAgg219
  z85 := Tryz.sizeOf219
  v85 := Tryz.zeroValue219
  t127 := Tryz.underlying227
  a127 := Tryz.isAgg227
  z127 := Tryz.sizeOf227
  v127 := Tryz.zeroValue227
  t143 := Tryz.underlying146
  a143 := Tryz.isAgg146
  z143 := Tryz.sizeOf146
  v143 := Tryz.zeroValue146
  t145 := Tryz.underlying148
  a145 := Tryz.isAgg148
  z145 := Tryz.sizeOf148
  v145 := Tryz.zeroValue148
  t167 := Tryz.underlying218
  a167 := Tryz.isAgg218
  z167 := Tryz.sizeOf218
  v167 := Tryz.zeroValue218
  t168 := Tryz.underlying221
  a168 := Tryz.isAgg221
  z168 := Tryz.sizeOf221
  v168 := Tryz.zeroValue221
  t171 := Tryz.underlying229
  a171 := Tryz.isAgg229
  z171 := Tryz.sizeOf229
  v171 := Tryz.zeroValue229
  t173 := Tryz.underlying232
  a173 := Tryz.isAgg232
  z173 := Tryz.sizeOf232
  v173 := Tryz.zeroValue232
  t175 := Tryz.underlying118
  a175 := Tryz.isAgg118
  z175 := Tryz.sizeOf118
  v175 := Tryz.zeroValue118
  t210 := Tryz.underlying226
  a210 := Tryz.isAgg226
  z210 := Tryz.sizeOf226
  v210 := Tryz.zeroValue226
  t212 := Tryz.underlying235
  a212 := Tryz.isAgg235
  z212 := Tryz.sizeOf235
  v212 := Tryz.zeroValue235
  t213 := Tryz.underlying237
  a213 := Tryz.isAgg237
  z213 := Tryz.sizeOf237
  t232 := Tryz.underlying240
  a232 := Tryz.isAgg240
  z232 := Tryz.sizeOf240
  v232 := Tryz.zeroValue240
  t233 := Tryz.underlying241
  a233 := Tryz.isAgg241
  z233 := Tryz.sizeOf241
  v233 := Tryz.zeroValue241
  g15 := by kernel_rfl
  g16 := by kernel_rfl
  g17 := by kernel_rfl
  g18 := by kernel_rfl
  g19 := by kernel_rfl
  t80 := Tryz.underlying242
  a80 := Tryz.isAgg242
  z80 := Tryz.sizeOf242
  v80 := Tryz.zeroValue242
  i0 := by kernel_rfl
  i2 := by kernel_rfl
  i3 := by kernel_rfl
  i4 := by kernel_rfl
  i5 := by kernel_rfl
  i9 := by kernel_rfl
  i20 := by kernel_rfl
  i21 := by kernel_rfl
  i37 := by kernel_rfl
  i46 := by kernel_rfl
  i51 := by kernel_rfl
  i53 := by kernel_rfl
  i75 := by kernel_rfl
  i76 := by kernel_rfl
  i80 := by kernel_rfl
  i85 := by kernel_rfl
  i127 := by kernel_rfl
  i143 := by kernel_rfl
  i145 := by kernel_rfl
  i167 := by kernel_rfl
  i168 := by kernel_rfl
  i171 := by kernel_rfl
  i173 := by kernel_rfl
  i175 := by kernel_rfl
  i210 := by kernel_rfl
  i212 := by kernel_rfl
  i232 := by kernel_rfl
  i233 := by kernel_rfl
  m15 := by kernel_rfl
  m16 := by kernel_rfl
  m17 := by kernel_rfl
  m18 := by kernel_rfl
  m19 := by kernel_rfl
  c0 := by kernel_rfl
  c2 := by kernel_rfl
  c3 := by kernel_rfl
  c4 := by kernel_rfl
  c5 := by kernel_rfl
  c9 := by kernel_rfl
  c20 := by kernel_rfl
  c21 := by kernel_rfl
  c37 := by kernel_rfl
  c46 := by kernel_rfl
  c51 := by kernel_rfl
  c53 := by kernel_rfl
  c75 := by kernel_rfl
  c76 := by kernel_rfl
  c80 := by kernel_rfl
  c85 := by kernel_rfl
  c127 := by kernel_rfl
  c143 := by kernel_rfl
  c145 := by kernel_rfl
  c167 := by kernel_rfl
  c168 := by kernel_rfl
  c171 := by kernel_rfl
  c173 := by kernel_rfl
  c175 := by kernel_rfl
  c210 := by kernel_rfl
  c212 := by kernel_rfl
  c213 := by kernel_rfl
  c232 := by kernel_rfl
  c233 := by kernel_rfl }
open Go.RowKit in
/-- strconv.Atoi, AT EVERY STRING THAT SPELLS AN int ('Lib.atoiAll .. = .ok v'; of whatever length: leading zeros count): v, AND NO ERROR. The world: as it was, or with the one new row that '[]byte(..)' lays. (LAID: no walk: one application.) -/
theorem Tryz.strconv_Atoi_ok (s : ByteArray) (hmax : s.size ≤ 9223372036854775806) (v : Int) (h : Lib.atoiAll s.data.toList = .ok v) (w : World) :
    Calls Tryz.prog 129 #[.string s] w fun e w' => e = .returned (.tuple #[.int .i64 v, .nilIface]) ∧ (w' = w ∨ ∃ t, w' = Lib.bytesWorld w 5 t) := Any.strconv_Atoi_ok Tryz.laysC172 s hmax v h w
def Tryz.lays197_ren : Go.Shelf.Ren := ⟨fun | 197 => 85 | 260 => 109 | n => n, fun | 9 => 9 | 21 => 21 | 3 => 3 | 4 => 4 | 5 => 5 | 105 => 149 | 119 => 207 | 0 => 0 | 46 => 114 | 139 => 210 | 138 => 209 | n => n, fun | 3 => 1 | 4 => 2 | n => n⟩
theorem Tryz.lays197 : Go.Proofs.Lays.n197 Tryz.prog Tryz.lays197_ren := {
  mixed := by kernel_rfl
  f197 := Tryz.func85.trans (congrArg some (by kernel_rfl))
  f260 := Tryz.func109.trans (congrArg some (by kernel_rfl))
  t0 := Tryz.underlying0
  a0 := Tryz.isAgg0
  z0 := Tryz.sizeOf0
  v0 := Tryz.zeroValue0
  t3 := Tryz.underlying3
  a3 := Tryz.isAgg3
  z3 := Tryz.sizeOf3
  v3 := Tryz.zeroValue3
  t4 := Tryz.underlying4
  a4 := Tryz.isAgg4
  z4 := Tryz.sizeOf4
  v4 := Tryz.zeroValue4
  t5 := Tryz.underlying5
  a5 := Tryz.isAgg5
  z5 := Tryz.sizeOf5
  v5 := Tryz.zeroValue5
  t9 := Tryz.underlying9
  a9 := Tryz.isAgg9
  z9 := Tryz.sizeOf9
  v9 := Tryz.zeroValue9
  t21 := Tryz.underlying21
  a21 := Tryz.isAgg21
  z21 := Tryz.sizeOf21
  v21 := Tryz.zeroValue21
  t46 := Tryz.underlying114
  a46 := Tryz.isAgg114
  z46 := Tryz.sizeOf114
  v46 := Tryz.zeroValue114
  t105 := Tryz.underlying149
  a105 := Tryz.isAgg149
  z105 := Tryz.sizeOf149
  v105 := Tryz.zeroValue149
  t119 := Tryz.underlying207
  a119 := Tryz.isAgg207
  z119 := Tryz.sizeOf207
  t138 := Tryz.underlying209
  a138 := Tryz.isAgg209
  z138 := Tryz.sizeOf209
  v138 := Tryz.zeroValue209
  t139 := Tryz.underlying210
  a139 := Tryz.isAgg210
  z139 := Tryz.sizeOf210
  v139 := Tryz.zeroValue210
  g3 := by kernel_rfl
  g4 := by kernel_rfl }
open Go.RowKit Go.Lib in
/-- unicode/utf8.DecodeRuneInString: "DecodeRuneInString is like DecodeRune but its input is a string.": ("DecodeRune unpacks the first UTF-8 encoding in p and returns the rune and its width in bytes."): WHERE s BEGINS WITH AN ASCII BYTE x: (x, 1). (LAID: no walk: one application.) -/
theorem Tryz.utf8_DecodeRuneInString_ascii (s : ByteArray) (x : UInt8) (w : World) (h0 : s.data.toList[0]? = some x) (hx : x.toNat < 128) :
    Calls Tryz.prog 85 #[.string s] w fun e w' => e = .returned (.tuple #[.int .i32 x.toNat, .int .i64 1]) ∧ w' = w := Any.utf8_DecodeRuneInString_ascii Tryz.lays197 s x w h0 hx
def Tryz.lays229_ren : Go.Shelf.Ren := ⟨fun | 229 => 92 | n => n, fun | 9 => 9 | 40 => 151 | 31 => 32 | 152 => 196 | 3 => 3 | 0 => 0 | 4 => 4 | 21 => 21 | 154 => 198 | n => n, fun | n => n⟩
theorem Tryz.lays229 : Go.Proofs.Lays.n229 Tryz.prog Tryz.lays229_ren := {
  mixed := by kernel_rfl
  f229 := Tryz.func92.trans (congrArg some (by kernel_rfl))
  t0 := Tryz.underlying0
  a0 := Tryz.isAgg0
  z0 := Tryz.sizeOf0
  v0 := Tryz.zeroValue0
  t3 := Tryz.underlying3
  a3 := Tryz.isAgg3
  z3 := Tryz.sizeOf3
  v3 := Tryz.zeroValue3
  t4 := Tryz.underlying4
  a4 := Tryz.isAgg4
  z4 := Tryz.sizeOf4
  v4 := Tryz.zeroValue4
  t9 := Tryz.underlying9
  a9 := Tryz.isAgg9
  z9 := Tryz.sizeOf9
  v9 := Tryz.zeroValue9
  t21 := Tryz.underlying21
  a21 := Tryz.isAgg21
  z21 := Tryz.sizeOf21
  v21 := Tryz.zeroValue21
  t31 := Tryz.underlying32
  a31 := Tryz.isAgg32
  z31 := Tryz.sizeOf32
  v31 := Tryz.zeroValue32
  t40 := Tryz.underlying151
  a40 := Tryz.isAgg151
  z40 := Tryz.sizeOf151
  v40 := Tryz.zeroValue151
  t152 := Tryz.underlying196
  a152 := Tryz.isAgg196
  z152 := Tryz.sizeOf196
  v152 := Tryz.zeroValue196
  t154 := Tryz.underlying198
  a154 := Tryz.isAgg198
  z154 := Tryz.sizeOf198
  v154 := Tryz.zeroValue198 }
open Go.RowKit Go.Lib in
/-- .. over a hand of the authors' house's premise as it stands. (LAID: no walk: one application.) -/
theorem Tryz.strings_FieldsFunc (g : Nat) (lb : Array Value) (eg : ∀ args w, (callFunc g args).run Tryz.prog w = .ok (.enter g args) w) (p : Nat → Bool) (s : ByteArray) (w : World) (hs : s.size ≤ 4294967296) (hp : PredAt Tryz.prog g lb encR p w) :
    Calls Tryz.prog 92 #[.string s, .func (.func g) #[] lb] w fun e w' => ∃ A, e = .returned (.slice (some ⟨A, 0, none⟩) (Lib.goFieldsP p s).length (Lib.goFieldsP p s).length) ∧ w.heap.size ≤ A ∧
      w'.ownsRow w.heap.size 9 1 (.slice (some ⟨A, 0, none⟩) (Lib.goFieldsP p s).length (Lib.goFieldsP p s).length) (Lib.goFieldsP p s).length ((Lib.goFieldsP p s).map Value.string) ∧ Below w.heap.size w w' := Any.strings_FieldsFunc Tryz.lays229 g lb eg p s w hs hp (by kernel_rfl) (by kernel_rfl)
end Go.Proofs
end
section
set_option linter.unusedVariables false
set_option linter.unusedSimpArgs false
namespace Go.Proofs.YtjmgebhjkbcpcaaGreatDoor.Txt
open Go.Proofs.YtjmgebhjkbcpcaaGreatDoor.NM
open Go Go.RowKit Go.Proofs.YtjmgebhjkbcpcaaGreatDoorW.PrintWords
set_option maxRecDepth 100000
def nF (n : Nat) (l : Bs) : Nat := l.foldl (fun n x => 10 * n + (x.toNat - 48)) n
theorem nF_le (l : Bs) : ∀ n, n ≤ nF n l := by
  induction l with
  | nil => intro n; exact Nat.le_refl _
  | cons x xs ih =>
    intro n
    have := ih (10 * n + (x.toNat - 48))
    show n ≤ nF (10 * n + (x.toNat - 48)) xs
    omega
theorem parse_ok (l : Bs) : ∀ n, l.all digit = true → nF n l < 1099511627776 → Lib.parseUint10 n l = .ok (nF n l) := by
  induction l with
  | nil => intro n _ _; rfl
  | cons x xs ih =>
    intro n hd hb
    rw [List.all_cons, Bool.and_eq_true] at hd
    have hx := digit_n.1 hd.1
    have hle := nF_le xs (10 * n + (x.toNat - 48))
    have hb' : nF (10 * n + (x.toNat - 48)) xs < 1099511627776 := hb
    have e : n * 10 + (x.toNat - 48) = 10 * n + (x.toNat - 48) := by omega
    unfold Lib.parseUint10
    rw [if_pos hx, if_neg (by omega), if_neg (by omega), e, ih _ hd.2 hb']
    rfl
theorem atoi_ok (l : Bs) (h : isNum l = true) (hb : numv l < 1099511627776) : Lib.atoiAll l = .ok (numv l : Int) := by
  unfold isNum at h
  rw [Bool.and_eq_true] at h
  cases l with
  | nil => simp at h
  | cons c r =>
    have hc := digit_n.1 (List.all_eq_true.1 h.2 c (by simp))
    have hp := parse_ok (c :: r) 0 h.2 hb
    unfold Lib.atoiAll
    simp only
    rw [if_neg (by omega)]
    unfold Lib.parseMag
    rw [if_neg (by simp), hp]
    have e : nF 0 (c :: r) = numv (c :: r) := rfl
    simp only
    rw [if_neg (by omega), if_neg (by omega), if_neg (by omega), e]
theorem tMust (a : ByteArray) (hs : a.size < 1099511627776) (h : isNum (tx a) = true) (hb : numv (tx a) < 1099511627776) (w : World) :
    Calls Tryz.prog 117 #[.string a] w fun e w' => e = .returned (.tuple #[.int .u64 (numv (tx a)), .nilIface]) ∧ Below w.heap.size w w' := by
  have hat := Tryz.strconv_Atoi_ok a (by omega) _ (atoi_ok _ h hb)
  obtain ⟨n, hn⟩ : ∃ n, numv (tx a) = n := ⟨_, rfl⟩
  rw [hn] at hat hb ⊢
  have HA := Lib.hid hat
  clear hat h hn
  go_enter Tryz.func117, Tryz.ntmps117
  go_wp2_with (go_at_call 129; refine (HA.out _).mono ?_; rintro e w1 ⟨rfl, hb1⟩)
  go_ret2
  refine ⟨rfl, ?_⟩
  rcases hb1 with rfl | ⟨t, rfl⟩
  · exact Below.refl _ _
  · exact Lib.bytesWorld_below _ _ _
end Go.Proofs.YtjmgebhjkbcpcaaGreatDoor.Txt
end
section
set_option linter.unusedVariables false
set_option linter.unusedSimpArgs false
namespace Go.Proofs.YtjmgebhjkbcpcaaGreatDoor.Txt
open Go.Proofs.YtjmgebhjkbcpcaaGreatDoor.NM
open Go Go.RowKit Go.MapKept Go.Proofs.YtjmgebhjkbcpcaaGreatDoorW.PrintWords
set_option maxRecDepth 100000
theorem und115 : Tryz.prog.underlying 115 = some (.map 9 114) := by kernel_rfl
theorem und9s : Tryz.prog.underlying 9 = some .string := by kernel_rfl
/-- a map literal's entries -/
def entF : Nat → List (Bs × Nat) → List MapEntry
  | _, [] => []
  | i, (k, v) :: r => { key := .string (mk k), val := .int .u64 (v : Int), born := i } :: entF (i + 1) r
def monthsL : List (Bs × Nat) := [([106, 97, 110], 1), ([102, 101, 98], 2), ([109, 97, 114], 3), ([97, 112, 114], 4), ([109, 97, 121], 5), ([106, 117, 110], 6), ([106, 117, 108], 7), ([97, 117, 103], 8), ([115, 101, 112], 9), ([111, 99, 116], 10), ([110, 111, 118], 11), ([100, 101, 99], 12)]
def daysL : List (Bs × Nat) := [([115, 117, 110], 0), ([109, 111, 110], 1), ([116, 117, 101], 2), ([119, 101, 100], 3), ([116, 104, 117], 4), ([102, 114, 105], 5), ([115, 97, 116], 6)]
def namesL (kind : Nat) : List (Bs × Nat) := if kind = 4 then monthsL else if kind = 5 then daysL else []
theorem entF_key {i : Nat} {l : List (Bs × Nat)} {x : MapEntry} (h : x ∈ entF i l) : ∃ k v, (k, v) ∈ l ∧ x.key = .string (mk k) ∧ x.val = .int .u64 (v : Int) := by
  induction l generalizing i with
  | nil => simp [entF] at h
  | cons p r ih =>
    obtain ⟨k, v⟩ := p
    unfold entF at h
    rcases List.mem_cons.1 h with rfl | h
    · exact ⟨k, v, by simp, rfl, rfl⟩
    · obtain ⟨k', v', h1, h2⟩ := ih h
      exact ⟨k', v', List.mem_cons_of_mem _ h1, h2⟩
theorem entF_append (l : List (Bs × Nat)) (k : Bs) (v : Nat) : ∀ i, entF i (l ++ [(k, v)]) = entF i l ++ [{ key := .string (mk k), val := .int .u64 (v : Int), born := i + l.length }] := by
  induction l with
  | nil => intro i; rfl
  | cons p r ih =>
    intro i
    obtain ⟨k', v'⟩ := p
    simp only [List.cons_append, entF, ih (i + 1), List.length_cons]
    rw [show i + 1 + r.length = i + (r.length + 1) by omega]
theorem mk_inj {a b : Bs} (h : mk a = mk b) : a = b := by
  have := congrArg tx h
  exact this
theorem entF_isKey {i : Nat} {l : List (Bs × Nat)} : ∀ x ∈ entF i l, IsKey .string x.key := fun x hx => by
  obtain ⟨k, v, _, h, _⟩ := entF_key hx
  rw [h]; trivial
theorem run_put' (W : World) (g c : Nat) (l : List (Bs × Nat)) (k : Bs) (v : Nat) (hb : W.heap[g]? = some (.map (entF 0 l).toArray c)) (hnew : ∀ p ∈ l, p.1 ≠ k) :
    (Instr.mapUpdate 115 (.map (some g)) (.string (mk k)) (.int .u64 (v : Int))).run Tryz.prog W = .ok () { W with heap := W.heap.setIfInBounds g (.map ((entF 0 l).toArray.push { key := .string (mk k), val := .int .u64 (v : Int), born := c }) (c + 1)) } := by
  have hk : IsKey .string (.string (mk k)) := trivial
  rcases findNow_spec hk (entF 0 l) 0 (entF_isKey) with ⟨h1, h2⟩ | ⟨j, e, h1, h2, h3⟩
  · simp [Instr.mapUpdate, run_underlying und115, Go.MapKept.run_getObj_map hb, run_checkKey und9s hk, run_findKey und9s h1, Go.MapKept.run_setObj_map _ hb, Result.andThen]
  · exfalso
    obtain ⟨k', v', h4, h5, _⟩ := entF_key (List.mem_of_getElem? h2)
    rw [h5] at h3
    injection h3 with h3
    exact hnew _ h4 (mk_inj h3)
theorem alloc_set (w : World) (o o' : Obj) : ({ (w.alloc o) with heap := (w.alloc o).heap.setIfInBounds w.heap.size o' } : World) = w.alloc o' := by
  have : (w.heap.push o).setIfInBounds w.heap.size o' = w.heap.push o' := by
    apply Array.ext_getElem?
    intro i
    rw [Array.getElem?_setIfInBounds]
    by_cases h : w.heap.size = i
    · subst h; simp
    · rw [if_neg h, Array.getElem?_push, Array.getElem?_push, if_neg (fun e => h e.symm), if_neg (fun e => h e.symm)]
  show ({ w with heap := (w.heap.push o).setIfInBounds w.heap.size o' } : World) = { w with heap := w.heap.push o' }
  rw [this]
/-- one entry more into a map that was made last -/
theorem run_put (w : World) (l : List (Bs × Nat)) (k : Bs) (v : Nat) (hnew : ∀ p ∈ l, p.1 ≠ k) :
    (Instr.mapUpdate 115 (.map (some w.heap.size)) (.string (mk k)) (.int .u64 (v : Int))).run Tryz.prog (w.alloc (.map (entF 0 l).toArray l.length)) = .ok () (w.alloc (.map (entF 0 (l ++ [(k, v)])).toArray (l ++ [(k, v)]).length)) := by
  have hb : (w.alloc (.map (entF 0 l).toArray l.length)).heap[w.heap.size]? = some (.map (entF 0 l).toArray l.length) := heap_alloc_new _ _
  rw [run_put' _ _ _ _ _ _ hb hnew, alloc_set, entF_append, Nat.zero_add]
  simp
theorem run_find (w : World) (g c : Nat) (l : List (Bs × Nat)) (hb : w.heap[g]? = some (.map (entF 0 l).toArray c)) (s : Bs) :
    ((∀ p ∈ l, p.1 ≠ s) ∧ (Instr.lookup 115 (.map (some g)) (.string (mk s)) true).run Tryz.prog w = .ok (.tuple #[.int .u64 0, .bool false]) w) ∨
    ∃ v, (s, v) ∈ l ∧ (Instr.lookup 115 (.map (some g)) (.string (mk s)) true).run Tryz.prog w = .ok (.tuple #[.int .u64 (v : Int), .bool true]) w := by
  have hk : IsKey .string (.string (mk s)) := trivial
  rcases findNow_spec hk (entF 0 l) 0 (entF_isKey) with ⟨h1, h2⟩ | ⟨j, e, h1, h2, h3⟩
  · refine .inl ⟨fun p hp hs => ?_, ?_⟩
    · subst hs
      have : ∀ (l : List (Bs × Nat)) (i : Nat), p ∈ l → ∃ x ∈ entF i l, x.key = .string (mk p.1) := by
        intro l
        induction l with
        | nil => intro i h; simp at h
        | cons q r ih =>
          intro i h
          obtain ⟨k, v⟩ := q
          rcases List.mem_cons.1 h with rfl | h
          · exact ⟨_, List.mem_cons_self, rfl⟩
          · obtain ⟨x, hx, he⟩ := ih (i + 1) h
            exact ⟨x, List.mem_cons_of_mem _ hx, he⟩
      obtain ⟨x, hx, he⟩ := this l 0 hp
      exact h2 x hx he
    · simp [Instr.lookup, run_underlying und115, Go.MapKept.run_getObj_map hb, run_checkKey und9s hk, run_findKey und9s h1, Result.andThen, Tryz.zeroValue114]
  · obtain ⟨k', v', h4, h5, h6⟩ := entF_key (List.mem_of_getElem? h2)
    rw [h5] at h3
    injection h3 with h3
    obtain rfl := mk_inj h3
    refine .inr ⟨v', h4, ?_⟩
    simp [Instr.lookup, run_underlying und115, Go.MapKept.run_getObj_map hb, run_checkKey und9s hk, run_findKey und9s h1, Result.andThen, h6]
end Go.Proofs.YtjmgebhjkbcpcaaGreatDoor.Txt
end
section
set_option linter.unusedVariables false
set_option linter.unusedSimpArgs false
namespace Go.Proofs.YtjmgebhjkbcpcaaGreatDoor.Txt
open Go.Proofs.YtjmgebhjkbcpcaaGreatDoor.NM
open Go Go.RowKit Go.MapKept Go.Proofs.YtjmgebhjkbcpcaaGreatDoorW.PrintWords
set_option maxRecDepth 100000
/-- the names that a field's bounds bear -/
def NMap (kind : Nat) (w : World) (v : Value) : Prop :=
  (kind = 4 ∨ kind = 5) ∧ (∃ g c, v = .map (some g) ∧ w.heap[g]? = some (.map (entF 0 (namesL kind)).toArray c)) ∨ (kind ≠ 4 ∧ kind ≠ 5) ∧ v = .map none
theorem NMap.below {kind : Nat} {w w' : World} {v : Value} (h : NMap kind w v) (hb : Below w.heap.size w w') : NMap kind w' v := by
  rcases h with ⟨h1, g, c, h2, h3⟩ | h
  · exact .inl ⟨h1, g, c, h2, by rw [hb.block _ (Array.getElem?_eq_some_iff.1 h3).1]; exact h3⟩
  · exact .inr h
theorem inf117 : (Tryz.prog.info? 117).map (·.size) = some 3 := by kernel_rfl
theorem und117 : Tryz.prog.underlying 117 = some (.struct (Tryz.prog.fieldsOf 117)) := by kernel_rfl
theorem tDow (w : World) : Calls Tryz.prog 58 #[] w fun e w' => ∃ nm, e = .returned (.agg #[.int .u64 0, .int .u64 6, nm]) ∧ NMap 5 w' nm ∧ Below w.heap.size w w' := by
  have hmm := @run_makeMap Tryz.prog
  have hw1 : (w.alloc (.cells #[.int .u64 0, .int .u64 0, .map none] 117)).heap.size = w.heap.size + 1 := by simp
  have f0 : (Instr.mapUpdate 115 (.map (some (w.heap.size + 1))) (.string ⟨#[115, 117, 110]⟩) (.int .u64 0)).run Tryz.prog ((w.alloc (.cells #[.int .u64 0, .int .u64 0, .map none] 117)).alloc (.map #[] 0)) = .ok () ((w.alloc (.cells #[.int .u64 0, .int .u64 0, .map none] 117)).alloc (.map (entF 0 [([115, 117, 110], 0)]).toArray 1)) := by
    have := run_put (w.alloc (.cells #[.int .u64 0, .int .u64 0, .map none] 117)) [] [115, 117, 110] 0 (by decide)
    rw [hw1] at this
    exact this
  have f1 : (Instr.mapUpdate 115 (.map (some (w.heap.size + 1))) (.string ⟨#[109, 111, 110]⟩) (.int .u64 1)).run Tryz.prog ((w.alloc (.cells #[.int .u64 0, .int .u64 0, .map none] 117)).alloc (.map (entF 0 [([115, 117, 110], 0)]).toArray 1)) = .ok () ((w.alloc (.cells #[.int .u64 0, .int .u64 0, .map none] 117)).alloc (.map (entF 0 [([115, 117, 110], 0), ([109, 111, 110], 1)]).toArray 2)) := by
    have := run_put (w.alloc (.cells #[.int .u64 0, .int .u64 0, .map none] 117)) [([115, 117, 110], 0)] [109, 111, 110] 1 (by decide)
    rw [hw1] at this
    exact this
  have f2 : (Instr.mapUpdate 115 (.map (some (w.heap.size + 1))) (.string ⟨#[116, 117, 101]⟩) (.int .u64 2)).run Tryz.prog ((w.alloc (.cells #[.int .u64 0, .int .u64 0, .map none] 117)).alloc (.map (entF 0 [([115, 117, 110], 0), ([109, 111, 110], 1)]).toArray 2)) = .ok () ((w.alloc (.cells #[.int .u64 0, .int .u64 0, .map none] 117)).alloc (.map (entF 0 [([115, 117, 110], 0), ([109, 111, 110], 1), ([116, 117, 101], 2)]).toArray 3)) := by
    have := run_put (w.alloc (.cells #[.int .u64 0, .int .u64 0, .map none] 117)) [([115, 117, 110], 0), ([109, 111, 110], 1)] [116, 117, 101] 2 (by decide)
    rw [hw1] at this
    exact this
  have f3 : (Instr.mapUpdate 115 (.map (some (w.heap.size + 1))) (.string ⟨#[119, 101, 100]⟩) (.int .u64 3)).run Tryz.prog ((w.alloc (.cells #[.int .u64 0, .int .u64 0, .map none] 117)).alloc (.map (entF 0 [([115, 117, 110], 0), ([109, 111, 110], 1), ([116, 117, 101], 2)]).toArray 3)) = .ok () ((w.alloc (.cells #[.int .u64 0, .int .u64 0, .map none] 117)).alloc (.map (entF 0 [([115, 117, 110], 0), ([109, 111, 110], 1), ([116, 117, 101], 2), ([119, 101, 100], 3)]).toArray 4)) := by
    have := run_put (w.alloc (.cells #[.int .u64 0, .int .u64 0, .map none] 117)) [([115, 117, 110], 0), ([109, 111, 110], 1), ([116, 117, 101], 2)] [119, 101, 100] 3 (by decide)
    rw [hw1] at this
    exact this
  have f4 : (Instr.mapUpdate 115 (.map (some (w.heap.size + 1))) (.string ⟨#[116, 104, 117]⟩) (.int .u64 4)).run Tryz.prog ((w.alloc (.cells #[.int .u64 0, .int .u64 0, .map none] 117)).alloc (.map (entF 0 [([115, 117, 110], 0), ([109, 111, 110], 1), ([116, 117, 101], 2), ([119, 101, 100], 3)]).toArray 4)) = .ok () ((w.alloc (.cells #[.int .u64 0, .int .u64 0, .map none] 117)).alloc (.map (entF 0 [([115, 117, 110], 0), ([109, 111, 110], 1), ([116, 117, 101], 2), ([119, 101, 100], 3), ([116, 104, 117], 4)]).toArray 5)) := by
    have := run_put (w.alloc (.cells #[.int .u64 0, .int .u64 0, .map none] 117)) [([115, 117, 110], 0), ([109, 111, 110], 1), ([116, 117, 101], 2), ([119, 101, 100], 3)] [116, 104, 117] 4 (by decide)
    rw [hw1] at this
    exact this
  have f5 : (Instr.mapUpdate 115 (.map (some (w.heap.size + 1))) (.string ⟨#[102, 114, 105]⟩) (.int .u64 5)).run Tryz.prog ((w.alloc (.cells #[.int .u64 0, .int .u64 0, .map none] 117)).alloc (.map (entF 0 [([115, 117, 110], 0), ([109, 111, 110], 1), ([116, 117, 101], 2), ([119, 101, 100], 3), ([116, 104, 117], 4)]).toArray 5)) = .ok () ((w.alloc (.cells #[.int .u64 0, .int .u64 0, .map none] 117)).alloc (.map (entF 0 [([115, 117, 110], 0), ([109, 111, 110], 1), ([116, 117, 101], 2), ([119, 101, 100], 3), ([116, 104, 117], 4), ([102, 114, 105], 5)]).toArray 6)) := by
    have := run_put (w.alloc (.cells #[.int .u64 0, .int .u64 0, .map none] 117)) [([115, 117, 110], 0), ([109, 111, 110], 1), ([116, 117, 101], 2), ([119, 101, 100], 3), ([116, 104, 117], 4)] [102, 114, 105] 5 (by decide)
    rw [hw1] at this
    exact this
  have f6 : (Instr.mapUpdate 115 (.map (some (w.heap.size + 1))) (.string ⟨#[115, 97, 116]⟩) (.int .u64 6)).run Tryz.prog ((w.alloc (.cells #[.int .u64 0, .int .u64 0, .map none] 117)).alloc (.map (entF 0 [([115, 117, 110], 0), ([109, 111, 110], 1), ([116, 117, 101], 2), ([119, 101, 100], 3), ([116, 104, 117], 4), ([102, 114, 105], 5)]).toArray 6)) = .ok () ((w.alloc (.cells #[.int .u64 0, .int .u64 0, .map none] 117)).alloc (.map (entF 0 [([115, 117, 110], 0), ([109, 111, 110], 1), ([116, 117, 101], 2), ([119, 101, 100], 3), ([116, 104, 117], 4), ([102, 114, 105], 5), ([115, 97, 116], 6)]).toArray 7)) := by
    have := run_put (w.alloc (.cells #[.int .u64 0, .int .u64 0, .map none] 117)) [([115, 117, 110], 0), ([109, 111, 110], 1), ([116, 117, 101], 2), ([119, 101, 100], 3), ([116, 104, 117], 4), ([102, 114, 105], 5)] [115, 97, 116] 6 (by decide)
    rw [hw1] at this
    exact this
  clear hw1
  go_enter Tryz.func58, Tryz.ntmps58
  go_wp2
  refine bodyPost_ret (v := .agg #[.int .u64 0, .int .u64 6, .map (some (w.heap.size + 1))]) (results_cell_row rfl _ _ w.heap.size 117 #[.int .u64 0, .int .u64 6, .map (some (w.heap.size + 1))] (0, 0) _ rfl ?_ und117 rfl inf117) rfl ⟨_, rfl, .inl ⟨by decide, w.heap.size + 1, 7, rfl, ?_⟩, bA (bA (Below.refl _ _) _) _⟩
  · rw [Below.heap_alloc _ _ _ (by simp)]
    exact heap_alloc_new _ _
  · have := heap_alloc2_new w (.cells #[.int .u64 0, .int .u64 6, .map (some (w.heap.size + 1))] 117) (.map (entF 0 daysL).toArray 7)
    exact this
theorem tMonths (w : World) : Calls Tryz.prog 57 #[] w fun e w' => ∃ nm, e = .returned (.agg #[.int .u64 1, .int .u64 12, nm]) ∧ NMap 4 w' nm ∧ Below w.heap.size w w' := by
  have hmm := @run_makeMap Tryz.prog
  have hw1 : (w.alloc (.cells #[.int .u64 0, .int .u64 0, .map none] 117)).heap.size = w.heap.size + 1 := by simp
  have f0 : (Instr.mapUpdate 115 (.map (some (w.heap.size + 1))) (.string ⟨#[106, 97, 110]⟩) (.int .u64 1)).run Tryz.prog ((w.alloc (.cells #[.int .u64 0, .int .u64 0, .map none] 117)).alloc (.map #[] 0)) = .ok () ((w.alloc (.cells #[.int .u64 0, .int .u64 0, .map none] 117)).alloc (.map (entF 0 [([106, 97, 110], 1)]).toArray 1)) := by
    have := run_put (w.alloc (.cells #[.int .u64 0, .int .u64 0, .map none] 117)) [] [106, 97, 110] 1 (by decide)
    rw [hw1] at this
    exact this
  have f1 : (Instr.mapUpdate 115 (.map (some (w.heap.size + 1))) (.string ⟨#[102, 101, 98]⟩) (.int .u64 2)).run Tryz.prog ((w.alloc (.cells #[.int .u64 0, .int .u64 0, .map none] 117)).alloc (.map (entF 0 [([106, 97, 110], 1)]).toArray 1)) = .ok () ((w.alloc (.cells #[.int .u64 0, .int .u64 0, .map none] 117)).alloc (.map (entF 0 [([106, 97, 110], 1), ([102, 101, 98], 2)]).toArray 2)) := by
    have := run_put (w.alloc (.cells #[.int .u64 0, .int .u64 0, .map none] 117)) [([106, 97, 110], 1)] [102, 101, 98] 2 (by decide)
    rw [hw1] at this
    exact this
  have f2 : (Instr.mapUpdate 115 (.map (some (w.heap.size + 1))) (.string ⟨#[109, 97, 114]⟩) (.int .u64 3)).run Tryz.prog ((w.alloc (.cells #[.int .u64 0, .int .u64 0, .map none] 117)).alloc (.map (entF 0 [([106, 97, 110], 1), ([102, 101, 98], 2)]).toArray 2)) = .ok () ((w.alloc (.cells #[.int .u64 0, .int .u64 0, .map none] 117)).alloc (.map (entF 0 [([106, 97, 110], 1), ([102, 101, 98], 2), ([109, 97, 114], 3)]).toArray 3)) := by
    have := run_put (w.alloc (.cells #[.int .u64 0, .int .u64 0, .map none] 117)) [([106, 97, 110], 1), ([102, 101, 98], 2)] [109, 97, 114] 3 (by decide)
    rw [hw1] at this
    exact this
  have f3 : (Instr.mapUpdate 115 (.map (some (w.heap.size + 1))) (.string ⟨#[97, 112, 114]⟩) (.int .u64 4)).run Tryz.prog ((w.alloc (.cells #[.int .u64 0, .int .u64 0, .map none] 117)).alloc (.map (entF 0 [([106, 97, 110], 1), ([102, 101, 98], 2), ([109, 97, 114], 3)]).toArray 3)) = .ok () ((w.alloc (.cells #[.int .u64 0, .int .u64 0, .map none] 117)).alloc (.map (entF 0 [([106, 97, 110], 1), ([102, 101, 98], 2), ([109, 97, 114], 3), ([97, 112, 114], 4)]).toArray 4)) := by
    have := run_put (w.alloc (.cells #[.int .u64 0, .int .u64 0, .map none] 117)) [([106, 97, 110], 1), ([102, 101, 98], 2), ([109, 97, 114], 3)] [97, 112, 114] 4 (by decide)
    rw [hw1] at this
    exact this
  have f4 : (Instr.mapUpdate 115 (.map (some (w.heap.size + 1))) (.string ⟨#[109, 97, 121]⟩) (.int .u64 5)).run Tryz.prog ((w.alloc (.cells #[.int .u64 0, .int .u64 0, .map none] 117)).alloc (.map (entF 0 [([106, 97, 110], 1), ([102, 101, 98], 2), ([109, 97, 114], 3), ([97, 112, 114], 4)]).toArray 4)) = .ok () ((w.alloc (.cells #[.int .u64 0, .int .u64 0, .map none] 117)).alloc (.map (entF 0 [([106, 97, 110], 1), ([102, 101, 98], 2), ([109, 97, 114], 3), ([97, 112, 114], 4), ([109, 97, 121], 5)]).toArray 5)) := by
    have := run_put (w.alloc (.cells #[.int .u64 0, .int .u64 0, .map none] 117)) [([106, 97, 110], 1), ([102, 101, 98], 2), ([109, 97, 114], 3), ([97, 112, 114], 4)] [109, 97, 121] 5 (by decide)
    rw [hw1] at this
    exact this
  have f5 : (Instr.mapUpdate 115 (.map (some (w.heap.size + 1))) (.string ⟨#[106, 117, 110]⟩) (.int .u64 6)).run Tryz.prog ((w.alloc (.cells #[.int .u64 0, .int .u64 0, .map none] 117)).alloc (.map (entF 0 [([106, 97, 110], 1), ([102, 101, 98], 2), ([109, 97, 114], 3), ([97, 112, 114], 4), ([109, 97, 121], 5)]).toArray 5)) = .ok () ((w.alloc (.cells #[.int .u64 0, .int .u64 0, .map none] 117)).alloc (.map (entF 0 [([106, 97, 110], 1), ([102, 101, 98], 2), ([109, 97, 114], 3), ([97, 112, 114], 4), ([109, 97, 121], 5), ([106, 117, 110], 6)]).toArray 6)) := by
    have := run_put (w.alloc (.cells #[.int .u64 0, .int .u64 0, .map none] 117)) [([106, 97, 110], 1), ([102, 101, 98], 2), ([109, 97, 114], 3), ([97, 112, 114], 4), ([109, 97, 121], 5)] [106, 117, 110] 6 (by decide)
    rw [hw1] at this
    exact this
  have f6 : (Instr.mapUpdate 115 (.map (some (w.heap.size + 1))) (.string ⟨#[106, 117, 108]⟩) (.int .u64 7)).run Tryz.prog ((w.alloc (.cells #[.int .u64 0, .int .u64 0, .map none] 117)).alloc (.map (entF 0 [([106, 97, 110], 1), ([102, 101, 98], 2), ([109, 97, 114], 3), ([97, 112, 114], 4), ([109, 97, 121], 5), ([106, 117, 110], 6)]).toArray 6)) = .ok () ((w.alloc (.cells #[.int .u64 0, .int .u64 0, .map none] 117)).alloc (.map (entF 0 [([106, 97, 110], 1), ([102, 101, 98], 2), ([109, 97, 114], 3), ([97, 112, 114], 4), ([109, 97, 121], 5), ([106, 117, 110], 6), ([106, 117, 108], 7)]).toArray 7)) := by
    have := run_put (w.alloc (.cells #[.int .u64 0, .int .u64 0, .map none] 117)) [([106, 97, 110], 1), ([102, 101, 98], 2), ([109, 97, 114], 3), ([97, 112, 114], 4), ([109, 97, 121], 5), ([106, 117, 110], 6)] [106, 117, 108] 7 (by decide)
    rw [hw1] at this
    exact this
  have f7 : (Instr.mapUpdate 115 (.map (some (w.heap.size + 1))) (.string ⟨#[97, 117, 103]⟩) (.int .u64 8)).run Tryz.prog ((w.alloc (.cells #[.int .u64 0, .int .u64 0, .map none] 117)).alloc (.map (entF 0 [([106, 97, 110], 1), ([102, 101, 98], 2), ([109, 97, 114], 3), ([97, 112, 114], 4), ([109, 97, 121], 5), ([106, 117, 110], 6), ([106, 117, 108], 7)]).toArray 7)) = .ok () ((w.alloc (.cells #[.int .u64 0, .int .u64 0, .map none] 117)).alloc (.map (entF 0 [([106, 97, 110], 1), ([102, 101, 98], 2), ([109, 97, 114], 3), ([97, 112, 114], 4), ([109, 97, 121], 5), ([106, 117, 110], 6), ([106, 117, 108], 7), ([97, 117, 103], 8)]).toArray 8)) := by
    have := run_put (w.alloc (.cells #[.int .u64 0, .int .u64 0, .map none] 117)) [([106, 97, 110], 1), ([102, 101, 98], 2), ([109, 97, 114], 3), ([97, 112, 114], 4), ([109, 97, 121], 5), ([106, 117, 110], 6), ([106, 117, 108], 7)] [97, 117, 103] 8 (by decide)
    rw [hw1] at this
    exact this
  have f8 : (Instr.mapUpdate 115 (.map (some (w.heap.size + 1))) (.string ⟨#[115, 101, 112]⟩) (.int .u64 9)).run Tryz.prog ((w.alloc (.cells #[.int .u64 0, .int .u64 0, .map none] 117)).alloc (.map (entF 0 [([106, 97, 110], 1), ([102, 101, 98], 2), ([109, 97, 114], 3), ([97, 112, 114], 4), ([109, 97, 121], 5), ([106, 117, 110], 6), ([106, 117, 108], 7), ([97, 117, 103], 8)]).toArray 8)) = .ok () ((w.alloc (.cells #[.int .u64 0, .int .u64 0, .map none] 117)).alloc (.map (entF 0 [([106, 97, 110], 1), ([102, 101, 98], 2), ([109, 97, 114], 3), ([97, 112, 114], 4), ([109, 97, 121], 5), ([106, 117, 110], 6), ([106, 117, 108], 7), ([97, 117, 103], 8), ([115, 101, 112], 9)]).toArray 9)) := by
    have := run_put (w.alloc (.cells #[.int .u64 0, .int .u64 0, .map none] 117)) [([106, 97, 110], 1), ([102, 101, 98], 2), ([109, 97, 114], 3), ([97, 112, 114], 4), ([109, 97, 121], 5), ([106, 117, 110], 6), ([106, 117, 108], 7), ([97, 117, 103], 8)] [115, 101, 112] 9 (by decide)
    rw [hw1] at this
    exact this
  have f9 : (Instr.mapUpdate 115 (.map (some (w.heap.size + 1))) (.string ⟨#[111, 99, 116]⟩) (.int .u64 10)).run Tryz.prog ((w.alloc (.cells #[.int .u64 0, .int .u64 0, .map none] 117)).alloc (.map (entF 0 [([106, 97, 110], 1), ([102, 101, 98], 2), ([109, 97, 114], 3), ([97, 112, 114], 4), ([109, 97, 121], 5), ([106, 117, 110], 6), ([106, 117, 108], 7), ([97, 117, 103], 8), ([115, 101, 112], 9)]).toArray 9)) = .ok () ((w.alloc (.cells #[.int .u64 0, .int .u64 0, .map none] 117)).alloc (.map (entF 0 [([106, 97, 110], 1), ([102, 101, 98], 2), ([109, 97, 114], 3), ([97, 112, 114], 4), ([109, 97, 121], 5), ([106, 117, 110], 6), ([106, 117, 108], 7), ([97, 117, 103], 8), ([115, 101, 112], 9), ([111, 99, 116], 10)]).toArray 10)) := by
    have := run_put (w.alloc (.cells #[.int .u64 0, .int .u64 0, .map none] 117)) [([106, 97, 110], 1), ([102, 101, 98], 2), ([109, 97, 114], 3), ([97, 112, 114], 4), ([109, 97, 121], 5), ([106, 117, 110], 6), ([106, 117, 108], 7), ([97, 117, 103], 8), ([115, 101, 112], 9)] [111, 99, 116] 10 (by decide)
    rw [hw1] at this
    exact this
  have f10 : (Instr.mapUpdate 115 (.map (some (w.heap.size + 1))) (.string ⟨#[110, 111, 118]⟩) (.int .u64 11)).run Tryz.prog ((w.alloc (.cells #[.int .u64 0, .int .u64 0, .map none] 117)).alloc (.map (entF 0 [([106, 97, 110], 1), ([102, 101, 98], 2), ([109, 97, 114], 3), ([97, 112, 114], 4), ([109, 97, 121], 5), ([106, 117, 110], 6), ([106, 117, 108], 7), ([97, 117, 103], 8), ([115, 101, 112], 9), ([111, 99, 116], 10)]).toArray 10)) = .ok () ((w.alloc (.cells #[.int .u64 0, .int .u64 0, .map none] 117)).alloc (.map (entF 0 [([106, 97, 110], 1), ([102, 101, 98], 2), ([109, 97, 114], 3), ([97, 112, 114], 4), ([109, 97, 121], 5), ([106, 117, 110], 6), ([106, 117, 108], 7), ([97, 117, 103], 8), ([115, 101, 112], 9), ([111, 99, 116], 10), ([110, 111, 118], 11)]).toArray 11)) := by
    have := run_put (w.alloc (.cells #[.int .u64 0, .int .u64 0, .map none] 117)) [([106, 97, 110], 1), ([102, 101, 98], 2), ([109, 97, 114], 3), ([97, 112, 114], 4), ([109, 97, 121], 5), ([106, 117, 110], 6), ([106, 117, 108], 7), ([97, 117, 103], 8), ([115, 101, 112], 9), ([111, 99, 116], 10)] [110, 111, 118] 11 (by decide)
    rw [hw1] at this
    exact this
  have f11 : (Instr.mapUpdate 115 (.map (some (w.heap.size + 1))) (.string ⟨#[100, 101, 99]⟩) (.int .u64 12)).run Tryz.prog ((w.alloc (.cells #[.int .u64 0, .int .u64 0, .map none] 117)).alloc (.map (entF 0 [([106, 97, 110], 1), ([102, 101, 98], 2), ([109, 97, 114], 3), ([97, 112, 114], 4), ([109, 97, 121], 5), ([106, 117, 110], 6), ([106, 117, 108], 7), ([97, 117, 103], 8), ([115, 101, 112], 9), ([111, 99, 116], 10), ([110, 111, 118], 11)]).toArray 11)) = .ok () ((w.alloc (.cells #[.int .u64 0, .int .u64 0, .map none] 117)).alloc (.map (entF 0 [([106, 97, 110], 1), ([102, 101, 98], 2), ([109, 97, 114], 3), ([97, 112, 114], 4), ([109, 97, 121], 5), ([106, 117, 110], 6), ([106, 117, 108], 7), ([97, 117, 103], 8), ([115, 101, 112], 9), ([111, 99, 116], 10), ([110, 111, 118], 11), ([100, 101, 99], 12)]).toArray 12)) := by
    have := run_put (w.alloc (.cells #[.int .u64 0, .int .u64 0, .map none] 117)) [([106, 97, 110], 1), ([102, 101, 98], 2), ([109, 97, 114], 3), ([97, 112, 114], 4), ([109, 97, 121], 5), ([106, 117, 110], 6), ([106, 117, 108], 7), ([97, 117, 103], 8), ([115, 101, 112], 9), ([111, 99, 116], 10), ([110, 111, 118], 11)] [100, 101, 99] 12 (by decide)
    rw [hw1] at this
    exact this
  clear hw1
  go_enter Tryz.func57, Tryz.ntmps57
  go_wp2
  refine bodyPost_ret (v := .agg #[.int .u64 1, .int .u64 12, .map (some (w.heap.size + 1))]) (results_cell_row rfl _ _ w.heap.size 117 #[.int .u64 1, .int .u64 12, .map (some (w.heap.size + 1))] (0, 0) _ rfl ?_ und117 rfl inf117) rfl ⟨_, rfl, .inl ⟨by decide, w.heap.size + 1, 12, rfl, ?_⟩, bA (bA (Below.refl _ _) _) _⟩
  · rw [Below.heap_alloc _ _ _ (by simp)]
    exact heap_alloc_new _ _
  · have := heap_alloc2_new w (.cells #[.int .u64 1, .int .u64 12, .map (some (w.heap.size + 1))] 117) (.map (entF 0 monthsL).toArray 12)
    exact this
theorem tSeconds (w : World) : Calls Tryz.prog 53 #[] w fun e w' => ∃ nm, e = .returned (.agg #[.int .u64 0, .int .u64 59, nm]) ∧ NMap 0 w' nm ∧ Below w.heap.size w w' := by
  go_enter Tryz.func53, Tryz.ntmps53
  go_wp2
  refine bodyPost_ret (v := .agg #[.int .u64 0, .int .u64 59, .map none]) (results_cell_row rfl _ _ w.heap.size 117 #[.int .u64 0, .int .u64 59, .map none] (0, 0) _ rfl ?_ und117 rfl inf117) rfl ⟨_, rfl, .inr ⟨by decide, rfl⟩, bA (Below.refl _ _) _⟩
  exact heap_alloc_new _ _
theorem tMinutes (w : World) : Calls Tryz.prog 54 #[] w fun e w' => ∃ nm, e = .returned (.agg #[.int .u64 0, .int .u64 59, nm]) ∧ NMap 1 w' nm ∧ Below w.heap.size w w' := by
  go_enter Tryz.func54, Tryz.ntmps54
  go_wp2
  refine bodyPost_ret (v := .agg #[.int .u64 0, .int .u64 59, .map none]) (results_cell_row rfl _ _ w.heap.size 117 #[.int .u64 0, .int .u64 59, .map none] (0, 0) _ rfl ?_ und117 rfl inf117) rfl ⟨_, rfl, .inr ⟨by decide, rfl⟩, bA (Below.refl _ _) _⟩
  exact heap_alloc_new _ _
theorem tHours (w : World) : Calls Tryz.prog 55 #[] w fun e w' => ∃ nm, e = .returned (.agg #[.int .u64 0, .int .u64 23, nm]) ∧ NMap 2 w' nm ∧ Below w.heap.size w w' := by
  go_enter Tryz.func55, Tryz.ntmps55
  go_wp2
  refine bodyPost_ret (v := .agg #[.int .u64 0, .int .u64 23, .map none]) (results_cell_row rfl _ _ w.heap.size 117 #[.int .u64 0, .int .u64 23, .map none] (0, 0) _ rfl ?_ und117 rfl inf117) rfl ⟨_, rfl, .inr ⟨by decide, rfl⟩, bA (Below.refl _ _) _⟩
  exact heap_alloc_new _ _
theorem tDom (w : World) : Calls Tryz.prog 56 #[] w fun e w' => ∃ nm, e = .returned (.agg #[.int .u64 1, .int .u64 31, nm]) ∧ NMap 3 w' nm ∧ Below w.heap.size w w' := by
  go_enter Tryz.func56, Tryz.ntmps56
  go_wp2
  refine bodyPost_ret (v := .agg #[.int .u64 1, .int .u64 31, .map none]) (results_cell_row rfl _ _ w.heap.size 117 #[.int .u64 1, .int .u64 31, .map none] (0, 0) _ rfl ?_ und117 rfl inf117) rfl ⟨_, rfl, .inr ⟨by decide, rfl⟩, bA (Below.refl _ _) _⟩
  exact heap_alloc_new _ _

end Go.Proofs.YtjmgebhjkbcpcaaGreatDoor.Txt
end
section
set_option linter.unusedVariables false
set_option linter.unusedSimpArgs false
namespace Go.Proofs.YtjmgebhjkbcpcaaGreatDoor.Txt
open Go.Proofs.YtjmgebhjkbcpcaaGreatDoor.NM
open Go Go.RowKit Go.MapKept Go.Proofs.YtjmgebhjkbcpcaaGreatDoorW.PrintWords
set_option maxRecDepth 100000
theorem lo_of_up (x : UInt8) (h : 65 ≤ up x ∧ up x ≤ 90) : lo x = up x + 32 := by
  have key : ∀ n : Fin 256, (65 ≤ up (UInt8.ofNat n.val) ∧ up (UInt8.ofNat n.val) ≤ 90) → lo (UInt8.ofNat n.val) = up (UInt8.ofNat n.val) + 32 := by decide +kernel
  have := key ⟨x.toNat, x.toNat_lt⟩
  simp only [UInt8.ofNat_toNat] at this
  exact this h
theorem lo_digit (x : UInt8) (h : digit x = true) : lo x = x := by
  have key : ∀ n : Fin 256, digit (UInt8.ofNat n.val) = true → lo (UInt8.ofNat n.val) = UInt8.ofNat n.val := by decide +kernel
  have := key ⟨x.toNat, x.toNat_lt⟩
  simp only [UInt8.ofNat_toNat] at this
  exact this h
theorem map_lo_of_up (n l : Bs) (hn : ∀ y ∈ n, (65 : UInt8) ≤ y ∧ y ≤ 90) (h : n = l.map up) : l.map lo = n.map (· + 32) := by
  subst h
  rw [List.map_map]
  refine List.map_congr_left fun x hx => lo_of_up x (hn _ (List.mem_map_of_mem hx))
theorem named_low {kind : Nat} {l : Bs} {v : Nat} (h : named kind l = some v) : (l.map lo, v) ∈ namesL kind := by
  have all1 : ∀ n ∈ months, ∀ y ∈ n, (65 : UInt8) ≤ y ∧ y ≤ 90 := by decide
  have all2 : ∀ n ∈ days, ∀ y ∈ n, (65 : UInt8) ≤ y ∧ y ≤ 90 := by decide
  have k1 : ∀ i (h : i < months.length), (months[i].map (· + 32), i + 1) ∈ monthsL := by decide
  have k2 : ∀ i (h : i < days.length), (days[i].map (· + 32), i) ∈ daysL := by decide
  unfold named at h
  split at h
  · rename_i e
    rw [Option.map_eq_some_iff] at h
    obtain ⟨i, hi, rfl⟩ := h
    obtain ⟨h1, h2, _⟩ := List.findIdx?_eq_some_iff_getElem.1 hi
    have := map_lo_of_up months[i] l (all1 _ (List.getElem_mem _)) (by simpa using h2)
    rw [this]
    unfold namesL
    rw [if_pos e]
    exact k1 i h1
  · split at h
    · rename_i e4 e
      obtain ⟨h1, h2, _⟩ := List.findIdx?_eq_some_iff_getElem.1 h
      have := map_lo_of_up days[v] l (all2 _ (List.getElem_mem _)) (by simpa using h2)
      rw [this]
      unfold namesL
      rw [if_neg e4, if_pos e]
      exact k2 v h1
    · simp at h
theorem names_fun {kind : Nat} {s : Bs} {v v' : Nat} (h : (s, v) ∈ namesL kind) (h' : (s, v') ∈ namesL kind) : v = v' := by
  have k1 : ∀ p ∈ monthsL, ∀ q ∈ monthsL, p.1 = q.1 → p.2 = q.2 := by decide
  have k2 : ∀ p ∈ daysL, ∀ q ∈ daysL, p.1 = q.1 → p.2 = q.2 := by decide
  unfold namesL at h h'
  split at h
  · rename_i e; rw [if_pos e] at h'; exact k1 _ h _ h' rfl
  · rename_i e
    rw [if_neg e] at h'
    split at h
    · rename_i e5; rw [if_pos e5] at h'; exact k2 _ h _ h' rfl
    · simp at h
theorem names_noNum {kind : Nat} {s : Bs} {v : Nat} (h : (s, v) ∈ namesL kind) : isNum s = false := by
  have k1 : ∀ p ∈ monthsL, isNum p.1 = false := by decide
  have k2 : ∀ p ∈ daysL, isNum p.1 = false := by decide
  unfold namesL at h
  split at h
  · exact k1 _ h
  · split at h
    · exact k2 _ h
    · simp at h
theorem tValue (kind : Nat) (a : ByteArray) (hs : a.size < 1099511627776) (v : Nat) (hv : value kind (tx a) = some v) (hb : v < 1099511627776) (nm : Value) (w : World) (hn : NMap kind w nm) :
    Calls Tryz.prog 116 #[.string a, nm] w fun e w' => e = .returned (.tuple #[.int .u64 v, .nilIface]) ∧ Below w.heap.size w w' := by
  have hasc : ∀ x ∈ tx a, x < 128 := fun x hx => (okLetter_facts x (value_ok hv x hx)).2.2.2
  have hnum : named kind (tx a) = none → isNum (tx a) = true ∧ numv (tx a) = v := by
    intro h
    unfold value at hv
    rw [h] at hv
    simp only at hv
    split at hv
    · rename_i h1
      injection hv with hv
      exact ⟨h1, by omega⟩
    · simp at hv
  rcases hn with ⟨hk, g, c, rfl, hg⟩ | ⟨⟨h4, h5⟩, rfl⟩
  · have hq : ∀ w : World, (binOp .neq 115 (.map (some g)) (.map none)).run Tryz.prog w = .ok (.bool true) w := fun w => run_neq_map_nil w _ _ _ (some g) und115
    have hlow := fun w => tLower a hasc hs w
    obtain ⟨S, hS⟩ : ∃ S, (tx a).map lo = S := ⟨_, rfl⟩
    rw [hS] at hlow
    have HLOW := Lib.hid hlow
    have HG := Lib.hid hg
    clear hlow hg
    cases hnd : named kind (tx a) with
    | some v' =>
      have e : v' = v := by
        unfold value at hv
        rw [hnd] at hv
        simpa using hv
      subst e
      have hin := named_low hnd
      rw [hS] at hin
      have HIN := Lib.hid hin
      clear hin hnd hS hv hnum hasc
      go_enter Tryz.func116, Tryz.ntmps116
      go_wp2_with (go_at_call 128; refine (HLOW.out _).mono ?_; rintro e w1 ⟨rfl, hb1⟩; have hg1 : w1.heap[g]? = some (.map (entF 0 (namesL kind)).toArray c) := (by rw [hb1.block _ (Array.getElem?_eq_some_iff.1 HG.out).1]; exact HG.out); have hlk : (Instr.lookup 115 (.map (some g)) (.string (mk S)) true).run Tryz.prog w1 = .ok (.tuple #[.int .u64 (v' : Int), .bool true]) w1 := (by
        rcases run_find w1 g c _ hg1 S with ⟨h1, _⟩ | ⟨u, h1, h2⟩
        · exact absurd rfl (h1 _ HIN.out)
        · rw [names_fun HIN.out h1]; exact h2); clear hg1)
      go_ret2
      exact ⟨rfl, hb1⟩
    | none =>
      obtain ⟨h1, h2⟩ := hnum hnd
      have hm := fun w => tMust a hs h1 (by omega) w
      rw [h2] at hm
      have HM := Lib.hid hm
      have hsame : S = tx a := by
        rw [← hS]
        unfold isNum at h1
        rw [Bool.and_eq_true] at h1
        conv => rhs; rw [← List.map_id (tx a)]
        exact List.map_congr_left fun x hx => lo_digit x (List.all_eq_true.1 h1.2 x hx)
      have hnoS : isNum S = true := by rw [hsame]; exact h1
      have HNS := Lib.hid hnoS
      clear hm h1 h2 hsame hnoS hS hv hnum hasc hnd
      go_enter Tryz.func116, Tryz.ntmps116
      go_wp2_with (first
        | (go_at_call 128; refine (HLOW.out _).mono ?_; rintro e w1 ⟨rfl, hb1⟩; have hg1 : w1.heap[g]? = some (.map (entF 0 (namesL kind)).toArray c) := (by rw [hb1.block _ (Array.getElem?_eq_some_iff.1 HG.out).1]; exact HG.out); have hlk : (Instr.lookup 115 (.map (some g)) (.string (mk S)) true).run Tryz.prog w1 = .ok (.tuple #[.int .u64 0, .bool false]) w1 := (by
          rcases run_find w1 g c _ hg1 S with ⟨_, h2⟩ | ⟨u, h1, h2⟩
          · exact h2
          · have := names_noNum h1; rw [HNS.out] at this; cases this); clear hg1)
        | (go_at_call 117; refine (HM.out _).mono ?_; rintro e w2 ⟨rfl, hb2⟩))
      go_ret2
      exact ⟨rfl, hb1.trans (hb2.mono hb1.size)⟩
  · have hno : named kind (tx a) = none := by unfold named; rw [if_neg h4, if_neg h5]
    obtain ⟨h1, h2⟩ := hnum hno
    have hm := fun w => tMust a hs h1 (by omega) w
    rw [h2] at hm
    have HM := Lib.hid hm
    have hq : ∀ w : World, (binOp .neq 115 (.map none) (.map none)).run Tryz.prog w = .ok (.bool false) w := fun w => run_neq_map_nil w _ _ _ none und115
    clear hm h1 h2 hno hnum hasc hv
    go_enter Tryz.func116, Tryz.ntmps116
    go_wp2_with (go_at_call 117; refine (HM.out _).mono ?_; rintro e w1 ⟨rfl, hb1⟩)
    go_ret2
    exact ⟨rfl, hb1⟩
end Go.Proofs.YtjmgebhjkbcpcaaGreatDoor.Txt
end
section
set_option linter.unusedVariables false
set_option linter.unusedSimpArgs false
namespace Go.Proofs.YtjmgebhjkbcpcaaGreatDoor.Txt
open Go.Proofs.YtjmgebhjkbcpcaaGreatDoor.NM
open Go Go.RowKit Go.MapKept Go.Proofs.YtjmgebhjkbcpcaaGreatDoorW.PrintWords
set_option maxRecDepth 100000
/-- a row of texts that the splitter made -/
theorem tSplit1 (a : ByteArray) (c : UInt8) (hs : a.size < 1099511627775) (p : Bs) (hp : pieces c (tx a) = [p]) (w : World) : Calls Tryz.prog 115 #[.string a, .string ⟨#[c]⟩] w fun e w' =>
    ∃ g cp, e = .returned (.slice (some ⟨g, 0, none⟩) 1 cp) ∧ w.heap.size ≤ g ∧ Strs w' g [mk p] ∧ Below w.heap.size w w' := by
  have := tSplit a c hs w
  rw [hp] at this
  exact this
theorem tSplit2 (a : ByteArray) (c : UInt8) (hs : a.size < 1099511627775) (p q : Bs) (hp : pieces c (tx a) = [p, q]) (w : World) : Calls Tryz.prog 115 #[.string a, .string ⟨#[c]⟩] w fun e w' =>
    ∃ g cp, e = .returned (.slice (some ⟨g, 0, none⟩) 2 cp) ∧ w.heap.size ≤ g ∧ Strs w' g [mk p, mk q] ∧ Below w.heap.size w w' := by
  have := tSplit a c hs w
  rw [hp] at this
  exact this
theorem Strs.one {w : World} {g : Nat} {x : ByteArray} (h : Strs w g [x]) : w.cell? ⟨g, 0, none⟩ = some (.string x) := h.cell 0 Nat.zero_lt_one
theorem Strs.two {w : World} {g : Nat} {x y : ByteArray} (h : Strs w g [x, y]) : w.cell? ⟨g, 0, none⟩ = some (.string x) ∧ w.cell? ⟨g, 1, none⟩ = some (.string y) := ⟨h.cell 0 Nat.zero_lt_two, h.cell 1 Nat.one_lt_two⟩
/-- what getRange keeps: the bounds' box, the two rows -/
structure RS (w : World) (lo hi : Nat) (nm : Value) (kind : Nat) (wr : World) : Prop where
  b0 : wr.heap[w.heap.size]? = some (.cells #[.int .u64 lo, .int .u64 hi, nm] 117 (0, 0))
  nm : NMap kind wr nm
  be : Below w.heap.size w wr
theorem RS.keep {w : World} {lo hi : Nat} {nm : Value} {kind : Nat} {wr w' : World} (h : RS w lo hi nm kind wr) (hb : Below wr.heap.size wr w') : RS w lo hi nm kind w' :=
  ⟨by rw [hb.block _ (Array.getElem?_eq_some_iff.1 h.b0).1]; exact h.b0, h.nm.below hb, h.be.trans (hb.mono h.be.size)⟩
theorem RS.cells {w : World} {lo hi : Nat} {nm : Value} {kind : Nat} {wr : World} (h : RS w lo hi nm kind wr) : wr.cell? ⟨w.heap.size, 0, none⟩ = some (.int .u64 lo) ∧ wr.cell? ⟨w.heap.size, 1, none⟩ = some (.int .u64 hi) ∧ wr.cell? ⟨w.heap.size, 2, none⟩ = some nm := by
  refine ⟨?_, ?_, ?_⟩ <;> (rw [cell_of_row _ _ _ _ _ _ h.b0]; rfl)
theorem Strs.keep {w w' : World} {g : Nat} {xs : List ByteArray} (h : Strs w g xs) (hb : Below w.heap.size w w') : Strs w' g xs := h.move (hb.block _ h.lt)
set_option maxHeartbeats 2000000 in
theorem tR_star42_no (kind : Nat) (a : ByteArray) (hs : a.size < 1000000000000) (w : World) (nm : Value) (lo hi : Nat) (hh : hi ≤ 59) (hn : NMap kind w nm)
    (e p : Bs) (he : pieces 47 (tx a) = [e]) (hp : pieces 45 e = [p]) (hst : p = [42]) (hb1 : lo ≤ lo) (hb2 : hi ≤ hi) (hb3 : lo ≤ hi) :
    Calls Tryz.prog 94 #[.string a, .agg #[.int .u64 lo, .int .u64 hi, nm]] w fun e w' => e = .returned (.tuple #[.int .u64 (bits .or .u64 (gbits lo hi 1) 9223372036854775808), .nilIface]) ∧ Below w.heap.size w w' := by
  have hR : RS w lo hi nm kind (w.alloc (.cells #[.int .u64 lo, .int .u64 hi, nm] 117)) := ⟨heap_alloc_new _ _, hn.below (bA (Below.refl _ _) _), bA (Below.refl _ _) _⟩
  have R0 := Lib.hid hR
  have hel : e.length ≤ a.size := by have := pieces_len (c := 47) (l := tx a) (p := e) (by rw [he]; simp); rwa [tx_len] at this
  have hpl : p.length ≤ e.length := pieces_len (c := 45) (l := e) (p := p) (by rw [hp]; simp)
  have h1 := fun w => tSplit1 a 47 (by omega) e he w
  have h2 := fun w => tSplit1 (mk e) 45 (by rw [mk_size]; omega) p (by rw [tx_mk]; exact hp) w
  have H1 := Lib.hid h1
  have H2 := Lib.hid h2
  have h6 : ∀ w, Calls Tryz.prog 110 #[.int .u64 lo, .int .u64 hi, .int .u64 1] w fun e w' => e = .returned (.int .u64 (gbits lo hi 1)) ∧ Below w.heap.size w w' := fun w => tBits lo hi 1 (by omega) (by omega) (by omega) (by omega) w
  have H6 := Lib.hid h6
  have d1 : decide ((lo : Int) < (lo : Int)) = false := decide_eq_false (by omega)
  have d2 : decide ((hi : Int) < (hi : Int)) = false := decide_eq_false (by omega)
  have d3 : decide ((hi : Int) < (lo : Int)) = false := decide_eq_false (by omega)
  clear h1 h2 hR hn hel hpl hp he h6
  go_enter Tryz.func94, Tryz.ntmps94
  go_upto_region 7 with (first
    | (go_at_call 115; first
      | ((with_reducible refine (H1.out _).mono ?_); rintro en w1 ⟨g1, c1, rfl, hg1, hst, hb1⟩; have R1 := Lib.hid (R0.out.keep hb1); have S1 := Lib.hid hst; have k1 := hst.one; clear hst hb1 hg1)
      | ((with_reducible refine (H2.out _).mono ?_); rintro en w2 ⟨g2, c2, rfl, hg2, hst, hb2⟩; have R2 := Lib.hid (R1.out.keep hb2); have S12 := Lib.hid (S1.out.keep hb2); have S2 := Lib.hid hst; have k2 := hst.one; clear hst hb2 hg2)))
  clear k1
  obtain ⟨n0, n1, n2⟩ := R2.out.cells
  have t42 : ((mk p).toList == [42]) = true := by rw [tx_toList, tx_mk, hst]; rfl
  clear hst
  go_wp2_with (first | (go_at_call 110; (with_reducible refine (H6.out _).mono ?_); rintro en w9 ⟨rfl, hb9⟩; have B9 := Lib.hid (R2.out.be.trans (hb9.mono R2.out.be.size)); clear hb9))
  all_goals (go_ret2; exact ⟨rfl, B9.out⟩)
set_option maxHeartbeats 2000000 in
theorem tR_star63_no (kind : Nat) (a : ByteArray) (hs : a.size < 1000000000000) (w : World) (nm : Value) (lo hi : Nat) (hh : hi ≤ 59) (hn : NMap kind w nm)
    (e p : Bs) (he : pieces 47 (tx a) = [e]) (hp : pieces 45 e = [p]) (hst : p = [63]) (hb1 : lo ≤ lo) (hb2 : hi ≤ hi) (hb3 : lo ≤ hi) :
    Calls Tryz.prog 94 #[.string a, .agg #[.int .u64 lo, .int .u64 hi, nm]] w fun e w' => e = .returned (.tuple #[.int .u64 (bits .or .u64 (gbits lo hi 1) 9223372036854775808), .nilIface]) ∧ Below w.heap.size w w' := by
  have hR : RS w lo hi nm kind (w.alloc (.cells #[.int .u64 lo, .int .u64 hi, nm] 117)) := ⟨heap_alloc_new _ _, hn.below (bA (Below.refl _ _) _), bA (Below.refl _ _) _⟩
  have R0 := Lib.hid hR
  have hel : e.length ≤ a.size := by have := pieces_len (c := 47) (l := tx a) (p := e) (by rw [he]; simp); rwa [tx_len] at this
  have hpl : p.length ≤ e.length := pieces_len (c := 45) (l := e) (p := p) (by rw [hp]; simp)
  have h1 := fun w => tSplit1 a 47 (by omega) e he w
  have h2 := fun w => tSplit1 (mk e) 45 (by rw [mk_size]; omega) p (by rw [tx_mk]; exact hp) w
  have H1 := Lib.hid h1
  have H2 := Lib.hid h2
  have h6 : ∀ w, Calls Tryz.prog 110 #[.int .u64 lo, .int .u64 hi, .int .u64 1] w fun e w' => e = .returned (.int .u64 (gbits lo hi 1)) ∧ Below w.heap.size w w' := fun w => tBits lo hi 1 (by omega) (by omega) (by omega) (by omega) w
  have H6 := Lib.hid h6
  have d1 : decide ((lo : Int) < (lo : Int)) = false := decide_eq_false (by omega)
  have d2 : decide ((hi : Int) < (hi : Int)) = false := decide_eq_false (by omega)
  have d3 : decide ((hi : Int) < (lo : Int)) = false := decide_eq_false (by omega)
  clear h1 h2 hR hn hel hpl hp he h6
  go_enter Tryz.func94, Tryz.ntmps94
  go_upto_region 7 with (first
    | (go_at_call 115; first
      | ((with_reducible refine (H1.out _).mono ?_); rintro en w1 ⟨g1, c1, rfl, hg1, hst, hb1⟩; have R1 := Lib.hid (R0.out.keep hb1); have S1 := Lib.hid hst; have k1 := hst.one; clear hst hb1 hg1)
      | ((with_reducible refine (H2.out _).mono ?_); rintro en w2 ⟨g2, c2, rfl, hg2, hst, hb2⟩; have R2 := Lib.hid (R1.out.keep hb2); have S12 := Lib.hid (S1.out.keep hb2); have S2 := Lib.hid hst; have k2 := hst.one; clear hst hb2 hg2)))
  clear k1
  obtain ⟨n0, n1, n2⟩ := R2.out.cells
  have t42 : ((mk p).toList == [42]) = false := by rw [tx_toList, tx_mk, hst]; rfl
  have t63 : ((mk p).toList == [63]) = true := by rw [tx_toList, tx_mk, hst]; rfl
  clear hst
  go_wp2_with (first | (go_at_call 110; (with_reducible refine (H6.out _).mono ?_); rintro en w9 ⟨rfl, hb9⟩; have B9 := Lib.hid (R2.out.be.trans (hb9.mono R2.out.be.size)); clear hb9))
  all_goals (go_ret2; exact ⟨rfl, B9.out⟩)
set_option maxHeartbeats 2000000 in
theorem tR_one_no (kind : Nat) (a : ByteArray) (hs : a.size < 1000000000000) (w : World) (nm : Value) (lo hi : Nat) (hh : hi ≤ 59) (hn : NMap kind w nm)
    (e p : Bs) (he : pieces 47 (tx a) = [e]) (hp : pieces 45 e = [p]) (hns : p ≠ [42] ∧ p ≠ [63]) (v : Nat) (hv : value kind p = some v) (hb1 : lo ≤ v) (hb2 : v ≤ hi) (hb3 : v ≤ v) :
    Calls Tryz.prog 94 #[.string a, .agg #[.int .u64 lo, .int .u64 hi, nm]] w fun e w' => e = .returned (.tuple #[.int .u64 (bits .or .u64 (gbits v v 1) 0), .nilIface]) ∧ Below w.heap.size w w' := by
  have hR : RS w lo hi nm kind (w.alloc (.cells #[.int .u64 lo, .int .u64 hi, nm] 117)) := ⟨heap_alloc_new _ _, hn.below (bA (Below.refl _ _) _), bA (Below.refl _ _) _⟩
  have R0 := Lib.hid hR
  have hel : e.length ≤ a.size := by have := pieces_len (c := 47) (l := tx a) (p := e) (by rw [he]; simp); rwa [tx_len] at this
  have hpl : p.length ≤ e.length := pieces_len (c := 45) (l := e) (p := p) (by rw [hp]; simp)
  have h1 := fun w => tSplit1 a 47 (by omega) e he w
  have h2 := fun w => tSplit1 (mk e) 45 (by rw [mk_size]; omega) p (by rw [tx_mk]; exact hp) w
  have H1 := Lib.hid h1
  have H2 := Lib.hid h2
  have h3 := fun w (hn : NMap kind w nm) => tValue kind (mk p) (by rw [mk_size]; omega) v (by rw [tx_mk]; exact hv) (by omega) nm w hn
  have H3 := Lib.hid h3
  have t42 : ((mk p).toList == [42]) = false := by rw [tx_toList, tx_mk]; exact beq_eq_false_iff_ne.2 hns.1
  have t63 : ((mk p).toList == [63]) = false := by rw [tx_toList, tx_mk]; exact beq_eq_false_iff_ne.2 hns.2
  have h6 : ∀ w, Calls Tryz.prog 110 #[.int .u64 v, .int .u64 v, .int .u64 1] w fun e w' => e = .returned (.int .u64 (gbits v v 1)) ∧ Below w.heap.size w w' := fun w => tBits v v 1 (by omega) (by omega) (by omega) (by omega) w
  have H6 := Lib.hid h6
  have d1 : decide ((v : Int) < (lo : Int)) = false := decide_eq_false (by omega)
  have d2 : decide ((hi : Int) < (v : Int)) = false := decide_eq_false (by omega)
  have d3 : decide ((v : Int) < (v : Int)) = false := decide_eq_false (by omega)
  clear h1 h2 hR hn hel hpl hp he h3 hv h6
  go_enter Tryz.func94, Tryz.ntmps94
  go_upto_region 7 with (first
    | (go_at_call 115; first
      | ((with_reducible refine (H1.out _).mono ?_); rintro en w1 ⟨g1, c1, rfl, hg1, hst, hb1⟩; have R1 := Lib.hid (R0.out.keep hb1); have S1 := Lib.hid hst; have k1 := hst.one; clear hst hb1 hg1)
      | ((with_reducible refine (H2.out _).mono ?_); rintro en w2 ⟨g2, c2, rfl, hg2, hst, hb2⟩; have R2 := Lib.hid (R1.out.keep hb2); have S12 := Lib.hid (S1.out.keep hb2); have S2 := Lib.hid hst; have k2 := hst.one; clear hst hb2 hg2)))
  clear k1
  obtain ⟨n0, n1, n2⟩ := R2.out.cells
  go_upto_region 11 with fail
  clear n0 n1
  go_region_held3 (fun W => W.cell? ⟨g2, 0, none⟩ = some (.string (mk p)) ∧ W.cell? ⟨w.heap.size, 2, none⟩ = some nm) (first | exact ⟨k2, n2⟩ | exact ⟨c5, c6⟩) (first | (go_at_call 116; (with_reducible refine (H3.out _ (R2.out.nm.below (Below.refl _ _).drew)).mono ?_); rintro en w3 ⟨rfl, hb3⟩; have R3 := Lib.hid (R2.out.keep ((Below.refl _ _).drew.trans hb3)); have S22 := Lib.hid (S2.out.keep ((Below.refl _ _).drew.trans hb3)); have S13 := Lib.hid (S12.out.keep ((Below.refl _ _).drew.trans hb3)); have c5 := S22.out.one; have c6 := R3.out.cells.2.2; clear hb3))
  obtain ⟨o0, o1, o2⟩ := R3.out.cells
  go_wp2_with (first | (go_at_call 110; (with_reducible refine (H6.out _).mono ?_); rintro en w9 ⟨rfl, hb9⟩; have B9 := Lib.hid (R3.out.be.trans (hb9.mono R3.out.be.size)); clear hb9))
  all_goals (go_ret2; exact ⟨rfl, B9.out⟩)
set_option maxHeartbeats 2000000 in
theorem tR_two_no (kind : Nat) (a : ByteArray) (hs : a.size < 1000000000000) (w : World) (nm : Value) (lo hi : Nat) (hh : hi ≤ 59) (hn : NMap kind w nm)
    (e p : Bs) (q : Bs) (he : pieces 47 (tx a) = [e]) (hp : pieces 45 e = [p, q]) (hns : p ≠ [42] ∧ p ≠ [63]) (v : Nat) (hv : value kind p = some v) (u : Nat) (hu : value kind q = some u) (hb1 : lo ≤ v) (hb2 : u ≤ hi) (hb3 : v ≤ u) :
    Calls Tryz.prog 94 #[.string a, .agg #[.int .u64 lo, .int .u64 hi, nm]] w fun e w' => e = .returned (.tuple #[.int .u64 (bits .or .u64 (gbits v u 1) 0), .nilIface]) ∧ Below w.heap.size w w' := by
  have hR : RS w lo hi nm kind (w.alloc (.cells #[.int .u64 lo, .int .u64 hi, nm] 117)) := ⟨heap_alloc_new _ _, hn.below (bA (Below.refl _ _) _), bA (Below.refl _ _) _⟩
  have R0 := Lib.hid hR
  have hel : e.length ≤ a.size := by have := pieces_len (c := 47) (l := tx a) (p := e) (by rw [he]; simp); rwa [tx_len] at this
  have hpl : p.length ≤ e.length := pieces_len (c := 45) (l := e) (p := p) (by rw [hp]; simp)
  have hql : q.length ≤ e.length := pieces_len (c := 45) (l := e) (p := q) (by rw [hp]; simp)
  have h1 := fun w => tSplit1 a 47 (by omega) e he w
  have h2 := fun w => tSplit2 (mk e) 45 (by rw [mk_size]; omega) p q (by rw [tx_mk]; exact hp) w
  have H1 := Lib.hid h1
  have H2 := Lib.hid h2
  have h3 := fun w (hn : NMap kind w nm) => tValue kind (mk p) (by rw [mk_size]; omega) v (by rw [tx_mk]; exact hv) (by omega) nm w hn
  have H3 := Lib.hid h3
  have t42 : ((mk p).toList == [42]) = false := by rw [tx_toList, tx_mk]; exact beq_eq_false_iff_ne.2 hns.1
  have t63 : ((mk p).toList == [63]) = false := by rw [tx_toList, tx_mk]; exact beq_eq_false_iff_ne.2 hns.2
  have h4 := fun w (hn : NMap kind w nm) => tValue kind (mk q) (by rw [mk_size]; omega) u (by rw [tx_mk]; exact hu) (by omega) nm w hn
  have H4 := Lib.hid h4
  have h6 : ∀ w, Calls Tryz.prog 110 #[.int .u64 v, .int .u64 u, .int .u64 1] w fun e w' => e = .returned (.int .u64 (gbits v u 1)) ∧ Below w.heap.size w w' := fun w => tBits v u 1 (by omega) (by omega) (by omega) (by omega) w
  have H6 := Lib.hid h6
  have d1 : decide ((v : Int) < (lo : Int)) = false := decide_eq_false (by omega)
  have d2 : decide ((hi : Int) < (u : Int)) = false := decide_eq_false (by omega)
  have d3 : decide ((u : Int) < (v : Int)) = false := decide_eq_false (by omega)
  clear h1 h2 hR hn hel hpl hp he h3 hv h4 hu hql h6
  go_enter Tryz.func94, Tryz.ntmps94
  go_upto_region 7 with (first
    | (go_at_call 115; first
      | ((with_reducible refine (H1.out _).mono ?_); rintro en w1 ⟨g1, c1, rfl, hg1, hst, hb1⟩; have R1 := Lib.hid (R0.out.keep hb1); have S1 := Lib.hid hst; have k1 := hst.one; clear hst hb1 hg1)
      | ((with_reducible refine (H2.out _).mono ?_); rintro en w2 ⟨g2, c2, rfl, hg2, hst, hb2⟩; have R2 := Lib.hid (R1.out.keep hb2); have S12 := Lib.hid (S1.out.keep hb2); have S2 := Lib.hid hst; have k2 := hst.two.1; clear hst hb2 hg2)))
  clear k1
  obtain ⟨n0, n1, n2⟩ := R2.out.cells
  go_upto_region 11 with fail
  clear n0 n1
  go_region_held3 (fun W => W.cell? ⟨g2, 0, none⟩ = some (.string (mk p)) ∧ W.cell? ⟨w.heap.size, 2, none⟩ = some nm) (first | exact ⟨k2, n2⟩ | exact ⟨c5, c6⟩) (first | (go_at_call 116; (with_reducible refine (H3.out _ (R2.out.nm.below (Below.refl _ _).drew)).mono ?_); rintro en w3 ⟨rfl, hb3⟩; have R3 := Lib.hid (R2.out.keep ((Below.refl _ _).drew.trans hb3)); have S22 := Lib.hid (S2.out.keep ((Below.refl _ _).drew.trans hb3)); have S13 := Lib.hid (S12.out.keep ((Below.refl _ _).drew.trans hb3)); have c5 := S22.out.two.1; have c6 := R3.out.cells.2.2; clear hb3))
  clear k2 n2
  obtain ⟨o0, o1, o2⟩ := R3.out.cells
  have k4 := S22.out.two.2
  go_upto_region 19 with fail
  clear o0 o1 c5 c6
  go_region_held3 (fun W => W.cell? ⟨g2, 1, none⟩ = some (.string (mk q)) ∧ W.cell? ⟨w.heap.size, 2, none⟩ = some nm) (first | exact ⟨k4, o2⟩ | exact ⟨c7, c8⟩) (first | (go_at_call 116; (with_reducible refine (H4.out _ (R3.out.nm.below (Below.refl _ _).drew)).mono ?_); rintro en w4 ⟨rfl, hb4⟩; have R4 := Lib.hid (R3.out.keep ((Below.refl _ _).drew.trans hb4)); have S24 := Lib.hid (S22.out.keep ((Below.refl _ _).drew.trans hb4)); have S14 := Lib.hid (S13.out.keep ((Below.refl _ _).drew.trans hb4)); have c7 := S24.out.two.2; have c8 := R4.out.cells.2.2; clear hb4))
  obtain ⟨q0, q1, q2⟩ := R4.out.cells
  go_wp2_with (first | (go_at_call 110; (with_reducible refine (H6.out _).mono ?_); rintro en w9 ⟨rfl, hb9⟩; have B9 := Lib.hid (R4.out.be.trans (hb9.mono R4.out.be.size)); clear hb9))
  all_goals (go_ret2; exact ⟨rfl, B9.out⟩)
set_option maxHeartbeats 2000000 in
theorem tR_star42_yes (kind : Nat) (a : ByteArray) (hs : a.size < 1000000000000) (w : World) (nm : Value) (lo hi : Nat) (hh : hi ≤ 59) (hn : NMap kind w nm)
    (e p : Bs) (s : Bs) (he : pieces 47 (tx a) = [e, s]) (hp : pieces 45 e = [p]) (hst : p = [42]) (hk : isNum s = true ∧ 0 < numv s ∧ numv s < 1099511627776) (hb1 : lo ≤ lo) (hb2 : hi ≤ hi) (hb3 : lo ≤ hi) :
    Calls Tryz.prog 94 #[.string a, .agg #[.int .u64 lo, .int .u64 hi, nm]] w fun e w' => e = .returned (.tuple #[.int .u64 (bits .or .u64 (gbits lo hi (numv s)) (if numv s ≤ 1 then 9223372036854775808 else 0)), .nilIface]) ∧ Below w.heap.size w w' := by
  have hR : RS w lo hi nm kind (w.alloc (.cells #[.int .u64 lo, .int .u64 hi, nm] 117)) := ⟨heap_alloc_new _ _, hn.below (bA (Below.refl _ _) _), bA (Below.refl _ _) _⟩
  have R0 := Lib.hid hR
  have hel : e.length ≤ a.size := by have := pieces_len (c := 47) (l := tx a) (p := e) (by rw [he]; simp); rwa [tx_len] at this
  have hpl : p.length ≤ e.length := pieces_len (c := 45) (l := e) (p := p) (by rw [hp]; simp)
  have hsl : s.length ≤ a.size := by have := pieces_len (c := 47) (l := tx a) (p := s) (by rw [he]; simp); rwa [tx_len] at this
  have h1 := fun w => tSplit2 a 47 (by omega) e s he w
  have h2 := fun w => tSplit1 (mk e) 45 (by rw [mk_size]; omega) p (by rw [tx_mk]; exact hp) w
  have H1 := Lib.hid h1
  have H2 := Lib.hid h2
  have h5 := fun w => tMust (mk s) (by rw [mk_size]; omega) (by rw [tx_mk]; exact hk.1) (by rw [tx_mk]; exact hk.2.2) w
  rw [tx_mk] at h5
  obtain ⟨k, hkk⟩ : ∃ k, numv s = k := ⟨_, rfl⟩
  rw [hkk] at h5 hk ⊢
  have hk2 := hk.2
  have H5 := Lib.hid h5
  have h6 := fun w => tBits lo hi k (by omega) (by omega) (by omega) (by omega) w
  have H6 := Lib.hid h6
  have d1 : decide ((lo : Int) < (lo : Int)) = false := decide_eq_false (by omega)
  have d2 : decide ((hi : Int) < (hi : Int)) = false := decide_eq_false (by omega)
  have d3 : decide ((hi : Int) < (lo : Int)) = false := decide_eq_false (by omega)
  have d4 : ((k : Int) == 0) = false := by simp; omega
  clear h1 h2 hR hn hel hpl hp he h5 hk hkk hsl h6
  go_enter Tryz.func94, Tryz.ntmps94
  go_upto_region 7 with (first
    | (go_at_call 115; first
      | ((with_reducible refine (H1.out _).mono ?_); rintro en w1 ⟨g1, c1, rfl, hg1, hst, hb1⟩; have R1 := Lib.hid (R0.out.keep hb1); have S1 := Lib.hid hst; have k1 := hst.two.1; clear hst hb1 hg1)
      | ((with_reducible refine (H2.out _).mono ?_); rintro en w2 ⟨g2, c2, rfl, hg2, hst, hb2⟩; have R2 := Lib.hid (R1.out.keep hb2); have S12 := Lib.hid (S1.out.keep hb2); have S2 := Lib.hid hst; have k2 := hst.one; clear hst hb2 hg2)))
  clear k1
  obtain ⟨n0, n1, n2⟩ := R2.out.cells
  have t42 : ((mk p).toList == [42]) = true := by rw [tx_toList, tx_mk, hst]; rfl
  clear hst
  have k3 := S12.out.two.2
  go_wp2_with (first | (go_at_call 117; (with_reducible refine (H5.out _).mono ?_); rintro en w5 ⟨rfl, hb5⟩; have R5 := Lib.hid (R2.out.keep hb5); obtain ⟨m0, m1, m2⟩ := R5.out.cells; clear hb5) | (go_at_call 110; (with_reducible refine (H6.out _).mono ?_); rintro en w9 ⟨rfl, hb9⟩; have B9 := Lib.hid (R5.out.be.trans (hb9.mono R5.out.be.size)); clear hb9))
  all_goals (go_ret2; exact ⟨rfl, B9.out⟩)
set_option maxHeartbeats 2000000 in
theorem tR_star63_yes (kind : Nat) (a : ByteArray) (hs : a.size < 1000000000000) (w : World) (nm : Value) (lo hi : Nat) (hh : hi ≤ 59) (hn : NMap kind w nm)
    (e p : Bs) (s : Bs) (he : pieces 47 (tx a) = [e, s]) (hp : pieces 45 e = [p]) (hst : p = [63]) (hk : isNum s = true ∧ 0 < numv s ∧ numv s < 1099511627776) (hb1 : lo ≤ lo) (hb2 : hi ≤ hi) (hb3 : lo ≤ hi) :
    Calls Tryz.prog 94 #[.string a, .agg #[.int .u64 lo, .int .u64 hi, nm]] w fun e w' => e = .returned (.tuple #[.int .u64 (bits .or .u64 (gbits lo hi (numv s)) (if numv s ≤ 1 then 9223372036854775808 else 0)), .nilIface]) ∧ Below w.heap.size w w' := by
  have hR : RS w lo hi nm kind (w.alloc (.cells #[.int .u64 lo, .int .u64 hi, nm] 117)) := ⟨heap_alloc_new _ _, hn.below (bA (Below.refl _ _) _), bA (Below.refl _ _) _⟩
  have R0 := Lib.hid hR
  have hel : e.length ≤ a.size := by have := pieces_len (c := 47) (l := tx a) (p := e) (by rw [he]; simp); rwa [tx_len] at this
  have hpl : p.length ≤ e.length := pieces_len (c := 45) (l := e) (p := p) (by rw [hp]; simp)
  have hsl : s.length ≤ a.size := by have := pieces_len (c := 47) (l := tx a) (p := s) (by rw [he]; simp); rwa [tx_len] at this
  have h1 := fun w => tSplit2 a 47 (by omega) e s he w
  have h2 := fun w => tSplit1 (mk e) 45 (by rw [mk_size]; omega) p (by rw [tx_mk]; exact hp) w
  have H1 := Lib.hid h1
  have H2 := Lib.hid h2
  have h5 := fun w => tMust (mk s) (by rw [mk_size]; omega) (by rw [tx_mk]; exact hk.1) (by rw [tx_mk]; exact hk.2.2) w
  rw [tx_mk] at h5
  obtain ⟨k, hkk⟩ : ∃ k, numv s = k := ⟨_, rfl⟩
  rw [hkk] at h5 hk ⊢
  have hk2 := hk.2
  have H5 := Lib.hid h5
  have h6 := fun w => tBits lo hi k (by omega) (by omega) (by omega) (by omega) w
  have H6 := Lib.hid h6
  have d1 : decide ((lo : Int) < (lo : Int)) = false := decide_eq_false (by omega)
  have d2 : decide ((hi : Int) < (hi : Int)) = false := decide_eq_false (by omega)
  have d3 : decide ((hi : Int) < (lo : Int)) = false := decide_eq_false (by omega)
  have d4 : ((k : Int) == 0) = false := by simp; omega
  clear h1 h2 hR hn hel hpl hp he h5 hk hkk hsl h6
  go_enter Tryz.func94, Tryz.ntmps94
  go_upto_region 7 with (first
    | (go_at_call 115; first
      | ((with_reducible refine (H1.out _).mono ?_); rintro en w1 ⟨g1, c1, rfl, hg1, hst, hb1⟩; have R1 := Lib.hid (R0.out.keep hb1); have S1 := Lib.hid hst; have k1 := hst.two.1; clear hst hb1 hg1)
      | ((with_reducible refine (H2.out _).mono ?_); rintro en w2 ⟨g2, c2, rfl, hg2, hst, hb2⟩; have R2 := Lib.hid (R1.out.keep hb2); have S12 := Lib.hid (S1.out.keep hb2); have S2 := Lib.hid hst; have k2 := hst.one; clear hst hb2 hg2)))
  clear k1
  obtain ⟨n0, n1, n2⟩ := R2.out.cells
  have t42 : ((mk p).toList == [42]) = false := by rw [tx_toList, tx_mk, hst]; rfl
  have t63 : ((mk p).toList == [63]) = true := by rw [tx_toList, tx_mk, hst]; rfl
  clear hst
  have k3 := S12.out.two.2
  go_wp2_with (first | (go_at_call 117; (with_reducible refine (H5.out _).mono ?_); rintro en w5 ⟨rfl, hb5⟩; have R5 := Lib.hid (R2.out.keep hb5); obtain ⟨m0, m1, m2⟩ := R5.out.cells; clear hb5) | (go_at_call 110; (with_reducible refine (H6.out _).mono ?_); rintro en w9 ⟨rfl, hb9⟩; have B9 := Lib.hid (R5.out.be.trans (hb9.mono R5.out.be.size)); clear hb9))
  all_goals (go_ret2; exact ⟨rfl, B9.out⟩)
set_option maxHeartbeats 2000000 in
theorem tR_one_yes (kind : Nat) (a : ByteArray) (hs : a.size < 1000000000000) (w : World) (nm : Value) (lo hi : Nat) (hh : hi ≤ 59) (hn : NMap kind w nm)
    (e p : Bs) (s : Bs) (he : pieces 47 (tx a) = [e, s]) (hp : pieces 45 e = [p]) (hns : p ≠ [42] ∧ p ≠ [63]) (v : Nat) (hv : value kind p = some v) (hk : isNum s = true ∧ 0 < numv s ∧ numv s < 1099511627776) (hb1 : lo ≤ v) (hb2 : hi ≤ hi) (hb3 : v ≤ hi) :
    Calls Tryz.prog 94 #[.string a, .agg #[.int .u64 lo, .int .u64 hi, nm]] w fun e w' => e = .returned (.tuple #[.int .u64 (bits .or .u64 (gbits v hi (numv s)) 0), .nilIface]) ∧ Below w.heap.size w w' := by
  have hR : RS w lo hi nm kind (w.alloc (.cells #[.int .u64 lo, .int .u64 hi, nm] 117)) := ⟨heap_alloc_new _ _, hn.below (bA (Below.refl _ _) _), bA (Below.refl _ _) _⟩
  have R0 := Lib.hid hR
  have hel : e.length ≤ a.size := by have := pieces_len (c := 47) (l := tx a) (p := e) (by rw [he]; simp); rwa [tx_len] at this
  have hpl : p.length ≤ e.length := pieces_len (c := 45) (l := e) (p := p) (by rw [hp]; simp)
  have hsl : s.length ≤ a.size := by have := pieces_len (c := 47) (l := tx a) (p := s) (by rw [he]; simp); rwa [tx_len] at this
  have h1 := fun w => tSplit2 a 47 (by omega) e s he w
  have h2 := fun w => tSplit1 (mk e) 45 (by rw [mk_size]; omega) p (by rw [tx_mk]; exact hp) w
  have H1 := Lib.hid h1
  have H2 := Lib.hid h2
  have h3 := fun w (hn : NMap kind w nm) => tValue kind (mk p) (by rw [mk_size]; omega) v (by rw [tx_mk]; exact hv) (by omega) nm w hn
  have H3 := Lib.hid h3
  have t42 : ((mk p).toList == [42]) = false := by rw [tx_toList, tx_mk]; exact beq_eq_false_iff_ne.2 hns.1
  have t63 : ((mk p).toList == [63]) = false := by rw [tx_toList, tx_mk]; exact beq_eq_false_iff_ne.2 hns.2
  have h5 := fun w => tMust (mk s) (by rw [mk_size]; omega) (by rw [tx_mk]; exact hk.1) (by rw [tx_mk]; exact hk.2.2) w
  rw [tx_mk] at h5
  obtain ⟨k, hkk⟩ : ∃ k, numv s = k := ⟨_, rfl⟩
  rw [hkk] at h5 hk ⊢
  have hk2 := hk.2
  have H5 := Lib.hid h5
  have h6 := fun w => tBits v hi k (by omega) (by omega) (by omega) (by omega) w
  have H6 := Lib.hid h6
  have d1 : decide ((v : Int) < (lo : Int)) = false := decide_eq_false (by omega)
  have d2 : decide ((hi : Int) < (hi : Int)) = false := decide_eq_false (by omega)
  have d3 : decide ((hi : Int) < (v : Int)) = false := decide_eq_false (by omega)
  have d4 : ((k : Int) == 0) = false := by simp; omega
  clear h1 h2 hR hn hel hpl hp he h3 hv h5 hk hkk hsl h6
  go_enter Tryz.func94, Tryz.ntmps94
  go_upto_region 7 with (first
    | (go_at_call 115; first
      | ((with_reducible refine (H1.out _).mono ?_); rintro en w1 ⟨g1, c1, rfl, hg1, hst, hb1⟩; have R1 := Lib.hid (R0.out.keep hb1); have S1 := Lib.hid hst; have k1 := hst.two.1; clear hst hb1 hg1)
      | ((with_reducible refine (H2.out _).mono ?_); rintro en w2 ⟨g2, c2, rfl, hg2, hst, hb2⟩; have R2 := Lib.hid (R1.out.keep hb2); have S12 := Lib.hid (S1.out.keep hb2); have S2 := Lib.hid hst; have k2 := hst.one; clear hst hb2 hg2)))
  clear k1
  obtain ⟨n0, n1, n2⟩ := R2.out.cells
  go_upto_region 11 with fail
  clear n0 n1
  go_region_held3 (fun W => W.cell? ⟨g2, 0, none⟩ = some (.string (mk p)) ∧ W.cell? ⟨w.heap.size, 2, none⟩ = some nm) (first | exact ⟨k2, n2⟩ | exact ⟨c5, c6⟩) (first | (go_at_call 116; (with_reducible refine (H3.out _ (R2.out.nm.below (Below.refl _ _).drew)).mono ?_); rintro en w3 ⟨rfl, hb3⟩; have R3 := Lib.hid (R2.out.keep ((Below.refl _ _).drew.trans hb3)); have S22 := Lib.hid (S2.out.keep ((Below.refl _ _).drew.trans hb3)); have S13 := Lib.hid (S12.out.keep ((Below.refl _ _).drew.trans hb3)); have c5 := S22.out.one; have c6 := R3.out.cells.2.2; clear hb3))
  obtain ⟨o0, o1, o2⟩ := R3.out.cells
  have k3 := S13.out.two.2
  go_wp2_with (first | (go_at_call 117; (with_reducible refine (H5.out _).mono ?_); rintro en w5 ⟨rfl, hb5⟩; have R5 := Lib.hid (R3.out.keep hb5); obtain ⟨m0, m1, m2⟩ := R5.out.cells; clear hb5) | (go_at_call 110; (with_reducible refine (H6.out _).mono ?_); rintro en w9 ⟨rfl, hb9⟩; have B9 := Lib.hid (R5.out.be.trans (hb9.mono R5.out.be.size)); clear hb9))
  all_goals (go_ret2; exact ⟨rfl, B9.out⟩)
set_option maxHeartbeats 2000000 in
theorem tR_two_yes (kind : Nat) (a : ByteArray) (hs : a.size < 1000000000000) (w : World) (nm : Value) (lo hi : Nat) (hh : hi ≤ 59) (hn : NMap kind w nm)
    (e p : Bs) (s : Bs) (q : Bs) (he : pieces 47 (tx a) = [e, s]) (hp : pieces 45 e = [p, q]) (hns : p ≠ [42] ∧ p ≠ [63]) (v : Nat) (hv : value kind p = some v) (u : Nat) (hu : value kind q = some u) (hk : isNum s = true ∧ 0 < numv s ∧ numv s < 1099511627776) (hb1 : lo ≤ v) (hb2 : u ≤ hi) (hb3 : v ≤ u) :
    Calls Tryz.prog 94 #[.string a, .agg #[.int .u64 lo, .int .u64 hi, nm]] w fun e w' => e = .returned (.tuple #[.int .u64 (bits .or .u64 (gbits v u (numv s)) 0), .nilIface]) ∧ Below w.heap.size w w' := by
  have hR : RS w lo hi nm kind (w.alloc (.cells #[.int .u64 lo, .int .u64 hi, nm] 117)) := ⟨heap_alloc_new _ _, hn.below (bA (Below.refl _ _) _), bA (Below.refl _ _) _⟩
  have R0 := Lib.hid hR
  have hel : e.length ≤ a.size := by have := pieces_len (c := 47) (l := tx a) (p := e) (by rw [he]; simp); rwa [tx_len] at this
  have hpl : p.length ≤ e.length := pieces_len (c := 45) (l := e) (p := p) (by rw [hp]; simp)
  have hql : q.length ≤ e.length := pieces_len (c := 45) (l := e) (p := q) (by rw [hp]; simp)
  have hsl : s.length ≤ a.size := by have := pieces_len (c := 47) (l := tx a) (p := s) (by rw [he]; simp); rwa [tx_len] at this
  have h1 := fun w => tSplit2 a 47 (by omega) e s he w
  have h2 := fun w => tSplit2 (mk e) 45 (by rw [mk_size]; omega) p q (by rw [tx_mk]; exact hp) w
  have H1 := Lib.hid h1
  have H2 := Lib.hid h2
  have h3 := fun w (hn : NMap kind w nm) => tValue kind (mk p) (by rw [mk_size]; omega) v (by rw [tx_mk]; exact hv) (by omega) nm w hn
  have H3 := Lib.hid h3
  have t42 : ((mk p).toList == [42]) = false := by rw [tx_toList, tx_mk]; exact beq_eq_false_iff_ne.2 hns.1
  have t63 : ((mk p).toList == [63]) = false := by rw [tx_toList, tx_mk]; exact beq_eq_false_iff_ne.2 hns.2
  have h4 := fun w (hn : NMap kind w nm) => tValue kind (mk q) (by rw [mk_size]; omega) u (by rw [tx_mk]; exact hu) (by omega) nm w hn
  have H4 := Lib.hid h4
  have h5 := fun w => tMust (mk s) (by rw [mk_size]; omega) (by rw [tx_mk]; exact hk.1) (by rw [tx_mk]; exact hk.2.2) w
  rw [tx_mk] at h5
  obtain ⟨k, hkk⟩ : ∃ k, numv s = k := ⟨_, rfl⟩
  rw [hkk] at h5 hk ⊢
  have hk2 := hk.2
  have H5 := Lib.hid h5
  have h6 := fun w => tBits v u k (by omega) (by omega) (by omega) (by omega) w
  have H6 := Lib.hid h6
  have d1 : decide ((v : Int) < (lo : Int)) = false := decide_eq_false (by omega)
  have d2 : decide ((hi : Int) < (u : Int)) = false := decide_eq_false (by omega)
  have d3 : decide ((u : Int) < (v : Int)) = false := decide_eq_false (by omega)
  have d4 : ((k : Int) == 0) = false := by simp; omega
  clear h1 h2 hR hn hel hpl hp he h3 hv h4 hu hql h5 hk hkk hsl h6
  go_enter Tryz.func94, Tryz.ntmps94
  go_upto_region 7 with (first
    | (go_at_call 115; first
      | ((with_reducible refine (H1.out _).mono ?_); rintro en w1 ⟨g1, c1, rfl, hg1, hst, hb1⟩; have R1 := Lib.hid (R0.out.keep hb1); have S1 := Lib.hid hst; have k1 := hst.two.1; clear hst hb1 hg1)
      | ((with_reducible refine (H2.out _).mono ?_); rintro en w2 ⟨g2, c2, rfl, hg2, hst, hb2⟩; have R2 := Lib.hid (R1.out.keep hb2); have S12 := Lib.hid (S1.out.keep hb2); have S2 := Lib.hid hst; have k2 := hst.two.1; clear hst hb2 hg2)))
  clear k1
  obtain ⟨n0, n1, n2⟩ := R2.out.cells
  go_upto_region 11 with fail
  clear n0 n1
  go_region_held3 (fun W => W.cell? ⟨g2, 0, none⟩ = some (.string (mk p)) ∧ W.cell? ⟨w.heap.size, 2, none⟩ = some nm) (first | exact ⟨k2, n2⟩ | exact ⟨c5, c6⟩) (first | (go_at_call 116; (with_reducible refine (H3.out _ (R2.out.nm.below (Below.refl _ _).drew)).mono ?_); rintro en w3 ⟨rfl, hb3⟩; have R3 := Lib.hid (R2.out.keep ((Below.refl _ _).drew.trans hb3)); have S22 := Lib.hid (S2.out.keep ((Below.refl _ _).drew.trans hb3)); have S13 := Lib.hid (S12.out.keep ((Below.refl _ _).drew.trans hb3)); have c5 := S22.out.two.1; have c6 := R3.out.cells.2.2; clear hb3))
  clear k2 n2
  obtain ⟨o0, o1, o2⟩ := R3.out.cells
  have k4 := S22.out.two.2
  go_upto_region 19 with fail
  clear o0 o1 c5 c6
  go_region_held3 (fun W => W.cell? ⟨g2, 1, none⟩ = some (.string (mk q)) ∧ W.cell? ⟨w.heap.size, 2, none⟩ = some nm) (first | exact ⟨k4, o2⟩ | exact ⟨c7, c8⟩) (first | (go_at_call 116; (with_reducible refine (H4.out _ (R3.out.nm.below (Below.refl _ _).drew)).mono ?_); rintro en w4 ⟨rfl, hb4⟩; have R4 := Lib.hid (R3.out.keep ((Below.refl _ _).drew.trans hb4)); have S24 := Lib.hid (S22.out.keep ((Below.refl _ _).drew.trans hb4)); have S14 := Lib.hid (S13.out.keep ((Below.refl _ _).drew.trans hb4)); have c7 := S24.out.two.2; have c8 := R4.out.cells.2.2; clear hb4))
  obtain ⟨q0, q1, q2⟩ := R4.out.cells
  have k3 := S14.out.two.2
  go_wp2_with (first | (go_at_call 117; (with_reducible refine (H5.out _).mono ?_); rintro en w5 ⟨rfl, hb5⟩; have R5 := Lib.hid (R4.out.keep hb5); obtain ⟨m0, m1, m2⟩ := R5.out.cells; clear hb5) | (go_at_call 110; (with_reducible refine (H6.out _).mono ?_); rintro en w9 ⟨rfl, hb9⟩; have B9 := Lib.hid (R5.out.be.trans (hb9.mono R5.out.be.size)); clear hb9))
  all_goals (go_ret2; exact ⟨rfl, B9.out⟩)
/-- an item's bits, as the program reckons them -/
def rbits (l h k : Nat) (star : Bool) : Int := bits .or .u64 (gbits l h k) (if star = true ∧ k ≤ 1 then 9223372036854775808 else 0)
def ib (kind : Nat) (L : Bs) : Int := match item kind L with
  | some (l, h, k, s) => rbits l h k s
  | none => 0
theorem fin_some {kind l h k : Nat} {s : Bool} {r : Nat × Nat × Nat × Bool} (hf : fin kind l h k s = some r) : r = (l, h, k, s) ∧ low kind ≤ l ∧ h ≤ high kind ∧ l ≤ h := by
  unfold fin at hf
  split at hf
  · rename_i hc
    injection hf with hf
    exact ⟨hf.symm, hc⟩
  · cases hf
theorem ends_some {kind : Nat} {e : Bs} {r : Nat × Nat × Bool × Bool} (h : ends kind e = some r) :
    (∃ p, pieces 45 e = [p] ∧ (p = [42] ∨ p = [63]) ∧ r = (low kind, high kind, true, true)) ∨ (∃ p v, pieces 45 e = [p] ∧ (p ≠ [42] ∧ p ≠ [63]) ∧ value kind p = some v ∧ r = (v, v, false, true)) ∨
    ∃ p q v u, pieces 45 e = [p, q] ∧ (p ≠ [42] ∧ p ≠ [63]) ∧ value kind p = some v ∧ value kind q = some u ∧ r = (v, u, false, false) := by
  unfold ends at h
  split at h
  · rename_i p hp
    split at h
    · rename_i hs
      injection h with h
      refine .inl ⟨p, hp, ?_, h.symm⟩
      rcases hs with h | h
      · exact .inl h
      · exact .inr h.1
    · rename_i hs
      split at h
      · cases h
      · rename_i hq
        rw [Option.map_eq_some_iff] at h
        obtain ⟨v, hv, hr⟩ := h
        exact .inr (.inl ⟨p, v, hp, ⟨fun e => hs (.inl e), hq⟩, hv, hr.symm⟩)
  · rename_i p q hp
    split at h
    · cases h
    · rename_i hs
      split at h
      · rename_i v u hv hu
        injection h with h
        exact .inr (.inr ⟨p, q, v, u, hp, ⟨fun e => hs (.inl e), fun e => hs (.inr e)⟩, hv, hu, h.symm⟩)
      · cases h
  · cases h
theorem step_some {s : Bs} {k : Nat} (h : stepL s = some k) : k = numv s ∧ (isNum s = true ∧ 0 < numv s ∧ numv s < 1099511627776) := by
  unfold stepL at h
  split at h
  · rename_i hc
    injection h with h
    exact ⟨h.symm, hc⟩
  · cases h
theorem tRange (kind : Nat) (a : ByteArray) (hs : a.size < 1000000000000) (w : World) (nm : Value) (hn : NMap kind w nm) (hit : (item kind (tx a)).isSome = true) :
    Calls Tryz.prog 94 #[.string a, .agg #[.int .u64 (low kind), .int .u64 (high kind), nm]] w fun e w' => e = .returned (.tuple #[.int .u64 (ib kind (tx a)), .nilIface]) ∧ Below w.heap.size w w' := by
  have hh := (high_le kind).1
  obtain ⟨r, hr⟩ := Option.isSome_iff_exists.1 hit
  unfold ib
  rw [hr]
  unfold item at hr
  split at hr
  · rename_i e he
    split at hr
    · rename_i l h st one hen
      obtain ⟨rfl, b1, b2, b3⟩ := fin_some hr
      rcases ends_some hen with ⟨p, hp, hst, hq⟩ | ⟨p, v, hp, hns, hv, hq⟩ | ⟨p, q, v, u, hp, hns, hv, hu, hq⟩
      · cases hq
        rcases hst with hst | hst
        · have := tR_star42_no kind a hs w nm _ _ hh hn e p he hp hst b1 b2 b3
          simpa [rbits] using this
        · have := tR_star63_no kind a hs w nm _ _ hh hn e p he hp hst b1 b2 b3
          simpa [rbits] using this
      · cases hq
        have := tR_one_no kind a hs w nm _ _ hh hn e p he hp hns _ hv b1 b2 b3
        simpa [rbits] using this
      · cases hq
        have := tR_two_no kind a hs w nm _ _ hh hn e p q he hp hns _ hv _ hu b1 b2 b3
        simpa [rbits] using this
    · cases hr
  · rename_i e s he
    split at hr
    · rename_i l h st one k hen hst
      obtain ⟨rfl, b1, b2, b3⟩ := fin_some hr
      obtain ⟨rfl, hk⟩ := step_some hst
      rcases ends_some hen with ⟨p, hp, hst, hq⟩ | ⟨p, v, hp, hns, hv, hq⟩ | ⟨p, q, v, u, hp, hns, hv, hu, hq⟩
      · cases hq
        rcases hst with hst | hst
        · have := tR_star42_yes kind a hs w nm _ _ hh hn e p s he hp hst hk b1 b2 b3
          simpa [rbits] using this
        · have := tR_star63_yes kind a hs w nm _ _ hh hn e p s he hp hst hk b1 b2 b3
          simpa [rbits] using this
      · cases hq
        have := tR_one_yes kind a hs w nm _ _ hh hn e p s he hp hns _ hv hk b1 b2 b3
        simpa [rbits] using this
      · cases hq
        have := tR_two_yes kind a hs w nm _ _ hh hn e p s q he hp hns _ hv _ hu hk b1 b2 b3
        simpa [rbits] using this
    · cases hr
  · cases hr
end Go.Proofs.YtjmgebhjkbcpcaaGreatDoor.Txt
end
section
set_option linter.unusedVariables false
set_option linter.unusedSimpArgs false
/- strings.FieldsFunc at a comma is pieces without the empty ones -/
namespace Go.Proofs.YtjmgebhjkbcpcaaGreatDoor.Txt
open Go Go.RowKit
def comma (n : Nat) : Bool := n == 44
def ne (l : Bs) : Bool := !l.isEmpty
def spt (s : ByteArray) (acc : List (Nat × Nat)) : List Bs := acc.map fun x => tx (s.extract x.1 x.2)
theorem spans_eq (s : ByteArray) (ha : ∀ x ∈ tx s, x < 128) : ∀ (m pos f : Nat) (st : Option Nat) (acc : List (Nat × Nat)), s.size - pos = m → pos ≤ s.size → m ≤ f → (∀ a, st = some a → a < pos) →
    spt s (Lib.closeSpans s (Lib.spansFromP comma s f pos st acc)) = spt s acc ++ (match st with
      | none => (pieces 44 ((tx s).drop pos)).filter ne
      | some a => (((tx s).drop a).take (pos - a) ++ (pieces 44 ((tx s).drop pos)).headD []) :: ((pieces 44 ((tx s).drop pos)).tail).filter ne) := by
  intro m
  induction m with
  | zero =>
    intro pos f st acc hm hp hf hst
    have e : pos = s.size := by omega
    subst e
    have hd : (tx s).drop s.size = [] := List.drop_of_length_le (by rw [tx_len]; exact Nat.le_refl _)
    rw [Lib.spansFromP_end _ _ _ _ _ _ (by omega), hd]
    unfold Lib.closeSpans
    cases st with
    | none => simp [pieces, ne]
    | some a =>
      have := hst a rfl
      have e1 : tx (s.extract a s.size) = ((tx s).drop a).take (s.size - a) := tx_extract _ _ _
      simp [spt, pieces, e1]
  | succ m ih =>
    intro pos f st acc hm hp hf hst
    obtain ⟨f, rfl⟩ : ∃ j, f = j + 1 := ⟨f - 1, by omega⟩
    have hlt : pos < s.size := by omega
    have hc : s[pos] < 128 := ha _ (List.getElem_mem (l := tx s) (by rw [tx_len]; exact hlt))
    have hdec := decode_ascii s pos hlt hc
    have hd := tx_drop hlt
    obtain ⟨c, hcc⟩ : ∃ c, s[pos] = c := ⟨_, rfl⟩
    rw [hcc] at hdec hd hc
    unfold Lib.spansFromP
    rw [if_pos hlt, hdec]
    simp only
    rw [hd, pieces_cons]
    by_cases e : c = 44
    · have hcm : comma c.toNat = true := by rw [e]; rfl
      rw [if_pos hcm, if_pos e]
      cases st with
      | none =>
        simp only
        rw [ih (pos + 1) f none acc (by omega) (by omega) (by omega) (fun a h => by cases h)]
        simp [ne]
      | some a =>
        simp only
        rw [ih (pos + 1) f none _ (by omega) (by omega) (by omega) (fun a h => by cases h)]
        have e1 : tx (s.extract a pos) = ((tx s).drop a).take (pos - a) := tx_extract _ _ _
        simp [spt, e1]
    · have hcm : comma c.toNat = false := by
        unfold comma
        rw [beq_eq_false_iff_ne]
        intro h
        exact e (UInt8.toNat_inj.1 h)
      rw [hcm, if_neg e]
      simp only [Bool.false_eq_true, if_false]
      cases st with
      | none =>
        simp only
        rw [ih (pos + 1) f (some pos) acc (by omega) (by omega) (by omega) (fun a h => by cases h; omega)]
        simp only
        rw [hd]
        have e1 : (c :: (tx s).drop (pos + 1)).take (pos + 1 - pos) = [c] := by
          rw [show pos + 1 - pos = 1 by omega]; rfl
        rw [e1]
        simp [ne]
      | some a =>
        simp only
        have hap := hst a rfl
        rw [ih (pos + 1) f (some a) acc (by omega) (by omega) (by omega) (fun b h => by cases h; omega)]
        simp only
        have e1 : ((tx s).drop a).take (pos + 1 - a) = ((tx s).drop a).take (pos - a) ++ [c] := by
          have hl : pos < (tx s).length := by rw [tx_len]; exact hlt
          have h2 : (tx s)[pos] = c := hcc
          rw [show pos + 1 - a = (pos - a) + 1 by omega, List.take_add_one, List.getElem?_drop, show a + (pos - a) = pos by omega, List.getElem?_eq_getElem hl, h2]
          rfl
        rw [e1]
        simp
theorem fields_eq (s : ByteArray) (ha : ∀ x ∈ tx s, x < 128) (hn : ∀ p ∈ pieces 44 (tx s), p ≠ []) : Lib.goFieldsP comma s = (pieces 44 (tx s)).map mk := by
  have h := spans_eq s ha s.size 0 s.size none [] (by omega) (by omega) (Nat.le_refl _) (fun a h => by cases h)
  simp only [List.drop_zero, spt, List.map_nil, List.nil_append] at h
  have hf : (pieces 44 (tx s)).filter ne = pieces 44 (tx s) := List.filter_eq_self.2 fun p hp => by
    have := hn p hp
    cases p with
    | nil => exact absurd rfl this
    | cons x xs => rfl
  rw [hf] at h
  have : (Lib.goFieldsP comma s).map tx = pieces 44 (tx s) := by
    unfold Lib.goFieldsP Lib.spansOfP
    rw [List.map_map]
    exact h
  exact eq_mk this
end Go.Proofs.YtjmgebhjkbcpcaaGreatDoor.Txt
end
section
set_option linter.unusedVariables false
set_option linter.unusedSimpArgs false
namespace Go.Proofs.YtjmgebhjkbcpcaaGreatDoor.Txt
open Go.Proofs.YtjmgebhjkbcpcaaGreatDoor.NM
open Go Go.RowKit Go.MapKept Go.Proofs.YtjmgebhjkbcpcaaGreatDoorW.PrintWords
set_option maxRecDepth 100000
theorem tComma (w : World) : PredAt Tryz.prog 93 #[] encR comma w := fun W x _ => by
  unfold FnGives
  rw [Array.append_empty]
  have hq : ((x : Int) == 44) = comma x := by
    unfold comma
    cases h : x == 44 with
    | true => simp at h; simp [h]
    | false => simp at h; simp; omega
  have HQ := Lib.hid hq
  clear hq
  go_enter Tryz.func93, Tryz.ntmps93
  go_wp2
  go_ret
  exact ⟨by rw [← HQ.out]; rfl, 0, rfl⟩
theorem tFF (a : ByteArray) (hs : a.size < 1000000000) (ha : ∀ x ∈ tx a, x < 128) (hn : ∀ p ∈ pieces 44 (tx a), p ≠ []) (w : World) :
    Calls Tryz.prog 92 #[.string a, .func (.func 93) #[] #[]] w fun e w' => ∃ g, e = .returned (.slice (some ⟨g, 0, none⟩) (pieces 44 (tx a)).length (pieces 44 (tx a)).length) ∧ w.heap.size ≤ g ∧ Strs w' g ((pieces 44 (tx a)).map mk) ∧ Below w.heap.size w w' := by
  have h := Tryz.strings_FieldsFunc 93 #[] (enters_of Tryz.func93 (by kernel_rfl) rfl) comma a w (by omega) (tComma w)
  rw [fields_eq a ha hn, List.length_map] at h
  refine h.mono ?_
  rintro e w' ⟨g, rfl, hg, hown, hb⟩
  refine ⟨g, rfl, hg, ?_, hb⟩
  rcases hown.2 with ⟨h1, h2⟩ | ⟨g', cap, cur, h1, h2, h3, h4, h5, h6, h7⟩
  · cases h1
  · injection h1 with h1 h8 h9
    injection h1 with h1
    injection h1 with h1
    subst h1
    refine ⟨cur, h3, fun i hi => ?_⟩
    rw [Nat.mul_one] at h7
    have hi' : i < (pieces 44 (tx a)).length := by rw [List.length_map] at hi; exact hi
    have e1 : (cur.toList.take (pieces 44 (tx a)).length)[i]? = cur.toList[i]? := List.getElem?_take_of_lt hi'
    rw [h7] at e1
    rw [← Array.getElem?_toList, ← e1]
    simp [hi']
/-- a field's bits, as the program reckons them -/
def fbL (kind : Nat) (ps : List Bs) : Int := ps.foldl (fun b p => bits .or .u64 b (ib kind p)) 0
def fb (kind : Nat) (L : Bs) : Int := fbL kind (pieces 44 L)
theorem fbL_snoc (kind : Nat) (ps : List Bs) (p : Bs) : fbL kind (ps ++ [p]) = bits .or .u64 (fbL kind ps) (ib kind p) := by
  unfold fbL
  rw [List.foldl_append]; rfl
theorem fbL_u64 (kind : Nat) (ps : List Bs) : U64 (fbL kind ps) := by
  unfold fbL
  have : ∀ (ps : List Bs) (b : Int), U64 b → U64 (ps.foldl (fun b p => bits .or .u64 b (ib kind p)) b) := by
    intro ps
    induction ps with
    | nil => intro b h; exact h
    | cons p r ih => intro b h; exact ih _ (bits_u64 _ _ _)
  exact this ps 0 ⟨by decide, by decide⟩
structure GS (w : World) (g : Nat) (lo hi : Nat) (nm : Value) (kind : Nat) (TT : List ByteArray) (wr : World) : Prop where
  rs : RS w lo hi nm kind wr
  st : Strs wr g TT
theorem GS.keep {w : World} {g lo hi : Nat} {nm : Value} {kind : Nat} {TT : List ByteArray} {wr w' : World} (h : GS w g lo hi nm kind TT wr) (hb : Below wr.heap.size wr w') : GS w g lo hi nm kind TT w' := ⟨h.rs.keep hb, h.st.keep hb⟩
set_option maxHeartbeats 1000000 in
theorem tGet (kind : Nat) (a : ByteArray) (hs : a.size < 1000000000) (hF : FF kind (tx a)) (w : World) (nm : Value) (hn : NMap kind w nm) :
    Calls Tryz.prog 52 #[.string a, .agg #[.int .u64 (low kind), .int .u64 (high kind), nm]] w fun e w' => e = .returned (.tuple #[.int .u64 (fb kind (tx a)), .nilIface]) ∧ Below w.heap.size w w' := by
  have hR : RS w (low kind) (high kind) nm kind (w.alloc (.cells #[.int .u64 (low kind), .int .u64 (high kind), nm] 117)) := ⟨heap_alloc_new _ _, hn.below (bA (Below.refl _ _) _), bA (Below.refl _ _) _⟩
  have hasc : ∀ x ∈ tx a, x < 128 := fun x hx => (okLetter_facts x (FF_ok hF x hx)).2.2.2
  have hne : ∀ p ∈ pieces 44 (tx a), p ≠ [] := fun p hp e => by have := hF p hp; rw [e, item_nil] at this; cases this
  have hff := fun w => tFF a hs hasc hne w
  have hpl : ∀ p ∈ pieces 44 (tx a), p.length ≤ a.size := fun p hp => by have := pieces_len hp; rw [tx_len] at this; exact this
  have hbig := pieces_many 44 (tx a)
  rw [tx_len] at hbig
  have hr := fun p (hp : p ∈ pieces 44 (tx a)) w (hn : NMap kind w nm) => tRange kind (mk p) (by rw [mk_size]; have := hpl p hp; omega) w nm hn (by rw [tx_mk]; exact hF p hp)
  unfold fb
  obtain ⟨T, hT⟩ : ∃ T, pieces 44 (tx a) = T := ⟨_, rfl⟩
  rw [hT] at hff hr hbig ⊢
  obtain ⟨lo, hlo⟩ : ∃ lo : Nat, low kind = lo := ⟨_, rfl⟩
  obtain ⟨hi, hhi⟩ : ∃ hi : Nat, high kind = hi := ⟨_, rfl⟩
  rw [hlo, hhi] at hR hr ⊢
  have R0 := Lib.hid hR
  have HFF := Lib.hid hff
  have HR := Lib.hid hr
  have HB := Lib.hid hbig
  clear hR hff hr hpl hne hasc hF hlo hhi hn hT hbig
  go_enter Tryz.func52, Tryz.ntmps52
  go_upto_region 4 with (go_at_call 92; (with_reducible refine (HFF.out _).mono ?_); rintro e w1 ⟨g, rfl, hg, hst, hb1⟩; have G1 : Hid (GS w g lo hi nm kind (T.map mk) w1) := Lib.hid ⟨R0.out.keep hb1, hst⟩; clear hst hb1 hg)
  go_loopw [16, 6] (fun i b wr => ∃ (n : Nat), i = .int .i64 n ∧ b = .int .u64 (fbL kind (T.take n)) ∧ Aside0 (n ≤ T.length) ∧ Aside0 (GS w g lo hi nm kind (T.map mk) wr)) (fun i _ _ => 2000000000000 - (intOf i).toNat)
  case atStart => exact ⟨0, rfl, rfl, ⟨Nat.zero_le _⟩, ⟨G1.out⟩⟩
  case round =>
    obtain ⟨n, rfl, rfl, HN, HG⟩ := hrel
    by_cases cn : n < T.length
    · have ct : decide ((n : Int) < (T.length : Int)) = true := decide_eq_true (by omega)
      have hlt : (n : Int) < (T.length : Int) := by omega
      have hbn : (n : Int) < 1099511627776 := by have := HB.out; omega
      have c1 := HG.out.st.cell n (by rw [List.length_map]; exact cn)
      rw [List.getElem_map] at c1
      obtain ⟨p, hp⟩ : ∃ p, T[n] = p := ⟨_, rfl⟩
      rw [hp] at c1
      have hmem : p ∈ T := by rw [← hp]; exact List.getElem_mem cn
      have htk : fbL kind (T.take (n + 1)) = bits .or .u64 (fbL kind (T.take n)) (ib kind p) := by
        rw [List.take_add_one, List.getElem?_eq_getElem cn, hp]
        exact fbL_snoc _ _ _
      have HM := Lib.hid hmem
      have HK := Lib.hid htk
      obtain ⟨b, hb⟩ : ∃ b, fbL kind (T.take n) = b := ⟨_, rfl⟩
      rw [hb] at HK
      have HBB := Lib.hid hb
      obtain ⟨d, hd⟩ : ∃ d, ib kind p = d := ⟨_, rfl⟩
      have hrp := HR.out p hmem
      rw [tx_mk, hd] at hrp
      rw [hd] at HK
      have HRP := Lib.hid hrp
      clear hp hmem htk hd hrp
      try rw [hb]
      clear hb
      obtain ⟨m0, m1, m2⟩ := HG.out.rs.cells
      go_wp2_with (first
        | (go_at_call 94; (with_reducible refine (HRP.out _ HG.out.rs.nm).mono ?_); rintro e w2 ⟨rfl, hb2⟩; have G2 := Lib.hid (HG.out.keep hb2); clear hb2))
      go_roundw
      case measure => simp [intOf]; omega
      case rel => exact ⟨n + 1, by go_num, by rw [HK.out], ⟨by omega⟩, ⟨G2.out⟩⟩
    · have ct : decide ((n : Int) < (T.length : Int)) = false := decide_eq_false (by omega)
      have e : T.take n = T := List.take_of_length_le (by omega)
      obtain ⟨b, hb⟩ : ∃ b, fbL kind (T.take n) = b := ⟨_, rfl⟩
      have HBB := Lib.hid (show fbL kind T = b by rw [← e]; exact hb)
      try rw [hb]
      clear hb e
      go_wp2
      go_ret2
      exact ⟨by rw [HBB.out]; rfl, HG.out.rs.be⟩
end Go.Proofs.YtjmgebhjkbcpcaaGreatDoor.Txt
end
section
set_option linter.unusedVariables false
set_option linter.unusedSimpArgs false
namespace Go.Proofs.YtjmgebhjkbcpcaaGreatDoor.Txt
open Go.Proofs.YtjmgebhjkbcpcaaGreatDoor.NM
open Go Go.RowKit Go.Proofs.YtjmgebhjkbcpcaaGreatDoorW.PrintWords Go.Proofs.YtjmgebhjkbcpcaaGreatDoor.PParseCron
set_option maxRecDepth 100000
theorem space_f (x : UInt8) (h : x < 128) : cron_zzSpace.f (x.toNat : Int) = some (blank x) := by
  have key : ∀ n : Fin 256, UInt8.ofNat n.val < 128 → cron_zzSpace.f ((UInt8.ofNat n.val).toNat : Int) = some (blank (UInt8.ofNat n.val)) := by decide +kernel
  have := key ⟨x.toNat, x.toNat_lt⟩
  simp only [UInt8.ofNat_toNat] at this
  exact this h
theorem drawn_below {w w' : World} (h : Drawn0 w w') : Below w.heap.size w w' := by
  obtain ⟨m, rfl⟩ := h
  exact pw_below_drewN (Below.refl _ _) _
theorem tSpace (x : UInt8) (h : x < 128) (w : World) : Calls Tryz.prog 86 #[.int .i32 x.toNat] w fun e w' => e = .returned (.bool (blank x)) ∧ Below w.heap.size w w' :=
  (cron_zzSpace.calls _ _ w (space_f x h)).mono fun e w' h => ⟨h.1, drawn_below h.2⟩
/-- how far the trimming scan has come -/
def TrimAt (l : Bs) (f t : Int) : Prop := ∃ A M B, l = A ++ M ++ B ∧ (∀ x ∈ A, blank x = true) ∧ (∀ x ∈ B, blank x = true) ∧
  ((M = [] ∧ f = -1 ∧ t = 0 ∧ B = []) ∨ (f = A.length ∧ t = A.length + M.length ∧ (∃ m M', M = m :: M' ∧ blank m = false) ∧ (∃ M' m, M = M' ++ [m] ∧ blank m = false)))
theorem TrimAt.start : TrimAt [] (-1) 0 := ⟨[], [], [], rfl, by simp, by simp, .inl ⟨rfl, rfl, rfl, rfl⟩⟩
theorem TrimAt.blank {l : Bs} {f t : Int} (h : TrimAt l f t) {x : UInt8} (hx : blank x = true) : TrimAt (l ++ [x]) f t := by
  obtain ⟨A, M, B, rfl, hA, hB, h⟩ := h
  rcases h with ⟨rfl, rfl, rfl, rfl⟩ | ⟨h1, h2, h3, h4⟩
  · exact ⟨A ++ [x], [], [], by simp, by intro y hy; rcases List.mem_append.1 hy with hy | hy; exact hA y hy; simp at hy; rw [hy]; exact hx, by simp, .inl ⟨rfl, rfl, rfl, rfl⟩⟩
  · exact ⟨A, M, B ++ [x], by simp, hA, by intro y hy; rcases List.mem_append.1 hy with hy | hy; exact hB y hy; simp at hy; rw [hy]; exact hx, .inr ⟨h1, h2, h3, h4⟩⟩
theorem TrimAt.first {l : Bs} {f t : Int} (h : TrimAt l f t) {x : UInt8} (hx : Txt.blank x = false) (hf : f < 0) : TrimAt (l ++ [x]) l.length (l.length + 1) := by
  obtain ⟨A, M, B, rfl, hA, hB, h⟩ := h
  rcases h with ⟨rfl, rfl, rfl, rfl⟩ | ⟨h1, h2, h3, h4⟩
  · refine ⟨A, [x], [], by simp, hA, by simp, .inr ⟨by simp, by simp, ⟨x, [], rfl, hx⟩, ⟨[], x, rfl, hx⟩⟩⟩
  · omega
theorem TrimAt.next {l : Bs} {f t : Int} (h : TrimAt l f t) {x : UInt8} (hx : Txt.blank x = false) (hf : 0 ≤ f) : TrimAt (l ++ [x]) f (l.length + 1) := by
  obtain ⟨A, M, B, rfl, hA, hB, h⟩ := h
  rcases h with ⟨rfl, rfl, rfl, rfl⟩ | ⟨h1, h2, ⟨m, M', rfl, hm⟩, h4⟩
  · omega
  · refine ⟨A, m :: M' ++ B ++ [x], [], by simp, hA, by simp, .inr ⟨h1, by simp; omega, ⟨m, M' ++ B ++ [x], by simp, hm⟩, ⟨m :: M' ++ B, x, rfl, hx⟩⟩⟩
theorem TrimAt.bounds {l : Bs} {f t : Int} (h : TrimAt l f t) : -1 ≤ f ∧ f < l.length + 1 ∧ 0 ≤ t ∧ t ≤ l.length ∧ (0 ≤ f → f ≤ t) := by
  obtain ⟨A, M, B, rfl, hA, hB, h⟩ := h
  rcases h with ⟨rfl, rfl, rfl, rfl⟩ | ⟨h1, h2, h3, h4⟩
  · simp; omega
  · simp; omega
theorem dropWhile_all {p : UInt8 → Bool} : ∀ (A R : Bs), (∀ x ∈ A, p x = true) → (A ++ R).dropWhile p = R.dropWhile p
  | [], R, _ => rfl
  | a :: A, R, h => by
    rw [List.cons_append, List.dropWhile_cons, if_pos (h a (by simp))]
    exact dropWhile_all A R fun x hx => h x (by simp [hx])
theorem TrimAt.none {l : Bs} {f t : Int} (h : TrimAt l f t) (hf : f < 0) : trim l = [] := by
  obtain ⟨A, M, B, rfl, hA, hB, h⟩ := h
  rcases h with ⟨rfl, rfl, rfl, rfl⟩ | ⟨h1, h2, h3, h4⟩
  · unfold trim trimL
    rw [List.append_nil, dropWhile_all A [] hA]
    rfl
  · omega
theorem TrimAt.some {l : Bs} {f t : Int} (h : TrimAt l f t) (hf : 0 ≤ f) : trim l = (l.drop f.toNat).take (t.toNat - f.toNat) := by
  obtain ⟨A, M, B, rfl, hA, hB, h⟩ := h
  rcases h with ⟨rfl, rfl, rfl, rfl⟩ | ⟨h1, h2, ⟨m, M', e1, hm⟩, ⟨M2, m2, e2, hm2⟩⟩
  · omega
  · have e : trim (A ++ M ++ B) = M := by
      unfold trim trimL
      rw [List.append_assoc, dropWhile_all A _ hA]
      have : (M ++ B).dropWhile Txt.blank = M ++ B := by rw [e1, List.cons_append, List.dropWhile_cons, if_neg (by rw [hm]; simp)]
      rw [this, List.reverse_append, dropWhile_all _ _ (fun x hx => hB x (List.mem_reverse.1 hx))]
      have : M.reverse.dropWhile Txt.blank = M.reverse := by rw [e2, List.reverse_append]; simp [List.dropWhile_cons, hm2]
      rw [this, List.reverse_reverse]
    rw [e, h1, h2]
    have a1 : ((A.length : Int)).toNat = A.length := by omega
    have a2 : ((A.length : Int) + (M.length : Int)).toNat - A.length = M.length := by omega
    rw [a1, a2, List.append_assoc, List.drop_left, List.take_left]
theorem tTrimG (a : ByteArray) (ha : ∀ x ∈ tx a, x < 128) (hs : a.size < 1099511627776) (w : World) :
    Calls Tryz.prog 47 #[.string a] w fun e w' => e = .returned (.string (mk (trim (tx a)))) ∧ Below w.heap.size w w' := by
  have HA := Lib.hid ha
  have hdec := Tryz.utf8_DecodeRuneInString_ascii
  have HD := Lib.hid hdec
  clear ha hdec
  go_enter Tryz.func47, Tryz.ntmps47
  go_wp2
  go_loopw [3, 4, 5] (fun fv tv iv wr => ∃ (f t : Int) (n : Nat), fv = .int .i64 f ∧ tv = .int .i64 t ∧ iv = .int .i64 n ∧ Aside0 (n ≤ a.size) ∧ Aside0 (TrimAt ((tx a).take n) f t) ∧ Aside0 (Below w.heap.size w wr)) (fun _ _ iv _ => 2000000000000 - (intOf iv).toNat)
  case atStart => exact ⟨-1, 0, 0, rfl, rfl, rfl, ⟨Nat.zero_le _⟩, ⟨TrimAt.start⟩, ⟨Below.refl _ _⟩⟩
  case round =>
    obtain ⟨f, t, n, rfl, rfl, rfl, HN, HT, HB⟩ := hrel
    have hlen : (((tx a).take n).length : Int) = n := by rw [List.length_take, tx_len]; have := HN.out; omega
    have hbd := HT.out.bounds
    rw [hlen] at hbd
    obtain ⟨b1, b2, b3, b4, b5⟩ := hbd
    by_cases hlt : n < a.size
    · have c1 : decide ((n : Int) < (a.size : Int)) = true := decide_eq_true (by omega)
      obtain ⟨c, hc⟩ : ∃ c, a[n] = c := ⟨_, rfl⟩
      have hc128 : c < 128 := by rw [← hc]; exact HA.out _ (List.getElem_mem (l := tx a) (by rw [tx_len]; exact hlt))
      have htk : (tx a).take (n + 1) = (tx a).take n ++ [c] := by
        have : (tx a)[n]? = some c := by rw [List.getElem?_eq_getElem (by rw [tx_len]; exact hlt)]; exact congrArg some hc
        rw [List.take_add_one, this]; rfl
      have h0 : (a.extract n a.size).data.toList[0]? = some c := by
        show (tx (a.extract n a.size))[0]? = some c
        rw [tx_all, tx_drop hlt, hc]; rfl
      have hd := fun w => HD.out (a.extract n a.size) c w h0 hc128
      have hsp := fun w => tSpace c hc128 w
      have HDD := Lib.hid hd
      have HSP := Lib.hid hsp
      have HTK := Lib.hid htk
      have HL := Lib.hid hlen
      have hnb : (n : Int) < 1099511627776 := by omega
      have hn0 : (0 : Int) ≤ (n : Int) := by omega
      have hna : (n : Int) ≤ (a.size : Int) := by omega
      clear hd hsp htk h0 hc hc128 hlen
      cases hb : blank c with
      | true =>
        rw [hb] at HSP
        have HBL := Lib.hid hb
        clear hb
        go_wp2_with (first
          | (go_at_call 85; (with_reducible refine (HDD.out _).mono ?_); rintro e w1 ⟨rfl, rfl⟩)
          | (go_at_call 86; (with_reducible refine (HSP.out _).mono ?_); rintro e w1 ⟨rfl, hb1⟩))
        go_roundw
        case measure => simp [intOf]; omega
        case rel => exact ⟨f, t, n + 1, rfl, rfl, by go_num, ⟨by omega⟩, ⟨by rw [HTK.out]; exact HT.out.blank HBL.out⟩, ⟨HB.out.trans (hb1.mono HB.out.size)⟩⟩
      | false =>
        rw [hb] at HSP
        have HBL := Lib.hid hb
        clear hb
        by_cases cf : f < 0
        · have c2 : decide (f < 0) = true := decide_eq_true cf
          go_wp2_with (first
            | (go_at_call 85; (with_reducible refine (HDD.out _).mono ?_); rintro e w1 ⟨rfl, rfl⟩)
            | (go_at_call 86; (with_reducible refine (HSP.out _).mono ?_); rintro e w1 ⟨rfl, hb1⟩))
          go_roundw
          case measure => simp [intOf]; omega
          case rel => exact ⟨n, n + 1, n + 1, rfl, by go_num, by go_num, ⟨by omega⟩, ⟨by rw [HTK.out]; have := HT.out.first HBL.out cf; rw [HL.out] at this; exact this⟩, ⟨HB.out.trans (hb1.mono HB.out.size)⟩⟩
        · have c2 : decide (f < 0) = false := decide_eq_false cf
          go_wp2_with (first
            | (go_at_call 85; (with_reducible refine (HDD.out _).mono ?_); rintro e w1 ⟨rfl, rfl⟩)
            | (go_at_call 86; (with_reducible refine (HSP.out _).mono ?_); rintro e w1 ⟨rfl, hb1⟩))
          go_roundw
          case measure => simp [intOf]; omega
          case rel => exact ⟨f, n + 1, n + 1, rfl, by go_num, by go_num, ⟨by omega⟩, ⟨by rw [HTK.out]; have := HT.out.next HBL.out (by omega); rw [HL.out] at this; exact this⟩, ⟨HB.out.trans (hb1.mono HB.out.size)⟩⟩
    · have c1 : decide ((n : Int) < (a.size : Int)) = false := decide_eq_false (by omega)
      have e : (tx a).take n = tx a := List.take_of_length_le (by rw [tx_len]; omega)
      have ht := HT.out
      rw [e] at ht
      have HTT := Lib.hid ht
      clear ht e
      by_cases cf : f < 0
      · have c2 : decide (f < 0) = true := decide_eq_true cf
        go_wp2
        go_ret
        exact ⟨by rw [HTT.out.none cf]; rfl, HB.out⟩
      · have c2 : decide (f < 0) = false := decide_eq_false cf
        have hf0 : 0 ≤ f := by omega
        have hft : f ≤ t := by omega
        have hta : t ≤ (a.size : Int) := by have := HN.out; omega
        have hx : mk (trim (tx a)) = a.extract f.toNat t.toNat := tx_inj (by rw [tx_mk, HTT.out.some hf0, tx_extract])
        have HX := Lib.hid hx
        clear hx
        go_wp2
        go_ret
        exact ⟨by rw [HX.out]; rfl, HB.out⟩
end Go.Proofs.YtjmgebhjkbcpcaaGreatDoor.Txt
end
section
set_option linter.unusedVariables false
set_option linter.unusedSimpArgs false
namespace Go.Proofs.YtjmgebhjkbcpcaaGreatDoor.Txt
open Go.Proofs.YtjmgebhjkbcpcaaGreatDoor.NM
open Go Go.RowKit Go.Lib Go.Proofs.YtjmgebhjkbcpcaaGreatDoorW.PrintWords
set_option maxRecDepth 100000
/-- how far the scan for words has come -/
def WAt (l : Bs) (acc : List Bs) (f : Int) : Prop := ∃ cur R, l = R ++ cur ∧ (∀ x ∈ cur, blank x = false) ∧ (R = [] ∨ ∃ R' b, R = R' ++ [b] ∧ blank b = true) ∧ words R = acc ∧ ((cur = [] ∧ f = -1) ∨ (cur ≠ [] ∧ f = R.length))
theorem words_all {cur : Bs} (h : ∀ x ∈ cur, blank x = false) (hne : cur ≠ []) : words cur = [cur] := by
  have : wd cur = (cur ++ [], []) := scan_word cur h ([], [])
  unfold words out
  rw [this]
  simp [opt, hne]
theorem words_cur {R cur : Bs} (h : ∀ x ∈ cur, blank x = false) (hne : cur ≠ []) (hR : R = [] ∨ ∃ R' b, R = R' ++ [b] ∧ blank b = true) : words (R ++ cur) = words R ++ [cur] := by
  rcases hR with rfl | ⟨R', b, rfl, hb⟩
  · rw [List.nil_append, words_all h hne]; rfl
  · rw [List.append_assoc, List.singleton_append, words_blank _ _ _ hb, words_snoc _ _ hb, words_all h hne]
theorem WAt.start : WAt [] [] (-1) := ⟨[], [], rfl, by simp, .inl rfl, rfl, .inl ⟨rfl, rfl⟩⟩
theorem WAt.skip {l : Bs} {acc : List Bs} {f : Int} (h : WAt l acc f) {x : UInt8} (hx : blank x = true) (hf : f < 0) : WAt (l ++ [x]) acc f := by
  obtain ⟨cur, R, rfl, hc, hR, hw, h⟩ := h
  rcases h with ⟨rfl, rfl⟩ | ⟨h1, h2⟩
  · refine ⟨[], R ++ [x], by simp, by simp, .inr ⟨R, x, rfl, hx⟩, by rw [words_snoc _ _ hx]; exact hw, .inl ⟨rfl, rfl⟩⟩
  · omega
theorem WAt.close {l : Bs} {acc : List Bs} {f : Int} (h : WAt l acc f) {x : UInt8} (hx : blank x = true) (hf : 0 ≤ f) : WAt (l ++ [x]) (acc ++ [l.drop f.toNat]) (-1) := by
  obtain ⟨cur, R, rfl, hc, hR, hw, h⟩ := h
  rcases h with ⟨rfl, rfl⟩ | ⟨h1, h2⟩
  · omega
  · refine ⟨[], R ++ cur ++ [x], by simp, by simp, .inr ⟨_, x, rfl, hx⟩, ?_, .inl ⟨rfl, rfl⟩⟩
    rw [words_snoc _ _ hx, words_cur hc h1 hR, hw, h2]
    simp
theorem WAt.first {l : Bs} {acc : List Bs} {f : Int} (h : WAt l acc f) {x : UInt8} (hx : blank x = false) (hf : f < 0) : WAt (l ++ [x]) acc l.length := by
  obtain ⟨cur, R, rfl, hc, hR, hw, h⟩ := h
  rcases h with ⟨rfl, rfl⟩ | ⟨h1, h2⟩
  · exact ⟨[x], R, by simp, by simpa using hx, hR, hw, .inr ⟨by simp, by simp⟩⟩
  · omega
theorem WAt.next {l : Bs} {acc : List Bs} {f : Int} (h : WAt l acc f) {x : UInt8} (hx : blank x = false) (hf : 0 ≤ f) : WAt (l ++ [x]) acc f := by
  obtain ⟨cur, R, rfl, hc, hR, hw, h⟩ := h
  rcases h with ⟨rfl, rfl⟩ | ⟨h1, h2⟩
  · omega
  · refine ⟨cur ++ [x], R, by simp, ?_, hR, hw, .inr ⟨by simp, h2⟩⟩
    intro y hy
    rcases List.mem_append.1 hy with hy | hy
    · exact hc y hy
    · simp at hy; rw [hy]; exact hx
theorem WAt.le {l : Bs} {acc : List Bs} {f : Int} (h : WAt l acc f) : -1 ≤ f ∧ (0 ≤ f → f < l.length) := by
  obtain ⟨cur, R, rfl, hc, hR, hw, h⟩ := h
  rcases h with ⟨rfl, rfl⟩ | ⟨h1, h2⟩
  · simp
  · have := List.length_pos_iff.2 h1
    simp; omega
theorem words_count : ∀ l : Bs, (wd l).2.length + (opt (wd l).1).length ≤ l.length := by
  intro l
  induction l with
  | nil => simp [wd, opt]
  | cons x xs ih =>
    show (st x (wd xs)).2.length + (opt (st x (wd xs)).1).length ≤ _
    cases hb : blank x with
    | true =>
      rw [st_blank hb]
      have : (out (wd xs)).length = (wd xs).2.length + (opt (wd xs).1).length := by unfold out; rw [List.length_append]; omega
      simp only [this]
      simp [opt] at ih ⊢; omega
    | false =>
      rw [st_word hb]
      have : (opt (x :: (wd xs).1)).length = 1 := by simp [opt]
      simp only [this]
      simp; omega
theorem words_le (l : Bs) : (words l).length ≤ l.length := by
  have := words_count l
  unfold words out
  rw [List.length_append]; omega
theorem WAt.count {l : Bs} {acc : List Bs} {f : Int} (h : WAt l acc f) : acc.length ≤ l.length := by
  obtain ⟨cur, R, rfl, hc, hR, hw, h⟩ := h
  have := words_le R
  rw [hw] at this
  simp; omega
theorem WAt.fin0 {l : Bs} {acc : List Bs} {f : Int} (h : WAt l acc f) (hf : f < 0) : words l = acc := by
  obtain ⟨cur, R, rfl, hc, hR, hw, h⟩ := h
  rcases h with ⟨rfl, rfl⟩ | ⟨h1, h2⟩
  · rw [List.append_nil]; exact hw
  · omega
theorem WAt.fin1 {l : Bs} {acc : List Bs} {f : Int} (h : WAt l acc f) (hf : 0 ≤ f) : words l = acc ++ [l.drop f.toNat] := by
  obtain ⟨cur, R, rfl, hc, hR, hw, h⟩ := h
  rcases h with ⟨rfl, rfl⟩ | ⟨h1, h2⟩
  · omega
  · rw [words_cur hc h1 hR, hw, h2]; simp
theorem info9 : (Tryz.prog.info? 9).map (fun i => (i.zero, i.size, i.bytes)) = some (some (.string ⟨#[]⟩), 1, 16) := by kernel_rfl
def sv (l : List Bs) : List Value := l.map fun p => .string (mk p)
theorem Strs.of_own {w : World} {base g c n : Nat} {ps : List Bs} (h : w.ownsRow base 9 1 (.slice (some ⟨g, 0, none⟩) n c) n (sv ps)) (hn : ps.length = n) : Strs w g (ps.map mk) := by
  rcases h.2 with ⟨h1, h2⟩ | ⟨g', cap, cur, h1, h2, h3, h4, h5, h6, h7⟩
  · cases h1
  · injection h1 with h1 h8 h9
    injection h1 with h1
    injection h1 with h1
    subst h1
    refine ⟨cur, h3, fun i hi => ?_⟩
    rw [List.length_map] at hi
    have e1 : (cur.toList.take (n * 1))[i]? = cur.toList[i]? := List.getElem?_take_of_lt (by omega)
    rw [h7] at e1
    rw [← Array.getElem?_toList, ← e1]
    simp [sv, hi]
end Go.Proofs.YtjmgebhjkbcpcaaGreatDoor.Txt
end
