/- the month loop of SpecSchedule.Next. -/
import Derived.Test.YtjmgebhjkbcpcaaNB
import Derived.Deep.RegionWith
import Derived.Deep.DeepCutAuto
import Derived.Test.YtjmgebhjkbcpcaaNA
import Derived.Deep.RegionHeld3
import Derived.Deep.CutRange
set_option linter.unusedVariables false
set_option linter.unusedSimpArgs false
namespace Go.Proofs.Ytjmgebhjkbcpcaa.NM
open Go.RowKit Cal
structure Sets where
  se : Int
  mi : Int
  ho : Int
  dom : Int
  mon : Int
  dow : Int
structure SpecAt (w : World) (b : Nat) (S : Sets) : Prop where
  c0 : w.cell? ⟨b, 0, none⟩ = some (.int .u64 S.se)
  c1 : w.cell? ⟨b, 1, none⟩ = some (.int .u64 S.mi)
  c2 : w.cell? ⟨b, 2, none⟩ = some (.int .u64 S.ho)
  c3 : w.cell? ⟨b, 3, none⟩ = some (.int .u64 S.dom)
  c4 : w.cell? ⟨b, 4, none⟩ = some (.int .u64 S.mon)
  c5 : w.cell? ⟨b, 5, none⟩ = some (.int .u64 S.dow)
  c6 : w.cell? ⟨b, 6, none⟩ = some (.pointer none)
theorem SpecAt.below {w W : World} {b : Nat} {S : Sets} (h : SpecAt w b S) (hb : Below w.heap.size w W) : SpecAt W b S :=
  ⟨keep hb h.c0, keep hb h.c1, keep hb h.c2, keep hb h.c3, keep hb h.c4, keep hb h.c5, keep hb h.c6⟩
theorem ret_bool {a b : Bool} (h : a = b) : Ending.returned (.bool a) = .returned (.bool b) := by rw [h]
/-- does a set have the value k? -/
def hit (v k : Int) : Bool := decide (0 < bits BinOp.and IntKind.u64 (IntKind.u64.wrap (2 ^ k.toNat)) v)
def star (v : Int) : Bool := decide (0 < bits BinOp.and IntKind.u64 v 9223372036854775808)
def dayHit (S : Sets) (D : Int) : Bool :=
  if (star S.dom || star S.dow) then (hit S.dom (gday D) && hit S.dow ((D + 4) % 7)) else (hit S.dom (gday D) || hit S.dow ((D + 4) % 7))
set_option maxHeartbeats 1000000 in
theorem tDayM (x : Int) (L : Option Addr) (z : Option Zone) (S : Sets) (b : Nat) (w : World) (hL : TLoc w L z) (hS : SpecAt w b S) (h0 : -20000000 ≤ x) (h1 : x ≤ 1500000000000) :
    Calls Try.prog 76 #[.pointer (some ⟨b, 0, none⟩), .agg #[.int .u64 0, .int .i64 x, .pointer L]] w fun e w' => e = .returned (.bool (dayHit S (lo z x / 86400))) ∧ Below w.heap.size w w' := by
  have hn : Nan 0 := ⟨by decide, by decide⟩
  have HS := Lib.hid hS
  have hlt := World.block_lt_of_cell? w _ hS.c3
  have HL := Lib.hid hL
  have hg := gdate (lo z x / 86400)
  have hd := mlen_bd (gyear (lo z x / 86400)) (gmonth (lo z x / 86400))
  have gd1 := hg.d1
  have gdm := hg.dm
  have ew1 : IntKind.u64.wrap (gday (lo z x / 86400)) = gday (lo z x / 86400) := u64wrap_small _ (by omega) (by omega)
  have ew2 : IntKind.u64.wrap ((lo z x / 86400 + 4) % 7) = (lo z x / 86400 + 4) % 7 := u64wrap_small _ (by omega) (by omega)
  have e1 : decide (0 < bits BinOp.and IntKind.u64 (IntKind.u64.wrap (2 ^ (gday (lo z x / 86400)).toNat)) S.dom) = hit S.dom (gday (lo z x / 86400)) := rfl
  have e2 : decide (0 < bits BinOp.and IntKind.u64 (IntKind.u64.wrap (2 ^ ((lo z x / 86400 + 4) % 7).toNat)) S.dow) = hit S.dow ((lo z x / 86400 + 4) % 7) := rfl
  have e3 : decide (0 < bits BinOp.and IntKind.u64 S.dom 9223372036854775808) = star S.dom := rfl
  have e4 : decide (0 < bits BinOp.and IntKind.u64 S.dow 9223372036854775808) = star S.dow := rfl
  have hc3 := hS.c3
  have hc5 := hS.c5
  have gdm31 : gday (lo z x / 86400) ≤ 31 := by omega
  clear hg hL hS hd gdm
  go_enter Try.func76, Try.ntmps76
  go_upto_region 1 with fail
  go_cut [5] (fun s5 wx => s5 = .bool (hit S.dom (gday (lo z x / 86400))) ∧ Below (w.alloc (Obj.cells #[Value.int IntKind.u64 0, Value.int IntKind.i64 x, Value.pointer L] 46)).heap.size (w.alloc (Obj.cells #[Value.int IntKind.u64 0, Value.int IntKind.i64 x, Value.pointer L] 46)) wx)
  case first =>
    go_region_with (go_at_call 65; refine (tDay 0 x L z _ (HL.out.below (bA (Below.refl _ _) _).drew) hn h0 (by omega)).mono ?_; rintro e w1 ⟨rfl, hb1⟩; have hd3 := keep hb1 (show (w.alloc (Obj.cells #[Value.int IntKind.u64 0, Value.int IntKind.i64 x, Value.pointer L] 46)).drew.cell? ⟨b, 3, none⟩ = some (.int .u64 S.dom) by simp [go_sem, hlt, hc3]))
    all_goals (go_wp2_with fail; go_meet; exact ⟨rfl, (Below.refl _ _).drew.trans hb1⟩)
  case rest =>
    obtain ⟨rfl, hb1⟩ := hcut
    obtain ⟨hc1, hf1⟩ := bcell hb1
    have hz1 : w.heap.size < wc.heap.size := (by have := hb1.size; simp at this; omega)
    have hw1 : wc.cell? ⟨w.heap.size, 0, none⟩ = some (.int .u64 0) := by rw [hc1 _ _ (by simp)]; simp [go_sem]
    have hw2 : wc.cell? ⟨w.heap.size, 1, none⟩ = some (.int .i64 x) := by rw [hc1 _ _ (by simp)]; simp [go_sem]
    have hw3 : wc.cell? ⟨w.heap.size, 2, none⟩ = some (.pointer L) := by rw [hc1 _ _ (by simp)]; simp [go_sem]
    have hb0 := (bA (Below.refl w.heap.size w) (Obj.cells #[Value.int IntKind.u64 0, Value.int IntKind.i64 x, Value.pointer L] 46)).trans (hb1.mono (by simp))
    have hk3 := keep hb0 hc3
    have hk5 := keep hb0 hc5
    have HB0 := Lib.hid hb0
    clear hc1 hf1 hb1 hb0 hc3 hc5
    go_upto_region 2 with fail
    go_cut [6] (fun s6 wx => s6 = .bool (hit S.dow ((lo z x / 86400 + 4) % 7)) ∧ Below wc.heap.size wc wx)
    case first =>
      go_region_with (go_at_call 93; refine (tWeekday 0 x L z _ ((HL.out.below HB0.out).below (Below.refl _ _).drew) hn h0 (by omega)).mono ?_; rintro e w1 ⟨rfl, hb1⟩; have hd5 := keep hb1 (show wc.drew.cell? ⟨b, 5, none⟩ = some (.int .u64 S.dow) from hk5))
      all_goals (go_wp2_with fail; go_meet; exact ⟨rfl, (Below.refl _ _).drew.trans hb1⟩)
    case rest =>
      obtain ⟨rfl, hb2⟩ := hcut
      have hn3 := keep hb2 hk3
      have hn5 := keep hb2 hk5
      have HB2 := Lib.hid hb2
      clear hb2 hk3 hk5 hw1 hw2 hw3
      clear e1 e2 ew1 ew2
      go_wp2
      all_goals
        go_ret
        exact ⟨ret_bool (by simp only [dayHit, *]; simp), HB0.out.trans (HB2.out.mono HB0.out.size)⟩
end Go.Proofs.Ytjmgebhjkbcpcaa.NM
set_option linter.unusedVariables false
set_option linter.unusedSimpArgs false
namespace Go.Proofs.Ytjmgebhjkbcpcaa.NM
open Go.RowKit Cal CronPl
/-- the location that the search uses: of the call's own (UTC) or old -/
def LocQ (w wx : World) (b : Nat) : Option Zone → Prop
  | none => w.heap.size + 2 ≤ b ∧ b < wx.heap.size ∧ wx.cell? ⟨b, 0, none⟩ = some (.bool true) ∧ wx.cell? ⟨b, 2, none⟩ = some (.slice none 0 0)
  | some z => LocP w b (some z)
theorem LocQ.p {w wx : World} {b : Nat} {z : Option Zone} (h : LocQ w wx b z) (hb : Below w.heap.size w wx) : LocP wx b z := by
  cases z with
  | none => exact ⟨h.2.2.1, h.2.2.2⟩
  | some z => exact LocP.below (w := w) h hb
structure NS (w wx : World) (L : Option Addr) (z : Option Zone) (bL bO bs : Nat) (S : Sets) (x : Int) : Prop where
  bel : Below w.heap.size w wx
  sz : w.heap.size + 2 ≤ wx.heap.size
  t0 : wx.cell? ⟨w.heap.size, 0, none⟩ = some (.int .u64 0)
  t1 : wx.cell? ⟨w.heap.size, 1, none⟩ = some (.int .i64 x)
  t2 : wx.cell? ⟨w.heap.size, 2, none⟩ = some (.pointer L)
  fr : ∀ o, wx.frozen? ⟨w.heap.size, o, none⟩ = false
  r0 : wx.cell? ⟨w.heap.size + 1, 0, none⟩ = some (.int .u64 0)
  r1 : wx.cell? ⟨w.heap.size + 1, 1, none⟩ = some (.int .i64 0)
  r2 : wx.cell? ⟨w.heap.size + 1, 2, none⟩ = some (.pointer none)
  rf : ∀ o, wx.frozen? ⟨w.heap.size + 1, o, none⟩ = false
  lL : LocQ w wx bL z
  cL : canon bL z = L
  lO : LocQ w wx bO z
  cO : canon bO z = L
  tl : TLoc w L z
  sp : SpecAt w bs S
section
variable {w wx : World} {L : Option Addr} {z : Option Zone} {bL bO bs : Nat} {S : Sets} {x : Int}
theorem LocQ.call {b : Nat} {wx' : World} (h : LocQ w wx b z) (hb : Below wx.heap.size wx wx') : LocQ w wx' b z := by
  cases z with
  | none => exact ⟨h.1, Nat.lt_of_lt_of_le h.2.1 hb.size, keep hb h.2.2.1, keep hb h.2.2.2⟩
  | some z => exact h
theorem NS.call {wx' : World} (h : NS w wx L z bL bO bs S x) (hb : Below wx.heap.size wx wx') : NS w wx' L z bL bO bs S x := by
  have h1 : w.heap.size < wx.heap.size := by have := h.sz; omega
  have h2 : w.heap.size + 1 < wx.heap.size := by have := h.sz; omega
  exact ⟨h.bel.trans (hb.mono h.bel.size), Nat.le_trans h.sz hb.size, keep hb h.t0, keep hb h.t1, keep hb h.t2, fun o => (hb.frozen (p := ⟨w.heap.size, o, none⟩) h1).trans (h.fr o),
    keep hb h.r0, keep hb h.r1, keep hb h.r2, fun o => (hb.frozen (p := ⟨w.heap.size + 1, o, none⟩) h2).trans (h.rf o), h.lL.call hb, h.cL, h.lO.call hb, h.cO, h.tl, h.sp⟩
theorem NS.drew (h : NS w wx L z bL bO bs S x) : NS w wx.drew L z bL bO bs S x := h.call (Below.refl _ _).drew
theorem setc_other {W : World} {b o b' o' : Nat} (v : Value) (h : b' ≠ b) : (W.setCell ⟨b, o, none⟩ v).cell? ⟨b', o', none⟩ = W.cell? ⟨b', o', none⟩ :=
  World.cell?_of_block (w := W) (Below.heap_setCell _ _ _ _ h)
theorem setf_other {W : World} {b o b' o' : Nat} (v : Value) (h : b' ≠ b) : (W.setCell ⟨b, o, none⟩ v).frozen? ⟨b', o', none⟩ = W.frozen? ⟨b', o', none⟩ :=
  World.frozen?_of_block (w := W) (Below.heap_setCell _ _ _ _ h)
theorem LocQ.set {b o : Nat} (v : Value) (h : LocQ w wx b z) : LocQ w (wx.setCell ⟨w.heap.size, o, none⟩ v) b z := by
  cases z with
  | none => exact ⟨h.1, by have := h.2.1; simpa [World.setCell] using this, (setc_other v (by have := h.1; omega)).trans h.2.2.1, (setc_other v (by have := h.1; omega)).trans h.2.2.2⟩
  | some z => exact h
theorem NS.store (h : NS w wx L z bL bO bs S x) (x' : Int) : NS w (((wx.setCell ⟨w.heap.size, 0, none⟩ (.int .u64 0)).setCell ⟨w.heap.size, 1, none⟩ (.int .i64 x')).setCell ⟨w.heap.size, 2, none⟩ (.pointer L)) L z bL bO bs S x' := by
  have h0 := h.t0
  have h1 := h.t1
  have h2 := h.t2
  refine ⟨((h.bel.setCell (by simp) _).setCell (by simp) _).setCell (by simp) _, by have := h.sz; simpa [World.setCell] using this, ?_, ?_, ?_, fun o => ?_, ?_, ?_, ?_, fun o => ?_, ((h.lL.set _).set _).set _, h.cL, ((h.lO.set _).set _).set _, h.cO, h.tl, h.sp⟩
  · simp [go_sem, h0, h1, h2]
  · simp [go_sem, h0, h1, h2]
  · simp [go_sem, h0, h1, h2]
  · have := h.fr o; simp [go_sem, this]
  · rw [setc_other _ (by omega), setc_other _ (by omega), setc_other _ (by omega)]; exact h.r0
  · rw [setc_other _ (by omega), setc_other _ (by omega), setc_other _ (by omega)]; exact h.r1
  · rw [setc_other _ (by omega), setc_other _ (by omega), setc_other _ (by omega)]; exact h.r2
  · rw [setf_other _ (by omega), setf_other _ (by omega), setf_other _ (by omega)]; exact h.rf o
theorem NS.tloc (h : NS w wx L z bL bO bs S x) : TLoc wx L z := h.tl.below h.bel
theorem NS.spec (h : NS w wx L z bL bO bs S x) : SpecAt wx bs S := h.sp.below h.bel
end
end Go.Proofs.Ytjmgebhjkbcpcaa.NM
set_option linter.unusedVariables false
set_option linter.unusedSimpArgs false
set_option maxRecDepth 100000
namespace Go.Proofs.Ytjmgebhjkbcpcaa.NM
open Go.RowKit Cal CronPl
theorem exists_min (p : Nat → Prop) (h : ∃ n, p n) : ∃ n, p n ∧ ∀ m, p m → n ≤ m := by
  obtain ⟨n, hn⟩ := h
  induction n using Nat.strongRecOn with
  | _ n ih =>
    by_cases hq : ∃ m, m < n ∧ p m
    · obtain ⟨m, hm, hp⟩ := hq
      exact ih m hm hp
    · exact ⟨n, hn, fun m hm => by
        rcases Nat.lt_or_ge m n with h | h
        · exact absurd ⟨m, h, hm⟩ hq
        · exact h⟩
open Classical in
noncomputable def least (p : Nat → Prop) : Nat := if h : ∃ n, p n then (exists_min p h).choose else 0
theorem least_le {p : Nat → Prop} {n : Nat} (h : p n) : least p ≤ n := by
  unfold least; rw [dif_pos ⟨n, h⟩]; exact (exists_min p ⟨n, h⟩).choose_spec.2 n h
theorem least_spec {p : Nat → Prop} {n : Nat} (h : p n) : p (least p) := by
  unfold least; rw [dif_pos ⟨n, h⟩]; exact (exists_min p ⟨n, h⟩).choose_spec.1
/-- a loop by a measure that stands in no slot -/
theorem wp_loop_ghost {P : Program} {Q : Exit → Act → World → Prop} {a : Act} {w : World} {c : Code} (I : Nat → Act → World → Prop) (n : Nat) (h₀ : I n a w)
    (round : ∀ n a w, I n a w → c.wp P (Exit.then (fun a' w' => ∃ m, m < n ∧ I m a' w') Q) a w) : (Code.loop c).wp P Q a w := by
  refine wp_loop (fun a w => ∃ n, I n a w) (fun a w => least fun n => I n a w) ⟨n, h₀⟩ fun a w ⟨n, hn⟩ => ?_
  refine wp_mono (round _ a w (least_spec (p := fun n => I n a w) hn)) fun e a' w' hq => ?_
  cases e with
  | normal =>
    obtain ⟨m, hm, hI⟩ := hq
    exact ⟨⟨m, hI⟩, Nat.lt_of_le_of_lt (least_le (p := fun n => I n a' w') hI) hm⟩
  | _ => exact hq
/-- a scope with a label that is jumped back to, likewise -/
theorem wp_scope_ghost {P : Program} {Q : Exit → Act → World → Prop} {a : Act} {w : World} {c rest : Code} (l : Nat) (J : Nat → Act → World → Prop) (hf : findLabel c l = some rest)
    (first : c.wp P (Exit.jump l (fun a w => ∃ n, J n a w) Q) a w)
    (pass : ∀ n a w, J n a w → rest.wp P (Exit.jump l (fun a' w' => ∃ m, m < n ∧ J m a' w') Q) a w) : (Code.scope c).wp P Q a w := by
  refine wp_scope_jumps l (fun a w => ∃ n, J n a w) (fun a w => least fun n => J n a w) hf first fun a w ⟨n, hn⟩ => ?_
  refine wp_mono (pass _ a w (least_spec (p := fun n => J n a w) hn)) fun e a' w' hq => ?_
  cases e with
  | goto l' =>
    obtain ⟨hl, m, hm, hJ⟩ := hq
    exact ⟨hl, ⟨m, hJ⟩, Nat.lt_of_le_of_lt (least_le (p := fun n => J n a' w') hJ) hm⟩
  | _ => exact hq
def findBlock (id : Nat) : Code → Option Code
  | .seq a b => match findBlock id a with
    | some c => some c
    | none => findBlock id b
  | .block i c => if i = id then some c else findBlock id c
  | .scope c => findBlock id c
  | .cond _ a b => match findBlock id a with
    | some c => some c
    | none => findBlock id b
  | .loop c => findBlock id c
  | _ => none
def unloop : Code → Code
  | .loop c => c
  | c => c
noncomputable def body70 (id : Nat) : Code := unloop (((Try.f70.body).bind (findBlock id)).getD .skip)
/-- the frame of the search: what is named, and scratch -/
abbrev fr70 (w : World) (bs bO bL : Nat) (ar : Value) (a : Bool) (Y : Int) (U : Nat → Value) : Act := { tmps := (.pointer (some ⟨bs, 0, none⟩) :: ar :: undef :: .pointer (some ⟨w.heap.size, 0, none⟩) :: .pointer (some ⟨w.heap.size + 1, 0, none⟩) :: .pointer (some ⟨bO, 0, none⟩) :: .pointer (some ⟨bL, 0, none⟩) :: .bool a :: .int .i64 Y :: U 9 :: U 10 :: U 11 :: U 12 :: U 13 :: U 14 :: U 15 :: U 16 :: U 17 :: U 18 :: U 19 :: U 20 :: U 21 :: U 22 :: U 23 :: U 24 :: U 25 :: U 26 :: U 27 :: U 28 :: U 29 :: U 30 :: U 31 :: U 32 :: U 33 :: U 34 :: U 35 :: U 36 :: U 37 :: U 38 :: U 39 :: U 40 :: U 41 :: U 42 :: U 43 :: U 44 :: U 45 :: U 46 :: U 47 :: U 48 :: U 49 :: U 50 :: U 51 :: U 52 :: U 53 :: U 54 :: U 55 :: U 56 :: U 57 :: U 58 :: U 59 :: U 60 :: U 61 :: U 62 :: U 63 :: U 64 :: U 65 :: U 66 :: U 67 :: U 68 :: U 69 :: U 70 :: U 71 :: U 72 :: U 73 :: U 74 :: U 75 :: U 76 :: U 77 :: U 78 :: U 79 :: U 80 :: U 81 :: U 82 :: U 83 :: U 84 :: U 85 :: U 86 :: U 87 :: U 88 :: U 89 :: U 90 :: U 91 :: U 92 :: U 93 :: U 94 :: U 95 :: U 96 :: U 97 :: U 98 :: U 99 :: U 100 :: U 101 :: U 102 :: U 103 :: U 104 :: U 105 :: U 106 :: U 107 :: U 108 :: U 109 :: U 110 :: U 111 :: U 112 :: U 113 :: U 114 :: U 115 :: U 116 :: U 117 :: U 118 :: U 119 :: U 120 :: U 121 :: U 122 :: U 123 :: U 124 :: U 125 :: U 126 :: U 127 :: U 128 :: U 129 :: U 130 :: U 131 :: U 132 :: U 133 :: U 134 :: U 135 :: U 136 :: U 137 :: U 138 :: U 139 :: U 140 :: U 141 :: U 142 :: U 143 :: U 144 :: U 145 :: U 146 :: U 147 :: U 148 :: U 149 :: U 150 :: U 151 :: U 152 :: U 153 :: U 154 :: U 155 :: U 156 :: U 157 :: U 158 :: U 159 :: U 160 :: U 161 :: U 162 :: U 163 :: U 164 :: U 165 :: U 166 :: U 167 :: U 168 :: U 169 :: U 170 :: U 171 :: []).toArray, defers := [] }
theorem fr_ex {w : World} {bs bO bL : Nat} {ar : Value} {a : Bool} {Y : Int} {t9 t10 t11 t12 t13 t14 t15 t16 t17 t18 t19 t20 t21 t22 t23 t24 t25 t26 t27 t28 t29 t30 t31 t32 t33 t34 t35 t36 t37 t38 t39 t40 t41 t42 t43 t44 t45 t46 t47 t48 t49 t50 t51 t52 t53 t54 t55 t56 t57 t58 t59 t60 t61 t62 t63 t64 t65 t66 t67 t68 t69 t70 t71 t72 t73 t74 t75 t76 t77 t78 t79 t80 t81 t82 t83 t84 t85 t86 t87 t88 t89 t90 t91 t92 t93 t94 t95 t96 t97 t98 t99 t100 t101 t102 t103 t104 t105 t106 t107 t108 t109 t110 t111 t112 t113 t114 t115 t116 t117 t118 t119 t120 t121 t122 t123 t124 t125 t126 t127 t128 t129 t130 t131 t132 t133 t134 t135 t136 t137 t138 t139 t140 t141 t142 t143 t144 t145 t146 t147 t148 t149 t150 t151 t152 t153 t154 t155 t156 t157 t158 t159 t160 t161 t162 t163 t164 t165 t166 t167 t168 t169 t170 t171 : Value} : ∃ U, ({ tmps := (.pointer (some ⟨bs, 0, none⟩) :: ar :: undef :: .pointer (some ⟨w.heap.size, 0, none⟩) :: .pointer (some ⟨w.heap.size + 1, 0, none⟩) :: .pointer (some ⟨bO, 0, none⟩) :: .pointer (some ⟨bL, 0, none⟩) :: .bool a :: .int .i64 Y :: t9 :: t10 :: t11 :: t12 :: t13 :: t14 :: t15 :: t16 :: t17 :: t18 :: t19 :: t20 :: t21 :: t22 :: t23 :: t24 :: t25 :: t26 :: t27 :: t28 :: t29 :: t30 :: t31 :: t32 :: t33 :: t34 :: t35 :: t36 :: t37 :: t38 :: t39 :: t40 :: t41 :: t42 :: t43 :: t44 :: t45 :: t46 :: t47 :: t48 :: t49 :: t50 :: t51 :: t52 :: t53 :: t54 :: t55 :: t56 :: t57 :: t58 :: t59 :: t60 :: t61 :: t62 :: t63 :: t64 :: t65 :: t66 :: t67 :: t68 :: t69 :: t70 :: t71 :: t72 :: t73 :: t74 :: t75 :: t76 :: t77 :: t78 :: t79 :: t80 :: t81 :: t82 :: t83 :: t84 :: t85 :: t86 :: t87 :: t88 :: t89 :: t90 :: t91 :: t92 :: t93 :: t94 :: t95 :: t96 :: t97 :: t98 :: t99 :: t100 :: t101 :: t102 :: t103 :: t104 :: t105 :: t106 :: t107 :: t108 :: t109 :: t110 :: t111 :: t112 :: t113 :: t114 :: t115 :: t116 :: t117 :: t118 :: t119 :: t120 :: t121 :: t122 :: t123 :: t124 :: t125 :: t126 :: t127 :: t128 :: t129 :: t130 :: t131 :: t132 :: t133 :: t134 :: t135 :: t136 :: t137 :: t138 :: t139 :: t140 :: t141 :: t142 :: t143 :: t144 :: t145 :: t146 :: t147 :: t148 :: t149 :: t150 :: t151 :: t152 :: t153 :: t154 :: t155 :: t156 :: t157 :: t158 :: t159 :: t160 :: t161 :: t162 :: t163 :: t164 :: t165 :: t166 :: t167 :: t168 :: t169 :: t170 :: t171 :: []).toArray, defers := [] } : Act) = fr70 w bs bO bL ar a Y U :=
  ⟨fun i => [t9, t10, t11, t12, t13, t14, t15, t16, t17, t18, t19, t20, t21, t22, t23, t24, t25, t26, t27, t28, t29, t30, t31, t32, t33, t34, t35, t36, t37, t38, t39, t40, t41, t42, t43, t44, t45, t46, t47, t48, t49, t50, t51, t52, t53, t54, t55, t56, t57, t58, t59, t60, t61, t62, t63, t64, t65, t66, t67, t68, t69, t70, t71, t72, t73, t74, t75, t76, t77, t78, t79, t80, t81, t82, t83, t84, t85, t86, t87, t88, t89, t90, t91, t92, t93, t94, t95, t96, t97, t98, t99, t100, t101, t102, t103, t104, t105, t106, t107, t108, t109, t110, t111, t112, t113, t114, t115, t116, t117, t118, t119, t120, t121, t122, t123, t124, t125, t126, t127, t128, t129, t130, t131, t132, t133, t134, t135, t136, t137, t138, t139, t140, t141, t142, t143, t144, t145, t146, t147, t148, t149, t150, t151, t152, t153, t154, t155, t156, t157, t158, t159, t160, t161, t162, t163, t164, t165, t166, t167, t168, t169, t170, t171].getD (i - 9) undef, rfl⟩

/-- the search's data -/
def cxOf (S : Sets) (x0 Y : Int) : Cx := ⟨hit S.mon, dayHit S, hit S.ho, hit S.mi, hit S.se, x0, Y⟩
/-- what holds at a loop's head: the frame, the memory, the search's invariant -/
structure Head (w : World) (bs bO bL : Nat) (ar : Value) (L : Option Addr) (z : Option Zone) (S : Sets) (x0 Y : Int) (x : Int) (a : Bool) (a' : Act) (wx : World) : Prop where
  fr : ∃ U, a' = fr70 w bs bO bL ar a Y U
  ns : NS w wx L z bL bO bs S x
  iv : Inv (cxOf S x0 Y) (lo z) x a
def JW (w : World) (bs bO bL : Nat) (ar : Value) (L : Option Addr) (z : Option Zone) (S : Sets) (x0 Y : Int) (n : Nat) (a' : Act) (wx : World) : Prop :=
  ∃ x a, Head w bs bO bL ar L z S x0 Y x a a' wx ∧ mu (cxOf S x0 Y) x a = n
/-- the rest of what a loop's head knows: the year, and the fields that are right already -/
def Lev (S : Sets) (x0 Y : Int) (z : Option Zone) (k : Nat) (x : Int) : Prop :=
  gyear (lo z x / 86400) ≤ Y ∧ (1 ≤ k → mOK (cxOf S x0 Y) (lo z) x) ∧ (2 ≤ k → dOK (cxOf S x0 Y) (lo z) x) ∧ (3 ≤ k → hOK (cxOf S x0 Y) (lo z) x) ∧ (4 ≤ k → iOK (cxOf S x0 Y) (lo z) x) ∧ (5 ≤ k → sOK (cxOf S x0 Y) (lo z) x)
def IL (w : World) (bs bO bL : Nat) (ar : Value) (L : Option Addr) (z : Option Zone) (S : Sets) (x0 Y : Int) (top k : Nat) (n : Nat) (a' : Act) (wx : World) : Prop :=
  ∃ x a, Head w bs bO bL ar L z S x0 Y x a a' wx ∧ mu (cxOf S x0 Y) x a = n ∧ n ≤ top ∧ Lev S x0 Y z k x

theorem tAdd1 (n x : Int) (L : Option Addr) (w : World) (hn : Nan n) (h0 : 0 ≤ x) (h1 : x ≤ 2000000000000) :
    Calls Try.prog 68 #[.agg #[.int .u64 n, .int .i64 x, .pointer L], .int .i64 (1000000000 - n)] w fun e w' => e = .returned (.agg #[.int .u64 0, .int .i64 (x + 1), .pointer L]) ∧ Below w.heap.size w w' := by
  obtain ⟨n0, n1⟩ := hn
  by_cases hz : n = 0
  · subst hz
    exact tAdd0 x _ 1 L w (by omega) h1 (by decide) (by decide) (by decide) (by decide)
  · exact tAddN n x _ 1 L w (by omega) n1 h0 h1 (by omega) (by omega) (by omega) (by omega)
end Go.Proofs.Ytjmgebhjkbcpcaa.NM
set_option linter.unusedVariables false
set_option linter.unusedSimpArgs false
set_option maxRecDepth 100000
namespace Go.Proofs.Ytjmgebhjkbcpcaa.NM
open Go.RowKit Cal CronPl
theorem gy_bd (D : Int) (h0 : -719350 ≤ D) (h1 : D ≤ 9000000) : -900 ≤ gyear D ∧ gyear D ≤ 50000 := by
  have hg := gdate D
  have a := hg.hi
  have b := hg.lo
  unfold ystart at a b; omega
theorem dmk_first (z : Option Zone) (D : Int) (b : Nat) (w : World) (hL : LocP w b z) (h0 : -719350 ≤ D) (h1 : D ≤ 9000000) :
    Calls Try.prog 74 #[.int .i64 (gyear D), .int .i64 (gmonth D), .int .i64 1, .int .i64 0, .int .i64 0, .int .i64 0, .int .i64 0, .pointer (some ⟨b, 0, none⟩)] w
      fun e w' => e = .returned (.agg #[.int .u64 0, .int .i64 (reso z (86400 * (D - gday D + 1)) + 62135596800), .pointer (canon b z)]) ∧ Below w.heap.size w w' := by
  have hy := gy_bd D h0 h1
  have hg := gdate D
  have hm := mlen_bd (gyear D) (gmonth D)
  have e := hg.eq
  have d1 := hg.d1
  have dm := hg.dm
  exact dmk _ _ (gyear D) (gmonth D) 1 0 0 0 hg.m1 (by have := hg.m12; omega) (norm_h0 _ _ hg.m1 hg.m12) b w (by omega) (by omega) hg.m1 hg.m12 (by omega) (by omega) (by omega) (by omega) (by omega) (by omega) (by omega) (by omega)
    (D - gday D + 1) _ (by omega) (by omega) z hL (by omega) (by omega)
theorem dmk_day (z : Option Zone) (D : Int) (b : Nat) (w : World) (hL : LocP w b z) (h0 : -719350 ≤ D) (h1 : D ≤ 9000000) :
    Calls Try.prog 74 #[.int .i64 (gyear D), .int .i64 (gmonth D), .int .i64 (gday D), .int .i64 0, .int .i64 0, .int .i64 0, .int .i64 0, .pointer (some ⟨b, 0, none⟩)] w
      fun e w' => e = .returned (.agg #[.int .u64 0, .int .i64 (reso z (86400 * D) + 62135596800), .pointer (canon b z)]) ∧ Below w.heap.size w w' := by
  have hy := gy_bd D h0 h1
  have hg := gdate D
  have hm := mlen_bd (gyear D) (gmonth D)
  have e := hg.eq
  have d1 := hg.d1
  have dm := hg.dm
  exact dmk _ _ (gyear D) (gmonth D) (gday D) 0 0 0 hg.m1 (by have := hg.m12; omega) (norm_h0 _ _ hg.m1 hg.m12) b w (by omega) (by omega) hg.m1 hg.m12 (by omega) (by omega) (by omega) (by omega) (by omega) (by omega) (by omega) (by omega)
    D _ (by omega) (by omega) z hL (by omega) (by omega)
theorem dmk_hour (z : Option Zone) (l : Int) (b : Nat) (w : World) (hL : LocP w b z) (h0 : -62150000000 ≤ l) (h1 : l ≤ 770000000000) :
    Calls Try.prog 74 #[.int .i64 (gyear (l / 86400)), .int .i64 (gmonth (l / 86400)), .int .i64 (gday (l / 86400)), .int .i64 (l % 86400 / 3600), .int .i64 0, .int .i64 0, .int .i64 0, .pointer (some ⟨b, 0, none⟩)] w
      fun e w' => e = .returned (.agg #[.int .u64 0, .int .i64 (reso z (l - l % 3600) + 62135596800), .pointer (canon b z)]) ∧ Below w.heap.size w w' := by
  have hy := gy_bd (l / 86400) (by omega) (by omega)
  have hg := gdate (l / 86400)
  have hm := mlen_bd (gyear (l / 86400)) (gmonth (l / 86400))
  have e := hg.eq
  have d1 := hg.d1
  have dm := hg.dm
  exact dmk _ _ (gyear (l / 86400)) (gmonth (l / 86400)) (gday (l / 86400)) (l % 86400 / 3600) 0 0 hg.m1 (by have := hg.m12; omega) (norm_h0 _ _ hg.m1 hg.m12) b w (by omega) (by omega) hg.m1 hg.m12 (by omega) (by omega) (by omega) (by omega) (by omega) (by omega) (by omega) (by omega)
    (l / 86400) _ (by omega) (by omega) z hL (by omega) (by omega)
end Go.Proofs.Ytjmgebhjkbcpcaa.NM
set_option linter.unusedVariables false
set_option linter.unusedSimpArgs false
set_option maxRecDepth 100000
namespace Go.Proofs.Ytjmgebhjkbcpcaa.NM
open Go.RowKit Cal CronPl
theorem bits_nn (x y : Int) : 0 ≤ bits BinOp.and IntKind.u64 x y := by
  unfold bits
  simp only [IntKind.wrap, IntKind.bits, IntKind.signed]
  simp; omega
theorem not_hit (v k : Int) : (bits BinOp.and IntKind.u64 (IntKind.u64.wrap (2 ^ k.toNat)) v == 0) = !hit v k := by
  have := bits_nn (IntKind.u64.wrap (2 ^ k.toNat)) v
  unfold hit
  rw [Bool.eq_iff_iff]; simp; omega
structure Rng (x0 Y : Int) : Prop where
  l0 : 0 ≤ x0
  l1 : x0 ≤ 800000000000
  y0 : -10 ≤ Y
  y1 : Y ≤ 26000
theorem top_le {Y : Int} (h : Y ≤ 26000) : 86400 * ystart (Y + 1) ≤ 760000000000 := by unfold ystart; omega
theorem Head.rng {w : World} {bs bO bL : Nat} {ar : Value} {L : Option Addr} {z : Option Zone} {S : Sets} {x0 Y x : Int} {a : Bool} {a' : Act} {wx : World}
    (h : Head w bs bO bL ar L z S x0 Y x a a' wx) (hr : Rng x0 Y) : -3000000 ≤ x ∧ x ≤ 830000000000 ∧ -62150000000 ≤ lo z x ∧ lo z x ≤ 760000000000 := by
  have h1 := h.iv.lb
  have h2 := h.iv.hi
  have h3 := h.ns.tl.off_bd (x - 62135596800)
  have h4 := top_le hr.y1
  have h5 := hr.l0
  unfold CronPl.top at h2
  simp only [cxOf] at h1 h2
  unfold lo at *
  omega
def QM (k : Nat) (E G : Act → World → Prop) : Exit → Act → World → Prop
  | .exit i, a, w => i = k ∧ E a w
  | .goto l, a, w => l = 0 ∧ G a w
  | _, _, _ => False
theorem inv_rng {w : World} {L : Option Addr} {z : Option Zone} {S : Sets} {x0 Y x : Int} {a : Bool} (tl : TLoc w L z) (iv : Inv (cxOf S x0 Y) (lo z) x a) (hr : Rng x0 Y) :
    -3000000 ≤ x ∧ x ≤ 830000000000 ∧ -62150000000 ≤ lo z x ∧ lo z x ≤ 760000000000 := by
  have h1 := iv.lb
  have h2 := iv.hi
  have h3 := tl.off_bd (x - 62135596800)
  have h4 := top_le hr.y1
  have h5 := hr.l0
  unfold CronPl.top at h2
  simp only [cxOf] at h1 h2
  unfold lo at *
  omega
section
variable (w : World) (bs bO bL : Nat) (ar : Value) (L : Option Addr) (z : Option Zone) (S : Sets) (x0 Y : Int) (P : Plain (lo z) (fun T => reso z T + 62135596800)) (hr : Rng x0 Y) (top : Nat)
set_option maxHeartbeats 4000000 in
include P hr in
theorem month_round (n : Nat) (a' : Act) (wx : World) (hI : IL w bs bO bL ar L z S x0 Y top 0 n a' wx) :
    Code.wp Try.prog (body70 0) (Exit.then (fun a' w' => ∃ m, m < n ∧ IL w bs bO bL ar L z S x0 Y top 0 m a' w')
      (QM 0 (fun a' wx => ∃ n, IL w bs bO bL ar L z S x0 Y top 1 n a' wx) (fun a' wx => ∃ m, m < top ∧ JW w bs bO bL ar L z S x0 Y m a' wx))) a' wx := by
  obtain ⟨x, a, hh, hmu, hn, hlev⟩ := hI
  have hrg := hh.rng hr
  obtain ⟨⟨U, rfl⟩, hns, hiv⟩ := hh
  have t0 := hns.t0
  have t1 := hns.t1
  have t2 := hns.t2
  have s4 := hns.spec.c4
  have HN := Lib.hid hns
  have HI := Lib.hid hiv
  have HL := Lib.hid hlev
  have HM := Lib.hid hmu
  have HP := Lib.hid P
  have hn0 : Nan 0 := ⟨by decide, by decide⟩
  have hg := gdate (lo z x / 86400)
  have gm1 := hg.m1
  have gm12 := hg.m12
  have e0 := not_hit S.mon (gmonth (lo z x / 86400))
  have e1 : IntKind.u64.wrap (gmonth (lo z x / 86400)) = gmonth (lo z x / 86400) := u64wrap_small _ (by omega) (by omega)
  clear hns hiv hlev hmu P hg
  conv => arg 2; whnf
  unfold fr70
  go_upto_region 12 with fail
  go_cut [53] from 44 to 66 (fun s53 wc => s53 = .bool (!hit S.mon (gmonth (lo z x / 86400))) ∧ Below wx.heap.size wx wc)
  case first =>
    go_region_with (go_at_call 73; refine (tMonth 0 x L z _ (HN.out.tloc.below (Below.refl _ _).drew) hn0 (by omega) (by omega)).mono ?_; rintro e w1 ⟨rfl, hb1⟩; have hd5 := keep hb1 (show wx.drew.cell? ⟨bs, 4, none⟩ = some (.int .u64 S.mon) from s4))
    all_goals (go_wp2_with fail; go_meet; exact ⟨rfl, (Below.refl _ _).drew.trans hb1⟩)
  case rest =>
    obtain ⟨rfl, hb1⟩ := hcut
    have HN1 := Lib.hid (HN.out.call hb1)
    have q0 := HN1.out.t0
    have q1 := HN1.out.t1
    have q2 := HN1.out.t2
    have f0 := HN1.out.fr 0
    have f1 := HN1.out.fr 1
    have f2 := HN1.out.fr 2
    clear hb1 t0 t1 t2 s4 e0 e1
    cases hh : hit S.mon (gmonth (lo z x / 86400)) with
    | true =>
      simp only [Bool.not_true]
      have HH := Lib.hid hh
      clear hh
      go_wp2
      exact ⟨rfl, n, x, a, ⟨fr_ex, HN1.out, HI.out⟩, HM.out, hn, HL.out.1, fun _ => HH.out, by omega, by omega, by omega, by omega⟩
    | false =>
      simp only [Bool.not_false]
      have HH := Lib.hid hh
      clear hh
      cases a with
      | true =>
        obtain ⟨x2, hx2⟩ : ∃ x2, reso z (lo z x + 86400 * mlen (gyear (lo z x / 86400)) (gmonth (lo z x / 86400))) + 62135596800 = x2 := ⟨_, rfl⟩
        have hp := Inv.month HP.out HI.out HL.out.1 (fun h => by unfold mOK at h; rw [show (cxOf S x0 Y).mo _ = false from HH.out] at h; simp at h) (x1 := x) (x2 := x2) rfl hx2.symm
        have hr2 := inv_rng HN.out.tl hp.1 hr
        have HPM := Lib.hid hp
        have HX2 := Lib.hid hx2
        clear hx2 hp
        cases hm1 : (gmonth (lo z x2 / 86400) == 1) with
        | true =>
          go_wp2_with (first
            | (go_at_call 75; refine (tAddDate x _ 1 0 L z _ HN1.out.tloc (by omega) (by omega) (by omega) (by omega) (.inr ⟨rfl, rfl, rfl⟩) (by omega) (by omega) (by omega) (by omega)).mono ?_; rintro e w1 ⟨rfl, hb1⟩; rw [HX2.out]; have HN2 := Lib.hid (HN1.out.call hb1); clear hb1 q0 q1 q2 f0 f1 f2; have q0 := HN2.out.t0; have q1 := HN2.out.t1; have q2 := HN2.out.t2; have f0 := HN2.out.fr 0; have f1 := HN2.out.fr 1; have f2 := HN2.out.fr 2)
            | (go_at_call 73; refine (tMonth 0 x2 L z _ (HN2.out.store x2).tloc hn0 (by omega) (by omega)).mono ?_; rintro e w2 ⟨rfl, hb2⟩; have HN3 := Lib.hid ((HN2.out.store x2).call hb2); clear hb2 q0 q1 q2 f0 f1 f2))
          go_step3
          exact ⟨rfl, _, Nat.lt_of_lt_of_le HPM.out.2.1 (by rw [HM.out]; exact hn), x2, true, ⟨fr_ex, HN3.out, HPM.out.1⟩, rfl⟩
        | false =>
          go_wp2_with (first
            | (go_at_call 75; refine (tAddDate x _ 1 0 L z _ HN1.out.tloc (by omega) (by omega) (by omega) (by omega) (.inr ⟨rfl, rfl, rfl⟩) (by omega) (by omega) (by omega) (by omega)).mono ?_; rintro e w1 ⟨rfl, hb1⟩; rw [HX2.out]; have HN2 := Lib.hid (HN1.out.call hb1); clear hb1 q0 q1 q2 f0 f1 f2; have q0 := HN2.out.t0; have q1 := HN2.out.t1; have q2 := HN2.out.t2; have f0 := HN2.out.fr 0; have f1 := HN2.out.fr 1; have f2 := HN2.out.fr 2)
            | (go_at_call 73; refine (tMonth 0 x2 L z _ (HN2.out.store x2).tloc hn0 (by omega) (by omega)).mono ?_; rintro e w2 ⟨rfl, hb2⟩; have HN3 := Lib.hid ((HN2.out.store x2).call hb2); clear hb2 q0 q1 q2 f0 f1 f2))
          exact ⟨_, (by rw [← HM.out]; exact HPM.out.2.1), x2, true, ⟨fr_ex, HN3.out, HPM.out.1⟩, rfl, Nat.le_trans (Nat.le_of_lt HPM.out.2.1) (by rw [HM.out]; exact hn), HPM.out.2.2.1 (by simpa using hm1), by omega, by omega, by omega, by omega, by omega⟩
      | false =>
        obtain ⟨x1, hx1⟩ : ∃ x1, reso z (86400 * (lo z x / 86400 - gday (lo z x / 86400) + 1)) + 62135596800 = x1 := ⟨_, rfl⟩
        have hdd := gdate (lo z x / 86400)
        have hd1 := hdd.d1
        have hdm := hdd.dm
        have hml := mlen_bd (gyear (lo z x / 86400)) (gmonth (lo z x / 86400))
        have h1b := HP.out.lo x1
        have h1d := HP.out.lo x
        have h1c := HP.out.hi x1
        have hl1 : lo z x1 = 86400 * (lo z x / 86400 - gday (lo z x / 86400) + 1) := by rw [← hx1]; exact HP.out.mid _
        have hx1a : -6000000 ≤ x1 ∧ x1 ≤ 840000000000 := by omega
        have hl1a : -62155000000 ≤ lo z x1 ∧ lo z x1 ≤ 770000000000 := by omega
        have HX1 : Hid (x1 = reso z (86400 * (lo z x / 86400 - gday (lo z x / 86400) + 1)) + 62135596800) := hx1.symm
        clear hdd hml h1b h1c h1d hl1 hx1 hd1 hdm
        go_upto_region 15 with fail
        go_cut [7] from 56 to 66 (fun s7 wd => s7 = .bool true ∧ NS w wd L z bL bO bs S x1)
        case first =>
          go_region_with (first
            | (go_at_call 72; refine (tYear 0 x L z _ HN1.out.drew.tloc hn0 (by omega) (by omega)).mono ?_; rintro e w2 ⟨rfl, hb2⟩; have HN2 := Lib.hid (HN1.out.drew.call hb2); have p0 := HN2.out.t0; have p1 := HN2.out.t1; have p2 := HN2.out.t2)
            | (go_at_call 73; refine (tMonth 0 x L z _ HN2.out.tloc hn0 (by omega) (by omega)).mono ?_; rintro e w3 ⟨rfl, hb3⟩; have HN3 := Lib.hid (HN2.out.call hb3))
            | (go_at_call 74; refine (dmk_first z (lo z x / 86400) bL _ (HN3.out.lL.p HN3.out.bel) (by omega) (by omega)).mono ?_; rintro e w4 ⟨rfl, hb4⟩; rw [HN3.out.cL, ← HX1.out]; have HN4 := Lib.hid (HN3.out.call hb4); have r0 := HN4.out.t0; have r1 := HN4.out.t1; have r2 := HN4.out.t2; have g0 := HN4.out.fr 0; have g1 := HN4.out.fr 1; have g2 := HN4.out.fr 2))
          all_goals (go_wp2_with fail; go_meet; exact ⟨rfl, HN4.out.store x1⟩)
        case rest =>
          obtain ⟨rfl, hns1⟩ := hcut
          clear q0 q1 q2 f0 f1 f2
          have HN0 := HN1
          clear HN1
          have HN1 := Lib.hid hns1
          have q0 := hns1.t0
          have q1 := hns1.t1
          have q2 := hns1.t2
          have f0 := hns1.fr 0
          have f1 := hns1.fr 1
          have f2 := hns1.fr 2
          clear hns1
          have HMf := HM
          obtain ⟨x2, hx2⟩ : ∃ x2, reso z (lo z x1 + 86400 * mlen (gyear (lo z x1 / 86400)) (gmonth (lo z x1 / 86400))) + 62135596800 = x2 := ⟨_, rfl⟩
          have hp := Inv.month HP.out HI.out HL.out.1 (fun h => by unfold mOK at h; rw [show (cxOf S x0 Y).mo _ = false from HH.out] at h; simp at h) (x1 := x1) (x2 := x2) (by rw [HX1.out]; rfl) hx2.symm
          have hr2 := inv_rng HN.out.tl hp.1 hr
          have HPM := Lib.hid hp
          have HX2 := Lib.hid hx2
          clear hx2 hp
          cases hm1 : (gmonth (lo z x2 / 86400) == 1) with
          | true =>
            go_wp2_with (first
              | (go_at_call 75; refine (tAddDate x1 _ 1 0 L z _ HN1.out.tloc (by omega) (by omega) (by omega) (by omega) (.inr ⟨rfl, rfl, rfl⟩) (by omega) (by omega) (by omega) (by omega)).mono ?_; rintro e w1 ⟨rfl, hb1⟩; rw [HX2.out]; have HN2 := Lib.hid (HN1.out.call hb1); clear hb1 q0 q1 q2 f0 f1 f2; have q0 := HN2.out.t0; have q1 := HN2.out.t1; have q2 := HN2.out.t2; have f0 := HN2.out.fr 0; have f1 := HN2.out.fr 1; have f2 := HN2.out.fr 2)
              | (go_at_call 73; refine (tMonth 0 x2 L z _ (HN2.out.store x2).tloc hn0 (by omega) (by omega)).mono ?_; rintro e w2 ⟨rfl, hb2⟩; have HN3 := Lib.hid ((HN2.out.store x2).call hb2); clear hb2 q0 q1 q2 f0 f1 f2))
            go_step3
            exact ⟨rfl, _, Nat.lt_of_lt_of_le HPM.out.2.1 (by rw [HMf.out]; exact hn), x2, true, ⟨fr_ex, HN3.out, HPM.out.1⟩, rfl⟩
          | false =>
            go_wp2_with (first
              | (go_at_call 75; refine (tAddDate x1 _ 1 0 L z _ HN1.out.tloc (by omega) (by omega) (by omega) (by omega) (.inr ⟨rfl, rfl, rfl⟩) (by omega) (by omega) (by omega) (by omega)).mono ?_; rintro e w1 ⟨rfl, hb1⟩; rw [HX2.out]; have HN2 := Lib.hid (HN1.out.call hb1); clear hb1 q0 q1 q2 f0 f1 f2; have q0 := HN2.out.t0; have q1 := HN2.out.t1; have q2 := HN2.out.t2; have f0 := HN2.out.fr 0; have f1 := HN2.out.fr 1; have f2 := HN2.out.fr 2)
              | (go_at_call 73; refine (tMonth 0 x2 L z _ (HN2.out.store x2).tloc hn0 (by omega) (by omega)).mono ?_; rintro e w2 ⟨rfl, hb2⟩; have HN3 := Lib.hid ((HN2.out.store x2).call hb2); clear hb2 q0 q1 q2 f0 f1 f2))
            exact ⟨_, (by rw [← HMf.out]; exact HPM.out.2.1), x2, true, ⟨fr_ex, HN3.out, HPM.out.1⟩, rfl, Nat.le_trans (Nat.le_of_lt HPM.out.2.1) (by rw [HMf.out]; exact hn), HPM.out.2.2.1 (by simpa using hm1), by omega, by omega, by omega, by omega, by omega⟩
end
end Go.Proofs.Ytjmgebhjkbcpcaa.NM
