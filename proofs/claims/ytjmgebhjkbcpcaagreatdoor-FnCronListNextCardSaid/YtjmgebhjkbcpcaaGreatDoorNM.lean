/- a part of the proof: FnCronListNext: for every six words, kind of field, part and instant the law function returns true and leaves its arguments as they were. No condition is added: the statement is the given one, the tied card. -/
import Derived.Test.YtjmgebhjkbcpcaaGreatDoorNL
import Derived.Test.YtjmgebhjkbcpcaaGreatDoorNF
import Derived.Test.YtjmgebhjkbcpcaaGreatDoorNB
import Derived.Test.YtjmgebhjkbcpcaaGreatDoorNK
import Derived.Deep.RegionHeld3
import Derived.Deep.DrawnRows
section
set_option linter.unusedVariables false
set_option linter.unusedSimpArgs false
set_option maxRecDepth 100000
namespace Go.Proofs.YtjmgebhjkbcpcaaGreatDoor.NM
open Go.RowKit Cal CronPl
theorem blk {P : Program} {id : Nat} {c y : Code} {Q : Exit → Act → World → Prop} {E G : Act → World → Prop} {a : Act} {w : World} (hl : (Code.loop c).wp P (QM id E G) a w)
    (hE : ∀ a w, E a w → y.wp P Q a w) (hG : ∀ a w, G a w → Q (.goto 0) a w) : (Code.seq (Code.block id (Code.loop c)) y).wp P Q a w := by
  refine wp_seq (wp_block (Go.wp_mono hl fun e a w hq => ?_))
  cases e with
  | exit i => obtain ⟨rfl, h⟩ := hq; simp only [Exit.inBlock, if_pos]; exact hE a w h
  | goto l => obtain ⟨rfl, h⟩ := hq; exact hG a w h
  | _ => exact hq.elim
section
variable (w : World) (bs bO bL : Nat) (ar : Value) (L : Option Addr) (z : Option Zone) (S : Sets) (x0 Y : Int) (P : Plain (lo z) (fun T => reso z T + 62135596800)) (hr : Rng x0 Y)
include P hr in
theorem rest_wp2 (n : Nat) (a' : Act) (wx : World) (hI : JW w bs bO bL ar L z S x0 Y n a' wx) :
    Code.wp Tryz.prog (sk2 rest70) (Exit.jump 0 (fun a' w' => ∃ m, m < n ∧ JW w bs bO bL ar L z S x0 Y m a' w') (bodyPost Tryz.prog Tryz.f177 (NextR w L z S x0 Y))) a' wx := by
  refine wp_seq ?_
  refine Go.wp_mono (year_wp w bs bO bL ar L z S x0 Y P hr n a' wx hI) fun e a1 w1 hq => ?_
  cases e with
  | normal =>
    refine blk (id := 0) (c := body70 0) (wp_loop_ghost (fun m => IL w bs bO bL ar L z S x0 Y n 0 m) n hq (month_round w bs bO bL ar L z S x0 Y P hr n)) ?_ (fun a w h => ⟨rfl, h⟩)
    rintro a1 w1 ⟨n1, h1⟩
    refine blk (id := 2) (c := body70 2) (wp_loop_ghost (fun m => IL w bs bO bL ar L z S x0 Y n 1 m) n1 h1 (day_round w bs bO bL ar L z S x0 Y P hr n)) ?_ (fun a w h => ⟨rfl, h⟩)
    rintro a2 w2 ⟨n2, h2⟩
    refine blk (id := 4) (c := body70 4) (wp_loop_ghost (fun m => IL w bs bO bL ar L z S x0 Y n 2 m) n2 h2 (hour_round w bs bO bL ar L z S x0 Y P hr n)) ?_ (fun a w h => ⟨rfl, h⟩)
    rintro a3 w3 ⟨n3, h3⟩
    refine blk (id := 6) (c := body70 6) (wp_loop_ghost (fun m => IL w bs bO bL ar L z S x0 Y n 3 m) n3 h3 (minute_round w bs bO bL ar L z S x0 Y P hr n)) ?_ (fun a w h => ⟨rfl, h⟩)
    rintro a4 w4 ⟨n4, h4⟩
    refine blk (id := 8) (c := body70 8) (wp_loop_ghost (fun m => IL w bs bO bL ar L z S x0 Y n 4 m) n4 h4 (second_round w bs bO bL ar L z S x0 Y P hr n)) ?_ (fun a w h => ⟨rfl, h⟩)
    rintro a5 w5 ⟨n5, h5⟩
    refine Go.wp_mono (end_wp w bs bO bL ar L z S x0 Y hr n5 n a5 w5 h5) fun e a w h => ?_
    cases e with
    | goto l => exact h.elim
    | _ => exact h
  | ret => exact hq
  | _ => exact hq.elim
include P hr in
theorem rest_wp (n : Nat) (a' : Act) (wx : World) (hI : JW w bs bO bL ar L z S x0 Y n a' wx) :
    Code.wp Tryz.prog rest70 (Exit.jump 0 (fun a' w' => ∃ m, m < n ∧ JW w bs bO bL ar L z S x0 Y m a' w') (bodyPost Tryz.prog Tryz.f177 (NextR w L z S x0 Y))) a' wx :=
  wp_seq (wp_skip (rest_wp2 w bs bO bL ar L z S x0 Y P hr n a' wx hI))
end
def LocN (w w' : World) (b : Nat) (L : Option Addr) : Option Zone → Prop
  | none => w.heap.size ≤ b ∧ b < w'.heap.size ∧ w'.cell? ⟨b, 0, none⟩ = some (.bool true) ∧ w'.cell? ⟨b, 2, none⟩ = some (.slice none 0 0)
  | some _ => L = some ⟨b, 0, none⟩
theorem tLocQ (n x : Int) (L : Option Addr) (z : Option Zone) (w : World) (hL : TLoc w L z) :
    Calls Tryz.prog 178 #[.agg #[.int .u64 n, .int .i64 x, .pointer L]] w fun e w' => ∃ b, e = .returned (.pointer (some ⟨b, 0, none⟩)) ∧ LocN w w' b L z ∧ Below w.heap.size w w' := by
  cases z with
  | none =>
    obtain rfl : L = none := hL
    go_enter Tryz.func178, Tryz.ntmps178
    go_wp2
    go_ret
    exact ⟨w.heap.size + 1, rfl, ⟨by simp, by simp, by simp [go_sem], by simp [go_sem]⟩, bA (bA (Below.refl _ _) _) _⟩
  | some z =>
    obtain ⟨hz, b, g1, g2, k1, k2, rfl, hw⟩ := hL
    go_enter Tryz.func178, Tryz.ntmps178
    go_wp2
    go_ret
    exact ⟨b, rfl, rfl, bA (Below.refl _ _) _⟩
theorem LocQ.of {w wx W : World} {L : Option Addr} {z : Option Zone} {b : Nat} (hL : TLoc w L z) (hsz : w.heap.size + 2 ≤ wx.heap.size)
    (h : LocN wx W b L z) : LocQ w W b z ∧ canon b z = L := by
  cases z with
  | none => exact ⟨⟨by have := h.1; omega, h.2⟩, (show L = none from hL).symm⟩
  | some z =>
    have h : L = some ⟨b, 0, none⟩ := h
    obtain ⟨hz, b', g1, g2, k1, k2, hb, hw⟩ := hL
    rw [h] at hb
    obtain rfl : b = b' := by simpa using hb
    exact ⟨⟨hz, g1, g2, k1, k2, hw⟩, h.symm⟩
structure PS (w wx : World) (L : Option Addr) (n x : Int) : Prop where
  bel : Below w.heap.size w wx
  sz : w.heap.size + 2 ≤ wx.heap.size
  t0 : wx.cell? ⟨w.heap.size, 0, none⟩ = some (.int .u64 n)
  t1 : wx.cell? ⟨w.heap.size, 1, none⟩ = some (.int .i64 x)
  t2 : wx.cell? ⟨w.heap.size, 2, none⟩ = some (.pointer L)
  fr : ∀ o, wx.frozen? ⟨w.heap.size, o, none⟩ = false
  r0 : wx.cell? ⟨w.heap.size + 1, 0, none⟩ = some (.int .u64 0)
  r1 : wx.cell? ⟨w.heap.size + 1, 1, none⟩ = some (.int .i64 0)
  r2 : wx.cell? ⟨w.heap.size + 1, 2, none⟩ = some (.pointer none)
  rf : ∀ o, wx.frozen? ⟨w.heap.size + 1, o, none⟩ = false
theorem PS.call {w wx wx' : World} {L : Option Addr} {n x : Int} (h : PS w wx L n x) (hb : Below wx.heap.size wx wx') : PS w wx' L n x := by
  have h1 : w.heap.size < wx.heap.size := by have := h.sz; omega
  have h2 : w.heap.size + 1 < wx.heap.size := by have := h.sz; omega
  exact ⟨h.bel.trans (hb.mono h.bel.size), Nat.le_trans h.sz hb.size, keep hb h.t0, keep hb h.t1, keep hb h.t2, fun o => (hb.frozen (p := ⟨w.heap.size, o, none⟩) h1).trans (h.fr o),
    keep hb h.r0, keep hb h.r1, keep hb h.r2, fun o => (hb.frozen (p := ⟨w.heap.size + 1, o, none⟩) h2).trans (h.rf o)⟩
theorem PS.store {w wx : World} {L : Option Addr} {n x : Int} (h : PS w wx L n x) (x' : Int) : PS w (((wx.setCell ⟨w.heap.size, 0, none⟩ (.int .u64 0)).setCell ⟨w.heap.size, 1, none⟩ (.int .i64 x')).setCell ⟨w.heap.size, 2, none⟩ (.pointer L)) L 0 x' := by
  have h0 := h.t0
  have h1 := h.t1
  have h2 := h.t2
  refine ⟨((h.bel.setCell (by simp) _).setCell (by simp) _).setCell (by simp) _, by have := h.sz; simpa [World.setCell] using this, ?_, ?_, ?_, fun o => ?_, ?_, ?_, ?_, fun o => ?_⟩
  · simp [go_sem, h0, h1, h2]
  · simp [go_sem, h0, h1, h2]
  · simp [go_sem, h0, h1, h2]
  · have := h.fr o; simp [go_sem, this]
  · rw [setc_other _ (by omega), setc_other _ (by omega), setc_other _ (by omega)]; exact h.r0
  · rw [setc_other _ (by omega), setc_other _ (by omega), setc_other _ (by omega)]; exact h.r1
  · rw [setc_other _ (by omega), setc_other _ (by omega), setc_other _ (by omega)]; exact h.r2
  · rw [setf_other _ (by omega), setf_other _ (by omega), setf_other _ (by omega)]; exact h.rf o
theorem LocQ.store {w wx : World} {L : Option Addr} {z : Option Zone} {b : Nat} (h : LocQ w wx b z) (x' : Int) : LocQ w (((wx.setCell ⟨w.heap.size, 0, none⟩ (.int .u64 0)).setCell ⟨w.heap.size, 1, none⟩ (.int .i64 x')).setCell ⟨w.heap.size, 2, none⟩ (.pointer L)) b z :=
  ((h.set _).set _).set _
theorem PS.ns {w wx : World} {L : Option Addr} {x : Int} {z : Option Zone} {bL bO bs : Nat} {S : Sets} (h : PS w wx L 0 x) (lL : LocQ w wx bL z) (cL : canon bL z = L) (lO : LocQ w wx bO z) (cO : canon bO z = L) (tl : TLoc w L z) (sp : SpecAt w bs S) : NS w wx L z bL bO bs S x :=
  ⟨h.bel, h.sz, h.t0, h.t1, h.t2, h.fr, h.r0, h.r1, h.r2, h.rf, lL, cL, lO, cO, tl, sp⟩
theorem ps0 (w : World) (L : Option Addr) (n x : Int) : PS w ((w.alloc (Obj.cells #[Value.int IntKind.u64 n, Value.int IntKind.i64 x, Value.pointer L] 84)).alloc (Obj.cells #[Value.int IntKind.u64 0, Value.int IntKind.i64 0, Value.pointer none] 84)) L n x :=
  ⟨bA (bA (Below.refl _ _) _) _, by simp, by simp [go_sem], by simp [go_sem], by simp [go_sem], fun o => by simp [go_sem], by simp [go_sem], by simp [go_sem], by simp [go_sem], fun o => by simp [go_sem]⟩
theorem seq_eq {P : Program} {x y : Code} {Q : Exit → Act → World → Prop} {a a0 : Act} {w w0 : World} (h : x.wp P (fun e a1 w1 => e = .normal ∧ a1 = a0 ∧ w1 = w0) a w) (h2 : y.wp P Q a0 w0) : (Code.seq x y).wp P Q a w := by
  refine wp_seq (Go.wp_mono h fun e a1 w1 hq => ?_)
  obtain ⟨rfl, rfl, rfl⟩ := hq
  exact h2
theorem inv0 (S : Sets) (z : Option Zone) (x : Int) : CronPl.Inv (cxOf S x (gyear (lo z x / 86400) + 5)) (lo z) x false := by
  refine ⟨fun v h0 h1 => ?_, ?_, fun _ => rfl, fun h => (by simp at h), ?_, Or.inl (Int.le_refl _)⟩
  · simp only [cxOf] at h0; omega
  · have g2 := (gdate (lo z x / 86400)).hi
    have g3 := ystart_le (show gyear (lo z x / 86400) + 1 ≤ gyear (lo z x / 86400) + 5 + 1 by omega)
    simp only [CronPl.top, cxOf]; omega
  · simp only [cxOf]; omega
set_option maxHeartbeats 4000000 in
theorem tNext (w : World) (bs : Nat) (n x : Int) (L : Option Addr) (z : Option Zone) (S : Sets) (P : Plain (lo z) (fun T => reso z T + 62135596800)) (hL : TLoc w L z) (hS : SpecAt w bs S) (hn : Nan n)
    (h0 : 0 ≤ x) (h1 : x ≤ 700000000000) :
    Calls Tryz.prog 177 #[.pointer (some ⟨bs, 0, none⟩), .agg #[.int .u64 n, .int .i64 x, .pointer L]] w (NextR w L z S (x + 1) (gyear (lo z (x + 1) / 86400) + 5)) := by
  go_enter Tryz.func177, Tryz.ntmps177
  apply seq_eq
  · go_wp2
    exact ⟨rfl, rfl⟩
  have hp0 := ps0 w L n x
  revert hp0
  generalize (w.alloc (Obj.cells #[Value.int IntKind.u64 n, Value.int IntKind.i64 x, Value.pointer L] 84)).alloc (Obj.cells #[Value.int IntKind.u64 0, Value.int IntKind.i64 0, Value.pointer none] 84) = W0
  intro hp0
  refine wp_scope_ghost 0 (fun m a' wx => ∃ bO bL, JW w bs bO bL (.agg #[.int .u64 n, .int .i64 x, .pointer L]) L z S (x + 1) (gyear (lo z (x + 1) / 86400) + 5) m a' wx) (rest := rest70) rfl ?first ?pass
  case pass =>
    rintro n1 a1 w1 ⟨bO, bL, hJ⟩
    have hY := hL.off_bd (x + 1 - 62135596800)
    have hl : lo z (x + 1) = x + 1 - 62135596800 + offO z (x + 1 - 62135596800) := rfl
    have hg := gdate (lo z (x + 1) / 86400)
    have g1 := hg.lo
    have g2 := hg.hi
    unfold ystart at g1 g2
    refine Go.wp_mono (rest_wp w bs bO bL _ L z S (x + 1) _ P ⟨by omega, by omega, by omega, by omega⟩ n1 a1 w1 hJ) fun e a w h => ?_
    cases e with
    | goto l => obtain ⟨hl, m, hm, h⟩ := h; exact ⟨hl, m, hm, bO, bL, h⟩
    | _ => exact h
  case first =>
    have h6 : W0.cell? ⟨bs, 6, none⟩ = some (.pointer none) := (hS.below hp0.bel).c6
    have t0 := hp0.t0
    have t1 := hp0.t1
    have t2 := hp0.t2
    have HS := Lib.hid hS
    have HL := Lib.hid hL
    have HP := Lib.hid P
    have hN0 := Lib.hid hp0
    clear hS hL P hp0
    go_wp2_with (first
      | (go_at_call 178; refine (tLocQ n x L z _ (HL.out.below hN0.out.bel)).mono ?_; rintro e w1 ⟨b1, rfl, hq1, hb1⟩; have hQ1 := Lib.hid (LocQ.of HL.out hN0.out.sz hq1); have hN1 := Lib.hid (hN0.out.call hb1); have h6 := keep hb1 h6; clear t0 t1 t2 hN0 hq1 hb1; have t0 := hN1.out.t0; have t1 := hN1.out.t1; have t2 := hN1.out.t2)
      | (go_at_call 178; refine (tLocQ n x L z _ (HL.out.below hN1.out.bel)).mono ?_; rintro e w2 ⟨b2, rfl, hq2, hb2⟩; have hQ2 := Lib.hid (LocQ.of HL.out hN1.out.sz hq2); have hQ1 := Lib.hid (And.intro (hQ1.out.1.call hb2) hQ1.out.2); have hN2 := Lib.hid (hN1.out.call hb2); have h6 := keep hb2 h6; clear t0 t1 t2 hN1 hq2 hb2; have t0 := hN2.out.t0; have t1 := hN2.out.t1; have t2 := hN2.out.t2))
    have hw1 : IntKind.i64.wrap n = n := IntWalk.i64_in _ (by have := hn.1; have := hn.2; omega)
    have hw2 : IntKind.i64.wrap (1000000000 - n) = 1000000000 - n := IntWalk.i64_in _ (by have := hn.1; have := hn.2; omega)
    go_region_with (first
      | (go_at_call 98; refine (tNano n x L hn _).mono ?_; rintro e w3 ⟨rfl, hb3⟩; have hN3 := Lib.hid ((hN2.out.call (Below.refl _ _).drew).call hb3); have hQ3 := Lib.hid (And.intro ((hQ1.out.1.call (Below.refl _ _).drew).call hb3) ((hQ2.out.1.call (Below.refl _ _).drew).call hb3)); clear t0 t1 t2 hb3; have t0 := hN3.out.t0; have t1 := hN3.out.t1; have t2 := hN3.out.t2)
      | (go_at_call 179; refine (tAdd1 n x L _ hn h0 (by omega)).mono ?_; rintro e w4 ⟨rfl, hb4⟩; have hN4 := Lib.hid (hN3.out.call hb4); have hQ4 := Lib.hid (And.intro (hQ3.out.1.call hb4) (hQ3.out.2.call hb4)); clear t0 t1 t2 hb4; have t0 := hN4.out.t0; have t1 := hN4.out.t1; have t2 := hN4.out.t2; have f0 := hN4.out.fr 0; have f1 := hN4.out.fr 1; have f2 := hN4.out.fr 2))
    all_goals
      have hN5 := Lib.hid (hN4.out.store (x + 1))
      have hQ5 := Lib.hid (And.intro (hQ4.out.1.store (L := L) (x + 1)) (hQ4.out.2.store (L := L) (x + 1)))
      clear t0 t1 t2 f0 f1 f2 h6
      revert hN5 hQ5
      generalize ((w4.setCell { block := w.heap.size, off := 0 } (Value.int IntKind.u64 0)).setCell { block := w.heap.size, off := 1 } (Value.int IntKind.i64 (x + 1))).setCell { block := w.heap.size, off := 2 } (Value.pointer L) = w5
      intro hN5 hQ5
      have t0 := hN5.out.t0
      have t1 := hN5.out.t1
      have t2 := hN5.out.t2
      have hY := HL.out.off_bd (x + 1 - 62135596800)
      have hl : lo z (x + 1) = x + 1 - 62135596800 + offO z (x + 1 - 62135596800) := rfl
      have hg := gdate (lo z (x + 1) / 86400)
      have g1 := hg.lo
      have g2 := hg.hi
      unfold ystart at g1 g2
      have hw3 : IntKind.i64.wrap (gyear (lo z (x + 1) / 86400) + 5) = gyear (lo z (x + 1) / 86400) + 5 := IntWalk.i64_in _ (by omega)
      have hrg : Rng (x + 1) (gyear (lo z (x + 1) / 86400) + 5) := ⟨by omega, by omega, by omega, by omega⟩
      have hRG := Lib.hid hrg
      clear hl hY hg g1 g2 hrg
      have hn0 : Nan 0 := ⟨by decide, by decide⟩
      go_wp2_with (go_at_call 180; refine (tYear 0 (x + 1) L z _ (HL.out.below hN5.out.bel) hn0 (by omega) (by omega)).mono ?_; rintro e w6 ⟨rfl, hb6⟩; have hN6 := Lib.hid (hN5.out.call hb6); have hQ6 := Lib.hid (And.intro (hQ5.out.1.call hb6) (hQ5.out.2.call hb6)); clear t0 t1 t2 hb6)
      go_step3
      rename_i K hK
      refine hK _ _ ?_
      refine Go.wp_mono (rest_wp2 w bs b1 b2 _ L z S (x + 1) _ HP.out hRG.out _ _ _ ⟨x + 1, false, ⟨fr_ex, hN6.out.ns hQ6.out.2 hQ2.out.2 hQ6.out.1 hQ1.out.2 HL.out HS.out, inv0 S z (x + 1)⟩, rfl⟩) fun e a w h => ?_
      cases e with
      | goto l => obtain ⟨hl, m, hm, h⟩ := h; exact ⟨hl, m, _, _, h⟩
      | _ => exact h
end Go.Proofs.YtjmgebhjkbcpcaaGreatDoor.NM
end
section
set_option linter.unusedVariables false
set_option linter.unusedSimpArgs false
namespace Go.Proofs.YtjmgebhjkbcpcaaGreatDoor.NM
open Go.RowKit Cal CronPl
/-- a block of the walk's own, with its cells, that may be written -/
structure BoxAt (W : World) (b n : Nat) (v : Nat → Value) : Prop where
  lt : b < W.heap.size
  c : ∀ i, i < n → W.cell? ⟨b, i, none⟩ = some (v i)
  f : ∀ o, W.frozen? ⟨b, o, none⟩ = false
theorem BoxAt.call {W W' : World} {b n : Nat} {v : Nat → Value} (h : BoxAt W b n v) (hb : Below W.heap.size W W') : BoxAt W' b n v :=
  ⟨Nat.lt_of_lt_of_le h.lt hb.size, fun i hi => keep hb (h.c i hi), fun o => (hb.frozen (p := ⟨b, o, none⟩) h.lt).trans (h.f o)⟩
set_option maxHeartbeats 2000000 in
theorem tPlain (n x : Int) (L : Option Addr) (w : World) (hn : Nan n) (h0 : 0 ≤ x) (h1 : x ≤ 2000000000000) :
    Calls Tryz.prog 65 #[.agg #[.int .u64 n, .int .i64 x, .pointer L]] w fun e w' => e = .returned (.agg #[.int .i64 (x - 62135596800), .int .i64 n]) ∧ Below w.heap.size w w' := by
  go_enter Tryz.func65, Tryz.ntmps65
  go_wp2_with fail
  generalize hW : (w.alloc _).alloc _ = W
  have hbW : Below w.heap.size w W := by rw [← hW]; exact bA (bA (Below.refl _ _) _) _
  have t0 : W.cell? ⟨w.heap.size, 0, none⟩ = some (.int .u64 n) := by rw [← hW]; simp [go_sem]
  have t1 : W.cell? ⟨w.heap.size, 1, none⟩ = some (.int .i64 x) := by rw [← hW]; simp [go_sem]
  have t2 : W.cell? ⟨w.heap.size, 2, none⟩ = some (.pointer L) := by rw [← hW]; simp [go_sem]
  have r0 : W.cell? ⟨w.heap.size + 1, 0, none⟩ = some (.int .i64 0) := by rw [← hW]; simp [go_sem]
  have r1 : W.cell? ⟨w.heap.size + 1, 1, none⟩ = some (.int .i64 0) := by rw [← hW]; simp [go_sem]
  have f0 : W.frozen? ⟨w.heap.size + 1, 0, none⟩ = false := by rw [← hW]; simp [go_sem]
  have f1 : W.frozen? ⟨w.heap.size + 1, 1, none⟩ = false := by rw [← hW]; simp [go_sem]
  have hs : w.heap.size + 2 ≤ W.heap.size := by rw [← hW]; simp
  clear hW
  go_region_held3 (fun w' => w'.cell? ⟨w.heap.size, 0, none⟩ = some (.int .u64 n) ∧ w'.cell? ⟨w.heap.size, 1, none⟩ = some (.int .i64 x) ∧ w'.cell? ⟨w.heap.size, 2, none⟩ = some (.pointer L)) (first | exact ⟨by assumption, by assumption, by assumption⟩ | (refine ⟨?_, ?_, ?_⟩ <;> (rw [setc_other _ (by omega), setc_other _ (by omega)]; assumption))) (first
    | (go_at_call 97; refine (tUnix n x L hn (by omega) (by omega) _).mono ?_; rintro e w1 ⟨rfl, hb1⟩; have hb1 : Below W.heap.size W w1 := Below.trans (Below.refl _ _).drew hb1; have t0 := keep hb1 t0; have t1 := keep hb1 t1; have t2 := keep hb1 t2; have r0 := keep hb1 r0; have r1 := keep hb1 r1)
    | (go_at_call 98; refine (tNano n x L hn _).mono ?_; rintro e w2 ⟨rfl, hb2⟩; have t0 := keep hb2 t0; have t1 := keep hb2 t1; have t2 := keep hb2 t2; have r0 := keep hb2 r0; have r1 := keep hb2 r1; have f0 := (hb2.frozen (p := ⟨w.heap.size + 1, 0, none⟩) (by have := hb1.size; show w.heap.size + 1 < _; omega)).trans ((hb1.frozen (p := ⟨w.heap.size + 1, 0, none⟩) (by show w.heap.size + 1 < _; omega)).trans f0); have f1 := (hb2.frozen (p := ⟨w.heap.size + 1, 1, none⟩) (by have := hb1.size; show w.heap.size + 1 < _; omega)).trans ((hb1.frozen (p := ⟨w.heap.size + 1, 1, none⟩) (by show w.heap.size + 1 < _; omega)).trans f1)))
  all_goals
    go_wp2
    have hb3 : Below w.heap.size w w2 := hbW.trans ((hb1.mono hbW.size).trans (hb2.mono (Nat.le_trans hbW.size hb1.size)))
    exact bodyPost_ret (v := .agg #[.int .i64 (x - 62135596800), .int .i64 n]) (by simp [results, Tryz.results65, go_sem, r0, r1]) rfl ⟨rfl, (hb3.setCell (by simp) _).setCell (by simp) _⟩
end Go.Proofs.YtjmgebhjkbcpcaaGreatDoor.NM
end
section
set_option linter.unusedVariables false
set_option linter.unusedSimpArgs false
namespace Go.Proofs.YtjmgebhjkbcpcaaGreatDoor.NM
open Go.RowKit Cal CronPl
theorem tMoment (s n : Int) (b : Nat) (z : Option Zone) (w : World) (hL : LocP w b z) (h0 : -62135596800 ≤ s) (h1 : s ≤ 3000000000000) (hn : Nan n) :
    Calls Tryz.prog 31 #[.agg #[.int .i64 s, .int .i64 n], .pointer (some ⟨b, 0, none⟩)] w fun e w' => e = .returned (.agg #[.int .u64 n, .int .i64 (s + 62135596800), .pointer (canon b z)]) ∧ Below w.heap.size w w' := by
  have HL := Lib.hid hL
  clear hL
  go_enter Tryz.func31, Tryz.ntmps31
  go_upto_region 1 with fail
  generalize hW : (w.alloc _).alloc _ = W
  have hbW : Below w.heap.size w W := by rw [← hW]; exact bA (bA (Below.refl _ _) _) _
  have t0 : W.cell? ⟨w.heap.size, 0, none⟩ = some (.int .i64 s) := by rw [← hW]; simp [go_sem]
  have t1 : W.cell? ⟨w.heap.size, 1, none⟩ = some (.int .i64 n) := by rw [← hW]; simp [go_sem]
  have hR : Hid (BoxAt W (w.heap.size + 1) 3 (fun i => [.int .u64 0, .int .i64 0, .pointer none].getD i undef)) := Lib.hid ⟨by rw [← hW]; simp, fun i hi => by rw [← hW]; rcases i with _ | _ | _ | i <;> first | omega | simp [go_sem], fun o => by rw [← hW]; simp [go_sem]⟩
  clear hW
  go_wp2_with (first
    | (go_at_call 66; refine (tMkUnix s n h0 h1 hn.1 hn.2 _).mono ?_; rintro e w1 ⟨rfl, hb1⟩; have hR1 := Lib.hid (hR.out.call hb1))
    | (go_at_call 67; refine (tIn n (s + 62135596800) none b z _ (LocP.below (HL.out.below hbW) hb1) hn).mono ?_; rintro e w2 ⟨rfl, hb2⟩; have hR2 := Lib.hid (hR1.out.call hb2); have r0 := hR2.out.c 0 (by decide); have r1 := hR2.out.c 1 (by decide); have r2 := hR2.out.c 2 (by decide); have f0 := hR2.out.f 0; have f1 := hR2.out.f 1; have f2 := hR2.out.f 2))
  have hb3 : Below w.heap.size w w2 := hbW.trans ((hb1.mono hbW.size).trans (hb2.mono (Nat.le_trans hbW.size hb1.size)))
  exact bodyPost_ret (v := .agg #[.int .u64 n, .int .i64 (s + 62135596800), .pointer (canon b z)]) (by simp [results, Tryz.results31, go_sem, r0, r1, r2]) rfl ⟨rfl, ((hb3.setCell (by simp) _).setCell (by simp) _).setCell (by simp) _⟩
theorem tAnswer1 (x : Int) (L : Option Addr) (w : World) (h0 : 0 < x) (h1 : x ≤ 2000000000000) :
    Calls Tryz.prog 29 #[.agg #[.int .u64 0, .int .i64 x, .pointer L]] w fun e w' => e = .returned (.tuple #[.agg #[.int .i64 (x - 62135596800), .int .i64 0], .bool true]) ∧ Below w.heap.size w w' := by
  have hn : Nan 0 := ⟨by decide, by decide⟩
  go_enter Tryz.func29, Tryz.ntmps29
  go_upto_region 1 with fail
  generalize hW : (w.alloc _).alloc _ = W
  have hbW : Below w.heap.size w W := by rw [← hW]; exact bA (bA (Below.refl _ _) _) _
  have t0 : W.cell? ⟨w.heap.size, 0, none⟩ = some (.int .u64 0) := by rw [← hW]; simp [go_sem]
  have t1 : W.cell? ⟨w.heap.size, 1, none⟩ = some (.int .i64 x) := by rw [← hW]; simp [go_sem]
  have t2 : W.cell? ⟨w.heap.size, 2, none⟩ = some (.pointer L) := by rw [← hW]; simp [go_sem]
  have hR : Hid (BoxAt W (w.heap.size + 1) 2 (fun i => [.int .i64 0, .int .i64 0].getD i undef)) := Lib.hid ⟨by rw [← hW]; simp, fun i hi => by rw [← hW]; rcases i with _ | _ | i <;> first | omega | simp [go_sem], fun o => by rw [← hW]; simp [go_sem]⟩
  clear hW
  go_wp2_with (first
    | (go_at_call 64; refine (tIsZero 0 x L (by simp; omega) _).mono ?_; rintro e w1 ⟨rfl, hb1⟩; have hR1 := Lib.hid (hR.out.call hb1); have t0 := keep hb1 t0; have t1 := keep hb1 t1; have t2 := keep hb1 t2)
    | (go_at_call 65; refine (tPlain 0 x L _ hn (by omega) h1).mono ?_; rintro e w2 ⟨rfl, hb2⟩; have hR2 := Lib.hid (hR1.out.call hb2); have r0 := hR2.out.c 0 (by decide); have r1 := hR2.out.c 1 (by decide); have f0 := hR2.out.f 0; have f1 := hR2.out.f 1))
  have hb3 : Below w.heap.size w w2 := hbW.trans ((hb1.mono hbW.size).trans (hb2.mono (Nat.le_trans hbW.size hb1.size)))
  exact bodyPost_ret (v := .tuple #[.agg #[.int .i64 (x - 62135596800), .int .i64 0], .bool true]) (by simp [results, Tryz.results29, go_sem, r0, r1]) rfl ⟨rfl, (hb3.setCell (by simp) _).setCell (by simp) _⟩
theorem tAnswer0 (L : Option Addr) (w : World) :
    Calls Tryz.prog 29 #[.agg #[.int .u64 0, .int .i64 0, .pointer L]] w fun e w' => e = .returned (.tuple #[.agg #[.int .i64 0, .int .i64 0], .bool false]) ∧ Below w.heap.size w w' := by
  go_enter Tryz.func29, Tryz.ntmps29
  go_upto_region 1 with fail
  generalize hW : (w.alloc _).alloc _ = W
  have hbW : Below w.heap.size w W := by rw [← hW]; exact bA (bA (Below.refl _ _) _) _
  have t0 : W.cell? ⟨w.heap.size, 0, none⟩ = some (.int .u64 0) := by rw [← hW]; simp [go_sem]
  have t1 : W.cell? ⟨w.heap.size, 1, none⟩ = some (.int .i64 0) := by rw [← hW]; simp [go_sem]
  have t2 : W.cell? ⟨w.heap.size, 2, none⟩ = some (.pointer L) := by rw [← hW]; simp [go_sem]
  have hR : Hid (BoxAt W (w.heap.size + 1) 2 (fun i => [.int .i64 0, .int .i64 0].getD i undef)) := Lib.hid ⟨by rw [← hW]; simp, fun i hi => by rw [← hW]; rcases i with _ | _ | i <;> first | omega | simp [go_sem], fun o => by rw [← hW]; simp [go_sem]⟩
  clear hW
  go_wp2_with (first
    | (go_at_call 64; refine (tIsZero0 L _).mono ?_; rintro e w1 ⟨rfl, hb1⟩; have hR1 := Lib.hid (hR.out.call hb1); have r0 := hR1.out.c 0 (by decide); have r1 := hR1.out.c 1 (by decide); have f0 := hR1.out.f 0; have f1 := hR1.out.f 1))
  have hb3 : Below w.heap.size w w1 := hbW.trans (hb1.mono hbW.size)
  exact bodyPost_ret (v := .tuple #[.agg #[.int .i64 0, .int .i64 0], .bool false]) (by simp [results, Tryz.results29, go_sem, r0, r1]) rfl ⟨rfl, (hb3.setCell (by simp) _).setCell (by simp) _⟩
end Go.Proofs.YtjmgebhjkbcpcaaGreatDoor.NM
end
section
set_option linter.unusedVariables false
set_option linter.unusedSimpArgs false
namespace Go.Proofs.YtjmgebhjkbcpcaaGreatDoor.NM
open Go.RowKit Cal CronPl
abbrev schedV (ev : Bool) (d : Int) (S : Sets) : Value := .agg #[.bool ev, .int .i64 d, .int .u64 S.se, .int .u64 S.mi, .int .u64 S.ho, .int .u64 S.dom, .int .u64 S.mon, .int .u64 S.dow]
theorem tSched0 (d : Int) (S : Sets) (w : World) :
    Calls Tryz.prog 30 #[schedV false d S, .pointer none] w fun e w' => ∃ b, e = .returned (.iface 101 (.pointer (some ⟨b, 0, none⟩))) ∧ SpecAt w' b S ∧ Below w.heap.size w w' := by
  go_enter Tryz.func30, Tryz.ntmps30
  go_wp2
  go_ret
  exact ⟨w.heap.size + 1, rfl, ⟨by simp [go_sem], by simp [go_sem], by simp [go_sem], by simp [go_sem], by simp [go_sem], by simp [go_sem], by simp [go_sem]⟩, bA (bA (Below.refl _ _) _) _⟩
end Go.Proofs.YtjmgebhjkbcpcaaGreatDoor.NM
end
section
set_option linter.unusedVariables false
set_option linter.unusedSimpArgs false
namespace Go.Proofs.YtjmgebhjkbcpcaaGreatDoor.NM
open Go.RowKit Cal CronPl
theorem plain_utc : Plain (lo none) (fun T => reso none T + 62135596800) where
  step := fun x => by simp only [lo, offO]; left; omega
  mod := fun x => by simp only [lo, offO]; omega
  lo := fun x => by simp only [lo, offO]; omega
  hi := fun x => by simp only [lo, offO]; omega
  mid := fun N => by simp only [lo, offO, reso]; omega
  hour := fun x => by simp only [lo, offO, reso]; omega
/-- the last year that a search from behind x looks at -/
def lastY (z : Option Zone) (x : Int) : Int := gyear (lo z (x + 1) / 86400) + 5
def IsNext (S : Sets) (z : Option Zone) (x v : Int) : Prop :=
  Match (cxOf S (x + 1) (lastY z x)) (lo z) v ∧ NM (cxOf S (x + 1) (lastY z x)) (lo z) (x + 1) v ∧ x + 1 ≤ v ∧ gyear (lo z v / 86400) ≤ lastY z x
theorem IsNext.uniq {S : Sets} {z : Option Zone} {x v v' : Int} (h : IsNext S z x v) (h' : IsNext S z x v') : v = v' := by
  rcases Int.lt_trichotomy v v' with q | q | q
  · exact absurd h.1 (h'.2.1 v h.2.2.1 q)
  · exact q
  · exact absurd h'.1 (h.2.1 v' h'.2.2.1 q)
open Classical in
noncomputable def nextOf (S : Sets) (z : Option Zone) (x : Int) : Option Int := if h : ∃ v, IsNext S z x v then some h.choose else none
theorem nextOf_some {S : Sets} {z : Option Zone} {x v : Int} (h : IsNext S z x v) : nextOf S z x = some v := by
  unfold nextOf
  rw [dif_pos ⟨v, h⟩]
  exact congrArg some ((Exists.choose_spec (⟨v, h⟩ : ∃ v, IsNext S z x v)).uniq h)
theorem nextOf_is {S : Sets} {z : Option Zone} {x v : Int} (h : nextOf S z x = some v) : IsNext S z x v := by
  unfold nextOf at h
  split at h
  · rename_i hh
    injection h with h
    rw [← h]; exact hh.choose_spec
  · simp at h
theorem nextOf_none {S : Sets} {z : Option Zone} (P : Plain (lo z) (fun T => reso z T + 62135596800)) {x : Int} (h : nextOf S z x = none) (v : Int) (h0 : x + 1 ≤ v) (hv : gyear (lo z v / 86400) ≤ lastY z x) :
    ¬ Match (cxOf S (x + 1) (lastY z x)) (lo z) v := by
  have key : ∀ n : Nat, ∀ v, v - (x + 1) = n → gyear (lo z v / 86400) ≤ lastY z x → ¬ Match (cxOf S (x + 1) (lastY z x)) (lo z) v := by
    intro n
    induction n using Nat.strongRecOn with
    | _ n ih =>
      intro v hn hv hm
      have : IsNext S z x v := by
        refine ⟨hm, fun u u0 u1 => ?_, by omega, hv⟩
        refine ih (u - (x + 1)).toNat (by omega) u (by omega) ?_
        have := P.dle (show u ≤ v by omega)
        have a1 := (gdate (lo z u / 86400)).lo
        have a2 := (gdate (lo z v / 86400)).hi
        rcases Int.lt_or_le (lastY z x) (gyear (lo z u / 86400)) with q | q
        · have a3 := ystart_le (show gyear (lo z v / 86400) + 1 ≤ gyear (lo z u / 86400) by omega)
          omega
        · exact q
      rw [nextOf_some this] at h
      simp at h
  exact key (v - (x + 1)).toNat v (by omega) hv
theorem ystart6 (y : Int) : ystart (y + 6) ≤ ystart y + 2196 := by unfold ystart; omega
def nextV (L : Option Addr) : Option Int → Value
  | some x => .agg #[.int .u64 0, .int .i64 x, .pointer L]
  | none => .agg #[.int .u64 0, .int .i64 0, .pointer none]
theorem NextR.eq {w : World} {L : Option Addr} {z : Option Zone} {S : Sets} {x : Int} {e : Ending} {w' : World} (P : Plain (lo z) (fun T => reso z T + 62135596800)) (h : NextR w L z S (x + 1) (gyear (lo z (x + 1) / 86400) + 5) e w') :
    e = .returned (nextV L (nextOf S z x)) ∧ Below w.heap.size w w' := by
  obtain ⟨h, hb⟩ := h
  refine ⟨?_, hb⟩
  rcases h with ⟨x', rfl, h1, h2, h3, h4⟩ | ⟨rfl, h1⟩
  · rw [nextOf_some (x := x) (v := x') ⟨h1, h2, h3, h4⟩]; rfl
  · cases hc : nextOf S z x with
    | none => rfl
    | some v => exact absurd (nextOf_is hc).1 (h1 v (nextOf_is hc).2.2.1 (nextOf_is hc).2.2.2)
theorem tNext' (w : World) (bs : Nat) (n x : Int) (L : Option Addr) (z : Option Zone) (S : Sets) (P : Plain (lo z) (fun T => reso z T + 62135596800)) (hL : TLoc w L z) (hS : SpecAt w bs S) (hn : Nan n)
    (h0 : 0 ≤ x) (h1 : x ≤ 700000000000) :
    Calls Tryz.prog 177 #[.pointer (some ⟨bs, 0, none⟩), .agg #[.int .u64 n, .int .i64 x, .pointer L]] w fun e w' => e = .returned (nextV L (nextOf S z x)) ∧ Below w.heap.size w w' :=
  (tNext w bs n x L z S P hL hS hn h0 h1).mono fun e w' h => h.eq P
def ansV : Option Int → Value
  | some x => .tuple #[.agg #[.int .i64 (x - 62135596800), .int .i64 0], .bool true]
  | none => .tuple #[.agg #[.int .i64 0, .int .i64 0], .bool false]
end Go.Proofs.YtjmgebhjkbcpcaaGreatDoor.NM
end
section
set_option linter.unusedVariables false
set_option linter.unusedSimpArgs false
namespace Go.Proofs.YtjmgebhjkbcpcaaGreatDoor.NM
open Cal CronPl Go.RowKit Go.Proofs.YtjmgebhjkbcpcaaGreatDoorW.PrintWords Go.Proofs.YtjmgebhjkbcpcaaGreatDoor.PcronNone Go.Proofs.YtjmgebhjkbcpcaaGreatDoor.PCronParse
theorem w64 (n : Int) (h0 : -9223372036854775808 ≤ n) (h1 : n ≤ 9223372036854775807) : wrap64 n = n := IntWalk.wrap64_in n ⟨h0, h1⟩
theorem fdiv_gen (a b : Int) (hb : 0 < b) (h0 : -4000000000000000000 ≤ a) (h1 : a ≤ 4000000000000000000) : spec_floorDiv.f a b = some (a / b) := by
  unfold spec_floorDiv.f
  rw [if_neg (by omega)]
  have hq : -4000000000000000000 ≤ a / b ∧ a / b ≤ 4000000000000000000 := by
    constructor
    · have := Int.ediv_le_ediv hb h0
      have : -4000000000000000000 ≤ (-4000000000000000000 : Int) / b := by
        rw [Int.le_ediv_iff_mul_le hb]
        have : (-4000000000000000000 : Int) * b ≤ (-4000000000000000000 : Int) * 1 := Int.mul_le_mul_of_nonpos_left (by omega) (by omega)
        omega
      omega
    · rcases Int.lt_or_le a 0 with q | q
      · have := Int.ediv_neg_of_neg_of_pos q hb; omega
      · have := Int.ediv_le_self b q; omega
  rcases Int.lt_or_le a 0 with q | q
  · obtain ⟨n, rfl⟩ : ∃ n, a = -n := ⟨-a, by omega⟩
    have hn : 0 ≤ n := by omega
    rw [Int.neg_tmod, Int.neg_tdiv, Int.tmod_eq_emod_of_nonneg hn, Int.tdiv_eq_ediv_of_nonneg hn]
    have e := Int.mul_ediv_add_emod n b
    have e0 := Int.emod_nonneg n (show b ≠ 0 by omega)
    have e1 := Int.emod_lt_of_pos n hb
    have hnb : 0 ≤ n / b ∧ n / b ≤ n := ⟨Int.ediv_nonneg hn (by omega), Int.ediv_le_self b hn⟩
    by_cases c : -(n % b) < 0
    · rw [if_pos c, w64 (-(n / b)) (by omega) (by omega), w64 _ (by omega) (by omega)]
      congr 1
      have : (-n) / b = -(n / b) - 1 := by
        refine (Int.ediv_eq_iff_of_pos hb).mpr ⟨?_, ?_⟩
        · rw [Int.sub_mul, Int.neg_mul, Int.mul_comm (n / b) b]; omega
        · rw [Int.sub_mul, Int.neg_mul, Int.mul_comm (n / b) b]; omega
      omega
    · rw [if_neg c, w64 _ (by omega) (by omega)]
      congr 1
      have : (-n) / b = -(n / b) := by
        refine (Int.ediv_eq_iff_of_pos hb).mpr ⟨?_, ?_⟩
        · rw [Int.neg_mul, Int.mul_comm (n / b) b]; omega
        · rw [Int.neg_mul, Int.mul_comm (n / b) b]; omega
      omega
  · rw [Int.tmod_eq_emod_of_nonneg q, Int.tdiv_eq_ediv_of_nonneg q, if_neg (by have := Int.emod_nonneg a (show b ≠ 0 by omega); omega), w64 _ (by omega) (by omega)]
theorem fmod_gen (a b : Int) (hb : 0 < b) (hb2 : b ≤ 1000000000) (h0 : -4000000000000000000 ≤ a) (h1 : a ≤ 4000000000000000000) : spec_floorMod.f a b = some (a % b) := by
  unfold spec_floorMod.f
  rw [fdiv_gen a b hb h0 h1]
  show some (wrap64 (a - wrap64 (b * (a / b)))) = some (a % b)
  have e := Int.mul_ediv_add_emod a b
  have e0 := Int.emod_nonneg a (show b ≠ 0 by omega)
  have e1 := Int.emod_lt_of_pos a hb
  rw [w64 (b * (a / b)) (by omega) (by omega), w64 _ (by omega) (by omega)]
  congr 1; omega
end Go.Proofs.YtjmgebhjkbcpcaaGreatDoor.NM
end
section
set_option linter.unusedVariables false
set_option linter.unusedSimpArgs false
namespace Go.Proofs.YtjmgebhjkbcpcaaGreatDoor.NM
open Cal CronPl Go.RowKit Go.Proofs.YtjmgebhjkbcpcaaGreatDoorW.PrintWords Go.Proofs.YtjmgebhjkbcpcaaGreatDoor.PcronNone Go.Proofs.YtjmgebhjkbcpcaaGreatDoor.PCronParse
theorem ystart_f (y : Int) (h0 : -1000000 ≤ y) (h1 : y ≤ 1000000) : spec_CronYearStart.f y = some (ystart y) := by
  unfold spec_CronYearStart.f
  rw [w64 (y - 1) (by omega) (by omega), fdiv_gen _ 4 (by decide) (by omega) (by omega), fdiv_gen _ 100 (by decide) (by omega) (by omega), fdiv_gen _ 400 (by decide) (by omega) (by omega)]
  simp only [Option.bind_some]
  rw [w64 (365 * (y - 1)) (by omega) (by omega), w64 (365 * (y - 1) + (y - 1) / 4) (by omega) (by omega), w64 (365 * (y - 1) + (y - 1) / 4 - (y - 1) / 100) (by omega) (by omega),
    w64 (365 * (y - 1) + (y - 1) / 4 - (y - 1) / 100 + (y - 1) / 400) (by omega) (by omega), w64 _ (by omega) (by omega)]
  rfl
theorem tmod0 (y b : Int) (hb : 0 < b) : (Int.tmod y b = 0) ↔ y % b = 0 := by
  constructor
  · intro h; exact Int.emod_eq_zero_of_dvd (Int.dvd_of_tmod_eq_zero h)
  · intro h; exact Int.tmod_eq_zero_of_dvd (Int.dvd_of_emod_eq_zero h)
theorem leap_f (y : Int) : spec_CronLeap.f y = some (decide (leapI y = 1)) := by
  unfold spec_CronLeap.f leapI
  have a := tmod0 y 4 (by decide)
  have b := tmod0 y 100 (by decide)
  have c := tmod0 y 400 (by decide)
  by_cases h4 : y % 4 = 0
  · rw [if_pos (a.2 h4)]
    by_cases h1 : y % 100 = 0
    · rw [if_pos (b.2 h1)]
      by_cases h2 : y % 400 = 0
      · simp [h4, h1, h2, c.2 h2]
      · have : ¬ Int.tmod y 400 = 0 := fun h => h2 (c.1 h)
        simp [h4, h1, h2, this]
    · rw [if_neg (fun h => h1 (b.1 h))]
      simp [h4, h1]
  · rw [if_neg (fun h => h4 (a.1 h))]
    simp [h4]
theorem mdays_f (y m : Int) : spec_CronMonthDays.f y m = some (mlen y m) := by
  unfold spec_CronMonthDays.f mlen
  rw [leap_f]
  by_cases h2 : m = 2
  · rw [if_pos h2, if_pos h2]
    rcases leapI_01 y with h | h <;> simp [h]
  · rw [if_neg h2, if_neg h2]
    by_cases h4 : m = 4
    · rw [if_pos h4, if_pos (.inl h4)]
    · rw [if_neg h4]
      by_cases h6 : m = 6
      · rw [if_pos h6, if_pos (.inr (.inl h6))]
      · rw [if_neg h6]
        by_cases h9 : m = 9
        · rw [if_pos h9, if_pos (.inr (.inr (.inl h9)))]
        · rw [if_neg h9]
          by_cases h11 : m = 11
          · rw [if_pos h11, if_pos (.inr (.inr (.inr h11)))]
          · rw [if_neg h11, if_neg (by omega)]
theorem gyear_bd (n : Int) (h0 : -4000000 ≤ n) (h1 : n ≤ 4000000) : -20000 ≤ gyear n ∧ gyear n ≤ 20000 := by
  have h := gdate n
  have a := h.lo
  have b := h.hi
  unfold ystart at a b
  omega
theorem date_l1 (n : Int) (h0 : -4000000 ≤ n) (h1 : n ≤ 4000000) (m : Nat) : ∀ (k : Nat) (mo : Int), mo + m = gmonth n → 1 ≤ mo → m < k →
    spec_CronDateOf.l1 k (gyear n) (n - ystart (gyear n) - cum (gyear n) mo) mo = some (gyear n, gmonth n, gday n) := by
  have h := gdate n
  have e := h.eq
  have hm12 := h.m12
  have hd1 := h.d1
  have hdm := h.dm
  have ey := ystart_succ (gyear n)
  have hhi := h.hi
  have hlo := h.lo
  have hl01 := leapI_01 (gyear n)
  have hmlx := mlen_bd (gyear n) (gmonth n)
  induction m with
  | zero =>
    intro k mo hm hmo hk
    obtain ⟨k, rfl⟩ : ∃ j, k = j + 1 := ⟨k - 1, by omega⟩
    obtain rfl : mo = gmonth n := by omega
    simp only [spec_CronDateOf.l1]
    rw [mdays_f]
    simp only [Option.bind_some]
    rw [if_neg (by omega), w64 _ (by omega) (by omega)]
    congr 3
    omega
  | succ m ih =>
    intro k mo hm hmo hk
    obtain ⟨k, rfl⟩ : ∃ j, k = j + 1 := ⟨k - 1, by omega⟩
    have s := cum_succ (gyear n) mo hmo (by omega)
    have l := cum_le (gyear n) (mo + 1) (gmonth n) (by omega)
    have l1 := cum_le (gyear n) 1 mo (by omega)
    rw [cum_one] at l1
    simp only [spec_CronDateOf.l1]
    rw [mdays_f]
    simp only [Option.bind_some]
    have hml := mlen_bd (gyear n) mo
    rw [if_pos (by omega), w64 _ (by omega) (by omega), w64 (mo + 1) (by omega) (by omega)]
    have := ih k (mo + 1) (by omega) (by omega) (by omega)
    rw [s] at this
    rw [show n - ystart (gyear n) - cum (gyear n) mo - mlen (gyear n) mo = n - ystart (gyear n) - (cum (gyear n) mo + mlen (gyear n) mo) by omega]
    exact this
theorem date_l0 (n : Int) (h0 : -4000000 ≤ n) (h1 : n ≤ 4000000) (m : Nat) : ∀ (k : Nat) (y : Int), y + m = gyear n → -30000 ≤ y → m + 20 < k →
    spec_CronDateOf.l0 k n y = some (gyear n, gmonth n, gday n) := by
  have h := gdate n
  have hb := gyear_bd n h0 h1
  have hhi := h.hi
  have hlo := h.lo
  induction m with
  | zero =>
    intro k y hm hy hk
    obtain ⟨k, rfl⟩ : ∃ j, k = j + 1 := ⟨k - 1, by omega⟩
    obtain rfl : y = gyear n := by omega
    simp only [spec_CronDateOf.l0]
    rw [w64 (gyear n + 1) (by omega) (by omega), ystart_f _ (by omega) (by omega), ystart_f _ (by omega) (by omega)]
    simp only [Option.bind_some]
    have ey := ystart_succ (gyear n)
    have hl01 := leapI_01 (gyear n)
    rw [if_neg (by omega), w64 _ (by omega) (by omega)]
    have := date_l1 n h0 h1 (gmonth n - 1).toNat k 1 (by have := h.m1; omega) (by omega) (by have := h.m12; omega)
    rw [cum_one, show n - ystart (gyear n) - 0 = n - ystart (gyear n) by omega] at this
    exact this
  | succ m ih =>
    intro k y hm hy hk
    obtain ⟨k, rfl⟩ : ∃ j, k = j + 1 := ⟨k - 1, by omega⟩
    simp only [spec_CronDateOf.l0]
    rw [w64 (y + 1) (by omega) (by omega), ystart_f _ (by omega) (by omega)]
    simp only [Option.bind_some]
    have := ystart_le (show y + 1 ≤ gyear n by omega)
    rw [if_pos (by omega)]
    exact ih k (y + 1) (by omega) (by omega) (by omega)
theorem date_f (n : Int) (h0 : -4000000 ≤ n) (h1 : n ≤ 4000000) : ∃ k, spec_CronDateOf.f k n = some (gyear n, gmonth n, gday n) := by
  have h := gdate n
  have hb := gyear_bd n h0 h1
  have hhi := h.hi
  refine ⟨60000, ?_⟩
  unfold spec_CronDateOf.f
  rw [fdiv_gen _ 366 (by decide) (by omega) (by omega), fdiv_gen _ 365 (by decide) (by omega) (by omega)]
  simp only [Option.bind_some]
  rcases Int.lt_or_le n 0 with q | q
  · rw [if_pos q, w64 (1970 + n / 365) (by omega) (by omega), w64 _ (by omega) (by omega)]
    show spec_CronDateOf.l0 59999 n _ = _
    have a : 1970 + n / 365 - 1 ≤ gyear n := by
      unfold ystart at hhi
      omega
    exact date_l0 n h0 h1 (gyear n - (1970 + n / 365 - 1)).toNat _ _ (by omega) (by omega) (by omega)
  · rw [if_neg (by omega), w64 (1970 + n / 366) (by omega) (by omega)]
    show spec_CronDateOf.l0 59999 n _ = _
    have a : 1970 + n / 366 ≤ gyear n := by
      unfold ystart at hhi
      omega
    exact date_l0 n h0 h1 (gyear n - (1970 + n / 366)).toNat _ _ (by omega) (by omega) (by omega)
theorem tom_f (n : Int) (h0 : -4000000 ≤ n) (h1 : n ≤ 4000000) : spec_CronTomorrow.f (gyear n) (gmonth n) (gday n) = some (gyear (n + 1), gmonth (n + 1), gday (n + 1)) := by
  have h := gdate n
  have hb := gyear_bd n h0 h1
  have hml := mlen_bd (gyear n) (gmonth n)
  have hd1 := h.d1
  have hdm := h.dm
  have hm1 := h.m1
  have hm12 := h.m12
  have e := h.eq
  have nx := next_of h
  unfold spec_CronTomorrow.f
  rw [mdays_f]
  simp only [Option.bind_some]
  by_cases c : gday n < mlen (gyear n) (gmonth n)
  · rw [if_pos c, w64 _ (by omega) (by omega)]
    have : IsDate (n + 1) (gyear n) (gmonth n) (gday n + 1) := ⟨by have := h.lo; omega, hm1, hm12, by omega, by omega, by omega⟩
    obtain ⟨a, b, d⟩ := this.toG
    rw [a, b, d]
  · rw [if_neg c]
    have en : n - gday n + 1 + mlen (gyear n) (gmonth n) = n + 1 := by omega
    rw [en] at nx
    by_cases l : gmonth n < 12
    · rw [if_pos l, w64 _ (by omega) (by omega)]
      obtain ⟨a, b, d⟩ := (nx.1 l).toG
      rw [a, b, d]
    · rw [if_neg l, w64 _ (by omega) (by omega)]
      obtain ⟨a, b, d⟩ := (nx.2 (by omega)).toG
      rw [a, b, d]
theorem wday_f (n : Int) (h0 : -4000000 ≤ n) (h1 : n ≤ 4000000) : spec_CronWeekday.f n = some ((n + 4) % 7) := by
  unfold spec_CronWeekday.f
  rw [w64 _ (by omega) (by omega), fmod_gen _ 7 (by decide) (by decide) (by omega) (by omega)]
  rfl
end Go.Proofs.YtjmgebhjkbcpcaaGreatDoor.NM
end
section
set_option linter.unusedVariables false
set_option linter.unusedSimpArgs false
namespace Go.Proofs.YtjmgebhjkbcpcaaGreatDoor.NM
open Go.RowKit Cal CronPl Go.Proofs.YtjmgebhjkbcpcaaGreatDoor.PcronNone Go.Proofs.YtjmgebhjkbcpcaaGreatDoor.PCronParse Go.Proofs.YtjmgebhjkbcpcaaGreatDoorW.PrintWords
set_option maxRecDepth 100000
theorem tFdiv (a : Int) (h0 : -4000000000000000000 ≤ a) (h1 : a ≤ 4000000000000000000) (w : World) : Calls Tryz.prog 71 #[.int .i64 a, .int .i64 86400] w fun e w' => e = .returned (.int .i64 (a / 86400)) ∧ Below w.heap.size w w' :=
  (spec_floorDiv.calls a 86400 _ w (fdiv_gen a 86400 (by decide) h0 h1)).mono fun e w' h => ⟨h.1, h.2.below⟩
theorem tDateOf (n : Int) (h0 : -4000000 ≤ n) (h1 : n ≤ 4000000) (w : World) : Calls Tryz.prog 70 #[.int .i64 n] w fun e w' => e = .returned (.agg #[.int .i64 (gyear n), .int .i64 (gmonth n), .int .i64 (gday n)]) ∧ Below w.heap.size w w' := by
  obtain ⟨k, hk⟩ := date_f n h0 h1
  exact spec_CronDateOf.calls k n _ _ _ w hk
theorem tTom (n : Int) (h0 : -4000000 ≤ n) (h1 : n ≤ 4000000) (w : World) : Calls Tryz.prog 104 #[.agg #[.int .i64 (gyear n), .int .i64 (gmonth n), .int .i64 (gday n)]] w fun e w' => e = .returned (.agg #[.int .i64 (gyear (n + 1)), .int .i64 (gmonth (n + 1)), .int .i64 (gday (n + 1))]) ∧ Below w.heap.size w w' :=
  spec_CronTomorrow.calls _ _ _ _ _ _ w (tom_f n h0 h1)
theorem tWday (n : Int) (h0 : -4000000 ≤ n) (h1 : n ≤ 4000000) (w : World) : Calls Tryz.prog 106 #[.int .i64 n] w fun e w' => e = .returned (.int .i64 ((n + 4) % 7)) ∧ Below w.heap.size w w' :=
  (spec_CronWeekday.calls n _ w (wday_f n h0 h1)).mono fun e w' h => ⟨h.1, h.2.below⟩
/-- a local second that is in a schedule's sets -/
def FitS (S : Sets) (cs : Array Value) (r : Int) : Prop :=
  inF cs 4 (gmonth (r / 86400)).toNat = true ∧ dayF S cs (gday (r / 86400)).toNat ((r / 86400 + 4) % 7).toNat = true ∧
    inF cs 2 (r % 86400 / 3600).toNat = true ∧ inF cs 1 (r % 3600 / 60).toNat = true ∧ inF cs 0 (r % 60).toNat = true
def LocalOk (S : Sets) (cs : Array Value) (fr un la r : Int) (b : Bool) : Prop := b = true → fr ≤ r ∧ r < un ∧ gyear (r / 86400) ≤ la ∧ FitS S cs r
def LocalPost (S : Sets) (cs : Array Value) (fr un la : Int) (w : World) (e : Ending) (w' : World) : Prop := ∃ r b, e = .returned (.tuple #[.int .i64 r, .bool b]) ∧ LocalOk S cs fr un la r b ∧ Below w.heap.size w w'
abbrev dateCs (n : Int) : Array Value := #[.int .i64 (gyear n), .int .i64 (gmonth n), .int .i64 (gday n)]
/-- what the day's test reads -/
def LS (W : World) (g bd : Nat) (cs : Array Value) (y : Int) (m d : Nat) (mb : Bool) : Prop :=
  W.heap[g]? = some (.cells cs 37 (0, 0)) ∧ W.heap[bd]? = some (.cells #[.int .i64 y, .int .i64 m, .int .i64 d] 132 (0, 0)) ∧ W.cell? ⟨g, 257 + m, none⟩ = some (.bool mb) ∧
  W.cell? ⟨bd, 0, none⟩ = some (.int .i64 y) ∧ W.cell? ⟨bd, 1, none⟩ = some (.int .i64 m) ∧ W.cell? ⟨bd, 2, none⟩ = some (.int .i64 d) ∧
  (loadCellsFrom ⟨g, 0, none⟩ 0 384 #[]).run Tryz.prog W = .ok cs W
theorem LS.of {W : World} {g bd : Nat} {cs : Array Value} {y : Int} {m d : Nat} {mb : Bool} (h1 : W.heap[g]? = some (.cells cs 37 (0, 0))) (h2 : W.heap[bd]? = some (.cells #[.int .i64 y, .int .i64 m, .int .i64 d] 132 (0, 0)))
    (hs : cs.size = 384) (hm : cs[257 + m]? = some (.bool mb)) : LS W g bd cs y m d mb := by
  refine ⟨h1, h2, by rw [cell_of_row _ _ _ _ _ _ h1]; exact hm, by rw [cell_of_row _ _ _ _ _ _ h2]; rfl, by rw [cell_of_row _ _ _ _ _ _ h2]; rfl, by rw [cell_of_row _ _ _ _ _ _ h2]; rfl, ?_⟩
  have := run_loadCells_list (P := Tryz.prog) W ⟨g, 0, none⟩ cs.toList (fun j v hv => by
    rw [Addr.add_mid, Nat.zero_add, cell_of_row _ _ j cs 37 (0, 0) h1]
    simpa using hv)
  rw [show cs.toList.length = 384 by simpa using hs] at this
  simpa [loadCells] using this
theorem LS.below {W W' : World} {g bd : Nat} {cs : Array Value} {y : Int} {m d : Nat} {mb : Bool} (h : LS W g bd cs y m d mb) (hs : cs.size = 384) (hm : cs[257 + m]? = some (.bool mb)) (hb : Below W.heap.size W W') : LS W' g bd cs y m d mb :=
  LS.of (by rw [hb.block _ (block_lt_row h.1)]; exact h.1) (by rw [hb.block _ (block_lt_row h.2.1)]; exact h.2.1) hs hm
theorem yieldsIf_load_row {P : Program} {ops : Array Oper} {S : World → Prop} {op : Oper} {a : Act} {g : Nat} {cs : Array Value} {t : TypeId} {fr : Nat × Nat} {d : TypeDesc} (hw : Region.wanted op (yielded ops a.tmps) = true) (ty : TypeId) (x : Operand) (ho : op.op = .load ty x)
    (hx : a.eval x = .pointer (some ⟨g, 0, none⟩)) (hS : ∀ w, S w → w.heap[g]? = some (.cells cs t fr))
    (hu : P.underlying ty = some d) (hd : (match d with | .struct _ | .array _ _ => true | _ => false) = true) (hi : (P.info? ty).map (·.size) = some cs.size) : YieldsIf P ops S op (.agg cs) a :=
  .inl ⟨hw, fun w hw' => by
    unfold execOp
    simp only [ho, hx, Instr.loadAt, Instr.sureAddr, Sem.run_bind, Sem.run_pure, Result.andThen_ok, run_loadVar_row w g t ty cs fr d (hS w hw') hu hd hi]⟩
set_option maxHeartbeats 1000000 in
theorem tLocal (S : Sets) (cs : Array Value) (h : FieldsV S cs) (fr un la : Int) (h0 : -70000000000 ≤ fr) (h1 : fr ≤ 300000000000) (hu0 : -70000000000 ≤ un) (hu1 : un ≤ 4611686018427387904) (hl0 : -1000 ≤ la) (hl1 : la ≤ 10100) (w : World) :
    Calls Tryz.prog 74 #[.agg cs, .int .i64 fr, .int .i64 un, .int .i64 la] w (LocalPost S cs fr un la w) := by
  have hrow := heap_alloc_new w (Obj.cells cs 37)
  have HS := Lib.hid h.sz
  have HF := Lib.hid h
  have HR := Lib.hid hrow
  clear h hrow
  go_enter Tryz.func74, Tryz.ntmps74
  go_wp2_with (first
    | ((with_reducible refine wpList_load_row (o := ⟨some 14, _, _, _, _, _⟩) ?a1 37 (.tmp 4) ?a2 w.heap.size ?a3 37 cs (0, 0) _ ?a4 und37 ?a5 ?a6 ?_); (case a1 => rfl); (case a2 => rfl); (case a3 => rfl); (case a5 => rfl); (case a6 => rw [HS.out]; exact inf37); (case a4 => exact HR.out))
    | (go_at_call 103; (with_reducible refine (tNever S cs HF.out _).mono ?_); rintro e w1 ⟨b1, rfl, hb1⟩; have HR1 : Hid (w1.heap[w.heap.size]? = some (.cells cs 37 (0, 0))) := Lib.hid (by rw [hb1.block _ (block_lt_row HR.out)]; exact HR.out); have HB1 : Hid (Below w.heap.size w w1) := Lib.hid ((bA (Below.refl _ _) _).trans (hb1.mono (by simp))); clear hb1; cases b1)
    | (go_at_call 71; (with_reducible refine (tFdiv fr (by omega) (by omega) _).mono ?_); rintro e w2 ⟨rfl, hb2⟩; have HR2 : Hid (w2.heap[w.heap.size]? = some (.cells cs 37 (0, 0))) := Lib.hid (by rw [hb2.block _ (block_lt_row HR1.out)]; exact HR1.out); have HB2 : Hid (Below w.heap.size w w2) := Lib.hid (HB1.out.trans (hb2.mono HB1.out.size)); clear hb2)
    | (go_at_call 70; (with_reducible refine (tDateOf (fr / 86400) (by omega) (by omega) _).mono ?_); rintro e w3 ⟨rfl, hb3⟩; have HR3 : Hid (w3.heap[w.heap.size]? = some (.cells cs 37 (0, 0))) := Lib.hid (by rw [hb3.block _ (block_lt_row HR2.out)]; exact HR2.out); have HB3 : Hid (Below w.heap.size w w3) := Lib.hid (HB2.out.trans (hb3.mono HB2.out.size)); clear hb3))
  · skip
    clear HR HR1 HR2
    have HW : Hid (Below w.heap.size w (w3.alloc (Obj.cells (dateCs (fr / 86400)) 132))) := Lib.hid (bA HB3.out _)
    have HD : Hid ((w3.alloc (Obj.cells (dateCs (fr / 86400)) 132)).heap[w3.heap.size]? = some (.cells (dateCs (fr / 86400)) 132 (0, 0))) := Lib.hid (heap_alloc_new _ _)
    have HR : Hid ((w3.alloc (Obj.cells (dateCs (fr / 86400)) 132)).heap[w.heap.size]? = some (.cells cs 37 (0, 0))) := Lib.hid (by rw [Below.heap_alloc _ _ _ (block_lt_row HR3.out)]; exact HR3.out)
    have hbd : w.heap.size < w3.heap.size := block_lt_row HR3.out
    go_loopw [10, 11, 12] (fun v10 v11 v12 wr => ∃ (day : Int) (tod bd : Nat), v10 = .int .i64 day ∧ v11 = .int .i64 tod ∧ v12 = .pointer (some ⟨bd, 0, none⟩) ∧ Aside0 (fr / 86400 ≤ day ∧ day ≤ 3900000 ∧ tod < 86400) ∧ Aside0 (fr ≤ 86400 * day + tod) ∧ Aside0 (w.heap.size < bd) ∧
      Aside0 (wr.heap[bd]? = some (.cells (dateCs day) 132 (0, 0))) ∧ Aside0 (wr.heap[w.heap.size]? = some (.cells cs 37 (0, 0))) ∧ Aside0 (Below w.heap.size w wr)) (fun v10 _ _ _ => (ystart (la + 1) - intOf v10).toNat)
    case atStart =>
      exact ⟨fr / 86400, (fr - 86400 * (fr / 86400)).toNat, w3.heap.size, rfl, by rw [Int.toNat_of_nonneg (by omega)], rfl, ⟨by omega, by omega, by omega⟩, ⟨by omega⟩, ⟨hbd⟩, ⟨HD.out⟩, ⟨HR.out⟩, ⟨HW.out⟩⟩
    case round =>
      clear HW HD HR HR3 HB1 HB2 HB3
      obtain ⟨day, tod, bd, rfl, rfl, rfl, HN, HP, HL, HD, HR, HW⟩ := hrel
      have hgd := gdate day
      have hm1 := hgd.m1
      have hm12 := hgd.m12
      have hd1 := hgd.d1
      have hdm := hgd.dm
      have hml := mlen_bd (gyear day) (gmonth day)
      have hlo := hgd.lo
      obtain ⟨y, hy⟩ : ∃ y, gyear day = y := ⟨_, rfl⟩
      obtain ⟨m, hm⟩ : ∃ m : Nat, gmonth day = m := ⟨(gmonth day).toNat, by omega⟩
      obtain ⟨d, hd⟩ : ∃ d : Nat, gday day = d := ⟨(gday day).toNat, by omega⟩
      obtain ⟨v, hv⟩ : ∃ v : Nat, (day + 4) % 7 = v := ⟨((day + 4) % 7).toNat, by omega⟩
      have hrd := HD.out
      unfold dateCs at hrd
      rw [hy, hm, hd] at hrd
      rw [hm] at hm1 hm12
      have hdb : d < 63 := by omega
      have hvb : v < 63 := by omega
      have hmb : m < 63 := by omega
      have cm := HF.out.at 4 m (by decide) hmb
      rw [show 64 * 4 + 1 + m = 257 + m by omega] at cm
      have hls := LS.of HR.out hrd HS.out cm
      have c0 := hls.2.2.2.1
      have c1 := hls.2.2.2.2.1
      have cmm := hls.2.2.1
      rw [hy] at hlo
      have HGY := Lib.hid hy
      have HGM := Lib.hid hm
      have HGD := Lib.hid hd
      have HGV := Lib.hid hv
      have HRD := Lib.hid hrd
      have HLS := Lib.hid hls
      have HCM := Lib.hid cm
      have hda : -900000 ≤ day ∧ day ≤ 3900000 := by have := HN.out; omega
      have HWD : Hid (∀ W, Calls Tryz.prog 106 #[.int .i64 day] W fun e w' => e = .returned (.int .i64 v) ∧ Below W.heap.size W w') := Lib.hid fun W => by have := tWday day (by omega) (by omega) W; rw [hv] at this; exact this
      have HGd := Lib.hid hgd
      clear hls cm hrd hy hm hd hv hgd hml hdm hd1
      by_cases cy : y ≤ la
      · by_cases cu : 86400 * day < un
        · have hday : day ≤ 3600000 := by
            have := HGd.out.hi
            rw [HGY.out] at this
            have := ystart_le (show y + 1 ≤ 10101 by omega)
            have e : ystart 10101 = 2969787 := by decide
            omega
          have HLSw : Hid (LS wr w.heap.size bd cs y m d (inF cs 4 m) ∧ Below wr.heap.size wr wr) := Lib.hid ⟨HLS.out, Below.refl _ _⟩
          have HCMw := Lib.hid HCM.out
          go_upto_block 1 with fail
          go_cut [10, 11] from 36 to 65 (fun s10 s11 wc => s10 = .int .i64 (day + 1) ∧ s11 = .int .i64 0 ∧ LS wc w.heap.size bd cs y m d (inF cs 4 m) ∧ Below wr.heap.size wr wc)
          case first =>
            cases hmbit : inF cs 4 m with
            | false =>
              rw [hmbit] at cmm
              go_upto_region 8 with fail
              go_region
              go_wp2_with fail
              go_meet
              exact ⟨rfl, rfl, LS.below HLSw.out.1 HS.out HCMw.out (Below.refl _ _).drew, (Below.refl _ _).drew⟩
            | true =>
              rw [hmbit] at cmm HLS HCM
              have HMB := Lib.hid hmbit
              clear hmbit c0 c1 cmm
              obtain ⟨c0, c1⟩ : wr.cell? ⟨bd, 0, none⟩ = some (.int .i64 y) ∧ wr.cell? ⟨bd, 1, none⟩ = some (.int .i64 m) := ⟨HLS.out.2.2.2.1, HLS.out.2.2.2.2.1⟩
              go_upto_region 8 with fail
              clear c0 c1
              have hmi0 : (0 : Int) ≤ (m : Int) := by omega
              have hmi1 : (m : Int) < 63 := by omega
              have hmi2 : (m : Int).toNat = m := by omega
              refine wp_region_held_drew (S := fun W => LS W w.heap.size bd cs y m d true) (by kernel_rfl) (LS.below HLS.out HS.out HCM.out (Below.refl _ _).drew) (fun hHeld => ?_)
              refine wpAnyH_take (i := 0) (oi := ⟨some 36, .fieldAddr 132 (.tmp 12) 1, 0, "cron_next.go:54", #[], none⟩) (v := ?_) rfl (by kernel_rfl) (by kernel_rfl) (by kernel_rfl) (fun _ _ _ h => h) (Or.inl ⟨by rfl, ?_⟩) (by assumption) ?_
              rotate_left
              · intro W hSw
                obtain ⟨s1, s2, s3, s4, s5, s6, s7⟩ := hSw
                clear s1 s2 s7
                go_simp
                try with_reducible rfl
              try simp only [Act.put, List.setIfInBounds_toArray, List.set_cons_zero, List.set_cons_succ]
              refine wpAnyH_take (i := 1) (oi := ⟨some 37, .load 3 (.tmp 36), 3, "cron_next.go:54", #[{ on := 0, ground := .data }], none⟩) (v := ?_) rfl (by kernel_rfl) (by kernel_rfl) (by kernel_rfl) (fun _ _ _ h => h) (Or.inl ⟨by rfl, ?_⟩) (by assumption) ?_
              rotate_left
              · intro W hSw
                obtain ⟨s1, s2, s3, s4, s5, s6, s7⟩ := hSw
                clear s1 s2 s7
                go_simp
                try with_reducible rfl
              try simp only [Act.put, List.setIfInBounds_toArray, List.set_cons_zero, List.set_cons_succ]
              refine wpAnyH_take (i := 2) (oi := ⟨some 38, .indexAddr 37 (.tmp 4) (.const (.int .i64 4)), 0, "cron_next.go:54", #[], none⟩) (v := ?_) rfl (by kernel_rfl) (by kernel_rfl) (by kernel_rfl) (fun _ _ _ h => h) (Or.inl ⟨by rfl, ?_⟩) (by assumption) ?_
              rotate_left
              · intro W hSw
                obtain ⟨s1, s2, s3, s4, s5, s6, s7⟩ := hSw
                clear s1 s2 s7
                go_simp
                try with_reducible rfl
              try simp only [Act.put, List.setIfInBounds_toArray, List.set_cons_zero, List.set_cons_succ]
              refine wpAnyH_take (i := 3) (oi := ⟨some 39, .fieldAddr 35 (.tmp 38) 1, 0, "cron_next.go:54", #[{ on := 2, ground := .data }], none⟩) (v := ?_) rfl (by kernel_rfl) (by kernel_rfl) (by kernel_rfl) (fun _ _ _ h => h) (Or.inl ⟨by rfl, ?_⟩) (by assumption) ?_
              rotate_left
              · intro W hSw
                obtain ⟨s1, s2, s3, s4, s5, s6, s7⟩ := hSw
                clear s1 s2 s7
                go_simp
                try with_reducible rfl
              try simp only [Act.put, List.setIfInBounds_toArray, List.set_cons_zero, List.set_cons_succ]
              refine wpAnyH_take (i := 4) (oi := ⟨some 40, .indexAddr 33 (.tmp 39) (.tmp 37), 0, "cron_next.go:54", #[{ on := 3, ground := .data }, { on := 1, ground := .data }], none⟩) (v := ?_) rfl (by kernel_rfl) (by kernel_rfl) (by kernel_rfl) (fun _ _ _ h => h) (Or.inl ⟨by rfl, ?_⟩) (by assumption) ?_
              rotate_left
              · intro W hSw
                obtain ⟨s1, s2, s3, s4, s5, s6, s7⟩ := hSw
                clear s1 s2 s7
                go_simp
                try with_reducible rfl
              try simp only [Act.put, List.setIfInBounds_toArray, List.set_cons_zero, List.set_cons_succ]
              refine wpAnyH_take (i := 5) (oi := ⟨some 41, .load 4 (.tmp 40), 4, "cron_next.go:54", #[{ on := 4, ground := .data }], none⟩) (v := ?_) rfl (by kernel_rfl) (by kernel_rfl) (by kernel_rfl) (fun _ _ _ h => h) (Or.inl ⟨by rfl, ?_⟩) (by assumption) ?_
              rotate_left
              · intro W hSw
                obtain ⟨s1, s2, s3, s4, s5, s6, s7⟩ := hSw
                clear s1 s2 s7
                go_simp
                try with_reducible rfl
              try simp only [Act.put, List.setIfInBounds_toArray, List.set_cons_zero, List.set_cons_succ]
              refine wpAnyH_take (i := 6) (oi := ⟨some 42, .move (.tmp 41), 4, "cron_next.go:54", #[{ on := 5, ground := .data }], none⟩) (v := ?_) rfl (by kernel_rfl) (by kernel_rfl) (by kernel_rfl) (fun _ _ _ h => h) (Or.inl ⟨by rfl, ?_⟩) (by assumption) ?_
              rotate_left
              · intro W hSw
                obtain ⟨s1, s2, s3, s4, s5, s6, s7⟩ := hSw
                clear s1 s2 s7
                go_simp
                try with_reducible rfl
              try simp only [Act.put, List.setIfInBounds_toArray, List.set_cons_zero, List.set_cons_succ]
              refine wpAnyH_take (i := 7) (oi := ⟨some 43, .load 37 (.tmp 4), 37, "cron_next.go:54", #[{ on := 6, ground := .guard }], some (6, true)⟩) (v := .agg cs) rfl (by kernel_rfl) (by kernel_rfl) (by kernel_rfl) (fun _ _ _ h => h) ?hy7 (by assumption) ?rest7
              case hy7 =>
                refine yieldsIf_load_row (g := w.heap.size) (t := 37) (fr := (0, 0)) ?q1 37 (.tmp 4) ?q2 ?q3 (fun W hW => hW.1) und37 ?q4 ?q5
                case q1 => rfl
                case q2 => rfl
                case q3 => rfl
                case q4 => rfl
                case q5 => rw [HS.out]; exact inf37
              try simp only [Act.put, List.setIfInBounds_toArray, List.set_cons_zero, List.set_cons_succ]
              refine wpAnyH_take (i := 8) (oi := ⟨some 44, .load 132 (.tmp 12), 132, "cron_next.go:54", #[{ on := 6, ground := .guard }], some (6, true)⟩) (v := ?_) rfl (by kernel_rfl) (by kernel_rfl) (by kernel_rfl) (fun _ _ _ h => h) (Or.inl ⟨by rfl, ?_⟩) (by assumption) ?_
              rotate_left
              · intro W hSw
                obtain ⟨s1, s2, s3, s4, s5, s6, s7⟩ := hSw
                clear s1 s2 s7
                go_simp
                try with_reducible rfl
              try simp only [Act.put, List.setIfInBounds_toArray, List.set_cons_zero, List.set_cons_succ]
              refine wpAnyH_take (i := 9) (oi := ⟨some 45, .move (.tmp 10), 3, "cron_next.go:54", #[{ on := 6, ground := .guard }], some (6, true)⟩) (v := ?_) rfl (by kernel_rfl) (by kernel_rfl) (by kernel_rfl) (fun _ _ _ h => h) (Or.inl ⟨by rfl, ?_⟩) (by assumption) ?_
              rotate_left
              · intro W hSw
                obtain ⟨s1, s2, s3, s4, s5, s6, s7⟩ := hSw
                clear s1 s2 s7
                go_simp
                try with_reducible rfl
              try simp only [Act.put, List.setIfInBounds_toArray, List.set_cons_zero, List.set_cons_succ]
              refine wpAnyH_ready (rs := [10]) (by kernel_rfl) (by simp) ?_
              refine AllReadyH.cons (o := ⟨some 46, .call ⟨.value (.func 106), #[.tmp 45], #[3]⟩, 3, "cron_next.go:54", #[{ on := 9, ground := .data }, { on := 6, ground := .chain }, { on := 6, ground := .guard }], some (6, true)⟩) rfl (fun K hK => ?_) AllReadyH.nil
              go_simp
              (go_at_call 106; refine (HWD.out _).mono ?_; rintro e w4 ⟨rfl, hb4⟩; have k4 : Below wr.heap.size wr w4 := (by first | exact (Below.refl _ _).drew.trans hb4 | exact hb4); have HK4 := Lib.hid k4; have HLS1 := Lib.hid (LS.below HLS.out HS.out HCM.out k4); clear hb4 k4)
              refine hK.out _ _ HLS1.out (fun hHeld1 => ?_)
              clear hK K hHeld
              try simp only [Act.put, List.setIfInBounds_toArray, List.set_cons_zero, List.set_cons_succ]
              refine wpAnyH_ready (rs := [11]) (by kernel_rfl) (by simp) ?_
              refine AllReadyH.cons (o := ⟨some 47, .call ⟨.value (.func 105), #[.tmp 43, .tmp 44, .tmp 46], #[37, 132, 3]⟩, 4, "cron_next.go:54", #[{ on := 7, ground := .data }, { on := 8, ground := .data }, { on := 10, ground := .data }, { on := 10, ground := .chain }, { on := 6, ground := .guard }], some (6, true)⟩) rfl (fun K hK => ?_) AllReadyH.nil
              go_simp
              (go_at_call 105; refine (tDayFits S cs HF.out y m d v hdb hvb _).mono ?_; rintro e w5 ⟨rfl, hb5⟩; have HK5 := Lib.hid (HK4.out.trans (hb5.mono HK4.out.size)); have HLS2 := Lib.hid (LS.below HLS.out HS.out HCM.out HK5.out); clear hb5)
              refine hK.out _ _ HLS2.out (fun hHeld2 => ?_)
              clear hK K hHeld1
              try simp only [Act.put, List.setIfInBounds_toArray, List.set_cons_zero, List.set_cons_succ]
              refine wpAnyH_take (i := 12) (oi := ⟨some 48, .pick (.tmp 42) (.tmp 47) (.const (.bool false)), 4, "cron_next.go:54", #[{ on := 6, ground := .data }, { on := 11, ground := .data }], none⟩) (v := ?_) rfl (by kernel_rfl) (by kernel_rfl) (by kernel_rfl) (fun _ _ _ h => h) (Or.inl ⟨by rfl, ?_⟩) (by assumption) ?_
              rotate_left
              · intro W hSw
                clear hSw
                go_simp
                try with_reducible rfl
              try simp only [Act.put, List.setIfInBounds_toArray, List.set_cons_zero, List.set_cons_succ]
              refine wpAnyH_done (by kernel_rfl) ?_ _
              have HTod := Lib.hid HN.out.2.2
              cases hdf : dayF S cs d v with
              | false =>
                go_wp2_with fail
                go_meet
                exact ⟨rfl, rfl, LS.below HLSw.out.1 HS.out HCMw.out HK5.out, HK5.out⟩
              | true =>
                have HDF := Lib.hid hdf
                clear hdf
                go_wp2_with (first
                  | ((with_reducible refine wpList_load_row (o := ⟨some 49, _, _, _, _, _⟩) ?a1 37 (.tmp 4) ?a2 w.heap.size ?a3 37 cs (0, 0) _ ?a4 und37 ?a5 ?a6 ?_); (case a1 => rfl); (case a2 => rfl); (case a3 => rfl); (case a5 => rfl); (case a6 => rw [HS.out]; exact inf37); (case a4 => exact HLS2.out.1))
                  | (go_at_call 107; (with_reducible refine (tTime S cs HF.out tod HTod.out _).mono ?_); rintro e w6 ⟨r, rfl, hr, hb6⟩; have HK6 := Lib.hid (HK5.out.trans (hb6.mono HK5.out.size)); rcases hr with rfl | hr2))
                · go_meet
                  exact ⟨rfl, rfl, LS.below HLSw.out.1 HS.out HCMw.out HK6.out, HK6.out⟩
                · go_ret2
                  have eR : (86400 * day + r) / 86400 = day := by omega
                  refine ⟨_, _, rfl, fun hlt => ⟨by have := HP.out; omega, by simpa using hlt, by rw [eR, HGY.out]; exact cy, ?_⟩, HW.out.trans (HK6.out.mono HW.out.size)⟩
                  unfold FitS
                  rw [eR, HGM.out, HGD.out, HGV.out, show (86400 * day + r) % 86400 = r by omega, show (86400 * day + r) % 3600 = r % 3600 by omega, show (86400 * day + r) % 60 = r % 60 by omega]
                  exact ⟨HMB.out, HDF.out, hr2.2.2.2.1, hr2.2.2.2.2.1, hr2.2.2.2.2.2⟩
          case rest =>
            obtain ⟨rfl, rfl, hlc, hkc⟩ := hcut
            have HLc := Lib.hid hlc
            have HKc := Lib.hid hkc
            clear hlc hkc
            have HTM : Hid (∀ W, Calls Tryz.prog 104 #[.agg #[.int .i64 y, .int .i64 m, .int .i64 d]] W fun e w' => e = .returned (.agg (dateCs (day + 1))) ∧ Below W.heap.size W w') := Lib.hid fun W => by
              have := tTom day (by omega) (by omega) W
              rw [HGY.out, HGM.out, HGD.out] at this
              exact this
            have c0' := HLc.out.2.2.2.1
            have c1' := HLc.out.2.2.2.2.1
            have c2' := HLc.out.2.2.2.2.2.1
            go_wp2_with (go_at_call 104; refine (HTM.out _).mono ?_; rintro e w7 ⟨rfl, hb7⟩; have HB7 := Lib.hid hb7; have HR7 : Hid (w7.heap[wc.heap.size]? = some (.cells #[.int .i64 y, .int .i64 m, .int .i64 d] 132 (0, 0))) := Lib.hid (by rw [hb7.block _ (by simp)]; exact heap_alloc_new _ _); have p0 : w7.cell? ⟨wc.heap.size, 0, none⟩ = some (.int .i64 y) := (by rw [cell_of_row _ _ _ _ _ _ HR7.out]; rfl); have p1 : w7.cell? ⟨wc.heap.size, 1, none⟩ = some (.int .i64 m) := (by rw [cell_of_row _ _ _ _ _ _ HR7.out]; rfl); have p2 : w7.cell? ⟨wc.heap.size, 2, none⟩ = some (.int .i64 d) := (by rw [cell_of_row _ _ _ _ _ _ HR7.out]; rfl); have f0 := frozen_of_row _ _ 0 _ _ HR7.out; have f1 := frozen_of_row _ _ 1 _ _ HR7.out; have f2 := frozen_of_row _ _ 2 _ _ HR7.out; clear hb7)
            have hsz := HKc.out.size
            have hwz := HW.out.size
            have hc7 := HB7.out.size
            have hlw : w.heap.size < wc.heap.size := block_lt_row HLc.out.1
            go_roundw
            case measure =>
              have := HGd.out.hi
              rw [HGY.out] at this
              have := ystart_le (show y + 1 ≤ la + 1 by omega)
              simp only [intOf]
              omega
            case rel =>
              refine ⟨day + 1, 0, wc.heap.size, by first | rfl | go_num, rfl, rfl, ⟨by have := HN.out; omega⟩, ⟨by have := HP.out; have := HN.out; omega⟩, ⟨hlw⟩, ⟨by rw [heap_setCell_same _ _ _ _ _ _ (heap_setCell_same _ _ _ _ _ _ (heap_setCell_same _ _ _ _ _ _ HR7.out))]; rfl⟩, ⟨?_⟩, ⟨?_⟩⟩
              · rw [heap_setCell_other _ _ _ _ (by simp; omega), heap_setCell_other _ _ _ _ (by simp; omega), heap_setCell_other _ _ _ _ (by simp; omega), HB7.out.block _ (by simp; omega), Below.heap_alloc _ _ _ hlw]
                exact HLc.out.1
              · exact ((((bA (HW.out.trans (HKc.out.mono hwz)) _).trans (HB7.out.mono (by simp; omega))).setCell (by simp; omega) _).setCell (by simp; omega) _).setCell (by simp; omega) _
        · go_wp2_with fail
          go_ret2
          exact ⟨_, _, rfl, fun h => by simp at h, HW.out⟩
      · go_wp2_with fail
        go_ret2
        exact ⟨_, _, rfl, fun h => by simp at h, HW.out⟩
  · go_ret2
    exact ⟨_, _, rfl, fun h => by simp at h, HB1.out⟩
end Go.Proofs.YtjmgebhjkbcpcaaGreatDoor.NM
end
section
set_option linter.unusedVariables false
set_option linter.unusedSimpArgs false
namespace Go.Proofs.YtjmgebhjkbcpcaaGreatDoor.NM
open Go.RowKit Cal CronPl Go.Proofs.YtjmgebhjkbcpcaaGreatDoorW.PrintWords
attribute [local go_sem ↓] Go.wp_at_zero Go.wp_at_succ
/-- the boxes of impl.Next's arguments -/
def Box9 (W : World) (b : Nat) (ev : Bool) (d : Int) (S : Sets) (s n : Int) (v0 v1 v2 v3 : Value) : Prop :=
  W.cell? ⟨b, 0, none⟩ = some (.bool ev) ∧ W.cell? ⟨b, 1, none⟩ = some (.int .i64 d) ∧ W.cell? ⟨b, 2, none⟩ = some (.int .u64 S.se) ∧ W.cell? ⟨b, 3, none⟩ = some (.int .u64 S.mi) ∧ W.cell? ⟨b, 4, none⟩ = some (.int .u64 S.ho) ∧ W.cell? ⟨b, 5, none⟩ = some (.int .u64 S.dom) ∧ W.cell? ⟨b, 6, none⟩ = some (.int .u64 S.mon) ∧ W.cell? ⟨b, 7, none⟩ = some (.int .u64 S.dow) ∧
  W.cell? ⟨b + 1, 0, none⟩ = some (.int .i64 s) ∧ W.cell? ⟨b + 1, 1, none⟩ = some (.int .i64 n) ∧
  W.cell? ⟨b + 1 + 1, 0, none⟩ = some v0 ∧ W.cell? ⟨b + 1 + 1, 1, none⟩ = some v1 ∧ W.cell? ⟨b + 1 + 1, 2, none⟩ = some v2 ∧ W.cell? ⟨b + 1 + 1, 3, none⟩ = some v3
theorem Box9.below {W W' : World} {b : Nat} {ev : Bool} {d : Int} {S : Sets} {s n : Int} {v0 v1 v2 v3 : Value} (h : Box9 W b ev d S s n v0 v1 v2 v3) (hb : Below W.heap.size W W') : Box9 W' b ev d S s n v0 v1 v2 v3 := by
  obtain ⟨h0, h1, h2, h3, h4, h5, h6, h7, h8, h9, h10, h11, h12, h13⟩ := h
  exact ⟨keep hb h0, keep hb h1, keep hb h2, keep hb h3, keep hb h4, keep hb h5, keep hb h6, keep hb h7, keep hb h8, keep hb h9, keep hb h10, keep hb h11, keep hb h12, keep hb h13⟩
theorem Box9.set {W : World} {b g o : Nat} {ev : Bool} {d : Int} {S : Sets} {s n : Int} {v0 v1 v2 v3 u : Value} (h : Box9 W b ev d S s n v0 v1 v2 v3) (hg : b + 2 < g) : Box9 (W.setCell ⟨g, o, none⟩ u) b ev d S s n v0 v1 v2 v3 := by
  obtain ⟨h0, h1, h2, h3, h4, h5, h6, h7, h8, h9, h10, h11, h12, h13⟩ := h
  refine ⟨?_, ?_, ?_, ?_, ?_, ?_, ?_, ?_, ?_, ?_, ?_, ?_, ?_, ?_⟩ <;> (rw [setc_other _ (by omega)]; assumption)
theorem box9 (w : World) (ev : Bool) (d : Int) (S : Sets) (s n : Int) (v0 v1 v2 v3 : Value) :
    Box9 ((((w.alloc (Obj.cells #[.bool ev, .int .i64 d, .int .u64 S.se, .int .u64 S.mi, .int .u64 S.ho, .int .u64 S.dom, .int .u64 S.mon, .int .u64 S.dow] 30)).alloc (Obj.cells #[.int .i64 s, .int .i64 n] 24)).alloc (Obj.cells #[v0, v1, v2, v3] 52)).alloc (Obj.cells #[.int .i64 0, .int .i64 0] 24)) w.heap.size ev d S s n v0 v1 v2 v3 := by
  refine ⟨?_, ?_, ?_, ?_, ?_, ?_, ?_, ?_, ?_, ?_, ?_, ?_, ?_, ?_⟩ <;> simp [go_sem]
theorem nilS (b : Nat) (w : World) : (nilAhead 393 101 (.pointer (some ⟨b, 0, none⟩)) "Next").run Tryz.prog w = .ok (some false) w := by kernel_rfl
theorem metS (b : Nat) (w : World) : (method 393 101 (.pointer (some ⟨b, 0, none⟩)) "Next").run Tryz.prog w = .ok (177, .pointer (some ⟨b, 0, none⟩)) w := by kernel_rfl
def zone0 : Value := .agg #[.slice none 0 0, .slice none 0 0, .slice none 0 0, .slice none 0 0]
theorem tLocation0 (w : World) : Calls Tryz.prog 32 #[zone0] w fun e w' => ∃ b, e = .returned (.pointer (some ⟨b, 0, none⟩)) ∧ LocP w' b none ∧ Below w.heap.size w w' := by
  unfold zone0
  go_enter Tryz.func32, Tryz.ntmps32
  go_wp2_with (go_at_call 68; refine (tUTC _).mono ?_; rintro e w1 ⟨rfl, rfl⟩)
  go_ret
  exact ⟨_, rfl, ⟨by simp [go_sem], by simp [go_sem]⟩, bA (bA (Below.refl _ _) _) _⟩
theorem tNextSome (w : World) (bs : Nat) (n x x' : Int) (L : Option Addr) (z : Option Zone) (S : Sets) (P : Plain (lo z) (fun T => reso z T + 62135596800)) (hL : TLoc w L z) (hS : SpecAt w bs S) (hn : Nan n)
    (h0 : 0 ≤ x) (h1 : x ≤ 700000000000) (hr : nextOf S z x = some x') :
    Calls Tryz.prog 177 #[.pointer (some ⟨bs, 0, none⟩), .agg #[.int .u64 n, .int .i64 x, .pointer L]] w fun e w' => e = .returned (.agg #[.int .u64 0, .int .i64 x', .pointer L]) ∧ Below w.heap.size w w' :=
  (tNext' w bs n x L z S P hL hS hn h0 h1).mono fun e w' h => by rw [hr] at h; exact h
theorem tNextNone (w : World) (bs : Nat) (n x : Int) (L : Option Addr) (z : Option Zone) (S : Sets) (P : Plain (lo z) (fun T => reso z T + 62135596800)) (hL : TLoc w L z) (hS : SpecAt w bs S) (hn : Nan n)
    (h0 : 0 ≤ x) (h1 : x ≤ 700000000000) (hr : nextOf S z x = none) :
    Calls Tryz.prog 177 #[.pointer (some ⟨bs, 0, none⟩), .agg #[.int .u64 n, .int .i64 x, .pointer L]] w fun e w' => e = .returned (.agg #[.int .u64 0, .int .i64 0, .pointer none]) ∧ Below w.heap.size w w' :=
  (tNext' w bs n x L z S P hL hS hn h0 h1).mono fun e w' h => by rw [hr] at h; exact h
set_option maxRecDepth 100000 in
set_option maxHeartbeats 4000000 in
theorem tNext9S (d : Int) (S : Sets) (s n : Int) (w : World) (hn : Nan n) (h0 : -62135596800 ≤ s) (h1 : s ≤ 600000000000) (x' : Int) (hr : nextOf S none (s + 62135596800) = some x') (hx' : 0 < x' ∧ x' ≤ 2000000000000) :
    Calls Tryz.prog 12 #[schedV false d S, .agg #[.int .i64 s, .int .i64 n], zone0] w fun e w' => e = .returned (.tuple #[.agg #[.int .i64 (x' - 62135596800), .int .i64 0], .bool true]) ∧ Below w.heap.size w w' := by
  have HLoc : Hid (∀ W, Below w.heap.size w W → Calls Tryz.prog 32 #[zone0] W fun e w' => ∃ b, e = .returned (.pointer (some ⟨b, 0, none⟩)) ∧ LocP w' b none ∧ Below W.heap.size W w') := Lib.hid fun W hW => tLocation0 W
  unfold zone0 at HLoc ⊢
  generalize hv : Value.slice none 0 0 = v at HLoc ⊢
  clear hv
  have HP := Lib.hid plain_utc
  have HR := Lib.hid hr
  clear hr
  have nilS' := nilS
  have metS' := metS
  go_enter Tryz.func12, Tryz.ntmps12
  go_wp2_with fail
  have hB := box9 w false d S s n v v v v
  generalize hW : (((w.alloc _).alloc _).alloc _).alloc _ = W at hB ⊢
  have hbW : Below w.heap.size w W := by rw [← hW]; exact bA (bA (bA (bA (Below.refl _ _) _) _) _) _
  have hX : Hid (BoxAt W (w.heap.size + 1 + 1 + 1) 2 (fun i => [.int .i64 0, .int .i64 0].getD i undef)) := Lib.hid ⟨by rw [← hW]; simp, fun i hi => by rw [← hW]; rcases i with _ | _ | i <;> first | omega | simp [go_sem], fun o => by rw [← hW]; simp [go_sem]⟩
  clear hW
  have HB := Lib.hid hB
  clear hB
  go_region_held3 (fun w' => w'.cell? ⟨w.heap.size, 0, none⟩ = some (.bool false) ∧ w'.cell? ⟨w.heap.size, 1, none⟩ = some (.int .i64 d) ∧ w'.cell? ⟨w.heap.size, 2, none⟩ = some (.int .u64 S.se) ∧ w'.cell? ⟨w.heap.size, 3, none⟩ = some (.int .u64 S.mi) ∧ w'.cell? ⟨w.heap.size, 4, none⟩ = some (.int .u64 S.ho) ∧ w'.cell? ⟨w.heap.size, 5, none⟩ = some (.int .u64 S.dom) ∧ w'.cell? ⟨w.heap.size, 6, none⟩ = some (.int .u64 S.mon) ∧ w'.cell? ⟨w.heap.size, 7, none⟩ = some (.int .u64 S.dow) ∧
  w'.cell? ⟨w.heap.size + 1, 0, none⟩ = some (.int .i64 s) ∧ w'.cell? ⟨w.heap.size + 1, 1, none⟩ = some (.int .i64 n) ∧
  w'.cell? ⟨w.heap.size + 1 + 1, 0, none⟩ = some v ∧ w'.cell? ⟨w.heap.size + 1 + 1, 1, none⟩ = some v ∧ w'.cell? ⟨w.heap.size + 1 + 1, 2, none⟩ = some v ∧ w'.cell? ⟨w.heap.size + 1 + 1, 3, none⟩ = some v)
    (first | exact HB5.out | exact HB4.out | exact HB3.out | exact HB2.out | exact HB1.out | exact Box9.below HB.out (Below.refl _ _).drew | exact (Box9.set (Box9.set HB5.out (by omega)) (by omega)))
    (first
      | (go_at_call 30; refine (tSched0 d S _).mono ?_; rintro e w1 ⟨b1, rfl, hs1, hb1⟩; have hb1 : Below W.heap.size W w1 := Below.trans (Below.refl _ _).drew hb1; have HB1 := Lib.hid (HB.out.below hb1); have HS1 := Lib.hid hs1; clear HB hs1)
      | (go_at_call 32; refine (HLoc.out _ (hbW.trans (hb1.mono hbW.size))).mono ?_; rintro e w2 ⟨b2, rfl, hl2, hb2⟩; have HB2 := Lib.hid (HB1.out.below hb2); have HS2 := Lib.hid (HS1.out.below hb2); have HL2 := Lib.hid hl2; clear HB1 HS1 hl2)
      | (go_at_call 31; refine (tMoment s n b2 none _ HL2.out h0 (by omega) hn).mono ?_; rintro e w3 ⟨rfl, hb3⟩; have HB3 := Lib.hid (HB2.out.below hb3); have HS3 := Lib.hid (HS2.out.below hb3); have HL3 := Lib.hid (HL2.out.below hb3); clear HB2 HS2 HL2)
      | (go_at_call 177; refine (tNextSome _ b1 n _ x' (canon b2 none) none S HP.out HL3.out.tl HS3.out hn (by omega) (by omega) HR.out).mono ?_; rintro e w4 ⟨rfl, hb4⟩; have HB4 := Lib.hid (HB3.out.below hb4); clear HB3 HS3)
      | (go_at_call 29; refine (tAnswer1 x' _ _ hx'.1 hx'.2).mono ?_; rintro e w5 ⟨rfl, hb5⟩; have HB5 := Lib.hid (HB4.out.below hb5); have HX5 := Lib.hid (((((hX.out.call hb1).call hb2).call hb3).call hb4).call hb5); clear HB4; have r0 := HX5.out.c 0 (by decide); have r1 := HX5.out.c 1 (by decide); have f0 := HX5.out.f 0; have f1 := HX5.out.f 1))
  all_goals
    go_wp2
    have hb6 : Below w.heap.size w w5 := hbW.trans ((((((hb1.mono hbW.size).trans (hb2.mono (Nat.le_trans hbW.size hb1.size))).trans (hb3.mono (Nat.le_trans (Nat.le_trans hbW.size hb1.size) hb2.size))).trans (hb4.mono (Nat.le_trans (Nat.le_trans (Nat.le_trans hbW.size hb1.size) hb2.size) hb3.size))).trans (hb5.mono (Nat.le_trans (Nat.le_trans (Nat.le_trans (Nat.le_trans hbW.size hb1.size) hb2.size) hb3.size) hb4.size))))
    exact bodyPost_ret (v := .tuple #[.agg #[.int .i64 (x' - 62135596800), .int .i64 0], .bool true]) (by simp [results, Tryz.results12, go_sem, r0, r1]) rfl ⟨rfl, (hb6.setCell (by show w.heap.size ≤ w.heap.size + 1 + 1 + 1; omega) _).setCell (by show w.heap.size ≤ w.heap.size + 1 + 1 + 1; omega) _⟩
set_option maxRecDepth 100000 in
set_option maxHeartbeats 4000000 in
theorem tNext9N (d : Int) (S : Sets) (s n : Int) (w : World) (hn : Nan n) (h0 : -62135596800 ≤ s) (h1 : s ≤ 600000000000) (hr : nextOf S none (s + 62135596800) = none) :
    Calls Tryz.prog 12 #[schedV false d S, .agg #[.int .i64 s, .int .i64 n], zone0] w fun e w' => e = .returned (.tuple #[.agg #[.int .i64 0, .int .i64 0], .bool false]) ∧ Below w.heap.size w w' := by
  have HLoc : Hid (∀ W, Below w.heap.size w W → Calls Tryz.prog 32 #[zone0] W fun e w' => ∃ b, e = .returned (.pointer (some ⟨b, 0, none⟩)) ∧ LocP w' b none ∧ Below W.heap.size W w') := Lib.hid fun W hW => tLocation0 W
  unfold zone0 at HLoc ⊢
  generalize hv : Value.slice none 0 0 = v at HLoc ⊢
  clear hv
  have HP := Lib.hid plain_utc
  have HR := Lib.hid hr
  clear hr
  have nilS' := nilS
  have metS' := metS
  go_enter Tryz.func12, Tryz.ntmps12
  go_wp2_with fail
  have hB := box9 w false d S s n v v v v
  generalize hW : (((w.alloc _).alloc _).alloc _).alloc _ = W at hB ⊢
  have hbW : Below w.heap.size w W := by rw [← hW]; exact bA (bA (bA (bA (Below.refl _ _) _) _) _) _
  have hX : Hid (BoxAt W (w.heap.size + 1 + 1 + 1) 2 (fun i => [.int .i64 0, .int .i64 0].getD i undef)) := Lib.hid ⟨by rw [← hW]; simp, fun i hi => by rw [← hW]; rcases i with _ | _ | i <;> first | omega | simp [go_sem], fun o => by rw [← hW]; simp [go_sem]⟩
  clear hW
  have HB := Lib.hid hB
  clear hB
  go_region_held3 (fun w' => w'.cell? ⟨w.heap.size, 0, none⟩ = some (.bool false) ∧ w'.cell? ⟨w.heap.size, 1, none⟩ = some (.int .i64 d) ∧ w'.cell? ⟨w.heap.size, 2, none⟩ = some (.int .u64 S.se) ∧ w'.cell? ⟨w.heap.size, 3, none⟩ = some (.int .u64 S.mi) ∧ w'.cell? ⟨w.heap.size, 4, none⟩ = some (.int .u64 S.ho) ∧ w'.cell? ⟨w.heap.size, 5, none⟩ = some (.int .u64 S.dom) ∧ w'.cell? ⟨w.heap.size, 6, none⟩ = some (.int .u64 S.mon) ∧ w'.cell? ⟨w.heap.size, 7, none⟩ = some (.int .u64 S.dow) ∧
  w'.cell? ⟨w.heap.size + 1, 0, none⟩ = some (.int .i64 s) ∧ w'.cell? ⟨w.heap.size + 1, 1, none⟩ = some (.int .i64 n) ∧
  w'.cell? ⟨w.heap.size + 1 + 1, 0, none⟩ = some v ∧ w'.cell? ⟨w.heap.size + 1 + 1, 1, none⟩ = some v ∧ w'.cell? ⟨w.heap.size + 1 + 1, 2, none⟩ = some v ∧ w'.cell? ⟨w.heap.size + 1 + 1, 3, none⟩ = some v)
    (first | exact HB5.out | exact HB4.out | exact HB3.out | exact HB2.out | exact HB1.out | exact Box9.below HB.out (Below.refl _ _).drew | exact (Box9.set (Box9.set HB5.out (by omega)) (by omega)))
    (first
      | (go_at_call 30; refine (tSched0 d S _).mono ?_; rintro e w1 ⟨b1, rfl, hs1, hb1⟩; have hb1 : Below W.heap.size W w1 := Below.trans (Below.refl _ _).drew hb1; have HB1 := Lib.hid (HB.out.below hb1); have HS1 := Lib.hid hs1; clear HB hs1)
      | (go_at_call 32; refine (HLoc.out _ (hbW.trans (hb1.mono hbW.size))).mono ?_; rintro e w2 ⟨b2, rfl, hl2, hb2⟩; have HB2 := Lib.hid (HB1.out.below hb2); have HS2 := Lib.hid (HS1.out.below hb2); have HL2 := Lib.hid hl2; clear HB1 HS1 hl2)
      | (go_at_call 31; refine (tMoment s n b2 none _ HL2.out h0 (by omega) hn).mono ?_; rintro e w3 ⟨rfl, hb3⟩; have HB3 := Lib.hid (HB2.out.below hb3); have HS3 := Lib.hid (HS2.out.below hb3); have HL3 := Lib.hid (HL2.out.below hb3); clear HB2 HS2 HL2)
      | (go_at_call 177; refine (tNextNone _ b1 n _ (canon b2 none) none S HP.out HL3.out.tl HS3.out hn (by omega) (by omega) HR.out).mono ?_; rintro e w4 ⟨rfl, hb4⟩; have HB4 := Lib.hid (HB3.out.below hb4); clear HB3 HS3)
      | (go_at_call 29; refine (tAnswer0 _ _).mono ?_; rintro e w5 ⟨rfl, hb5⟩; have HB5 := Lib.hid (HB4.out.below hb5); have HX5 := Lib.hid (((((hX.out.call hb1).call hb2).call hb3).call hb4).call hb5); clear HB4; have r0 := HX5.out.c 0 (by decide); have r1 := HX5.out.c 1 (by decide); have f0 := HX5.out.f 0; have f1 := HX5.out.f 1))
  all_goals
    go_wp2
    have hb6 : Below w.heap.size w w5 := hbW.trans ((((((hb1.mono hbW.size).trans (hb2.mono (Nat.le_trans hbW.size hb1.size))).trans (hb3.mono (Nat.le_trans (Nat.le_trans hbW.size hb1.size) hb2.size))).trans (hb4.mono (Nat.le_trans (Nat.le_trans (Nat.le_trans hbW.size hb1.size) hb2.size) hb3.size))).trans (hb5.mono (Nat.le_trans (Nat.le_trans (Nat.le_trans (Nat.le_trans hbW.size hb1.size) hb2.size) hb3.size) hb4.size))))
    exact bodyPost_ret (v := .tuple #[.agg #[.int .i64 0, .int .i64 0], .bool false]) (by simp [results, Tryz.results12, go_sem, r0, r1]) rfl ⟨rfl, (hb6.setCell (by show w.heap.size ≤ w.heap.size + 1 + 1 + 1; omega) _).setCell (by show w.heap.size ≤ w.heap.size + 1 + 1 + 1; omega) _⟩
theorem off_none (s : Int) : -86400 ≤ offO none s ∧ offO none s ≤ 86400 := by simp [offO]
theorem IsNext.bd' {S : Sets} {z : Option Zone} {x v : Int} (tl : ∀ s, -86400 ≤ offO z s ∧ offO z s ≤ 86400) (h : IsNext S z x v) : x < v ∧ v ≤ x + 200000000 := by
  obtain ⟨_, _, h0, h1⟩ := h
  have o1 := tl (v - 62135596800)
  have o2 := tl (x + 1 - 62135596800)
  have e1 : lo z v = v - 62135596800 + offO z (v - 62135596800) := rfl
  have e2 : lo z (x + 1) = x + 1 - 62135596800 + offO z (x + 1 - 62135596800) := rfl
  have a1 := (gdate (lo z (x + 1) / 86400)).lo
  have a2 := (gdate (lo z v / 86400)).hi
  have a3 := ystart6 (gyear (lo z (x + 1) / 86400))
  unfold lastY at h1
  have a4 := ystart_le (show gyear (lo z v / 86400) + 1 ≤ gyear (lo z (x + 1) / 86400) + 6 by omega)
  omega
theorem tNext12 (d : Int) (S : Sets) (s n : Int) (w : World) (hn : Nan n) (h0 : -62135596800 ≤ s) (h1 : s ≤ 600000000000) :
    Calls Tryz.prog 12 #[schedV false d S, .agg #[.int .i64 s, .int .i64 n], zone0] w fun e w' => e = .returned (ansV (nextOf S none (s + 62135596800))) ∧ Below w.heap.size w w' := by
  cases hr : nextOf S none (s + 62135596800) with
  | none => exact tNext9N d S s n w hn h0 h1 hr
  | some x' =>
    have hb := IsNext.bd' off_none (nextOf_is hr)
    exact tNext9S d S s n w hn h0 h1 x' hr (by omega)
end Go.Proofs.YtjmgebhjkbcpcaaGreatDoor.NM
end
section
set_option linter.unusedVariables false
set_option linter.unusedSimpArgs false
namespace Go.Proofs.YtjmgebhjkbcpcaaGreatDoor.NM
open Go.RowKit Cal CronPl Go.Proofs.YtjmgebhjkbcpcaaGreatDoor.PcronNone Go.Proofs.YtjmgebhjkbcpcaaGreatDoor.PCronParse Go.Proofs.YtjmgebhjkbcpcaaGreatDoorW.PrintWords
set_option maxRecDepth 100000
theorem tOffset0 (s : Int) (w : World) : Calls Tryz.prog 72 #[zone0, .int .i64 s] w fun e w' => e = .returned (.int .i64 0) ∧ Below w.heap.size w w' :=
  spec_CronOffset.calls 1 none 0 [] none 0 [] none 0 [] none 0 [] s _ w (Kd.C_nil _ _) (Nat.le_refl _) (Kd.C_nil _ _) (Nat.le_refl _) (Kd.C_nil _ _) (Nat.le_refl _) (Kd.C_nil _ _) (Nat.le_refl _) rfl
theorem tChange0 (s : Int) (w : World) : Calls Tryz.prog 73 #[zone0, .int .i64 s] w fun e w' => ∃ r1, e = .returned (.tuple #[.int .i64 r1, .bool false]) ∧ Below w.heap.size w w' :=
  (spec_CronChange.calls 1 none 0 [] none 0 [] none 0 [] none 0 [] s _ _ w (Kd.C_nil _ _) (Nat.le_refl _) (Kd.C_nil _ _) (Nat.le_refl _) (Kd.C_nil _ _) (Nat.le_refl _) (Kd.C_nil _ _) (Nat.le_refl _) rfl).mono fun e w' h => ⟨_, h.1, h.2⟩
theorem lastY_bd (n : Int) (h0 : -800000 ≤ n) (h1 : n ≤ 2932900) : -900 ≤ gyear n + 5 ∧ gyear n + 5 ≤ 10100 := by
  have h := gdate n
  have a := h.lo
  have b := h.hi
  constructor
  · rcases Int.lt_or_le (gyear n) (-905) with q | q
    · have := ystart_le (show gyear n + 1 ≤ -905 by omega)
      have e : ystart (-905) = -1050072 := by decide
      omega
    · omega
  · rcases Int.lt_or_le 10095 (gyear n) with q | q
    · have := ystart_le (show 10096 ≤ gyear n by omega)
      have e : ystart 10096 = 2967961 := by decide
      omega
    · omega
theorem NoFit.b {S : Sets} {cs : Array Value} {z : Option Zone} {s0 Y fi o un : Int} (no : ∀ v, s0 ≤ v → gyear ((v + offO z v) / 86400) ≤ Y → ¬ FitS S cs (v + offO z v)) (hst : ∀ v, fi ≤ v → v < un - o → offO z v = o) (h0 : s0 ≤ fi) :
    ∀ r b, LocalOk S cs (fi + o) un Y r b → b = false := by
  intro r b h
  cases b with
  | false => rfl
  | true =>
    obtain ⟨h1, h2, h3, h4⟩ := h rfl
    have e := hst (r - o) (by omega) (by omega)
    refine absurd ?_ (no (r - o) (by omega) (by rw [e, show r - o + o = r by omega]; exact h3))
    rw [e, show r - o + o = r by omega]; exact h4
def NextPost (w : World) (e : Ending) (w' : World) : Prop := e = .returned (.tuple #[.agg #[.int .i64 0, .int .i64 0], .bool false]) ∧ Below w.heap.size w w'
/-- the blocks of CronNext -/
def NR (w W : World) (cs : Array Value) (v0 v1 v2 v3 : Value) : Prop :=
  W.heap[w.heap.size]? = some (.cells cs 37 (0, 0)) ∧ W.heap[w.heap.size + 1 + 1]? = some (.cells #[v0, v1, v2, v3] 52 (0, 0)) ∧ W.heap[w.heap.size + 1 + 1 + 1]? = some (.cells #[.int .i64 0, .int .i64 0] 24 (0, 0))
theorem NR.below {w W W' : World} {cs : Array Value} {v0 v1 v2 v3 : Value} (h : NR w W cs v0 v1 v2 v3) (hb : Below W.heap.size W W') : NR w W' cs v0 v1 v2 v3 :=
  ⟨by rw [hb.block _ (block_lt_row h.1)]; exact h.1, by rw [hb.block _ (block_lt_row h.2.1)]; exact h.2.1, by rw [hb.block _ (block_lt_row h.2.2)]; exact h.2.2⟩
theorem NR.z {w W : World} {cs : Array Value} {v0 v1 v2 v3 : Value} (h : NR w W cs v0 v1 v2 v3) :
    W.cell? ⟨w.heap.size + 1 + 1, 0, none⟩ = some v0 ∧ W.cell? ⟨w.heap.size + 1 + 1, 1, none⟩ = some v1 ∧ W.cell? ⟨w.heap.size + 1 + 1, 2, none⟩ = some v2 ∧ W.cell? ⟨w.heap.size + 1 + 1, 3, none⟩ = some v3 :=
  ⟨by rw [cell_of_row _ _ _ _ _ _ h.2.1]; rfl, by rw [cell_of_row _ _ _ _ _ _ h.2.1]; rfl, by rw [cell_of_row _ _ _ _ _ _ h.2.1]; rfl, by rw [cell_of_row _ _ _ _ _ _ h.2.1]; rfl⟩
theorem NR.r {w W : World} {cs : Array Value} {v0 v1 v2 v3 : Value} (h : NR w W cs v0 v1 v2 v3) :
    W.cell? ⟨w.heap.size + 1 + 1 + 1, 0, none⟩ = some (.int .i64 0) ∧ W.cell? ⟨w.heap.size + 1 + 1 + 1, 1, none⟩ = some (.int .i64 0) ∧ W.frozen? ⟨w.heap.size + 1 + 1 + 1, 0, none⟩ = false ∧ W.frozen? ⟨w.heap.size + 1 + 1 + 1, 1, none⟩ = false :=
  ⟨by rw [cell_of_row _ _ _ _ _ _ h.2.2]; rfl, by rw [cell_of_row _ _ _ _ _ _ h.2.2]; rfl, frozen_of_row _ _ _ _ _ h.2.2, frozen_of_row _ _ _ _ _ h.2.2⟩
theorem fld132 (a b c : Int) (w : World) : (Instr.field 132 (.agg #[.int .i64 a, .int .i64 b, .int .i64 c]) 0).run Tryz.prog w = .ok (.int .i64 a) w := by kernel_rfl
set_option maxHeartbeats 2000000 in
theorem tCNext0 (S : Sets) (cs : Array Value) (h : FieldsV S cs) (s n : Int) (w : World) (h0 : -62135596800 ≤ s) (h1 : s ≤ 253402300799)
    (no : ∀ v, s + 1 ≤ v → gyear (v / 86400) ≤ gyear ((s + 1) / 86400) + 5 → ¬ FitS S cs v) :
    Calls Tryz.prog 34 #[.agg cs, .agg #[.int .i64 s, .int .i64 n], zone0] w (NextPost w) := by
  have HOff : Hid (∀ W s', Calls Tryz.prog 72 #[zone0, .int .i64 s'] W fun e w' => e = .returned (.int .i64 0) ∧ Below W.heap.size W w') := Lib.hid fun W s' => tOffset0 s' W
  have HChg : Hid (∀ W s', Calls Tryz.prog 73 #[zone0, .int .i64 s'] W fun e w' => ∃ r1, e = .returned (.tuple #[.int .i64 r1, .bool false]) ∧ Below W.heap.size W w') := Lib.hid fun W s' => tChange0 s' W
  have HF := Lib.hid h
  have HSz := Lib.hid h.sz
  have HCs := Lib.hid (heap_alloc_new w (Obj.cells cs 37))
  unfold zone0 at HOff HChg ⊢
  generalize hv : Value.slice none 0 0 = v at HOff HChg ⊢
  clear hv h
  obtain ⟨Y, hY⟩ : ∃ Y, gyear ((s + 1) / 86400) + 5 = Y := ⟨_, rfl⟩
  have hYb := lastY_bd ((s + 1) / 86400) (by omega) (by omega)
  rw [hY] at hYb no
  have HY := Lib.hid hY
  have HNoB := Lib.hid (NoFit.b (S := S) (cs := cs) (z := none) (s0 := s + 1) (Y := Y) (fi := s + 1) (o := 0) (un := 4611686018427387904) (by simpa [offO] using no) (fun v _ _ => rfl) (Int.le_refl _))
  rw [Int.add_zero] at HNoB
  clear no hY
  have hfld := fld132
  go_enter Tryz.func34, Tryz.ntmps34
  go_upto_region 2 with fail
  generalize hW : World.alloc _ _ = W
  have hN : NR w W cs v v v v := by
    rw [← hW]
    refine ⟨?_, ?_, ?_⟩
    · rw [Below.heap_alloc _ _ _ (by simp; omega), Below.heap_alloc _ _ _ (by simp; omega), Below.heap_alloc _ _ _ (by simp)]; exact HCs.out
    · rw [Below.heap_alloc _ _ _ (by simp)]
      have := heap_alloc_new ((w.alloc (Obj.cells cs 37)).alloc (Obj.cells #[.int .i64 s, .int .i64 n] 24)) (Obj.cells #[v, v, v, v] 52)
      simpa using this
    · have := heap_alloc_new (((w.alloc (Obj.cells cs 37)).alloc (Obj.cells #[.int .i64 s, .int .i64 n] 24)).alloc (Obj.cells #[v, v, v, v] 52)) (Obj.cells #[.int .i64 0, .int .i64 0] 24)
      simpa using this
  have HB0 : Hid (Below w.heap.size w W) := Lib.hid (by rw [← hW]; exact bA (bA (bA (bA (Below.refl _ _) _) _) _) _)
  have HN0 := Lib.hid hN
  obtain ⟨z0, z1, z2, z3⟩ := hN.z
  clear hW hN HCs
  go_wp2_with (first
    | (go_at_call 72; (with_reducible refine (HOff.out _ _).mono ?_); rintro e w1 ⟨rfl, hb1⟩; have HN1 := Lib.hid (HN0.out.below hb1); have HB1 : Hid (Below w.heap.size w w1) := Lib.hid (HB0.out.trans (hb1.mono HB0.out.size)); obtain ⟨z0, z1, z2, z3⟩ := HN1.out.z; clear hb1)
    | (go_at_call 71; refine (tFdiv (s + 1) (by omega) (by omega) _).mono ?_; rintro e w2 ⟨rfl, hb2⟩; have HN2 := Lib.hid (HN1.out.below hb2); have HB2 : Hid (Below w.heap.size w w2) := Lib.hid (HB1.out.trans (hb2.mono HB1.out.size)); obtain ⟨z0, z1, z2, z3⟩ := HN2.out.z; clear hb2)
    | (go_at_call 70; refine (tDateOf ((s + 1) / 86400) (by omega) (by omega) _).mono ?_; rintro e w3 ⟨rfl, hb3⟩; have HN3 := Lib.hid (HN2.out.below hb3); have HB3 : Hid (Below w.heap.size w w3) := Lib.hid (HB2.out.trans (hb3.mono HB2.out.size)); obtain ⟨z0, z1, z2, z3⟩ := HN3.out.z; clear hb3))
  rw [HY.out, w64 Y (by omega) (by omega)]
  go_loopg [8] 1 (fun kq v8 wr => v8 = .int .i64 (s + 1) ∧ Aside0 (NR w wr cs v v v v) ∧ Aside0 (Below w.heap.size w wr))
  case atStart => exact ⟨rfl, ⟨HN3.out⟩, ⟨HB3.out⟩⟩
  case round =>
    obtain ⟨rfl, HNr, HBr⟩ := hrel
    clear z0 z1 z2 z3
    clear z0 z1 z2 z3
    clear z0 z1 z2 z3
    clear z0 z1 z2 z3
    obtain ⟨z0, z1, z2, z3⟩ := HNr.out.z
    go_wp2_with (first
        | (go_at_call 72; (with_reducible refine (HOff.out _ _).mono ?_); rintro e w4 ⟨rfl, hb4⟩; have HN4 := Lib.hid (HNr.out.below hb4); have HB4 : Hid (Below w.heap.size w w4) := Lib.hid (HBr.out.trans (hb4.mono HBr.out.size)); obtain ⟨z0, z1, z2, z3⟩ := HN4.out.z; clear hb4)
        | (go_at_call 73; (with_reducible refine (HChg.out _ _).mono ?_); rintro e w5 ⟨r1, rfl, hb5⟩; have HN5 := Lib.hid (HN4.out.below hb5); have HB5 : Hid (Below w.heap.size w w5) := Lib.hid (HB4.out.trans (hb5.mono HB4.out.size)); obtain ⟨z0, z1, z2, z3⟩ := HN5.out.z; clear hb5)
        | ((with_reducible refine wpList_load_row (o := ⟨some 42, _, _, _, _, _⟩) ?a1 37 (.tmp 3) ?a2 w.heap.size ?a3 37 cs (0, 0) _ ?a4 und37 ?a5 ?a6 ?_); (case a1 => rfl); (case a2 => rfl); (case a3 => rfl); (case a5 => rfl); (case a6 => rw [HSz.out]; exact inf37); (case a4 => exact HN5.out.1))
        | (go_at_call 74; (with_reducible refine (tLocal S cs HF.out (s + 1) 4611686018427387904 Y (by omega) (by omega) (by omega) (by omega) (by omega) (by omega) _).mono ?_); rintro e w6 ⟨r, b, rfl, hr, hb6⟩; obtain rfl := HNoB.out r b hr; have HN6 := Lib.hid (HN5.out.below hb6); have HB6 : Hid (Below w.heap.size w w6) := Lib.hid (HB5.out.trans (hb6.mono HB5.out.size)); obtain ⟨z0, z1, z2, z3⟩ := HN6.out.z; clear hb6; obtain ⟨q0, q1, g0, g1⟩ := HN6.out.r))
    exact bodyPost_ret (v := .tuple #[.agg #[.int .i64 0, .int .i64 0], .bool false]) (by simp [results, Tryz.results34, go_sem, q0, q1]) rfl ⟨rfl, (HB6.out.setCell (by simp; omega) _).setCell (by simp; omega) _⟩
end Go.Proofs.YtjmgebhjkbcpcaaGreatDoor.NM
end
section
set_option linter.unusedVariables false
set_option linter.unusedSimpArgs false
namespace Go.Proofs.YtjmgebhjkbcpcaaGreatDoor.NM
open Go.RowKit Cal CronPl Go.Proofs.YtjmgebhjkbcpcaaGreatDoor.PcronNone Go.Proofs.YtjmgebhjkbcpcaaGreatDoor.PCronParse Go.Proofs.YtjmgebhjkbcpcaaGreatDoorW.PrintWords
set_option maxRecDepth 100000
theorem hitS_hit (b : Int) (n : Nat) (h0 : 0 ≤ b) (h1 : b < 18446744073709551616) (hn : n < 63) (h : hitS b n = true) : hit b n = true := by
  obtain ⟨a, rfl⟩ := Int.eq_ofNat_of_zero_le h0
  have ha : a < 2 ^ 64 := by omega
  have p : 2 ^ n < 2 ^ 63 := Nat.pow_lt_pow_right (by decide) hn
  have e1 : ((a : Int) / 2 ^ n) = ((a / 2 ^ n : Nat) : Int) := by push_cast; rfl
  have e2 : ((2 : Int) ^ n) = ((2 ^ n : Nat) : Int) := by push_cast; rfl
  have q : a / 2 ^ n < 2 ^ 64 := Nat.lt_of_le_of_lt (Nat.div_le_self _ _) ha
  unfold hitS at h
  rw [e1] at h
  have k := (bits_nat .u64 64 (by decide) wraps_u64 (a / 2 ^ n) 1 (by omega) (by omega)).1
  rw [show ((1 : Int)) = ((1 : Nat) : Int) from rfl, k] at h
  have ht : a.testBit n = true := by
    unfold Nat.testBit
    rw [Nat.shiftRight_eq_div_pow, Nat.and_comm]
    have h' : (a / 2 ^ n) &&& 1 = 1 := by
      have := LawfulBEq.eq_of_beq h
      omega
    rw [h']; rfl
  have h3 : 2 ^ n &&& a ≠ 0 := fun h => by
    have := congrArg (fun x => Nat.testBit x n) h
    simp only [Nat.testBit_and, Nat.testBit_two_pow_self, ht, Nat.zero_testBit] at this
    exact absurd this (by decide)
  unfold hit
  rw [show ((n : Int)).toNat = n by omega, e2]
  generalize 2 ^ n = t at p h3
  have k2 := (bits_nat .u64 64 (by decide) wraps_u64 t a (by omega) (by omega)).1
  rw [u64wrap_small _ (by omega) (by omega), k2]
  rw [decide_eq_true_eq]
  omega
theorem starS_star (b : Int) : starS b = star b := by
  unfold starS star
  have := bits_nn b 9223372036854775808
  rw [Bool.eq_iff_iff]; simp; omega
theorem fit_match {S : Sets} (hS : SetsOk S) {cs : Array Value} (h : FieldsV S cs) {z : Option Zone} {x0 Y X r : Int} (hr : lo z X = r) (hf : FitS S cs r) : Match (cxOf S x0 Y) (lo z) X := by
  obtain ⟨f1, f2, f3, f4, f5⟩ := hf
  have g := gdate (r / 86400)
  have m1 := g.m1
  have m12 := g.m12
  have d1 := g.d1
  have dm := g.dm
  have ml := mlen_bd (gyear (r / 86400)) (gmonth (r / 86400))
  have key : ∀ (k : Nat) (v : Int), k < 6 → 0 ≤ v → v < 63 → inF cs k v.toNat = true → hit (bitsOf S k) v = true := fun k v hk h0 h1 hi => by
    have a := (h.hit k v.toNat hk (by omega) hi).2.2
    have := hitS_hit (bitsOf S k) v.toNat (hS k hk).1 (hS k hk).2 (by omega) a
    rwa [Int.toNat_of_nonneg h0] at this
  refine ⟨?_, ?_, ?_, ?_, ?_⟩
  · show hit S.mon (gmonth (lo z X / 86400)) = true
    rw [hr]; exact key 4 _ (by decide) (by omega) (by omega) f1
  · show dayHit S (lo z X / 86400) = true
    rw [hr]
    unfold dayF at f2
    unfold dayHit
    rw [starS_star, starS_star] at f2
    have a3 := key 3 (gday (r / 86400)) (by decide) (by omega) (by omega)
    have a5 := key 5 ((r / 86400 + 4) % 7) (by decide) (by omega) (by omega)
    have e3 : bitsOf S 3 = S.dom := rfl
    have e5 : bitsOf S 5 = S.dow := rfl
    rw [e3] at a3 f2
    rw [e5] at a5 f2
    by_cases c : (star S.dom || star S.dow) = true
    · rw [if_pos c] at f2 ⊢
      rw [Bool.and_eq_true] at f2 ⊢
      exact ⟨a3 f2.1, a5 f2.2⟩
    · rw [if_neg c] at f2 ⊢
      rw [Bool.or_eq_true] at f2 ⊢
      exact f2.imp a3 a5
  · show hit S.ho (lo z X % 86400 / 3600) = true
    rw [hr]; exact key 2 _ (by decide) (by omega) (by omega) f3
  · show hit S.mi (lo z X % 3600 / 60) = true
    rw [hr]; exact key 1 _ (by decide) (by omega) (by omega) f4
  · show hit S.se (lo z X % 60) = true
    rw [hr]; exact key 0 _ (by decide) (by omega) (by omega) f5
theorem no_fit {S : Sets} (hS : SetsOk S) {cs : Array Value} (h : FieldsV S cs) {z : Option Zone} (P : Plain (lo z) (fun T => reso z T + 62135596800)) {s : Int} (hn : nextOf S z (s + 62135596800) = none) :
    ∀ v, s + 1 ≤ v → gyear ((v + offO z v) / 86400) ≤ gyear ((s + 1 + offO z (s + 1)) / 86400) + 5 → ¬ FitS S cs (v + offO z v) := by
  intro v hv hy hf
  have e : lo z (v + 62135596800) = v + offO z v := by unfold lo; rw [show v + 62135596800 - 62135596800 = v by omega]
  have e1 : lastY z (s + 62135596800) = gyear ((s + 1 + offO z (s + 1)) / 86400) + 5 := by
    unfold lastY lo; rw [show s + 62135596800 + 1 - 62135596800 = s + 1 by omega]
  exact nextOf_none P hn (v + 62135596800) (by omega) (by rw [e, e1]; exact hy) (fit_match hS h e hf)
theorem box8 (w : World) (ev : Bool) (d : Int) (S : Sets) (s n : Int) (v0 v1 v2 v3 : Value) :
    Box9 (((w.alloc (Obj.cells #[.bool ev, .int .i64 d, .int .u64 S.se, .int .u64 S.mi, .int .u64 S.ho, .int .u64 S.dom, .int .u64 S.mon, .int .u64 S.dow] 30)).alloc (Obj.cells #[.int .i64 s, .int .i64 n] 24)).alloc (Obj.cells #[v0, v1, v2, v3] 52)) w.heap.size ev d S s n v0 v1 v2 v3 := by
  refine ⟨?_, ?_, ?_, ?_, ?_, ?_, ?_, ?_, ?_, ?_, ?_, ?_, ?_, ?_⟩ <;> simp [go_sem]
abbrev zInst (i : Nat) : Value := [Value.int .i64 0, .int .i64 0].getD i undef
theorem boxNew2 (W : World) : BoxAt (W.alloc (Obj.cells #[.int .i64 0, .int .i64 0] 24)) W.heap.size 2 zInst :=
  ⟨by simp, fun i hi => by rcases i with _ | _ | i <;> first | omega | simp [go_sem], fun o => by simp [go_sem]⟩
set_option maxHeartbeats 4000000 in
theorem tNone0 (ev : Bool) (d : Int) (S : Sets) (hS : SetsOk S) (s n : Int) (w : World) (h0 : -62135596800 ≤ s) (h1 : s ≤ 253402300799) (hn : nextOf S none (s + 62135596800) = none) :
    Calls Tryz.prog 15 #[schedV ev d S, .agg #[.int .i64 s, .int .i64 n], zone0] w fun e w' => e = .returned (.bool true) ∧ Below w.heap.size w w' := by
  have HNx : Hid (∀ W cs, FieldsV S cs → Calls Tryz.prog 34 #[.agg cs, .agg #[.int .i64 s, .int .i64 n], zone0] W (NextPost W)) := Lib.hid fun W cs h => tCNext0 S cs h s n W h0 h1 (by have := no_fit hS h plain_utc hn; simpa [offO] using this)
  have HS := Lib.hid hS
  unfold zone0 at HNx ⊢
  generalize hv : Value.slice none 0 0 = v at HNx ⊢
  clear hv hS hn
  go_enter Tryz.func15, Tryz.ntmps15
  go_upto_region 1 with fail
  have hB := box8 w ev d S s n v v v v
  generalize hW : ((w.alloc _).alloc _).alloc _ = W at hB ⊢
  have hbW : Below w.heap.size w W := by rw [← hW]; exact bA (bA (bA (Below.refl _ _) _) _) _
  have hsW : w.heap.size + 3 ≤ W.heap.size := by rw [← hW]; simp
  clear hW
  have HB := Lib.hid hB
  have HW := Lib.hid hbW
  clear hB hbW
  go_region_held3 (fun w' => w'.cell? ⟨w.heap.size, 0, none⟩ = some (.bool ev) ∧ w'.cell? ⟨w.heap.size, 1, none⟩ = some (.int .i64 d) ∧ w'.cell? ⟨w.heap.size, 2, none⟩ = some (.int .u64 S.se) ∧ w'.cell? ⟨w.heap.size, 3, none⟩ = some (.int .u64 S.mi) ∧ w'.cell? ⟨w.heap.size, 4, none⟩ = some (.int .u64 S.ho) ∧ w'.cell? ⟨w.heap.size, 5, none⟩ = some (.int .u64 S.dom) ∧ w'.cell? ⟨w.heap.size, 6, none⟩ = some (.int .u64 S.mon) ∧ w'.cell? ⟨w.heap.size, 7, none⟩ = some (.int .u64 S.dow) ∧
  w'.cell? ⟨w.heap.size + 1, 0, none⟩ = some (.int .i64 s) ∧ w'.cell? ⟨w.heap.size + 1, 1, none⟩ = some (.int .i64 n) ∧
  w'.cell? ⟨w.heap.size + 1 + 1, 0, none⟩ = some v ∧ w'.cell? ⟨w.heap.size + 1 + 1, 1, none⟩ = some v ∧ w'.cell? ⟨w.heap.size + 1 + 1, 2, none⟩ = some v ∧ w'.cell? ⟨w.heap.size + 1 + 1, 3, none⟩ = some v)
      (first | exact HB2.out | exact HB1.out | exact Box9.below HB.out (Below.refl _ _).drew | exact Box9.below (by assumption) (bA (Below.refl _ _) _) | exact Box9.set (Box9.set (by assumption) (by omega)) (by omega))
      (first
        | (go_at_call 35; refine (tFieldsOf ev d S HS.out _).mono ?_; rintro e w1 ⟨cs, rfl, hcs, hb1⟩; have k1 : Below W.heap.size W w1 := (by first | exact (Below.refl _ _).drew.trans hb1 | exact (bA (Below.refl _ _).drew _).trans (hb1.mono (by simp))); have z1 := k1.size; have HB1 := Lib.hid (HB.out.below k1); have HCS := Lib.hid hcs; have HW1 := Lib.hid (HW.out.trans (k1.mono HW.out.size)); (first | (have hbx : Hid (BoxAt w1 W.heap.size 2 zInst) := Lib.hid ((boxNew2 W.drew).call hb1)) | skip); clear hb1 hcs)
        | (go_at_call 34; refine (HNx.out _ cs HCS.out).mono ?_; rintro e w2 ⟨rfl, hb2⟩; have k2 : Below w1.heap.size w1 w2 := (by first | exact hb2 | exact (bA (Below.refl _ _) _).trans (hb2.mono (by simp))); have z2 := k2.size; have HB2 := Lib.hid (HB1.out.below k2); have HW2 := Lib.hid (HW1.out.trans (k2.mono HW1.out.size)); (first | (have hbx := Lib.hid (hbx.out.call hb2)) | (have hbx : Hid (BoxAt w2 w1.heap.size 2 zInst) := Lib.hid ((boxNew2 w1).call hb2)) | skip); (first | (have r0 := hbx.out.c 0 (by decide); have r1 := hbx.out.c 1 (by decide); have f0 := hbx.out.f 0; have f1 := hbx.out.f 1) | skip); clear hb2))
  all_goals
    go_wp2_with fail
    go_ret
    refine ⟨rfl, ?_⟩
    first
      | exact bA HW2.out _
      | exact (HW2.out.setCell (by simp only; omega) _).setCell (by simp only; omega) _
end Go.Proofs.YtjmgebhjkbcpcaaGreatDoor.NM
end
section
set_option linter.unusedVariables false
set_option linter.unusedSimpArgs false
/- the sets of a list in one field; the next activation of three schedules -/
namespace Go.Proofs.YtjmgebhjkbcpcaaGreatDoor.Txt
open Go.Proofs.YtjmgebhjkbcpcaaGreatDoor.NM
open Go Go.RowKit Cal CronPl
theorem u64_nat {b : Int} (h : U64 b) : ∃ n : Nat, b = n ∧ n < 2 ^ 64 := by
  obtain ⟨n, rfl⟩ := Int.eq_ofNat_of_zero_le h.1
  exact ⟨n, rfl, by have := h.2; omega⟩
theorem or_nat (a b : Nat) (ha : a < 2 ^ 64) (hb : b < 2 ^ 64) : bits .or .u64 a b = ((a ||| b : Nat) : Int) := (bits_nat .u64 64 (by decide) wraps_u64 a b ha hb).2
theorem and_nat (a b : Nat) (ha : a < 2 ^ 64) (hb : b < 2 ^ 64) : bits .and .u64 a b = ((a &&& b : Nat) : Int) := (bits_nat .u64 64 (by decide) wraps_u64 a b ha hb).1
theorem or_lt {a b : Nat} (ha : a < 2 ^ 64) (hb : b < 2 ^ 64) : a ||| b < 2 ^ 64 := Nat.or_lt_two_pow ha hb
theorem or_assoc' {a b c : Int} (ha : U64 a) (hb : U64 b) (hc : U64 c) : bits .or .u64 (bits .or .u64 a b) c = bits .or .u64 a (bits .or .u64 b c) := by
  obtain ⟨a, rfl, na⟩ := u64_nat ha
  obtain ⟨b, rfl, nb⟩ := u64_nat hb
  obtain ⟨c, rfl, nc⟩ := u64_nat hc
  rw [or_nat a b na nb, or_nat b c nb nc, or_nat _ c (or_lt na nb) nc, or_nat a _ na (or_lt nb nc), Nat.or_assoc]
theorem or_zero' {a : Int} (ha : U64 a) : bits .or .u64 a 0 = a := by
  obtain ⟨a, rfl, na⟩ := u64_nat ha
  have := or_nat a 0 na (by decide)
  simpa using this
theorem fbL_append (kind : Nat) (A : List Bs) : ∀ B : List Bs, fbL kind (A ++ B) = bits .or .u64 (fbL kind A) (fbL kind B) := by
  have key : ∀ n : Nat, ∀ B : List Bs, B.length = n → fbL kind (A ++ B) = bits .or .u64 (fbL kind A) (fbL kind B) := by
    intro n
    induction n with
    | zero =>
      intro B hB
      have : B = [] := List.eq_nil_of_length_eq_zero hB
      subst this
      rw [List.append_nil]
      exact (or_zero' (fbL_u64 kind A)).symm
    | succ n ih =>
      intro B hB
      have hne : B ≠ [] := fun e => by rw [e] at hB; simp at hB
      obtain ⟨C, p, rfl⟩ : ∃ C p, B = C ++ [p] := ⟨B.dropLast, B.getLast hne, (List.dropLast_concat_getLast hne).symm⟩
      rw [← List.append_assoc, fbL_snoc, fbL_snoc, ih C (by simpa using hB)]
      exact or_assoc' (fbL_u64 kind A) (fbL_u64 kind C) (by unfold ib; split <;> (try unfold rbits) <;> first | exact bits_u64 _ _ _ | exact ⟨by decide, by decide⟩)
  exact fun B => key B.length B rfl
theorem fb_join (kind : Nat) (w p : Bs) : fb kind (w ++ 44 :: p) = bits .or .u64 (fb kind w) (fb kind p) := by
  unfold fb
  rw [pieces_append]
  exact fbL_append kind _ _
theorem and_pow (n k : Nat) : decide (0 < (2 ^ k &&& n : Nat)) = n.testBit k := by
  cases h : n.testBit k with
  | true =>
    rw [decide_eq_true_eq]
    refine Nat.pos_of_ne_zero fun e => ?_
    have := congrArg (fun x => Nat.testBit x k) e
    simp only [Nat.testBit_and, Nat.testBit_two_pow_self, h, Nat.zero_testBit] at this
    exact absurd this (by decide)
  | false =>
    rw [decide_eq_false_iff_not]
    intro hp
    obtain ⟨i, hi⟩ : ∃ i, (2 ^ k &&& n).testBit i = true := by
      by_cases c : ∃ i, (2 ^ k &&& n).testBit i = true
      · exact c
      · have : 2 ^ k &&& n = 0 := Nat.eq_of_testBit_eq fun i => by
          rw [Nat.zero_testBit]
          cases hc : (2 ^ k &&& n).testBit i with
          | false => rfl
          | true => exact absurd ⟨i, hc⟩ c
        omega
    rw [Nat.testBit_and, Nat.testBit_two_pow, Bool.and_eq_true, decide_eq_true_eq] at hi
    rw [← hi.1, h] at hi
    simp at hi
theorem hit_nat (n : Nat) (hn : n < 2 ^ 64) (k : Int) (h0 : 0 ≤ k) (h1 : k < 64) : hit n k = n.testBit k.toNat := by
  obtain ⟨k, rfl⟩ := Int.eq_ofNat_of_zero_le h0
  have p : 2 ^ k < 2 ^ 64 := Nat.pow_lt_pow_right (by decide) (by omega)
  have e2 : ((2 : Int) ^ k) = ((2 ^ k : Nat) : Int) := by push_cast; rfl
  unfold hit
  rw [Int.toNat_natCast, e2, ← and_pow]
  generalize 2 ^ k = t at p
  rw [u64wrap_small _ (by omega) (by omega), and_nat t n p hn]
  rw [Bool.eq_iff_iff, decide_eq_true_eq, decide_eq_true_eq]
  omega
theorem star_nat (n : Nat) (hn : n < 2 ^ 64) : star n = n.testBit 63 := by
  unfold star
  have := and_nat n 9223372036854775808 hn (by decide)
  rw [show ((9223372036854775808 : Nat) : Int) = 9223372036854775808 from rfl] at this
  rw [this, ← and_pow, Nat.and_comm, show (2 : Nat) ^ 63 = 9223372036854775808 from rfl, Bool.eq_iff_iff, decide_eq_true_eq, decide_eq_true_eq]
  omega
theorem hit_or {a b : Int} (ha : U64 a) (hb : U64 b) (k : Int) (h0 : 0 ≤ k) (h1 : k < 64) : hit (bits .or .u64 a b) k = (hit a k || hit b k) := by
  obtain ⟨a, rfl, na⟩ := u64_nat ha
  obtain ⟨b, rfl, nb⟩ := u64_nat hb
  rw [or_nat a b na nb, hit_nat _ (or_lt na nb) k h0 h1, hit_nat a na k h0 h1, hit_nat b nb k h0 h1, Nat.testBit_or]
theorem star_or {a b : Int} (ha : U64 a) (hb : U64 b) : star (bits .or .u64 a b) = (star a || star b) := by
  obtain ⟨a, rfl, na⟩ := u64_nat ha
  obtain ⟨b, rfl, nb⟩ := u64_nat hb
  rw [or_nat a b na nb, star_nat _ (or_lt na nb), star_nat a na, star_nat b nb, Nat.testBit_or]
end Go.Proofs.YtjmgebhjkbcpcaaGreatDoor.Txt
end
section
set_option linter.unusedVariables false
set_option linter.unusedSimpArgs false
namespace Go.Proofs.YtjmgebhjkbcpcaaGreatDoor.Txt
open Go.Proofs.YtjmgebhjkbcpcaaGreatDoor.NM
open Go Go.RowKit Cal CronPl
def setsOf (F : List Bs) : Sets := ⟨fb 0 (F.getD 0 []), fb 1 (F.getD 1 []), fb 2 (F.getD 2 []), fb 3 (F.getD 3 []), fb 4 (F.getD 4 []), fb 5 (F.getD 5 [])⟩
theorem fb_u64 (k : Nat) (L : Bs) : U64 (fb k L) := fbL_u64 k _
theorem setsOk (F : List Bs) : SetsOk (setsOf F) := fun k hk => by
  have hc : k = 0 ∨ k = 1 ∨ k = 2 ∨ k = 3 ∨ k = 4 ∨ k = 5 := by omega
  rcases hc with rfl | rfl | rfl | rfl | rfl | rfl <;> exact fb_u64 _ _
/-- what the three texts' sets have to do with each other -/
structure Rel (a b c : Int) (both : Bool) : Prop where
  ua : U64 a
  ub : U64 b
  h : if both then c = bits .or .u64 a b else a = b ∧ c = a
theorem Rel.hit {a b c : Int} {t : Bool} (r : Rel a b c t) (k : Int) (h0 : 0 ≤ k) (h1 : k < 64) : NM.hit c k = (NM.hit a k || NM.hit b k) ∧ (t = false → NM.hit a k = NM.hit c k ∧ NM.hit b k = NM.hit c k) := by
  cases t with
  | true => have := r.h; simp at this; rw [this]; exact ⟨hit_or r.ua r.ub k h0 h1, fun h => by cases h⟩
  | false => obtain ⟨e1, e2⟩ : a = b ∧ c = a := by have := r.h; simpa using this
             subst e1; subst e2; exact ⟨by simp, fun _ => ⟨rfl, rfl⟩⟩
theorem Rel.star {a b c : Int} {t : Bool} (r : Rel a b c t) (h : NM.star a = NM.star b) : NM.star a = NM.star c ∧ NM.star b = NM.star c := by
  cases t with
  | true => have := r.h; simp at this; rw [this, star_or r.ua r.ub, h]; simp
  | false => obtain ⟨e1, e2⟩ : a = b ∧ c = a := by have := r.h; simpa using this
             subst e1; subst e2; exact ⟨rfl, rfl⟩
structure Rel3 (S1 S2 S3 : Sets) (j : Nat) : Prop where
  se : Rel S1.se S2.se S3.se (j == 0)
  mi : Rel S1.mi S2.mi S3.mi (j == 1)
  ho : Rel S1.ho S2.ho S3.ho (j == 2)
  dom : Rel S1.dom S2.dom S3.dom (j == 3)
  mon : Rel S1.mon S2.mon S3.mon (j == 4)
  dow : Rel S1.dow S2.dow S3.dow (j == 5)
  sd : NM.star S1.dom = NM.star S2.dom
  sw : NM.star S1.dow = NM.star S2.dow
theorem rel_of {B C : List Bs} {w p : Bs} (k : Nat) : Rel (fb k ((B ++ [w] ++ C).getD k [])) (fb k ((B ++ [p] ++ C).getD k [])) (fb k ((B ++ [w ++ 44 :: p] ++ C).getD k [])) (B.length == k) := by
  refine ⟨fb_u64 _ _, fb_u64 _ _, ?_⟩
  have g : ∀ x : Bs, (B ++ [x] ++ C).getD k [] = if k < B.length then B.getD k [] else if k = B.length then x else C.getD (k - B.length - 1) [] := by
    intro x
    rw [List.append_assoc, List.getD_eq_getElem?_getD]
    by_cases c : k < B.length
    · rw [if_pos c, List.getElem?_append_left c, List.getD_eq_getElem?_getD]
    · rw [if_neg c, List.getElem?_append_right (by omega)]
      by_cases e : k = B.length
      · rw [if_pos e, e]; simp
      · rw [if_neg e, List.getD_eq_getElem?_getD]
        obtain ⟨m, hm⟩ : ∃ m, k - B.length = m + 1 := ⟨k - B.length - 1, by omega⟩
        rw [hm]; simp
  rw [g w, g p, g (w ++ 44 :: p)]
  by_cases c : k < B.length
  · have : (B.length == k) = false := by simp; omega
    rw [this, if_pos c, if_pos c, if_pos c]; simp
  · rw [if_neg c, if_neg c, if_neg c]
    by_cases e : k = B.length
    · have : (B.length == k) = true := by simp; omega
      rw [this, if_pos e, if_pos e, if_pos e]
      simpa using fb_join k w p
    · have : (B.length == k) = false := by simp; omega
      rw [this, if_neg e, if_neg e, if_neg e]; simp
theorem Rel3.of {B C : List Bs} {w p : Bs} (h1 : NM.star (setsOf (B ++ [w] ++ C)).dom = NM.star (setsOf (B ++ [p] ++ C)).dom) (h2 : NM.star (setsOf (B ++ [w] ++ C)).dow = NM.star (setsOf (B ++ [p] ++ C)).dow) :
    Rel3 (setsOf (B ++ [w] ++ C)) (setsOf (B ++ [p] ++ C)) (setsOf (B ++ [w ++ 44 :: p] ++ C)) B.length :=
  ⟨rel_of 0, rel_of 1, rel_of 2, rel_of 3, rel_of 4, rel_of 5, h1, h2⟩
theorem match3 {S1 S2 S3 : Sets} {j : Nat} (hj : j < 6) (R : Rel3 S1 S2 S3 j) (x0 Y : Int) (l : Int → Int) (v : Int) :
    Match (cxOf S3 x0 Y) l v ↔ (Match (cxOf S1 x0 Y) l v ∨ Match (cxOf S2 x0 Y) l v) := by
  have gd := gdate (l v / 86400)
  have md := mlen_bd (gyear (l v / 86400)) (gmonth (l v / 86400))
  have a1 := gd.m1
  have a2 := gd.m12
  have a3 := gd.d1
  have a4 := gd.dm
  have hse := R.se.hit (l v % 60) (by omega) (by omega)
  have hmi := R.mi.hit (l v % 3600 / 60) (by omega) (by omega)
  have hho := R.ho.hit (l v % 86400 / 3600) (by omega) (by omega)
  have hmo := R.mon.hit (gmonth (l v / 86400)) (by omega) (by omega)
  have hdo := R.dom.hit (gday (l v / 86400)) (by omega) (by omega)
  have hdw := R.dow.hit ((l v / 86400 + 4) % 7) (by omega) (by omega)
  have sd := R.dom.star R.sd
  have sw := R.dow.star R.sw
  unfold Match mOK dOK hOK iOK sOK cxOf
  simp only
  unfold dayHit
  rw [sd.1, sd.2, sw.1, sw.2]
  revert hse hmi hho hmo hdo hdw
  generalize NM.hit S1.se (l v % 60) = e1
  generalize NM.hit S2.se (l v % 60) = e2
  generalize NM.hit S3.se (l v % 60) = e3
  generalize NM.hit S1.mi (l v % 3600 / 60) = m1
  generalize NM.hit S2.mi (l v % 3600 / 60) = m2
  generalize NM.hit S3.mi (l v % 3600 / 60) = m3
  generalize NM.hit S1.ho (l v % 86400 / 3600) = o1
  generalize NM.hit S2.ho (l v % 86400 / 3600) = o2
  generalize NM.hit S3.ho (l v % 86400 / 3600) = o3
  generalize NM.hit S1.mon (gmonth (l v / 86400)) = n1
  generalize NM.hit S2.mon (gmonth (l v / 86400)) = n2
  generalize NM.hit S3.mon (gmonth (l v / 86400)) = n3
  generalize NM.hit S1.dom (gday (l v / 86400)) = d1
  generalize NM.hit S2.dom (gday (l v / 86400)) = d2
  generalize NM.hit S3.dom (gday (l v / 86400)) = d3
  generalize NM.hit S1.dow ((l v / 86400 + 4) % 7) = w1
  generalize NM.hit S2.dow ((l v / 86400 + 4) % 7) = w2
  generalize NM.hit S3.dow ((l v / 86400 + 4) % 7) = w3
  generalize (NM.star S3.dom || NM.star S3.dow) = st
  intro ⟨q1, r1⟩ ⟨q2, r2⟩ ⟨q3, r3⟩ ⟨q4, r4⟩ ⟨q5, r5⟩ ⟨q6, r6⟩
  have hc : j = 0 ∨ j = 1 ∨ j = 2 ∨ j = 3 ∨ j = 4 ∨ j = 5 := by omega
  rcases hc with rfl | rfl | rfl | rfl | rfl | rfl
  · obtain ⟨rfl, rfl⟩ := r2 rfl; obtain ⟨rfl, rfl⟩ := r3 rfl; obtain ⟨rfl, rfl⟩ := r4 rfl; obtain ⟨rfl, rfl⟩ := r5 rfl; obtain ⟨rfl, rfl⟩ := r6 rfl
    subst q1
    rw [Bool.or_eq_true]; constructor
    · rintro ⟨a, b, c, d, e | e⟩; exact .inl ⟨a, b, c, d, e⟩; exact .inr ⟨a, b, c, d, e⟩
    · rintro (⟨a, b, c, d, e⟩ | ⟨a, b, c, d, e⟩); exact ⟨a, b, c, d, .inl e⟩; exact ⟨a, b, c, d, .inr e⟩
  · obtain ⟨rfl, rfl⟩ := r1 rfl; obtain ⟨rfl, rfl⟩ := r3 rfl; obtain ⟨rfl, rfl⟩ := r4 rfl; obtain ⟨rfl, rfl⟩ := r5 rfl; obtain ⟨rfl, rfl⟩ := r6 rfl
    subst q2
    rw [Bool.or_eq_true]; constructor
    · rintro ⟨a, b, c, d | d, e⟩; exact .inl ⟨a, b, c, d, e⟩; exact .inr ⟨a, b, c, d, e⟩
    · rintro (⟨a, b, c, d, e⟩ | ⟨a, b, c, d, e⟩); exact ⟨a, b, c, .inl d, e⟩; exact ⟨a, b, c, .inr d, e⟩
  · obtain ⟨rfl, rfl⟩ := r1 rfl; obtain ⟨rfl, rfl⟩ := r2 rfl; obtain ⟨rfl, rfl⟩ := r4 rfl; obtain ⟨rfl, rfl⟩ := r5 rfl; obtain ⟨rfl, rfl⟩ := r6 rfl
    subst q3
    rw [Bool.or_eq_true]; constructor
    · rintro ⟨a, b, c | c, d, e⟩; exact .inl ⟨a, b, c, d, e⟩; exact .inr ⟨a, b, c, d, e⟩
    · rintro (⟨a, b, c, d, e⟩ | ⟨a, b, c, d, e⟩); exact ⟨a, b, .inl c, d, e⟩; exact ⟨a, b, .inr c, d, e⟩
  · obtain ⟨rfl, rfl⟩ := r1 rfl; obtain ⟨rfl, rfl⟩ := r2 rfl; obtain ⟨rfl, rfl⟩ := r3 rfl; obtain ⟨rfl, rfl⟩ := r4 rfl; obtain ⟨rfl, rfl⟩ := r6 rfl
    subst q5
    have hb : (if st = true then (d1 || d2) && w2 else (d1 || d2) || w2) = ((if st = true then d1 && w2 else d1 || w2) || (if st = true then d2 && w2 else d2 || w2)) := by
      cases st <;> cases d1 <;> cases d2 <;> cases w2 <;> rfl
    rw [hb, Bool.or_eq_true]; constructor
    · rintro ⟨a, b | b, c, d, e⟩; exact .inl ⟨a, b, c, d, e⟩; exact .inr ⟨a, b, c, d, e⟩
    · rintro (⟨a, b, c, d, e⟩ | ⟨a, b, c, d, e⟩); exact ⟨a, .inl b, c, d, e⟩; exact ⟨a, .inr b, c, d, e⟩
  · obtain ⟨rfl, rfl⟩ := r1 rfl; obtain ⟨rfl, rfl⟩ := r2 rfl; obtain ⟨rfl, rfl⟩ := r3 rfl; obtain ⟨rfl, rfl⟩ := r5 rfl; obtain ⟨rfl, rfl⟩ := r6 rfl
    subst q4
    rw [Bool.or_eq_true]; constructor
    · rintro ⟨a | a, b, c, d, e⟩; exact .inl ⟨a, b, c, d, e⟩; exact .inr ⟨a, b, c, d, e⟩
    · rintro (⟨a, b, c, d, e⟩ | ⟨a, b, c, d, e⟩); exact ⟨.inl a, b, c, d, e⟩; exact ⟨.inr a, b, c, d, e⟩
  · obtain ⟨rfl, rfl⟩ := r1 rfl; obtain ⟨rfl, rfl⟩ := r2 rfl; obtain ⟨rfl, rfl⟩ := r3 rfl; obtain ⟨rfl, rfl⟩ := r4 rfl; obtain ⟨rfl, rfl⟩ := r5 rfl
    subst q6
    have hb : (if st = true then d2 && (w1 || w2) else d2 || (w1 || w2)) = ((if st = true then d2 && w1 else d2 || w1) || (if st = true then d2 && w2 else d2 || w2)) := by
      cases st <;> cases d2 <;> cases w1 <;> cases w2 <;> rfl
    rw [hb, Bool.or_eq_true]; constructor
    · rintro ⟨a, b | b, c, d, e⟩; exact .inl ⟨a, b, c, d, e⟩; exact .inr ⟨a, b, c, d, e⟩
    · rintro (⟨a, b, c, d, e⟩ | ⟨a, b, c, d, e⟩); exact ⟨a, .inl b, c, d, e⟩; exact ⟨a, .inr b, c, d, e⟩
def early : Option Int → Option Int → Option Int
  | a, none => a
  | none, some b => some b
  | some a, some b => if b < a then some b else some a
theorem gyear_le {a b : Int} (h : a ≤ b) : gyear a ≤ gyear b := by
  have a1 := (gdate a).lo
  have a2 := (gdate b).hi
  rcases Int.lt_or_le (gyear b) (gyear a) with q | q
  · have a3 := ystart_le (show gyear b + 1 ≤ gyear a by omega)
    omega
  · exact q
theorem next3 {S1 S2 S3 : Sets} (hM : ∀ x0 Y v, Match (cxOf S3 x0 Y) (NM.lo none) v ↔ (Match (cxOf S1 x0 Y) (NM.lo none) v ∨ Match (cxOf S2 x0 Y) (NM.lo none) v)) (x : Int) :
    nextOf S3 none x = early (nextOf S1 none x) (nextOf S2 none x) := by
  have ly : ∀ {u v : Int}, u ≤ v → gyear (NM.lo none v / 86400) ≤ lastY none x → gyear (NM.lo none u / 86400) ≤ lastY none x := fun h h' => Int.le_trans (gyear_le (plain_utc.dle h)) h'
  cases h1 : nextOf S1 none x with
  | none =>
    have n1 := nextOf_none plain_utc h1
    cases h2 : nextOf S2 none x with
    | none =>
      have n2 := nextOf_none plain_utc h2
      cases h3 : nextOf S3 none x with
      | none => rfl
      | some v =>
        obtain ⟨a, b, c, d⟩ := nextOf_is h3
        rcases (hM _ _ _).1 a with q | q
        · exact absurd q (n1 v c d)
        · exact absurd q (n2 v c d)
    | some b =>
      obtain ⟨a1, a2, a3, a4⟩ := nextOf_is h2
      exact nextOf_some ⟨(hM _ _ _).2 (.inr a1), fun u hu hu' hm => by
        rcases (hM _ _ _).1 hm with q | q
        · exact n1 u hu (ly (by omega) a4) q
        · exact a2 u hu hu' q, a3, a4⟩
  | some a =>
    obtain ⟨a1, a2, a3, a4⟩ := nextOf_is h1
    cases h2 : nextOf S2 none x with
    | none =>
      have n2 := nextOf_none plain_utc h2
      exact nextOf_some ⟨(hM _ _ _).2 (.inl a1), fun u hu hu' hm => by
        rcases (hM _ _ _).1 hm with q | q
        · exact a2 u hu hu' q
        · exact n2 u hu (ly (by omega) a4) q, a3, a4⟩
    | some b =>
      obtain ⟨b1, b2, b3, b4⟩ := nextOf_is h2
      unfold early
      simp only
      by_cases c : b < a
      · rw [if_pos c]
        exact nextOf_some ⟨(hM _ _ _).2 (.inr b1), fun u hu hu' hm => by
          rcases (hM _ _ _).1 hm with q | q
          · exact a2 u hu (by omega) q
          · exact b2 u hu hu' q, b3, b4⟩
      · rw [if_neg c]
        exact nextOf_some ⟨(hM _ _ _).2 (.inl a1), fun u hu hu' hm => by
          rcases (hM _ _ _).1 hm with q | q
          · exact a2 u hu hu' q
          · exact b2 u hu (by omega) q, a3, a4⟩
end Go.Proofs.YtjmgebhjkbcpcaaGreatDoor.Txt
end
