/- SpecSchedule.Next whole. -/
import Derived.Test.YtjmgebhjkbcpcaaNC
import Derived.Test.YtjmgebhjkbcpcaaND
import Derived.Test.YtjmgebhjkbcpcaaNE
set_option linter.unusedVariables false
set_option linter.unusedSimpArgs false
set_option maxRecDepth 100000
namespace Go.Proofs.Ytjmgebhjkbcpcaa.NM
open Go.RowKit Cal CronPl
/-- what Next answers: the first instant that matches, or the zero Time if none does up to the year Y -/
def NextR (w : World) (L : Option Addr) (z : Option Zone) (S : Sets) (x0 Y : Int) (e : Ending) (w' : World) : Prop :=
  ((∃ x', e = .returned (.agg #[.int .u64 0, .int .i64 x', .pointer L]) ∧ (Match (cxOf S x0 Y) (lo z) x' ∧ NM (cxOf S x0 Y) (lo z) x0 x' ∧ x0 ≤ x' ∧ gyear (lo z x' / 86400) ≤ Y)) ∨
    (e = .returned (.agg #[.int .u64 0, .int .i64 0, .pointer none]) ∧ ∀ v, x0 ≤ v → gyear (lo z v / 86400) ≤ Y → ¬ Match (cxOf S x0 Y) (lo z) v)) ∧ Below w.heap.size w w'
def sk1 : Code → Code
  | .seq a _ => a
  | c => c
def sk2 : Code → Code
  | .seq _ b => b
  | c => c
def findScope : Code → Option Code
  | .seq a b => match findScope a with
    | some c => some c
    | none => findScope b
  | .scope c => some c
  | _ => none
noncomputable def rest70 : Code := (((Try.f70.body).bind findScope).bind (fun c => findLabel c 0)).getD .skip
/-- the year's test -/
noncomputable def year70 : Code := sk1 (sk2 rest70)
/-- the end -/
noncomputable def end70 : Code := sk2 (sk2 (sk2 (sk2 (sk2 (sk2 (sk2 rest70))))))
def TM (w : World) (bs bO bL : Nat) (ar : Value) (L : Option Addr) (z : Option Zone) (S : Sets) (x0 Y : Int) (n : Nat) : Exit → Act → World → Prop
  | .normal, a, wx => IL w bs bO bL ar L z S x0 Y n 0 n a wx
  | .ret, a, wx => bodyPost Try.prog Try.f70 (NextR w L z S x0 Y) .ret a wx
  | _, _, _ => False
section
variable (w : World) (bs bO bL : Nat) (ar : Value) (L : Option Addr) (z : Option Zone) (S : Sets) (x0 Y : Int) (P : Plain (lo z) (fun T => reso z T + 62135596800)) (hr : Rng x0 Y)
set_option maxHeartbeats 4000000 in
include P hr in
theorem year_wp (n : Nat) (a' : Act) (wx : World) (hI : JW w bs bO bL ar L z S x0 Y n a' wx) :
    Code.wp Try.prog year70 (TM w bs bO bL ar L z S x0 Y n) a' wx := by
  obtain ⟨x, a, hh, hmu⟩ := hI
  have hrg := hh.rng hr
  obtain ⟨⟨U, rfl⟩, hns, hiv⟩ := hh
  have t0 := hns.t0
  have t1 := hns.t1
  have t2 := hns.t2
  have HN := Lib.hid hns
  have HI := Lib.hid hiv
  have HM := Lib.hid hmu
  have HP := Lib.hid P
  have hn0 : Nan 0 := ⟨by decide, by decide⟩
  clear hns hiv hmu P
  conv => arg 2; whnf
  unfold fr70
  cases hy : decide (Y < gyear (lo z x / 86400)) with
  | true =>
    go_wp2_with (go_at_call 72; refine (tYear 0 x L z _ HN.out.tloc hn0 (by omega) (by omega)).mono ?_; rintro e w1 ⟨rfl, hb1⟩; have HN1 := Lib.hid (HN.out.call hb1); clear t0 t1 t2 hb1; have q0 := HN1.out.r0; have q1 := HN1.out.r1; have q2 := HN1.out.r2; have f0 := HN1.out.rf 0; have f1 := HN1.out.rf 1; have f2 := HN1.out.rf 2)
    refine bodyPost_ret (v := .agg #[.int .u64 0, .int .i64 0, .pointer none]) (by simp [results, Try.results70, go_sem, q0, q1, q2]) rfl ⟨Or.inr ⟨rfl, ?_⟩, ((HN1.out.bel.setCell (by simp) _).setCell (by simp) _).setCell (by simp) _⟩
    exact none_left HP.out HI.out (by simpa [cxOf] using hy)
  | false =>
    go_wp2_with (go_at_call 72; refine (tYear 0 x L z _ HN.out.tloc hn0 (by omega) (by omega)).mono ?_; rintro e w1 ⟨rfl, hb1⟩; have HN1 := Lib.hid (HN.out.call hb1); clear t0 t1 t2 hb1; have q0 := HN1.out.r0; have q1 := HN1.out.r1; have q2 := HN1.out.r2; have f0 := HN1.out.rf 0; have f1 := HN1.out.rf 1; have f2 := HN1.out.rf 2)
    exact ⟨x, a, ⟨fr_ex, HN1.out, HI.out⟩, HM.out, Nat.le_refl _, by simpa using hy, by omega, by omega, by omega, by omega, by omega⟩
set_option maxHeartbeats 4000000 in
include hr in
omit P in
theorem end_wp (n top : Nat) (a' : Act) (wx : World) (hI : IL w bs bO bL ar L z S x0 Y top 5 n a' wx) :
    Code.wp Try.prog end70 (bodyPost Try.prog Try.f70 (NextR w L z S x0 Y)) a' wx := by
  obtain ⟨x, a, hh, hmu, hn, hlev⟩ := hI
  have hrg := hh.rng hr
  obtain ⟨⟨U, rfl⟩, hns, hiv⟩ := hh
  have t0 := hns.t0
  have t1 := hns.t1
  have t2 := hns.t2
  have hlO := hns.lO.p hns.bel
  have hcO := hns.cO
  have HN := Lib.hid hns
  have HI := Lib.hid hiv
  have HL := Lib.hid hlev
  have hn0 : Nan 0 := ⟨by decide, by decide⟩
  have HLO := Lib.hid hlO
  have HCO := Lib.hid hcO
  clear hns hiv hmu hlO hcO hlev
  conv => arg 2; whnf
  unfold fr70
  go_wp2_with (go_at_call 20; refine (tIn 0 x L bO z _ HLO.out hn0).mono ?_; rintro e w1 ⟨rfl, hb1⟩; rw [HCO.out]; have HN1 := Lib.hid (HN.out.call hb1); clear t0 t1 t2 hb1; have q0 := HN1.out.r0; have q1 := HN1.out.r1; have q2 := HN1.out.r2; have f0 := HN1.out.rf 0; have f1 := HN1.out.rf 1; have f2 := HN1.out.rf 2)
  refine bodyPost_ret (v := .agg #[.int .u64 0, .int .i64 x, .pointer L]) (by simp [results, Try.results70, go_sem, q0, q1, q2]) rfl ⟨Or.inl ⟨x, rfl, ?_⟩, ((HN1.out.bel.setCell (by simp) _).setCell (by simp) _).setCell (by simp) _⟩
  have hf := CronPl.found HI.out (HL.out.2.1 (by omega)) (HL.out.2.2.1 (by omega)) (HL.out.2.2.2.1 (by omega)) (HL.out.2.2.2.2.1 (by omega)) (HL.out.2.2.2.2.2 (by omega))
  exact ⟨hf.1, hf.2.1, hf.2.2, HL.out.1⟩
end
end Go.Proofs.Ytjmgebhjkbcpcaa.NM
set_option linter.unusedVariables false
set_option linter.unusedSimpArgs false
set_option maxRecDepth 100000
namespace Go.Proofs.Ytjmgebhjkbcpcaa.NM
open Go.RowKit Cal CronPl
theorem blk {P : Program} {id : Nat} {c y : Code} {Q : Exit → Act → World → Prop} {E G : Act → World → Prop} {a : Act} {w : World} (hl : (Code.loop c).wp P (QM id E G) a w)
    (hE : ∀ a w, E a w → y.wp P Q a w) (hG : ∀ a w, G a w → Q (.goto 0) a w) : (Code.seq (Code.block id (Code.loop c)) y).wp P Q a w := by
  refine wp_seq (wp_block (Go.wp_mono hl fun e a w hq => ?_))
  cases e with
  | exit i => obtain ⟨rfl, h⟩ := hq; simp only [Exit.inBlock, if_pos]; exact hE a w h
  | goto l => obtain ⟨rfl, h⟩ := hq; exact hG a w h
  | _ => exact hq.elim
section
variable (w : World) (bs bO bL : Nat) (ar : Value) (L : Option Addr) (z : Option Zone) (S : Sets) (x0 Y : Int) (P : Plain (lo z) (fun T => reso z T + 62135596800)) (hr : Rng x0 Y)
include P hr in
theorem rest_wp2 (n : Nat) (a' : Act) (wx : World) (hI : JW w bs bO bL ar L z S x0 Y n a' wx) :
    Code.wp Try.prog (sk2 rest70) (Exit.jump 0 (fun a' w' => ∃ m, m < n ∧ JW w bs bO bL ar L z S x0 Y m a' w') (bodyPost Try.prog Try.f70 (NextR w L z S x0 Y))) a' wx := by
  refine wp_seq ?_
  refine Go.wp_mono (year_wp w bs bO bL ar L z S x0 Y P hr n a' wx hI) fun e a1 w1 hq => ?_
  cases e with
  | normal =>
    refine blk (id := 0) (c := body70 0) (wp_loop_ghost (fun m => IL w bs bO bL ar L z S x0 Y n 0 m) n hq (month_round w bs bO bL ar L z S x0 Y P hr n)) ?_ (fun a w h => ⟨rfl, h⟩)
    rintro a1 w1 ⟨n1, h1⟩
    refine blk (id := 2) (c := body70 2) (wp_loop_ghost (fun m => IL w bs bO bL ar L z S x0 Y n 1 m) n1 h1 (day_round w bs bO bL ar L z S x0 Y P hr n)) ?_ (fun a w h => ⟨rfl, h⟩)
    rintro a2 w2 ⟨n2, h2⟩
    refine blk (id := 4) (c := body70 4) (wp_loop_ghost (fun m => IL w bs bO bL ar L z S x0 Y n 2 m) n2 h2 (hour_round w bs bO bL ar L z S x0 Y P hr n)) ?_ (fun a w h => ⟨rfl, h⟩)
    rintro a3 w3 ⟨n3, h3⟩
    refine blk (id := 6) (c := body70 6) (wp_loop_ghost (fun m => IL w bs bO bL ar L z S x0 Y n 3 m) n3 h3 (minute_round w bs bO bL ar L z S x0 Y P hr n)) ?_ (fun a w h => ⟨rfl, h⟩)
    rintro a4 w4 ⟨n4, h4⟩
    refine blk (id := 8) (c := body70 8) (wp_loop_ghost (fun m => IL w bs bO bL ar L z S x0 Y n 4 m) n4 h4 (second_round w bs bO bL ar L z S x0 Y P hr n)) ?_ (fun a w h => ⟨rfl, h⟩)
    rintro a5 w5 ⟨n5, h5⟩
    refine Go.wp_mono (end_wp w bs bO bL ar L z S x0 Y hr n5 n a5 w5 h5) fun e a w h => ?_
    cases e with
    | goto l => exact h.elim
    | _ => exact h
  | ret => exact hq
  | _ => exact hq.elim
include P hr in
theorem rest_wp (n : Nat) (a' : Act) (wx : World) (hI : JW w bs bO bL ar L z S x0 Y n a' wx) :
    Code.wp Try.prog rest70 (Exit.jump 0 (fun a' w' => ∃ m, m < n ∧ JW w bs bO bL ar L z S x0 Y m a' w') (bodyPost Try.prog Try.f70 (NextR w L z S x0 Y))) a' wx :=
  wp_seq (wp_skip (rest_wp2 w bs bO bL ar L z S x0 Y P hr n a' wx hI))
end
def LocN (w w' : World) (b : Nat) (L : Option Addr) : Option Zone → Prop
  | none => w.heap.size ≤ b ∧ b < w'.heap.size ∧ w'.cell? ⟨b, 0, none⟩ = some (.bool true) ∧ w'.cell? ⟨b, 2, none⟩ = some (.slice none 0 0)
  | some _ => L = some ⟨b, 0, none⟩
theorem tLocQ (n x : Int) (L : Option Addr) (z : Option Zone) (w : World) (hL : TLoc w L z) :
    Calls Try.prog 71 #[.agg #[.int .u64 n, .int .i64 x, .pointer L]] w fun e w' => ∃ b, e = .returned (.pointer (some ⟨b, 0, none⟩)) ∧ LocN w w' b L z ∧ Below w.heap.size w w' := by
  cases z with
  | none =>
    obtain rfl : L = none := hL
    go_enter Try.func71, Try.ntmps71
    go_wp2
    go_ret
    exact ⟨w.heap.size + 1, rfl, ⟨by simp, by simp, by simp [go_sem], by simp [go_sem]⟩, bA (bA (Below.refl _ _) _) _⟩
  | some z =>
    obtain ⟨hz, b, g1, g2, k1, k2, rfl, hw⟩ := hL
    go_enter Try.func71, Try.ntmps71
    go_wp2
    go_ret
    exact ⟨b, rfl, rfl, bA (Below.refl _ _) _⟩
theorem LocQ.of {w wx W : World} {L : Option Addr} {z : Option Zone} {b : Nat} (hL : TLoc w L z) (hsz : w.heap.size + 2 ≤ wx.heap.size)
    (h : LocN wx W b L z) : LocQ w W b z ∧ canon b z = L := by
  cases z with
  | none => exact ⟨⟨by have := h.1; omega, h.2⟩, (show L = none from hL).symm⟩
  | some z =>
    have h : L = some ⟨b, 0, none⟩ := h
    obtain ⟨hz, b', g1, g2, k1, k2, hb, hw⟩ := hL
    rw [h] at hb
    obtain rfl : b = b' := by simpa using hb
    exact ⟨⟨hz, g1, g2, k1, k2, hw⟩, h.symm⟩
structure PS (w wx : World) (L : Option Addr) (n x : Int) : Prop where
  bel : Below w.heap.size w wx
  sz : w.heap.size + 2 ≤ wx.heap.size
  t0 : wx.cell? ⟨w.heap.size, 0, none⟩ = some (.int .u64 n)
  t1 : wx.cell? ⟨w.heap.size, 1, none⟩ = some (.int .i64 x)
  t2 : wx.cell? ⟨w.heap.size, 2, none⟩ = some (.pointer L)
  fr : ∀ o, wx.frozen? ⟨w.heap.size, o, none⟩ = false
  r0 : wx.cell? ⟨w.heap.size + 1, 0, none⟩ = some (.int .u64 0)
  r1 : wx.cell? ⟨w.heap.size + 1, 1, none⟩ = some (.int .i64 0)
  r2 : wx.cell? ⟨w.heap.size + 1, 2, none⟩ = some (.pointer none)
  rf : ∀ o, wx.frozen? ⟨w.heap.size + 1, o, none⟩ = false
theorem PS.call {w wx wx' : World} {L : Option Addr} {n x : Int} (h : PS w wx L n x) (hb : Below wx.heap.size wx wx') : PS w wx' L n x := by
  have h1 : w.heap.size < wx.heap.size := by have := h.sz; omega
  have h2 : w.heap.size + 1 < wx.heap.size := by have := h.sz; omega
  exact ⟨h.bel.trans (hb.mono h.bel.size), Nat.le_trans h.sz hb.size, keep hb h.t0, keep hb h.t1, keep hb h.t2, fun o => (hb.frozen (p := ⟨w.heap.size, o, none⟩) h1).trans (h.fr o),
    keep hb h.r0, keep hb h.r1, keep hb h.r2, fun o => (hb.frozen (p := ⟨w.heap.size + 1, o, none⟩) h2).trans (h.rf o)⟩
theorem PS.store {w wx : World} {L : Option Addr} {n x : Int} (h : PS w wx L n x) (x' : Int) : PS w (((wx.setCell ⟨w.heap.size, 0, none⟩ (.int .u64 0)).setCell ⟨w.heap.size, 1, none⟩ (.int .i64 x')).setCell ⟨w.heap.size, 2, none⟩ (.pointer L)) L 0 x' := by
  have h0 := h.t0
  have h1 := h.t1
  have h2 := h.t2
  refine ⟨((h.bel.setCell (by simp) _).setCell (by simp) _).setCell (by simp) _, by have := h.sz; simpa [World.setCell] using this, ?_, ?_, ?_, fun o => ?_, ?_, ?_, ?_, fun o => ?_⟩
  · simp [go_sem, h0, h1, h2]
  · simp [go_sem, h0, h1, h2]
  · simp [go_sem, h0, h1, h2]
  · have := h.fr o; simp [go_sem, this]
  · rw [setc_other _ (by omega), setc_other _ (by omega), setc_other _ (by omega)]; exact h.r0
  · rw [setc_other _ (by omega), setc_other _ (by omega), setc_other _ (by omega)]; exact h.r1
  · rw [setc_other _ (by omega), setc_other _ (by omega), setc_other _ (by omega)]; exact h.r2
  · rw [setf_other _ (by omega), setf_other _ (by omega), setf_other _ (by omega)]; exact h.rf o
theorem LocQ.store {w wx : World} {L : Option Addr} {z : Option Zone} {b : Nat} (h : LocQ w wx b z) (x' : Int) : LocQ w (((wx.setCell ⟨w.heap.size, 0, none⟩ (.int .u64 0)).setCell ⟨w.heap.size, 1, none⟩ (.int .i64 x')).setCell ⟨w.heap.size, 2, none⟩ (.pointer L)) b z :=
  ((h.set _).set _).set _
theorem PS.ns {w wx : World} {L : Option Addr} {x : Int} {z : Option Zone} {bL bO bs : Nat} {S : Sets} (h : PS w wx L 0 x) (lL : LocQ w wx bL z) (cL : canon bL z = L) (lO : LocQ w wx bO z) (cO : canon bO z = L) (tl : TLoc w L z) (sp : SpecAt w bs S) : NS w wx L z bL bO bs S x :=
  ⟨h.bel, h.sz, h.t0, h.t1, h.t2, h.fr, h.r0, h.r1, h.r2, h.rf, lL, cL, lO, cO, tl, sp⟩
theorem ps0 (w : World) (L : Option Addr) (n x : Int) : PS w ((w.alloc (Obj.cells #[Value.int IntKind.u64 n, Value.int IntKind.i64 x, Value.pointer L] 46)).alloc (Obj.cells #[Value.int IntKind.u64 0, Value.int IntKind.i64 0, Value.pointer none] 46)) L n x :=
  ⟨bA (bA (Below.refl _ _) _) _, by simp, by simp [go_sem], by simp [go_sem], by simp [go_sem], fun o => by simp [go_sem], by simp [go_sem], by simp [go_sem], by simp [go_sem], fun o => by simp [go_sem]⟩
theorem seq_eq {P : Program} {x y : Code} {Q : Exit → Act → World → Prop} {a a0 : Act} {w w0 : World} (h : x.wp P (fun e a1 w1 => e = .normal ∧ a1 = a0 ∧ w1 = w0) a w) (h2 : y.wp P Q a0 w0) : (Code.seq x y).wp P Q a w := by
  refine wp_seq (Go.wp_mono h fun e a1 w1 hq => ?_)
  obtain ⟨rfl, rfl, rfl⟩ := hq
  exact h2
theorem inv0 (S : Sets) (z : Option Zone) (x : Int) : CronPl.Inv (cxOf S x (gyear (lo z x / 86400) + 5)) (lo z) x false := by
  refine ⟨fun v h0 h1 => ?_, ?_, fun _ => rfl, fun h => (by simp at h), ?_, Or.inl (Int.le_refl _)⟩
  · simp only [cxOf] at h0; omega
  · have g2 := (gdate (lo z x / 86400)).hi
    have g3 := ystart_le (show gyear (lo z x / 86400) + 1 ≤ gyear (lo z x / 86400) + 5 + 1 by omega)
    simp only [CronPl.top, cxOf]; omega
  · simp only [cxOf]; omega
set_option maxHeartbeats 4000000 in
theorem tNext (w : World) (bs : Nat) (n x : Int) (L : Option Addr) (z : Option Zone) (S : Sets) (P : Plain (lo z) (fun T => reso z T + 62135596800)) (hL : TLoc w L z) (hS : SpecAt w bs S) (hn : Nan n)
    (h0 : 0 ≤ x) (h1 : x ≤ 700000000000) :
    Calls Try.prog 70 #[.pointer (some ⟨bs, 0, none⟩), .agg #[.int .u64 n, .int .i64 x, .pointer L]] w (NextR w L z S (x + 1) (gyear (lo z (x + 1) / 86400) + 5)) := by
  go_enter Try.func70, Try.ntmps70
  apply seq_eq
  · go_wp2
    exact ⟨rfl, rfl⟩
  have hp0 := ps0 w L n x
  revert hp0
  generalize (w.alloc (Obj.cells #[Value.int IntKind.u64 n, Value.int IntKind.i64 x, Value.pointer L] 46)).alloc (Obj.cells #[Value.int IntKind.u64 0, Value.int IntKind.i64 0, Value.pointer none] 46) = W0
  intro hp0
  refine wp_scope_ghost 0 (fun m a' wx => ∃ bO bL, JW w bs bO bL (.agg #[.int .u64 n, .int .i64 x, .pointer L]) L z S (x + 1) (gyear (lo z (x + 1) / 86400) + 5) m a' wx) (rest := rest70) rfl ?first ?pass
  case pass =>
    rintro n1 a1 w1 ⟨bO, bL, hJ⟩
    have hY := hL.off_bd (x + 1 - 62135596800)
    have hl : lo z (x + 1) = x + 1 - 62135596800 + offO z (x + 1 - 62135596800) := rfl
    have hg := gdate (lo z (x + 1) / 86400)
    have g1 := hg.lo
    have g2 := hg.hi
    unfold ystart at g1 g2
    refine Go.wp_mono (rest_wp w bs bO bL _ L z S (x + 1) _ P ⟨by omega, by omega, by omega, by omega⟩ n1 a1 w1 hJ) fun e a w h => ?_
    cases e with
    | goto l => obtain ⟨hl, m, hm, h⟩ := h; exact ⟨hl, m, hm, bO, bL, h⟩
    | _ => exact h
  case first =>
    have h6 : W0.cell? ⟨bs, 6, none⟩ = some (.pointer none) := (hS.below hp0.bel).c6
    have t0 := hp0.t0
    have t1 := hp0.t1
    have t2 := hp0.t2
    have HS := Lib.hid hS
    have HL := Lib.hid hL
    have HP := Lib.hid P
    have hN0 := Lib.hid hp0
    clear hS hL P hp0
    go_wp2_with (first
      | (go_at_call 71; refine (tLocQ n x L z _ (HL.out.below hN0.out.bel)).mono ?_; rintro e w1 ⟨b1, rfl, hq1, hb1⟩; have hQ1 := Lib.hid (LocQ.of HL.out hN0.out.sz hq1); have hN1 := Lib.hid (hN0.out.call hb1); have h6 := keep hb1 h6; clear t0 t1 t2 hN0 hq1 hb1; have t0 := hN1.out.t0; have t1 := hN1.out.t1; have t2 := hN1.out.t2)
      | (go_at_call 71; refine (tLocQ n x L z _ (HL.out.below hN1.out.bel)).mono ?_; rintro e w2 ⟨b2, rfl, hq2, hb2⟩; have hQ2 := Lib.hid (LocQ.of HL.out hN1.out.sz hq2); have hQ1 := Lib.hid (And.intro (hQ1.out.1.call hb2) hQ1.out.2); have hN2 := Lib.hid (hN1.out.call hb2); have h6 := keep hb2 h6; clear t0 t1 t2 hN1 hq2 hb2; have t0 := hN2.out.t0; have t1 := hN2.out.t1; have t2 := hN2.out.t2))
    have hw1 : IntKind.i64.wrap n = n := IntWalk.i64_in _ (by have := hn.1; have := hn.2; omega)
    have hw2 : IntKind.i64.wrap (1000000000 - n) = 1000000000 - n := IntWalk.i64_in _ (by have := hn.1; have := hn.2; omega)
    go_region_with (first
      | (go_at_call 33; refine (tNano n x L hn _).mono ?_; rintro e w3 ⟨rfl, hb3⟩; have hN3 := Lib.hid ((hN2.out.call (Below.refl _ _).drew).call hb3); have hQ3 := Lib.hid (And.intro ((hQ1.out.1.call (Below.refl _ _).drew).call hb3) ((hQ2.out.1.call (Below.refl _ _).drew).call hb3)); clear t0 t1 t2 hb3; have t0 := hN3.out.t0; have t1 := hN3.out.t1; have t2 := hN3.out.t2)
      | (go_at_call 68; refine (tAdd1 n x L _ hn h0 (by omega)).mono ?_; rintro e w4 ⟨rfl, hb4⟩; have hN4 := Lib.hid (hN3.out.call hb4); have hQ4 := Lib.hid (And.intro (hQ3.out.1.call hb4) (hQ3.out.2.call hb4)); clear t0 t1 t2 hb4; have t0 := hN4.out.t0; have t1 := hN4.out.t1; have t2 := hN4.out.t2; have f0 := hN4.out.fr 0; have f1 := hN4.out.fr 1; have f2 := hN4.out.fr 2))
    all_goals
      have hN5 := Lib.hid (hN4.out.store (x + 1))
      have hQ5 := Lib.hid (And.intro (hQ4.out.1.store (L := L) (x + 1)) (hQ4.out.2.store (L := L) (x + 1)))
      clear t0 t1 t2 f0 f1 f2 h6
      revert hN5 hQ5
      generalize ((w4.setCell { block := w.heap.size, off := 0 } (Value.int IntKind.u64 0)).setCell { block := w.heap.size, off := 1 } (Value.int IntKind.i64 (x + 1))).setCell { block := w.heap.size, off := 2 } (Value.pointer L) = w5
      intro hN5 hQ5
      have t0 := hN5.out.t0
      have t1 := hN5.out.t1
      have t2 := hN5.out.t2
      have hY := HL.out.off_bd (x + 1 - 62135596800)
      have hl : lo z (x + 1) = x + 1 - 62135596800 + offO z (x + 1 - 62135596800) := rfl
      have hg := gdate (lo z (x + 1) / 86400)
      have g1 := hg.lo
      have g2 := hg.hi
      unfold ystart at g1 g2
      have hw3 : IntKind.i64.wrap (gyear (lo z (x + 1) / 86400) + 5) = gyear (lo z (x + 1) / 86400) + 5 := IntWalk.i64_in _ (by omega)
      have hrg : Rng (x + 1) (gyear (lo z (x + 1) / 86400) + 5) := ⟨by omega, by omega, by omega, by omega⟩
      have hRG := Lib.hid hrg
      clear hl hY hg g1 g2 hrg
      have hn0 : Nan 0 := ⟨by decide, by decide⟩
      go_wp2_with (go_at_call 72; refine (tYear 0 (x + 1) L z _ (HL.out.below hN5.out.bel) hn0 (by omega) (by omega)).mono ?_; rintro e w6 ⟨rfl, hb6⟩; have hN6 := Lib.hid (hN5.out.call hb6); have hQ6 := Lib.hid (And.intro (hQ5.out.1.call hb6) (hQ5.out.2.call hb6)); clear t0 t1 t2 hb6)
      go_step3
      rename_i K hK
      refine hK _ _ ?_
      refine Go.wp_mono (rest_wp2 w bs b1 b2 _ L z S (x + 1) _ HP.out hRG.out _ _ _ ⟨x + 1, false, ⟨fr_ex, hN6.out.ns hQ6.out.2 hQ2.out.2 hQ6.out.1 hQ1.out.2 HL.out HS.out, inv0 S z (x + 1)⟩, rfl⟩) fun e a w h => ?_
      cases e with
      | goto l => obtain ⟨hl, m, hm, h⟩ := h; exact ⟨hl, m, _, _, h⟩
      | _ => exact h
end Go.Proofs.Ytjmgebhjkbcpcaa.NM
set_option linter.unusedVariables false
set_option linter.unusedSimpArgs false
namespace Go.Proofs.Ytjmgebhjkbcpcaa.NM
open Go.RowKit Cal CronPl
/-- a block of the walk's own, with its cells, that may be written -/
structure BoxAt (W : World) (b n : Nat) (v : Nat → Value) : Prop where
  lt : b < W.heap.size
  c : ∀ i, i < n → W.cell? ⟨b, i, none⟩ = some (v i)
  f : ∀ o, W.frozen? ⟨b, o, none⟩ = false
theorem BoxAt.call {W W' : World} {b n : Nat} {v : Nat → Value} (h : BoxAt W b n v) (hb : Below W.heap.size W W') : BoxAt W' b n v :=
  ⟨Nat.lt_of_lt_of_le h.lt hb.size, fun i hi => keep hb (h.c i hi), fun o => (hb.frozen (p := ⟨b, o, none⟩) h.lt).trans (h.f o)⟩
theorem tAddD (n d x : Int) (L : Option Addr) (w : World) (hn : Nan n) (hd0 : 1000000000 ≤ d) (hd1 : d < 9223372036854775808) (hm : d % 1000000000 = 0) (h0 : 0 ≤ x) (h1 : x ≤ 2000000000000) :
    Calls Try.prog 68 #[.agg #[.int .u64 n, .int .i64 x, .pointer L], .int .i64 (d - n)] w fun e w' => e = .returned (.agg #[.int .u64 0, .int .i64 (x + d / 1000000000), .pointer L]) ∧ Below w.heap.size w w' := by
  obtain ⟨n0, n1⟩ := hn
  by_cases hz : n = 0
  · subst hz
    exact tAdd0 x _ (d / 1000000000) L w (by omega) h1 (by omega) (by omega) (by omega) (by omega)
  · exact tAddN n x _ (d / 1000000000) L w (by omega) n1 h0 h1 (by omega) (by omega) (by omega) (by omega)
set_option maxHeartbeats 2000000 in
theorem tEvery (n d x : Int) (L : Option Addr) (w : World) (hn : Nan n) (hd0 : 1000000000 ≤ d) (hd1 : d < 9223372036854775808) (hm : d % 1000000000 = 0) (h0 : 0 ≤ x) (h1 : x ≤ 2000000000000) :
    Calls Try.prog 67 #[.agg #[.int .i64 d], .agg #[.int .u64 n, .int .i64 x, .pointer L]] w fun e w' => e = .returned (.agg #[.int .u64 0, .int .i64 (x + d / 1000000000), .pointer L]) ∧ Below w.heap.size w w' := by
  have hw1 : IntKind.i64.wrap n = n := IntWalk.i64_in _ (by have := hn.1; have := hn.2; omega)
  have hw2 : IntKind.i64.wrap (d - n) = d - n := IntWalk.i64_in _ (by have := hn.1; have := hn.2; omega)
  go_enter Try.func67, Try.ntmps67
  go_wp2_with fail
  generalize hW : ((w.alloc _).alloc _).alloc _ = W
  have hbW : Below w.heap.size w W := by rw [← hW]; exact bA (bA (bA (Below.refl _ _) _) _) _
  have d0 : W.cell? ⟨w.heap.size, 0, none⟩ = some (.int .i64 d) := by rw [← hW]; simp [go_sem]
  have t0 : W.cell? ⟨w.heap.size + 1, 0, none⟩ = some (.int .u64 n) := by rw [← hW]; simp [go_sem]
  have t1 : W.cell? ⟨w.heap.size + 1, 1, none⟩ = some (.int .i64 x) := by rw [← hW]; simp [go_sem]
  have t2 : W.cell? ⟨w.heap.size + 1, 2, none⟩ = some (.pointer L) := by rw [← hW]; simp [go_sem]
  have r0 : W.cell? ⟨w.heap.size + 1 + 1, 0, none⟩ = some (.int .u64 0) := by rw [← hW]; simp [go_sem]
  have r1 : W.cell? ⟨w.heap.size + 1 + 1, 1, none⟩ = some (.int .i64 0) := by rw [← hW]; simp [go_sem]
  have r2 : W.cell? ⟨w.heap.size + 1 + 1, 2, none⟩ = some (.pointer none) := by rw [← hW]; simp [go_sem]
  have f0 : W.frozen? ⟨w.heap.size + 1 + 1, 0, none⟩ = false := by rw [← hW]; simp [go_sem]
  have f1 : W.frozen? ⟨w.heap.size + 1 + 1, 1, none⟩ = false := by rw [← hW]; simp [go_sem]
  have f2 : W.frozen? ⟨w.heap.size + 1 + 1, 2, none⟩ = false := by rw [← hW]; simp [go_sem]
  have hs : w.heap.size + 3 ≤ W.heap.size := by rw [← hW]; simp
  clear hW
  go_region_held3 (fun w' => w'.cell? ⟨w.heap.size, 0, none⟩ = some (.int .i64 d) ∧ w'.cell? ⟨w.heap.size + 1, 0, none⟩ = some (.int .u64 n) ∧ w'.cell? ⟨w.heap.size + 1, 1, none⟩ = some (.int .i64 x) ∧ w'.cell? ⟨w.heap.size + 1, 2, none⟩ = some (.pointer L)) (first | exact ⟨by assumption, by assumption, by assumption, by assumption⟩ | (refine ⟨?_, ?_, ?_, ?_⟩ <;> (rw [setc_other _ (by omega), setc_other _ (by omega), setc_other _ (by omega)]; assumption))) (first
    | (go_at_call 33; refine (tNano n x L hn _).mono ?_; rintro e w1 ⟨rfl, hb1⟩; have hb1 : Below W.heap.size W w1 := Below.trans (Below.refl _ _).drew hb1; have d0 := keep hb1 d0; have t0 := keep hb1 t0; have t1 := keep hb1 t1; have t2 := keep hb1 t2; have r0 := keep hb1 r0; have r1 := keep hb1 r1; have r2 := keep hb1 r2)
    | (go_at_call 68; refine (tAddD n d x L _ hn hd0 hd1 hm h0 h1).mono ?_; rintro e w2 ⟨rfl, hb2⟩; have d0 := keep hb2 d0; have t0 := keep hb2 t0; have t1 := keep hb2 t1; have t2 := keep hb2 t2; have r0 := keep hb2 r0; have r1 := keep hb2 r1; have r2 := keep hb2 r2; have f0 := (hb2.frozen (p := ⟨w.heap.size + 1 + 1, 0, none⟩) (by have := hb1.size; show w.heap.size + 1 + 1 < _; omega)).trans ((hb1.frozen (p := ⟨w.heap.size + 1 + 1, 0, none⟩) (by show w.heap.size + 1 + 1 < _; omega)).trans f0); have f1 := (hb2.frozen (p := ⟨w.heap.size + 1 + 1, 1, none⟩) (by have := hb1.size; show w.heap.size + 1 + 1 < _; omega)).trans ((hb1.frozen (p := ⟨w.heap.size + 1 + 1, 1, none⟩) (by show w.heap.size + 1 + 1 < _; omega)).trans f1); have f2 := (hb2.frozen (p := ⟨w.heap.size + 1 + 1, 2, none⟩) (by have := hb1.size; show w.heap.size + 1 + 1 < _; omega)).trans ((hb1.frozen (p := ⟨w.heap.size + 1 + 1, 2, none⟩) (by show w.heap.size + 1 + 1 < _; omega)).trans f2)))
  all_goals
    go_wp2
    have hb3 : Below w.heap.size w w2 := hbW.trans ((hb1.mono hbW.size).trans (hb2.mono (Nat.le_trans hbW.size hb1.size)))
    exact bodyPost_ret (v := .agg #[.int .u64 0, .int .i64 (x + d / 1000000000), .pointer L]) (by simp [results, Try.results67, go_sem, r0, r1, r2]) rfl ⟨rfl, ((hb3.setCell (by show w.heap.size ≤ w.heap.size + 1 + 1; omega) _).setCell (by show w.heap.size ≤ w.heap.size + 1 + 1; omega) _).setCell (by show w.heap.size ≤ w.heap.size + 1 + 1; omega) _⟩
set_option maxHeartbeats 2000000 in
theorem tPlain (n x : Int) (L : Option Addr) (w : World) (hn : Nan n) (h0 : 0 ≤ x) (h1 : x ≤ 2000000000000) :
    Calls Try.prog 24 #[.agg #[.int .u64 n, .int .i64 x, .pointer L]] w fun e w' => e = .returned (.agg #[.int .i64 (x - 62135596800), .int .i64 n]) ∧ Below w.heap.size w w' := by
  go_enter Try.func24, Try.ntmps24
  go_wp2_with fail
  generalize hW : (w.alloc _).alloc _ = W
  have hbW : Below w.heap.size w W := by rw [← hW]; exact bA (bA (Below.refl _ _) _) _
  have t0 : W.cell? ⟨w.heap.size, 0, none⟩ = some (.int .u64 n) := by rw [← hW]; simp [go_sem]
  have t1 : W.cell? ⟨w.heap.size, 1, none⟩ = some (.int .i64 x) := by rw [← hW]; simp [go_sem]
  have t2 : W.cell? ⟨w.heap.size, 2, none⟩ = some (.pointer L) := by rw [← hW]; simp [go_sem]
  have r0 : W.cell? ⟨w.heap.size + 1, 0, none⟩ = some (.int .i64 0) := by rw [← hW]; simp [go_sem]
  have r1 : W.cell? ⟨w.heap.size + 1, 1, none⟩ = some (.int .i64 0) := by rw [← hW]; simp [go_sem]
  have f0 : W.frozen? ⟨w.heap.size + 1, 0, none⟩ = false := by rw [← hW]; simp [go_sem]
  have f1 : W.frozen? ⟨w.heap.size + 1, 1, none⟩ = false := by rw [← hW]; simp [go_sem]
  have hs : w.heap.size + 2 ≤ W.heap.size := by rw [← hW]; simp
  clear hW
  go_region_held3 (fun w' => w'.cell? ⟨w.heap.size, 0, none⟩ = some (.int .u64 n) ∧ w'.cell? ⟨w.heap.size, 1, none⟩ = some (.int .i64 x) ∧ w'.cell? ⟨w.heap.size, 2, none⟩ = some (.pointer L)) (first | exact ⟨by assumption, by assumption, by assumption⟩ | (refine ⟨?_, ?_, ?_⟩ <;> (rw [setc_other _ (by omega), setc_other _ (by omega)]; assumption))) (first
    | (go_at_call 32; refine (tUnix n x L hn (by omega) (by omega) _).mono ?_; rintro e w1 ⟨rfl, hb1⟩; have hb1 : Below W.heap.size W w1 := Below.trans (Below.refl _ _).drew hb1; have t0 := keep hb1 t0; have t1 := keep hb1 t1; have t2 := keep hb1 t2; have r0 := keep hb1 r0; have r1 := keep hb1 r1)
    | (go_at_call 33; refine (tNano n x L hn _).mono ?_; rintro e w2 ⟨rfl, hb2⟩; have t0 := keep hb2 t0; have t1 := keep hb2 t1; have t2 := keep hb2 t2; have r0 := keep hb2 r0; have r1 := keep hb2 r1; have f0 := (hb2.frozen (p := ⟨w.heap.size + 1, 0, none⟩) (by have := hb1.size; show w.heap.size + 1 < _; omega)).trans ((hb1.frozen (p := ⟨w.heap.size + 1, 0, none⟩) (by show w.heap.size + 1 < _; omega)).trans f0); have f1 := (hb2.frozen (p := ⟨w.heap.size + 1, 1, none⟩) (by have := hb1.size; show w.heap.size + 1 < _; omega)).trans ((hb1.frozen (p := ⟨w.heap.size + 1, 1, none⟩) (by show w.heap.size + 1 < _; omega)).trans f1)))
  all_goals
    go_wp2
    have hb3 : Below w.heap.size w w2 := hbW.trans ((hb1.mono hbW.size).trans (hb2.mono (Nat.le_trans hbW.size hb1.size)))
    exact bodyPost_ret (v := .agg #[.int .i64 (x - 62135596800), .int .i64 n]) (by simp [results, Try.results24, go_sem, r0, r1]) rfl ⟨rfl, (hb3.setCell (by simp) _).setCell (by simp) _⟩
end Go.Proofs.Ytjmgebhjkbcpcaa.NM
set_option linter.unusedVariables false
set_option linter.unusedSimpArgs false
namespace Go.Proofs.Ytjmgebhjkbcpcaa.NM
open Go.RowKit Cal CronPl
theorem tMoment (s n : Int) (b : Nat) (z : Option Zone) (w : World) (hL : LocP w b z) (h0 : -62135596800 ≤ s) (h1 : s ≤ 3000000000000) (hn : Nan n) :
    Calls Try.prog 14 #[.agg #[.int .i64 s, .int .i64 n], .pointer (some ⟨b, 0, none⟩)] w fun e w' => e = .returned (.agg #[.int .u64 n, .int .i64 (s + 62135596800), .pointer (canon b z)]) ∧ Below w.heap.size w w' := by
  have HL := Lib.hid hL
  clear hL
  go_enter Try.func14, Try.ntmps14
  go_upto_region 1 with fail
  generalize hW : (w.alloc _).alloc _ = W
  have hbW : Below w.heap.size w W := by rw [← hW]; exact bA (bA (Below.refl _ _) _) _
  have t0 : W.cell? ⟨w.heap.size, 0, none⟩ = some (.int .i64 s) := by rw [← hW]; simp [go_sem]
  have t1 : W.cell? ⟨w.heap.size, 1, none⟩ = some (.int .i64 n) := by rw [← hW]; simp [go_sem]
  have hR : Hid (BoxAt W (w.heap.size + 1) 3 (fun i => [.int .u64 0, .int .i64 0, .pointer none].getD i undef)) := Lib.hid ⟨by rw [← hW]; simp, fun i hi => by rw [← hW]; rcases i with _ | _ | _ | i <;> first | omega | simp [go_sem], fun o => by rw [← hW]; simp [go_sem]⟩
  clear hW
  go_wp2_with (first
    | (go_at_call 19; refine (tMkUnix s n h0 h1 hn.1 hn.2 _).mono ?_; rintro e w1 ⟨rfl, hb1⟩; have hR1 := Lib.hid (hR.out.call hb1))
    | (go_at_call 20; refine (tIn n (s + 62135596800) none b z _ (LocP.below (HL.out.below hbW) hb1) hn).mono ?_; rintro e w2 ⟨rfl, hb2⟩; have hR2 := Lib.hid (hR1.out.call hb2); have r0 := hR2.out.c 0 (by decide); have r1 := hR2.out.c 1 (by decide); have r2 := hR2.out.c 2 (by decide); have f0 := hR2.out.f 0; have f1 := hR2.out.f 1; have f2 := hR2.out.f 2))
  have hb3 : Below w.heap.size w w2 := hbW.trans ((hb1.mono hbW.size).trans (hb2.mono (Nat.le_trans hbW.size hb1.size)))
  exact bodyPost_ret (v := .agg #[.int .u64 n, .int .i64 (s + 62135596800), .pointer (canon b z)]) (by simp [results, Try.results14, go_sem, r0, r1, r2]) rfl ⟨rfl, ((hb3.setCell (by simp) _).setCell (by simp) _).setCell (by simp) _⟩
theorem tAnswer1 (x : Int) (L : Option Addr) (w : World) (h0 : 0 < x) (h1 : x ≤ 2000000000000) :
    Calls Try.prog 16 #[.agg #[.int .u64 0, .int .i64 x, .pointer L]] w fun e w' => e = .returned (.tuple #[.agg #[.int .i64 (x - 62135596800), .int .i64 0], .bool true]) ∧ Below w.heap.size w w' := by
  have hn : Nan 0 := ⟨by decide, by decide⟩
  go_enter Try.func16, Try.ntmps16
  go_upto_region 1 with fail
  generalize hW : (w.alloc _).alloc _ = W
  have hbW : Below w.heap.size w W := by rw [← hW]; exact bA (bA (Below.refl _ _) _) _
  have t0 : W.cell? ⟨w.heap.size, 0, none⟩ = some (.int .u64 0) := by rw [← hW]; simp [go_sem]
  have t1 : W.cell? ⟨w.heap.size, 1, none⟩ = some (.int .i64 x) := by rw [← hW]; simp [go_sem]
  have t2 : W.cell? ⟨w.heap.size, 2, none⟩ = some (.pointer L) := by rw [← hW]; simp [go_sem]
  have hR : Hid (BoxAt W (w.heap.size + 1) 2 (fun i => [.int .i64 0, .int .i64 0].getD i undef)) := Lib.hid ⟨by rw [← hW]; simp, fun i hi => by rw [← hW]; rcases i with _ | _ | i <;> first | omega | simp [go_sem], fun o => by rw [← hW]; simp [go_sem]⟩
  clear hW
  go_wp2_with (first
    | (go_at_call 23; refine (tIsZero 0 x L (by simp; omega) _).mono ?_; rintro e w1 ⟨rfl, hb1⟩; have hR1 := Lib.hid (hR.out.call hb1); have t0 := keep hb1 t0; have t1 := keep hb1 t1; have t2 := keep hb1 t2)
    | (go_at_call 24; refine (tPlain 0 x L _ hn (by omega) h1).mono ?_; rintro e w2 ⟨rfl, hb2⟩; have hR2 := Lib.hid (hR1.out.call hb2); have r0 := hR2.out.c 0 (by decide); have r1 := hR2.out.c 1 (by decide); have f0 := hR2.out.f 0; have f1 := hR2.out.f 1))
  have hb3 : Below w.heap.size w w2 := hbW.trans ((hb1.mono hbW.size).trans (hb2.mono (Nat.le_trans hbW.size hb1.size)))
  exact bodyPost_ret (v := .tuple #[.agg #[.int .i64 (x - 62135596800), .int .i64 0], .bool true]) (by simp [results, Try.results16, go_sem, r0, r1]) rfl ⟨rfl, (hb3.setCell (by simp) _).setCell (by simp) _⟩
theorem tAnswer0 (L : Option Addr) (w : World) :
    Calls Try.prog 16 #[.agg #[.int .u64 0, .int .i64 0, .pointer L]] w fun e w' => e = .returned (.tuple #[.agg #[.int .i64 0, .int .i64 0], .bool false]) ∧ Below w.heap.size w w' := by
  go_enter Try.func16, Try.ntmps16
  go_upto_region 1 with fail
  generalize hW : (w.alloc _).alloc _ = W
  have hbW : Below w.heap.size w W := by rw [← hW]; exact bA (bA (Below.refl _ _) _) _
  have t0 : W.cell? ⟨w.heap.size, 0, none⟩ = some (.int .u64 0) := by rw [← hW]; simp [go_sem]
  have t1 : W.cell? ⟨w.heap.size, 1, none⟩ = some (.int .i64 0) := by rw [← hW]; simp [go_sem]
  have t2 : W.cell? ⟨w.heap.size, 2, none⟩ = some (.pointer L) := by rw [← hW]; simp [go_sem]
  have hR : Hid (BoxAt W (w.heap.size + 1) 2 (fun i => [.int .i64 0, .int .i64 0].getD i undef)) := Lib.hid ⟨by rw [← hW]; simp, fun i hi => by rw [← hW]; rcases i with _ | _ | i <;> first | omega | simp [go_sem], fun o => by rw [← hW]; simp [go_sem]⟩
  clear hW
  go_wp2_with (first
    | (go_at_call 23; refine (tIsZero0 L _).mono ?_; rintro e w1 ⟨rfl, hb1⟩; have hR1 := Lib.hid (hR.out.call hb1); have r0 := hR1.out.c 0 (by decide); have r1 := hR1.out.c 1 (by decide); have f0 := hR1.out.f 0; have f1 := hR1.out.f 1))
  have hb3 : Below w.heap.size w w1 := hbW.trans (hb1.mono hbW.size)
  exact bodyPost_ret (v := .tuple #[.agg #[.int .i64 0, .int .i64 0], .bool false]) (by simp [results, Try.results16, go_sem, r0, r1]) rfl ⟨rfl, (hb3.setCell (by simp) _).setCell (by simp) _⟩
end Go.Proofs.Ytjmgebhjkbcpcaa.NM
set_option linter.unusedVariables false
set_option linter.unusedSimpArgs false
namespace Go.Proofs.Ytjmgebhjkbcpcaa.NM
open Go.RowKit Cal CronPl
abbrev schedV (ev : Bool) (d : Int) (S : Sets) : Value := .agg #[.bool ev, .int .i64 d, .int .u64 S.se, .int .u64 S.mi, .int .u64 S.ho, .int .u64 S.dom, .int .u64 S.mon, .int .u64 S.dow]
theorem tSched0 (d : Int) (S : Sets) (w : World) :
    Calls Try.prog 13 #[schedV false d S, .pointer none] w fun e w' => ∃ b, e = .returned (.iface 61 (.pointer (some ⟨b, 0, none⟩))) ∧ SpecAt w' b S ∧ Below w.heap.size w w' := by
  go_enter Try.func13, Try.ntmps13
  go_wp2
  go_ret
  exact ⟨w.heap.size + 1, rfl, ⟨by simp [go_sem], by simp [go_sem], by simp [go_sem], by simp [go_sem], by simp [go_sem], by simp [go_sem], by simp [go_sem]⟩, bA (bA (Below.refl _ _) _) _⟩
theorem tSched1 (d : Int) (S : Sets) (w : World) :
    Calls Try.prog 13 #[schedV true d S, .pointer none] w fun e w' => e = .returned (.iface 60 (.agg #[.int .i64 d])) ∧ Below w.heap.size w w' := by
  go_enter Try.func13, Try.ntmps13
  go_wp2
  go_ret
  exact ⟨rfl, bA (Below.refl _ _) _⟩
end Go.Proofs.Ytjmgebhjkbcpcaa.NM
