/- FnCronNextMany: for every schedule, instant, zone and count, the law's function returns true and leaves its arguments as they were. No condition is added: the statement is the given one. -/
import Derived.Test.YtjmgebhjkbcpcaaNI
import Derived.Test.YtjmgebhjkbcpcaaNG
import Derived.Test.YtjmgebhjkbcpcaaNH
import Derived.Test.YtjmgebhjkbcpcaaPFnCronNextManyx1
import Derived.Test.YtjmgebhjkbcpcaaRows
import Derived.WalkKit
import Derived.ProofKit
import Derived.OpenShut
import Derived.ShutString
import Derived.ChangeOld
import Derived.Below
import Derived.SizedLaws
import Derived.Lib.SmallJoins
import Derived.Deep.Grids
set_option linter.unusedVariables false
set_option linter.unusedSimpArgs false
namespace Go.Proofs.Ytjmgebhjkbcpcaa.NM
open Go.RowKit Cal CronPl Go.Proofs.Ytjmgebhjkbcpcaa.PFnCronNextMany Go.Proofs.YtjmgebhjkbcpcaaW.PrintWords
set_option maxRecDepth 100000
/-- the slices' capacities -/
structure ZCap (c0 c1 c2 c3 : Nat) (os : List Int) (ds : List Bool) (ws ix : List Int) : Prop where
  k0 : os.length ≤ c0
  k1 : ds.length ≤ c1
  k2 : ws.length ≤ c2
  k3 : ix.length ≤ c3
theorem tOffset {A0 A1 A2 A3 : Option Addr} {c0 c1 c2 c3 : Nat} {os : List Int} {ds : List Bool} {ws ix : List Int} {w : World} (hz : ZIn w A0 A1 A2 A3 os ds ws ix) (hc : ZCap c0 c1 c2 c3 os ds ws ix) (ho : ZOk os ds ws ix) (s : Int) (hs : -9223372036854775808 ≤ s) :
    Calls Try.prog 26 #[zoneV A0 A1 A2 A3 c0 c1 c2 c3 os ds ws ix, .int .i64 s] w fun e w' => e = .returned (.int .i64 (offO (zoneOf os ws ix) s)) ∧ Below w.heap.size w w' := by
  obtain ⟨k, hk⟩ := off_f os ds ws ix ho s hs
  exact spec_CronOffset.calls k A0 c0 os A1 c1 ds A2 c2 ws A3 c3 ix s _ w hz.h0 hc.k0 hz.h1 hc.k1 hz.h2 hc.k2 hz.h3 hc.k3 hk
theorem tChange {A0 A1 A2 A3 : Option Addr} {c0 c1 c2 c3 : Nat} {os : List Int} {ds : List Bool} {ws ix : List Int} (hc : ZCap c0 c1 c2 c3 os ds ws ix) (ho : ZOk os ds ws ix) (s : Int) :
    ∃ r1 r2, ChgOk ws s (r1, r2) ∧ ∀ w, ZIn w A0 A1 A2 A3 os ds ws ix → Calls Try.prog 27 #[zoneV A0 A1 A2 A3 c0 c1 c2 c3 os ds ws ix, .int .i64 s] w fun e w' => e = .returned (.tuple #[.int .i64 r1, .bool r2]) ∧ Below w.heap.size w w' := by
  obtain ⟨k, ⟨r1, r2⟩, hk, hr⟩ := chg_f os ds ws ix ho s
  exact ⟨r1, r2, hr, fun w hz => spec_CronChange.calls k A0 c0 os A1 c1 ds A2 c2 ws A3 c3 ix s _ _ w hz.h0 hc.k0 hz.h1 hc.k1 hz.h2 hc.k2 hz.h3 hc.k3 hk⟩
/-- when the transitions are -/
def WB (ws : List Int) : Prop := ∀ i, 1 ≤ i → i < ws.length → -62167596800 ≤ ws.getD i 0 ∧ ws.getD i 0 ≤ 253722300799
theorem ZOk.first {os : List Int} {ds : List Bool} {ws ix : List Int} (ho : ZOk os ds ws ix) (h : 0 < ws.length) : ws.getD 0 0 = -9223372036854775808 := by
  rcases ho with ⟨_, _, e, _⟩ | ⟨_, _, hg⟩
  · omega
  · exact hg.first
theorem ZOk.inc {os : List Int} {ds : List Bool} {ws ix : List Int} (ho : ZOk os ds ws ix) (j : Nat) (hj : j < ws.length) : ∀ i, i ≤ j → ws.getD i 0 ≤ ws.getD j 0 := by
  rcases ho with ⟨_, _, e, _⟩ | ⟨_, _, hg⟩
  · omega
  · intro i hi
    induction j with
    | zero => obtain rfl : i = 0 := by omega
              exact Int.le_refl _
    | succ j ih =>
      rcases Nat.eq_or_lt_of_le hi with q | q
      · rw [q]; exact Int.le_refl _
      · have := hg.sorted j (by simp only; omega)
        simp only at this
        have := ih (by omega) (by omega)
        omega
theorem lastY_bd (n : Int) (h0 : -800000 ≤ n) (h1 : n ≤ 2932900) : -900 ≤ gyear n + 5 ∧ gyear n + 5 ≤ 10100 := by
  have h := gdate n
  have a := h.lo
  have b := h.hi
  constructor
  · rcases Int.lt_or_le (gyear n) (-905) with q | q
    · have := ystart_le (show gyear n + 1 ≤ -905 by omega)
      have e : ystart (-905) = -1050072 := by decide
      omega
    · omega
  · rcases Int.lt_or_le 10095 (gyear n) with q | q
    · have := ystart_le (show 10096 ≤ gyear n by omega)
      have e : ystart 10096 = 2967961 := by decide
      omega
    · omega
theorem NoFit.b {S : Sets} {cs : Array Value} {z : Option Zone} {s0 Y fi o un : Int} (no : ∀ v, s0 ≤ v → gyear ((v + offO z v) / 86400) ≤ Y → ¬ FitS S cs (v + offO z v)) (hst : ∀ v, fi ≤ v → v < un - o → offO z v = o) (h0 : s0 ≤ fi) :
    ∀ r b, LocalOk S cs (fi + o) un Y r b → b = false := by
  intro r b h
  cases b with
  | false => rfl
  | true =>
    obtain ⟨h1, h2, h3, h4⟩ := h rfl
    have e := hst (r - o) (by omega) (by omega)
    refine absurd ?_ (no (r - o) (by omega) (by rw [e, show r - o + o = r by omega]; exact h3))
    rw [e, show r - o + o = r by omega]; exact h4
def NextPost (w : World) (e : Ending) (w' : World) : Prop := e = .returned (.tuple #[.agg #[.int .i64 0, .int .i64 0], .bool false]) ∧ Below w.heap.size w w'
/-- the blocks of CronNext -/
def NR (w W : World) (cs : Array Value) (v0 v1 v2 v3 : Value) : Prop :=
  W.heap[w.heap.size]? = some (.cells cs 56 (0, 0)) ∧ W.heap[w.heap.size + 1 + 1]? = some (.cells #[v0, v1, v2, v3] 31 (0, 0)) ∧ W.heap[w.heap.size + 1 + 1 + 1]? = some (.cells #[.int .i64 0, .int .i64 0] 26 (0, 0))
theorem NR.below {w W W' : World} {cs : Array Value} {v0 v1 v2 v3 : Value} (h : NR w W cs v0 v1 v2 v3) (hb : Below W.heap.size W W') : NR w W' cs v0 v1 v2 v3 :=
  ⟨by rw [hb.block _ (block_lt_row h.1)]; exact h.1, by rw [hb.block _ (block_lt_row h.2.1)]; exact h.2.1, by rw [hb.block _ (block_lt_row h.2.2)]; exact h.2.2⟩
theorem NR.z {w W : World} {cs : Array Value} {v0 v1 v2 v3 : Value} (h : NR w W cs v0 v1 v2 v3) :
    W.cell? ⟨w.heap.size + 1 + 1, 0, none⟩ = some v0 ∧ W.cell? ⟨w.heap.size + 1 + 1, 1, none⟩ = some v1 ∧ W.cell? ⟨w.heap.size + 1 + 1, 2, none⟩ = some v2 ∧ W.cell? ⟨w.heap.size + 1 + 1, 3, none⟩ = some v3 :=
  ⟨by rw [cell_of_row _ _ _ _ _ _ h.2.1]; rfl, by rw [cell_of_row _ _ _ _ _ _ h.2.1]; rfl, by rw [cell_of_row _ _ _ _ _ _ h.2.1]; rfl, by rw [cell_of_row _ _ _ _ _ _ h.2.1]; rfl⟩
theorem NR.r {w W : World} {cs : Array Value} {v0 v1 v2 v3 : Value} (h : NR w W cs v0 v1 v2 v3) :
    W.cell? ⟨w.heap.size + 1 + 1 + 1, 0, none⟩ = some (.int .i64 0) ∧ W.cell? ⟨w.heap.size + 1 + 1 + 1, 1, none⟩ = some (.int .i64 0) ∧ W.frozen? ⟨w.heap.size + 1 + 1 + 1, 0, none⟩ = false ∧ W.frozen? ⟨w.heap.size + 1 + 1 + 1, 1, none⟩ = false :=
  ⟨by rw [cell_of_row _ _ _ _ _ _ h.2.2]; rfl, by rw [cell_of_row _ _ _ _ _ _ h.2.2]; rfl, frozen_of_row _ _ _ _ _ h.2.2, frozen_of_row _ _ _ _ _ h.2.2⟩
theorem fld71 (a b c : Int) (w : World) : (Instr.field 71 (.agg #[.int .i64 a, .int .i64 b, .int .i64 c]) 0).run Try.prog w = .ok (.int .i64 a) w := by kernel_rfl
set_option maxHeartbeats 2000000 in
theorem tCNext (S : Sets) (cs : Array Value) (h : FieldsV S cs) (s n : Int) (A0 A1 A2 A3 : Option Addr) (c0 c1 c2 c3 : Nat) (os : List Int) (ds : List Bool) (ws ix : List Int) (w : World) (hz : ZIn w A0 A1 A2 A3 os ds ws ix) (hc : ZCap c0 c1 c2 c3 os ds ws ix)
    (ho : ZOk os ds ws ix) (hw : WB ws) (h0 : -62135596800 ≤ s) (h1 : s ≤ 253402300799)
    (no : ∀ v, s + 1 ≤ v → gyear ((v + offO (zoneOf os ws ix) v) / 86400) ≤ gyear ((s + 1 + offO (zoneOf os ws ix) (s + 1)) / 86400) + 5 → ¬ FitS S cs (v + offO (zoneOf os ws ix) v)) :
    Calls Try.prog 17 #[.agg cs, .agg #[.int .i64 s, .int .i64 n], zoneV A0 A1 A2 A3 c0 c1 c2 c3 os ds ws ix] w (NextPost w) := by
  have HOff : Hid (∀ W, Below w.heap.size w W → ∀ s', -9223372036854775808 ≤ s' → Calls Try.prog 26 #[zoneV A0 A1 A2 A3 c0 c1 c2 c3 os ds ws ix, .int .i64 s'] W fun e w' => e = .returned (.int .i64 (offO (zoneOf os ws ix) s')) ∧ Below W.heap.size W w') := Lib.hid fun W hW s' hs' => tOffset (hz.below hW) hc ho s' hs'
  have HChg : Hid (∀ s', ∃ r1 r2, ChgOk ws s' (r1, r2) ∧ ∀ W, Below w.heap.size w W → Calls Try.prog 27 #[zoneV A0 A1 A2 A3 c0 c1 c2 c3 os ds ws ix, .int .i64 s'] W fun e w' => e = .returned (.tuple #[.int .i64 r1, .bool r2]) ∧ Below W.heap.size W w') := Lib.hid fun s' => by
    obtain ⟨r1, r2, a, b⟩ := tChange (A0 := A0) (A1 := A1) (A2 := A2) (A3 := A3) hc ho s'
    exact ⟨r1, r2, a, fun W hW => b W (hz.below hW)⟩
  have HSt : Hid (∀ (s' v : Int) (r : Int × Bool), ChgOk ws s' r → -9223372036854775808 ≤ s' → s' ≤ v → (r.2 = true → v < r.1) → offO (zoneOf os ws ix) v = offO (zoneOf os ws ix) s') := Lib.hid fun s' v r hr h0 h1 h2 => off_stays ho hr h0 h1 h2
  have HO := Lib.hid (zoneOf_bd ho)
  have HF := Lib.hid h
  have HSz := Lib.hid h.sz
  have HCs := Lib.hid (heap_alloc_new w (Obj.cells cs 56))
  have HInc := Lib.hid ho.inc
  have HFst := Lib.hid (ho.first)
  have HWB := Lib.hid hw
  unfold zoneV at HOff HChg ⊢
  generalize hv0 : Value.slice A0 os.length c0 = v0 at HOff HChg ⊢
  generalize hv1 : Value.slice A1 ds.length c1 = v1 at HOff HChg ⊢
  generalize hv2 : Value.slice A2 ws.length c2 = v2 at HOff HChg ⊢
  generalize hv3 : Value.slice A3 ix.length c3 = v3 at HOff HChg ⊢
  clear hv0 hv1 hv2 hv3 hz ho hc h hw
  generalize zoneOf os ws ix = z at no HOff HSt HO ⊢
  have HNo := Lib.hid no
  have hob := HO.out (s + 1)
  obtain ⟨Y, hY⟩ : ∃ Y, gyear ((s + 1 + offO z (s + 1)) / 86400) + 5 = Y := ⟨_, rfl⟩
  have hYb := lastY_bd ((s + 1 + offO z (s + 1)) / 86400) (by omega) (by omega)
  rw [hY] at hYb
  have HY := Lib.hid hY
  clear no hY
  have hfld := fld71
  go_enter Try.func17, Try.ntmps17
  go_upto_region 2 with fail
  generalize hW : World.alloc _ _ = W
  have hN : NR w W cs v0 v1 v2 v3 := by
    rw [← hW]
    refine ⟨?_, ?_, ?_⟩
    · rw [Below.heap_alloc _ _ _ (by simp; omega), Below.heap_alloc _ _ _ (by simp; omega), Below.heap_alloc _ _ _ (by simp)]; exact HCs.out
    · rw [Below.heap_alloc _ _ _ (by simp)]
      have := heap_alloc_new ((w.alloc (Obj.cells cs 56)).alloc (Obj.cells #[.int .i64 s, .int .i64 n] 26)) (Obj.cells #[v0, v1, v2, v3] 31)
      simpa using this
    · have := heap_alloc_new (((w.alloc (Obj.cells cs 56)).alloc (Obj.cells #[.int .i64 s, .int .i64 n] 26)).alloc (Obj.cells #[v0, v1, v2, v3] 31)) (Obj.cells #[.int .i64 0, .int .i64 0] 26)
      simpa using this
  have HB0 : Hid (Below w.heap.size w W) := Lib.hid (by rw [← hW]; exact bA (bA (bA (bA (Below.refl _ _) _) _) _) _)
  have HN0 := Lib.hid hN
  obtain ⟨z0, z1, z2, z3⟩ := hN.z
  clear hW hN HCs
  go_wp2_with (first
    | (go_at_call 26; refine (HOff.out _ HB0.out (s + 1) (by omega)).mono ?_; rintro e w1 ⟨rfl, hb1⟩; have HN1 := Lib.hid (HN0.out.below hb1); have HB1 : Hid (Below w.heap.size w w1) := Lib.hid (HB0.out.trans (hb1.mono HB0.out.size)); obtain ⟨z0, z1, z2, z3⟩ := HN1.out.z; clear hb1)
    | (go_at_call 12; refine (tFdiv (s + 1 + offO z (s + 1)) (by omega) (by omega) _).mono ?_; rintro e w2 ⟨rfl, hb2⟩; have HN2 := Lib.hid (HN1.out.below hb2); have HB2 : Hid (Below w.heap.size w w2) := Lib.hid (HB1.out.trans (hb2.mono HB1.out.size)); obtain ⟨z0, z1, z2, z3⟩ := HN2.out.z; clear hb2)
    | (go_at_call 25; refine (tDateOf ((s + 1 + offO z (s + 1)) / 86400) (by omega) (by omega) _).mono ?_; rintro e w3 ⟨rfl, hb3⟩; have HN3 := Lib.hid (HN2.out.below hb3); have HB3 : Hid (Below w.heap.size w w3) := Lib.hid (HB2.out.trans (hb3.mono HB2.out.size)); obtain ⟨z0, z1, z2, z3⟩ := HN3.out.z; clear hb3))
  rw [HY.out, w64 Y (by omega) (by omega)]
  go_loopg [8] ws.length (fun kq v8 wr => ∃ fi : Int, v8 = .int .i64 fi ∧ Aside0 (s + 1 ≤ fi ∧ fi ≤ 253722300799) ∧ Aside0 (∀ i, i + kq < ws.length → ws.getD i 0 ≤ fi) ∧ Aside0 (NR w wr cs v0 v1 v2 v3) ∧ Aside0 (Below w.heap.size w wr))
  case atStart => exact ⟨s + 1, rfl, ⟨by omega⟩, ⟨fun i hi => by omega⟩, ⟨HN3.out⟩, ⟨HB3.out⟩⟩
  case round =>
    obtain ⟨fi, rfl, HR, HG, HNr, HBr⟩ := hrel
    clear z0 z1 z2 z3
    clear z0 z1 z2 z3
    clear z0 z1 z2 z3
    clear z0 z1 z2 z3
    obtain ⟨z0, z1, z2, z3⟩ := HNr.out.z
    obtain ⟨r1, r2, hok, hch⟩ := HChg.out fi
    obtain ⟨o, ho⟩ : ∃ o, offO z fi = o := ⟨_, rfl⟩
    have hob2 := HO.out fi
    rw [ho] at hob2
    have HOfi := Lib.hid ho
    have HOk := Lib.hid hok
    have HCh := Lib.hid hch
    have HOf2 : Hid (∀ W, Below w.heap.size w W → Calls Try.prog 26 #[.agg #[v0, v1, v2, v3], .int .i64 fi] W fun e w' => e = .returned (.int .i64 o) ∧ Below W.heap.size W w') := Lib.hid fun W hW => by
      have := HOff.out W hW fi (by have := HR.out; omega)
      rw [ho] at this
      exact this
    have hfb : -62135596800 < fi ∧ fi ≤ 253722300799 := by have := HR.out; omega
    clear ho hok hch
    cases r2 with
    | false =>
      have HNoB := Lib.hid (NoFit.b (S := S) (cs := cs) (z := z) (s0 := s + 1) (Y := Y) (fi := fi) (o := o) (un := 4611686018427387904) (by have := HNo.out; rw [HY.out] at this; exact this) (fun v hv _ => by rw [HSt.out fi v (r1, false) HOk.out (by omega) hv (fun h => by simp at h)]; exact HOfi.out) HR.out.1)
      go_wp2_with (first
        | (go_at_call 26; (with_reducible refine (HOf2.out _ HBr.out).mono ?_); rintro e w4 ⟨rfl, hb4⟩; have HN4 := Lib.hid (HNr.out.below hb4); have HB4 : Hid (Below w.heap.size w w4) := Lib.hid (HBr.out.trans (hb4.mono HBr.out.size)); obtain ⟨z0, z1, z2, z3⟩ := HN4.out.z; clear hb4)
        | (go_at_call 27; (with_reducible refine (HCh.out _ HB4.out).mono ?_); rintro e w5 ⟨rfl, hb5⟩; have HN5 := Lib.hid (HN4.out.below hb5); have HB5 : Hid (Below w.heap.size w w5) := Lib.hid (HB4.out.trans (hb5.mono HB4.out.size)); obtain ⟨z0, z1, z2, z3⟩ := HN5.out.z; clear hb5)
        | ((with_reducible refine wpList_load_row (o := ⟨some 42, _, _, _, _, _⟩) ?a1 56 (.tmp 3) ?a2 w.heap.size ?a3 56 cs (0, 0) _ ?a4 und56 ?a5 ?a6 ?_); (case a1 => rfl); (case a2 => rfl); (case a3 => rfl); (case a5 => rfl); (case a6 => rw [HSz.out]; exact inf56); (case a4 => exact HN5.out.1))
        | (go_at_call 28; (with_reducible refine (tLocal S cs HF.out (fi + o) 4611686018427387904 Y (by omega) (by omega) (by omega) (by omega) (by omega) (by omega) _).mono ?_); rintro e w6 ⟨r, b, rfl, hr, hb6⟩; obtain rfl := HNoB.out r b hr; have HN6 := Lib.hid (HN5.out.below hb6); have HB6 : Hid (Below w.heap.size w w6) := Lib.hid (HB5.out.trans (hb6.mono HB5.out.size)); obtain ⟨z0, z1, z2, z3⟩ := HN6.out.z; clear hb6; obtain ⟨q0, q1, g0, g1⟩ := HN6.out.r))
      exact bodyPost_ret (v := .tuple #[.agg #[.int .i64 0, .int .i64 0], .bool false]) (by simp [results, Try.results17, go_sem, q0, q1]) rfl ⟨rfl, (HB6.out.setCell (by simp; omega) _).setCell (by simp; omega) _⟩
    | true =>
      obtain ⟨j, hj, hj1, hj2, hj3⟩ := HOk.out.1 rfl
      simp only at hj1 hj2
      have hj0 : 1 ≤ j := by
        rcases Nat.eq_zero_or_pos j with rfl | q
        · have := HFst.out hj; omega
        · exact q
      have hrb := HWB.out j hj0 hj
      rw [hj1] at hrb
      have HJ : Hid (∀ i, i ≤ j → ws.getD i 0 ≤ r1) := Lib.hid fun i hi => by have := HInc.out j hj i hi; omega
      have HJg : Hid (ws.length ≤ j + gk) := Lib.hid (by
        rcases Nat.lt_or_ge (j + gk) ws.length with q | q
        · have := HG.out j q; omega
        · exact q)
      clear hj1 hj3
      have hob3 := HO.out r1
      obtain ⟨o2, ho2⟩ : ∃ o2, offO z r1 = o2 := ⟨_, rfl⟩
      rw [ho2] at hob3
      have HOf3 : Hid (∀ W, Below w.heap.size w W → Calls Try.prog 26 #[.agg #[v0, v1, v2, v3], .int .i64 r1] W fun e w' => e = .returned (.int .i64 o2) ∧ Below W.heap.size W w') := Lib.hid fun W hW => by
        have := HOff.out W hW r1 (by omega)
        rw [ho2] at this
        exact this
      clear ho2
      have HNoB := Lib.hid (NoFit.b (S := S) (cs := cs) (z := z) (s0 := s + 1) (Y := Y) (fi := fi) (o := o) (un := r1 + o) (by have := HNo.out; rw [HY.out] at this; exact this) (fun v hv hv2 => by rw [HSt.out fi v (r1, true) HOk.out (by omega) hv (fun _ => by simp only; omega)]; exact HOfi.out) HR.out.1)
      obtain ⟨gy, hgy⟩ : ∃ gy, gyear ((r1 + o2) / 86400) = gy := ⟨_, rfl⟩
      have HDt : Hid (∀ W, Calls Try.prog 25 #[.int .i64 ((r1 + o2) / 86400)] W fun e w' => e = .returned (.agg #[.int .i64 gy, .int .i64 (gmonth ((r1 + o2) / 86400)), .int .i64 (gday ((r1 + o2) / 86400))]) ∧ Below W.heap.size W w') := Lib.hid fun W => by
        have := tDateOf ((r1 + o2) / 86400) (by omega) (by omega) W
        rw [hgy] at this
        exact this
      clear hgy
      by_cases cgy : gy > Y
      · go_wp2_with (first
          | (go_at_call 26; (with_reducible refine (HOf2.out _ HBr.out).mono ?_); rintro e w4 ⟨rfl, hb4⟩; have HN4 := Lib.hid (HNr.out.below hb4); have HB4 : Hid (Below w.heap.size w w4) := Lib.hid (HBr.out.trans (hb4.mono HBr.out.size)); obtain ⟨z0, z1, z2, z3⟩ := HN4.out.z; clear hb4)
          | (go_at_call 27; (with_reducible refine (HCh.out _ HB4.out).mono ?_); rintro e w5 ⟨rfl, hb5⟩; have HN5 := Lib.hid (HN4.out.below hb5); have HB5 : Hid (Below w.heap.size w w5) := Lib.hid (HB4.out.trans (hb5.mono HB4.out.size)); obtain ⟨z0, z1, z2, z3⟩ := HN5.out.z; clear hb5)
          | ((with_reducible refine wpList_load_row (o := ⟨some 42, _, _, _, _, _⟩) ?a1 56 (.tmp 3) ?a2 w.heap.size ?a3 56 cs (0, 0) _ ?a4 und56 ?a5 ?a6 ?_); (case a1 => rfl); (case a2 => rfl); (case a3 => rfl); (case a5 => rfl); (case a6 => rw [HSz.out]; exact inf56); (case a4 => exact HN5.out.1))
          | (go_at_call 28; (with_reducible refine (tLocal S cs HF.out (fi + o) (r1 + o) Y (by omega) (by omega) (by omega) (by omega) (by omega) (by omega) _).mono ?_); rintro e w6 ⟨r, b, rfl, hr, hb6⟩; obtain rfl := HNoB.out r b hr; have HN6 := Lib.hid (HN5.out.below hb6); have HB6 : Hid (Below w.heap.size w w6) := Lib.hid (HB5.out.trans (hb6.mono HB5.out.size)); obtain ⟨z0, z1, z2, z3⟩ := HN6.out.z; clear hb6)
          | (go_at_call 26; (with_reducible refine (HOf3.out _ HB6.out).mono ?_); rintro e w7 ⟨rfl, hb7⟩; have HN7 := Lib.hid (HN6.out.below hb7); have HB7 : Hid (Below w.heap.size w w7) := Lib.hid (HB6.out.trans (hb7.mono HB6.out.size)); obtain ⟨z0, z1, z2, z3⟩ := HN7.out.z; clear hb7)
          | (go_at_call 12; (with_reducible refine (tFdiv (r1 + o2) (by omega) (by omega) _).mono ?_); rintro e w8 ⟨rfl, hb8⟩; have HN8 := Lib.hid (HN7.out.below hb8); have HB8 : Hid (Below w.heap.size w w8) := Lib.hid (HB7.out.trans (hb8.mono HB7.out.size)); obtain ⟨z0, z1, z2, z3⟩ := HN8.out.z; clear hb8)
          | (go_at_call 25; (with_reducible refine (HDt.out _).mono ?_); rintro e w9 ⟨rfl, hb9⟩; have HN9 := Lib.hid (HN8.out.below hb9); have HB9 : Hid (Below w.heap.size w w9) := Lib.hid (HB8.out.trans (hb9.mono HB8.out.size)); obtain ⟨z0, z1, z2, z3⟩ := HN9.out.z; clear hb9; obtain ⟨q0, q1, g0, g1⟩ := HN9.out.r))
        exact bodyPost_ret (v := .tuple #[.agg #[.int .i64 0, .int .i64 0], .bool false]) (by simp [results, Try.results17, go_sem, q0, q1]) rfl ⟨rfl, (HB9.out.setCell (by simp; omega) _).setCell (by simp; omega) _⟩
      · go_wp2_with (first
          | (go_at_call 26; (with_reducible refine (HOf2.out _ HBr.out).mono ?_); rintro e w4 ⟨rfl, hb4⟩; have HN4 := Lib.hid (HNr.out.below hb4); have HB4 : Hid (Below w.heap.size w w4) := Lib.hid (HBr.out.trans (hb4.mono HBr.out.size)); obtain ⟨z0, z1, z2, z3⟩ := HN4.out.z; clear hb4)
          | (go_at_call 27; (with_reducible refine (HCh.out _ HB4.out).mono ?_); rintro e w5 ⟨rfl, hb5⟩; have HN5 := Lib.hid (HN4.out.below hb5); have HB5 : Hid (Below w.heap.size w w5) := Lib.hid (HB4.out.trans (hb5.mono HB4.out.size)); obtain ⟨z0, z1, z2, z3⟩ := HN5.out.z; clear hb5)
          | ((with_reducible refine wpList_load_row (o := ⟨some 42, _, _, _, _, _⟩) ?a1 56 (.tmp 3) ?a2 w.heap.size ?a3 56 cs (0, 0) _ ?a4 und56 ?a5 ?a6 ?_); (case a1 => rfl); (case a2 => rfl); (case a3 => rfl); (case a5 => rfl); (case a6 => rw [HSz.out]; exact inf56); (case a4 => exact HN5.out.1))
          | (go_at_call 28; (with_reducible refine (tLocal S cs HF.out (fi + o) (r1 + o) Y (by omega) (by omega) (by omega) (by omega) (by omega) (by omega) _).mono ?_); rintro e w6 ⟨r, b, rfl, hr, hb6⟩; obtain rfl := HNoB.out r b hr; have HN6 := Lib.hid (HN5.out.below hb6); have HB6 : Hid (Below w.heap.size w w6) := Lib.hid (HB5.out.trans (hb6.mono HB5.out.size)); obtain ⟨z0, z1, z2, z3⟩ := HN6.out.z; clear hb6)
          | (go_at_call 26; (with_reducible refine (HOf3.out _ HB6.out).mono ?_); rintro e w7 ⟨rfl, hb7⟩; have HN7 := Lib.hid (HN6.out.below hb7); have HB7 : Hid (Below w.heap.size w w7) := Lib.hid (HB6.out.trans (hb7.mono HB6.out.size)); obtain ⟨z0, z1, z2, z3⟩ := HN7.out.z; clear hb7)
          | (go_at_call 12; (with_reducible refine (tFdiv (r1 + o2) (by omega) (by omega) _).mono ?_); rintro e w8 ⟨rfl, hb8⟩; have HN8 := Lib.hid (HN7.out.below hb8); have HB8 : Hid (Below w.heap.size w w8) := Lib.hid (HB7.out.trans (hb8.mono HB7.out.size)); obtain ⟨z0, z1, z2, z3⟩ := HN8.out.z; clear hb8)
          | (go_at_call 25; (with_reducible refine (HDt.out _).mono ?_); rintro e w9 ⟨rfl, hb9⟩; have HN9 := Lib.hid (HN8.out.below hb9); have HB9 : Hid (Below w.heap.size w w9) := Lib.hid (HB8.out.trans (hb9.mono HB8.out.size)); obtain ⟨z0, z1, z2, z3⟩ := HN9.out.z; clear hb9))
        go_roundg (ws.length - j - 1)
        case measure => have := HJg.out; omega
        case rel => exact ⟨r1, rfl, ⟨by have := HR.out; omega⟩, ⟨fun i hi => HJ.out i (by omega)⟩, ⟨HN9.out⟩, ⟨HB9.out⟩⟩
end Go.Proofs.Ytjmgebhjkbcpcaa.NM
set_option linter.unusedVariables false
set_option linter.unusedSimpArgs false
namespace Go.Proofs.Ytjmgebhjkbcpcaa.NM
open Go.RowKit Cal CronPl Go.Proofs.Ytjmgebhjkbcpcaa.PFnCronNextMany Go.Proofs.YtjmgebhjkbcpcaaW.PrintWords
set_option maxRecDepth 100000
theorem hitS_hit (b : Int) (n : Nat) (h0 : 0 ≤ b) (h1 : b < 18446744073709551616) (hn : n < 63) (h : hitS b n = true) : hit b n = true := by
  obtain ⟨a, rfl⟩ := Int.eq_ofNat_of_zero_le h0
  have ha : a < 2 ^ 64 := by omega
  have p : 2 ^ n < 2 ^ 63 := Nat.pow_lt_pow_right (by decide) hn
  have e1 : ((a : Int) / 2 ^ n) = ((a / 2 ^ n : Nat) : Int) := by push_cast; rfl
  have e2 : ((2 : Int) ^ n) = ((2 ^ n : Nat) : Int) := by push_cast; rfl
  have q : a / 2 ^ n < 2 ^ 64 := Nat.lt_of_le_of_lt (Nat.div_le_self _ _) ha
  unfold hitS at h
  rw [e1] at h
  have k := (bits_nat .u64 64 (by decide) wraps_u64 (a / 2 ^ n) 1 (by omega) (by omega)).1
  rw [show ((1 : Int)) = ((1 : Nat) : Int) from rfl, k] at h
  have ht : a.testBit n = true := by
    unfold Nat.testBit
    rw [Nat.shiftRight_eq_div_pow, Nat.and_comm]
    have h' : (a / 2 ^ n) &&& 1 = 1 := by
      have := LawfulBEq.eq_of_beq h
      omega
    rw [h']; rfl
  have h3 : 2 ^ n &&& a ≠ 0 := fun h => by
    have := congrArg (fun x => Nat.testBit x n) h
    simp only [Nat.testBit_and, Nat.testBit_two_pow_self, ht, Nat.zero_testBit] at this
    exact absurd this (by decide)
  unfold hit
  rw [show ((n : Int)).toNat = n by omega, e2]
  generalize 2 ^ n = t at p h3
  have k2 := (bits_nat .u64 64 (by decide) wraps_u64 t a (by omega) (by omega)).1
  rw [u64wrap_small _ (by omega) (by omega), k2]
  rw [decide_eq_true_eq]
  omega
theorem starS_star (b : Int) : starS b = star b := by
  unfold starS star
  have := bits_nn b 9223372036854775808
  rw [Bool.eq_iff_iff]; simp; omega
theorem fit_match {S : Sets} (hS : SetsOk S) {cs : Array Value} (h : FieldsV S cs) {z : Option Zone} {x0 Y X r : Int} (hr : lo z X = r) (hf : FitS S cs r) : Match (cxOf S x0 Y) (lo z) X := by
  obtain ⟨f1, f2, f3, f4, f5⟩ := hf
  have g := gdate (r / 86400)
  have m1 := g.m1
  have m12 := g.m12
  have d1 := g.d1
  have dm := g.dm
  have ml := mlen_bd (gyear (r / 86400)) (gmonth (r / 86400))
  have key : ∀ (k : Nat) (v : Int), k < 6 → 0 ≤ v → v < 63 → inF cs k v.toNat = true → hit (bitsOf S k) v = true := fun k v hk h0 h1 hi => by
    have a := (h.hit k v.toNat hk (by omega) hi).2.2
    have := hitS_hit (bitsOf S k) v.toNat (hS k hk).1 (hS k hk).2 (by omega) a
    rwa [Int.toNat_of_nonneg h0] at this
  refine ⟨?_, ?_, ?_, ?_, ?_⟩
  · show hit S.mon (gmonth (lo z X / 86400)) = true
    rw [hr]; exact key 4 _ (by decide) (by omega) (by omega) f1
  · show dayHit S (lo z X / 86400) = true
    rw [hr]
    unfold dayF at f2
    unfold dayHit
    rw [starS_star, starS_star] at f2
    have a3 := key 3 (gday (r / 86400)) (by decide) (by omega) (by omega)
    have a5 := key 5 ((r / 86400 + 4) % 7) (by decide) (by omega) (by omega)
    have e3 : bitsOf S 3 = S.dom := rfl
    have e5 : bitsOf S 5 = S.dow := rfl
    rw [e3] at a3 f2
    rw [e5] at a5 f2
    by_cases c : (star S.dom || star S.dow) = true
    · rw [if_pos c] at f2 ⊢
      rw [Bool.and_eq_true] at f2 ⊢
      exact ⟨a3 f2.1, a5 f2.2⟩
    · rw [if_neg c] at f2 ⊢
      rw [Bool.or_eq_true] at f2 ⊢
      exact f2.imp a3 a5
  · show hit S.ho (lo z X % 86400 / 3600) = true
    rw [hr]; exact key 2 _ (by decide) (by omega) (by omega) f3
  · show hit S.mi (lo z X % 3600 / 60) = true
    rw [hr]; exact key 1 _ (by decide) (by omega) (by omega) f4
  · show hit S.se (lo z X % 60) = true
    rw [hr]; exact key 0 _ (by decide) (by omega) (by omega) f5
theorem no_fit {S : Sets} (hS : SetsOk S) {cs : Array Value} (h : FieldsV S cs) {z : Option Zone} (P : Plain (lo z) (fun T => reso z T + 62135596800)) {s : Int} (hn : nextOf S z (s + 62135596800) = none) :
    ∀ v, s + 1 ≤ v → gyear ((v + offO z v) / 86400) ≤ gyear ((s + 1 + offO z (s + 1)) / 86400) + 5 → ¬ FitS S cs (v + offO z v) := by
  intro v hv hy hf
  have e : lo z (v + 62135596800) = v + offO z v := by unfold lo; rw [show v + 62135596800 - 62135596800 = v by omega]
  have e1 : lastY z (s + 62135596800) = gyear ((s + 1 + offO z (s + 1)) / 86400) + 5 := by
    unfold lastY lo; rw [show s + 62135596800 + 1 - 62135596800 = s + 1 by omega]
  exact nextOf_none P hn (v + 62135596800) (by omega) (by rw [e, e1]; exact hy) (fit_match hS h e hf)
abbrev zInst (i : Nat) : Value := [Value.int .i64 0, .int .i64 0].getD i undef
theorem boxNew2 (W : World) : BoxAt (W.alloc (Obj.cells #[.int .i64 0, .int .i64 0] 26)) W.heap.size 2 zInst :=
  ⟨by simp, fun i hi => by rcases i with _ | _ | i <;> first | omega | simp [go_sem], fun o => by simp [go_sem]⟩
set_option maxHeartbeats 4000000 in
theorem tNone (ev : Bool) (d : Int) (S : Sets) (hS : SetsOk S) (s n : Int) (A0 A1 A2 A3 : Option Addr) (c0 c1 c2 c3 : Nat) (os : List Int) (ds : List Bool) (ws ix : List Int) (w : World) (hz : ZIn w A0 A1 A2 A3 os ds ws ix) (hc : ZCap c0 c1 c2 c3 os ds ws ix)
    (ho : ZOk os ds ws ix) (hw : WB ws) (P : Plain (lo (zoneOf os ws ix)) (fun T => reso (zoneOf os ws ix) T + 62135596800)) (h0 : -62135596800 ≤ s) (h1 : s ≤ 253402300799) (hn : nextOf S (zoneOf os ws ix) (s + 62135596800) = none) :
    Calls Try.prog 10 #[schedV ev d S, .agg #[.int .i64 s, .int .i64 n], zoneV A0 A1 A2 A3 c0 c1 c2 c3 os ds ws ix] w fun e w' => e = .returned (.bool true) ∧ Below w.heap.size w w' := by
  have HNx : Hid (∀ W cs, Below w.heap.size w W → FieldsV S cs → Calls Try.prog 17 #[.agg cs, .agg #[.int .i64 s, .int .i64 n], zoneV A0 A1 A2 A3 c0 c1 c2 c3 os ds ws ix] W (NextPost W)) := Lib.hid fun W cs hW h => tCNext S cs h s n A0 A1 A2 A3 c0 c1 c2 c3 os ds ws ix W (hz.below hW) hc ho hw h0 h1 (no_fit hS h P hn)
  have HS := Lib.hid hS
  unfold zoneV at HNx ⊢
  generalize hv0 : Value.slice A0 os.length c0 = v0 at HNx ⊢
  generalize hv1 : Value.slice A1 ds.length c1 = v1 at HNx ⊢
  generalize hv2 : Value.slice A2 ws.length c2 = v2 at HNx ⊢
  generalize hv3 : Value.slice A3 ix.length c3 = v3 at HNx ⊢
  clear hv0 hv1 hv2 hv3 hz ho hc hw hS P hn
  go_enter Try.func10, Try.ntmps10
  go_upto_region 1 with fail
  have hB := box8 w ev d S s n v0 v1 v2 v3
  generalize hW : ((w.alloc _).alloc _).alloc _ = W at hB ⊢
  have hbW : Below w.heap.size w W := by rw [← hW]; exact bA (bA (bA (Below.refl _ _) _) _) _
  have hsW : w.heap.size + 3 ≤ W.heap.size := by rw [← hW]; simp
  clear hW
  have HB := Lib.hid hB
  have HW := Lib.hid hbW
  clear hB hbW
  go_region_held3 (fun w' => w'.cell? ⟨w.heap.size, 0, none⟩ = some (.bool ev) ∧ w'.cell? ⟨w.heap.size, 1, none⟩ = some (.int .i64 d) ∧ w'.cell? ⟨w.heap.size, 2, none⟩ = some (.int .u64 S.se) ∧ w'.cell? ⟨w.heap.size, 3, none⟩ = some (.int .u64 S.mi) ∧ w'.cell? ⟨w.heap.size, 4, none⟩ = some (.int .u64 S.ho) ∧ w'.cell? ⟨w.heap.size, 5, none⟩ = some (.int .u64 S.dom) ∧ w'.cell? ⟨w.heap.size, 6, none⟩ = some (.int .u64 S.mon) ∧ w'.cell? ⟨w.heap.size, 7, none⟩ = some (.int .u64 S.dow) ∧
  w'.cell? ⟨w.heap.size + 1, 0, none⟩ = some (.int .i64 s) ∧ w'.cell? ⟨w.heap.size + 1, 1, none⟩ = some (.int .i64 n) ∧
  w'.cell? ⟨w.heap.size + 1 + 1, 0, none⟩ = some v0 ∧ w'.cell? ⟨w.heap.size + 1 + 1, 1, none⟩ = some v1 ∧ w'.cell? ⟨w.heap.size + 1 + 1, 2, none⟩ = some v2 ∧ w'.cell? ⟨w.heap.size + 1 + 1, 3, none⟩ = some v3)
      (first | exact HB2.out | exact HB1.out | exact Box9.below HB.out (Below.refl _ _).drew | exact Box9.below (by assumption) (bA (Below.refl _ _) _) | exact Box9.set (Box9.set (by assumption) (by omega)) (by omega))
      (first
        | (go_at_call 18; refine (tFieldsOf ev d S HS.out _).mono ?_; rintro e w1 ⟨cs, rfl, hcs, hb1⟩; have k1 : Below W.heap.size W w1 := (by first | exact (Below.refl _ _).drew.trans hb1 | exact (bA (Below.refl _ _).drew _).trans (hb1.mono (by simp))); have z1 := k1.size; have HB1 := Lib.hid (HB.out.below k1); have HCS := Lib.hid hcs; have HW1 := Lib.hid (HW.out.trans (k1.mono HW.out.size)); (first | (have hbx : Hid (BoxAt w1 W.heap.size 2 zInst) := Lib.hid ((boxNew2 W.drew).call hb1)) | skip); clear hb1 hcs)
        | (go_at_call 17; refine (HNx.out _ cs (by first | exact HW1.out | exact bA HW1.out _) HCS.out).mono ?_; rintro e w2 ⟨rfl, hb2⟩; have k2 : Below w1.heap.size w1 w2 := (by first | exact hb2 | exact (bA (Below.refl _ _) _).trans (hb2.mono (by simp))); have z2 := k2.size; have HB2 := Lib.hid (HB1.out.below k2); have HW2 := Lib.hid (HW1.out.trans (k2.mono HW1.out.size)); (first | (have hbx := Lib.hid (hbx.out.call hb2)) | (have hbx : Hid (BoxAt w2 w1.heap.size 2 zInst) := Lib.hid ((boxNew2 w1).call hb2)) | skip); (first | (have r0 := hbx.out.c 0 (by decide); have r1 := hbx.out.c 1 (by decide); have f0 := hbx.out.f 0; have f1 := hbx.out.f 1) | skip); clear hb2))
  all_goals
    go_wp2_with fail
    go_ret
    refine ⟨rfl, ?_⟩
    first
      | exact bA HW2.out _
      | exact (HW2.out.setCell (by simp only; omega) _).setCell (by simp only; omega) _
end Go.Proofs.Ytjmgebhjkbcpcaa.NM
set_option linter.unusedVariables false
set_option linter.unusedSimpArgs false
namespace Go.Proofs.Ytjmgebhjkbcpcaa.NM
open Go.RowKit Cal CronPl Go.Proofs.Ytjmgebhjkbcpcaa.PFnCronNextMany Go.Proofs.YtjmgebhjkbcpcaaW.PrintWords
set_option maxRecDepth 100000
theorem eq26 (a b c d : Int) (w : World) : (Op.equalIn 10000 26 (.agg #[.int .i64 a, .int .i64 b]) (.agg #[.int .i64 c, .int .i64 d])).run Try.prog w = .ok (a == c && b == d) w := by
  have u3 := Try.underlying3
  have hS : Try.prog.underlying 26 = some (.struct (Try.prog.fieldsOf 26)) := by kernel_rfl
  rw [show (10000 : Nat) = 9999 + 1 from rfl, run_equalIn_agg w 9999 26 _ _ hS (by kernel_rfl)]
  simp only [Program.fieldsOf, Try.underlying26]
  go_simp
  by_cases h1 : a = c <;> by_cases h2 : b = d <;> simp [h1, h2]
section
variable {A0 A1 A2 A3 : Option Addr} {c0 c1 c2 c3 : Nat} {os : List Int} {ds : List Bool} {ws ix : List Int}
theorem tFits (hc : ZCap c0 c1 c2 c3 os ds ws ix) : ∃ r : Bool, ∀ w, ZIn w A0 A1 A2 A3 os ds ws ix → Calls Try.prog 4 #[zoneV A0 A1 A2 A3 c0 c1 c2 c3 os ds ws ix] w fun e w' => e = .returned (.bool r) ∧ Below w.heap.size w w' := by
  obtain ⟨r, hr⟩ : ∃ r, laws_zzFits1.f os ds ws ix = some r := by
    unfold laws_zzFits1.f
    repeat' split
    all_goals exact ⟨_, rfl⟩
  exact ⟨r, fun w hz => laws_zzFits1.calls A0 c0 os A1 c1 ds A2 c2 ws A3 c3 ix r w hz.h0 hc.k0 hz.h1 hc.k1 hz.h2 hc.k2 hz.h3 hc.k3 hr⟩
theorem tGoodI (s n : Int) : ∃ r : Bool, (r = true → -62135596800 ≤ s ∧ s ≤ 253402300799 ∧ 0 ≤ n ∧ n < 1000000000) ∧ ∀ w, Calls Try.prog 5 #[.agg #[.int .i64 s, .int .i64 n]] w fun e w' => e = .returned (.bool r) ∧ Below w.heap.size w w' := by
  obtain ⟨r, hr, hi⟩ : ∃ r, spec_CronGood.f s n = some r ∧ (r = true → -62135596800 ≤ s ∧ s ≤ 253402300799 ∧ 0 ≤ n ∧ n < 1000000000) := by
    unfold spec_CronGood.f
    split
    · split
      · split
        · exact ⟨_, rfl, fun h => by simp at h; omega⟩
        · exact ⟨_, rfl, fun h => by simp at h⟩
      · exact ⟨_, rfl, fun h => by simp at h⟩
    · exact ⟨_, rfl, fun h => by simp at h⟩
  exact ⟨r, hi, fun w => spec_CronGood.calls s n r w hr⟩
theorem tGoodZ (hc : ZCap c0 c1 c2 c3 os ds ws ix) : ∃ r : Bool, (r = true → ZOk os ds ws ix) ∧ ∀ w, ZIn w A0 A1 A2 A3 os ds ws ix → Calls Try.prog 6 #[zoneV A0 A1 A2 A3 c0 c1 c2 c3 os ds ws ix] w fun e w' => e = .returned (.bool r) ∧ Below w.heap.size w w' := by
  obtain ⟨k, r, hr, hi⟩ := good_f os ds ws ix
  exact ⟨r, hi, fun w hz => spec_GoodZone.calls k A0 c0 os A1 c1 ds A2 c2 ws A3 c3 ix r w hz.h0 hc.k0 hz.h1 hc.k1 hz.h2 hc.k2 hz.h3 hc.k3 hr⟩
theorem tPlainZ (hc : ZCap c0 c1 c2 c3 os ds ws ix) (ho : ZOk os ds ws ix) : ∃ r : Bool, (r = true → WB ws ∧ Plain (lo (zoneOf os ws ix)) (fun T => reso (zoneOf os ws ix) T + 62135596800)) ∧ ∀ w, ZIn w A0 A1 A2 A3 os ds ws ix → Calls Try.prog 7 #[zoneV A0 A1 A2 A3 c0 c1 c2 c3 os ds ws ix] w fun e w' => e = .returned (.bool r) ∧ Below w.heap.size w w' := by
  obtain ⟨k, r, hr, hi⟩ := pz_f os ds ws ix ho
  refine ⟨r, fun h => ?_, fun w hz => spec_CronPlainZone.calls k A0 c0 os A1 c1 ds A2 c2 ws A3 c3 ix r w hz.h0 hc.k0 hz.h1 hc.k1 hz.h2 hc.k2 hz.h3 hc.k3 hr⟩
  by_cases e : os.length = 0
  · have ez : zoneOf os ws ix = none := by unfold zoneOf; rw [if_pos e]
    have ew : ws.length = 0 := by
      rcases ho with ⟨_, _, e2, _⟩ | ⟨_, _, hg⟩
      · exact e2
      · have := hg.k0; simp only at this; omega
    rw [ez]
    exact ⟨fun i h0 h1 => by omega, plain_utc⟩
  · have ez : zoneOf os ws ix = some ⟨ws, ix, os⟩ := by unfold zoneOf; rw [if_neg e]
    rw [ez]
    rcases hi h with h | ⟨hp, hw⟩
    · exact absurd h e
    · rcases ho with ⟨e0, _⟩ | ⟨_, _, hg⟩
      · exact absurd e0 e
      · exact ⟨hw, plain_zone hg hp⟩
end
/-- the law's boxes, whole -/
def R9 (W : World) (b : Nat) (ev : Bool) (d : Int) (S : Sets) (s n : Int) (v0 v1 v2 v3 : Value) : Prop :=
  W.heap[b]? = some (.cells #[.bool ev, .int .i64 d, .int .u64 S.se, .int .u64 S.mi, .int .u64 S.ho, .int .u64 S.dom, .int .u64 S.mon, .int .u64 S.dow] 24 (0, 0)) ∧ W.heap[b + 1]? = some (.cells #[.int .i64 s, .int .i64 n] 26 (0, 0)) ∧ W.heap[b + 1 + 1]? = some (.cells #[v0, v1, v2, v3] 31 (0, 0))
theorem R9.below {W W' : World} {b : Nat} {ev : Bool} {d : Int} {S : Sets} {s n : Int} {v0 v1 v2 v3 : Value} (h : R9 W b ev d S s n v0 v1 v2 v3) (hb : Below W.heap.size W W') : R9 W' b ev d S s n v0 v1 v2 v3 :=
  ⟨by rw [hb.block _ (block_lt_row h.1)]; exact h.1, by rw [hb.block _ (block_lt_row h.2.1)]; exact h.2.1, by rw [hb.block _ (block_lt_row h.2.2)]; exact h.2.2⟩
theorem R9.box {W : World} {b : Nat} {ev : Bool} {d : Int} {S : Sets} {s n : Int} {v0 v1 v2 v3 : Value} (h : R9 W b ev d S s n v0 v1 v2 v3) : Box9 W b ev d S s n v0 v1 v2 v3 := by
  obtain ⟨a, c, e⟩ := h
  refine ⟨?_, ?_, ?_, ?_, ?_, ?_, ?_, ?_, ?_, ?_, ?_, ?_, ?_, ?_⟩
  any_goals (rw [cell_of_row _ _ _ _ _ _ a]; rfl)
  any_goals (rw [cell_of_row _ _ _ _ _ _ c]; rfl)
  all_goals (rw [cell_of_row _ _ _ _ _ _ e]; rfl)
theorem R9.setT {W : World} {b : Nat} {ev : Bool} {d : Int} {S : Sets} {s n s' n' : Int} {v0 v1 v2 v3 : Value} (h : R9 W b ev d S s n v0 v1 v2 v3) : R9 ((W.setCell ⟨b + 1, 0, none⟩ (.int .i64 s')).setCell ⟨b + 1, 1, none⟩ (.int .i64 n')) b ev d S s' n' v0 v1 v2 v3 := by
  obtain ⟨a, c, e⟩ := h
  refine ⟨?_, ?_, ?_⟩
  · rw [heap_setCell_other _ _ _ _ (by simp), heap_setCell_other _ _ _ _ (by simp)]; exact a
  · rw [heap_setCell_same _ _ _ _ _ _ (heap_setCell_same _ _ _ _ _ _ c)]; rfl
  · rw [heap_setCell_other _ _ _ _ (by simp), heap_setCell_other _ _ _ _ (by simp)]; exact e
theorem R9.new (w : World) (ev : Bool) (d : Int) (S : Sets) (s n : Int) (v0 v1 v2 v3 : Value) :
    R9 (((w.alloc (Obj.cells #[.bool ev, .int .i64 d, .int .u64 S.se, .int .u64 S.mi, .int .u64 S.ho, .int .u64 S.dom, .int .u64 S.mon, .int .u64 S.dow] 24)).alloc (Obj.cells #[.int .i64 s, .int .i64 n] 26)).alloc (Obj.cells #[v0, v1, v2, v3] 31)) w.heap.size ev d S s n v0 v1 v2 v3 := by
  refine ⟨?_, ?_, ?_⟩
  · rw [Below.heap_alloc _ _ _ (by simp; omega), Below.heap_alloc _ _ _ (by simp)]; exact heap_alloc_new _ _
  · rw [Below.heap_alloc _ _ _ (by simp)]; exact heap_alloc2_new _ _ _
  · have := heap_alloc_new ((w.alloc (Obj.cells #[.bool ev, .int .i64 d, .int .u64 S.se, .int .u64 S.mi, .int .u64 S.ho, .int .u64 S.dom, .int .u64 S.mon, .int .u64 S.dow] 24)).alloc (Obj.cells #[.int .i64 s, .int .i64 n] 26)) (Obj.cells #[v0, v1, v2, v3] 31)
    simpa using this
theorem irow_at : ∀ (L : List Int) (i : Nat), i < L.length → (irow L)[i * 2]? = some (.int .i64 (L.getD i 0 - 62135596800)) ∧ (irow L)[i * 2 + 1]? = some (.int .i64 0)
  | [], _, h => by simp at h
  | x :: L, 0, _ => ⟨rfl, rfl⟩
  | x :: L, i + 1, h => by
    have := irow_at L i (by simpa using h)
    rw [show (i + 1) * 2 = i * 2 + 1 + 1 by omega, show i * 2 + 1 + 1 + 1 = (i * 2 + 1) + 1 + 1 by omega]
    simpa [irow] using this
theorem many_step {ev : Bool} {d : Int} {S : Sets} {z : Option Zone} {k : Nat} {x y : Int} {L : List Int} (h : y :: L = many ev d S z k x) : nxt ev d S z x = some y ∧ ∃ k', k = k' + 1 ∧ L = many ev d S z k' y := by
  cases k with
  | zero => simp [many] at h
  | succ k =>
    unfold many at h
    split at h
    · simp at h
    · rename_i x' hx
      injection h with h1 h2
      subst h1
      exact ⟨hx, k, rfl, h2⟩
theorem nxt_bd {ev : Bool} {d : Int} {S : Sets} {z : Option Zone} {x y : Int} (hb : ∀ s, -86400 ≤ offO z s ∧ offO z s ≤ 86400) (he : EvOk ev d) (h : nxt ev d S z x = some y) : x < y ∧ y ≤ x + 9223372037 ∧ (ev = false → y ≤ x + 200000000) := by
  unfold nxt at h
  cases ev with
  | true =>
    obtain ⟨d0, d1, d2⟩ := he rfl
    simp only [if_true] at h
    injection h with h
    exact ⟨by omega, by omega, fun h => by simp at h⟩
  | false =>
    simp only [Bool.false_eq_true, if_false] at h
    have := IsNext.bd' hb (nextOf_is h)
    exact ⟨this.1, by omega, fun _ => this.2⟩
end Go.Proofs.Ytjmgebhjkbcpcaa.NM
set_option linter.unusedVariables false
set_option linter.unusedSimpArgs false
namespace Go.Proofs.Ytjmgebhjkbcpcaa.NM
open Go.RowKit Cal CronPl Go.Proofs.Ytjmgebhjkbcpcaa.PFnCronNextMany Go.Proofs.YtjmgebhjkbcpcaaW.PrintWords
set_option maxRecDepth 100000
def TruePost (w : World) (e : Ending) (w' : World) : Prop := e = .returned (.bool true) ∧ Below w.heap.size w w'
theorem many_len {ev : Bool} {d : Int} {S : Sets} {z : Option Zone} : ∀ (k : Nat) (x : Int), (many ev d S z k x).length ≤ k
  | 0, _ => by simp [many]
  | k + 1, x => by
    unfold many
    split
    · simp
    · rename_i x' _
      have := many_len (ev := ev) (d := d) (S := S) (z := z) k x'
      simp; omega
theorem many_end {ev : Bool} {d : Int} {S : Sets} {z : Option Zone} {k : Nat} {x : Int} (h : [] = many ev d S z k x) (hk : 0 < k) : nxt ev d S z x = none := by
  obtain ⟨k, rfl⟩ : ∃ j, k = j + 1 := ⟨k - 1, by omega⟩
  unfold many at h
  split at h
  · assumption
  · simp at h
set_option maxHeartbeats 4000000 in
theorem tLaw (ev : Bool) (d : Int) (S : Sets) (hS : SetsOk S) (s n : Int) (A0 A1 A2 A3 : Option Addr) (c0 c1 c2 c3 : Nat) (os : List Int) (ds : List Bool) (ws ix : List Int) (m : Int) (w : World) (hz : ZIn w A0 A1 A2 A3 os ds ws ix) (hc : ZCap c0 c1 c2 c3 os ds ws ix)
    (hd0 : -9223372036854775808 ≤ d) (hd1 : d < 9223372036854775808) :
    Calls Try.prog 3 #[schedV ev d S, .agg #[.int .i64 s, .int .i64 n], zoneV A0 A1 A2 A3 c0 c1 c2 c3 os ds ws ix, .int .i64 m] w (TruePost w) := by
  obtain ⟨r4, h4⟩ := tFits (A0 := A0) (A1 := A1) (A2 := A2) (A3 := A3) hc
  obtain ⟨r5, hr5, h5⟩ := tGoodI s n
  obtain ⟨r6, hr6, h6⟩ := tGoodZ (A0 := A0) (A1 := A1) (A2 := A2) (A3 := A3) hc
  have H4 : Hid (∀ W, Below w.heap.size w W → Calls Try.prog 4 #[zoneV A0 A1 A2 A3 c0 c1 c2 c3 os ds ws ix] W fun e w' => e = .returned (.bool r4) ∧ Below W.heap.size W w') := Lib.hid fun W hW => h4 W (hz.below hW)
  have H6 : Hid (∀ W, Below w.heap.size w W → Calls Try.prog 6 #[zoneV A0 A1 A2 A3 c0 c1 c2 c3 os ds ws ix] W fun e w' => e = .returned (.bool r6) ∧ Below W.heap.size W w') := Lib.hid fun W hW => h6 W (hz.below hW)
  have H5 := Lib.hid h5
  have HR5 := Lib.hid hr5
  have HR6 := Lib.hid hr6
  clear h4 h5 h6 hr5 hr6
  -- the zone's last test, where the zone is good
  have H7 : Hid (r6 = true → ∃ r7 : Bool, (r7 = true → WB ws ∧ Plain (lo (zoneOf os ws ix)) (fun T => reso (zoneOf os ws ix) T + 62135596800)) ∧ ∀ W, Below w.heap.size w W → Calls Try.prog 7 #[zoneV A0 A1 A2 A3 c0 c1 c2 c3 os ds ws ix] W fun e w' => e = .returned (.bool r7) ∧ Below W.heap.size W w') := Lib.hid fun h => by
    obtain ⟨r7, a, b⟩ := tPlainZ (A0 := A0) (A1 := A1) (A2 := A2) (A3 := A3) hc (HR6.out h)
    exact ⟨r7, a, fun W hW => b W (hz.below hW)⟩
  -- what is called behind the guards
  have HIn : Hid (r5 = true → r6 = true → WB ws ∧ Plain (lo (zoneOf os ws ix)) (fun T => reso (zoneOf os ws ix) T + 62135596800) → EvOk ev d → (0 ≤ m ∧ m ≤ 64) →
      (∀ W, Below w.heap.size w W → Calls Try.prog 8 #[schedV ev d S, .agg #[.int .i64 s, .int .i64 n], zoneV A0 A1 A2 A3 c0 c1 c2 c3 os ds ws ix, .int .i64 m] W fun e w' => ∃ v, e = .returned v ∧ w'.ownsRow W.heap.size 26 2 v (many ev d S (zoneOf os ws ix) m.toNat (s + 62135596800)).length (irow (many ev d S (zoneOf os ws ix) m.toNat (s + 62135596800))) ∧ Below W.heap.size W w') ∧
      (∀ W, Below w.heap.size w W → ∀ s' n', Nan n' → -62135596800 ≤ s' → s' ≤ 1500000000000 → (ev = false → s' ≤ 600000000000) → Calls Try.prog 9 #[schedV ev d S, .agg #[.int .i64 s', .int .i64 n'], zoneV A0 A1 A2 A3 c0 c1 c2 c3 os ds ws ix] W fun e w' => e = .returned (ansV (nxt ev d S (zoneOf os ws ix) (s' + 62135596800))) ∧ Below W.heap.size W w') ∧
      (∀ W, Below w.heap.size w W → ∀ s' n', -62135596800 ≤ s' → s' ≤ 253402300799 → nextOf S (zoneOf os ws ix) (s' + 62135596800) = none → Calls Try.prog 10 #[schedV ev d S, .agg #[.int .i64 s', .int .i64 n'], zoneV A0 A1 A2 A3 c0 c1 c2 c3 os ds ws ix] W fun e w' => e = .returned (.bool true) ∧ Below W.heap.size W w') ∧
      (∀ s, -86400 ≤ offO (zoneOf os ws ix) s ∧ offO (zoneOf os ws ix) s ≤ 86400)) := Lib.hid fun h5 h6 h7 hev hm => by
    have g5 := HR5.out h5
    have ho := HR6.out h6
    have hnn : Nan n := ⟨g5.2.2.1, g5.2.2.2⟩
    refine ⟨fun W hW => ?_, fun W hW s' n' hn' a b c => tNext9 ev d S s' n' A0 A1 A2 A3 c0 c1 c2 c3 os ds ws ix W (hz.below hW) ho h7.2 hn' a b c hev, fun W hW s' n' a b hno => tNone ev d S hS s' n' A0 A1 A2 A3 c0 c1 c2 c3 os ds ws ix W (hz.below hW) hc ho h7.1 h7.2 a b hno, zoneOf_bd ho⟩
    have := tMany ev d S s n A0 A1 A2 A3 c0 c1 c2 c3 os ds ws ix m.toNat W (hz.below hW) ho h7.2 hnn g5.1 (by omega) (by omega) hev
    rw [Int.toNat_of_nonneg hm.1] at this
    exact this
  unfold zoneV at *
  generalize hv0 : Value.slice A0 os.length c0 = v0 at *
  generalize hv1 : Value.slice A1 ds.length c1 = v1 at *
  generalize hv2 : Value.slice A2 ws.length c2 = v2 at *
  generalize hv3 : Value.slice A3 ix.length c3 = v3 at *
  clear hv0 hv1 hv2 hv3 hz hc HR6 hS
  generalize zoneOf os ws ix = z at *
  go_enter Try.func3, Try.ntmps3
  go_upto_region 1 with fail
  have hQ := R9.new w ev d S s n v0 v1 v2 v3
  generalize hW : ((w.alloc _).alloc _).alloc _ = W at hQ ⊢
  have HB0 : Hid (Below w.heap.size w W) := Lib.hid (by rw [← hW]; exact bA (bA (bA (Below.refl _ _) _) _) _)
  clear hW
  have HQ0 := Lib.hid hQ
  clear hQ
  obtain ⟨b0, b1, b2, b3, b4, b5, b6, b7, b8, b9, b10, b11, b12, b13⟩ := HQ0.out.box
  cases r4 with
  | false =>
    go_wp2_with (first
      | (go_at_call 4; (with_reducible refine (H4.out _ HB0.out).mono ?_); rintro e w1 ⟨rfl, hb1⟩; have HQ1 := Lib.hid (HQ0.out.below hb1); have HB1 : Hid (Below w.heap.size w w1) := Lib.hid (HB0.out.trans (hb1.mono HB0.out.size)); clear hb1 b0 b1 b2 b3 b4 b5 b6 b7 b8 b9 b10 b11 b12 b13; obtain ⟨b0, b1, b2, b3, b4, b5, b6, b7, b8, b9, b10, b11, b12, b13⟩ := HQ1.out.box))
    go_ret
    exact ⟨rfl, HB1.out⟩
  | true =>
  cases r5 with
  | false =>
    go_wp2_with (first
      | (go_at_call 4; (with_reducible refine (H4.out _ HB0.out).mono ?_); rintro e w1 ⟨rfl, hb1⟩; have HQ1 := Lib.hid (HQ0.out.below hb1); have HB1 : Hid (Below w.heap.size w w1) := Lib.hid (HB0.out.trans (hb1.mono HB0.out.size)); clear hb1 b0 b1 b2 b3 b4 b5 b6 b7 b8 b9 b10 b11 b12 b13; obtain ⟨b0, b1, b2, b3, b4, b5, b6, b7, b8, b9, b10, b11, b12, b13⟩ := HQ1.out.box)
      | (go_at_call 5; (with_reducible refine (H5.out _).mono ?_); rintro e w2 ⟨rfl, hb2⟩; have HQ2 := Lib.hid (HQ1.out.below hb2); have HB2 : Hid (Below w.heap.size w w2) := Lib.hid (HB1.out.trans (hb2.mono HB1.out.size)); clear hb2 b0 b1 b2 b3 b4 b5 b6 b7 b8 b9 b10 b11 b12 b13; obtain ⟨b0, b1, b2, b3, b4, b5, b6, b7, b8, b9, b10, b11, b12, b13⟩ := HQ2.out.box))
    go_ret
    exact ⟨rfl, HB2.out⟩
  | true =>
  cases r6 with
  | false =>
    go_wp2_with (first
      | (go_at_call 4; (with_reducible refine (H4.out _ HB0.out).mono ?_); rintro e w1 ⟨rfl, hb1⟩; have HQ1 := Lib.hid (HQ0.out.below hb1); have HB1 : Hid (Below w.heap.size w w1) := Lib.hid (HB0.out.trans (hb1.mono HB0.out.size)); clear hb1 b0 b1 b2 b3 b4 b5 b6 b7 b8 b9 b10 b11 b12 b13; obtain ⟨b0, b1, b2, b3, b4, b5, b6, b7, b8, b9, b10, b11, b12, b13⟩ := HQ1.out.box)
      | (go_at_call 5; (with_reducible refine (H5.out _).mono ?_); rintro e w2 ⟨rfl, hb2⟩; have HQ2 := Lib.hid (HQ1.out.below hb2); have HB2 : Hid (Below w.heap.size w w2) := Lib.hid (HB1.out.trans (hb2.mono HB1.out.size)); clear hb2 b0 b1 b2 b3 b4 b5 b6 b7 b8 b9 b10 b11 b12 b13; obtain ⟨b0, b1, b2, b3, b4, b5, b6, b7, b8, b9, b10, b11, b12, b13⟩ := HQ2.out.box)
      | (go_at_call 6; (with_reducible refine (H6.out _ HB2.out).mono ?_); rintro e w3 ⟨rfl, hb3⟩; have HQ3 := Lib.hid (HQ2.out.below hb3); have HB3 : Hid (Below w.heap.size w w3) := Lib.hid (HB2.out.trans (hb3.mono HB2.out.size)); clear hb3 b0 b1 b2 b3 b4 b5 b6 b7 b8 b9 b10 b11 b12 b13; obtain ⟨b0, b1, b2, b3, b4, b5, b6, b7, b8, b9, b10, b11, b12, b13⟩ := HQ3.out.box))
    go_ret
    exact ⟨rfl, HB3.out⟩
  | true =>
  obtain ⟨r7, hr7, h7⟩ := H7.out rfl
  have H7' := Lib.hid h7
  have HR7 := Lib.hid hr7
  clear h7 hr7
  cases r7 with
  | false =>
    go_wp2_with (first
      | (go_at_call 4; (with_reducible refine (H4.out _ HB0.out).mono ?_); rintro e w1 ⟨rfl, hb1⟩; have HQ1 := Lib.hid (HQ0.out.below hb1); have HB1 : Hid (Below w.heap.size w w1) := Lib.hid (HB0.out.trans (hb1.mono HB0.out.size)); clear hb1 b0 b1 b2 b3 b4 b5 b6 b7 b8 b9 b10 b11 b12 b13; obtain ⟨b0, b1, b2, b3, b4, b5, b6, b7, b8, b9, b10, b11, b12, b13⟩ := HQ1.out.box)
      | (go_at_call 5; (with_reducible refine (H5.out _).mono ?_); rintro e w2 ⟨rfl, hb2⟩; have HQ2 := Lib.hid (HQ1.out.below hb2); have HB2 : Hid (Below w.heap.size w w2) := Lib.hid (HB1.out.trans (hb2.mono HB1.out.size)); clear hb2 b0 b1 b2 b3 b4 b5 b6 b7 b8 b9 b10 b11 b12 b13; obtain ⟨b0, b1, b2, b3, b4, b5, b6, b7, b8, b9, b10, b11, b12, b13⟩ := HQ2.out.box)
      | (go_at_call 6; (with_reducible refine (H6.out _ HB2.out).mono ?_); rintro e w3 ⟨rfl, hb3⟩; have HQ3 := Lib.hid (HQ2.out.below hb3); have HB3 : Hid (Below w.heap.size w w3) := Lib.hid (HB2.out.trans (hb3.mono HB2.out.size)); clear hb3 b0 b1 b2 b3 b4 b5 b6 b7 b8 b9 b10 b11 b12 b13; obtain ⟨b0, b1, b2, b3, b4, b5, b6, b7, b8, b9, b10, b11, b12, b13⟩ := HQ3.out.box)
      | (go_at_call 7; (with_reducible refine (H7'.out _ HB3.out).mono ?_); rintro e w4 ⟨rfl, hb4⟩; have HQ4 := Lib.hid (HQ3.out.below hb4); have HB4 : Hid (Below w.heap.size w w4) := Lib.hid (HB3.out.trans (hb4.mono HB3.out.size)); clear hb4 b0 b1 b2 b3 b4 b5 b6 b7 b8 b9 b10 b11 b12 b13; obtain ⟨b0, b1, b2, b3, b4, b5, b6, b7, b8, b9, b10, b11, b12, b13⟩ := HQ4.out.box))
    go_ret
    exact ⟨rfl, HB4.out⟩
  | true =>
  by_cases hm0 : m < 0
  · go_wp2_with (first
      | (go_at_call 4; (with_reducible refine (H4.out _ HB0.out).mono ?_); rintro e w1 ⟨rfl, hb1⟩; have HQ1 := Lib.hid (HQ0.out.below hb1); have HB1 : Hid (Below w.heap.size w w1) := Lib.hid (HB0.out.trans (hb1.mono HB0.out.size)); clear hb1 b0 b1 b2 b3 b4 b5 b6 b7 b8 b9 b10 b11 b12 b13; obtain ⟨b0, b1, b2, b3, b4, b5, b6, b7, b8, b9, b10, b11, b12, b13⟩ := HQ1.out.box)
      | (go_at_call 5; (with_reducible refine (H5.out _).mono ?_); rintro e w2 ⟨rfl, hb2⟩; have HQ2 := Lib.hid (HQ1.out.below hb2); have HB2 : Hid (Below w.heap.size w w2) := Lib.hid (HB1.out.trans (hb2.mono HB1.out.size)); clear hb2 b0 b1 b2 b3 b4 b5 b6 b7 b8 b9 b10 b11 b12 b13; obtain ⟨b0, b1, b2, b3, b4, b5, b6, b7, b8, b9, b10, b11, b12, b13⟩ := HQ2.out.box)
      | (go_at_call 6; (with_reducible refine (H6.out _ HB2.out).mono ?_); rintro e w3 ⟨rfl, hb3⟩; have HQ3 := Lib.hid (HQ2.out.below hb3); have HB3 : Hid (Below w.heap.size w w3) := Lib.hid (HB2.out.trans (hb3.mono HB2.out.size)); clear hb3 b0 b1 b2 b3 b4 b5 b6 b7 b8 b9 b10 b11 b12 b13; obtain ⟨b0, b1, b2, b3, b4, b5, b6, b7, b8, b9, b10, b11, b12, b13⟩ := HQ3.out.box)
      | (go_at_call 7; (with_reducible refine (H7'.out _ HB3.out).mono ?_); rintro e w4 ⟨rfl, hb4⟩; have HQ4 := Lib.hid (HQ3.out.below hb4); have HB4 : Hid (Below w.heap.size w w4) := Lib.hid (HB3.out.trans (hb4.mono HB3.out.size)); clear hb4 b0 b1 b2 b3 b4 b5 b6 b7 b8 b9 b10 b11 b12 b13; obtain ⟨b0, b1, b2, b3, b4, b5, b6, b7, b8, b9, b10, b11, b12, b13⟩ := HQ4.out.box))
    go_ret
    exact ⟨rfl, HB4.out⟩
  by_cases hm1 : 64 < m
  · go_wp2_with (first
      | (go_at_call 4; (with_reducible refine (H4.out _ HB0.out).mono ?_); rintro e w1 ⟨rfl, hb1⟩; have HQ1 := Lib.hid (HQ0.out.below hb1); have HB1 : Hid (Below w.heap.size w w1) := Lib.hid (HB0.out.trans (hb1.mono HB0.out.size)); clear hb1 b0 b1 b2 b3 b4 b5 b6 b7 b8 b9 b10 b11 b12 b13; obtain ⟨b0, b1, b2, b3, b4, b5, b6, b7, b8, b9, b10, b11, b12, b13⟩ := HQ1.out.box)
      | (go_at_call 5; (with_reducible refine (H5.out _).mono ?_); rintro e w2 ⟨rfl, hb2⟩; have HQ2 := Lib.hid (HQ1.out.below hb2); have HB2 : Hid (Below w.heap.size w w2) := Lib.hid (HB1.out.trans (hb2.mono HB1.out.size)); clear hb2 b0 b1 b2 b3 b4 b5 b6 b7 b8 b9 b10 b11 b12 b13; obtain ⟨b0, b1, b2, b3, b4, b5, b6, b7, b8, b9, b10, b11, b12, b13⟩ := HQ2.out.box)
      | (go_at_call 6; (with_reducible refine (H6.out _ HB2.out).mono ?_); rintro e w3 ⟨rfl, hb3⟩; have HQ3 := Lib.hid (HQ2.out.below hb3); have HB3 : Hid (Below w.heap.size w w3) := Lib.hid (HB2.out.trans (hb3.mono HB2.out.size)); clear hb3 b0 b1 b2 b3 b4 b5 b6 b7 b8 b9 b10 b11 b12 b13; obtain ⟨b0, b1, b2, b3, b4, b5, b6, b7, b8, b9, b10, b11, b12, b13⟩ := HQ3.out.box)
      | (go_at_call 7; (with_reducible refine (H7'.out _ HB3.out).mono ?_); rintro e w4 ⟨rfl, hb4⟩; have HQ4 := Lib.hid (HQ3.out.below hb4); have HB4 : Hid (Below w.heap.size w w4) := Lib.hid (HB3.out.trans (hb4.mono HB3.out.size)); clear hb4 b0 b1 b2 b3 b4 b5 b6 b7 b8 b9 b10 b11 b12 b13; obtain ⟨b0, b1, b2, b3, b4, b5, b6, b7, b8, b9, b10, b11, b12, b13⟩ := HQ4.out.box))
    go_ret
    exact ⟨rfl, HB4.out⟩
  have hev : EvOk ev d ∨ (ev = true ∧ (d < 1000000000 ∨ (1000000000 ≤ d ∧ d % 1000000000 ≠ 0))) := by
    cases ev with
    | false => exact .inl fun h => by simp at h
    | true =>
      by_cases a : d < 1000000000
      · exact .inr ⟨rfl, .inl a⟩
      · by_cases b : d % 1000000000 = 0
        · exact .inl fun _ => ⟨by omega, hd1, b⟩
        · exact .inr ⟨rfl, .inr ⟨by omega, b⟩⟩
  rcases hev with hev | ⟨rfl, hdd⟩
  case inr =>
    rcases hdd with hdl | ⟨hdl, hdm⟩
    · go_wp2_with (first
        | (go_at_call 4; (with_reducible refine (H4.out _ HB0.out).mono ?_); rintro e w1 ⟨rfl, hb1⟩; have HQ1 := Lib.hid (HQ0.out.below hb1); have HB1 : Hid (Below w.heap.size w w1) := Lib.hid (HB0.out.trans (hb1.mono HB0.out.size)); clear hb1 b0 b1 b2 b3 b4 b5 b6 b7 b8 b9 b10 b11 b12 b13; obtain ⟨b0, b1, b2, b3, b4, b5, b6, b7, b8, b9, b10, b11, b12, b13⟩ := HQ1.out.box)
        | (go_at_call 5; (with_reducible refine (H5.out _).mono ?_); rintro e w2 ⟨rfl, hb2⟩; have HQ2 := Lib.hid (HQ1.out.below hb2); have HB2 : Hid (Below w.heap.size w w2) := Lib.hid (HB1.out.trans (hb2.mono HB1.out.size)); clear hb2 b0 b1 b2 b3 b4 b5 b6 b7 b8 b9 b10 b11 b12 b13; obtain ⟨b0, b1, b2, b3, b4, b5, b6, b7, b8, b9, b10, b11, b12, b13⟩ := HQ2.out.box)
        | (go_at_call 6; (with_reducible refine (H6.out _ HB2.out).mono ?_); rintro e w3 ⟨rfl, hb3⟩; have HQ3 := Lib.hid (HQ2.out.below hb3); have HB3 : Hid (Below w.heap.size w w3) := Lib.hid (HB2.out.trans (hb3.mono HB2.out.size)); clear hb3 b0 b1 b2 b3 b4 b5 b6 b7 b8 b9 b10 b11 b12 b13; obtain ⟨b0, b1, b2, b3, b4, b5, b6, b7, b8, b9, b10, b11, b12, b13⟩ := HQ3.out.box)
        | (go_at_call 7; (with_reducible refine (H7'.out _ HB3.out).mono ?_); rintro e w4 ⟨rfl, hb4⟩; have HQ4 := Lib.hid (HQ3.out.below hb4); have HB4 : Hid (Below w.heap.size w w4) := Lib.hid (HB3.out.trans (hb4.mono HB3.out.size)); clear hb4 b0 b1 b2 b3 b4 b5 b6 b7 b8 b9 b10 b11 b12 b13; obtain ⟨b0, b1, b2, b3, b4, b5, b6, b7, b8, b9, b10, b11, b12, b13⟩ := HQ4.out.box))
      go_ret
      exact ⟨rfl, HB4.out⟩
    · have hdq : (d % 1000000000 != 0) = true := by simpa using hdm
      clear hdm
      go_wp2_with (first
        | (go_at_call 4; (with_reducible refine (H4.out _ HB0.out).mono ?_); rintro e w1 ⟨rfl, hb1⟩; have HQ1 := Lib.hid (HQ0.out.below hb1); have HB1 : Hid (Below w.heap.size w w1) := Lib.hid (HB0.out.trans (hb1.mono HB0.out.size)); clear hb1 b0 b1 b2 b3 b4 b5 b6 b7 b8 b9 b10 b11 b12 b13; obtain ⟨b0, b1, b2, b3, b4, b5, b6, b7, b8, b9, b10, b11, b12, b13⟩ := HQ1.out.box)
        | (go_at_call 5; (with_reducible refine (H5.out _).mono ?_); rintro e w2 ⟨rfl, hb2⟩; have HQ2 := Lib.hid (HQ1.out.below hb2); have HB2 : Hid (Below w.heap.size w w2) := Lib.hid (HB1.out.trans (hb2.mono HB1.out.size)); clear hb2 b0 b1 b2 b3 b4 b5 b6 b7 b8 b9 b10 b11 b12 b13; obtain ⟨b0, b1, b2, b3, b4, b5, b6, b7, b8, b9, b10, b11, b12, b13⟩ := HQ2.out.box)
        | (go_at_call 6; (with_reducible refine (H6.out _ HB2.out).mono ?_); rintro e w3 ⟨rfl, hb3⟩; have HQ3 := Lib.hid (HQ2.out.below hb3); have HB3 : Hid (Below w.heap.size w w3) := Lib.hid (HB2.out.trans (hb3.mono HB2.out.size)); clear hb3 b0 b1 b2 b3 b4 b5 b6 b7 b8 b9 b10 b11 b12 b13; obtain ⟨b0, b1, b2, b3, b4, b5, b6, b7, b8, b9, b10, b11, b12, b13⟩ := HQ3.out.box)
        | (go_at_call 7; (with_reducible refine (H7'.out _ HB3.out).mono ?_); rintro e w4 ⟨rfl, hb4⟩; have HQ4 := Lib.hid (HQ3.out.below hb4); have HB4 : Hid (Below w.heap.size w w4) := Lib.hid (HB3.out.trans (hb4.mono HB3.out.size)); clear hb4 b0 b1 b2 b3 b4 b5 b6 b7 b8 b9 b10 b11 b12 b13; obtain ⟨b0, b1, b2, b3, b4, b5, b6, b7, b8, b9, b10, b11, b12, b13⟩ := HQ4.out.box))
      go_ret
      exact ⟨rfl, HB4.out⟩
  obtain ⟨H8, H9, H10, HO⟩ := HIn.out rfl rfl (HR7.out rfl) hev ⟨by omega, by omega⟩
  have H8' := Lib.hid H8
  have H9' := Lib.hid H9
  have H10' := Lib.hid H10
  have HO' := Lib.hid HO
  have HEv := Lib.hid hev
  have H5g := HR5.out rfl
  clear H8 H9 H10 HO H7 HIn HR5 HR7
  obtain ⟨mm, rfl⟩ : ∃ mm : Nat, m = mm := ⟨m.toNat, by omega⟩
  rw [show ((mm : Int)).toNat = mm by omega] at H8'
  obtain ⟨L, hL⟩ : ∃ L, many ev d S z mm (s + 62135596800) = L := ⟨_, rfl⟩
  rw [hL] at H8'
  have HL := Lib.hid hL
  clear hL
  cases ev with
  | true =>
    obtain ⟨e0, e1, e2⟩ := HEv.out rfl
    have hdq : (d % 1000000000 != 0) = false := by simp [e2]
    clear e1 e2
    go_upto_region 6 with (first
        | (go_at_call 4; (with_reducible refine (H4.out _ HB0.out).mono ?_); rintro e w1 ⟨rfl, hb1⟩; have HQ1 := Lib.hid (HQ0.out.below hb1); have HB1 : Hid (Below w.heap.size w w1) := Lib.hid (HB0.out.trans (hb1.mono HB0.out.size)); clear hb1 b0 b1 b2 b3 b4 b5 b6 b7 b8 b9 b10 b11 b12 b13; obtain ⟨b0, b1, b2, b3, b4, b5, b6, b7, b8, b9, b10, b11, b12, b13⟩ := HQ1.out.box)
        | (go_at_call 5; (with_reducible refine (H5.out _).mono ?_); rintro e w2 ⟨rfl, hb2⟩; have HQ2 := Lib.hid (HQ1.out.below hb2); have HB2 : Hid (Below w.heap.size w w2) := Lib.hid (HB1.out.trans (hb2.mono HB1.out.size)); clear hb2 b0 b1 b2 b3 b4 b5 b6 b7 b8 b9 b10 b11 b12 b13; obtain ⟨b0, b1, b2, b3, b4, b5, b6, b7, b8, b9, b10, b11, b12, b13⟩ := HQ2.out.box)
        | (go_at_call 6; (with_reducible refine (H6.out _ HB2.out).mono ?_); rintro e w3 ⟨rfl, hb3⟩; have HQ3 := Lib.hid (HQ2.out.below hb3); have HB3 : Hid (Below w.heap.size w w3) := Lib.hid (HB2.out.trans (hb3.mono HB2.out.size)); clear hb3 b0 b1 b2 b3 b4 b5 b6 b7 b8 b9 b10 b11 b12 b13; obtain ⟨b0, b1, b2, b3, b4, b5, b6, b7, b8, b9, b10, b11, b12, b13⟩ := HQ3.out.box)
        | (go_at_call 7; (with_reducible refine (H7'.out _ HB3.out).mono ?_); rintro e w4 ⟨rfl, hb4⟩; have HQ4 := Lib.hid (HQ3.out.below hb4); have HB4 : Hid (Below w.heap.size w w4) := Lib.hid (HB3.out.trans (hb4.mono HB3.out.size)); clear hb4 b0 b1 b2 b3 b4 b5 b6 b7 b8 b9 b10 b11 b12 b13; obtain ⟨b0, b1, b2, b3, b4, b5, b6, b7, b8, b9, b10, b11, b12, b13⟩ := HQ4.out.box)
        | (go_at_call 8; (with_reducible refine (H8'.out _ HB4.out).mono ?_); rintro e w5 ⟨v9, rfl, ho5, hb5⟩; have HO5 := Lib.hid ho5; have HZ5 := Lib.hid hb5.size; clear ho5; have HQ5 := Lib.hid (HQ4.out.below hb5); have HB5 : Hid (Below w.heap.size w w5) := Lib.hid (HB4.out.trans (hb5.mono HB4.out.size)); clear hb5 b0 b1 b2 b3 b4 b5 b6 b7 b8 b9 b10 b11 b12 b13; obtain ⟨b0, b1, b2, b3, b4, b5, b6, b7, b8, b9, b10, b11, b12, b13⟩ := HQ5.out.box))
    obtain ⟨A9, c9, rfl⟩ := own_form HO5.out
    have hll := many_len (ev := true) (d := d) (S := S) (z := z) mm (s + 62135596800)
    rw [HL.out] at hll
    have HLL := Lib.hid hll
    have hs4 : w.heap.size + 3 ≤ w4.heap.size := by have := block_lt_row HQ4.out.2.2; omega
    have hmm : mm ≤ 64 := by omega
    have heq26 := eq26
    clear hll b0 b1 b2 b3 b4 b5 b6 b7 b8 b9 b10 b11 b12 b13
    go_wp2_with fail
    go_loopw [62] (fun v62 wr => ∃ (i : Nat) (xc nc : Int), v62 = .int .i64 i ∧ Aside0 (i ≤ L.length) ∧ Aside0 (L.drop i = many true d S z (mm - i) xc) ∧ Aside0 (Nan nc) ∧ Aside0 (0 ≤ xc ∧ xc ≤ s + 62135596800 + 9223372037 * i) ∧ Aside0 (xc ≤ s + 62135596800 + 9223372037 * i) ∧ Aside0 (R9 wr w.heap.size true d S (xc - 62135596800) nc v0 v1 v2 v3) ∧ Aside0 (wr.ownsRow w4.heap.size 26 2 (.slice A9 L.length c9) L.length (irow L)) ∧ Aside0 (Below w.heap.size w wr)) (fun v62 _ => L.length - (intOf v62).toNat)
    case atStart =>
      exact ⟨0, s + 62135596800, n, by go_num, ⟨by omega⟩, ⟨by rw [List.drop_zero]; exact HL.out.symm⟩, ⟨⟨H5g.2.2.1, H5g.2.2.2⟩⟩, ⟨by omega⟩, ⟨by omega⟩, ⟨by rw [show s + 62135596800 - 62135596800 = s by omega]; exact HQ5.out⟩, ⟨HO5.out⟩, ⟨HB5.out⟩⟩
    case round =>
      obtain ⟨i, xc, nc, rfl, HI, HD, HNn, HX, HXf, HQr, HOw, HBr⟩ := hrel
      obtain ⟨b0, b1, b2, b3, b4, b5, b6, b7, b8, b9, b10, b11, b12, b13⟩ := HQr.out.box
      have hLm : L.length ≤ 64 := by have := HLL.out; omega
      have hs0 : w.heap.size + 1 + 1 < wr.heap.size := block_lt_row HQr.out.2.2
      have hs1 : w.heap.size + 1 < wr.heap.size := by omega
      have hs2 : w.heap.size < wr.heap.size := by omega
      by_cases hi : i < L.length
      · have hD := HD.out
        rw [drop_getD L i hi] at hD
        obtain ⟨y, hy⟩ : ∃ y, L.getD i 0 = y := ⟨_, rfl⟩
        rw [hy] at hD
        obtain ⟨hnx, k', hk', hdr⟩ := many_step hD
        have hbd := nxt_bd HO'.out HEv.out hnx
        obtain ⟨g, cap, he, hcell⟩ := own_cells HOw.out (by omega)
        injection he with he1 he2 he3
        subst he1
        obtain ⟨q0, q1⟩ := irow_at L i hi
        rw [hy] at q0
        have ce0 := hcell _ _ q0
        have ce1 := hcell _ _ q1
        have HDR := Lib.hid hdr
        have HK := Lib.hid hk'
        have HBd := Lib.hid hbd
        have HC9 : Hid (∀ W, Below w.heap.size w W → Calls Try.prog 9 #[schedV true d S, .agg #[.int .i64 (xc - 62135596800), .int .i64 nc], .agg #[v0, v1, v2, v3]] W fun e w' => e = .returned (.tuple #[.agg #[.int .i64 (y - 62135596800), .int .i64 0], .bool true]) ∧ Below W.heap.size W w') := Lib.hid fun W hW => by
          have h9 := H9'.out W hW (xc - 62135596800) nc HNn.out (by have := HX.out; omega) (by have := HX.out; have := HI.out; omega) (fun h => by simp at h)
          rw [show xc - 62135596800 + 62135596800 = xc by omega, hnx] at h9
          exact h9
        have HR3 : Hid (wr.heap.size + 0 = wr.heap.size) := Lib.hid rfl
        have hlt : decide ((i : Int) < (L.length : Int)) = true := by simp; omega
        clear hD hy hnx hk' hdr hbd hcell q0 q1 he2 he3
        go_wp2_with (go_at_call 9; (with_reducible refine (HC9.out _ (bA HBr.out _)).mono ?_); rintro e w6 ⟨rfl, hb6⟩; have HB6 := Lib.hid hb6; have HQ6 := Lib.hid ((HQr.out.below (bA (Below.refl _ _) _)).below hb6); have p0 : w6.cell? ⟨wr.heap.size, 0, none⟩ = some (.int .i64 (y - 62135596800)) := (by rw [hb6.cell (by simp)]; simp [go_sem]); have p1 : w6.cell? ⟨wr.heap.size, 1, none⟩ = some (.int .i64 0) := (by rw [hb6.cell (by simp)]; simp [go_sem]); have hs3 := block_lt_row HQ6.out.2.2; have hs4' : w.heap.size + 1 < w6.heap.size := (by omega); have hs5 : w.heap.size < w6.heap.size := (by omega); have hs6 : wr.heap.size < w6.heap.size := (by have := hb6.size; simp at this; omega); have g0 := frozen_of_row _ _ 0 _ _ HQ6.out.2.1; have g1 := frozen_of_row _ _ 1 _ _ HQ6.out.2.1; clear hb6 ce0 ce1 b0 b1 b2 b3 b4 b5 b6 b7 b8 b9 b10 b11 b12 b13; obtain ⟨b0, b1, b2, b3, b4, b5, b6, b7, b8, b9, b10, b11, b12, b13⟩ := HQ6.out.box)
        go_roundw
        case measure => simp [intOf]; omega
        case rel =>
          have k1 : Below wr.heap.size wr (wr.alloc (Obj.cells #[.int .i64 (y - 62135596800), .int .i64 0] 26)) := bA (Below.refl _ _) _
          have k2 := own_call (own_call HOw.out k1) HB6.out
          have k3 : Below w.heap.size w w6 := (bA HBr.out _).trans (HB6.out.mono (by simp; omega))
          refine ⟨i + 1, y, 0, by go_num, ⟨by omega⟩, ⟨?_⟩, ⟨⟨by decide, by decide⟩⟩, ⟨by have := HX.out; have := HBd.out; omega⟩, ⟨?_⟩, ⟨(HQ6.out.setT).below (bA (Below.refl _ _) _)⟩, ⟨(own_set (own_set k2 (by omega)) (by omega)).alloc _⟩, ⟨bA ((k3.setCell (by simp) _).setCell (by simp) _) _⟩⟩
          · rw [HDR.out, show mm - (i + 1) = k' by have := HK.out; omega]
          · have := HXf.out
            have := HBd.out
            first | omega | (have := this.2.2 trivial; omega) | (have := this.2.2 rfl; omega)
      · obtain rfl : i = L.length := by have := HI.out; omega
        have hge : decide ((L.length : Int) < (L.length : Int)) = false := by simp
        have hDe := HD.out
        rw [List.drop_length] at hDe
        have hle : decide ((L.length : Int) ≤ (mm : Int)) = true := by have := HLL.out; simp; omega
        have hle' : L.length ≤ mm := HLL.out
        by_cases hlm : L.length < mm
        · have hno := many_end hDe (by omega)
          simp [nxt] at hno
        · have hlmt : decide ((L.length : Int) < (mm : Int)) = false := by simp; omega
          clear hDe
          go_wp2_with fail
          go_ret
          exact ⟨rfl, HBr.out⟩
  | false =>
    go_upto_region 6 with (first
        | (go_at_call 4; (with_reducible refine (H4.out _ HB0.out).mono ?_); rintro e w1 ⟨rfl, hb1⟩; have HQ1 := Lib.hid (HQ0.out.below hb1); have HB1 : Hid (Below w.heap.size w w1) := Lib.hid (HB0.out.trans (hb1.mono HB0.out.size)); clear hb1 b0 b1 b2 b3 b4 b5 b6 b7 b8 b9 b10 b11 b12 b13; obtain ⟨b0, b1, b2, b3, b4, b5, b6, b7, b8, b9, b10, b11, b12, b13⟩ := HQ1.out.box)
        | (go_at_call 5; (with_reducible refine (H5.out _).mono ?_); rintro e w2 ⟨rfl, hb2⟩; have HQ2 := Lib.hid (HQ1.out.below hb2); have HB2 : Hid (Below w.heap.size w w2) := Lib.hid (HB1.out.trans (hb2.mono HB1.out.size)); clear hb2 b0 b1 b2 b3 b4 b5 b6 b7 b8 b9 b10 b11 b12 b13; obtain ⟨b0, b1, b2, b3, b4, b5, b6, b7, b8, b9, b10, b11, b12, b13⟩ := HQ2.out.box)
        | (go_at_call 6; (with_reducible refine (H6.out _ HB2.out).mono ?_); rintro e w3 ⟨rfl, hb3⟩; have HQ3 := Lib.hid (HQ2.out.below hb3); have HB3 : Hid (Below w.heap.size w w3) := Lib.hid (HB2.out.trans (hb3.mono HB2.out.size)); clear hb3 b0 b1 b2 b3 b4 b5 b6 b7 b8 b9 b10 b11 b12 b13; obtain ⟨b0, b1, b2, b3, b4, b5, b6, b7, b8, b9, b10, b11, b12, b13⟩ := HQ3.out.box)
        | (go_at_call 7; (with_reducible refine (H7'.out _ HB3.out).mono ?_); rintro e w4 ⟨rfl, hb4⟩; have HQ4 := Lib.hid (HQ3.out.below hb4); have HB4 : Hid (Below w.heap.size w w4) := Lib.hid (HB3.out.trans (hb4.mono HB3.out.size)); clear hb4 b0 b1 b2 b3 b4 b5 b6 b7 b8 b9 b10 b11 b12 b13; obtain ⟨b0, b1, b2, b3, b4, b5, b6, b7, b8, b9, b10, b11, b12, b13⟩ := HQ4.out.box)
        | (go_at_call 8; (with_reducible refine (H8'.out _ HB4.out).mono ?_); rintro e w5 ⟨v9, rfl, ho5, hb5⟩; have HO5 := Lib.hid ho5; have HZ5 := Lib.hid hb5.size; clear ho5; have HQ5 := Lib.hid (HQ4.out.below hb5); have HB5 : Hid (Below w.heap.size w w5) := Lib.hid (HB4.out.trans (hb5.mono HB4.out.size)); clear hb5 b0 b1 b2 b3 b4 b5 b6 b7 b8 b9 b10 b11 b12 b13; obtain ⟨b0, b1, b2, b3, b4, b5, b6, b7, b8, b9, b10, b11, b12, b13⟩ := HQ5.out.box))
    obtain ⟨A9, c9, rfl⟩ := own_form HO5.out
    have hll := many_len (ev := false) (d := d) (S := S) (z := z) mm (s + 62135596800)
    rw [HL.out] at hll
    have HLL := Lib.hid hll
    have hs4 : w.heap.size + 3 ≤ w4.heap.size := by have := block_lt_row HQ4.out.2.2; omega
    have hmm : mm ≤ 64 := by omega
    have heq26 := eq26
    clear hll b0 b1 b2 b3 b4 b5 b6 b7 b8 b9 b10 b11 b12 b13
    go_wp2_with fail
    go_loopw [62] (fun v62 wr => ∃ (i : Nat) (xc nc : Int), v62 = .int .i64 i ∧ Aside0 (i ≤ L.length) ∧ Aside0 (L.drop i = many false d S z (mm - i) xc) ∧ Aside0 (Nan nc) ∧ Aside0 (0 ≤ xc ∧ xc ≤ s + 62135596800 + 9223372037 * i) ∧ Aside0 (xc ≤ s + 62135596800 + 200000000 * i) ∧ Aside0 (R9 wr w.heap.size false d S (xc - 62135596800) nc v0 v1 v2 v3) ∧ Aside0 (wr.ownsRow w4.heap.size 26 2 (.slice A9 L.length c9) L.length (irow L)) ∧ Aside0 (Below w.heap.size w wr)) (fun v62 _ => L.length - (intOf v62).toNat)
    case atStart =>
      exact ⟨0, s + 62135596800, n, by go_num, ⟨by omega⟩, ⟨by rw [List.drop_zero]; exact HL.out.symm⟩, ⟨⟨H5g.2.2.1, H5g.2.2.2⟩⟩, ⟨by omega⟩, ⟨by omega⟩, ⟨by rw [show s + 62135596800 - 62135596800 = s by omega]; exact HQ5.out⟩, ⟨HO5.out⟩, ⟨HB5.out⟩⟩
    case round =>
      obtain ⟨i, xc, nc, rfl, HI, HD, HNn, HX, HXf, HQr, HOw, HBr⟩ := hrel
      obtain ⟨b0, b1, b2, b3, b4, b5, b6, b7, b8, b9, b10, b11, b12, b13⟩ := HQr.out.box
      have hLm : L.length ≤ 64 := by have := HLL.out; omega
      have hs0 : w.heap.size + 1 + 1 < wr.heap.size := block_lt_row HQr.out.2.2
      have hs1 : w.heap.size + 1 < wr.heap.size := by omega
      have hs2 : w.heap.size < wr.heap.size := by omega
      by_cases hi : i < L.length
      · have hD := HD.out
        rw [drop_getD L i hi] at hD
        obtain ⟨y, hy⟩ : ∃ y, L.getD i 0 = y := ⟨_, rfl⟩
        rw [hy] at hD
        obtain ⟨hnx, k', hk', hdr⟩ := many_step hD
        have hbd := nxt_bd HO'.out HEv.out hnx
        obtain ⟨g, cap, he, hcell⟩ := own_cells HOw.out (by omega)
        injection he with he1 he2 he3
        subst he1
        obtain ⟨q0, q1⟩ := irow_at L i hi
        rw [hy] at q0
        have ce0 := hcell _ _ q0
        have ce1 := hcell _ _ q1
        have HDR := Lib.hid hdr
        have HK := Lib.hid hk'
        have HBd := Lib.hid hbd
        have HC9 : Hid (∀ W, Below w.heap.size w W → Calls Try.prog 9 #[schedV false d S, .agg #[.int .i64 (xc - 62135596800), .int .i64 nc], .agg #[v0, v1, v2, v3]] W fun e w' => e = .returned (.tuple #[.agg #[.int .i64 (y - 62135596800), .int .i64 0], .bool true]) ∧ Below W.heap.size W w') := Lib.hid fun W hW => by
          have h9 := H9'.out W hW (xc - 62135596800) nc HNn.out (by have := HX.out; omega) (by have := HX.out; have := HI.out; omega) (fun _ => by have := HXf.out; omega)
          rw [show xc - 62135596800 + 62135596800 = xc by omega, hnx] at h9
          exact h9
        have HR3 : Hid (wr.heap.size + 0 = wr.heap.size) := Lib.hid rfl
        have hlt : decide ((i : Int) < (L.length : Int)) = true := by simp; omega
        clear hD hy hnx hk' hdr hbd hcell q0 q1 he2 he3
        go_wp2_with (go_at_call 9; (with_reducible refine (HC9.out _ (bA HBr.out _)).mono ?_); rintro e w6 ⟨rfl, hb6⟩; have HB6 := Lib.hid hb6; have HQ6 := Lib.hid ((HQr.out.below (bA (Below.refl _ _) _)).below hb6); have p0 : w6.cell? ⟨wr.heap.size, 0, none⟩ = some (.int .i64 (y - 62135596800)) := (by rw [hb6.cell (by simp)]; simp [go_sem]); have p1 : w6.cell? ⟨wr.heap.size, 1, none⟩ = some (.int .i64 0) := (by rw [hb6.cell (by simp)]; simp [go_sem]); have hs3 := block_lt_row HQ6.out.2.2; have hs4' : w.heap.size + 1 < w6.heap.size := (by omega); have hs5 : w.heap.size < w6.heap.size := (by omega); have hs6 : wr.heap.size < w6.heap.size := (by have := hb6.size; simp at this; omega); have g0 := frozen_of_row _ _ 0 _ _ HQ6.out.2.1; have g1 := frozen_of_row _ _ 1 _ _ HQ6.out.2.1; clear hb6 ce0 ce1 b0 b1 b2 b3 b4 b5 b6 b7 b8 b9 b10 b11 b12 b13; obtain ⟨b0, b1, b2, b3, b4, b5, b6, b7, b8, b9, b10, b11, b12, b13⟩ := HQ6.out.box)
        go_roundw
        case measure => simp [intOf]; omega
        case rel =>
          have k1 : Below wr.heap.size wr (wr.alloc (Obj.cells #[.int .i64 (y - 62135596800), .int .i64 0] 26)) := bA (Below.refl _ _) _
          have k2 := own_call (own_call HOw.out k1) HB6.out
          have k3 : Below w.heap.size w w6 := (bA HBr.out _).trans (HB6.out.mono (by simp; omega))
          refine ⟨i + 1, y, 0, by go_num, ⟨by omega⟩, ⟨?_⟩, ⟨⟨by decide, by decide⟩⟩, ⟨by have := HX.out; have := HBd.out; omega⟩, ⟨?_⟩, ⟨(HQ6.out.setT).below (bA (Below.refl _ _) _)⟩, ⟨(own_set (own_set k2 (by omega)) (by omega)).alloc _⟩, ⟨bA ((k3.setCell (by simp) _).setCell (by simp) _) _⟩⟩
          · rw [HDR.out, show mm - (i + 1) = k' by have := HK.out; omega]
          · have := HXf.out
            have := HBd.out
            first | omega | (have := this.2.2 trivial; omega) | (have := this.2.2 rfl; omega)
      · obtain rfl : i = L.length := by have := HI.out; omega
        have hge : decide ((L.length : Int) < (L.length : Int)) = false := by simp
        have hDe := HD.out
        rw [List.drop_length] at hDe
        have hle : decide ((L.length : Int) ≤ (mm : Int)) = true := by have := HLL.out; simp; omega
        have hle' : L.length ≤ mm := HLL.out
        by_cases hlm : L.length < mm
        · have hno := many_end hDe (by omega)
          have hnn : nextOf S z xc = none := by simpa [nxt] using hno
          have hlmt : decide ((L.length : Int) < (mm : Int)) = true := by simp; omega
          obtain ⟨q5, hq5, hg5⟩ := tGoodI (xc - 62135596800) nc
          have HNone := Lib.hid hnn
          have HG5 := Lib.hid hg5
          have HQ5b := Lib.hid hq5
          clear hg5 hq5 hnn hno hDe
          cases q5 with
          | false =>
            go_wp2_with (go_at_call 5; (with_reducible refine (HG5.out _).mono ?_); rintro e w7 ⟨rfl, hb7⟩; have HB7 := Lib.hid (HBr.out.trans (hb7.mono HBr.out.size)); clear hb7)
            go_ret
            exact ⟨rfl, HB7.out⟩
          | true =>
            have hgb := HQ5b.out rfl
            have HC9 : Hid (∀ W, Below w.heap.size w W → Calls Try.prog 9 #[schedV false d S, .agg #[.int .i64 (xc - 62135596800), .int .i64 nc], .agg #[v0, v1, v2, v3]] W fun e w' => e = .returned (.tuple #[.agg #[.int .i64 0, .int .i64 0], .bool false]) ∧ Below W.heap.size W w') := Lib.hid fun W hW => by
              have h9 := H9'.out W hW (xc - 62135596800) nc HNn.out (by omega) (by omega) (fun _ => by omega)
              rw [show xc - 62135596800 + 62135596800 = xc by omega] at h9
              have e9 : nxt false d S z xc = none := by simp [nxt, HNone.out]
              rw [e9] at h9
              exact h9
            have HC10 : Hid (∀ W, Below w.heap.size w W → Calls Try.prog 10 #[schedV false d S, .agg #[.int .i64 (xc - 62135596800), .int .i64 nc], .agg #[v0, v1, v2, v3]] W fun e w' => e = .returned (.bool true) ∧ Below W.heap.size W w') := Lib.hid fun W hW => by
              exact H10'.out W hW (xc - 62135596800) nc (by omega) (by omega) (by rw [show xc - 62135596800 + 62135596800 = xc by omega]; exact HNone.out)
            clear hgb
            go_wp2_with (first
              | (go_at_call 5; (with_reducible refine (HG5.out _).mono ?_); rintro e w7 ⟨rfl, hb7⟩; have HB7 := Lib.hid (HBr.out.trans (hb7.mono HBr.out.size)); have HQ7 := Lib.hid (HQr.out.below hb7); clear hb7 b0 b1 b2 b3 b4 b5 b6 b7 b8 b9 b10 b11 b12 b13; obtain ⟨b0, b1, b2, b3, b4, b5, b6, b7, b8, b9, b10, b11, b12, b13⟩ := HQ7.out.box)
              | (go_at_call 9; (with_reducible refine (HC9.out _ HB7.out).mono ?_); rintro e w8 ⟨rfl, hb8⟩; have HB8 := Lib.hid (HB7.out.trans (hb8.mono HB7.out.size)); have HQ8 := Lib.hid (HQ7.out.below hb8); have ht0 := block_lt_row HQ8.out.1; have ht1 := block_lt_row HQ8.out.2.1; have ht2 := block_lt_row HQ8.out.2.2; clear hb8 b0 b1 b2 b3 b4 b5 b6 b7 b8 b9 b10 b11 b12 b13; obtain ⟨b0, b1, b2, b3, b4, b5, b6, b7, b8, b9, b10, b11, b12, b13⟩ := HQ8.out.box)
              | (go_at_call 10; (with_reducible refine (HC10.out _ (bA HB8.out _)).mono ?_); rintro e w9 ⟨rfl, hb9⟩; have HB9 := Lib.hid ((bA HB8.out _).trans (hb9.mono (bA HB8.out _).size)); clear hb9))
            go_ret
            exact ⟨rfl, HB9.out⟩
        · have hlmt : decide ((L.length : Int) < (mm : Int)) = false := by simp; omega
          clear hDe
          go_wp2_with fail
          go_ret
          exact ⟨rfl, HBr.out⟩
end Go.Proofs.Ytjmgebhjkbcpcaa.NM
set_option linter.unusedVariables false
set_option linter.unusedSimpArgs false
namespace Go.Proofs.Ytjmgebhjkbcpcaa.NM
open Go.ChangeShapes Go.WideShapes Go.ChangeAt Go.RowKit Go.Joins Go.Deep
open Go.Proofs.YtjmgebhjkbcpcaaW.PrintWords
section
variable {H : Type} {enc : TypeId × Value → H} {P : Program} {w : World} {base : Nat} {held : Bool}
theorem open_agg8 {spare : Nat → Bool} {r : Reach} {b0 : Nat} {t : TypeId} {f0 f1 f2 f3 f4 f5 f6 f7 : Field} {v : Value} {d : DataW H} {p : List MemPlace} (hs : P.underlying t = some (.struct #[f0, f1, f2, f3, f4, f5, f6, f7])) (hone : oneCellFields P #[f0, f1, f2, f3, f4, f5, f6, f7] = true) (hC : P.cellsOf t = 8)
    (hv : Value.okWide P w r b0 t v) (h : DataW.Trod enc P w base spare held t v d p) :
    ∃ (v0 v1 v2 v3 v4 v5 v6 v7 : Value) (y0 y1 y2 y3 y4 y5 y6 y7 : DataW H × List MemPlace) (n : Nat), v = .agg #[v0, v1, v2, v3, v4, v5, v6, v7] ∧
      DataW.trod enc P w base spare held n f0.type [v0] = some y0 ∧ DataW.trod enc P w base spare held n f1.type [v1] = some y1 ∧ DataW.trod enc P w base spare held n f2.type [v2] = some y2 ∧ DataW.trod enc P w base spare held n f3.type [v3] = some y3 ∧
      DataW.trod enc P w base spare held n f4.type [v4] = some y4 ∧ DataW.trod enc P w base spare held n f5.type [v5] = some y5 ∧ DataW.trod enc P w base spare held n f6.type [v6] = some y6 ∧ DataW.trod enc P w base spare held n f7.type [v7] = some y7 := by
  obtain ⟨cs, rfl, hsz⟩ := okWide_struct hs hv
  obtain ⟨l⟩ := cs
  match l, hsz.trans hC with
  | [c0, c1, c2, c3, c4, c5, c6, c7], _ =>
    obtain ⟨fuel, hf⟩ := h
    obtain ⟨xs, n, _, hx, _, hlen, hg⟩ := DataW.trod_struct hs hf
    obtain ⟨o0, k0⟩ := hone_of hone 0 f0 rfl
    obtain ⟨o1, k1⟩ := hone_of hone 1 f1 rfl
    obtain ⟨o2, k2⟩ := hone_of hone 2 f2 rfl
    obtain ⟨o3, k3⟩ := hone_of hone 3 f3 rfl
    obtain ⟨o4, k4⟩ := hone_of hone 4 f4 rfl
    obtain ⟨o5, k5⟩ := hone_of hone 5 f5 rfl
    obtain ⟨o6, k6⟩ := hone_of hone 6 f6 rfl
    obtain ⟨o7, k7⟩ := hone_of hone 7 f7 rfl
    match xs, hlen with
    | [y0, y1, y2, y3, y4, y5, y6, y7], _ =>
      exact ⟨c0, c1, c2, c3, c4, c5, c6, c7, y0, y1, y2, y3, y4, y5, y6, y7, n, rfl, by simpa [Value.cells, o0, k0] using hg 0 f0 rfl, by simpa [Value.cells, o1, k1] using hg 1 f1 rfl, by simpa [Value.cells, o2, k2] using hg 2 f2 rfl, by simpa [Value.cells, o3, k3] using hg 3 f3 rfl, by simpa [Value.cells, o4, k4] using hg 4 f4 rfl, by simpa [Value.cells, o5, k5] using hg 5 f5 rfl, by simpa [Value.cells, o6, k6] using hg 6 f6 rfl, by simpa [Value.cells, o7, k7] using hg 7 f7 rfl⟩
theorem openI {t e : TypeId} {fuel : Nat} {v : Value} {x : DataW H × List MemPlace} (ht : P.underlying t = some (.slice e)) (he : P.underlying e = some (.int .i64)) (hc : P.cellsOf e = 1)
    (h : DataW.trod enc P w base (fun _ => true) held fuel t [v] = some x) : ∃ (A : Option Addr) (l : List Int) (c : Nat), v = .slice A l.length c ∧ l.length ≤ c ∧ Kd.C (Kd.int .i64) w A l.length l := by
  rcases open_ints ht he hc h with ⟨hcs, _⟩ | ⟨a, len, cap, zs, hcs, _, hl, hm, hz, _, hcell, hwz⟩
  · injection hcs with hcs _
    subst hcs
    refine ⟨none, [], 0, rfl, Nat.le_refl _, ?_⟩
    exact Kd.C_of_reads (d := (0 : Int)) (h1 := fun _ => rfl) (ReadsInt.nil w .i64)
  · injection hcs with hcs _
    subst hcs
    obtain ⟨l, rfl, hr, _, _, hc'⟩ := ReadsInt.ofRowC (k := .i64) (w := w) (a := some a) (len := len) (cap := cap) (zs := zs) (.inr ⟨a, rfl, hl, hm, by simpa using hz, hcell, hwz⟩)
    exact ⟨some a, l, cap, rfl, hc', Kd.C_of_reads (d := (0 : Int)) (h1 := fun _ => rfl) hr⟩
theorem openB {t e : TypeId} {fuel : Nat} {v : Value} {x : DataW H × List MemPlace} (ht : P.underlying t = some (.slice e)) (he : P.underlying e = some .bool) (hc : P.cellsOf e = 1)
    (h : DataW.trod enc P w base (fun _ => true) held fuel t [v] = some x) : ∃ (A : Option Addr) (l : List Bool) (c : Nat), v = .slice A l.length c ∧ l.length ≤ c ∧ Kd.C Kd.bool w A l.length l := by
  rcases open_bools ht he hc h with ⟨hcs, _⟩ | ⟨a, len, cap, B, hcs, _, hl, hm, _, hcell⟩
  · injection hcs with hcs _
    subst hcs
    refine ⟨none, [], 0, rfl, Nat.le_refl _, ?_⟩
    exact Kd.C_of_reads (d := false) (h1 := fun _ => rfl) ⟨rfl, by simp, fun h => absurd h (Nat.lt_irrefl 0)⟩
  · injection hcs with hcs _
    subst hcs
    have e1 : ((List.range len).map B).length = len := by simp
    refine ⟨some a, (List.range len).map B, cap, by rw [e1], by rw [e1]; exact hl, ?_⟩
    rw [e1]
    refine Kd.C_of_reads (d := false) (h1 := fun _ => rfl) ⟨e1, by unfold maxLen at hm; omega, fun _ => ⟨a, rfl, fun j hj => ?_⟩⟩
    rw [hcell j (by omega)]
    simp [hj]
end
theorem wfU {n : Int} (h : (Lit.int .u64 n).wf = true) : 0 ≤ n ∧ n < 18446744073709551616 := by
  have e : IntKind.u64.min = 0 ∧ IntKind.u64.max = 18446744073709551615 := by decide
  simp [Lit.wf] at h
  omega
theorem wfI {n : Int} (h : (Lit.int .i64 n).wf = true) : -9223372036854775808 ≤ n ∧ n < 9223372036854775808 := by
  have e : IntKind.i64.min = -9223372036854775808 ∧ IntKind.i64.max = 9223372036854775807 := by decide
  simp [Lit.wf] at h
  omega
theorem own : ownKnob Try.prog.godebug = none := by kernel_rfl
theorem laidOut : laidOutB Try.prog = true := by kernel_rfl
set_option maxRecDepth 100000 in
theorem lifted (os : Os) (started : os.Started) (H : Type) (enc : TypeId × Value → H) :
    ReturnsInHanded {} Try.checked os 3 .any (Rows.fnCronNextManySpec.pre6 enc Try.prog Try.f3 Rows.fnCronNextManyRow.domain false) (Rows.fnCronNextManySpec.post enc Try.prog Try.f3 false true false false) := by
  refine returnsInHanded_of_change_sized (C := Try.checked) own started (by kernel_rfl) Try.func3
    (ChangeSpec.witness6 (enc := enc) (C := Try.checked) false ⟨#[], #[.agg #[.bool false, .int .i64 0, .int .u64 0, .int .u64 0, .int .u64 0, .int .u64 0, .int .u64 0, .int .u64 0], .agg #[.int .i64 0, .int .i64 0], .agg #[.slice none 0 0, .slice none 0 0, .slice none 0 0, .slice none 0 0], .int .i64 0], []⟩ 8 (by kernel_rfl) (by kernel_rfl) (by kernel_rfl) (by kernel_rfl)) ?_
  intro W base args ds gs before hval0 hW hcnd hsz0 _
  have hval : ∀ (j : Nat) t v, Try.f3.params[j]? = some t → args[j]? = some v → Value.okWide Try.prog W .any base t v := hval0
  have hW' := hW
  obtain ⟨p, q, hA0, hV, rfl, hfz, hnd⟩ := hW
  have hA : DataW.TrodAll enc Try.prog W 0 (fun _ => true) true Try.f3.params.toList args.toList ds p := hA0
  rw [Try.params3] at hA hval
  obtain ⟨v0, vs0, d0, ds0, p0, q0, hargs, rfl, rfl, h0, r0⟩ := trodAll_cons hA
  obtain ⟨v1, vs1, d1, ds1, p1, q1, rfl, rfl, rfl, h1, r1⟩ := trodAll_cons r0
  obtain ⟨v2, vs2, d2, ds2, p2, q2, rfl, rfl, rfl, h2, r2⟩ := trodAll_cons r1
  obtain ⟨v3, vs3, d3, ds3, p3, q3, rfl, rfl, rfl, h3, r3⟩ := trodAll_cons r2
  obtain ⟨rfl, rfl, rfl⟩ := trodAll_nil r3
  obtain rfl : args = #[v0, v1, v2, v3] := by cases args; simp_all
  obtain ⟨rfl, rfl⟩ := trodVars_none hV
  have k0 := h0
  have lt0 : ∀ x ∈ p0, x.block < W.heap.size := by obtain ⟨m, hm⟩ := k0; exact DataW.trod_lt m _ _ _ hm
  have k1 := h1
  have lt1 : ∀ x ∈ p1, x.block < W.heap.size := by obtain ⟨m, hm⟩ := k1; exact DataW.trod_lt m _ _ _ hm
  have k2 := h2
  have lt2 : ∀ x ∈ p2, x.block < W.heap.size := by obtain ⟨m, hm⟩ := k2; exact DataW.trod_lt m _ _ _ hm
  have k3 := h3
  have lt3 : ∀ x ∈ p3, x.block < W.heap.size := by obtain ⟨m, hm⟩ := k3; exact DataW.trod_lt m _ _ _ hm
  obtain ⟨a0, a1, a2, a3, a4, a5, a6, a7, y0, y1, y2, y3, y4, y5, y6, y7, n0, rfl, g0, g1, g2, g3, g4, g5, g6, g7⟩ := open_agg8 Try.underlying24 (by kernel_rfl) (by kernel_rfl) (hval 0 24 v0 rfl rfl) h0
  obtain ⟨ev, e0, -⟩ := DataW.trod_bool Try.underlying4 g0
  obtain ⟨d, e1, -, x1⟩ := DataW.trod_int Try.underlying2 g1
  obtain ⟨s2, e2, -, x2⟩ := DataW.trod_int Try.underlying22 g2
  obtain ⟨s3, e3, -, x3⟩ := DataW.trod_int Try.underlying22 g3
  obtain ⟨s4, e4, -, x4⟩ := DataW.trod_int Try.underlying22 g4
  obtain ⟨s5, e5, -, x5⟩ := DataW.trod_int Try.underlying22 g5
  obtain ⟨s6, e6, -, x6⟩ := DataW.trod_int Try.underlying22 g6
  obtain ⟨s7, e7, -, x7⟩ := DataW.trod_int Try.underlying22 g7
  injection e0 with e0 _
  injection e1 with e1 _
  injection e2 with e2 _
  injection e3 with e3 _
  injection e4 with e4 _
  injection e5 with e5 _
  injection e6 with e6 _
  injection e7 with e7 _
  subst e0 e1 e2 e3 e4 e5 e6 e7
  obtain ⟨b0, b1, z0, z1, n1, rfl, -, -, t0, t1⟩ := open_agg2 Try.underlying26 (by kernel_rfl) (by kernel_rfl) (hval 1 26 v1 rfl rfl) h1
  obtain ⟨s, e0, -, x8⟩ := DataW.trod_int Try.underlying2 t0
  obtain ⟨n, e1, -, x9⟩ := DataW.trod_int Try.underlying3 t1
  injection e0 with e0 _
  injection e1 with e1 _
  subst e0 e1
  obtain ⟨c0, c1, c2, c3, z0, z1, z2, z3, n2, rfl, -, -, u0, u1, u2, u3⟩ := open_agg4 Try.underlying31 (by kernel_rfl) (by kernel_rfl) (hval 2 31 v2 rfl rfl) h2
  obtain ⟨A0, os', cc0, rfl, hc0, hz0⟩ := openI Try.underlying27 Try.underlying3 (by kernel_rfl) u0
  obtain ⟨A1, ds', cc1, rfl, hc1, hz1⟩ := openB Try.underlying28 Try.underlying4 (by kernel_rfl) u1
  obtain ⟨A2, ws', cc2, rfl, hc2, hz2⟩ := openI Try.underlying29 Try.underlying2 (by kernel_rfl) u2
  obtain ⟨A3, ix', cc3, rfl, hc3, hz3⟩ := openI Try.underlying27 Try.underlying3 (by kernel_rfl) u3
  obtain ⟨m, rfl, -, x10⟩ := open_int Try.underlying3 (hval 3 3 v3 rfl rfl) h3
  clear hA0 hval0 hsz0
  have hS : SetsOk ⟨s2, s3, s4, s5, s6, s7⟩ := fun k hk => by
    rcases k with _ | _ | _ | _ | _ | _ | k
    · exact wfU x2
    · exact wfU x3
    · exact wfU x4
    · exact wfU x5
    · exact wfU x6
    · exact wfU x7
    · omega
  refine (tLaw ev d ⟨s2, s3, s4, s5, s6, s7⟩ hS s n A0 A1 A2 A3 cc0 cc1 cc2 cc3 os' ds' ws' ix' m W ⟨hz0, hz1, hz2, hz3⟩ ⟨hc0, hc1, hc2, hc3⟩ (wfI x1).1 (wfI x1).2).mono fun e W' h => ?_
  obtain ⟨he, bel⟩ := h
  subst he
  exact ⟨_, rfl, _, _, _, [], _, [], hW', trodAll_mk1 (shut_bool Try.underlying4 _), (trodAll_cons_mk (Below.trod laidOut (by kernel_rfl) (of_decide_eq_true (by kernel_rfl)) k0 bel lt0) (trodAll_cons_mk (Below.trod laidOut (by kernel_rfl) (of_decide_eq_true (by kernel_rfl)) k1 bel lt1) (trodAll_cons_mk (Below.trod laidOut (by kernel_rfl) (of_decide_eq_true (by kernel_rfl)) k2 bel lt2) (trodAll_cons_mk (Below.trod laidOut (by kernel_rfl) (of_decide_eq_true (by kernel_rfl)) k3 bel lt3) trodAll_mk0)))), rfl, bel.frame _, fun h => by cases h⟩
theorem over : Rows.fnCronNextManyRow.holds Try.pinned (OpenSpec.ofChange Rows.fnCronNextManySpec) :=
  OpenClaim.holds_of_wide 3 Try.f3 rfl rfl rfl rfl rfl rfl rfl ⟨rfl, rfl, rfl, rfl, rfl⟩ rfl rfl rfl rfl rfl (by kernel_rfl) Try.func3 (by kernel_rfl)
    (of_decide_eq_true (by kernel_rfl)) (by unfold Func.isWrapper; first | (rw [if_pos (by decide +kernel)]; kernel_rfl) | (rw [if_neg (by decide +kernel)]; exact ⟨rfl, rfl⟩))
    (fun os started H enc _ => lifted os started H enc)
end Go.Proofs.Ytjmgebhjkbcpcaa.NM
namespace Go.Proofs.Ytjmgebhjkbcpcaa
/-- The law holds of every input. -/
theorem fnCronNextMany_holds : Rows.FnCronNextManySaid := NM.over
end Go.Proofs.Ytjmgebhjkbcpcaa
#print axioms Go.Proofs.Ytjmgebhjkbcpcaa.fnCronNextMany_holds
