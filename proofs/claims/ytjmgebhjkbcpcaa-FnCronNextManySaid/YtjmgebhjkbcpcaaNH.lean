/- impl.Next and impl.NextMany. -/
import Derived.Test.YtjmgebhjkbcpcaaNG
import Derived.Deep.CutRange
import Derived.Deep.DeepCutAuto
set_option linter.unusedVariables false
set_option linter.unusedSimpArgs false
namespace Go.Proofs.Ytjmgebhjkbcpcaa.NM
open Go.RowKit Cal CronPl
/-- the last year that a search from behind x looks at -/
def lastY (z : Option Zone) (x : Int) : Int := gyear (lo z (x + 1) / 86400) + 5
def IsNext (S : Sets) (z : Option Zone) (x v : Int) : Prop :=
  Match (cxOf S (x + 1) (lastY z x)) (lo z) v ∧ NM (cxOf S (x + 1) (lastY z x)) (lo z) (x + 1) v ∧ x + 1 ≤ v ∧ gyear (lo z v / 86400) ≤ lastY z x
theorem IsNext.uniq {S : Sets} {z : Option Zone} {x v v' : Int} (h : IsNext S z x v) (h' : IsNext S z x v') : v = v' := by
  rcases Int.lt_trichotomy v v' with q | q | q
  · exact absurd h.1 (h'.2.1 v h.2.2.1 q)
  · exact q
  · exact absurd h'.1 (h.2.1 v' h'.2.2.1 q)
open Classical in
noncomputable def nextOf (S : Sets) (z : Option Zone) (x : Int) : Option Int := if h : ∃ v, IsNext S z x v then some h.choose else none
theorem nextOf_some {S : Sets} {z : Option Zone} {x v : Int} (h : IsNext S z x v) : nextOf S z x = some v := by
  unfold nextOf
  rw [dif_pos ⟨v, h⟩]
  exact congrArg some ((Exists.choose_spec (⟨v, h⟩ : ∃ v, IsNext S z x v)).uniq h)
theorem nextOf_is {S : Sets} {z : Option Zone} {x v : Int} (h : nextOf S z x = some v) : IsNext S z x v := by
  unfold nextOf at h
  split at h
  · rename_i hh
    injection h with h
    rw [← h]; exact hh.choose_spec
  · simp at h
theorem nextOf_none {S : Sets} {z : Option Zone} (P : Plain (lo z) (fun T => reso z T + 62135596800)) {x : Int} (h : nextOf S z x = none) (v : Int) (h0 : x + 1 ≤ v) (hv : gyear (lo z v / 86400) ≤ lastY z x) :
    ¬ Match (cxOf S (x + 1) (lastY z x)) (lo z) v := by
  have key : ∀ n : Nat, ∀ v, v - (x + 1) = n → gyear (lo z v / 86400) ≤ lastY z x → ¬ Match (cxOf S (x + 1) (lastY z x)) (lo z) v := by
    intro n
    induction n using Nat.strongRecOn with
    | _ n ih =>
      intro v hn hv hm
      have : IsNext S z x v := by
        refine ⟨hm, fun u u0 u1 => ?_, by omega, hv⟩
        refine ih (u - (x + 1)).toNat (by omega) u (by omega) ?_
        have := P.dle (show u ≤ v by omega)
        have a1 := (gdate (lo z u / 86400)).lo
        have a2 := (gdate (lo z v / 86400)).hi
        rcases Int.lt_or_le (lastY z x) (gyear (lo z u / 86400)) with q | q
        · have a3 := ystart_le (show gyear (lo z v / 86400) + 1 ≤ gyear (lo z u / 86400) by omega)
          omega
        · exact q
      rw [nextOf_some this] at h
      simp at h
  exact key (v - (x + 1)).toNat v (by omega) hv
theorem ystart6 (y : Int) : ystart (y + 6) ≤ ystart y + 2196 := by unfold ystart; omega
theorem IsNext.bd {S : Sets} {z : Option Zone} {x v : Int} {w : World} {L : Option Addr} (tl : TLoc w L z) (h : IsNext S z x v) : x < v ∧ v ≤ x + 200000000 := by
  obtain ⟨_, _, h0, h1⟩ := h
  have o1 := tl.off_bd (v - 62135596800)
  have o2 := tl.off_bd (x + 1 - 62135596800)
  have e1 : lo z v = v - 62135596800 + offO z (v - 62135596800) := rfl
  have e2 : lo z (x + 1) = x + 1 - 62135596800 + offO z (x + 1 - 62135596800) := rfl
  have a1 := (gdate (lo z (x + 1) / 86400)).lo
  have a2 := (gdate (lo z v / 86400)).hi
  have a3 := ystart6 (gyear (lo z (x + 1) / 86400))
  unfold lastY at h1
  have a4 := ystart_le (show gyear (lo z v / 86400) + 1 ≤ gyear (lo z (x + 1) / 86400) + 6 by omega)
  omega
def nextV (L : Option Addr) : Option Int → Value
  | some x => .agg #[.int .u64 0, .int .i64 x, .pointer L]
  | none => .agg #[.int .u64 0, .int .i64 0, .pointer none]
theorem NextR.eq {w : World} {L : Option Addr} {z : Option Zone} {S : Sets} {x : Int} {e : Ending} {w' : World} (P : Plain (lo z) (fun T => reso z T + 62135596800)) (h : NextR w L z S (x + 1) (gyear (lo z (x + 1) / 86400) + 5) e w') :
    e = .returned (nextV L (nextOf S z x)) ∧ Below w.heap.size w w' := by
  obtain ⟨h, hb⟩ := h
  refine ⟨?_, hb⟩
  rcases h with ⟨x', rfl, h1, h2, h3, h4⟩ | ⟨rfl, h1⟩
  · rw [nextOf_some (x := x) (v := x') ⟨h1, h2, h3, h4⟩]; rfl
  · cases hc : nextOf S z x with
    | none => rfl
    | some v => exact absurd (nextOf_is hc).1 (h1 v (nextOf_is hc).2.2.1 (nextOf_is hc).2.2.2)
theorem tNext' (w : World) (bs : Nat) (n x : Int) (L : Option Addr) (z : Option Zone) (S : Sets) (P : Plain (lo z) (fun T => reso z T + 62135596800)) (hL : TLoc w L z) (hS : SpecAt w bs S) (hn : Nan n)
    (h0 : 0 ≤ x) (h1 : x ≤ 700000000000) :
    Calls Try.prog 70 #[.pointer (some ⟨bs, 0, none⟩), .agg #[.int .u64 n, .int .i64 x, .pointer L]] w fun e w' => e = .returned (nextV L (nextOf S z x)) ∧ Below w.heap.size w w' :=
  (tNext w bs n x L z S P hL hS hn h0 h1).mono fun e w' h => h.eq P
/-- what a schedule answers -/
noncomputable def nxt (ev : Bool) (d : Int) (S : Sets) (z : Option Zone) (x : Int) : Option Int := if ev then some (x + d / 1000000000) else nextOf S z x
def ansV : Option Int → Value
  | some x => .tuple #[.agg #[.int .i64 (x - 62135596800), .int .i64 0], .bool true]
  | none => .tuple #[.agg #[.int .i64 0, .int .i64 0], .bool false]
theorem tAnswer (r : Option Int) (L : Option Addr) (w : World) (h : ∀ x, r = some x → 0 < x ∧ x ≤ 2000000000000) :
    Calls Try.prog 16 #[nextV L r] w fun e w' => e = .returned (ansV r) ∧ Below w.heap.size w w' := by
  cases r with
  | none => exact tAnswer0 none w
  | some x => exact tAnswer1 x L w (h x rfl).1 (h x rfl).2
end Go.Proofs.Ytjmgebhjkbcpcaa.NM
set_option linter.unusedVariables false
set_option linter.unusedSimpArgs false
namespace Go.Proofs.Ytjmgebhjkbcpcaa.NM
open Go.RowKit Cal CronPl Go.Proofs.YtjmgebhjkbcpcaaW.PrintWords
attribute [local go_sem ↓] Go.wp_at_zero Go.wp_at_succ
/-- the boxes of impl.Next's arguments -/
def Box9 (W : World) (b : Nat) (ev : Bool) (d : Int) (S : Sets) (s n : Int) (v0 v1 v2 v3 : Value) : Prop :=
  W.cell? ⟨b, 0, none⟩ = some (.bool ev) ∧ W.cell? ⟨b, 1, none⟩ = some (.int .i64 d) ∧ W.cell? ⟨b, 2, none⟩ = some (.int .u64 S.se) ∧ W.cell? ⟨b, 3, none⟩ = some (.int .u64 S.mi) ∧ W.cell? ⟨b, 4, none⟩ = some (.int .u64 S.ho) ∧ W.cell? ⟨b, 5, none⟩ = some (.int .u64 S.dom) ∧ W.cell? ⟨b, 6, none⟩ = some (.int .u64 S.mon) ∧ W.cell? ⟨b, 7, none⟩ = some (.int .u64 S.dow) ∧
  W.cell? ⟨b + 1, 0, none⟩ = some (.int .i64 s) ∧ W.cell? ⟨b + 1, 1, none⟩ = some (.int .i64 n) ∧
  W.cell? ⟨b + 1 + 1, 0, none⟩ = some v0 ∧ W.cell? ⟨b + 1 + 1, 1, none⟩ = some v1 ∧ W.cell? ⟨b + 1 + 1, 2, none⟩ = some v2 ∧ W.cell? ⟨b + 1 + 1, 3, none⟩ = some v3
theorem Box9.below {W W' : World} {b : Nat} {ev : Bool} {d : Int} {S : Sets} {s n : Int} {v0 v1 v2 v3 : Value} (h : Box9 W b ev d S s n v0 v1 v2 v3) (hb : Below W.heap.size W W') : Box9 W' b ev d S s n v0 v1 v2 v3 := by
  obtain ⟨h0, h1, h2, h3, h4, h5, h6, h7, h8, h9, h10, h11, h12, h13⟩ := h
  exact ⟨keep hb h0, keep hb h1, keep hb h2, keep hb h3, keep hb h4, keep hb h5, keep hb h6, keep hb h7, keep hb h8, keep hb h9, keep hb h10, keep hb h11, keep hb h12, keep hb h13⟩
theorem Box9.set {W : World} {b g o : Nat} {ev : Bool} {d : Int} {S : Sets} {s n : Int} {v0 v1 v2 v3 u : Value} (h : Box9 W b ev d S s n v0 v1 v2 v3) (hg : b + 2 < g) : Box9 (W.setCell ⟨g, o, none⟩ u) b ev d S s n v0 v1 v2 v3 := by
  obtain ⟨h0, h1, h2, h3, h4, h5, h6, h7, h8, h9, h10, h11, h12, h13⟩ := h
  refine ⟨?_, ?_, ?_, ?_, ?_, ?_, ?_, ?_, ?_, ?_, ?_, ?_, ?_, ?_⟩ <;> (rw [setc_other _ (by omega)]; assumption)
theorem box9 (w : World) (ev : Bool) (d : Int) (S : Sets) (s n : Int) (v0 v1 v2 v3 : Value) :
    Box9 ((((w.alloc (Obj.cells #[.bool ev, .int .i64 d, .int .u64 S.se, .int .u64 S.mi, .int .u64 S.ho, .int .u64 S.dom, .int .u64 S.mon, .int .u64 S.dow] 24)).alloc (Obj.cells #[.int .i64 s, .int .i64 n] 26)).alloc (Obj.cells #[v0, v1, v2, v3] 31)).alloc (Obj.cells #[.int .i64 0, .int .i64 0] 26)) w.heap.size ev d S s n v0 v1 v2 v3 := by
  refine ⟨?_, ?_, ?_, ?_, ?_, ?_, ?_, ?_, ?_, ?_, ?_, ?_, ?_, ?_⟩ <;> simp [go_sem]
theorem nilS (b : Nat) (w : World) : (nilAhead 257 61 (.pointer (some ⟨b, 0, none⟩)) "Next").run Try.prog w = .ok (some false) w := by kernel_rfl
theorem metS (b : Nat) (w : World) : (method 257 61 (.pointer (some ⟨b, 0, none⟩)) "Next").run Try.prog w = .ok (70, .pointer (some ⟨b, 0, none⟩)) w := by kernel_rfl
theorem nilE (d : Int) (w : World) : (nilAhead 257 60 (.agg #[.int .i64 d]) "Next").run Try.prog w = .ok (some false) w := by kernel_rfl
theorem metE (d : Int) (w : World) : (method 257 60 (.agg #[.int .i64 d]) "Next").run Try.prog w = .ok (67, .agg #[.int .i64 d]) w := by kernel_rfl
theorem tNextSome (w : World) (bs : Nat) (n x x' : Int) (L : Option Addr) (z : Option Zone) (S : Sets) (P : Plain (lo z) (fun T => reso z T + 62135596800)) (hL : TLoc w L z) (hS : SpecAt w bs S) (hn : Nan n)
    (h0 : 0 ≤ x) (h1 : x ≤ 700000000000) (hr : nextOf S z x = some x') :
    Calls Try.prog 70 #[.pointer (some ⟨bs, 0, none⟩), .agg #[.int .u64 n, .int .i64 x, .pointer L]] w fun e w' => e = .returned (.agg #[.int .u64 0, .int .i64 x', .pointer L]) ∧ Below w.heap.size w w' :=
  (tNext' w bs n x L z S P hL hS hn h0 h1).mono fun e w' h => by rw [hr] at h; exact h
theorem tNextNone (w : World) (bs : Nat) (n x : Int) (L : Option Addr) (z : Option Zone) (S : Sets) (P : Plain (lo z) (fun T => reso z T + 62135596800)) (hL : TLoc w L z) (hS : SpecAt w bs S) (hn : Nan n)
    (h0 : 0 ≤ x) (h1 : x ≤ 700000000000) (hr : nextOf S z x = none) :
    Calls Try.prog 70 #[.pointer (some ⟨bs, 0, none⟩), .agg #[.int .u64 n, .int .i64 x, .pointer L]] w fun e w' => e = .returned (.agg #[.int .u64 0, .int .i64 0, .pointer none]) ∧ Below w.heap.size w w' :=
  (tNext' w bs n x L z S P hL hS hn h0 h1).mono fun e w' h => by rw [hr] at h; exact h
set_option maxRecDepth 100000 in
set_option maxHeartbeats 4000000 in
theorem tNext9S (d : Int) (S : Sets) (s n : Int) (A0 A1 A2 A3 : Option Addr) (c0 c1 c2 c3 : Nat) (os : List Int) (ds : List Bool) (ws ix : List Int) (w : World) (hz : ZIn w A0 A1 A2 A3 os ds ws ix) (ho : ZOk os ds ws ix)
    (P : Plain (lo (zoneOf os ws ix)) (fun T => reso (zoneOf os ws ix) T + 62135596800)) (hn : Nan n) (h0 : -62135596800 ≤ s) (h1 : s ≤ 600000000000) (x' : Int) (hr : nextOf S (zoneOf os ws ix) (s + 62135596800) = some x') (hx' : 0 < x' ∧ x' ≤ 2000000000000) :
    Calls Try.prog 9 #[schedV false d S, .agg #[.int .i64 s, .int .i64 n], zoneV A0 A1 A2 A3 c0 c1 c2 c3 os ds ws ix] w fun e w' => e = .returned (.tuple #[.agg #[.int .i64 (x' - 62135596800), .int .i64 0], .bool true]) ∧ Below w.heap.size w w' := by
  have HLoc : Hid (∀ W, Below w.heap.size w W → Calls Try.prog 15 #[zoneV A0 A1 A2 A3 c0 c1 c2 c3 os ds ws ix] W fun e w' => ∃ b, e = .returned (.pointer (some ⟨b, 0, none⟩)) ∧ LocP w' b (zoneOf os ws ix) ∧ Below W.heap.size W w') := Lib.hid fun W hW => tLocation A0 A1 A2 A3 c0 c1 c2 c3 os ds ws ix W (hz.below hW) ho
  unfold zoneV at HLoc ⊢
  generalize hv0 : Value.slice A0 os.length c0 = v0 at HLoc ⊢
  generalize hv1 : Value.slice A1 ds.length c1 = v1 at HLoc ⊢
  generalize hv2 : Value.slice A2 ws.length c2 = v2 at HLoc ⊢
  generalize hv3 : Value.slice A3 ix.length c3 = v3 at HLoc ⊢
  clear hv0 hv1 hv2 hv3 hz ho
  generalize zoneOf os ws ix = z at P hr HLoc
  have HP := Lib.hid P
  have HR := Lib.hid hr
  clear P hr
  have nilS' := nilS
  have metS' := metS
  go_enter Try.func9, Try.ntmps9
  go_wp2_with fail
  have hB := box9 w false d S s n v0 v1 v2 v3
  generalize hW : (((w.alloc _).alloc _).alloc _).alloc _ = W at hB ⊢
  have hbW : Below w.heap.size w W := by rw [← hW]; exact bA (bA (bA (bA (Below.refl _ _) _) _) _) _
  have hX : Hid (BoxAt W (w.heap.size + 1 + 1 + 1) 2 (fun i => [.int .i64 0, .int .i64 0].getD i undef)) := Lib.hid ⟨by rw [← hW]; simp, fun i hi => by rw [← hW]; rcases i with _ | _ | i <;> first | omega | simp [go_sem], fun o => by rw [← hW]; simp [go_sem]⟩
  clear hW
  have HB := Lib.hid hB
  clear hB
  go_region_held3 (fun w' => w'.cell? ⟨w.heap.size, 0, none⟩ = some (.bool false) ∧ w'.cell? ⟨w.heap.size, 1, none⟩ = some (.int .i64 d) ∧ w'.cell? ⟨w.heap.size, 2, none⟩ = some (.int .u64 S.se) ∧ w'.cell? ⟨w.heap.size, 3, none⟩ = some (.int .u64 S.mi) ∧ w'.cell? ⟨w.heap.size, 4, none⟩ = some (.int .u64 S.ho) ∧ w'.cell? ⟨w.heap.size, 5, none⟩ = some (.int .u64 S.dom) ∧ w'.cell? ⟨w.heap.size, 6, none⟩ = some (.int .u64 S.mon) ∧ w'.cell? ⟨w.heap.size, 7, none⟩ = some (.int .u64 S.dow) ∧
  w'.cell? ⟨w.heap.size + 1, 0, none⟩ = some (.int .i64 s) ∧ w'.cell? ⟨w.heap.size + 1, 1, none⟩ = some (.int .i64 n) ∧
  w'.cell? ⟨w.heap.size + 1 + 1, 0, none⟩ = some v0 ∧ w'.cell? ⟨w.heap.size + 1 + 1, 1, none⟩ = some v1 ∧ w'.cell? ⟨w.heap.size + 1 + 1, 2, none⟩ = some v2 ∧ w'.cell? ⟨w.heap.size + 1 + 1, 3, none⟩ = some v3)
    (first | exact HB5.out | exact HB4.out | exact HB3.out | exact HB2.out | exact HB1.out | exact Box9.below HB.out (Below.refl _ _).drew | exact (Box9.set (Box9.set HB5.out (by omega)) (by omega)))
    (first
      | (go_at_call 13; refine (tSched0 d S _).mono ?_; rintro e w1 ⟨b1, rfl, hs1, hb1⟩; have hb1 : Below W.heap.size W w1 := Below.trans (Below.refl _ _).drew hb1; have HB1 := Lib.hid (HB.out.below hb1); have HS1 := Lib.hid hs1; clear HB hs1)
      | (go_at_call 15; refine (HLoc.out _ (hbW.trans (hb1.mono hbW.size))).mono ?_; rintro e w2 ⟨b2, rfl, hl2, hb2⟩; have HB2 := Lib.hid (HB1.out.below hb2); have HS2 := Lib.hid (HS1.out.below hb2); have HL2 := Lib.hid hl2; clear HB1 HS1 hl2)
      | (go_at_call 14; refine (tMoment s n b2 z _ HL2.out h0 (by omega) hn).mono ?_; rintro e w3 ⟨rfl, hb3⟩; have HB3 := Lib.hid (HB2.out.below hb3); have HS3 := Lib.hid (HS2.out.below hb3); have HL3 := Lib.hid (HL2.out.below hb3); clear HB2 HS2 HL2)
      | (go_at_call 70; refine (tNextSome _ b1 n _ x' (canon b2 z) z S HP.out HL3.out.tl HS3.out hn (by omega) (by omega) HR.out).mono ?_; rintro e w4 ⟨rfl, hb4⟩; have HB4 := Lib.hid (HB3.out.below hb4); clear HB3 HS3)
      | (go_at_call 16; refine (tAnswer1 x' _ _ hx'.1 hx'.2).mono ?_; rintro e w5 ⟨rfl, hb5⟩; have HB5 := Lib.hid (HB4.out.below hb5); have HX5 := Lib.hid (((((hX.out.call hb1).call hb2).call hb3).call hb4).call hb5); clear HB4; have r0 := HX5.out.c 0 (by decide); have r1 := HX5.out.c 1 (by decide); have f0 := HX5.out.f 0; have f1 := HX5.out.f 1))
  all_goals
    go_wp2
    have hb6 : Below w.heap.size w w5 := hbW.trans ((((((hb1.mono hbW.size).trans (hb2.mono (Nat.le_trans hbW.size hb1.size))).trans (hb3.mono (Nat.le_trans (Nat.le_trans hbW.size hb1.size) hb2.size))).trans (hb4.mono (Nat.le_trans (Nat.le_trans (Nat.le_trans hbW.size hb1.size) hb2.size) hb3.size))).trans (hb5.mono (Nat.le_trans (Nat.le_trans (Nat.le_trans (Nat.le_trans hbW.size hb1.size) hb2.size) hb3.size) hb4.size))))
    exact bodyPost_ret (v := .tuple #[.agg #[.int .i64 (x' - 62135596800), .int .i64 0], .bool true]) (by simp [results, Try.results9, go_sem, r0, r1]) rfl ⟨rfl, (hb6.setCell (by show w.heap.size ≤ w.heap.size + 1 + 1 + 1; omega) _).setCell (by show w.heap.size ≤ w.heap.size + 1 + 1 + 1; omega) _⟩
set_option maxRecDepth 100000 in
set_option maxHeartbeats 4000000 in
theorem tNext9N (d : Int) (S : Sets) (s n : Int) (A0 A1 A2 A3 : Option Addr) (c0 c1 c2 c3 : Nat) (os : List Int) (ds : List Bool) (ws ix : List Int) (w : World) (hz : ZIn w A0 A1 A2 A3 os ds ws ix) (ho : ZOk os ds ws ix)
    (P : Plain (lo (zoneOf os ws ix)) (fun T => reso (zoneOf os ws ix) T + 62135596800)) (hn : Nan n) (h0 : -62135596800 ≤ s) (h1 : s ≤ 600000000000) (hr : nextOf S (zoneOf os ws ix) (s + 62135596800) = none) :
    Calls Try.prog 9 #[schedV false d S, .agg #[.int .i64 s, .int .i64 n], zoneV A0 A1 A2 A3 c0 c1 c2 c3 os ds ws ix] w fun e w' => e = .returned (.tuple #[.agg #[.int .i64 0, .int .i64 0], .bool false]) ∧ Below w.heap.size w w' := by
  have HLoc : Hid (∀ W, Below w.heap.size w W → Calls Try.prog 15 #[zoneV A0 A1 A2 A3 c0 c1 c2 c3 os ds ws ix] W fun e w' => ∃ b, e = .returned (.pointer (some ⟨b, 0, none⟩)) ∧ LocP w' b (zoneOf os ws ix) ∧ Below W.heap.size W w') := Lib.hid fun W hW => tLocation A0 A1 A2 A3 c0 c1 c2 c3 os ds ws ix W (hz.below hW) ho
  unfold zoneV at HLoc ⊢
  generalize hv0 : Value.slice A0 os.length c0 = v0 at HLoc ⊢
  generalize hv1 : Value.slice A1 ds.length c1 = v1 at HLoc ⊢
  generalize hv2 : Value.slice A2 ws.length c2 = v2 at HLoc ⊢
  generalize hv3 : Value.slice A3 ix.length c3 = v3 at HLoc ⊢
  clear hv0 hv1 hv2 hv3 hz ho
  generalize zoneOf os ws ix = z at P hr HLoc
  have HP := Lib.hid P
  have HR := Lib.hid hr
  clear P hr
  have nilS' := nilS
  have metS' := metS
  go_enter Try.func9, Try.ntmps9
  go_wp2_with fail
  have hB := box9 w false d S s n v0 v1 v2 v3
  generalize hW : (((w.alloc _).alloc _).alloc _).alloc _ = W at hB ⊢
  have hbW : Below w.heap.size w W := by rw [← hW]; exact bA (bA (bA (bA (Below.refl _ _) _) _) _) _
  have hX : Hid (BoxAt W (w.heap.size + 1 + 1 + 1) 2 (fun i => [.int .i64 0, .int .i64 0].getD i undef)) := Lib.hid ⟨by rw [← hW]; simp, fun i hi => by rw [← hW]; rcases i with _ | _ | i <;> first | omega | simp [go_sem], fun o => by rw [← hW]; simp [go_sem]⟩
  clear hW
  have HB := Lib.hid hB
  clear hB
  go_region_held3 (fun w' => w'.cell? ⟨w.heap.size, 0, none⟩ = some (.bool false) ∧ w'.cell? ⟨w.heap.size, 1, none⟩ = some (.int .i64 d) ∧ w'.cell? ⟨w.heap.size, 2, none⟩ = some (.int .u64 S.se) ∧ w'.cell? ⟨w.heap.size, 3, none⟩ = some (.int .u64 S.mi) ∧ w'.cell? ⟨w.heap.size, 4, none⟩ = some (.int .u64 S.ho) ∧ w'.cell? ⟨w.heap.size, 5, none⟩ = some (.int .u64 S.dom) ∧ w'.cell? ⟨w.heap.size, 6, none⟩ = some (.int .u64 S.mon) ∧ w'.cell? ⟨w.heap.size, 7, none⟩ = some (.int .u64 S.dow) ∧
  w'.cell? ⟨w.heap.size + 1, 0, none⟩ = some (.int .i64 s) ∧ w'.cell? ⟨w.heap.size + 1, 1, none⟩ = some (.int .i64 n) ∧
  w'.cell? ⟨w.heap.size + 1 + 1, 0, none⟩ = some v0 ∧ w'.cell? ⟨w.heap.size + 1 + 1, 1, none⟩ = some v1 ∧ w'.cell? ⟨w.heap.size + 1 + 1, 2, none⟩ = some v2 ∧ w'.cell? ⟨w.heap.size + 1 + 1, 3, none⟩ = some v3)
    (first | exact HB5.out | exact HB4.out | exact HB3.out | exact HB2.out | exact HB1.out | exact Box9.below HB.out (Below.refl _ _).drew | exact (Box9.set (Box9.set HB5.out (by omega)) (by omega)))
    (first
      | (go_at_call 13; refine (tSched0 d S _).mono ?_; rintro e w1 ⟨b1, rfl, hs1, hb1⟩; have hb1 : Below W.heap.size W w1 := Below.trans (Below.refl _ _).drew hb1; have HB1 := Lib.hid (HB.out.below hb1); have HS1 := Lib.hid hs1; clear HB hs1)
      | (go_at_call 15; refine (HLoc.out _ (hbW.trans (hb1.mono hbW.size))).mono ?_; rintro e w2 ⟨b2, rfl, hl2, hb2⟩; have HB2 := Lib.hid (HB1.out.below hb2); have HS2 := Lib.hid (HS1.out.below hb2); have HL2 := Lib.hid hl2; clear HB1 HS1 hl2)
      | (go_at_call 14; refine (tMoment s n b2 z _ HL2.out h0 (by omega) hn).mono ?_; rintro e w3 ⟨rfl, hb3⟩; have HB3 := Lib.hid (HB2.out.below hb3); have HS3 := Lib.hid (HS2.out.below hb3); have HL3 := Lib.hid (HL2.out.below hb3); clear HB2 HS2 HL2)
      | (go_at_call 70; refine (tNextNone _ b1 n _ (canon b2 z) z S HP.out HL3.out.tl HS3.out hn (by omega) (by omega) HR.out).mono ?_; rintro e w4 ⟨rfl, hb4⟩; have HB4 := Lib.hid (HB3.out.below hb4); clear HB3 HS3)
      | (go_at_call 16; refine (tAnswer0 _ _).mono ?_; rintro e w5 ⟨rfl, hb5⟩; have HB5 := Lib.hid (HB4.out.below hb5); have HX5 := Lib.hid (((((hX.out.call hb1).call hb2).call hb3).call hb4).call hb5); clear HB4; have r0 := HX5.out.c 0 (by decide); have r1 := HX5.out.c 1 (by decide); have f0 := HX5.out.f 0; have f1 := HX5.out.f 1))
  all_goals
    go_wp2
    have hb6 : Below w.heap.size w w5 := hbW.trans ((((((hb1.mono hbW.size).trans (hb2.mono (Nat.le_trans hbW.size hb1.size))).trans (hb3.mono (Nat.le_trans (Nat.le_trans hbW.size hb1.size) hb2.size))).trans (hb4.mono (Nat.le_trans (Nat.le_trans (Nat.le_trans hbW.size hb1.size) hb2.size) hb3.size))).trans (hb5.mono (Nat.le_trans (Nat.le_trans (Nat.le_trans (Nat.le_trans hbW.size hb1.size) hb2.size) hb3.size) hb4.size))))
    exact bodyPost_ret (v := .tuple #[.agg #[.int .i64 0, .int .i64 0], .bool false]) (by simp [results, Try.results9, go_sem, r0, r1]) rfl ⟨rfl, (hb6.setCell (by show w.heap.size ≤ w.heap.size + 1 + 1 + 1; omega) _).setCell (by show w.heap.size ≤ w.heap.size + 1 + 1 + 1; omega) _⟩
set_option maxRecDepth 100000 in
set_option maxHeartbeats 4000000 in
theorem tNext9E (d : Int) (S : Sets) (s n : Int) (A0 A1 A2 A3 : Option Addr) (c0 c1 c2 c3 : Nat) (os : List Int) (ds : List Bool) (ws ix : List Int) (w : World) (hz : ZIn w A0 A1 A2 A3 os ds ws ix) (ho : ZOk os ds ws ix)
    (hn : Nan n) (h0 : -62135596800 ≤ s) (h1 : s ≤ 1500000000000) (hd0 : 1000000000 ≤ d) (hd1 : d < 9223372036854775808) (hm : d % 1000000000 = 0) (x' : Int) (hr : s + 62135596800 + d / 1000000000 = x') :
    Calls Try.prog 9 #[schedV true d S, .agg #[.int .i64 s, .int .i64 n], zoneV A0 A1 A2 A3 c0 c1 c2 c3 os ds ws ix] w fun e w' => e = .returned (.tuple #[.agg #[.int .i64 (x' - 62135596800), .int .i64 0], .bool true]) ∧ Below w.heap.size w w' := by
  have HLoc : Hid (∀ W, Below w.heap.size w W → Calls Try.prog 15 #[zoneV A0 A1 A2 A3 c0 c1 c2 c3 os ds ws ix] W fun e w' => ∃ b, e = .returned (.pointer (some ⟨b, 0, none⟩)) ∧ LocP w' b (zoneOf os ws ix) ∧ Below W.heap.size W w') := Lib.hid fun W hW => tLocation A0 A1 A2 A3 c0 c1 c2 c3 os ds ws ix W (hz.below hW) ho
  unfold zoneV at HLoc ⊢
  generalize hv0 : Value.slice A0 os.length c0 = v0 at HLoc ⊢
  generalize hv1 : Value.slice A1 ds.length c1 = v1 at HLoc ⊢
  generalize hv2 : Value.slice A2 ws.length c2 = v2 at HLoc ⊢
  generalize hv3 : Value.slice A3 ix.length c3 = v3 at HLoc ⊢
  clear hv0 hv1 hv2 hv3 hz ho
  generalize zoneOf os ws ix = z at HLoc
  have HR := Lib.hid hr
  clear hr
  have nilS' := nilE
  have metS' := metE
  go_enter Try.func9, Try.ntmps9
  go_wp2_with fail
  have hB := box9 w true d S s n v0 v1 v2 v3
  generalize hW : (((w.alloc _).alloc _).alloc _).alloc _ = W at hB ⊢
  have hbW : Below w.heap.size w W := by rw [← hW]; exact bA (bA (bA (bA (Below.refl _ _) _) _) _) _
  have hX : Hid (BoxAt W (w.heap.size + 1 + 1 + 1) 2 (fun i => [.int .i64 0, .int .i64 0].getD i undef)) := Lib.hid ⟨by rw [← hW]; simp, fun i hi => by rw [← hW]; rcases i with _ | _ | i <;> first | omega | simp [go_sem], fun o => by rw [← hW]; simp [go_sem]⟩
  clear hW
  have HB := Lib.hid hB
  clear hB
  go_region_held3 (fun w' => w'.cell? ⟨w.heap.size, 0, none⟩ = some (.bool true) ∧ w'.cell? ⟨w.heap.size, 1, none⟩ = some (.int .i64 d) ∧ w'.cell? ⟨w.heap.size, 2, none⟩ = some (.int .u64 S.se) ∧ w'.cell? ⟨w.heap.size, 3, none⟩ = some (.int .u64 S.mi) ∧ w'.cell? ⟨w.heap.size, 4, none⟩ = some (.int .u64 S.ho) ∧ w'.cell? ⟨w.heap.size, 5, none⟩ = some (.int .u64 S.dom) ∧ w'.cell? ⟨w.heap.size, 6, none⟩ = some (.int .u64 S.mon) ∧ w'.cell? ⟨w.heap.size, 7, none⟩ = some (.int .u64 S.dow) ∧
  w'.cell? ⟨w.heap.size + 1, 0, none⟩ = some (.int .i64 s) ∧ w'.cell? ⟨w.heap.size + 1, 1, none⟩ = some (.int .i64 n) ∧
  w'.cell? ⟨w.heap.size + 1 + 1, 0, none⟩ = some v0 ∧ w'.cell? ⟨w.heap.size + 1 + 1, 1, none⟩ = some v1 ∧ w'.cell? ⟨w.heap.size + 1 + 1, 2, none⟩ = some v2 ∧ w'.cell? ⟨w.heap.size + 1 + 1, 3, none⟩ = some v3)
    (first | exact HB5.out | exact HB4.out | exact HB3.out | exact HB2.out | exact HB1.out | exact Box9.below HB.out (Below.refl _ _).drew | exact (Box9.set (Box9.set HB5.out (by omega)) (by omega)))
    (first
      | (go_at_call 13; refine (tSched1 d S _).mono ?_; rintro e w1 ⟨rfl, hb1⟩; have hb1 : Below W.heap.size W w1 := Below.trans (Below.refl _ _).drew hb1; have HB1 := Lib.hid (HB.out.below hb1); clear HB)
      | (go_at_call 15; refine (HLoc.out _ (hbW.trans (hb1.mono hbW.size))).mono ?_; rintro e w2 ⟨b2, rfl, hl2, hb2⟩; have HB2 := Lib.hid (HB1.out.below hb2); have HL2 := Lib.hid hl2; clear HB1 hl2)
      | (go_at_call 14; refine (tMoment s n b2 z _ HL2.out h0 (by omega) hn).mono ?_; rintro e w3 ⟨rfl, hb3⟩; have HB3 := Lib.hid (HB2.out.below hb3); have HL3 := Lib.hid (HL2.out.below hb3); clear HB2 HL2)
      | (go_at_call 67; refine (tEvery n d _ (canon b2 z) _ hn hd0 hd1 hm (by omega) (by omega)).mono ?_; rintro e w4 ⟨rfl, hb4⟩; rw [HR.out]; have HB4 := Lib.hid (HB3.out.below hb4); clear HB3)
      | (go_at_call 16; refine (tAnswer1 x' _ _ (by have := HR.out; omega) (by have := HR.out; omega)).mono ?_; rintro e w5 ⟨rfl, hb5⟩; have HB5 := Lib.hid (HB4.out.below hb5); have HX5 := Lib.hid (((((hX.out.call hb1).call hb2).call hb3).call hb4).call hb5); clear HB4; have r0 := HX5.out.c 0 (by decide); have r1 := HX5.out.c 1 (by decide); have f0 := HX5.out.f 0; have f1 := HX5.out.f 1))
  all_goals
    go_wp2
    have hb6 : Below w.heap.size w w5 := hbW.trans ((((((hb1.mono hbW.size).trans (hb2.mono (Nat.le_trans hbW.size hb1.size))).trans (hb3.mono (Nat.le_trans (Nat.le_trans hbW.size hb1.size) hb2.size))).trans (hb4.mono (Nat.le_trans (Nat.le_trans (Nat.le_trans hbW.size hb1.size) hb2.size) hb3.size))).trans (hb5.mono (Nat.le_trans (Nat.le_trans (Nat.le_trans (Nat.le_trans hbW.size hb1.size) hb2.size) hb3.size) hb4.size))))
    exact bodyPost_ret (v := .tuple #[.agg #[.int .i64 (x' - 62135596800), .int .i64 0], .bool true]) (by simp [results, Try.results9, go_sem, r0, r1]) rfl ⟨rfl, (hb6.setCell (by show w.heap.size ≤ w.heap.size + 1 + 1 + 1; omega) _).setCell (by show w.heap.size ≤ w.heap.size + 1 + 1 + 1; omega) _⟩
theorem zoneOf_bd {os : List Int} {ds : List Bool} {ws ix : List Int} (ho : ZOk os ds ws ix) (s : Int) : -86400 ≤ offO (zoneOf os ws ix) s ∧ offO (zoneOf os ws ix) s ≤ 86400 := by
  rcases ho with ⟨e0, _⟩ | ⟨_, _, hg⟩
  · unfold zoneOf; rw [if_pos e0]; simp [offO]
  · have := hg.k0
    simp only at this
    unfold zoneOf; rw [if_neg (by omega)]
    exact Zone.off_bd hg _
theorem IsNext.bd' {S : Sets} {z : Option Zone} {x v : Int} (tl : ∀ s, -86400 ≤ offO z s ∧ offO z s ≤ 86400) (h : IsNext S z x v) : x < v ∧ v ≤ x + 200000000 := by
  obtain ⟨_, _, h0, h1⟩ := h
  have o1 := tl (v - 62135596800)
  have o2 := tl (x + 1 - 62135596800)
  have e1 : lo z v = v - 62135596800 + offO z (v - 62135596800) := rfl
  have e2 : lo z (x + 1) = x + 1 - 62135596800 + offO z (x + 1 - 62135596800) := rfl
  have a1 := (gdate (lo z (x + 1) / 86400)).lo
  have a2 := (gdate (lo z v / 86400)).hi
  have a3 := ystart6 (gyear (lo z (x + 1) / 86400))
  unfold lastY at h1
  have a4 := ystart_le (show gyear (lo z v / 86400) + 1 ≤ gyear (lo z (x + 1) / 86400) + 6 by omega)
  omega
def EvOk (ev : Bool) (d : Int) : Prop := ev = true → 1000000000 ≤ d ∧ d < 9223372036854775808 ∧ d % 1000000000 = 0
theorem tNext9 (ev : Bool) (d : Int) (S : Sets) (s n : Int) (A0 A1 A2 A3 : Option Addr) (c0 c1 c2 c3 : Nat) (os : List Int) (ds : List Bool) (ws ix : List Int) (w : World) (hz : ZIn w A0 A1 A2 A3 os ds ws ix) (ho : ZOk os ds ws ix)
    (P : Plain (lo (zoneOf os ws ix)) (fun T => reso (zoneOf os ws ix) T + 62135596800)) (hn : Nan n) (h0 : -62135596800 ≤ s) (h1 : s ≤ 1500000000000) (h1' : ev = false → s ≤ 600000000000) (he : EvOk ev d) :
    Calls Try.prog 9 #[schedV ev d S, .agg #[.int .i64 s, .int .i64 n], zoneV A0 A1 A2 A3 c0 c1 c2 c3 os ds ws ix] w fun e w' => e = .returned (ansV (nxt ev d S (zoneOf os ws ix) (s + 62135596800))) ∧ Below w.heap.size w w' := by
  cases ev with
  | true =>
    obtain ⟨d0, d1, d2⟩ := he rfl
    exact tNext9E d S s n A0 A1 A2 A3 c0 c1 c2 c3 os ds ws ix w hz ho hn h0 h1 d0 d1 d2 _ rfl
  | false =>
    have h1 := h1' rfl
    cases hr : nextOf S (zoneOf os ws ix) (s + 62135596800) with
    | none =>
      have := tNext9N d S s n A0 A1 A2 A3 c0 c1 c2 c3 os ds ws ix w hz ho P hn h0 h1 hr
      simpa [nxt, hr, ansV] using this
    | some x' =>
      have hb := IsNext.bd' (zoneOf_bd ho) (nextOf_is hr)
      have := tNext9S d S s n A0 A1 A2 A3 c0 c1 c2 c3 os ds ws ix w hz ho P hn h0 h1 x' hr (by omega)
      simpa [nxt, hr, ansV] using this
end Go.Proofs.Ytjmgebhjkbcpcaa.NM
set_option linter.unusedVariables false
set_option linter.unusedSimpArgs false
namespace Go.Proofs.Ytjmgebhjkbcpcaa.NM
open Go.RowKit Cal CronPl Go.Proofs.YtjmgebhjkbcpcaaW.PrintWords
attribute [local go_sem ↓] Go.wp_at_zero Go.wp_at_succ
theorem info26 : (Try.prog.info? 26).map (fun i => (i.zero, i.size, i.bytes)) = some (some (.agg #[.int .i64 0, .int .i64 0]), 2, 16) := by kernel_rfl
theorem und34 : Try.prog.underlying 34 = some (.slice 26) := by kernel_rfl
/-- the activations one after the other -/
noncomputable def many (ev : Bool) (d : Int) (S : Sets) (z : Option Zone) : Nat → Int → List Int
  | 0, _ => []
  | k + 1, x => match nxt ev d S z x with
    | none => []
    | some x' => x' :: many ev d S z k x'
def irow : List Int → List Value
  | [] => []
  | x :: r => .int .i64 (x - 62135596800) :: .int .i64 0 :: irow r
theorem irow_app (a b : List Int) : irow (a ++ b) = irow a ++ irow b := by
  induction a with
  | nil => rfl
  | cons x a ih => simp [irow, ih]
theorem box8 (w : World) (ev : Bool) (d : Int) (S : Sets) (s n : Int) (v0 v1 v2 v3 : Value) :
    Box9 (((w.alloc (Obj.cells #[.bool ev, .int .i64 d, .int .u64 S.se, .int .u64 S.mi, .int .u64 S.ho, .int .u64 S.dom, .int .u64 S.mon, .int .u64 S.dow] 24)).alloc (Obj.cells #[.int .i64 s, .int .i64 n] 26)).alloc (Obj.cells #[v0, v1, v2, v3] 31)) w.heap.size ev d S s n v0 v1 v2 v3 := by
  refine ⟨?_, ?_, ?_, ?_, ?_, ?_, ?_, ?_, ?_, ?_, ?_, ?_, ?_, ?_⟩ <;> simp [go_sem]
abbrev zeroT : Obj := Obj.cells #[.int .u64 0, .int .i64 0, .pointer none] 46
abbrev tV (n x : Int) (L : Option Addr) (i : Nat) : Value := [Value.int .u64 n, .int .i64 x, .pointer L].getD i undef
theorem boxNew (W : World) : BoxAt (W.alloc zeroT) W.heap.size 3 (tV 0 0 none) :=
  ⟨by simp, fun i hi => by rcases i with _ | _ | _ | i <;> first | omega | simp [go_sem], fun o => by simp [go_sem]⟩
theorem boxNewV (W : World) (n x : Int) (L : Option Addr) : BoxAt (W.alloc (Obj.cells #[.int .u64 n, .int .i64 x, .pointer L] 46)) W.heap.size 3 (tV n x L) :=
  ⟨by simp, fun i hi => by rcases i with _ | _ | _ | i <;> first | omega | simp [go_sem], fun o => by simp [go_sem]⟩
abbrev putT (X : World) (bn : Nat) (n x : Int) (L : Option Addr) : World := ((X.setCell ⟨bn, 0, none⟩ (.int .u64 n)).setCell ⟨bn, 1, none⟩ (.int .i64 x)).setCell ⟨bn, 2, none⟩ (.pointer L)
theorem putT_other {X : World} {bn b o : Nat} {n x : Int} {L : Option Addr} (h : b ≠ bn) : (putT X bn n x L).cell? ⟨b, o, none⟩ = X.cell? ⟨b, o, none⟩ := by
  rw [setc_other _ h, setc_other _ h, setc_other _ h]
theorem putT_box {X : World} {bn : Nat} {n x n' x' : Int} {L L' : Option Addr} (h : BoxAt X bn 3 (tV n x L)) : BoxAt (putT X bn n' x' L') bn 3 (tV n' x' L') := by
  have h0 : X.cell? ⟨bn, 0, none⟩ = some (.int .u64 n) := h.c 0 (by decide)
  have h1 : X.cell? ⟨bn, 1, none⟩ = some (.int .i64 x) := h.c 1 (by decide)
  have h2 : X.cell? ⟨bn, 2, none⟩ = some (.pointer L) := h.c 2 (by decide)
  refine ⟨by have := h.lt; simpa [World.setCell] using this, fun i hi => ?_, fun o => ?_⟩
  · rcases i with _ | _ | _ | i
    · simp [go_sem, h0, h1, h2]
    · simp [go_sem, h0, h1, h2]
    · simp [go_sem, h0, h1, h2]
    · omega
  · have := h.f o; simp [go_sem, this]
theorem putT_spec {X : World} {bn b : Nat} {S : Sets} {n x n' x' : Int} {L L' : Option Addr} (hS : SpecAt X b S) (h : BoxAt X bn 3 (tV n x L)) : SpecAt (putT X bn n' x' L') b S := by
  have h2 : X.cell? ⟨bn, 2, none⟩ = some (.pointer L) := h.c 2 (by decide)
  have ne : b ≠ bn := by
    rintro rfl
    rw [hS.c2] at h2; simp at h2
  exact ⟨(putT_other ne).trans hS.c0, (putT_other ne).trans hS.c1, (putT_other ne).trans hS.c2, (putT_other ne).trans hS.c3, (putT_other ne).trans hS.c4, (putT_other ne).trans hS.c5, (putT_other ne).trans hS.c6⟩
theorem putT_loc {X : World} {bn : Nat} {z : Option Zone} {n x n' x' : Int} {L L' L2 : Option Addr} (hL : TLoc X L2 z) (h : BoxAt X bn 3 (tV n x L)) : TLoc (putT X bn n' x' L') L2 z := by
  have h0 : X.cell? ⟨bn, 0, none⟩ = some (.int .u64 n) := h.c 0 (by decide)
  cases z with
  | none => exact hL
  | some z =>
    obtain ⟨hz, b, g1, g2, k1, k2, hb, hw⟩ := hL
    have n0 : b ≠ bn := by rintro rfl; rw [hw.c0] at h0; simp at h0
    have n1 : g1 ≠ bn := by rintro rfl; have := (hw.zn 0 hz.k0).1; simp only [Nat.zero_mul] at this; rw [this] at h0; simp at h0
    have n2 : g2 ≠ bn := by rintro rfl; have := (hw.tr 0 hz.n0).1; simp only [Nat.zero_mul] at this; rw [this] at h0; simp at h0
    exact ⟨hz, b, g1, g2, k1, k2, hb, (putT_other n0).trans hw.c0, (putT_other n0).trans hw.c2, (putT_other n0).trans hw.c3, (putT_other n0).trans hw.c7,
      fun i hi => ⟨(putT_other n1).trans (hw.zn i hi).1, (putT_other n1).trans (hw.zn i hi).2.1, (hw.zn i hi).2.2.imp fun _ hd => (putT_other n1).trans hd⟩,
      fun i hi => ⟨(putT_other n2).trans (hw.tr i hi).1, (putT_other n2).trans (hw.tr i hi).2⟩⟩
theorem putT_below {w X : World} {bn : Nat} {n x : Int} {L : Option Addr} (h : Below w.heap.size w X) (hb : w.heap.size ≤ bn) : Below w.heap.size w (putT X bn n x L) :=
  ((h.setCell (by simpa using hb) _).setCell (by simpa using hb) _).setCell (by simpa using hb) _
theorem BoxAt.heap {X X' : World} {b n : Nat} {v : Nat → Value} (h : BoxAt X b n v) (he : X'.heap[b]? = X.heap[b]?) (hs : X.heap.size ≤ X'.heap.size) : BoxAt X' b n v :=
  ⟨Nat.lt_of_lt_of_le h.lt hs, fun i hi => (World.cell?_of_block he).trans (h.c i hi), fun o => (World.frozen?_of_block he).trans (h.f o)⟩
/-- the world is as it was, but for one block and what is new -/
def Kb (wc wr : World) (bn : Nat) : Prop := wc.heap.size ≤ wr.heap.size ∧ ∀ b, b < wc.heap.size → b ≠ bn → wr.heap[b]? = wc.heap[b]?
theorem Kb.call {wc wr wr' : World} {bn : Nat} (h : Kb wc wr bn) (hb : Below wr.heap.size wr wr') : Kb wc wr' bn :=
  ⟨Nat.le_trans h.1 hb.size, fun b h0 h1 => (hb.block b (Nat.lt_of_lt_of_le h0 h.1)).trans (h.2 b h0 h1)⟩
theorem Kb.put {wc wr : World} {bn o : Nat} {u : Value} (h : Kb wc wr bn) : Kb wc (wr.setCell ⟨bn, o, none⟩ u) bn :=
  ⟨by have := h.1; simpa [World.setCell] using this, fun b h0 h1 => (Below.heap_setCell _ ⟨bn, o, none⟩ _ _ h1).trans (h.2 b h0 h1)⟩
theorem Kb.grow {wc wr wr' : World} {bn : Nat} {row : Option Nat} (h : Kb wc wr bn) (hg : wr.grownBy wr' row) (hs : wr.heap.size ≤ wr'.heap.size) (hr : ∀ k, k < wc.heap.size → some k ≠ row) : Kb wc wr' bn :=
  ⟨Nat.le_trans h.1 hs, fun b h0 h1 => (hg.block b (Nat.lt_of_lt_of_le h0 h.1) (hr b h0)).trans (h.2 b h0 h1)⟩
theorem Kb.cell {wc wr : World} {bn b o : Nat} {v : Value} (h : Kb wc wr bn) (hc : wc.cell? ⟨b, o, none⟩ = some v) (hne : b ≠ bn) : wr.cell? ⟨b, o, none⟩ = some v :=
  (World.cell?_of_block (h.2 b (World.block_lt_of_cell? wc _ hc) hne)).trans hc
theorem spec_keep {wc wr : World} {bn b : Nat} {S : Sets} {n x : Int} {L : Option Addr} (hS : SpecAt wc b S) (h : BoxAt wc bn 3 (tV n x L)) (hk : Kb wc wr bn) : SpecAt wr b S := by
  have h2 : wc.cell? ⟨bn, 2, none⟩ = some (.pointer L) := h.c 2 (by decide)
  have ne : b ≠ bn := by
    rintro rfl
    rw [hS.c2] at h2; simp at h2
  exact ⟨hk.cell hS.c0 ne, hk.cell hS.c1 ne, hk.cell hS.c2 ne, hk.cell hS.c3 ne, hk.cell hS.c4 ne, hk.cell hS.c5 ne, hk.cell hS.c6 ne⟩
theorem loc_keep {wc wr : World} {bn : Nat} {z : Option Zone} {n x : Int} {L L2 : Option Addr} (hL : TLoc wc L2 z) (h : BoxAt wc bn 3 (tV n x L)) (hk : Kb wc wr bn) : TLoc wr L2 z := by
  have h0 : wc.cell? ⟨bn, 0, none⟩ = some (.int .u64 n) := h.c 0 (by decide)
  cases z with
  | none => exact hL
  | some z =>
    obtain ⟨hz, b, g1, g2, k1, k2, hb, hw⟩ := hL
    have n0 : b ≠ bn := by rintro rfl; rw [hw.c0] at h0; simp at h0
    have n1 : g1 ≠ bn := by rintro rfl; have := (hw.zn 0 hz.k0).1; simp only [Nat.zero_mul] at this; rw [this] at h0; simp at h0
    have n2 : g2 ≠ bn := by rintro rfl; have := (hw.tr 0 hz.n0).1; simp only [Nat.zero_mul] at this; rw [this] at h0; simp at h0
    exact ⟨hz, b, g1, g2, k1, k2, hb, hk.cell hw.c0 n0, hk.cell hw.c2 n0, hk.cell hw.c3 n0, hk.cell hw.c7 n0,
      fun i hi => ⟨hk.cell (hw.zn i hi).1 n1, hk.cell (hw.zn i hi).2.1 n1, (hw.zn i hi).2.2.imp fun _ hd => hk.cell hd n1⟩,
      fun i hi => ⟨hk.cell (hw.tr i hi).1 n2, hk.cell (hw.tr i hi).2 n2⟩⟩
theorem own_form {w : World} {base : Nat} {e : TypeId} {size n : Nat} {v : Value} {xs : List Value} (h : w.ownsRow base e size v n xs) : ∃ A c, v = .slice A n c := by
  rcases h.2 with ⟨rfl, rfl⟩ | ⟨g, cap, cur, rfl, _⟩
  · exact ⟨none, 0, rfl⟩
  · exact ⟨_, cap, rfl⟩
theorem own_call {w w' : World} {base : Nat} {e : TypeId} {size n : Nat} {v : Value} {xs : List Value} (h : w.ownsRow base e size v n xs) (hb : Below w.heap.size w w') : w'.ownsRow base e size v n xs :=
  own_move h fun k hk => hb.block k (own_lt h k hk)
theorem own_set {w : World} {base : Nat} {e : TypeId} {size n bn o : Nat} {v u : Value} {xs : List Value} (h : w.ownsRow base e size v n xs) (hb : bn < base) : (w.setCell ⟨bn, o, none⟩ u).ownsRow base e size v n xs :=
  own_move h fun k hk => Below.heap_setCell _ _ _ _ fun e => own_ge h bn hb (by rw [hk, e])
theorem own_put {w : World} {base : Nat} {e : TypeId} {size n bn : Nat} {v : Value} {xs : List Value} {n' x' : Int} {L : Option Addr} (h : w.ownsRow base e size v n xs) (hb : bn < base) : (putT w bn n' x' L).ownsRow base e size v n xs :=
  own_set (own_set (own_set h hb) hb) hb
theorem Kb.putT {wc wr : World} {bn : Nat} {n x : Int} {L : Option Addr} (h : Kb wc wr bn) : Kb wc (putT wr bn n x L) bn := h.put.put.put
theorem news2 (W : World) (o : Obj) (a b : Value) : ∀ j u, [a, b][j]? = some u → ((W.alloc o).alloc (Obj.cells #[a, b] 26)).cell? ((⟨W.heap.size + 1, 0, none⟩ : Addr).add j) = some u := by
  have h := heap_alloc_new (W.alloc o) (Obj.cells #[a, b] 26)
  have e : (W.alloc o).heap.size = W.heap.size + 1 := by simp
  rw [e] at h
  exact World.news_of_block (cs := #[a, b]) (t := 26) (fr := (0, 0)) h
set_option maxRecDepth 100000 in
set_option maxHeartbeats 4000000 in
theorem tManyS (d : Int) (S : Sets) (s n : Int) (A0 A1 A2 A3 : Option Addr) (c0 c1 c2 c3 : Nat) (os : List Int) (ds : List Bool) (ws ix : List Int) (m : Nat) (w : World) (hz : ZIn w A0 A1 A2 A3 os ds ws ix) (ho : ZOk os ds ws ix)
    (P : Plain (lo (zoneOf os ws ix)) (fun T => reso (zoneOf os ws ix) T + 62135596800)) (hn : Nan n) (h0 : -62135596800 ≤ s) (h1 : s ≤ 300000000000) (hm : m ≤ 64) :
    Calls Try.prog 8 #[schedV false d S, .agg #[.int .i64 s, .int .i64 n], zoneV A0 A1 A2 A3 c0 c1 c2 c3 os ds ws ix, .int .i64 m] w fun e w' => ∃ v, e = .returned v ∧ w'.ownsRow w.heap.size 26 2 v (many false d S (zoneOf os ws ix) m (s + 62135596800)).length (irow (many false d S (zoneOf os ws ix) m (s + 62135596800))) ∧ Below w.heap.size w w' := by
  have HLoc : Hid (∀ W, Below w.heap.size w W → Calls Try.prog 15 #[zoneV A0 A1 A2 A3 c0 c1 c2 c3 os ds ws ix] W fun e w' => ∃ b, e = .returned (.pointer (some ⟨b, 0, none⟩)) ∧ LocP w' b (zoneOf os ws ix) ∧ Below W.heap.size W w') := Lib.hid fun W hW => tLocation A0 A1 A2 A3 c0 c1 c2 c3 os ds ws ix W (hz.below hW) ho
  have HO := Lib.hid (zoneOf_bd ho)
  unfold zoneV at HLoc ⊢
  generalize hv0 : Value.slice A0 os.length c0 = v0 at HLoc ⊢
  generalize hv1 : Value.slice A1 ds.length c1 = v1 at HLoc ⊢
  generalize hv2 : Value.slice A2 ws.length c2 = v2 at HLoc ⊢
  generalize hv3 : Value.slice A3 ix.length c3 = v3 at HLoc ⊢
  clear hv0 hv1 hv2 hv3 hz ho
  generalize zoneOf os ws ix = z at P HLoc HO ⊢
  have HP := Lib.hid P
  clear P
  have nilS' := nilS
  have metS' := metS
  go_enter Try.func8, Try.ntmps8
  go_upto_region 2 with fail
  have hB := box8 w false d S s n v0 v1 v2 v3
  generalize hW : ((w.alloc _).alloc _).alloc _ = W at hB ⊢
  have hbW : Below w.heap.size w W := by rw [← hW]; exact bA (bA (bA (Below.refl _ _) _) _) _
  have hsW : w.heap.size + 3 ≤ W.heap.size := by rw [← hW]; simp
  clear hW
  have HB := Lib.hid hB
  clear hB
  go_cut [10, 11] from 10 to 19 (fun s10 s11 wc => ∃ b1 bn L, s10 = .iface 61 (.pointer (some ⟨b1, 0, none⟩)) ∧ s11 = .pointer (some ⟨bn, 0, none⟩) ∧ SpecAt wc b1 S ∧ BoxAt wc bn 3 (fun i => [.int .u64 n, .int .i64 (s + 62135596800), .pointer L].getD i undef) ∧ w.heap.size ≤ bn ∧ TLoc wc L z ∧ Below w.heap.size w wc)
  case first =>
    go_region_held3 (fun w' => w'.cell? ⟨w.heap.size, 0, none⟩ = some (.bool false) ∧ w'.cell? ⟨w.heap.size, 1, none⟩ = some (.int .i64 d) ∧ w'.cell? ⟨w.heap.size, 2, none⟩ = some (.int .u64 S.se) ∧ w'.cell? ⟨w.heap.size, 3, none⟩ = some (.int .u64 S.mi) ∧ w'.cell? ⟨w.heap.size, 4, none⟩ = some (.int .u64 S.ho) ∧ w'.cell? ⟨w.heap.size, 5, none⟩ = some (.int .u64 S.dom) ∧ w'.cell? ⟨w.heap.size, 6, none⟩ = some (.int .u64 S.mon) ∧ w'.cell? ⟨w.heap.size, 7, none⟩ = some (.int .u64 S.dow) ∧
  w'.cell? ⟨w.heap.size + 1, 0, none⟩ = some (.int .i64 s) ∧ w'.cell? ⟨w.heap.size + 1, 1, none⟩ = some (.int .i64 n) ∧
  w'.cell? ⟨w.heap.size + 1 + 1, 0, none⟩ = some v0 ∧ w'.cell? ⟨w.heap.size + 1 + 1, 1, none⟩ = some v1 ∧ w'.cell? ⟨w.heap.size + 1 + 1, 2, none⟩ = some v2 ∧ w'.cell? ⟨w.heap.size + 1 + 1, 3, none⟩ = some v3)
      (first | exact HB3.out | exact HB2.out | exact HB1.out | exact Box9.below HB.out (Below.refl _ _).drew | exact Box9.below (by assumption) (bA (Below.refl _ _) _) | exact Box9.set (Box9.set (Box9.set (by assumption) (by omega)) (by omega)) (by omega))
      (first
        | (go_at_call 13; refine (tSched0 d S _).mono ?_; rintro e w1 ⟨b1, rfl, hs1, hb1⟩; have k1 : Below W.heap.size W w1 := (by first | exact (Below.refl _ _).drew.trans hb1 | exact (bA (Below.refl _ _).drew _).trans (hb1.mono (by simp))); have z1 := k1.size; have HB1 := Lib.hid (HB.out.below k1); have HS1 := Lib.hid hs1; (first | (have hbx : Hid (BoxAt w1 W.heap.size 3 (tV 0 0 none)) := Lib.hid ((boxNew W.drew).call hb1)) | skip); clear hs1 hb1)
        | (go_at_call 15; refine (HLoc.out _ (by first | exact hbW.trans (k1.mono hbW.size) | exact bA (hbW.trans (k1.mono hbW.size)) _)).mono ?_; rintro e w2 ⟨b2, rfl, hl2, hb2⟩; have k2 : Below w1.heap.size w1 w2 := (by first | exact hb2 | exact (bA (Below.refl _ _) _).trans (hb2.mono (by simp))); have z2 := k2.size; have HB2 := Lib.hid (HB1.out.below k2); have HS2 := Lib.hid (HS1.out.below k2); have HL2 := Lib.hid hl2; (first | (have hbx := Lib.hid (hbx.out.call hb2)) | (have hbx : Hid (BoxAt w2 w1.heap.size 3 (tV 0 0 none)) := Lib.hid ((boxNew w1).call hb2)) | skip); clear HB1 HS1 hl2 hb2)
        | (go_at_call 14; refine (tMoment s n b2 z _ (by first | exact HL2.out | exact HL2.out.below (bA (Below.refl _ _) _)) h0 (by omega) hn).mono ?_; rintro e w3 ⟨rfl, hb3⟩; have k3 : Below w2.heap.size w2 w3 := (by first | exact hb3 | exact (bA (Below.refl _ _) _).trans (hb3.mono (by simp))); have z3 := k3.size; have HB3 := Lib.hid (HB2.out.below k3); have HS3 := Lib.hid (HS2.out.below k3); have HL3 := Lib.hid (HL2.out.below k3); (first | (have hbx := Lib.hid (hbx.out.call hb3)) | (have hbx : Hid (BoxAt w3 w2.heap.size 3 (tV 0 0 none)) := Lib.hid ((boxNew w2).call hb3)) | skip); (first | (have r0 := hbx.out.c 0 (by decide); have r1 := hbx.out.c 1 (by decide); have r2 := hbx.out.c 2 (by decide); have f0 := hbx.out.f 0; have f1 := hbx.out.f 1; have f2 := hbx.out.f 2) | skip); clear HB2 HS2 HL2 hb3))
    all_goals
      have hbel : Below w.heap.size w w3 := hbW.trans (((k1.mono hbW.size).trans (k2.mono (Nat.le_trans hbW.size z1))).trans (k3.mono (Nat.le_trans (Nat.le_trans hbW.size z1) z2)))
      go_wp2_with fail
      go_meet
      first
        | exact ⟨b1, _, canon b2 z, rfl, rfl, putT_spec HS3.out hbx.out, putT_box hbx.out, by omega, putT_loc HL3.out.tl hbx.out, putT_below hbel (by omega)⟩
        | exact ⟨b1, _, canon b2 z, rfl, rfl, HS3.out.below (bA (Below.refl _ _) _), boxNewV w3 _ _ _, by omega, TLoc.below HL3.out.tl (bA (Below.refl _ _) _), bA hbel _⟩
  case rest =>
    obtain ⟨b1, bn, L, rfl, rfl, hS, hX, hle, htl, hbel⟩ := hcut
    have HS := Lib.hid hS
    have HX := Lib.hid hX
    have HT := Lib.hid htl
    have HBel := Lib.hid hbel
    have hblt := hX.lt
    clear hS hX htl hbel
    go_wp2_with fail
    go_loopg [9] m (fun kq v9 wr => ∃ (l : List Int) (xc nc : Int), Aside0 (l.length + kq = m) ∧ Aside0 (l ++ many false d S z kq xc = many false d S z m (s + 62135596800)) ∧ Aside0 (0 ≤ xc ∧ xc ≤ s + 62135596800 + 200000000 * l.length) ∧ Aside0 (Nan nc) ∧ Aside0 (wr.ownsRow wc.heap.size 26 2 v9 l.length (irow l)) ∧ Aside0 (BoxAt wr bn 3 (tV nc xc L)) ∧ Aside0 (Kb wc wr bn) ∧ Aside0 (Below w.heap.size w wr))
    case atStart => exact ⟨[], s + 62135596800, n, ⟨by simp⟩, ⟨by simp⟩, ⟨by simp; omega⟩, ⟨hn⟩, ⟨⟨rfl, .inl ⟨rfl, rfl⟩⟩⟩, ⟨HX.out⟩, ⟨⟨Nat.le_refl _, fun _ _ _ => rfl⟩⟩, ⟨HBel.out⟩⟩
    case round =>
      obtain ⟨l, xc, nc, HK, HM, HR, HN, HO1, HX1, HKb, HW⟩ := hrel
      obtain ⟨A9, c9, rfl⟩ := own_form HO1.out
      by_cases c : l.length < m
      · have ct : decide ((l.length : Int) < (m : Int)) = true := by simp; omega
        obtain ⟨kk, rfl⟩ : ∃ kk, gk = kk + 1 := ⟨gk - 1, by have := HK.out; omega⟩
        have t0 : wr.cell? ⟨bn, 0, none⟩ = some (.int .u64 nc) := HX1.out.c 0 (by decide)
        have t1 : wr.cell? ⟨bn, 1, none⟩ = some (.int .i64 xc) := HX1.out.c 1 (by decide)
        have t2 : wr.cell? ⟨bn, 2, none⟩ = some (.pointer L) := HX1.out.c 2 (by decide)
        cases hnx : nextOf S z xc with
        | none =>
          have HNX := Lib.hid hnx
          clear hnx
          go_wp2_with (first
            | (go_at_call 70; refine (tNextNone _ b1 nc xc L z S HP.out (loc_keep HT.out HX.out HKb.out) (spec_keep HS.out HX.out HKb.out) HN.out HR.out.1 (by have := HR.out; omega) HNX.out).mono ?_; rintro e w4 ⟨rfl, hb4⟩; have HX4 := Lib.hid (HX1.out.call hb4); have q0 : w4.cell? ⟨bn, 0, none⟩ = some (.int .u64 nc) := HX4.out.c 0 (by decide); have q1 : w4.cell? ⟨bn, 1, none⟩ = some (.int .i64 xc) := HX4.out.c 1 (by decide); have q2 : w4.cell? ⟨bn, 2, none⟩ = some (.pointer L) := HX4.out.c 2 (by decide); have f0 := HX4.out.f 0; have f1 := HX4.out.f 1; have f2 := HX4.out.f 2; clear t0 t1 t2)
            | (go_at_call 16; refine (tAnswer0 none _).mono ?_; rintro e w5 ⟨rfl, hb5⟩))
          go_ret
          have e1 : many false d S z m (s + 62135596800) = l := by
            rw [← HM.out]
            simp [many, nxt, HNX.out]
          have hw4 : Below w.heap.size w w4 := HW.out.trans (hb4.mono HW.out.size)
          have hw4' : Below w.heap.size w (putT w4 bn 0 0 none) := putT_below hw4 hle
          refine ⟨_, rfl, ?_, bA (hw4'.trans (hb5.mono hw4'.size)) _⟩
          rw [e1]
          exact own_weaken ((own_call (own_put (own_call HO1.out hb4) hblt) hb5).alloc _) HBel.out.size
        | some x' =>
          have hbd := IsNext.bd' HO.out (nextOf_is hnx)
          have HNX := Lib.hid hnx
          have hx' : 0 < x' ∧ x' ≤ 2000000000000 := by have := HR.out; omega
          have HBD := Lib.hid hbd
          clear hnx hbd
          obtain ⟨i0, hi0', hz0, hz1, hz2⟩ := info_parts info26
          go_wp2_with (first
            | (go_at_call 70; refine (tNextSome _ b1 nc xc x' L z S HP.out (loc_keep HT.out HX.out HKb.out) (spec_keep HS.out HX.out HKb.out) HN.out HR.out.1 (by have := HR.out; omega) HNX.out).mono ?_; rintro e w4 ⟨rfl, hb4⟩; have HX4 := Lib.hid (HX1.out.call hb4); have q0 : w4.cell? ⟨bn, 0, none⟩ = some (.int .u64 nc) := HX4.out.c 0 (by decide); have q1 : w4.cell? ⟨bn, 1, none⟩ = some (.int .i64 xc) := HX4.out.c 1 (by decide); have q2 : w4.cell? ⟨bn, 2, none⟩ = some (.pointer L) := HX4.out.c 2 (by decide); have f0 := HX4.out.f 0; have f1 := HX4.out.f 1; have f2 := HX4.out.f 2; clear t0 t1 t2)
            | (go_at_call 16; refine (tAnswer1 x' L _ hx'.1 hx'.2).mono ?_; rintro e w5 ⟨rfl, hb5⟩; have HX5 : Hid (BoxAt w5 bn 3 (tV 0 x' L)) := Lib.hid ((putT_box HX4.out).call hb5); have HO5 := Lib.hid (own_call (own_put (own_call HO1.out hb4) hblt) hb5); have HK5 := Lib.hid (((HKb.out.call hb4).putT).call hb5); clear q0 q1 q2 f0 f1 f2)
            | (at_builtin; refine wpList_append_lies _ rfl _ _ _ rfl wc.heap.size 26 i0 _ 2 16 und34 hi0' hz0 hz1 hz2 rfl (by omega) (.slice A9 l.length c9) l.length (irow l) rfl ((HO5.out.alloc _).alloc _) ⟨w5.heap.size + 1, 0, none⟩ 1 1 [.int .i64 (x' - 62135596800), .int .i64 0] rfl rfl (news2 _ _ _ _) (by simp [Value.oneCell']) (by omega) (by unfold maxLen; omega) (by omega) (by have := HK5.out.1; simp; omega) (w5.heap.size + 1 + 1) (by simp) ?_; intro g9 cap9 w6 hown6 hgrow hat hlt))
          go_roundg kk
          case measure => omega
          case rel =>
            have hw4 : Below w.heap.size w w4 := HW.out.trans (hb4.mono HW.out.size)
            have hw4' : Below w.heap.size w (putT w4 bn 0 x' L) := putT_below hw4 hle
            have hw5 : Below w.heap.size w w5 := hw4'.trans (hb5.mono hw4'.size)
            have a5 : Below w5.heap.size w5 ((w5.alloc (Obj.cells #[.int .i64 (x' - 62135596800), .int .i64 0] 26)).alloc (Obj.cells #[.int .i64 (x' - 62135596800), .int .i64 0] 26)) := bA (bA (Below.refl _ _) _) _
            have HX6 := HX5.out.call a5
            have HK6 := HK5.out.call a5
            have h65 := hgrow.size
            refine ⟨l ++ [x'], x', 0, ⟨by have := HK.out; simp; omega⟩, ⟨?_⟩, ⟨by have := HR.out; have := HBD.out; simp; omega⟩, ⟨⟨by decide, by decide⟩⟩, ⟨by simpa [irow_app, irow] using hown6⟩, ⟨HX6.heap (hgrow.block bn HX6.lt (own_ge HO5.out bn hblt)) h65⟩, ⟨HK6.grow hgrow h65 fun k hk => own_ge HO5.out k hk⟩, ⟨pw_below_grown (hw5.trans (a5.mono hw5.size)) _ (Nat.le_trans hw5.size a5.size) hgrow fun k hk => ?_⟩⟩
            · rw [← HM.out]
              simp [many, nxt, HNX.out]
            · rcases Nat.lt_or_ge k wc.heap.size with q | q
              · exact absurd hk.symm (own_ge HO5.out k q)
              · exact Nat.le_trans HBel.out.size q
      · have ct : decide ((l.length : Int) < (m : Int)) = false := by simp; omega
        have e0 : gk = 0 := by have := HK.out; omega
        have e1 : many false d S z m (s + 62135596800) = l := by
          rw [← HM.out, e0]
          simp [many]
        go_wp2_with fail
        go_ret
        refine ⟨_, rfl, ?_, HW.out⟩
        rw [e1]
        exact own_weaken HO1.out HBel.out.size
end Go.Proofs.Ytjmgebhjkbcpcaa.NM
set_option linter.unusedVariables false
set_option linter.unusedSimpArgs false
namespace Go.Proofs.Ytjmgebhjkbcpcaa.NM
open Go.RowKit Cal CronPl Go.Proofs.YtjmgebhjkbcpcaaW.PrintWords
attribute [local go_sem ↓] Go.wp_at_zero Go.wp_at_succ
set_option maxRecDepth 100000 in
set_option maxHeartbeats 4000000 in
theorem tManyE (d : Int) (S : Sets) (s n : Int) (A0 A1 A2 A3 : Option Addr) (c0 c1 c2 c3 : Nat) (os : List Int) (ds : List Bool) (ws ix : List Int) (m : Nat) (w : World) (hz : ZIn w A0 A1 A2 A3 os ds ws ix) (ho : ZOk os ds ws ix)
    (hd0 : 1000000000 ≤ d) (hd1 : d < 9223372036854775808) (hdm : d % 1000000000 = 0) (hn : Nan n) (h0 : -62135596800 ≤ s) (h1 : s ≤ 300000000000) (hm : m ≤ 64) :
    Calls Try.prog 8 #[schedV true d S, .agg #[.int .i64 s, .int .i64 n], zoneV A0 A1 A2 A3 c0 c1 c2 c3 os ds ws ix, .int .i64 m] w fun e w' => ∃ v, e = .returned v ∧ w'.ownsRow w.heap.size 26 2 v (many true d S (zoneOf os ws ix) m (s + 62135596800)).length (irow (many true d S (zoneOf os ws ix) m (s + 62135596800))) ∧ Below w.heap.size w w' := by
  have HLoc : Hid (∀ W, Below w.heap.size w W → Calls Try.prog 15 #[zoneV A0 A1 A2 A3 c0 c1 c2 c3 os ds ws ix] W fun e w' => ∃ b, e = .returned (.pointer (some ⟨b, 0, none⟩)) ∧ LocP w' b (zoneOf os ws ix) ∧ Below W.heap.size W w') := Lib.hid fun W hW => tLocation A0 A1 A2 A3 c0 c1 c2 c3 os ds ws ix W (hz.below hW) ho
  have HO := Lib.hid (zoneOf_bd ho)
  unfold zoneV at HLoc ⊢
  generalize hv0 : Value.slice A0 os.length c0 = v0 at HLoc ⊢
  generalize hv1 : Value.slice A1 ds.length c1 = v1 at HLoc ⊢
  generalize hv2 : Value.slice A2 ws.length c2 = v2 at HLoc ⊢
  generalize hv3 : Value.slice A3 ix.length c3 = v3 at HLoc ⊢
  clear hv0 hv1 hv2 hv3 hz ho
  generalize zoneOf os ws ix = z at HLoc HO ⊢
  have nilS' := nilE
  have metS' := metE
  go_enter Try.func8, Try.ntmps8
  go_upto_region 2 with fail
  have hB := box8 w true d S s n v0 v1 v2 v3
  generalize hW : ((w.alloc _).alloc _).alloc _ = W at hB ⊢
  have hbW : Below w.heap.size w W := by rw [← hW]; exact bA (bA (bA (Below.refl _ _) _) _) _
  have hsW : w.heap.size + 3 ≤ W.heap.size := by rw [← hW]; simp
  clear hW
  have HB := Lib.hid hB
  clear hB
  go_cut [10, 11] from 10 to 19 (fun s10 s11 wc => ∃ bn L, s10 = .iface 60 (.agg #[.int .i64 d]) ∧ s11 = .pointer (some ⟨bn, 0, none⟩) ∧ BoxAt wc bn 3 (fun i => [.int .u64 n, .int .i64 (s + 62135596800), .pointer L].getD i undef) ∧ w.heap.size ≤ bn ∧ TLoc wc L z ∧ Below w.heap.size w wc)
  case first =>
    go_region_held3 (fun w' => w'.cell? ⟨w.heap.size, 0, none⟩ = some (.bool true) ∧ w'.cell? ⟨w.heap.size, 1, none⟩ = some (.int .i64 d) ∧ w'.cell? ⟨w.heap.size, 2, none⟩ = some (.int .u64 S.se) ∧ w'.cell? ⟨w.heap.size, 3, none⟩ = some (.int .u64 S.mi) ∧ w'.cell? ⟨w.heap.size, 4, none⟩ = some (.int .u64 S.ho) ∧ w'.cell? ⟨w.heap.size, 5, none⟩ = some (.int .u64 S.dom) ∧ w'.cell? ⟨w.heap.size, 6, none⟩ = some (.int .u64 S.mon) ∧ w'.cell? ⟨w.heap.size, 7, none⟩ = some (.int .u64 S.dow) ∧
  w'.cell? ⟨w.heap.size + 1, 0, none⟩ = some (.int .i64 s) ∧ w'.cell? ⟨w.heap.size + 1, 1, none⟩ = some (.int .i64 n) ∧
  w'.cell? ⟨w.heap.size + 1 + 1, 0, none⟩ = some v0 ∧ w'.cell? ⟨w.heap.size + 1 + 1, 1, none⟩ = some v1 ∧ w'.cell? ⟨w.heap.size + 1 + 1, 2, none⟩ = some v2 ∧ w'.cell? ⟨w.heap.size + 1 + 1, 3, none⟩ = some v3)
      (first | exact HB3.out | exact HB2.out | exact HB1.out | exact Box9.below HB.out (Below.refl _ _).drew | exact Box9.below (by assumption) (bA (Below.refl _ _) _) | exact Box9.set (Box9.set (Box9.set (by assumption) (by omega)) (by omega)) (by omega))
      (first
        | (go_at_call 13; refine (tSched1 d S _).mono ?_; rintro e w1 ⟨rfl, hb1⟩; have k1 : Below W.heap.size W w1 := (by first | exact (Below.refl _ _).drew.trans hb1 | exact (bA (Below.refl _ _).drew _).trans (hb1.mono (by simp))); have z1 := k1.size; have HB1 := Lib.hid (HB.out.below k1); (first | (have hbx : Hid (BoxAt w1 W.heap.size 3 (tV 0 0 none)) := Lib.hid ((boxNew W.drew).call hb1)) | skip); clear hb1)
        | (go_at_call 15; refine (HLoc.out _ (by first | exact hbW.trans (k1.mono hbW.size) | exact bA (hbW.trans (k1.mono hbW.size)) _)).mono ?_; rintro e w2 ⟨b2, rfl, hl2, hb2⟩; have k2 : Below w1.heap.size w1 w2 := (by first | exact hb2 | exact (bA (Below.refl _ _) _).trans (hb2.mono (by simp))); have z2 := k2.size; have HB2 := Lib.hid (HB1.out.below k2); have HL2 := Lib.hid hl2; (first | (have hbx := Lib.hid (hbx.out.call hb2)) | (have hbx : Hid (BoxAt w2 w1.heap.size 3 (tV 0 0 none)) := Lib.hid ((boxNew w1).call hb2)) | skip); clear HB1 hl2 hb2)
        | (go_at_call 14; refine (tMoment s n b2 z _ (by first | exact HL2.out | exact HL2.out.below (bA (Below.refl _ _) _)) h0 (by omega) hn).mono ?_; rintro e w3 ⟨rfl, hb3⟩; have k3 : Below w2.heap.size w2 w3 := (by first | exact hb3 | exact (bA (Below.refl _ _) _).trans (hb3.mono (by simp))); have z3 := k3.size; have HB3 := Lib.hid (HB2.out.below k3); have HL3 := Lib.hid (HL2.out.below k3); (first | (have hbx := Lib.hid (hbx.out.call hb3)) | (have hbx : Hid (BoxAt w3 w2.heap.size 3 (tV 0 0 none)) := Lib.hid ((boxNew w2).call hb3)) | skip); (first | (have r0 := hbx.out.c 0 (by decide); have r1 := hbx.out.c 1 (by decide); have r2 := hbx.out.c 2 (by decide); have f0 := hbx.out.f 0; have f1 := hbx.out.f 1; have f2 := hbx.out.f 2) | skip); clear HB2 HL2 hb3))
    all_goals
      have hbel : Below w.heap.size w w3 := hbW.trans (((k1.mono hbW.size).trans (k2.mono (Nat.le_trans hbW.size z1))).trans (k3.mono (Nat.le_trans (Nat.le_trans hbW.size z1) z2)))
      go_wp2_with fail
      go_meet
      first
        | exact ⟨_, canon b2 z, rfl, rfl, putT_box hbx.out, by omega, putT_loc HL3.out.tl hbx.out, putT_below hbel (by omega)⟩
        | exact ⟨_, canon b2 z, rfl, rfl, boxNewV w3 _ _ _, by omega, TLoc.below HL3.out.tl (bA (Below.refl _ _) _), bA hbel _⟩
  case rest =>
    obtain ⟨bn, L, rfl, rfl, hX, hle, htl, hbel⟩ := hcut
    have HX := Lib.hid hX
    have HT := Lib.hid htl
    have HBel := Lib.hid hbel
    have hblt := hX.lt
    clear hX htl hbel
    go_wp2_with fail
    go_loopg [9] m (fun kq v9 wr => ∃ (l : List Int) (xc nc : Int), Aside0 (l.length + kq = m) ∧ Aside0 (l ++ many true d S z kq xc = many true d S z m (s + 62135596800)) ∧ Aside0 (0 ≤ xc ∧ xc ≤ s + 62135596800 + 9223372037 * l.length) ∧ Aside0 (Nan nc) ∧ Aside0 (wr.ownsRow wc.heap.size 26 2 v9 l.length (irow l)) ∧ Aside0 (BoxAt wr bn 3 (tV nc xc L)) ∧ Aside0 (Kb wc wr bn) ∧ Aside0 (Below w.heap.size w wr))
    case atStart => exact ⟨[], s + 62135596800, n, ⟨by simp⟩, ⟨by simp⟩, ⟨by simp; omega⟩, ⟨hn⟩, ⟨⟨rfl, .inl ⟨rfl, rfl⟩⟩⟩, ⟨HX.out⟩, ⟨⟨Nat.le_refl _, fun _ _ _ => rfl⟩⟩, ⟨HBel.out⟩⟩
    case round =>
      obtain ⟨l, xc, nc, HK, HM, HR, HN, HO1, HX1, HKb, HW⟩ := hrel
      obtain ⟨A9, c9, rfl⟩ := own_form HO1.out
      by_cases c : l.length < m
      · have ct : decide ((l.length : Int) < (m : Int)) = true := by simp; omega
        obtain ⟨kk, rfl⟩ : ∃ kk, gk = kk + 1 := ⟨gk - 1, by have := HK.out; omega⟩
        have t0 : wr.cell? ⟨bn, 0, none⟩ = some (.int .u64 nc) := HX1.out.c 0 (by decide)
        have t1 : wr.cell? ⟨bn, 1, none⟩ = some (.int .i64 xc) := HX1.out.c 1 (by decide)
        have t2 : wr.cell? ⟨bn, 2, none⟩ = some (.pointer L) := HX1.out.c 2 (by decide)
        obtain ⟨x', hnx⟩ : ∃ x', xc + d / 1000000000 = x' := ⟨_, rfl⟩
        have hbd : xc < x' ∧ x' ≤ xc + 9223372037 := by omega
        have HNX := Lib.hid hnx
        have hx' : 0 < x' ∧ x' ≤ 2000000000000 := by have := HR.out; omega
        have HBD := Lib.hid hbd
        clear hnx hbd
        obtain ⟨i0, hi0', hz0, hz1, hz2⟩ := info_parts info26
        go_wp2_with (first
          | (go_at_call 67; refine (tEvery nc d xc L _ HN.out hd0 hd1 hdm HR.out.1 (by have := HR.out; omega)).mono ?_; rintro e w4 ⟨rfl, hb4⟩; rw [HNX.out]; have HX4 := Lib.hid (HX1.out.call hb4); have q0 : w4.cell? ⟨bn, 0, none⟩ = some (.int .u64 nc) := HX4.out.c 0 (by decide); have q1 : w4.cell? ⟨bn, 1, none⟩ = some (.int .i64 xc) := HX4.out.c 1 (by decide); have q2 : w4.cell? ⟨bn, 2, none⟩ = some (.pointer L) := HX4.out.c 2 (by decide); have f0 := HX4.out.f 0; have f1 := HX4.out.f 1; have f2 := HX4.out.f 2; clear t0 t1 t2)
          | (go_at_call 16; refine (tAnswer1 x' L _ hx'.1 hx'.2).mono ?_; rintro e w5 ⟨rfl, hb5⟩; have HX5 : Hid (BoxAt w5 bn 3 (tV 0 x' L)) := Lib.hid ((putT_box HX4.out).call hb5); have HO5 := Lib.hid (own_call (own_put (own_call HO1.out hb4) hblt) hb5); have HK5 := Lib.hid (((HKb.out.call hb4).putT).call hb5); clear q0 q1 q2 f0 f1 f2)
          | (at_builtin; refine wpList_append_lies _ rfl _ _ _ rfl wc.heap.size 26 i0 _ 2 16 und34 hi0' hz0 hz1 hz2 rfl (by omega) (.slice A9 l.length c9) l.length (irow l) rfl ((HO5.out.alloc _).alloc _) ⟨w5.heap.size + 1, 0, none⟩ 1 1 [.int .i64 (x' - 62135596800), .int .i64 0] rfl rfl (news2 _ _ _ _) (by simp [Value.oneCell']) (by omega) (by unfold maxLen; omega) (by omega) (by have := HK5.out.1; simp; omega) (w5.heap.size + 1 + 1) (by simp) ?_; intro g9 cap9 w6 hown6 hgrow hat hlt))
        go_roundg kk
        case measure => omega
        case rel =>
          have hw4 : Below w.heap.size w w4 := HW.out.trans (hb4.mono HW.out.size)
          have hw4' : Below w.heap.size w (putT w4 bn 0 x' L) := putT_below hw4 hle
          have hw5 : Below w.heap.size w w5 := hw4'.trans (hb5.mono hw4'.size)
          have a5 : Below w5.heap.size w5 ((w5.alloc (Obj.cells #[.int .i64 (x' - 62135596800), .int .i64 0] 26)).alloc (Obj.cells #[.int .i64 (x' - 62135596800), .int .i64 0] 26)) := bA (bA (Below.refl _ _) _) _
          have HX6 := HX5.out.call a5
          have HK6 := HK5.out.call a5
          have h65 := hgrow.size
          refine ⟨l ++ [x'], x', 0, ⟨by have := HK.out; simp; omega⟩, ⟨?_⟩, ⟨by have := HR.out; have := HBD.out; simp; omega⟩, ⟨⟨by decide, by decide⟩⟩, ⟨by simpa [irow_app, irow] using hown6⟩, ⟨HX6.heap (hgrow.block bn HX6.lt (own_ge HO5.out bn hblt)) h65⟩, ⟨HK6.grow hgrow h65 fun k hk => own_ge HO5.out k hk⟩, ⟨pw_below_grown (hw5.trans (a5.mono hw5.size)) _ (Nat.le_trans hw5.size a5.size) hgrow fun k hk => ?_⟩⟩
          · rw [← HM.out]
            simp [many, nxt, HNX.out]
          · rcases Nat.lt_or_ge k wc.heap.size with q | q
            · exact absurd hk.symm (own_ge HO5.out k q)
            · exact Nat.le_trans HBel.out.size q
      · have ct : decide ((l.length : Int) < (m : Int)) = false := by simp; omega
        have e0 : gk = 0 := by have := HK.out; omega
        have e1 : many true d S z m (s + 62135596800) = l := by
          rw [← HM.out, e0]
          simp [many]
        go_wp2_with fail
        go_ret
        refine ⟨_, rfl, ?_, HW.out⟩
        rw [e1]
        exact own_weaken HO1.out HBel.out.size
theorem tMany (ev : Bool) (d : Int) (S : Sets) (s n : Int) (A0 A1 A2 A3 : Option Addr) (c0 c1 c2 c3 : Nat) (os : List Int) (ds : List Bool) (ws ix : List Int) (m : Nat) (w : World) (hz : ZIn w A0 A1 A2 A3 os ds ws ix) (ho : ZOk os ds ws ix)
    (P : Plain (lo (zoneOf os ws ix)) (fun T => reso (zoneOf os ws ix) T + 62135596800)) (hn : Nan n) (h0 : -62135596800 ≤ s) (h1 : s ≤ 300000000000) (hm : m ≤ 64) (he : EvOk ev d) :
    Calls Try.prog 8 #[schedV ev d S, .agg #[.int .i64 s, .int .i64 n], zoneV A0 A1 A2 A3 c0 c1 c2 c3 os ds ws ix, .int .i64 m] w fun e w' => ∃ v, e = .returned v ∧ w'.ownsRow w.heap.size 26 2 v (many ev d S (zoneOf os ws ix) m (s + 62135596800)).length (irow (many ev d S (zoneOf os ws ix) m (s + 62135596800))) ∧ Below w.heap.size w w' := by
  cases ev with
  | true =>
    obtain ⟨d0, d1, d2⟩ := he rfl
    exact tManyE d S s n A0 A1 A2 A3 c0 c1 c2 c3 os ds ws ix m w hz ho d0 d1 d2 hn h0 h1 hm
  | false => exact tManyS d S s n A0 A1 A2 A3 c0 c1 c2 c3 os ds ws ix m w hz ho P hn h0 h1 hm
end Go.Proofs.Ytjmgebhjkbcpcaa.NM
