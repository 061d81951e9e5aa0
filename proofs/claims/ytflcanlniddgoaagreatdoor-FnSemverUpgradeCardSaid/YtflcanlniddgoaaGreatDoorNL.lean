/- FnSemverUpgrade: for every version the law's function returns true and leaves its argument as it was; no condition is added, the statement is the given tied card. -/
import Derived.Test.YtflcanlniddgoaaGreatDoorNK
import Derived.Deep.CutRange
import Derived.Test.YtflcanlniddgoaaGreatDoorRows
import Derived.Test.YtflcanlniddgoaaGreatDoorCards
import Derived.Test.YtflcanlniddgoaaGreatDoorTie
import Derived.WalkKit
import Derived.ProofKit
import Derived.OpenShut
import Derived.ShutString
import Derived.ChangeOld
import Derived.Below
import Derived.SizedLaws
import Derived.Lib.SmallJoins
import Derived.Deep.Grids
import Derived.ChangeMaps5
import Derived.LaidMore
import Derived.Lay
import Derived.SevenTiedAt
import Derived.Stop.Joined
import Derived.Lib.LaidU8
section
set_option linter.unusedVariables false
set_option linter.unusedSimpArgs false
/- the law's walk -/
namespace Go.Proofs.YtflcanlniddgoaaGreatDoor.Sv
open Go Go.RowKit Rx
set_option maxRecDepth 100000
structure L3 (w : World) (T a b c n1 n2 n3 P M J : Nat) (W : World) : Prop where
  lw : LW w T a b c e0 e0 W
  r4 : W.heap[P]? = some (.cells (rowOf a b n1) 24 (0, 0))
  r5 : W.heap[M]? = some (.cells (rowOf a n2 0) 24 (0, 0))
  r6 : W.heap[J]? = some (.cells (rowOf n3 0 0) 24 (0, 0))
theorem L3.keep {w W W' : World} {T a b c n1 n2 n3 P M J : Nat} (h : L3 w T a b c n1 n2 n3 P M J W) (hb : Below W.heap.size W W') : L3 w T a b c n1 n2 n3 P M J W' := ⟨h.lw.keep hb, blk hb h.r4, blk hb h.r5, blk hb h.r6⟩
/-- is anything asked -/
def askB (a b c : Nat) : Bool := plainB a b c && !(decide (a = 0) && (decide (b = 0) && decide (c = 0)))
set_option maxHeartbeats 16000000 in
theorem lawA (a b c : Nat) (ha : a < 18446744073709551616) (hb : b < 18446744073709551616) (hc : c < 18446744073709551616) (p m : ByteArray) (w : World) (hP : Pow w) (hT : Lib.Utf8Tabs 14 15 w) :
    Calls Tryz.prog 3 #[iv a b c p m] w fun e w' => e = .returned (.bool true) ∧ Below w.heap.size w w' := by
  have H0 : LW w w.heap.size a b c p m (w.alloc (.cells #[.int .u64 a, .int .u64 b, .int .u64 c, .string p, .string m] 24)) :=
    have hal := (Below.refl _ w).alloc (Nat.le_refl _) _
    ⟨heap_alloc_new w _, hP.below hal, Utf8Tabs_below hT hal, hal, Nat.le_refl _⟩
  have HH := Lib.hid (And.intro ha (And.intro hb hc))
  have HX := Lib.hid (fun w => And.intro (l4 a b c p m w) (And.intro (l5 a b c p m w) (l6 a b c w)))
  have HPT := Lib.hid (And.intro hP hT)
  clear ha hb hc hP hT
  unfold iv at *
  go_enter Tryz.func3, Tryz.ntmps3
  go_upto_region 1 with fail
  generalize hw0 : w.alloc (.cells #[.int .u64 a, .int .u64 b, .int .u64 c, .string p, .string m] 24) = w0 at *
  clear hw0
  generalize hTT : w.heap.size = T at H0 ⊢
  have HTT := Lib.hid hTT
  clear hTT
  obtain ⟨q0, q1, q2, q3, q4⟩ := H0.cells
  go_upto_region 3 with (go_at_call 4; (with_reducible refine (HX.out _).1.mono ?_); rintro e w1 ⟨⟨r, rfl⟩, hb⟩; have H1 := H0.keep hb; clear hb q0 q1 q2 q3 q4; obtain ⟨q0, q1, q2, q3, q4⟩ := H1.cells)
  · go_ret
    exact ⟨rfl, H1.b⟩
  · go_upto_region 4 with (go_at_call 5; (with_reducible refine (HX.out _).2.1.mono ?_); rintro e w2 ⟨rfl, hb⟩; have H2 := H1.keep hb; clear hb q0 q1 q2 q3 q4; obtain ⟨q0, q1, q2, q3, q4⟩ := H2.cells; have fz := fun k => frozen_of_row _ _ k _ _ H2.t)
    have H3 : LW w T a b c e0 e0 (((((w2.setCell ⟨T, 0, none⟩ (.int .u64 a)).setCell ⟨T, 1, none⟩ (.int .u64 b)).setCell ⟨T, 2, none⟩ (.int .u64 c)).setCell ⟨T, 3, none⟩ (.string e0)).setCell ⟨T, 4, none⟩ (.string e0)) := by
      have hb : Below w.heap.size w (((((w2.setCell ⟨T, 0, none⟩ (.int .u64 a)).setCell ⟨T, 1, none⟩ (.int .u64 b)).setCell ⟨T, 2, none⟩ (.int .u64 c)).setCell ⟨T, 3, none⟩ (.string e0)).setCell ⟨T, 4, none⟩ (.string e0)) := ((((H2.b.setCell H2.l _).setCell H2.l _).setCell H2.l _).setCell H2.l _).setCell H2.l _
      exact ⟨heap_setCell_same _ _ 4 _ _ _ (heap_setCell_same _ _ 3 _ _ _ (heap_setCell_same _ _ 2 _ _ _ (heap_setCell_same _ _ 1 _ _ _ (heap_setCell_same _ _ 0 _ _ _ H2.t)))), HPT.out.1.below hb, Utf8Tabs_below HPT.out.2 hb, hb, H2.l⟩
    generalize (((((w2.setCell ⟨T, 0, none⟩ (.int .u64 a)).setCell ⟨T, 1, none⟩ (.int .u64 b)).setCell ⟨T, 2, none⟩ (.int .u64 c)).setCell ⟨T, 3, none⟩ (.string e0)).setCell ⟨T, 4, none⟩ (.string e0)) = w3 at *
    clear q0 q1 q2 q3 q4 fz H1 H2
    obtain ⟨q0, q1, q2, q3, q4⟩ := H3.cells
    go_cut [20] from 13 to 20 (fun s20 wc => s20 = .bool (!(askB a b c)) ∧ LW w T a b c e0 e0 wc)
    case first =>
      have HX6 := Lib.hid (fun w => (HX.out w).2.2)
      cases hpl : plainB a b c with
      | false =>
        rw [hpl] at HX6
        have HPL := Lib.hid hpl
        clear hpl
        go_wp2_with (go_at_call 6; (with_reducible refine (HX6.out _).mono ?_); rintro e w4 ⟨rfl, hb⟩; have H4 := H3.keep hb; clear hb q0 q1 q2 q3 q4; obtain ⟨q0, q1, q2, q3, q4⟩ := H4.cells)
        go_meet
        exact ⟨by simp [askB, HPL.out], H4⟩
      | true =>
        rw [hpl] at HX6
        have HPL := Lib.hid hpl
        clear hpl
        by_cases x1 : a = 0
        · by_cases x2 : b = 0
          · by_cases x3 : c = 0
            · skip
              have HK := Lib.hid (show askB a b c = false by unfold askB; rw [HPL.out]; simp [x1, x2, x3])
              have Z1 := Lib.hid (show ((a : Int) == 0) = true by simp; omega)
              have X1 := Lib.hid x1
              clear x1
              have Z2 := Lib.hid (show ((b : Int) == 0) = true by simp; omega)
              have X2 := Lib.hid x2
              clear x2
              have Z3 := Lib.hid (show ((c : Int) == 0) = true by simp; omega)
              have X3 := Lib.hid x3
              clear x3
              go_wp2_with (go_at_call 6; (with_reducible refine (HX6.out _).mono ?_); rintro e w4 ⟨rfl, hb⟩; have H4 := H3.keep hb; clear hb q0 q1 q2 q3 q4; obtain ⟨q0, q1, q2, q3, q4⟩ := H4.cells; have z1 := Z1.out; have z2 := Z2.out; have z3 := Z3.out)
              go_meet
              exact ⟨by rw [HK.out]; rfl, H4⟩
            · skip
              have HK := Lib.hid (show askB a b c = true by unfold askB; rw [HPL.out]; simp [x1, x2, x3])
              have Z1 := Lib.hid (show ((a : Int) == 0) = true by simp; omega)
              have X1 := Lib.hid x1
              clear x1
              have Z2 := Lib.hid (show ((b : Int) == 0) = true by simp; omega)
              have X2 := Lib.hid x2
              clear x2
              have Z3 := Lib.hid (show ((c : Int) == 0) = false by simp; omega)
              have X3 := Lib.hid x3
              clear x3
              go_wp2_with (go_at_call 6; (with_reducible refine (HX6.out _).mono ?_); rintro e w4 ⟨rfl, hb⟩; have H4 := H3.keep hb; clear hb q0 q1 q2 q3 q4; obtain ⟨q0, q1, q2, q3, q4⟩ := H4.cells; have z1 := Z1.out; have z2 := Z2.out; have z3 := Z3.out)
              go_meet
              exact ⟨by rw [HK.out]; rfl, H4⟩
          · skip
            have HK := Lib.hid (show askB a b c = true by unfold askB; rw [HPL.out]; simp [x1, x2])
            have Z1 := Lib.hid (show ((a : Int) == 0) = true by simp; omega)
            have X1 := Lib.hid x1
            clear x1
            have Z2 := Lib.hid (show ((b : Int) == 0) = false by simp; omega)
            have X2 := Lib.hid x2
            clear x2
            go_wp2_with (go_at_call 6; (with_reducible refine (HX6.out _).mono ?_); rintro e w4 ⟨rfl, hb⟩; have H4 := H3.keep hb; clear hb q0 q1 q2 q3 q4; obtain ⟨q0, q1, q2, q3, q4⟩ := H4.cells; have z1 := Z1.out; have z2 := Z2.out)
            go_meet
            exact ⟨by rw [HK.out]; rfl, H4⟩
        · skip
          have HK := Lib.hid (show askB a b c = true by unfold askB; rw [HPL.out]; simp [x1])
          have Z1 := Lib.hid (show ((a : Int) == 0) = false by simp; omega)
          have X1 := Lib.hid x1
          clear x1
          go_wp2_with (go_at_call 6; (with_reducible refine (HX6.out _).mono ?_); rintro e w4 ⟨rfl, hb⟩; have H4 := H3.keep hb; clear hb q0 q1 q2 q3 q4; obtain ⟨q0, q1, q2, q3, q4⟩ := H4.cells; have z1 := Z1.out)
          go_meet
          exact ⟨by rw [HK.out]; rfl, H4⟩
    case rest =>
      obtain ⟨rfl, H4⟩ := hcut
      clear H3 q0 q1 q2 q3 q4
      obtain ⟨q0, q1, q2, q3, q4⟩ := H4.cells
      cases hask : askB a b c with
      | false =>
        simp only [Bool.not_false]
        clear hask
        go_wp2
        go_ret
        exact ⟨rfl, H4.b⟩
      | true =>
        simp only [Bool.not_true]
        have HA := Lib.hid hask
        clear hask
        go_upto_region 7 with (go_at_call 7; (with_reducible refine (tVText a b c HH.out.1 HH.out.2.1 HH.out.2.2 _ H4.pow).mono ?_); rintro e w5 ⟨rfl, hb⟩; have H5 := H4.keep hb; clear hb q0 q1 q2 q3 q4)
        have hpl : a + 1 < 18446744073709551616 ∧ b + 1 < 18446744073709551616 ∧ c + 1 < 18446744073709551616 ∧ ¬ (a = 0 ∧ b = 0 ∧ c = 0) := by
          have h := HA.out
          unfold askB plainB at h
          simp at h
          omega
        obtain ⟨n1, hn1⟩ : ∃ n, n = c + 1 := ⟨_, rfl⟩
        obtain ⟨n2, hn2⟩ : ∃ n, n = b + 1 := ⟨_, rfl⟩
        obtain ⟨n3, hn3⟩ : ∃ n, n = a + 1 := ⟨_, rfl⟩
        have h8 := fun W h => tVPatch a b c n1 HH.out.1 HH.out.2.1 HH.out.2.2 (by omega) hn1 W h
        have h9 := fun W h => tVMinor a b c n2 HH.out.1 HH.out.2.1 HH.out.2.2 (by omega) hn2 W h
        have h10 := fun W h => tVMajor a b c n3 HH.out.1 HH.out.2.1 HH.out.2.2 (by omega) hn3 W h
        have HN := Lib.hid (And.intro hn1 (And.intro hn2 hn3))
        have HNZ := Lib.hid hpl.2.2.2
        have H11 := Lib.hid (show ∀ op : Bs, (op = [126] ∨ op = [94] ∨ op = [62]) → ∀ (x y z : Nat) (want : Bool) (W : World), Lib.Utf8Tabs 14 15 W → opR op x y z a b c = want → Calls Tryz.prog 11 #[.string (⟨op.toArray⟩ ++ (bytesOf (dv a b c).text)), .agg #[.int .u64 x, .int .u64 y, .int .u64 z, .string e0, .string e0], .bool false, .bool want] W fun e w' => e = .returned (.bool true) ∧ Below W.heap.size W w' from fun op ho x y z want W ht hr => by
          have h := t11one ho x y z a b c HH.out.1 HH.out.2.1 HH.out.2.2 false want W ht
          rw [hr] at h
          have e : bytesOf (op ++ (dv a b c).text) = ⟨op.toArray⟩ ++ (bytesOf (dv a b c).text) := (bytes_app op _).symm
          rw [e, beq_self_eq_true] at h
          exact h)
        clear hpl hn1 hn2 hn3
        have hT5 : T < w5.heap.size := (Array.getElem?_eq_some_iff.1 H5.t).1
        refine region7 _ _ T _ _ _ _ _ _ _ _ _ w a b c n1 n2 n3 w5 H5 HPT.out hT5 h8 h9 h10 (fun s4 s5 s6 s23 s24 s25 s26 s27 s28 W6 hl hb4 hb5 hb6 => ?_)
        clear h8 h9 h10 hT5
        unfold fr7
        obtain ⟨P, rfl, -, -, r4⟩ := hb4
        obtain ⟨M, rfl, -, -, r5⟩ := hb5
        obtain ⟨J, rfl, -, -, r6⟩ := hb6
        have HZ : L3 w T a b c n1 n2 n3 P M J W6 := ⟨hl, r4, r5, r6⟩
        clear H5 H4 hl r4 r5 r6
        have z1 : (bytesOf (dv a b c).text).size < 100 := by rw [bytesOf_size]; have := dv_len a b c HH.out.1 HH.out.2.1 HH.out.2.2; omega
        have p0 : W6.cell? ⟨P, 0, none⟩ = some (.int .u64 (a : Nat)) := cell_of_row _ _ 0 _ _ _ HZ.r4; have p1 : W6.cell? ⟨P, 1, none⟩ = some (.int .u64 (b : Nat)) := cell_of_row _ _ 1 _ _ _ HZ.r4; have p2 : W6.cell? ⟨P, 2, none⟩ = some (.int .u64 (n1 : Nat)) := cell_of_row _ _ 2 _ _ _ HZ.r4; have p3 : W6.cell? ⟨P, 3, none⟩ = some (.string e0) := cell_of_row _ _ 3 _ _ _ HZ.r4; have p4 : W6.cell? ⟨P, 4, none⟩ = some (.string e0) := cell_of_row _ _ 4 _ _ _ HZ.r4; have m0 : W6.cell? ⟨M, 0, none⟩ = some (.int .u64 (a : Nat)) := cell_of_row _ _ 0 _ _ _ HZ.r5; have m1 : W6.cell? ⟨M, 1, none⟩ = some (.int .u64 (n2 : Nat)) := cell_of_row _ _ 1 _ _ _ HZ.r5; have m2 : W6.cell? ⟨M, 2, none⟩ = some (.int .u64 0) := cell_of_row _ _ 2 _ _ _ HZ.r5; have m3 : W6.cell? ⟨M, 3, none⟩ = some (.string e0) := cell_of_row _ _ 3 _ _ _ HZ.r5; have m4 : W6.cell? ⟨M, 4, none⟩ = some (.string e0) := cell_of_row _ _ 4 _ _ _ HZ.r5; have j0 : W6.cell? ⟨J, 0, none⟩ = some (.int .u64 (n3 : Nat)) := cell_of_row _ _ 0 _ _ _ HZ.r6; have j1 : W6.cell? ⟨J, 1, none⟩ = some (.int .u64 0) := cell_of_row _ _ 1 _ _ _ HZ.r6; have j2 : W6.cell? ⟨J, 2, none⟩ = some (.int .u64 0) := cell_of_row _ _ 2 _ _ _ HZ.r6; have j3 : W6.cell? ⟨J, 3, none⟩ = some (.string e0) := cell_of_row _ _ 3 _ _ _ HZ.r6; have j4 : W6.cell? ⟨J, 4, none⟩ = some (.string e0) := cell_of_row _ _ 4 _ _ _ HZ.r6; have q0 : W6.cell? ⟨T, 0, none⟩ = some (.int .u64 a) := cell_of_row _ _ 0 _ _ _ HZ.lw.t; have q1 : W6.cell? ⟨T, 1, none⟩ = some (.int .u64 b) := cell_of_row _ _ 1 _ _ _ HZ.lw.t
        go_upto_region 9 with fail
        obtain ⟨st, hst⟩ : ∃ st, decide (0 < a) = st := ⟨_, rfl⟩
        simp only [hst]
        have HST := Lib.hid hst
        clear hst
        cases st
        · skip
          have K1 := Lib.hid (show ∀ W, Pow W → Lib.Utf8Tabs 14 15 W → Calls Tryz.prog 11 #[.string (⟨#[126]⟩ ++ (bytesOf (dv a b c).text)), .agg #[.int .u64 (a : Nat), .int .u64 (b : Nat), .int .u64 (n1 : Nat), .string e0, .string e0], .bool false, .bool true] W fun e w' => e = .returned (.bool true) ∧ Below W.heap.size W w' from fun W hp ht => H11.out [126] (by simp) a b n1 true W ht (by obtain ⟨rfl, rfl, rfl⟩ := HN.out; simp [opR, tilde_patch]))
          have K2 := Lib.hid (show ∀ W, Pow W → Lib.Utf8Tabs 14 15 W → Calls Tryz.prog 11 #[.string (⟨#[94]⟩ ++ (bytesOf (dv a b c).text)), .agg #[.int .u64 (a : Nat), .int .u64 (b : Nat), .int .u64 (n1 : Nat), .string e0, .string e0], .bool false, .bool (decide (0 < b))] W fun e w' => e = .returned (.bool true) ∧ Below W.heap.size W w' from fun W hp ht => H11.out [94] (by simp) a b n1 (decide (0 < b)) W ht (by obtain ⟨rfl, rfl, rfl⟩ := HN.out; simp only [opR, caret_patch]; rw [HST.out]; simp))
          have K3 := Lib.hid (show ∀ W, Pow W → Lib.Utf8Tabs 14 15 W → Calls Tryz.prog 11 #[.string (⟨#[126]⟩ ++ (bytesOf (dv a b c).text)), .agg #[.int .u64 (a : Nat), .int .u64 (n2 : Nat), .int .u64 0, .string e0, .string e0], .bool false, .bool false] W fun e w' => e = .returned (.bool true) ∧ Below W.heap.size W w' from fun W hp ht => H11.out [126] (by simp) a n2 0 false W ht (by obtain ⟨rfl, rfl, rfl⟩ := HN.out; simp [opR, tilde_minor a b c HNZ.out]))
          have K4 := Lib.hid (show ∀ W, Pow W → Lib.Utf8Tabs 14 15 W → Calls Tryz.prog 11 #[.string (⟨#[94]⟩ ++ (bytesOf (dv a b c).text)), .agg #[.int .u64 (a : Nat), .int .u64 (n2 : Nat), .int .u64 0, .string e0, .string e0], .bool false, .bool false] W fun e w' => e = .returned (.bool true) ∧ Below W.heap.size W w' from fun W hp ht => H11.out [94] (by simp) a n2 0 false W ht (by obtain ⟨rfl, rfl, rfl⟩ := HN.out; simp only [opR, caret_minor]; rw [HST.out]; simp))
          have K5 := Lib.hid (show ∀ W, Pow W → Lib.Utf8Tabs 14 15 W → Calls Tryz.prog 11 #[.string (⟨#[126]⟩ ++ (bytesOf (dv a b c).text)), .agg #[.int .u64 (n3 : Nat), .int .u64 0, .int .u64 0, .string e0, .string e0], .bool false, .bool false] W fun e w' => e = .returned (.bool true) ∧ Below W.heap.size W w' from fun W hp ht => H11.out [126] (by simp) n3 0 0 false W ht (by obtain ⟨rfl, rfl, rfl⟩ := HN.out; simp [opR, tilde_major a b c HNZ.out]))
          have K6 := Lib.hid (show ∀ W, Pow W → Lib.Utf8Tabs 14 15 W → Calls Tryz.prog 11 #[.string (⟨#[94]⟩ ++ (bytesOf (dv a b c).text)), .agg #[.int .u64 (n3 : Nat), .int .u64 0, .int .u64 0, .string e0, .string e0], .bool false, .bool false] W fun e w' => e = .returned (.bool true) ∧ Below W.heap.size W w' from fun W hp ht => H11.out [94] (by simp) n3 0 0 false W ht (by obtain ⟨rfl, rfl, rfl⟩ := HN.out; simp [opR, caret_major]))
          have K7 := Lib.hid (show ∀ W, Pow W → Lib.Utf8Tabs 14 15 W → Calls Tryz.prog 11 #[.string (⟨#[62]⟩ ++ (bytesOf (dv a b c).text)), .agg #[.int .u64 (a : Nat), .int .u64 (b : Nat), .int .u64 (n1 : Nat), .string e0, .string e0], .bool false, .bool true] W fun e w' => e = .returned (.bool true) ∧ Below W.heap.size W w' from fun W hp ht => H11.out [62] (by simp) a b n1 true W ht (by obtain ⟨rfl, rfl, rfl⟩ := HN.out; simp [opR, cmp_patch]))
          have K8 := Lib.hid (show ∀ W, Pow W → Lib.Utf8Tabs 14 15 W → Calls Tryz.prog 11 #[.string (⟨#[62]⟩ ++ (bytesOf (dv a b c).text)), .agg #[.int .u64 (a : Nat), .int .u64 (n2 : Nat), .int .u64 0, .string e0, .string e0], .bool false, .bool true] W fun e w' => e = .returned (.bool true) ∧ Below W.heap.size W w' from fun W hp ht => H11.out [62] (by simp) a n2 0 true W ht (by obtain ⟨rfl, rfl, rfl⟩ := HN.out; simp [opR, cmp_minor]))
          have K9 := Lib.hid (show ∀ W, Pow W → Lib.Utf8Tabs 14 15 W → Calls Tryz.prog 11 #[.string (⟨#[62]⟩ ++ (bytesOf (dv a b c).text)), .agg #[.int .u64 (n3 : Nat), .int .u64 0, .int .u64 0, .string e0, .string e0], .bool false, .bool true] W fun e w' => e = .returned (.bool true) ∧ Below W.heap.size W w' from fun W hp ht => H11.out [62] (by simp) n3 0 0 true W ht (by obtain ⟨rfl, rfl, rfl⟩ := HN.out; simp [opR, cmp_major]))
          go_wp2_with (first
            | (go_at_call 11; (with_reducible refine (K1.out _ HZ.lw.pow HZ.lw.tabs).mono ?_); rintro e wz ⟨rfl, hb⟩; have HY := HZ.keep hb; clear hb HZ; have HZ := HY; clear HY; clear p0 p1 p2 p3 p4 m0 m1 m2 m3 m4 j0 j1 j2 j3 j4 q0 q1; have p0 : wz.cell? ⟨P, 0, none⟩ = some (.int .u64 (a : Nat)) := cell_of_row _ _ 0 _ _ _ HZ.r4; have p1 : wz.cell? ⟨P, 1, none⟩ = some (.int .u64 (b : Nat)) := cell_of_row _ _ 1 _ _ _ HZ.r4; have p2 : wz.cell? ⟨P, 2, none⟩ = some (.int .u64 (n1 : Nat)) := cell_of_row _ _ 2 _ _ _ HZ.r4; have p3 : wz.cell? ⟨P, 3, none⟩ = some (.string e0) := cell_of_row _ _ 3 _ _ _ HZ.r4; have p4 : wz.cell? ⟨P, 4, none⟩ = some (.string e0) := cell_of_row _ _ 4 _ _ _ HZ.r4; have m0 : wz.cell? ⟨M, 0, none⟩ = some (.int .u64 (a : Nat)) := cell_of_row _ _ 0 _ _ _ HZ.r5; have m1 : wz.cell? ⟨M, 1, none⟩ = some (.int .u64 (n2 : Nat)) := cell_of_row _ _ 1 _ _ _ HZ.r5; have m2 : wz.cell? ⟨M, 2, none⟩ = some (.int .u64 0) := cell_of_row _ _ 2 _ _ _ HZ.r5; have m3 : wz.cell? ⟨M, 3, none⟩ = some (.string e0) := cell_of_row _ _ 3 _ _ _ HZ.r5; have m4 : wz.cell? ⟨M, 4, none⟩ = some (.string e0) := cell_of_row _ _ 4 _ _ _ HZ.r5; have j0 : wz.cell? ⟨J, 0, none⟩ = some (.int .u64 (n3 : Nat)) := cell_of_row _ _ 0 _ _ _ HZ.r6; have j1 : wz.cell? ⟨J, 1, none⟩ = some (.int .u64 0) := cell_of_row _ _ 1 _ _ _ HZ.r6; have j2 : wz.cell? ⟨J, 2, none⟩ = some (.int .u64 0) := cell_of_row _ _ 2 _ _ _ HZ.r6; have j3 : wz.cell? ⟨J, 3, none⟩ = some (.string e0) := cell_of_row _ _ 3 _ _ _ HZ.r6; have j4 : wz.cell? ⟨J, 4, none⟩ = some (.string e0) := cell_of_row _ _ 4 _ _ _ HZ.r6; have q0 : wz.cell? ⟨T, 0, none⟩ = some (.int .u64 a) := cell_of_row _ _ 0 _ _ _ HZ.lw.t; have q1 : wz.cell? ⟨T, 1, none⟩ = some (.int .u64 b) := cell_of_row _ _ 1 _ _ _ HZ.lw.t)
            | (go_at_call 11; (with_reducible refine (K2.out _ HZ.lw.pow HZ.lw.tabs).mono ?_); rintro e wz ⟨rfl, hb⟩; have HY := HZ.keep hb; clear hb HZ; have HZ := HY; clear HY; clear p0 p1 p2 p3 p4 m0 m1 m2 m3 m4 j0 j1 j2 j3 j4 q0 q1; have p0 : wz.cell? ⟨P, 0, none⟩ = some (.int .u64 (a : Nat)) := cell_of_row _ _ 0 _ _ _ HZ.r4; have p1 : wz.cell? ⟨P, 1, none⟩ = some (.int .u64 (b : Nat)) := cell_of_row _ _ 1 _ _ _ HZ.r4; have p2 : wz.cell? ⟨P, 2, none⟩ = some (.int .u64 (n1 : Nat)) := cell_of_row _ _ 2 _ _ _ HZ.r4; have p3 : wz.cell? ⟨P, 3, none⟩ = some (.string e0) := cell_of_row _ _ 3 _ _ _ HZ.r4; have p4 : wz.cell? ⟨P, 4, none⟩ = some (.string e0) := cell_of_row _ _ 4 _ _ _ HZ.r4; have m0 : wz.cell? ⟨M, 0, none⟩ = some (.int .u64 (a : Nat)) := cell_of_row _ _ 0 _ _ _ HZ.r5; have m1 : wz.cell? ⟨M, 1, none⟩ = some (.int .u64 (n2 : Nat)) := cell_of_row _ _ 1 _ _ _ HZ.r5; have m2 : wz.cell? ⟨M, 2, none⟩ = some (.int .u64 0) := cell_of_row _ _ 2 _ _ _ HZ.r5; have m3 : wz.cell? ⟨M, 3, none⟩ = some (.string e0) := cell_of_row _ _ 3 _ _ _ HZ.r5; have m4 : wz.cell? ⟨M, 4, none⟩ = some (.string e0) := cell_of_row _ _ 4 _ _ _ HZ.r5; have j0 : wz.cell? ⟨J, 0, none⟩ = some (.int .u64 (n3 : Nat)) := cell_of_row _ _ 0 _ _ _ HZ.r6; have j1 : wz.cell? ⟨J, 1, none⟩ = some (.int .u64 0) := cell_of_row _ _ 1 _ _ _ HZ.r6; have j2 : wz.cell? ⟨J, 2, none⟩ = some (.int .u64 0) := cell_of_row _ _ 2 _ _ _ HZ.r6; have j3 : wz.cell? ⟨J, 3, none⟩ = some (.string e0) := cell_of_row _ _ 3 _ _ _ HZ.r6; have j4 : wz.cell? ⟨J, 4, none⟩ = some (.string e0) := cell_of_row _ _ 4 _ _ _ HZ.r6; have q0 : wz.cell? ⟨T, 0, none⟩ = some (.int .u64 a) := cell_of_row _ _ 0 _ _ _ HZ.lw.t; have q1 : wz.cell? ⟨T, 1, none⟩ = some (.int .u64 b) := cell_of_row _ _ 1 _ _ _ HZ.lw.t)
            | (go_at_call 11; (with_reducible refine (K3.out _ HZ.lw.pow HZ.lw.tabs).mono ?_); rintro e wz ⟨rfl, hb⟩; have HY := HZ.keep hb; clear hb HZ; have HZ := HY; clear HY; clear p0 p1 p2 p3 p4 m0 m1 m2 m3 m4 j0 j1 j2 j3 j4 q0 q1; have p0 : wz.cell? ⟨P, 0, none⟩ = some (.int .u64 (a : Nat)) := cell_of_row _ _ 0 _ _ _ HZ.r4; have p1 : wz.cell? ⟨P, 1, none⟩ = some (.int .u64 (b : Nat)) := cell_of_row _ _ 1 _ _ _ HZ.r4; have p2 : wz.cell? ⟨P, 2, none⟩ = some (.int .u64 (n1 : Nat)) := cell_of_row _ _ 2 _ _ _ HZ.r4; have p3 : wz.cell? ⟨P, 3, none⟩ = some (.string e0) := cell_of_row _ _ 3 _ _ _ HZ.r4; have p4 : wz.cell? ⟨P, 4, none⟩ = some (.string e0) := cell_of_row _ _ 4 _ _ _ HZ.r4; have m0 : wz.cell? ⟨M, 0, none⟩ = some (.int .u64 (a : Nat)) := cell_of_row _ _ 0 _ _ _ HZ.r5; have m1 : wz.cell? ⟨M, 1, none⟩ = some (.int .u64 (n2 : Nat)) := cell_of_row _ _ 1 _ _ _ HZ.r5; have m2 : wz.cell? ⟨M, 2, none⟩ = some (.int .u64 0) := cell_of_row _ _ 2 _ _ _ HZ.r5; have m3 : wz.cell? ⟨M, 3, none⟩ = some (.string e0) := cell_of_row _ _ 3 _ _ _ HZ.r5; have m4 : wz.cell? ⟨M, 4, none⟩ = some (.string e0) := cell_of_row _ _ 4 _ _ _ HZ.r5; have j0 : wz.cell? ⟨J, 0, none⟩ = some (.int .u64 (n3 : Nat)) := cell_of_row _ _ 0 _ _ _ HZ.r6; have j1 : wz.cell? ⟨J, 1, none⟩ = some (.int .u64 0) := cell_of_row _ _ 1 _ _ _ HZ.r6; have j2 : wz.cell? ⟨J, 2, none⟩ = some (.int .u64 0) := cell_of_row _ _ 2 _ _ _ HZ.r6; have j3 : wz.cell? ⟨J, 3, none⟩ = some (.string e0) := cell_of_row _ _ 3 _ _ _ HZ.r6; have j4 : wz.cell? ⟨J, 4, none⟩ = some (.string e0) := cell_of_row _ _ 4 _ _ _ HZ.r6; have q0 : wz.cell? ⟨T, 0, none⟩ = some (.int .u64 a) := cell_of_row _ _ 0 _ _ _ HZ.lw.t; have q1 : wz.cell? ⟨T, 1, none⟩ = some (.int .u64 b) := cell_of_row _ _ 1 _ _ _ HZ.lw.t)
            | (go_at_call 11; (with_reducible refine (K4.out _ HZ.lw.pow HZ.lw.tabs).mono ?_); rintro e wz ⟨rfl, hb⟩; have HY := HZ.keep hb; clear hb HZ; have HZ := HY; clear HY; clear p0 p1 p2 p3 p4 m0 m1 m2 m3 m4 j0 j1 j2 j3 j4 q0 q1; have p0 : wz.cell? ⟨P, 0, none⟩ = some (.int .u64 (a : Nat)) := cell_of_row _ _ 0 _ _ _ HZ.r4; have p1 : wz.cell? ⟨P, 1, none⟩ = some (.int .u64 (b : Nat)) := cell_of_row _ _ 1 _ _ _ HZ.r4; have p2 : wz.cell? ⟨P, 2, none⟩ = some (.int .u64 (n1 : Nat)) := cell_of_row _ _ 2 _ _ _ HZ.r4; have p3 : wz.cell? ⟨P, 3, none⟩ = some (.string e0) := cell_of_row _ _ 3 _ _ _ HZ.r4; have p4 : wz.cell? ⟨P, 4, none⟩ = some (.string e0) := cell_of_row _ _ 4 _ _ _ HZ.r4; have m0 : wz.cell? ⟨M, 0, none⟩ = some (.int .u64 (a : Nat)) := cell_of_row _ _ 0 _ _ _ HZ.r5; have m1 : wz.cell? ⟨M, 1, none⟩ = some (.int .u64 (n2 : Nat)) := cell_of_row _ _ 1 _ _ _ HZ.r5; have m2 : wz.cell? ⟨M, 2, none⟩ = some (.int .u64 0) := cell_of_row _ _ 2 _ _ _ HZ.r5; have m3 : wz.cell? ⟨M, 3, none⟩ = some (.string e0) := cell_of_row _ _ 3 _ _ _ HZ.r5; have m4 : wz.cell? ⟨M, 4, none⟩ = some (.string e0) := cell_of_row _ _ 4 _ _ _ HZ.r5; have j0 : wz.cell? ⟨J, 0, none⟩ = some (.int .u64 (n3 : Nat)) := cell_of_row _ _ 0 _ _ _ HZ.r6; have j1 : wz.cell? ⟨J, 1, none⟩ = some (.int .u64 0) := cell_of_row _ _ 1 _ _ _ HZ.r6; have j2 : wz.cell? ⟨J, 2, none⟩ = some (.int .u64 0) := cell_of_row _ _ 2 _ _ _ HZ.r6; have j3 : wz.cell? ⟨J, 3, none⟩ = some (.string e0) := cell_of_row _ _ 3 _ _ _ HZ.r6; have j4 : wz.cell? ⟨J, 4, none⟩ = some (.string e0) := cell_of_row _ _ 4 _ _ _ HZ.r6; have q0 : wz.cell? ⟨T, 0, none⟩ = some (.int .u64 a) := cell_of_row _ _ 0 _ _ _ HZ.lw.t; have q1 : wz.cell? ⟨T, 1, none⟩ = some (.int .u64 b) := cell_of_row _ _ 1 _ _ _ HZ.lw.t)
            | (go_at_call 11; (with_reducible refine (K5.out _ HZ.lw.pow HZ.lw.tabs).mono ?_); rintro e wz ⟨rfl, hb⟩; have HY := HZ.keep hb; clear hb HZ; have HZ := HY; clear HY; clear p0 p1 p2 p3 p4 m0 m1 m2 m3 m4 j0 j1 j2 j3 j4 q0 q1; have p0 : wz.cell? ⟨P, 0, none⟩ = some (.int .u64 (a : Nat)) := cell_of_row _ _ 0 _ _ _ HZ.r4; have p1 : wz.cell? ⟨P, 1, none⟩ = some (.int .u64 (b : Nat)) := cell_of_row _ _ 1 _ _ _ HZ.r4; have p2 : wz.cell? ⟨P, 2, none⟩ = some (.int .u64 (n1 : Nat)) := cell_of_row _ _ 2 _ _ _ HZ.r4; have p3 : wz.cell? ⟨P, 3, none⟩ = some (.string e0) := cell_of_row _ _ 3 _ _ _ HZ.r4; have p4 : wz.cell? ⟨P, 4, none⟩ = some (.string e0) := cell_of_row _ _ 4 _ _ _ HZ.r4; have m0 : wz.cell? ⟨M, 0, none⟩ = some (.int .u64 (a : Nat)) := cell_of_row _ _ 0 _ _ _ HZ.r5; have m1 : wz.cell? ⟨M, 1, none⟩ = some (.int .u64 (n2 : Nat)) := cell_of_row _ _ 1 _ _ _ HZ.r5; have m2 : wz.cell? ⟨M, 2, none⟩ = some (.int .u64 0) := cell_of_row _ _ 2 _ _ _ HZ.r5; have m3 : wz.cell? ⟨M, 3, none⟩ = some (.string e0) := cell_of_row _ _ 3 _ _ _ HZ.r5; have m4 : wz.cell? ⟨M, 4, none⟩ = some (.string e0) := cell_of_row _ _ 4 _ _ _ HZ.r5; have j0 : wz.cell? ⟨J, 0, none⟩ = some (.int .u64 (n3 : Nat)) := cell_of_row _ _ 0 _ _ _ HZ.r6; have j1 : wz.cell? ⟨J, 1, none⟩ = some (.int .u64 0) := cell_of_row _ _ 1 _ _ _ HZ.r6; have j2 : wz.cell? ⟨J, 2, none⟩ = some (.int .u64 0) := cell_of_row _ _ 2 _ _ _ HZ.r6; have j3 : wz.cell? ⟨J, 3, none⟩ = some (.string e0) := cell_of_row _ _ 3 _ _ _ HZ.r6; have j4 : wz.cell? ⟨J, 4, none⟩ = some (.string e0) := cell_of_row _ _ 4 _ _ _ HZ.r6; have q0 : wz.cell? ⟨T, 0, none⟩ = some (.int .u64 a) := cell_of_row _ _ 0 _ _ _ HZ.lw.t; have q1 : wz.cell? ⟨T, 1, none⟩ = some (.int .u64 b) := cell_of_row _ _ 1 _ _ _ HZ.lw.t)
            | (go_at_call 11; (with_reducible refine (K6.out _ HZ.lw.pow HZ.lw.tabs).mono ?_); rintro e wz ⟨rfl, hb⟩; have HY := HZ.keep hb; clear hb HZ; have HZ := HY; clear HY; clear p0 p1 p2 p3 p4 m0 m1 m2 m3 m4 j0 j1 j2 j3 j4 q0 q1; have p0 : wz.cell? ⟨P, 0, none⟩ = some (.int .u64 (a : Nat)) := cell_of_row _ _ 0 _ _ _ HZ.r4; have p1 : wz.cell? ⟨P, 1, none⟩ = some (.int .u64 (b : Nat)) := cell_of_row _ _ 1 _ _ _ HZ.r4; have p2 : wz.cell? ⟨P, 2, none⟩ = some (.int .u64 (n1 : Nat)) := cell_of_row _ _ 2 _ _ _ HZ.r4; have p3 : wz.cell? ⟨P, 3, none⟩ = some (.string e0) := cell_of_row _ _ 3 _ _ _ HZ.r4; have p4 : wz.cell? ⟨P, 4, none⟩ = some (.string e0) := cell_of_row _ _ 4 _ _ _ HZ.r4; have m0 : wz.cell? ⟨M, 0, none⟩ = some (.int .u64 (a : Nat)) := cell_of_row _ _ 0 _ _ _ HZ.r5; have m1 : wz.cell? ⟨M, 1, none⟩ = some (.int .u64 (n2 : Nat)) := cell_of_row _ _ 1 _ _ _ HZ.r5; have m2 : wz.cell? ⟨M, 2, none⟩ = some (.int .u64 0) := cell_of_row _ _ 2 _ _ _ HZ.r5; have m3 : wz.cell? ⟨M, 3, none⟩ = some (.string e0) := cell_of_row _ _ 3 _ _ _ HZ.r5; have m4 : wz.cell? ⟨M, 4, none⟩ = some (.string e0) := cell_of_row _ _ 4 _ _ _ HZ.r5; have j0 : wz.cell? ⟨J, 0, none⟩ = some (.int .u64 (n3 : Nat)) := cell_of_row _ _ 0 _ _ _ HZ.r6; have j1 : wz.cell? ⟨J, 1, none⟩ = some (.int .u64 0) := cell_of_row _ _ 1 _ _ _ HZ.r6; have j2 : wz.cell? ⟨J, 2, none⟩ = some (.int .u64 0) := cell_of_row _ _ 2 _ _ _ HZ.r6; have j3 : wz.cell? ⟨J, 3, none⟩ = some (.string e0) := cell_of_row _ _ 3 _ _ _ HZ.r6; have j4 : wz.cell? ⟨J, 4, none⟩ = some (.string e0) := cell_of_row _ _ 4 _ _ _ HZ.r6; have q0 : wz.cell? ⟨T, 0, none⟩ = some (.int .u64 a) := cell_of_row _ _ 0 _ _ _ HZ.lw.t; have q1 : wz.cell? ⟨T, 1, none⟩ = some (.int .u64 b) := cell_of_row _ _ 1 _ _ _ HZ.lw.t)
            | (go_at_call 11; (with_reducible refine (K7.out _ HZ.lw.pow HZ.lw.tabs).mono ?_); rintro e wz ⟨rfl, hb⟩; have HY := HZ.keep hb; clear hb HZ; have HZ := HY; clear HY; clear p0 p1 p2 p3 p4 m0 m1 m2 m3 m4 j0 j1 j2 j3 j4 q0 q1; have p0 : wz.cell? ⟨P, 0, none⟩ = some (.int .u64 (a : Nat)) := cell_of_row _ _ 0 _ _ _ HZ.r4; have p1 : wz.cell? ⟨P, 1, none⟩ = some (.int .u64 (b : Nat)) := cell_of_row _ _ 1 _ _ _ HZ.r4; have p2 : wz.cell? ⟨P, 2, none⟩ = some (.int .u64 (n1 : Nat)) := cell_of_row _ _ 2 _ _ _ HZ.r4; have p3 : wz.cell? ⟨P, 3, none⟩ = some (.string e0) := cell_of_row _ _ 3 _ _ _ HZ.r4; have p4 : wz.cell? ⟨P, 4, none⟩ = some (.string e0) := cell_of_row _ _ 4 _ _ _ HZ.r4; have m0 : wz.cell? ⟨M, 0, none⟩ = some (.int .u64 (a : Nat)) := cell_of_row _ _ 0 _ _ _ HZ.r5; have m1 : wz.cell? ⟨M, 1, none⟩ = some (.int .u64 (n2 : Nat)) := cell_of_row _ _ 1 _ _ _ HZ.r5; have m2 : wz.cell? ⟨M, 2, none⟩ = some (.int .u64 0) := cell_of_row _ _ 2 _ _ _ HZ.r5; have m3 : wz.cell? ⟨M, 3, none⟩ = some (.string e0) := cell_of_row _ _ 3 _ _ _ HZ.r5; have m4 : wz.cell? ⟨M, 4, none⟩ = some (.string e0) := cell_of_row _ _ 4 _ _ _ HZ.r5; have j0 : wz.cell? ⟨J, 0, none⟩ = some (.int .u64 (n3 : Nat)) := cell_of_row _ _ 0 _ _ _ HZ.r6; have j1 : wz.cell? ⟨J, 1, none⟩ = some (.int .u64 0) := cell_of_row _ _ 1 _ _ _ HZ.r6; have j2 : wz.cell? ⟨J, 2, none⟩ = some (.int .u64 0) := cell_of_row _ _ 2 _ _ _ HZ.r6; have j3 : wz.cell? ⟨J, 3, none⟩ = some (.string e0) := cell_of_row _ _ 3 _ _ _ HZ.r6; have j4 : wz.cell? ⟨J, 4, none⟩ = some (.string e0) := cell_of_row _ _ 4 _ _ _ HZ.r6; have q0 : wz.cell? ⟨T, 0, none⟩ = some (.int .u64 a) := cell_of_row _ _ 0 _ _ _ HZ.lw.t; have q1 : wz.cell? ⟨T, 1, none⟩ = some (.int .u64 b) := cell_of_row _ _ 1 _ _ _ HZ.lw.t)
            | (go_at_call 11; (with_reducible refine (K8.out _ HZ.lw.pow HZ.lw.tabs).mono ?_); rintro e wz ⟨rfl, hb⟩; have HY := HZ.keep hb; clear hb HZ; have HZ := HY; clear HY; clear p0 p1 p2 p3 p4 m0 m1 m2 m3 m4 j0 j1 j2 j3 j4 q0 q1; have p0 : wz.cell? ⟨P, 0, none⟩ = some (.int .u64 (a : Nat)) := cell_of_row _ _ 0 _ _ _ HZ.r4; have p1 : wz.cell? ⟨P, 1, none⟩ = some (.int .u64 (b : Nat)) := cell_of_row _ _ 1 _ _ _ HZ.r4; have p2 : wz.cell? ⟨P, 2, none⟩ = some (.int .u64 (n1 : Nat)) := cell_of_row _ _ 2 _ _ _ HZ.r4; have p3 : wz.cell? ⟨P, 3, none⟩ = some (.string e0) := cell_of_row _ _ 3 _ _ _ HZ.r4; have p4 : wz.cell? ⟨P, 4, none⟩ = some (.string e0) := cell_of_row _ _ 4 _ _ _ HZ.r4; have m0 : wz.cell? ⟨M, 0, none⟩ = some (.int .u64 (a : Nat)) := cell_of_row _ _ 0 _ _ _ HZ.r5; have m1 : wz.cell? ⟨M, 1, none⟩ = some (.int .u64 (n2 : Nat)) := cell_of_row _ _ 1 _ _ _ HZ.r5; have m2 : wz.cell? ⟨M, 2, none⟩ = some (.int .u64 0) := cell_of_row _ _ 2 _ _ _ HZ.r5; have m3 : wz.cell? ⟨M, 3, none⟩ = some (.string e0) := cell_of_row _ _ 3 _ _ _ HZ.r5; have m4 : wz.cell? ⟨M, 4, none⟩ = some (.string e0) := cell_of_row _ _ 4 _ _ _ HZ.r5; have j0 : wz.cell? ⟨J, 0, none⟩ = some (.int .u64 (n3 : Nat)) := cell_of_row _ _ 0 _ _ _ HZ.r6; have j1 : wz.cell? ⟨J, 1, none⟩ = some (.int .u64 0) := cell_of_row _ _ 1 _ _ _ HZ.r6; have j2 : wz.cell? ⟨J, 2, none⟩ = some (.int .u64 0) := cell_of_row _ _ 2 _ _ _ HZ.r6; have j3 : wz.cell? ⟨J, 3, none⟩ = some (.string e0) := cell_of_row _ _ 3 _ _ _ HZ.r6; have j4 : wz.cell? ⟨J, 4, none⟩ = some (.string e0) := cell_of_row _ _ 4 _ _ _ HZ.r6; have q0 : wz.cell? ⟨T, 0, none⟩ = some (.int .u64 a) := cell_of_row _ _ 0 _ _ _ HZ.lw.t; have q1 : wz.cell? ⟨T, 1, none⟩ = some (.int .u64 b) := cell_of_row _ _ 1 _ _ _ HZ.lw.t)
            | (go_at_call 11; (with_reducible refine (K9.out _ HZ.lw.pow HZ.lw.tabs).mono ?_); rintro e wz ⟨rfl, hb⟩; have HY := HZ.keep hb; clear hb HZ; have HZ := HY; clear HY; clear p0 p1 p2 p3 p4 m0 m1 m2 m3 m4 j0 j1 j2 j3 j4 q0 q1; have p0 : wz.cell? ⟨P, 0, none⟩ = some (.int .u64 (a : Nat)) := cell_of_row _ _ 0 _ _ _ HZ.r4; have p1 : wz.cell? ⟨P, 1, none⟩ = some (.int .u64 (b : Nat)) := cell_of_row _ _ 1 _ _ _ HZ.r4; have p2 : wz.cell? ⟨P, 2, none⟩ = some (.int .u64 (n1 : Nat)) := cell_of_row _ _ 2 _ _ _ HZ.r4; have p3 : wz.cell? ⟨P, 3, none⟩ = some (.string e0) := cell_of_row _ _ 3 _ _ _ HZ.r4; have p4 : wz.cell? ⟨P, 4, none⟩ = some (.string e0) := cell_of_row _ _ 4 _ _ _ HZ.r4; have m0 : wz.cell? ⟨M, 0, none⟩ = some (.int .u64 (a : Nat)) := cell_of_row _ _ 0 _ _ _ HZ.r5; have m1 : wz.cell? ⟨M, 1, none⟩ = some (.int .u64 (n2 : Nat)) := cell_of_row _ _ 1 _ _ _ HZ.r5; have m2 : wz.cell? ⟨M, 2, none⟩ = some (.int .u64 0) := cell_of_row _ _ 2 _ _ _ HZ.r5; have m3 : wz.cell? ⟨M, 3, none⟩ = some (.string e0) := cell_of_row _ _ 3 _ _ _ HZ.r5; have m4 : wz.cell? ⟨M, 4, none⟩ = some (.string e0) := cell_of_row _ _ 4 _ _ _ HZ.r5; have j0 : wz.cell? ⟨J, 0, none⟩ = some (.int .u64 (n3 : Nat)) := cell_of_row _ _ 0 _ _ _ HZ.r6; have j1 : wz.cell? ⟨J, 1, none⟩ = some (.int .u64 0) := cell_of_row _ _ 1 _ _ _ HZ.r6; have j2 : wz.cell? ⟨J, 2, none⟩ = some (.int .u64 0) := cell_of_row _ _ 2 _ _ _ HZ.r6; have j3 : wz.cell? ⟨J, 3, none⟩ = some (.string e0) := cell_of_row _ _ 3 _ _ _ HZ.r6; have j4 : wz.cell? ⟨J, 4, none⟩ = some (.string e0) := cell_of_row _ _ 4 _ _ _ HZ.r6; have q0 : wz.cell? ⟨T, 0, none⟩ = some (.int .u64 a) := cell_of_row _ _ 0 _ _ _ HZ.lw.t; have q1 : wz.cell? ⟨T, 1, none⟩ = some (.int .u64 b) := cell_of_row _ _ 1 _ _ _ HZ.lw.t))
          go_ret
          exact ⟨rfl, HZ.lw.b⟩
        · skip
          have K1 := Lib.hid (show ∀ W, Pow W → Lib.Utf8Tabs 14 15 W → Calls Tryz.prog 11 #[.string (⟨#[126]⟩ ++ (bytesOf (dv a b c).text)), .agg #[.int .u64 (a : Nat), .int .u64 (b : Nat), .int .u64 (n1 : Nat), .string e0, .string e0], .bool false, .bool true] W fun e w' => e = .returned (.bool true) ∧ Below W.heap.size W w' from fun W hp ht => H11.out [126] (by simp) a b n1 true W ht (by obtain ⟨rfl, rfl, rfl⟩ := HN.out; simp [opR, tilde_patch]))
          have K2 := Lib.hid (show ∀ W, Pow W → Lib.Utf8Tabs 14 15 W → Calls Tryz.prog 11 #[.string (⟨#[94]⟩ ++ (bytesOf (dv a b c).text)), .agg #[.int .u64 (a : Nat), .int .u64 (b : Nat), .int .u64 (n1 : Nat), .string e0, .string e0], .bool false, .bool true] W fun e w' => e = .returned (.bool true) ∧ Below W.heap.size W w' from fun W hp ht => H11.out [94] (by simp) a b n1 true W ht (by obtain ⟨rfl, rfl, rfl⟩ := HN.out; simp only [opR, caret_patch]; rw [HST.out]; simp))
          have K3 := Lib.hid (show ∀ W, Pow W → Lib.Utf8Tabs 14 15 W → Calls Tryz.prog 11 #[.string (⟨#[126]⟩ ++ (bytesOf (dv a b c).text)), .agg #[.int .u64 (a : Nat), .int .u64 (n2 : Nat), .int .u64 0, .string e0, .string e0], .bool false, .bool false] W fun e w' => e = .returned (.bool true) ∧ Below W.heap.size W w' from fun W hp ht => H11.out [126] (by simp) a n2 0 false W ht (by obtain ⟨rfl, rfl, rfl⟩ := HN.out; simp [opR, tilde_minor a b c HNZ.out]))
          have K4 := Lib.hid (show ∀ W, Pow W → Lib.Utf8Tabs 14 15 W → Calls Tryz.prog 11 #[.string (⟨#[94]⟩ ++ (bytesOf (dv a b c).text)), .agg #[.int .u64 (a : Nat), .int .u64 (n2 : Nat), .int .u64 0, .string e0, .string e0], .bool false, .bool true] W fun e w' => e = .returned (.bool true) ∧ Below W.heap.size W w' from fun W hp ht => H11.out [94] (by simp) a n2 0 true W ht (by obtain ⟨rfl, rfl, rfl⟩ := HN.out; simp only [opR, caret_minor]; rw [HST.out]; simp))
          have K5 := Lib.hid (show ∀ W, Pow W → Lib.Utf8Tabs 14 15 W → Calls Tryz.prog 11 #[.string (⟨#[126]⟩ ++ (bytesOf (dv a b c).text)), .agg #[.int .u64 (n3 : Nat), .int .u64 0, .int .u64 0, .string e0, .string e0], .bool false, .bool false] W fun e w' => e = .returned (.bool true) ∧ Below W.heap.size W w' from fun W hp ht => H11.out [126] (by simp) n3 0 0 false W ht (by obtain ⟨rfl, rfl, rfl⟩ := HN.out; simp [opR, tilde_major a b c HNZ.out]))
          have K6 := Lib.hid (show ∀ W, Pow W → Lib.Utf8Tabs 14 15 W → Calls Tryz.prog 11 #[.string (⟨#[94]⟩ ++ (bytesOf (dv a b c).text)), .agg #[.int .u64 (n3 : Nat), .int .u64 0, .int .u64 0, .string e0, .string e0], .bool false, .bool false] W fun e w' => e = .returned (.bool true) ∧ Below W.heap.size W w' from fun W hp ht => H11.out [94] (by simp) n3 0 0 false W ht (by obtain ⟨rfl, rfl, rfl⟩ := HN.out; simp [opR, caret_major]))
          have K7 := Lib.hid (show ∀ W, Pow W → Lib.Utf8Tabs 14 15 W → Calls Tryz.prog 11 #[.string (⟨#[62]⟩ ++ (bytesOf (dv a b c).text)), .agg #[.int .u64 (a : Nat), .int .u64 (b : Nat), .int .u64 (n1 : Nat), .string e0, .string e0], .bool false, .bool true] W fun e w' => e = .returned (.bool true) ∧ Below W.heap.size W w' from fun W hp ht => H11.out [62] (by simp) a b n1 true W ht (by obtain ⟨rfl, rfl, rfl⟩ := HN.out; simp [opR, cmp_patch]))
          have K8 := Lib.hid (show ∀ W, Pow W → Lib.Utf8Tabs 14 15 W → Calls Tryz.prog 11 #[.string (⟨#[62]⟩ ++ (bytesOf (dv a b c).text)), .agg #[.int .u64 (a : Nat), .int .u64 (n2 : Nat), .int .u64 0, .string e0, .string e0], .bool false, .bool true] W fun e w' => e = .returned (.bool true) ∧ Below W.heap.size W w' from fun W hp ht => H11.out [62] (by simp) a n2 0 true W ht (by obtain ⟨rfl, rfl, rfl⟩ := HN.out; simp [opR, cmp_minor]))
          have K9 := Lib.hid (show ∀ W, Pow W → Lib.Utf8Tabs 14 15 W → Calls Tryz.prog 11 #[.string (⟨#[62]⟩ ++ (bytesOf (dv a b c).text)), .agg #[.int .u64 (n3 : Nat), .int .u64 0, .int .u64 0, .string e0, .string e0], .bool false, .bool true] W fun e w' => e = .returned (.bool true) ∧ Below W.heap.size W w' from fun W hp ht => H11.out [62] (by simp) n3 0 0 true W ht (by obtain ⟨rfl, rfl, rfl⟩ := HN.out; simp [opR, cmp_major]))
          go_wp2_with (first
            | (go_at_call 11; (with_reducible refine (K1.out _ HZ.lw.pow HZ.lw.tabs).mono ?_); rintro e wz ⟨rfl, hb⟩; have HY := HZ.keep hb; clear hb HZ; have HZ := HY; clear HY; clear p0 p1 p2 p3 p4 m0 m1 m2 m3 m4 j0 j1 j2 j3 j4 q0 q1; have p0 : wz.cell? ⟨P, 0, none⟩ = some (.int .u64 (a : Nat)) := cell_of_row _ _ 0 _ _ _ HZ.r4; have p1 : wz.cell? ⟨P, 1, none⟩ = some (.int .u64 (b : Nat)) := cell_of_row _ _ 1 _ _ _ HZ.r4; have p2 : wz.cell? ⟨P, 2, none⟩ = some (.int .u64 (n1 : Nat)) := cell_of_row _ _ 2 _ _ _ HZ.r4; have p3 : wz.cell? ⟨P, 3, none⟩ = some (.string e0) := cell_of_row _ _ 3 _ _ _ HZ.r4; have p4 : wz.cell? ⟨P, 4, none⟩ = some (.string e0) := cell_of_row _ _ 4 _ _ _ HZ.r4; have m0 : wz.cell? ⟨M, 0, none⟩ = some (.int .u64 (a : Nat)) := cell_of_row _ _ 0 _ _ _ HZ.r5; have m1 : wz.cell? ⟨M, 1, none⟩ = some (.int .u64 (n2 : Nat)) := cell_of_row _ _ 1 _ _ _ HZ.r5; have m2 : wz.cell? ⟨M, 2, none⟩ = some (.int .u64 0) := cell_of_row _ _ 2 _ _ _ HZ.r5; have m3 : wz.cell? ⟨M, 3, none⟩ = some (.string e0) := cell_of_row _ _ 3 _ _ _ HZ.r5; have m4 : wz.cell? ⟨M, 4, none⟩ = some (.string e0) := cell_of_row _ _ 4 _ _ _ HZ.r5; have j0 : wz.cell? ⟨J, 0, none⟩ = some (.int .u64 (n3 : Nat)) := cell_of_row _ _ 0 _ _ _ HZ.r6; have j1 : wz.cell? ⟨J, 1, none⟩ = some (.int .u64 0) := cell_of_row _ _ 1 _ _ _ HZ.r6; have j2 : wz.cell? ⟨J, 2, none⟩ = some (.int .u64 0) := cell_of_row _ _ 2 _ _ _ HZ.r6; have j3 : wz.cell? ⟨J, 3, none⟩ = some (.string e0) := cell_of_row _ _ 3 _ _ _ HZ.r6; have j4 : wz.cell? ⟨J, 4, none⟩ = some (.string e0) := cell_of_row _ _ 4 _ _ _ HZ.r6; have q0 : wz.cell? ⟨T, 0, none⟩ = some (.int .u64 a) := cell_of_row _ _ 0 _ _ _ HZ.lw.t; have q1 : wz.cell? ⟨T, 1, none⟩ = some (.int .u64 b) := cell_of_row _ _ 1 _ _ _ HZ.lw.t)
            | (go_at_call 11; (with_reducible refine (K2.out _ HZ.lw.pow HZ.lw.tabs).mono ?_); rintro e wz ⟨rfl, hb⟩; have HY := HZ.keep hb; clear hb HZ; have HZ := HY; clear HY; clear p0 p1 p2 p3 p4 m0 m1 m2 m3 m4 j0 j1 j2 j3 j4 q0 q1; have p0 : wz.cell? ⟨P, 0, none⟩ = some (.int .u64 (a : Nat)) := cell_of_row _ _ 0 _ _ _ HZ.r4; have p1 : wz.cell? ⟨P, 1, none⟩ = some (.int .u64 (b : Nat)) := cell_of_row _ _ 1 _ _ _ HZ.r4; have p2 : wz.cell? ⟨P, 2, none⟩ = some (.int .u64 (n1 : Nat)) := cell_of_row _ _ 2 _ _ _ HZ.r4; have p3 : wz.cell? ⟨P, 3, none⟩ = some (.string e0) := cell_of_row _ _ 3 _ _ _ HZ.r4; have p4 : wz.cell? ⟨P, 4, none⟩ = some (.string e0) := cell_of_row _ _ 4 _ _ _ HZ.r4; have m0 : wz.cell? ⟨M, 0, none⟩ = some (.int .u64 (a : Nat)) := cell_of_row _ _ 0 _ _ _ HZ.r5; have m1 : wz.cell? ⟨M, 1, none⟩ = some (.int .u64 (n2 : Nat)) := cell_of_row _ _ 1 _ _ _ HZ.r5; have m2 : wz.cell? ⟨M, 2, none⟩ = some (.int .u64 0) := cell_of_row _ _ 2 _ _ _ HZ.r5; have m3 : wz.cell? ⟨M, 3, none⟩ = some (.string e0) := cell_of_row _ _ 3 _ _ _ HZ.r5; have m4 : wz.cell? ⟨M, 4, none⟩ = some (.string e0) := cell_of_row _ _ 4 _ _ _ HZ.r5; have j0 : wz.cell? ⟨J, 0, none⟩ = some (.int .u64 (n3 : Nat)) := cell_of_row _ _ 0 _ _ _ HZ.r6; have j1 : wz.cell? ⟨J, 1, none⟩ = some (.int .u64 0) := cell_of_row _ _ 1 _ _ _ HZ.r6; have j2 : wz.cell? ⟨J, 2, none⟩ = some (.int .u64 0) := cell_of_row _ _ 2 _ _ _ HZ.r6; have j3 : wz.cell? ⟨J, 3, none⟩ = some (.string e0) := cell_of_row _ _ 3 _ _ _ HZ.r6; have j4 : wz.cell? ⟨J, 4, none⟩ = some (.string e0) := cell_of_row _ _ 4 _ _ _ HZ.r6; have q0 : wz.cell? ⟨T, 0, none⟩ = some (.int .u64 a) := cell_of_row _ _ 0 _ _ _ HZ.lw.t; have q1 : wz.cell? ⟨T, 1, none⟩ = some (.int .u64 b) := cell_of_row _ _ 1 _ _ _ HZ.lw.t)
            | (go_at_call 11; (with_reducible refine (K3.out _ HZ.lw.pow HZ.lw.tabs).mono ?_); rintro e wz ⟨rfl, hb⟩; have HY := HZ.keep hb; clear hb HZ; have HZ := HY; clear HY; clear p0 p1 p2 p3 p4 m0 m1 m2 m3 m4 j0 j1 j2 j3 j4 q0 q1; have p0 : wz.cell? ⟨P, 0, none⟩ = some (.int .u64 (a : Nat)) := cell_of_row _ _ 0 _ _ _ HZ.r4; have p1 : wz.cell? ⟨P, 1, none⟩ = some (.int .u64 (b : Nat)) := cell_of_row _ _ 1 _ _ _ HZ.r4; have p2 : wz.cell? ⟨P, 2, none⟩ = some (.int .u64 (n1 : Nat)) := cell_of_row _ _ 2 _ _ _ HZ.r4; have p3 : wz.cell? ⟨P, 3, none⟩ = some (.string e0) := cell_of_row _ _ 3 _ _ _ HZ.r4; have p4 : wz.cell? ⟨P, 4, none⟩ = some (.string e0) := cell_of_row _ _ 4 _ _ _ HZ.r4; have m0 : wz.cell? ⟨M, 0, none⟩ = some (.int .u64 (a : Nat)) := cell_of_row _ _ 0 _ _ _ HZ.r5; have m1 : wz.cell? ⟨M, 1, none⟩ = some (.int .u64 (n2 : Nat)) := cell_of_row _ _ 1 _ _ _ HZ.r5; have m2 : wz.cell? ⟨M, 2, none⟩ = some (.int .u64 0) := cell_of_row _ _ 2 _ _ _ HZ.r5; have m3 : wz.cell? ⟨M, 3, none⟩ = some (.string e0) := cell_of_row _ _ 3 _ _ _ HZ.r5; have m4 : wz.cell? ⟨M, 4, none⟩ = some (.string e0) := cell_of_row _ _ 4 _ _ _ HZ.r5; have j0 : wz.cell? ⟨J, 0, none⟩ = some (.int .u64 (n3 : Nat)) := cell_of_row _ _ 0 _ _ _ HZ.r6; have j1 : wz.cell? ⟨J, 1, none⟩ = some (.int .u64 0) := cell_of_row _ _ 1 _ _ _ HZ.r6; have j2 : wz.cell? ⟨J, 2, none⟩ = some (.int .u64 0) := cell_of_row _ _ 2 _ _ _ HZ.r6; have j3 : wz.cell? ⟨J, 3, none⟩ = some (.string e0) := cell_of_row _ _ 3 _ _ _ HZ.r6; have j4 : wz.cell? ⟨J, 4, none⟩ = some (.string e0) := cell_of_row _ _ 4 _ _ _ HZ.r6; have q0 : wz.cell? ⟨T, 0, none⟩ = some (.int .u64 a) := cell_of_row _ _ 0 _ _ _ HZ.lw.t; have q1 : wz.cell? ⟨T, 1, none⟩ = some (.int .u64 b) := cell_of_row _ _ 1 _ _ _ HZ.lw.t)
            | (go_at_call 11; (with_reducible refine (K4.out _ HZ.lw.pow HZ.lw.tabs).mono ?_); rintro e wz ⟨rfl, hb⟩; have HY := HZ.keep hb; clear hb HZ; have HZ := HY; clear HY; clear p0 p1 p2 p3 p4 m0 m1 m2 m3 m4 j0 j1 j2 j3 j4 q0 q1; have p0 : wz.cell? ⟨P, 0, none⟩ = some (.int .u64 (a : Nat)) := cell_of_row _ _ 0 _ _ _ HZ.r4; have p1 : wz.cell? ⟨P, 1, none⟩ = some (.int .u64 (b : Nat)) := cell_of_row _ _ 1 _ _ _ HZ.r4; have p2 : wz.cell? ⟨P, 2, none⟩ = some (.int .u64 (n1 : Nat)) := cell_of_row _ _ 2 _ _ _ HZ.r4; have p3 : wz.cell? ⟨P, 3, none⟩ = some (.string e0) := cell_of_row _ _ 3 _ _ _ HZ.r4; have p4 : wz.cell? ⟨P, 4, none⟩ = some (.string e0) := cell_of_row _ _ 4 _ _ _ HZ.r4; have m0 : wz.cell? ⟨M, 0, none⟩ = some (.int .u64 (a : Nat)) := cell_of_row _ _ 0 _ _ _ HZ.r5; have m1 : wz.cell? ⟨M, 1, none⟩ = some (.int .u64 (n2 : Nat)) := cell_of_row _ _ 1 _ _ _ HZ.r5; have m2 : wz.cell? ⟨M, 2, none⟩ = some (.int .u64 0) := cell_of_row _ _ 2 _ _ _ HZ.r5; have m3 : wz.cell? ⟨M, 3, none⟩ = some (.string e0) := cell_of_row _ _ 3 _ _ _ HZ.r5; have m4 : wz.cell? ⟨M, 4, none⟩ = some (.string e0) := cell_of_row _ _ 4 _ _ _ HZ.r5; have j0 : wz.cell? ⟨J, 0, none⟩ = some (.int .u64 (n3 : Nat)) := cell_of_row _ _ 0 _ _ _ HZ.r6; have j1 : wz.cell? ⟨J, 1, none⟩ = some (.int .u64 0) := cell_of_row _ _ 1 _ _ _ HZ.r6; have j2 : wz.cell? ⟨J, 2, none⟩ = some (.int .u64 0) := cell_of_row _ _ 2 _ _ _ HZ.r6; have j3 : wz.cell? ⟨J, 3, none⟩ = some (.string e0) := cell_of_row _ _ 3 _ _ _ HZ.r6; have j4 : wz.cell? ⟨J, 4, none⟩ = some (.string e0) := cell_of_row _ _ 4 _ _ _ HZ.r6; have q0 : wz.cell? ⟨T, 0, none⟩ = some (.int .u64 a) := cell_of_row _ _ 0 _ _ _ HZ.lw.t; have q1 : wz.cell? ⟨T, 1, none⟩ = some (.int .u64 b) := cell_of_row _ _ 1 _ _ _ HZ.lw.t)
            | (go_at_call 11; (with_reducible refine (K5.out _ HZ.lw.pow HZ.lw.tabs).mono ?_); rintro e wz ⟨rfl, hb⟩; have HY := HZ.keep hb; clear hb HZ; have HZ := HY; clear HY; clear p0 p1 p2 p3 p4 m0 m1 m2 m3 m4 j0 j1 j2 j3 j4 q0 q1; have p0 : wz.cell? ⟨P, 0, none⟩ = some (.int .u64 (a : Nat)) := cell_of_row _ _ 0 _ _ _ HZ.r4; have p1 : wz.cell? ⟨P, 1, none⟩ = some (.int .u64 (b : Nat)) := cell_of_row _ _ 1 _ _ _ HZ.r4; have p2 : wz.cell? ⟨P, 2, none⟩ = some (.int .u64 (n1 : Nat)) := cell_of_row _ _ 2 _ _ _ HZ.r4; have p3 : wz.cell? ⟨P, 3, none⟩ = some (.string e0) := cell_of_row _ _ 3 _ _ _ HZ.r4; have p4 : wz.cell? ⟨P, 4, none⟩ = some (.string e0) := cell_of_row _ _ 4 _ _ _ HZ.r4; have m0 : wz.cell? ⟨M, 0, none⟩ = some (.int .u64 (a : Nat)) := cell_of_row _ _ 0 _ _ _ HZ.r5; have m1 : wz.cell? ⟨M, 1, none⟩ = some (.int .u64 (n2 : Nat)) := cell_of_row _ _ 1 _ _ _ HZ.r5; have m2 : wz.cell? ⟨M, 2, none⟩ = some (.int .u64 0) := cell_of_row _ _ 2 _ _ _ HZ.r5; have m3 : wz.cell? ⟨M, 3, none⟩ = some (.string e0) := cell_of_row _ _ 3 _ _ _ HZ.r5; have m4 : wz.cell? ⟨M, 4, none⟩ = some (.string e0) := cell_of_row _ _ 4 _ _ _ HZ.r5; have j0 : wz.cell? ⟨J, 0, none⟩ = some (.int .u64 (n3 : Nat)) := cell_of_row _ _ 0 _ _ _ HZ.r6; have j1 : wz.cell? ⟨J, 1, none⟩ = some (.int .u64 0) := cell_of_row _ _ 1 _ _ _ HZ.r6; have j2 : wz.cell? ⟨J, 2, none⟩ = some (.int .u64 0) := cell_of_row _ _ 2 _ _ _ HZ.r6; have j3 : wz.cell? ⟨J, 3, none⟩ = some (.string e0) := cell_of_row _ _ 3 _ _ _ HZ.r6; have j4 : wz.cell? ⟨J, 4, none⟩ = some (.string e0) := cell_of_row _ _ 4 _ _ _ HZ.r6; have q0 : wz.cell? ⟨T, 0, none⟩ = some (.int .u64 a) := cell_of_row _ _ 0 _ _ _ HZ.lw.t; have q1 : wz.cell? ⟨T, 1, none⟩ = some (.int .u64 b) := cell_of_row _ _ 1 _ _ _ HZ.lw.t)
            | (go_at_call 11; (with_reducible refine (K6.out _ HZ.lw.pow HZ.lw.tabs).mono ?_); rintro e wz ⟨rfl, hb⟩; have HY := HZ.keep hb; clear hb HZ; have HZ := HY; clear HY; clear p0 p1 p2 p3 p4 m0 m1 m2 m3 m4 j0 j1 j2 j3 j4 q0 q1; have p0 : wz.cell? ⟨P, 0, none⟩ = some (.int .u64 (a : Nat)) := cell_of_row _ _ 0 _ _ _ HZ.r4; have p1 : wz.cell? ⟨P, 1, none⟩ = some (.int .u64 (b : Nat)) := cell_of_row _ _ 1 _ _ _ HZ.r4; have p2 : wz.cell? ⟨P, 2, none⟩ = some (.int .u64 (n1 : Nat)) := cell_of_row _ _ 2 _ _ _ HZ.r4; have p3 : wz.cell? ⟨P, 3, none⟩ = some (.string e0) := cell_of_row _ _ 3 _ _ _ HZ.r4; have p4 : wz.cell? ⟨P, 4, none⟩ = some (.string e0) := cell_of_row _ _ 4 _ _ _ HZ.r4; have m0 : wz.cell? ⟨M, 0, none⟩ = some (.int .u64 (a : Nat)) := cell_of_row _ _ 0 _ _ _ HZ.r5; have m1 : wz.cell? ⟨M, 1, none⟩ = some (.int .u64 (n2 : Nat)) := cell_of_row _ _ 1 _ _ _ HZ.r5; have m2 : wz.cell? ⟨M, 2, none⟩ = some (.int .u64 0) := cell_of_row _ _ 2 _ _ _ HZ.r5; have m3 : wz.cell? ⟨M, 3, none⟩ = some (.string e0) := cell_of_row _ _ 3 _ _ _ HZ.r5; have m4 : wz.cell? ⟨M, 4, none⟩ = some (.string e0) := cell_of_row _ _ 4 _ _ _ HZ.r5; have j0 : wz.cell? ⟨J, 0, none⟩ = some (.int .u64 (n3 : Nat)) := cell_of_row _ _ 0 _ _ _ HZ.r6; have j1 : wz.cell? ⟨J, 1, none⟩ = some (.int .u64 0) := cell_of_row _ _ 1 _ _ _ HZ.r6; have j2 : wz.cell? ⟨J, 2, none⟩ = some (.int .u64 0) := cell_of_row _ _ 2 _ _ _ HZ.r6; have j3 : wz.cell? ⟨J, 3, none⟩ = some (.string e0) := cell_of_row _ _ 3 _ _ _ HZ.r6; have j4 : wz.cell? ⟨J, 4, none⟩ = some (.string e0) := cell_of_row _ _ 4 _ _ _ HZ.r6; have q0 : wz.cell? ⟨T, 0, none⟩ = some (.int .u64 a) := cell_of_row _ _ 0 _ _ _ HZ.lw.t; have q1 : wz.cell? ⟨T, 1, none⟩ = some (.int .u64 b) := cell_of_row _ _ 1 _ _ _ HZ.lw.t)
            | (go_at_call 11; (with_reducible refine (K7.out _ HZ.lw.pow HZ.lw.tabs).mono ?_); rintro e wz ⟨rfl, hb⟩; have HY := HZ.keep hb; clear hb HZ; have HZ := HY; clear HY; clear p0 p1 p2 p3 p4 m0 m1 m2 m3 m4 j0 j1 j2 j3 j4 q0 q1; have p0 : wz.cell? ⟨P, 0, none⟩ = some (.int .u64 (a : Nat)) := cell_of_row _ _ 0 _ _ _ HZ.r4; have p1 : wz.cell? ⟨P, 1, none⟩ = some (.int .u64 (b : Nat)) := cell_of_row _ _ 1 _ _ _ HZ.r4; have p2 : wz.cell? ⟨P, 2, none⟩ = some (.int .u64 (n1 : Nat)) := cell_of_row _ _ 2 _ _ _ HZ.r4; have p3 : wz.cell? ⟨P, 3, none⟩ = some (.string e0) := cell_of_row _ _ 3 _ _ _ HZ.r4; have p4 : wz.cell? ⟨P, 4, none⟩ = some (.string e0) := cell_of_row _ _ 4 _ _ _ HZ.r4; have m0 : wz.cell? ⟨M, 0, none⟩ = some (.int .u64 (a : Nat)) := cell_of_row _ _ 0 _ _ _ HZ.r5; have m1 : wz.cell? ⟨M, 1, none⟩ = some (.int .u64 (n2 : Nat)) := cell_of_row _ _ 1 _ _ _ HZ.r5; have m2 : wz.cell? ⟨M, 2, none⟩ = some (.int .u64 0) := cell_of_row _ _ 2 _ _ _ HZ.r5; have m3 : wz.cell? ⟨M, 3, none⟩ = some (.string e0) := cell_of_row _ _ 3 _ _ _ HZ.r5; have m4 : wz.cell? ⟨M, 4, none⟩ = some (.string e0) := cell_of_row _ _ 4 _ _ _ HZ.r5; have j0 : wz.cell? ⟨J, 0, none⟩ = some (.int .u64 (n3 : Nat)) := cell_of_row _ _ 0 _ _ _ HZ.r6; have j1 : wz.cell? ⟨J, 1, none⟩ = some (.int .u64 0) := cell_of_row _ _ 1 _ _ _ HZ.r6; have j2 : wz.cell? ⟨J, 2, none⟩ = some (.int .u64 0) := cell_of_row _ _ 2 _ _ _ HZ.r6; have j3 : wz.cell? ⟨J, 3, none⟩ = some (.string e0) := cell_of_row _ _ 3 _ _ _ HZ.r6; have j4 : wz.cell? ⟨J, 4, none⟩ = some (.string e0) := cell_of_row _ _ 4 _ _ _ HZ.r6; have q0 : wz.cell? ⟨T, 0, none⟩ = some (.int .u64 a) := cell_of_row _ _ 0 _ _ _ HZ.lw.t; have q1 : wz.cell? ⟨T, 1, none⟩ = some (.int .u64 b) := cell_of_row _ _ 1 _ _ _ HZ.lw.t)
            | (go_at_call 11; (with_reducible refine (K8.out _ HZ.lw.pow HZ.lw.tabs).mono ?_); rintro e wz ⟨rfl, hb⟩; have HY := HZ.keep hb; clear hb HZ; have HZ := HY; clear HY; clear p0 p1 p2 p3 p4 m0 m1 m2 m3 m4 j0 j1 j2 j3 j4 q0 q1; have p0 : wz.cell? ⟨P, 0, none⟩ = some (.int .u64 (a : Nat)) := cell_of_row _ _ 0 _ _ _ HZ.r4; have p1 : wz.cell? ⟨P, 1, none⟩ = some (.int .u64 (b : Nat)) := cell_of_row _ _ 1 _ _ _ HZ.r4; have p2 : wz.cell? ⟨P, 2, none⟩ = some (.int .u64 (n1 : Nat)) := cell_of_row _ _ 2 _ _ _ HZ.r4; have p3 : wz.cell? ⟨P, 3, none⟩ = some (.string e0) := cell_of_row _ _ 3 _ _ _ HZ.r4; have p4 : wz.cell? ⟨P, 4, none⟩ = some (.string e0) := cell_of_row _ _ 4 _ _ _ HZ.r4; have m0 : wz.cell? ⟨M, 0, none⟩ = some (.int .u64 (a : Nat)) := cell_of_row _ _ 0 _ _ _ HZ.r5; have m1 : wz.cell? ⟨M, 1, none⟩ = some (.int .u64 (n2 : Nat)) := cell_of_row _ _ 1 _ _ _ HZ.r5; have m2 : wz.cell? ⟨M, 2, none⟩ = some (.int .u64 0) := cell_of_row _ _ 2 _ _ _ HZ.r5; have m3 : wz.cell? ⟨M, 3, none⟩ = some (.string e0) := cell_of_row _ _ 3 _ _ _ HZ.r5; have m4 : wz.cell? ⟨M, 4, none⟩ = some (.string e0) := cell_of_row _ _ 4 _ _ _ HZ.r5; have j0 : wz.cell? ⟨J, 0, none⟩ = some (.int .u64 (n3 : Nat)) := cell_of_row _ _ 0 _ _ _ HZ.r6; have j1 : wz.cell? ⟨J, 1, none⟩ = some (.int .u64 0) := cell_of_row _ _ 1 _ _ _ HZ.r6; have j2 : wz.cell? ⟨J, 2, none⟩ = some (.int .u64 0) := cell_of_row _ _ 2 _ _ _ HZ.r6; have j3 : wz.cell? ⟨J, 3, none⟩ = some (.string e0) := cell_of_row _ _ 3 _ _ _ HZ.r6; have j4 : wz.cell? ⟨J, 4, none⟩ = some (.string e0) := cell_of_row _ _ 4 _ _ _ HZ.r6; have q0 : wz.cell? ⟨T, 0, none⟩ = some (.int .u64 a) := cell_of_row _ _ 0 _ _ _ HZ.lw.t; have q1 : wz.cell? ⟨T, 1, none⟩ = some (.int .u64 b) := cell_of_row _ _ 1 _ _ _ HZ.lw.t)
            | (go_at_call 11; (with_reducible refine (K9.out _ HZ.lw.pow HZ.lw.tabs).mono ?_); rintro e wz ⟨rfl, hb⟩; have HY := HZ.keep hb; clear hb HZ; have HZ := HY; clear HY; clear p0 p1 p2 p3 p4 m0 m1 m2 m3 m4 j0 j1 j2 j3 j4 q0 q1; have p0 : wz.cell? ⟨P, 0, none⟩ = some (.int .u64 (a : Nat)) := cell_of_row _ _ 0 _ _ _ HZ.r4; have p1 : wz.cell? ⟨P, 1, none⟩ = some (.int .u64 (b : Nat)) := cell_of_row _ _ 1 _ _ _ HZ.r4; have p2 : wz.cell? ⟨P, 2, none⟩ = some (.int .u64 (n1 : Nat)) := cell_of_row _ _ 2 _ _ _ HZ.r4; have p3 : wz.cell? ⟨P, 3, none⟩ = some (.string e0) := cell_of_row _ _ 3 _ _ _ HZ.r4; have p4 : wz.cell? ⟨P, 4, none⟩ = some (.string e0) := cell_of_row _ _ 4 _ _ _ HZ.r4; have m0 : wz.cell? ⟨M, 0, none⟩ = some (.int .u64 (a : Nat)) := cell_of_row _ _ 0 _ _ _ HZ.r5; have m1 : wz.cell? ⟨M, 1, none⟩ = some (.int .u64 (n2 : Nat)) := cell_of_row _ _ 1 _ _ _ HZ.r5; have m2 : wz.cell? ⟨M, 2, none⟩ = some (.int .u64 0) := cell_of_row _ _ 2 _ _ _ HZ.r5; have m3 : wz.cell? ⟨M, 3, none⟩ = some (.string e0) := cell_of_row _ _ 3 _ _ _ HZ.r5; have m4 : wz.cell? ⟨M, 4, none⟩ = some (.string e0) := cell_of_row _ _ 4 _ _ _ HZ.r5; have j0 : wz.cell? ⟨J, 0, none⟩ = some (.int .u64 (n3 : Nat)) := cell_of_row _ _ 0 _ _ _ HZ.r6; have j1 : wz.cell? ⟨J, 1, none⟩ = some (.int .u64 0) := cell_of_row _ _ 1 _ _ _ HZ.r6; have j2 : wz.cell? ⟨J, 2, none⟩ = some (.int .u64 0) := cell_of_row _ _ 2 _ _ _ HZ.r6; have j3 : wz.cell? ⟨J, 3, none⟩ = some (.string e0) := cell_of_row _ _ 3 _ _ _ HZ.r6; have j4 : wz.cell? ⟨J, 4, none⟩ = some (.string e0) := cell_of_row _ _ 4 _ _ _ HZ.r6; have q0 : wz.cell? ⟨T, 0, none⟩ = some (.int .u64 a) := cell_of_row _ _ 0 _ _ _ HZ.lw.t; have q1 : wz.cell? ⟨T, 1, none⟩ = some (.int .u64 b) := cell_of_row _ _ 1 _ _ _ HZ.lw.t))
          go_ret
          exact ⟨rfl, HZ.lw.b⟩
end Go.Proofs.YtflcanlniddgoaaGreatDoor.Sv
end
section
set_option linter.unusedVariables false
set_option linter.unusedSimpArgs false
namespace Go.Proofs.YtflcanlniddgoaaGreatDoor.Sv
open Go Go.ChangeShapes Go.WideShapes Go.ChangeAt Go.RowKit Go.Joins Go.Deep
open Go.ChangeMaps (open_string)
section
variable {H : Type} {enc : TypeId × Value → H} {P : Program} {w : World} {base : Nat} {spare : Nat → Bool} {held : Bool}
theorem open_agg5 {r : Reach} {b0 : Nat} {t : TypeId} {f0 f1 f2 f3 f4 : Field} {v : Value} {d : DataW H} {p : List MemPlace} (hs : P.underlying t = some (.struct #[f0, f1, f2, f3, f4])) (hone : oneCellFields P #[f0, f1, f2, f3, f4] = true) (hC : P.cellsOf t = 5)
    (hv : Value.okWide P w r b0 t v) (h : DataW.Trod enc P w base spare held t v d p) :
    ∃ (v0 v1 v2 v3 v4 : Value) (y0 y1 y2 y3 y4 : DataW H × List MemPlace) (n : Nat), v = .agg #[v0, v1, v2, v3, v4] ∧ d = .agg [y0.1, y1.1, y2.1, y3.1, y4.1] ∧ p = y0.2 ++ (y1.2 ++ (y2.2 ++ (y3.2 ++ y4.2))) ∧
      DataW.trod enc P w base spare held n f0.type [v0] = some y0 ∧ DataW.trod enc P w base spare held n f1.type [v1] = some y1 ∧ DataW.trod enc P w base spare held n f2.type [v2] = some y2 ∧ DataW.trod enc P w base spare held n f3.type [v3] = some y3 ∧ DataW.trod enc P w base spare held n f4.type [v4] = some y4 := by
  obtain ⟨cs, rfl, hsz⟩ := okWide_struct hs hv
  obtain ⟨l⟩ := cs
  match l, hsz.trans hC with
  | [c0, c1, c2, c3, c4], _ =>
    obtain ⟨fuel, hf⟩ := h
    obtain ⟨xs, n, _, hx, _, hlen, hg⟩ := DataW.trod_struct hs hf
    obtain ⟨o0, k0⟩ := hone_of hone 0 f0 rfl
    obtain ⟨o1, k1⟩ := hone_of hone 1 f1 rfl
    obtain ⟨o2, k2⟩ := hone_of hone 2 f2 rfl
    obtain ⟨o3, k3⟩ := hone_of hone 3 f3 rfl
    obtain ⟨o4, k4⟩ := hone_of hone 4 f4 rfl
    match xs, hlen with
    | [y0, y1, y2, y3, y4], _ =>
      simp only [Prod.mk.injEq] at hx
      exact ⟨c0, c1, c2, c3, c4, y0, y1, y2, y3, y4, n, rfl, by simpa using hx.1, by simpa using hx.2, by simpa [Value.cells, o0, k0] using hg 0 f0 rfl, by simpa [Value.cells, o1, k1] using hg 1 f1 rfl, by simpa [Value.cells, o2, k2] using hg 2 f2 rfl, by simpa [Value.cells, o3, k3] using hg 3 f3 rfl, by simpa [Value.cells, o4, k4] using hg 4 f4 rfl⟩
end
theorem own : ownKnob Tryz.prog.godebug = none := by kernel_rfl
theorem laidOut : laidOutB Tryz.prog = true := by kernel_rfl
abbrev laidL : List (String × DataW Unit) := Rows.fnSemverUpgradeRow.laid
theorem nat_of_u64 {z : Int} (h : (Lit.int .u64 z).wf = true) : ∃ n : Nat, z = (n : Int) ∧ n < 18446744073709551616 := by
  have e1 : IntKind.u64.min = 0 := rfl
  have e2 : IntKind.u64.max = 18446744073709551615 := rfl
  simp [Lit.wf, e1, e2] at h
  exact ⟨z.toNat, by omega, by omega⟩
/-- the tables that the row lists -/
theorem tabs_of {W : World} (hL : laidMetH Tryz.prog laidL W) : Pow W ∧ Lib.Utf8Tabs 14 15 W := by
  rw [MakeChecks.laidMetH_plain _ _ _ (by kernel_rfl)] at hL
  constructor
  · obtain ⟨g, t, cs, fuel, p, hg, hty, hvar, hd⟩ := Lib.laidMet.reads hL (n := "internal/strconv.uint64pow10") (d := Rows.laid_internal_strconv_uint64pow10) (.tail _ (.tail _ (.head _)))
    have hg0 : Tryz.prog.globalNamed "internal/strconv.uint64pow10" = some g := hg
    have ed : (Rows.laid_internal_strconv_uint64pow10 : DataW Unit) = Lib.tabData .u64 Lib.pow10Tab := by kernel_rfl
    rw [ed] at hd
    obtain rfl := Option.some.inj ((show Tryz.prog.globalNamed "internal/strconv.uint64pow10" = some 2 by kernel_rfl).symm.trans hg0)
    obtain rfl := Option.some.inj ((show (Tryz.prog.globals[2]?).map (·.type) = some 110 by kernel_rfl).symm.trans hty)
    have hcs := Lib.cells_of_tab (n := 20) (e := 22) (by kernel_rfl) (by kernel_rfl) (by kernel_rfl) (by kernel_rfl) hd
    unfold Pow Lib.TabIs
    rw [hvar, ← hcs]
  · have e1 : (Rows.laid_unicode_utf8_first : DataW Unit) = Lib.firstData := by kernel_rfl
    have e2 : (Rows.laid_unicode_utf8_acceptRanges : DataW Unit) = Lib.acceptData := by kernel_rfl
    have h1 := Lib.laidMet.reads hL (n := "unicode/utf8.first") (d := Rows.laid_unicode_utf8_first) (.tail _ (.tail _ (.tail _ (.tail _ (.tail _ (.tail _ (.tail _ (.tail _ (.tail _ (.tail _ (.tail _ (.tail _ (.tail _ (.tail _ (.tail _ (.head _))))))))))))))))
    have h2 := Lib.laidMet.reads hL (n := "unicode/utf8.acceptRanges") (d := Rows.laid_unicode_utf8_acceptRanges) (.tail _ (.tail _ (.tail _ (.head _))))
    rw [e1] at h1
    rw [e2] at h2
    exact utf8Tabs_of_reads (ρ := Tryz.lays197_ren) { Tryz.lays197 with } ⟨by kernel_rfl, by kernel_rfl, by kernel_rfl, by kernel_rfl, by kernel_rfl, by kernel_rfl, by kernel_rfl⟩ h1 h2
set_option maxRecDepth 100000 in
theorem lifted (os : Os) (started : os.Started) (H : Type) (enc : TypeId × Value → H) :
    ReturnsInHanded {} Tryz.checked os 3 .any (fun w args => (Rows.fnSemverUpgradeSpec.pre enc Tryz.prog Tryz.f3 Rows.fnSemverUpgradeRow.domain false w args ∧ laidMetH Tryz.prog laidL w) ∧ sizedMet enc Tryz.prog Tryz.f3 (OpenSpec.ofChange Rows.fnSemverUpgradeSpec) false w args)
      (Rows.fnSemverUpgradeSpec.post enc Tryz.prog Tryz.f3 false true false false) := by
  refine returnsInHanded_of_change_and (C := Tryz.checked) (X := fun w _ => laidMetH Tryz.prog laidL w) (fun _ _ _ hh h => h.of_heap hh) own started (by kernel_rfl) Tryz.func3
    (ChangeSpec.witness_shaped (enc := enc) (C := Tryz.checked) (os := os) (X := fun w _ => laidMetH Tryz.prog laidL w) false (World.laidAll Tryz.prog os laidL) #[.agg #[.int .u64 0, .int .u64 0, .int .u64 0, .string ⟨#[]⟩, .string ⟨#[]⟩]] 8 (World.laidAll_os _ _ _)
      (World.shaped_of_ZipB (by kernel_rfl) (by kernel_rfl)) (by kernel_rfl) (by kernel_rfl) (by kernel_rfl)
      (by rw [MakeChecks.laidMetH_plain _ _ _ (by kernel_rfl)]; exact laidMet_laidAll _ (by kernel_rfl) (by kernel_rfl))) ?_
  intro W base args ds gs before hval0 hW hc _ hL _
  have hval : ∀ (j : Nat) t v, Tryz.f3.params[j]? = some t → args[j]? = some v → Value.okWide Tryz.prog W .any base t v := hval0
  have hW' := hW
  obtain ⟨p, q, hA0, hV, rfl, hfz, hnd⟩ := hW
  have hA : DataW.TrodAll enc Tryz.prog W 0 (fun _ => true) true Tryz.f3.params.toList args.toList ds p := hA0
  rw [Tryz.params3] at hA hval
  obtain ⟨v0, vs0, d0, ds0, p0, q0, hargs, rfl, rfl, h0, r0⟩ := trodAll_cons hA
  obtain ⟨rfl, rfl, rfl⟩ := trodAll_nil r0
  obtain rfl : args = #[v0] := by cases args; simp_all
  obtain ⟨rfl, rfl⟩ := trodVars_none hV
  have k0 := h0
  have lt0 : ∀ x ∈ p0, x.block < W.heap.size := by obtain ⟨m, hm⟩ := k0; exact DataW.trod_lt m _ _ _ hm
  obtain ⟨b0, b1, b2, b3, b4, z0, z1, z2, z3, z4, n1, rfl, -, -, t0, t1, t2, t3, t4⟩ := open_agg5 Tryz.underlying24 (by kernel_rfl) (by kernel_rfl) (hval 0 24 v0 rfl rfl) h0
  obtain ⟨s0, e0', -, x0⟩ := DataW.trod_int Tryz.underlying22 t0
  obtain ⟨s1, e1, -, x1⟩ := DataW.trod_int Tryz.underlying22 t1
  obtain ⟨s2, e2, -, x2⟩ := DataW.trod_int Tryz.underlying22 t2
  obtain ⟨s3, e3, -, x3⟩ := DataW.trod_string Tryz.underlying9 t3
  obtain ⟨s4, e4, -, x4⟩ := DataW.trod_string Tryz.underlying9 t4
  injection e0' with e0' _
  injection e1 with e1 _
  injection e2 with e2 _
  injection e3 with e3 _
  injection e4 with e4 _
  subst e0' e1 e2 e3 e4
  obtain ⟨a, rfl, ha⟩ := nat_of_u64 x0
  obtain ⟨b, rfl, hb⟩ := nat_of_u64 x1
  obtain ⟨c, rfl, hc'⟩ := nat_of_u64 x2
  obtain ⟨hP, hT⟩ := tabs_of hL
  refine (lawA a b c ha hb hc' s3 s4 W hP hT).mono fun e W' h => ?_
  obtain ⟨he, bel⟩ := h
  subst he
  exact ⟨_, rfl, _, _, _, [], _, [], hW', trodAll_mk1 (shut_bool Tryz.underlying4 _), (trodAll_cons_mk (Below.trod laidOut (by kernel_rfl) (of_decide_eq_true (by kernel_rfl)) k0 bel lt0) trodAll_mk0), rfl, bel.frame _, fun h => by cases h⟩
theorem over : Rows.FnSemverUpgradeSaid :=
  OpenClaim.holds_of_wide 3 Tryz.f3 rfl rfl rfl rfl rfl rfl rfl ⟨rfl, rfl, rfl, rfl, rfl⟩ rfl rfl rfl rfl rfl (by kernel_rfl) Tryz.func3 (by kernel_rfl)
    (of_decide_eq_true (by kernel_rfl)) (by unfold Func.isWrapper; first | (rw [if_pos (by decide +kernel)]; kernel_rfl) | (rw [if_neg (by decide +kernel)]; exact ⟨rfl, rfl⟩))
    (fun os started H enc _ => lifted os started H enc)
end Go.Proofs.YtflcanlniddgoaaGreatDoor.Sv
namespace Go.Proofs.YtflcanlniddgoaaGreatDoor
/-- The law holds of every input; what it lists is tied to the program's text. -/
theorem fnSemverUpgrade_card : Rows.FnSemverUpgradeCardSaid :=
  Claim7.holds_tied_plain_at .later [] [.data, .data, .data, .data, .sentinel, .sentinel, .sentinel, .sentinel, .sentinel, .sentinel, .sentinel, .sentinel, .sentinel, .sentinel, .sentinel, .pinned] true (true, "427a2768ba4aebe0134ef9a27b0bbf96c2824c31f3c5be4efabc621d401bf5f8") true Sv.over (fun _ h => by cases h) (by kernel_rfl) (fun _ h => by cases h) fnSemverUpgrade_row_tie rfl ⟨rfl, rfl⟩ (by kernel_rfl) rfl
    (fun f fn hf hfn => by
      obtain rfl : f = 3 := Option.some.inj ((show Tryz.prog.funcNamed "pub-timebook/laws.FnSemverUpgrade" = some 3 by kernel_rfl).symm.trans hf) |>.symm
      obtain rfl : fn = Tryz.f3 := (Option.some.inj (Tryz.func3.symm.trans hfn)).symm
      exact ⟨by kernel_rfl, fun j t ht => by
        rw [Tryz.params3] at ht
        have hm : t ∈ [24] := by simpa using Array.mem_of_getElem? ht
        have hall : ([24].all fun u => !Tryz.prog.wantsStandIn u) = true := by kernel_rfl
        exact (show Tryz.prog.wantsStandIn t = false by simpa using List.all_eq_true.1 hall t hm)⟩)
    (by kernel_rfl)
end Go.Proofs.YtflcanlniddgoaaGreatDoor
#print axioms Go.Proofs.YtflcanlniddgoaaGreatDoor.fnSemverUpgrade_card
end
