/- a part of the proof: FnSemverKindOfGroups: for every list of lists of terms and every style the law's function returns true and leaves its arguments as they were. No condition is added: the statement is the given one, the tied card. -/
import Derived.Test.YtkdecbloihoanaaGreatDoorNG
import Derived.Test.YtkdecbloihoanaaGreatDoorNC
import Derived.Laws.IdiomStrings
import Derived.Lib.ItoaMem
import Derived.Deep.QuietTactic
section
set_option linter.unusedVariables false
set_option linter.unusedSimpArgs false
/- a good term, good terms -/
namespace Go.Proofs.YtkdecbloihoanaaGreatDoor.Sv
open Go Go.RowKit Rx
set_option maxRecDepth 100000
/-- a term as it comes -/
structure TV where
  op : Int
  g : Int
  a : Nat
  b : Nat
  c : Nat
  pre : Bs
def TV.cells (t : TV) : List Value := [.int .i64 t.op, .int .i64 t.g, .int .u64 t.a, .int .u64 t.b, .int .u64 t.c, .string (bytesOf t.pre)]
def TV.val (t : TV) : Value := .agg #[.int .i64 t.op, .int .i64 t.g, .int .u64 t.a, .int .u64 t.b, .int .u64 t.c, .string (bytesOf t.pre)]
structure TV.Good (t : TV) : Prop where
  op : 0 ≤ t.op ∧ t.op < 8
  g : 0 ≤ t.g ∧ t.g ≤ 3
  c : t.g < 3 → t.c = 0 ∧ t.pre = []
  b : t.g < 2 → t.b = 0
  a : t.g < 1 → t.a = 0
  pre : t.pre = [] ∨ PreOk t.pre
set_option maxHeartbeats 8000000 in
theorem m9 (t : TV) (hu : t.pre.length ≤ 2147483647) (w : World) : Calls Tryz.prog 9 #[t.val] w fun e w' => OkB e t.Good ∧ Below w.heap.size w w' := by
  obtain ⟨op, g, a, b, c, pre⟩ := t
  unfold TV.val
  simp only at *
  have H0 : Below w.heap.size w (w.alloc (.cells #[.int .i64 op, .int .i64 g, .int .u64 a, .int .u64 b, .int .u64 c, .string (bytesOf pre)] 28)) := (Below.refl _ w).alloc (Nat.le_refl _) _
  have H14 := Lib.hid (fun w => m14 pre hu w)
  have H15 := Lib.hid (fun w => m15 pre hu w)
  have hcs := heap_alloc_new w (.cells #[.int .i64 op, .int .i64 g, .int .u64 a, .int .u64 b, .int .u64 c, .string (bytesOf pre)] 28 (0, 0))
  have e1 := bytesOf_toList pre
  obtain ⟨ra, hra⟩ : ∃ r, ((a : Int) == 0) = r := ⟨_, rfl⟩
  obtain ⟨rb, hrb⟩ : ∃ r, ((b : Int) == 0) = r := ⟨_, rfl⟩
  obtain ⟨rc, hrc⟩ : ∃ r, ((c : Int) == 0) = r := ⟨_, rfl⟩
  have hna : ((a : Int) != 0) = !ra := by rw [← hra]; rfl
  have hnb : ((b : Int) != 0) = !rb := by rw [← hrb]; rfl
  have hnc : ((c : Int) != 0) = !rc := by rw [← hrc]; rfl
  obtain ⟨g0, hg0⟩ : ∃ r, (g == 0) = r := ⟨_, rfl⟩
  obtain ⟨g3, hg3⟩ : ∃ r, (g == 3) = r := ⟨_, rfl⟩
  obtain ⟨o0, ho0⟩ : ∃ r, (op != 0) = r := ⟨_, rfl⟩
  obtain ⟨o4, ho4⟩ : ∃ r, (op != 4) = r := ⟨_, rfl⟩
  obtain ⟨o6, ho6⟩ : ∃ r, (op != 6) = r := ⟨_, rfl⟩
  obtain ⟨o7, ho7⟩ : ∃ r, (op == 6) = r := ⟨_, rfl⟩
  obtain ⟨rp, hrp⟩ : ∃ r, (pre == ([] : Bs)) = r := ⟨_, rfl⟩
  have hnp : (pre != ([] : Bs)) = !rp := by rw [← hrp]; rfl
  have HZ := Lib.hid (And.intro hra (And.intro hrb (And.intro hrc hrp)))
  go_enter Tryz.func9, Tryz.ntmps9
  go_upto_region 1 with fail
  generalize w.alloc (.cells #[.int .i64 op, .int .i64 g, .int .u64 a, .int .u64 b, .int .u64 c, .string (bytesOf pre)] 28) = w0 at *
  generalize w.heap.size = T at hcs ⊢
  have q0 : w0.cell? ⟨T, 0, none⟩ = some (.int .i64 op) := cell_of_row _ _ 0 _ _ _ hcs
  have q1 : w0.cell? ⟨T, 1, none⟩ = some (.int .i64 g) := cell_of_row _ _ 1 _ _ _ hcs
  have q2 : w0.cell? ⟨T, 2, none⟩ = some (.int .u64 a) := cell_of_row _ _ 2 _ _ _ hcs
  have q3 : w0.cell? ⟨T, 3, none⟩ = some (.int .u64 b) := cell_of_row _ _ 3 _ _ _ hcs
  have q4 : w0.cell? ⟨T, 4, none⟩ = some (.int .u64 c) := cell_of_row _ _ 4 _ _ _ hcs
  have q5 : w0.cell? ⟨T, 5, none⟩ = some (.string (bytesOf pre)) := cell_of_row _ _ 5 _ _ _ hcs
  have hTl : T < w0.heap.size := (Array.getElem?_eq_some_iff.1 hcs).1
  clear hcs
  go_cut [3] from 4 to 17 (fun s3 wc => ∃ r : Bool, s3 = .bool r ∧ wc = w0)
  case first =>
    go_wp2
    all_goals go_meet
    all_goals exact ⟨_, rfl, rfl⟩
  case rest =>
    obtain ⟨z, rfl, hw⟩ := hcut
    obtain rfl := hw.symm
    go_upto_region 2 with fail
    go_cut [17] from 18 to 49 (fun s17 wc => ∃ r : Bool, s17 = .bool r ∧ wc = w0)
    case first =>
      go_wp2
      all_goals go_meet
      all_goals exact ⟨_, rfl, rfl⟩
    case rest =>
      obtain ⟨z2, rfl, hw⟩ := hcut
      obtain rfl := hw.symm
      cases z2
      · go_upto_region 4 with fail
        go_cut [49] from 50 to 68 (fun s49 wc => ∃ r : Bool, s49 = .bool r ∧ wc = w0 ∧ (r = false → (0 ≤ op ∧ op < 8) ∧ 0 ≤ g ∧ g ≤ 3))
        case first =>
          go_wp2
          all_goals go_meet
          all_goals first
            | (refine ⟨_, rfl, rfl, fun h => ?_⟩; cases h; done)
            | (refine ⟨_, rfl, rfl, fun h => ?_⟩; simp at h; omega)
        case rest =>
          obtain ⟨z3, rfl, hw, h3⟩ := hcut
          obtain rfl := hw.symm
          cases z3
          · have H3 := Lib.hid (h3 rfl)
            clear h3
            go_upto_region 6 with fail
            go_cut [68] from 69 to 102 (fun s68 wc => ∃ r : Bool, s68 = .bool r ∧ wc = w0 ∧ (r = false → (g < 3 → rc = true ∧ rp = true) ∧ (g < 2 → rb = true) ∧ (g < 1 → ra = true)))
            case first =>
              go_wp2
              all_goals go_meet
              all_goals first
                | (refine ⟨_, rfl, rfl, fun h => ?_⟩; cases h; done)
                | (refine ⟨_, rfl, rfl, fun h => ⟨fun _ => ⟨?_, ?_⟩, fun _ => ?_, fun _ => ?_⟩⟩ <;> first | rfl | omega | (simp_all; done) | (simp at *; omega))
            case rest =>
              obtain ⟨z4, rfl, hw, h4⟩ := hcut
              obtain rfl := hw.symm
              cases z4
              · have H4 := Lib.hid (h4 rfl)
                clear h4
                go_upto_region 8 with fail
                cases rp
                · go_wp2_with (first
                    | (go_at_call 14; refine (H14.out _).mono ?_; rintro e w5 ⟨⟨r5, rfl, hr5⟩, hb⟩; have H5 := H0.trans (hb.mono H0.size); have q5 : w5.cell? ⟨T, 5, none⟩ = some (.string (bytesOf pre)) := (hb.cell (p := ⟨T, 5, none⟩) hTl).trans q5; have HR := Lib.hid hr5; clear hb hr5)
                    | (go_at_call 15; refine (H15.out _).mono ?_; rintro e w6 ⟨⟨r6, rfl⟩, hb⟩; have H6 := H5.trans (hb.mono H5.size); clear hb))
                  · go_ret
                    refine ⟨⟨_, rfl, fun _ => ⟨H3.out.1, H3.out.2, fun h => ?_, fun h => ?_, fun h => ?_, .inr (HR.out (by assumption))⟩⟩, H6⟩
                    · have h1 := H4.out.1 h
                      exact absurd h1.2 (by simp)
                    · have h1 := H4.out.2.1 h
                      have h2 := HZ.out.2.1
                      rw [h1] at h2
                      simp at h2; exact h2
                    · have h1 := H4.out.2.2 h
                      have h2 := HZ.out.1
                      rw [h1] at h2
                      simp at h2; exact h2
                  · go_ret
                    exact ⟨⟨_, rfl, fun h => by cases h⟩, H5⟩
                · go_wp2
                  go_ret
                  have hpre : pre = [] := by
                    have h2 := HZ.out.2.2.2
                    simpa using h2
                  refine ⟨⟨_, rfl, fun _ => ⟨H3.out.1, H3.out.2, fun h => ⟨?_, hpre⟩, fun h => ?_, fun h => ?_, .inl hpre⟩⟩, H0⟩
                  · have h1 := (H4.out.1 h).1
                    have h2 := HZ.out.2.2.1
                    rw [h1] at h2
                    simp at h2; exact h2
                  · have h1 := H4.out.2.1 h
                    have h2 := HZ.out.2.1
                    rw [h1] at h2
                    simp at h2; exact h2
                  · have h1 := H4.out.2.2 h
                    have h2 := HZ.out.1
                    rw [h1] at h2
                    simp at h2; exact h2
              · go_wp2
                go_ret
                exact ⟨⟨_, rfl, fun h => by cases h⟩, H0⟩
          · go_wp2
            go_ret
            exact ⟨⟨_, rfl, fun h => by cases h⟩, H0⟩
      · go_wp2
        go_ret
        exact ⟨⟨_, rfl, fun h => by cases h⟩, H0⟩
end Go.Proofs.YtkdecbloihoanaaGreatDoor.Sv
end
section
set_option linter.unusedVariables false
set_option linter.unusedSimpArgs false
/- lists of terms in memory; the guards of size; good terms -/
namespace Go.Proofs.YtkdecbloihoanaaGreatDoor.Sv
open Go Go.RowKit Rx
set_option maxRecDepth 100000
/-- a term's cells -/
def TermAt (W : World) (B o : Nat) (t : TV) : Prop := W.cell? ⟨B, o, none⟩ = some (.int .i64 t.op) ∧ W.cell? ⟨B, o + 1, none⟩ = some (.int .i64 t.g) ∧ W.cell? ⟨B, o + 2, none⟩ = some (.int .u64 t.a) ∧ W.cell? ⟨B, o + 3, none⟩ = some (.int .u64 t.b) ∧ W.cell? ⟨B, o + 4, none⟩ = some (.int .u64 t.c) ∧ W.cell? ⟨B, o + 5, none⟩ = some (.string (bytesOf t.pre))
theorem TermAt.keep {W W' : World} {B o n : Nat} {t : TV} (h : TermAt W B o t) (hB : B < n) (hb : Below n W W') : TermAt W' B o t := by
  have k : ∀ o x, W.cell? ⟨B, o, none⟩ = some x → W'.cell? ⟨B, o, none⟩ = some x := fun o x hx => (hb.cell (p := ⟨B, o, none⟩) hB).trans hx
  exact ⟨k _ _ h.1, k _ _ h.2.1, k _ _ h.2.2.1, k _ _ h.2.2.2.1, k _ _ h.2.2.2.2.1, k _ _ h.2.2.2.2.2⟩
/-- a list of terms that comes as an argument, in blocks below n -/
def RowIn (n : Nat) (W : World) (v : Value) (ts : List TV) : Prop := ∃ a cap, v = .slice a ts.length cap ∧ ∀ i t, ts[i]? = some t → ∃ B off, a = some ⟨B, off, none⟩ ∧ B < n ∧ TermAt W B (off + i * 6) t
theorem RowIn.keep {n : Nat} {W W' : World} {v : Value} {ts : List TV} (h : RowIn n W v ts) (hb : Below n W W') : RowIn n W' v ts := by
  obtain ⟨a, cap, e, h⟩ := h
  refine ⟨a, cap, e, fun i t ht => ?_⟩
  obtain ⟨B, off, e2, h1, h2⟩ := h i t ht
  exact ⟨B, off, e2, h1, h2.keep h1 hb⟩
theorem m13 (t : TV) (w : World) : Calls Tryz.prog 13 #[t.val] w fun e w' => OkB e (t.pre.length ≤ 2147483647) ∧ Below w.heap.size w w' := by
  obtain ⟨op, g, a, b, c, pre⟩ := t
  unfold TV.val
  have hsz := bytesOf_size pre
  have H0 := Lib.hid ((Below.refl _ w).alloc (Nat.le_refl _) (.cells #[.int .i64 op, .int .i64 g, .int .u64 a, .int .u64 b, .int .u64 c, .string (bytesOf pre)] 28))
  by_cases hr : (2147483647 : Int) < (pre.length : Int)
  · go_enter Tryz.func13, Tryz.ntmps13
    go_wp2
    go_ret
    exact ⟨⟨_, rfl, fun h => by cases h⟩, H0.out⟩
  · go_enter Tryz.func13, Tryz.ntmps13
    go_wp2
    go_ret
    exact ⟨⟨_, rfl, fun h => by omega⟩, H0.out⟩
set_option maxHeartbeats 4000000 in
theorem m8 (v : Value) (ts : List TV) (n : Nat) (w : World) (hnw : n ≤ w.heap.size) (h : RowIn n w v ts) : Calls Tryz.prog 8 #[v] w fun e w' => OkB e (ts.length ≤ 2147483647 ∧ ∀ t ∈ ts, t.pre.length ≤ 2147483647) ∧ Below w.heap.size w w' := by
  have H13 := Lib.hid m13
  obtain ⟨a, cap, rfl, hc⟩ := h
  have HC := Lib.hid (And.intro hc hnw)
  clear hc hnw
  by_cases hbig : (2147483647 : Int) < (ts.length : Int)
  · go_enter Tryz.func8, Tryz.ntmps8
    go_wp2
    go_ret
    exact ⟨⟨_, rfl, fun h => by cases h⟩, Below.refl _ _⟩
  · go_enter Tryz.func8, Tryz.ntmps8
    go_wp2
    go_loopw [10] (fun kv W => ∃ k : Nat, kv = .int .i64 k ∧ k ≤ ts.length ∧ Hid (Below w.heap.size w W ∧ ∀ j (h : j < ts.length), j < k → (ts[j]'h).pre.length ≤ 2147483647)) (fun kv _ => 3000000000 - (intOf kv).toNat)
    case atStart => exact ⟨0, rfl, Nat.zero_le _, Lib.hid ⟨Below.refl _ _, fun j h h' => by omega⟩⟩
    case round =>
      obtain ⟨k, rfl, hk, HW⟩ := hrel
      by_cases c : k < ts.length
      · have c1 : (k : Int) < (ts.length : Int) := by omega
        obtain ⟨t, ht⟩ : ∃ t, ts[k]'c = t := ⟨_, rfl⟩
        obtain ⟨B, off, rfl, hB, hq⟩ := HC.out.1 k t (by rw [List.getElem?_eq_getElem c, ht])
        obtain ⟨q0, q1, q2, q3, q4, q5⟩ := hq.keep (Nat.lt_of_lt_of_le hB HC.out.2) HW.out.1
        have H := Lib.hid (fun w => H13.out t w)
        unfold TV.val at H
        have HT := Lib.hid ht
        clear ht hq
        obtain ⟨op, g, a, b, cc, pre⟩ := t
        simp only at *
        go_wp2_with (go_at_call 13; refine (H.out _).mono ?_; rintro e w2 ⟨⟨r, rfl, hr⟩, hb⟩; have HB := Lib.hid (And.intro hr (((HW.out.1.alloc HW.out.1.size _)).trans (hb.mono (by have := HW.out.1.size; simp; omega)))); clear hr hb)
        all_goals first
          | (go_ret; exact ⟨⟨_, rfl, fun h => by cases h⟩, HB.out.2⟩)
          | skip
        refine ⟨⟨k + 1, rfl, by omega, Lib.hid ⟨HB.out.2, fun j h h' => ?_⟩⟩, by simp [intOf]; omega⟩
        by_cases hj : j = k
        · subst hj; rw [HT.out]; exact HB.out.1 (by simp_all)
        · exact HW.out.2 j h (by omega)
      · have c1 : ¬ (k : Int) < (ts.length : Int) := by omega
        go_wp2
        go_ret
        refine ⟨⟨_, rfl, fun _ => ⟨by omega, fun t ht => ?_⟩⟩, HW.out.1⟩
        obtain ⟨j, hj, rfl⟩ := List.getElem_of_mem ht
        exact HW.out.2 j hj (by omega)
/-- lists of lists of terms that come as an argument -/
def ConIn (n : Nat) (W : World) (v : Value) (C : List (List TV)) : Prop := ∃ a cap, v = .slice a C.length cap ∧ ∀ i r, C[i]? = some r → ∃ B off u, a = some ⟨B, off, none⟩ ∧ B < n ∧ W.cell? ⟨B, off + i, none⟩ = some u ∧ RowIn n W u r
theorem ConIn.keep {n : Nat} {W W' : World} {v : Value} {C : List (List TV)} (h : ConIn n W v C) (hb : Below n W W') : ConIn n W' v C := by
  obtain ⟨a, cap, e, h⟩ := h
  refine ⟨a, cap, e, fun i t ht => ?_⟩
  obtain ⟨B, off, u, e2, h1, h2, h3⟩ := h i t ht
  exact ⟨B, off, u, e2, h1, (hb.cell (p := ⟨B, off + i, none⟩) h1).trans h2, h3.keep hb⟩
def ShortC (C : List (List TV)) : Prop := C.length ≤ 2147483647 ∧ ∀ r ∈ C, r.length ≤ 2147483647 ∧ ∀ t ∈ r, t.pre.length ≤ 2147483647
set_option maxHeartbeats 4000000 in
theorem m4 (v : Value) (C : List (List TV)) (n : Nat) (w : World) (hnw : n ≤ w.heap.size) (h : ConIn n w v C) : Calls Tryz.prog 4 #[v] w fun e w' => OkB e (ShortC C) ∧ Below w.heap.size w w' := by
  have H8 := Lib.hid m8
  obtain ⟨a, cap, rfl, hc⟩ := h
  have HC := Lib.hid (And.intro hc hnw)
  clear hc hnw
  by_cases hbig : (2147483647 : Int) < (C.length : Int)
  · go_enter Tryz.func4, Tryz.ntmps4
    go_wp2
    go_ret
    exact ⟨⟨_, rfl, fun h => by cases h⟩, Below.refl _ _⟩
  · go_enter Tryz.func4, Tryz.ntmps4
    go_wp2
    go_loopw [10] (fun kv W => ∃ k : Nat, kv = .int .i64 k ∧ k ≤ C.length ∧ Hid (Below w.heap.size w W ∧ ∀ j (h : j < C.length), j < k → (C[j]'h).length ≤ 2147483647 ∧ ∀ t ∈ C[j]'h, t.pre.length ≤ 2147483647)) (fun kv _ => 3000000000 - (intOf kv).toNat)
    case atStart => exact ⟨0, rfl, Nat.zero_le _, Lib.hid ⟨Below.refl _ _, fun j h h' => by omega⟩⟩
    case round =>
      obtain ⟨k, rfl, hk, HW⟩ := hrel
      by_cases c : k < C.length
      · have c1 : (k : Int) < (C.length : Int) := by omega
        obtain ⟨t, ht⟩ : ∃ t, C[k]'c = t := ⟨_, rfl⟩
        obtain ⟨B, off, u, rfl, hB, hq, hr⟩ := HC.out.1 k t (by rw [List.getElem?_eq_getElem c, ht])
        have hbn : Below n w wr := HW.out.1.mono HC.out.2
        have q0 : wr.cell? ⟨B, off + k, none⟩ = some u := (hbn.cell (p := ⟨B, off + k, none⟩) hB).trans hq
        have hsz : n ≤ wr.heap.size := Nat.le_trans HC.out.2 HW.out.1.size
        have H := Lib.hid (H8.out u t n wr hsz (hr.keep hbn))
        have HT := Lib.hid (And.intro ht hr)
        obtain ⟨ua, uc, hu, -⟩ := hr
        subst hu
        clear ht hq hbn hsz
        go_wp2_with (go_at_call 8; refine H.out.mono ?_; rintro e w2 ⟨⟨r, rfl, hr⟩, hb⟩; have HB := Lib.hid (And.intro hr (HW.out.1.trans (hb.mono HW.out.1.size))); clear hr hb)
        all_goals first
          | (go_ret; exact ⟨⟨_, rfl, fun h => by cases h⟩, HB.out.2⟩)
          | skip
        refine ⟨⟨k + 1, rfl, by omega, Lib.hid ⟨HB.out.2, fun j h h' => ?_⟩⟩, by simp [intOf]; omega⟩
        by_cases hj : j = k
        · subst hj; rw [HT.out.1]; exact HB.out.1 (by simp_all)
        · exact HW.out.2 j h (by omega)
      · have c1 : ¬ (k : Int) < (C.length : Int) := by omega
        go_wp2
        go_ret
        refine ⟨⟨_, rfl, fun _ => ⟨by omega, fun t ht => ?_⟩⟩, HW.out.1⟩
        obtain ⟨j, hj, rfl⟩ := List.getElem_of_mem ht
        exact HW.out.2 j hj (by omega)
end Go.Proofs.YtkdecbloihoanaaGreatDoor.Sv
end
section
set_option linter.unusedVariables false
set_option linter.unusedSimpArgs false
/- good lists of terms -/
namespace Go.Proofs.YtkdecbloihoanaaGreatDoor.Sv
open Go Go.RowKit Rx
set_option maxRecDepth 100000
def sumL (C : List (List TV)) : Nat := (C.map List.length).sum
structure GoodC (most : Nat) (C : List (List TV)) : Prop where
  pos : C ≠ []
  sum : sumL C ≤ most
  row : ∀ r ∈ C, r ≠ [] ∧ ∀ t ∈ r, t.Good
theorem sumL_take {C : List (List TV)} {k : Nat} (h : k < C.length) : sumL (C.take (k + 1)) = sumL (C.take k) + (C[k]'h).length := by
  unfold sumL
  rw [List.take_succ_eq_append_getElem h]
  simp only [List.map_append, List.sum_append, List.map_cons, List.map_nil, List.sum_cons, List.sum_nil, Nat.add_zero]
set_option maxHeartbeats 8000000 in
theorem m5 (most : Nat) (hmo : most ≤ 1000) (v : Value) (C : List (List TV)) (n : Nat) (w : World) (hnw : n ≤ w.heap.size) (h : ConIn n w v C) (hS : ShortC C) : Calls Tryz.prog 5 #[v, .int .i64 most] w fun e w' => OkB e (GoodC most C) ∧ Below w.heap.size w w' := by
  have H9 := Lib.hid m9
  obtain ⟨a, cap, rfl, hc⟩ := h
  have HC := Lib.hid (And.intro hc hnw)
  have HS := Lib.hid hS
  have hcl : (C.length : Int) ≤ 2147483647 := by have := hS.1; omega
  have hmi : (most : Int) ≤ 1000 := by omega
  clear hc hnw hS
  go_enter Tryz.func5, Tryz.ntmps5
  go_wp2
  go_loopw [5, 12] (fun nv kv W => ∃ k m : Nat, kv = .int .i64 k ∧ nv = .int .i64 m ∧ k ≤ C.length ∧ m ≤ most ∧ Hid (Below w.heap.size w W ∧ m = sumL (C.take k) ∧ (0 < k → 0 < m) ∧ ∀ j (h : j < C.length), j < k → C[j]'h ≠ [] ∧ ∀ t ∈ C[j]'h, t.Good)) (fun _ kv _ => 3000000000 - (intOf kv).toNat)
  case atStart => exact ⟨0, 0, rfl, rfl, Nat.zero_le _, Nat.zero_le _, Lib.hid ⟨Below.refl _ _, by simp [sumL], fun h => by omega, fun j h h' => by omega⟩⟩
  case round =>
    obtain ⟨k, m, rfl, rfl, hk, hm, HW⟩ := hrel
    by_cases c : k < C.length
    · have c1 : (k : Int) < (C.length : Int) := by omega
      obtain ⟨r, hr⟩ : ∃ r, C[k]'c = r := ⟨_, rfl⟩
      obtain ⟨B, off, u, rfl, hB, hq, hrow⟩ := HC.out.1 k r (by rw [List.getElem?_eq_getElem c, hr])
      have hbn : Below n w wr := HW.out.1.mono HC.out.2
      have q0 : wr.cell? ⟨B, off + k, none⟩ = some u := (hbn.cell (p := ⟨B, off + k, none⟩) hB).trans hq
      obtain ⟨ua, uc, hu, hcells⟩ := hrow
      subst hu
      have hsh := HS.out.2 r (by rw [← hr]; exact List.getElem_mem c)
      have hrl : (r.length : Int) ≤ 2147483647 := by have := hsh.1; omega
      have HR := Lib.hid (And.intro hr (And.intro hcells hsh))
      clear hr hq hbn hcells hsh
      go_upto_region 5 with fail
      go_wp2
      go_loopw [18] (fun iv W => ∃ i : Nat, iv = .int .i64 i ∧ i ≤ r.length ∧ Hid (Below w.heap.size w W ∧ ∀ j (h : j < r.length), j < i → (r[j]'h).Good)) (fun iv _ => 3000000000 - (intOf iv).toNat)
      case atStart => exact ⟨0, rfl, Nat.zero_le _, Lib.hid ⟨HW.out.1, fun j h h' => by omega⟩⟩
      case round =>
        obtain ⟨i, rfl, hi, HI⟩ := hrel
        by_cases d : i < r.length
        · have d1 : (i : Int) < (r.length : Int) := by omega
          obtain ⟨t, ht⟩ : ∃ t, r[i]'d = t := ⟨_, rfl⟩
          obtain ⟨B2, o2, rfl, hB2, hq2⟩ := HR.out.2.1 i t (by rw [List.getElem?_eq_getElem d, ht])
          obtain ⟨q0, q1, q2, q3, q4, q5⟩ := hq2.keep (Nat.lt_of_lt_of_le hB2 HC.out.2) HI.out.1
          have H := Lib.hid (fun w => H9.out t (HR.out.2.2.2 t (by rw [← ht]; exact List.getElem_mem d)) w)
          unfold TV.val at H
          have HT := Lib.hid ht
          clear ht hq2
          obtain ⟨op, g, a, b, cc, pre⟩ := t
          simp only at *
          go_wp2_with (go_at_call 9; refine (H.out _).mono ?_; rintro e w2 ⟨⟨r9, rfl, hr9⟩, hb⟩; have HB := Lib.hid (And.intro hr9 (((HI.out.1.alloc HI.out.1.size _)).trans (hb.mono (by have := HI.out.1.size; simp; omega)))); clear hr9 hb)
          all_goals first
            | (go_ret; exact ⟨⟨_, rfl, fun h => by cases h⟩, HB.out.2⟩)
            | skip
          refine ⟨⟨i + 1, rfl, by omega, Lib.hid ⟨HB.out.2, fun j h h' => ?_⟩⟩, by simp [intOf]; omega⟩
          by_cases hj : j = i
          · subst hj; rw [HT.out]; exact HB.out.1 (by simp_all)
          · exact HI.out.2 j h (by omega)
        · have d1 : ¬ (i : Int) < (r.length : Int) := by omega
          have hgood : ∀ t ∈ r, t.Good := fun t ht => by
            obtain ⟨j, hj, rfl⟩ := List.getElem_of_mem ht
            exact HI.out.2 j hj (by omega)
          have HG := Lib.hid hgood
          clear hgood
          by_cases e0 : r.length = 0
          · have e0' : ((r.length : Int) == 0) = true := by rw [beq_iff_eq]; omega
            clear e0
            go_wp2
            all_goals first
              | (go_ret; exact ⟨⟨_, rfl, fun h => by cases h⟩, HI.out.1⟩)
          · have e0' : ((r.length : Int) == 0) = false := by rw [beq_eq_false_iff_ne]; omega
            have E0 := Lib.hid e0
            clear e0
            by_cases e1 : m + r.length ≤ most
            · have e1' : ¬ (most : Int) < (m : Int) + (r.length : Int) := by omega
              go_wp2
              refine ⟨⟨k + 1, m + r.length, rfl, by simp, by omega, e1, Lib.hid ⟨HI.out.1, ?_, fun _ => by have := E0.out; omega, fun j h h' => ?_⟩⟩, by simp [intOf]; omega⟩
              · rw [sumL_take c, HR.out.1, HW.out.2.1]
              · by_cases hj : j = k
                · subst hj
                  rw [HR.out.1]
                  exact ⟨fun e => E0.out (by rw [e]; rfl), HG.out⟩
                · exact HW.out.2.2.2 j h (by omega)
            · have e1' : (most : Int) < (m : Int) + (r.length : Int) := by omega
              go_wp2
              go_ret
              exact ⟨⟨_, rfl, fun h => by cases h⟩, HI.out.1⟩
    · have c1 : ¬ (k : Int) < (C.length : Int) := by omega
      have hk2 : k = C.length := by omega
      have HK := Lib.hid hk2
      clear hk2
      go_wp2
      go_ret
      refine ⟨⟨_, rfl, fun h => ?_⟩, HW.out.1⟩
      have h0 : 0 < m := by simp at h; omega
      obtain ⟨h1, h2, h3, h4⟩ := HW.out
      have h5 := HK.out
      refine ⟨fun e => ?_, ?_, fun x hx => ?_⟩
      · subst e
        simp [sumL] at h2
        omega
      · rw [h5, List.take_length] at h2
        omega
      · obtain ⟨j, hj, rfl⟩ := List.getElem_of_mem hx
        exact h4 j hj (by omega)
end Go.Proofs.YtkdecbloihoanaaGreatDoor.Sv
end
section
set_option linter.unusedVariables false
set_option linter.unusedSimpArgs false
/- the writer's choices; an operator's spellings -/
namespace Go.Proofs.YtkdecbloihoanaaGreatDoor.Sv
open Go Go.RowKit Rx
set_option maxRecDepth 100000
theorem m16 (x : Int) (w : World) : Calls Tryz.prog 16 #[.int .u64 x] w fun e w' => e = .returned (.pointer (some ⟨w.heap.size, 0, none⟩)) ∧ w' = w.alloc (.cells #[.int .u64 x] 70) := by
  go_enter Tryz.func16, Tryz.ntmps16
  go_wp2
  go_ret
  exact ⟨rfl, rfl⟩
theorem m17 (S : Nat) (x : Int) (n : Nat) (hn : 0 < n) (hn8 : n ≤ 8) (w : World) (hS : w.heap[S]? = some (.cells #[.int .u64 x] 70 (0, 0))) :
    Calls Tryz.prog 17 #[.pointer (some ⟨S, 0, none⟩), .int .i64 n] w fun e w' => ∃ (r : Nat) (y : Int), e = .returned (.int .i64 r) ∧ r < n ∧ w' = w.setCell ⟨S, 0, none⟩ (.int .u64 y) := by
  have q0 := cell_of_row _ _ 0 _ _ _ hS
  have fz := fun k => frozen_of_row _ _ k _ _ hS
  simp at q0
  go_enter Tryz.func17, Tryz.ntmps17
  go_wp2
  have hY : ∀ z : Int, 0 ≤ IntKind.u64.wrap z ∧ IntKind.u64.wrap z < 18446744073709551616 := fun z => by
    have e : IntKind.u64.bits = 64 := rfl
    unfold IntKind.wrap; simp [e, IntKind.signed]; omega
  have hy := hY (IntKind.u64.wrap (x * 6364136223846793005) + 1442695040888963407)
  generalize IntKind.u64.wrap (IntKind.u64.wrap (x * 6364136223846793005) + 1442695040888963407) = Y at *
  have hq : 0 ≤ Y / 2305843009213693952 ∧ Y / 2305843009213693952 < 8 := by omega
  generalize Y / 2305843009213693952 = q at *
  have hw : wrap64 q = q := by unfold wrap64; omega
  rw [hw]
  have ht : q.tmod (n : Int) = q % (n : Int) := Int.tmod_eq_emod_of_nonneg hq.1
  have h1 := Int.emod_nonneg q (show (n : Int) ≠ 0 by omega)
  have h2 := Int.emod_lt_of_pos q (show (0 : Int) < n by omega)
  obtain ⟨r, hr⟩ : ∃ r : Nat, q % (n : Int) = r := ⟨(q % (n : Int)).toNat, by omega⟩
  rw [ht, hr]
  go_ret
  exact ⟨r, Y, rfl, by omega, rfl⟩
/-- an operator's spellings -/
def spell (op : Int) : List Bs := if op = 0 then [[], [61]] else if op = 1 then [[33, 61]] else if op = 2 then [[62]] else if op = 3 then [[60]] else if op = 4 then [[62, 61], [61, 62]] else if op = 5 then [[60, 61], [61, 60]] else if op = 6 then [[126], [126, 62]] else [[94]]
theorem m50 (op : Int) (h0 : 0 ≤ op) (h8 : op < 8) (w : World) : Calls Tryz.prog 50 #[.int .i64 op] w fun e w' => e = .returned (.slice (some ⟨w.heap.size, 0, none⟩) (spell op).length (spell op).length) ∧ w' = w.alloc (.cells ((spell op).map fun s => Value.string (bytesOf s)).toArray 9) := by
  have h : op = 0 ∨ op = 1 ∨ op = 2 ∨ op = 3 ∨ op = 4 ∨ op = 5 ∨ op = 6 ∨ op = 7 := by omega
  rcases h with rfl | rfl | rfl | rfl | rfl | rfl | rfl | rfl
  all_goals go_enter Tryz.func50, Tryz.ntmps50
  all_goals go_wp2
  all_goals go_ret
  all_goals exact ⟨rfl, rfl⟩
theorem spell_ok {op : Int} {s : Bs} (h : s ∈ spell op) : s ∈ opTexts := by
  unfold spell at h
  split at h
  · simp at h; rcases h with rfl | rfl <;> simp [opTexts]
  split at h
  · simp at h; subst h; simp [opTexts]
  split at h
  · simp at h; subst h; simp [opTexts]
  split at h
  · simp at h; subst h; simp [opTexts]
  split at h
  · simp at h; rcases h with rfl | rfl <;> simp [opTexts]
  split at h
  · simp at h; rcases h with rfl | rfl <;> simp [opTexts]
  split at h
  · simp at h; rcases h with rfl | rfl <;> simp [opTexts]
  · simp at h; subst h; simp [opTexts]
end Go.Proofs.YtkdecbloihoanaaGreatDoor.Sv
end
section
set_option linter.unusedVariables false
set_option linter.unusedSimpArgs false
/- numbers in decimal -/
namespace Go.Proofs.YtkdecbloihoanaaGreatDoor.Sv
open Go Go.RowKit Rx
set_option maxRecDepth 100000
def bOf (b : List UInt8) : ByteArray := ⟨b.toArray⟩
theorem bOf_app (x y : List UInt8) : bOf x ++ bOf y = bOf (x ++ y) := by
  apply ByteArray.ext
  simp [bOf]
theorem bOf_size (x : List UInt8) : (bOf x).size = x.length := by simp [bOf, ByteArray.size]
theorem conv1 (c : Nat) (hc : c < 256) (W : World) (N : Nat) (h : W.cell? ⟨N, 0, none⟩ = some (.int .u8 (c : Int))) : (convert 91 9 (.slice (some ⟨N, 0, none⟩) 1 1)).run Tryz.prog W = .ok (.string (bOf [UInt8.ofNat c])) W := by
  have hu : (UInt8.ofNat c).toNat = c := by simp; omega
  refine run_convert_bytes_back (P := Tryz.prog) W 91 9 5 ⟨N, 0, none⟩ 1 [UInt8.ofNat c] Tryz.underlying91 Tryz.underlying5 Tryz.underlying9 (fun j hj => ?_)
  have : j = 0 := by simp at hj; exact hj
  subst this
  simp only [List.getElem_cons_zero, hu]
  exact h
theorem dec_len (u : Nat) (hu : u < 18446744073709551616) : (Lib.decDigits u).length ≤ 20 := by
  rw [Lib.decDigits_length]
  by_cases h : u = 0
  · subst h; rw [Lib.nDigits]; decide
  · have := Lib.numDigits_eq u (by omega) hu; split at this <;> omega
set_option maxHeartbeats 1000000 in
theorem jDec : ∀ (n u : Nat), u ≤ n → u < 18446744073709551616 → ∀ w : World, Calls Tryz.prog 67 #[.int .u64 u] w fun e w' => e = .returned (.string (bOf (Lib.decDigits u))) ∧ Below w.heap.size w w' := by
  have small : ∀ u : Nat, u < 10 → ∀ w : World, Calls Tryz.prog 67 #[.int .u64 u] w fun e w' => e = .returned (.string (bOf (Lib.decDigits u))) ∧ Below w.heap.size w w' := by
    intro u h w
    have k1 : (u : Int) < 10 := by omega
    obtain ⟨c, hc⟩ : ∃ c, c = 48 + u := ⟨_, rfl⟩
    have hcv := conv1 c (by omega) (w.alloc (.cells #[.int .u8 (c : Int)] 5)) w.heap.size (by rw [cell_of_row _ _ _ _ _ _ (heap_alloc_new w _)]; simp)
    have hs : (48 + (u : Int)) = (c : Int) := by omega
    have hd : Lib.decDigits u = [UInt8.ofNat c] := by rw [hc]; exact Lib.decDigits_one h
    rw [hd]
    clear hd h hc
    go_enter Tryz.func67, Tryz.ntmps67
    go_wp2
    go_ret
    exact ⟨rfl, (Below.refl _ w).alloc (Nat.le_refl _) _⟩
  intro n
  induction n with
  | zero => intro u hn hu w; exact small u (by omega) w
  | succ n ih =>
    intro u hn hu w
    by_cases h : u < 10
    · exact small u h w
    · have k1 : ¬ (u : Int) < 10 := by omega
      have H := Lib.hid (ih (u / 10) (by omega) (by omega))
      have hl := dec_len (u / 10) (by omega)
      have z1 : (bOf (Lib.decDigits (u / 10))).size < 100 := by rw [bOf_size]; omega
      have hd : Lib.decDigits u = Lib.decDigits (u / 10) ++ [UInt8.ofNat (48 + u % 10)] := by conv => lhs; rw [Lib.decDigits, dif_neg h]
      rw [hd, ← bOf_app]
      generalize Lib.decDigits (u / 10) = D at *
      obtain ⟨d, hd0⟩ : ∃ d, d = u % 10 := ⟨_, rfl⟩
      have hd1 : d < 10 := by omega
      have t1 : (u : Int).tdiv 10 = ((u / 10 : Nat) : Int) := by rw [Int.tdiv_eq_ediv_of_nonneg (by omega)]; omega
      have t2 : (u : Int).tmod 10 = (d : Int) := by rw [Int.tmod_eq_emod_of_nonneg (by omega)]; omega
      rw [← hd0]
      have t3 : IntKind.u8.wrap (d : Int) = (d : Int) := by
        have e : IntKind.u8.bits = 8 := rfl
        unfold IntKind.wrap; simp [e, IntKind.signed]; omega
      have t4 : IntKind.u8.wrap (48 + (d : Int)) = ((48 + d : Nat) : Int) := by
        have e : IntKind.u8.bits = 8 := rfl
        unfold IntKind.wrap; simp [e, IntKind.signed]; omega
      obtain ⟨c, hc⟩ : ∃ c, c = 48 + d := ⟨_, rfl⟩
      rw [← hc] at t4 ⊢
      have hcv := conv1 c (by omega)
      have z2 : (bOf [UInt8.ofNat c]).size < 100 := by rw [bOf_size]; simp
      have t5 : IntKind.u64.wrap ((u / 10 : Nat) : Int) = ((u / 10 : Nat) : Int) := by
        have e : IntKind.u64.bits = 64 := rfl
        unfold IntKind.wrap; simp [e, IntKind.signed]; omega
      obtain ⟨q, hq⟩ : ∃ q, q = u / 10 := ⟨_, rfl⟩
      rw [← hq] at t1 t5 H
      clear hd hl hd0 hd1 hc ih small hq hn hu h
      go_enter Tryz.func67, Tryz.ntmps67
      go_upto_region 3 with fail
      go_region_with (go_at_call 67; refine (H.out _).mono ?_; rintro e w1 ⟨rfl, hb⟩; obtain ⟨hcc, hff⟩ := bcell hb)
      all_goals go_wp2
      all_goals go_ret
      all_goals refine ⟨rfl, ?_⟩
      all_goals first
        | exact ((Below.refl w.heap.size w).drew.trans hb).alloc hb.size _
        | exact (((Below.refl _ w).drew).alloc (Nat.le_refl _) _).trans (hb.mono (by simp))
end Go.Proofs.YtkdecbloihoanaaGreatDoor.Sv
end
section
set_option linter.unusedVariables false
set_option linter.unusedSimpArgs false
/- NewVersion of any good version's text -/
namespace Go.Proofs.YtkdecbloihoanaaGreatDoor.Sv
open Go Go.RowKit Rx
set_option maxRecDepth 100000
set_option maxHeartbeats 4000000 in
theorem tCoerceG (x : Ver) (hx : x.Ok dB iB) (r2 r3 : Bs) (h2 : x.p2 = some r2) (h3 : x.p3 = some r3) (hpre : gpre x.pre = [] ∨ PreOk (gpre x.pre)) (hmeta : gpre x.meta_ = [] ∨ ∀ i ∈ idents (gpre x.meta_), okPart iB i) (a b c : Nat) (ha : Lib.parseUintB 64 x.p1 = .ok a) (hb : Lib.parseUintB 64 r2 = .ok b) (hc : Lib.parseUintB 64 r3 = .ok c)
    (hl : x.text.length ≤ 256) (w : World) (hT : Lib.Utf8Tabs 11 12 w) :
    Calls Tryz.prog 60 #[.string (bytesOf x.text)] w fun e w' => ∃ V, e = .returned (.tuple #[.pointer (some ⟨V, 0, none⟩), .nilIface]) ∧ w.heap.size ≤ V ∧ VerAt w' V a b c (gpre x.pre) (gpre x.meta_) x.text ∧ Below w.heap.size w w' := by
  have hlen : x.p1.length + (r2.length + 1 + (r3.length + 1)) ≤ x.text.length := by
    rw [Ver.text, h2, h3]; simp [ptext]; omega
  have hl5 : (gpre x.pre).length ≤ 1000 := by
    have : (gpre x.pre).length ≤ (gtext 45 x.pre).length := by
      cases x.pre with
      | none => simp [gpre]
      | some y => obtain ⟨y, l⟩ := y; simp [gpre, gtext]
    have : (gtext 45 x.pre).length ≤ x.text.length := by rw [Ver.text]; simp; omega
    omega
  have hl8 : (gpre x.meta_).length ≤ 1000 := by
    have : (gpre x.meta_).length ≤ (gtext 43 x.meta_).length := by
      cases x.meta_ with
      | none => simp [gpre]
      | some y => obtain ⟨y, l⟩ := y; simp [gpre, gtext]
    have : (gtext 43 x.meta_).length ≤ x.text.length := by rw [Ver.text]; simp; omega
    omega
  unfold VerAt
  have H61 := Lib.hid (fun (w : World) (R PB IB icap : Nat) (hp : PG w R PB IB icap looseT) (hr : RH w R PB 4 1 20 1 9) (hT : Lib.Utf8Tabs 11 12 w) => looseM (s := bytesOf x.text) hp hr hT (by rw [bytesOf_size]; omega) hx rfl)
  have HA := Lib.hid (fun w => tParse a x.p1 ha (by omega) w)
  have HB := Lib.hid (fun w => tParse b r2 hb (by omega) w)
  have HC := Lib.hid (fun w => tParse c r3 hc (by omega) w)
  have HT := Lib.hid hT
  have HTa := Lib.hid (fun w => tTrimDot (46 :: r2) (.inr ⟨_, rfl⟩) (by simp; omega) w)
  have HTb := Lib.hid (fun w => tTrimDot (46 :: r3) (.inr ⟨_, rfl⟩) (by simp; omega) w)
  have q := q52
  rw [h2, h3] at H61
  have HPR := Lib.hid (And.intro hpre (And.intro hl5 (And.intro hmeta hl8)))
  clear hx h2 h3 hpre hmeta ha hb hc hT hlen hl hl5 hl8
  generalize bytesOf x.text = s at *
  generalize x.p1 = r1 at *
  generalize gpre x.pre = P5 at *
  generalize gpre x.meta_ = P8 at *
  go_enter Tryz.func60, Tryz.ntmps60
  go_wp2_with (first
    | (go_at_call 75; refine (t107 w).mono ?_; rintro e w1 ⟨R, PB, IB, icap, rfl, hp, hr, hb⟩; have HP := Lib.hid (And.intro hp (And.intro hr (And.intro (Utf8Tabs_below HT.out hb) hb))); clear hp hr hb)
    | (go_at_call 41; refine (H61.out _ _ _ _ _ HP.out.1 HP.out.2.1 HP.out.2.2.1).mono ?_; rintro e w2 ⟨hb2, f, ⟨bp, rfl, h1, h2⟩, e1, e2, e3, e5, e8⟩; have c1 := piece_cell h2 1 (by decide); have c2 := piece_cell h2 2 (by decide); have c3 := piece_cell h2 3 (by decide); have c5 := piece_cell h2 5 (by decide); have c8 := piece_cell h2 8 (by decide); rw [e1] at c1; rw [e2] at c2; rw [e3] at c3; rw [e5] at c5; rw [e8] at c8; have HB2 := Lib.hid (And.intro h1 (And.intro h2 (HP.out.2.2.2.trans (hb2.mono HP.out.2.2.2.size)))); clear hb2 h1 h2 e1 e2 e3 e5 e8))
  go_region
  have hst : VAt w w2.heap.size bp #[.int .u64 0, .int .u64 0, .int .u64 0, .string (bytesOf P5), .string (bytesOf P8), .string s] (strs ((List.range 10).map f)) ((w2.alloc (.cells #[.int .u64 0, .int .u64 0, .int .u64 0, .string (bytesOf P5), .string (bytesOf P8), .string s] 61)).drew) := by
    obtain ⟨k1, k2, k3⟩ := HB2.out
    refine ⟨heap_alloc_new w2 _, (Below.heap_alloc w2 _ bp (Array.getElem?_eq_some_iff.1 k2).1).trans k2, (k3.alloc k3.size _).drew, k3.size⟩
  have e1 : (strs ((List.range 10).map f))[1]? = some (.string (bytesOf r1)) := by rw [← c1, cell_of_row _ _ _ _ _ _ HB2.out.2.1]
  have e2 : (strs ((List.range 10).map f))[2]? = some (.string (bytesOf (ptext (some r2)))) := by rw [← c2, cell_of_row _ _ _ _ _ _ HB2.out.2.1]
  have e3 : (strs ((List.range 10).map f))[3]? = some (.string (bytesOf (ptext (some r3)))) := by rw [← c3, cell_of_row _ _ _ _ _ _ HB2.out.2.1]
  have HE := Lib.hid (And.intro e1 (And.intro e2 e3))
  clear c1 c2 c3 c5 c8 e1 e2 e3
  generalize (w2.alloc (.cells #[.int .u64 0, .int .u64 0, .int .u64 0, .string (bytesOf P5), .string (bytesOf P8), .string s] 61)).drew = W3 at *
  generalize strs ((List.range 10).map f) = ps at *
  generalize w2.heap.size = V at *
  have HS := Lib.hid hst
  have c1 := hst.piece 1 _ HE.out.1
  clear hst
  go_upto_region 9 with (first
    | (go_at_call 66; refine (HA.out _).mono ?_; rintro e w4 ⟨rfl, hb4⟩; have hst4 := HS.out.keep hb4; have HS4 := Lib.hid hst4; have v0 := hst4.cell 0 _ rfl; have fz0 := hst4.fz 0; clear hb4 hst4)
    | go_in)
  have HS := Lib.hid (HS4.out.store 0 (.int .u64 a))
  clear HS4 v0 fz0 c1
  generalize w4.setCell ⟨V, 0, none⟩ (.int .u64 a) = W5 at *
  have c1 := HS.out.piece 2 _ HE.out.2.1
  simp only [ptext] at c1
  have n1 := bytesOf_toList (46 :: r2)
  go_upto_region 14 with (first
    | (go_at_call 43; refine (HTa.out _).mono ?_; rintro e w6 ⟨rfl, hw⟩; subst hw; rw [show (46 :: r2 : Bs).tail = r2 from rfl])
    | (go_at_call 66; refine (HB.out _).mono ?_; rintro e w4 ⟨rfl, hb4⟩; have hst4 := HS.out.keep hb4; have HS4 := Lib.hid hst4; have v0 := hst4.cell 1 _ rfl; have fz0 := hst4.fz 1; clear hb4 hst4)
    | go_in)
  have HS := Lib.hid (HS4.out.store 1 (.int .u64 b))
  clear HS4 v0 fz0 c1 n1
  generalize w4.setCell ⟨V, 1, none⟩ (.int .u64 b) = W6 at *
  have c1 := HS.out.piece 3 _ HE.out.2.2
  simp only [ptext] at c1
  have n1 := bytesOf_toList (46 :: r3)
  go_upto_region 19 with (first
    | (go_at_call 43; refine (HTb.out _).mono ?_; rintro e w6 ⟨rfl, hw⟩; subst hw; rw [show (46 :: r3 : Bs).tail = r3 from rfl])
    | (go_at_call 66; refine (HC.out _).mono ?_; rintro e w4 ⟨rfl, hb4⟩; have hst4 := HS.out.keep hb4; have HS4 := Lib.hid hst4; have v0 := hst4.cell 2 _ rfl; have fz0 := hst4.fz 2; clear hb4 hst4)
    | go_in)
  have HS := Lib.hid (HS4.out.store 2 (.int .u64 c))
  clear HS4 v0 fz0 c1 n1
  generalize w4.setCell ⟨V, 2, none⟩ (.int .u64 c) = W7 at *
  have v3 : W7.cell? ⟨V, 3, none⟩ = some (.string (bytesOf P5)) := HS.out.cell 3 _ rfl
  have v4 : W7.cell? ⟨V, 4, none⟩ = some (.string (bytesOf P8)) := HS.out.cell 4 _ rfl
  have n5 := bytesOf_toList P5
  have n8 := bytesOf_toList P8
  have nE : ∀ {P : Bs}, (∀ i ∈ idents P, okPart iB i) → (P == ([] : Bs)) = false := fun {P} h => by
    cases P with
    | nil => exact absurd rfl (h [] (by simp [idents])).1
    | cons y l => rfl
  obtain ⟨g5, ln5, g8, ln8⟩ := HPR.out
  rcases g5 with rfl | g5 <;> rcases g8 with rfl | g8
  · skip
    go_wp2_with (first
      | go_in)
    go_ret2
    exact ⟨V, rfl, HS.out.h, HS.out.v, HS.out.b⟩
  · have d8 := nE g8
    have HP8 := Lib.hid (fun w => k90 P8 ln8 g8 w)
    clear g8 ln8 ln5 nE HPR
    go_wp2_with (first
      | (go_at_call 63; refine (HP8.out _).mono ?_; rintro e w9 ⟨rfl, hb⟩; have hst := HS.out.keep hb; clear v3 v4 HS; have HS := Lib.hid hst; clear hb hst)
      | go_in)
    go_ret2
    exact ⟨V, rfl, HS.out.h, HS.out.v, HS.out.b⟩
  · have d5 := nE (fun i hi => (g5 i hi).1)
    have HP5 := Lib.hid (fun w => k91 P5 ln5 g5 w)
    clear g5 ln8 ln5 nE HPR
    go_wp2_with (first
      | (go_at_call 64; refine (HP5.out _).mono ?_; rintro e w8 ⟨rfl, hb⟩; have hst := HS.out.keep hb; clear v3 v4 HS; have HS := Lib.hid hst; have v3 : w8.cell? ⟨V, 3, none⟩ = some (.string (bytesOf P5)) := hst.cell 3 _ rfl; have v4 : w8.cell? ⟨V, 4, none⟩ = some (.string (bytesOf [])) := hst.cell 4 _ rfl; clear hb hst)
      | go_in)
    go_ret2
    exact ⟨V, rfl, HS.out.h, HS.out.v, HS.out.b⟩
  · have d5 := nE (fun i hi => (g5 i hi).1)
    have HP5 := Lib.hid (fun w => k91 P5 ln5 g5 w)
    have d8 := nE g8
    have HP8 := Lib.hid (fun w => k90 P8 ln8 g8 w)
    clear g5 g8 ln8 ln5 nE HPR
    go_wp2_with (first
      | (go_at_call 64; refine (HP5.out _).mono ?_; rintro e w8 ⟨rfl, hb⟩; have hst := HS.out.keep hb; clear v3 v4 HS; have HS := Lib.hid hst; have v3 : w8.cell? ⟨V, 3, none⟩ = some (.string (bytesOf P5)) := hst.cell 3 _ rfl; have v4 : w8.cell? ⟨V, 4, none⟩ = some (.string (bytesOf P8)) := hst.cell 4 _ rfl; clear hb hst)
      | (go_at_call 63; refine (HP8.out _).mono ?_; rintro e w9 ⟨rfl, hb⟩; have hst := HS.out.keep hb; clear v3 v4 HS; have HS := Lib.hid hst; clear hb hst)
      | go_in)
    go_ret2
    exact ⟨V, rfl, HS.out.h, HS.out.v, HS.out.b⟩
theorem tNewVerG (x : Ver) (hx : x.Ok dB iB) (r2 r3 : Bs) (h2 : x.p2 = some r2) (h3 : x.p3 = some r3) (hpre : gpre x.pre = [] ∨ PreOk (gpre x.pre)) (hmeta : gpre x.meta_ = [] ∨ ∀ i ∈ idents (gpre x.meta_), okPart iB i) (a b c : Nat) (ha : Lib.parseUintB 64 x.p1 = .ok a) (hb : Lib.parseUintB 64 r2 = .ok b) (hc : Lib.parseUintB 64 r3 = .ok c)
    (hl : x.text.length ≤ 256) : Reads x.text a b c (gpre x.pre) (gpre x.meta_) := fun w hT => by
  have H := Lib.hid (tCoerceG x hx r2 r3 h2 h3 hpre hmeta a b c ha hb hc hl w hT)
  have k1 : ¬ (256 : Int) < ((bytesOf x.text).size : Int) := by rw [bytesOf_size]; omega
  clear hx h2 h3 hpre hmeta ha hb hc hl hT
  unfold VerAt at *
  generalize bytesOf x.text = s at *
  go_enter Tryz.func44, Tryz.ntmps44
  go_wp2_with (go_at_call 60; refine H.out.mono ?_; rintro e w1 ⟨V, rfl, h1, h2, h3⟩; have HV := Lib.hid (And.intro h1 (And.intro h2 h3)); clear h1 h2 h3)
  go_ret2
  exact ⟨V, rfl, HV.out⟩
end Go.Proofs.YtkdecbloihoanaaGreatDoor.Sv
end
section
set_option linter.unusedVariables false
set_option linter.unusedSimpArgs false
/- versions are compared -/
namespace Go.Proofs.YtkdecbloihoanaaGreatDoor.Sv
open Go Go.RowKit Rx
set_option maxRecDepth 100000
abbrev ver (a b c : Nat) (p m o : ByteArray) : Value := .agg #[.int .u64 a, .int .u64 b, .int .u64 c, .string p, .string m, .string o]
def seg (x y : Nat) : Int := if x < y then -1 else if y < x then 1 else 0
end Go.Proofs.YtkdecbloihoanaaGreatDoor.Sv
end
section
set_option linter.unusedVariables false
set_option linter.unusedSimpArgs false
/- Compare -/
namespace Go.Proofs.YtkdecbloihoanaaGreatDoor.Sv
open Go Go.RowKit Rx
set_option maxRecDepth 100000
def S2 (w : World) (V U a b c : Nat) (p m o : ByteArray) (a2 b2 c2 : Nat) (p2 m2 o2 : ByteArray) (w' : World) : Prop := w'.cell? ⟨V, 0, none⟩ = some (.int .u64 a) ∧ w'.cell? ⟨V, 1, none⟩ = some (.int .u64 b) ∧ w'.cell? ⟨V, 2, none⟩ = some (.int .u64 c) ∧ w'.cell? ⟨V, 3, none⟩ = some (.string p) ∧ w'.cell? ⟨V, 4, none⟩ = some (.string m) ∧ w'.cell? ⟨V, 5, none⟩ = some (.string o) ∧ w'.cell? ⟨U, 0, none⟩ = some (.int .u64 a2) ∧ w'.cell? ⟨U, 1, none⟩ = some (.int .u64 b2) ∧ w'.cell? ⟨U, 2, none⟩ = some (.int .u64 c2) ∧ w'.cell? ⟨U, 3, none⟩ = some (.string p2) ∧ w'.cell? ⟨U, 4, none⟩ = some (.string m2) ∧ w'.cell? ⟨U, 5, none⟩ = some (.string o2) ∧ Below w.heap.size w w'
theorem belk {w w1 w2 : World} (hb : Below w1.heap.size w1 w2) (h : Below w.heap.size w w1) : Below w.heap.size w w2 := h.trans (hb.mono h.size)
/-- a release against a version -/
def cmpRel (a b c a2 b2 c2 : Nat) (rel : Bool) : Int := if seg a a2 ≠ 0 then seg a a2 else if seg b b2 ≠ 0 then seg b b2 else if seg c c2 ≠ 0 then seg c c2 else if rel then 0 else 1
end Go.Proofs.YtkdecbloihoanaaGreatDoor.Sv
end
section
set_option linter.unusedVariables false
set_option linter.unusedSimpArgs false
/- the operators of a constraint, of a release: no number missing -/
namespace Go.Proofs.YtkdecbloihoanaaGreatDoor.Sv
open Go Go.RowKit Rx
set_option maxRecDepth 100000
def S3 (w : World) (V U C a b c : Nat) (p m o : ByteArray) (a2 b2 c2 : Nat) (p2 m2 o2 op : ByteArray) (md d pd : Bool) (w' : World) : Prop := w'.cell? ⟨V, 0, none⟩ = some (.int .u64 a) ∧ w'.cell? ⟨V, 1, none⟩ = some (.int .u64 b) ∧ w'.cell? ⟨V, 2, none⟩ = some (.int .u64 c) ∧ w'.cell? ⟨V, 3, none⟩ = some (.string p) ∧ w'.cell? ⟨V, 4, none⟩ = some (.string m) ∧ w'.cell? ⟨V, 5, none⟩ = some (.string o) ∧ w'.cell? ⟨U, 0, none⟩ = some (.int .u64 a2) ∧ w'.cell? ⟨U, 1, none⟩ = some (.int .u64 b2) ∧ w'.cell? ⟨U, 2, none⟩ = some (.int .u64 c2) ∧ w'.cell? ⟨U, 3, none⟩ = some (.string p2) ∧ w'.cell? ⟨U, 4, none⟩ = some (.string m2) ∧ w'.cell? ⟨U, 5, none⟩ = some (.string o2) ∧ w'.cell? ⟨C, 0, none⟩ = some (.pointer (some ⟨U, 0, none⟩)) ∧ w'.cell? ⟨C, 2, none⟩ = some (.string op) ∧ w'.cell? ⟨C, 3, none⟩ = some (.bool md) ∧ w'.cell? ⟨C, 4, none⟩ = some (.bool d) ∧ w'.cell? ⟨C, 5, none⟩ = some (.bool pd) ∧ Below w.heap.size w w'
theorem tErr (s : ByteArray) (w : World) : Calls Tryz.prog 23 #[.string s] w fun e w' => ∃ t a, e = .returned (.iface t (.pointer (some a))) ∧ Below w.heap.size w w' := by
  go_enter Tryz.func23, Tryz.ntmps23
  go_wp2
  go_ret
  exact ⟨_, _, rfl, (Below.refl _ w).alloc (Nat.le_refl _) _⟩
theorem ret_bool {x r : Bool} {ev : Value} {w w' : World} (hx : x = r) (hb : Below w.heap.size w w') : ∃ ev', Ending.returned (.tuple #[.bool x, ev]) = Ending.returned (.tuple #[.bool r, ev']) ∧ Below w.heap.size w w' := ⟨ev, by rw [hx], hb⟩
end Go.Proofs.YtkdecbloihoanaaGreatDoor.Sv
end
section
set_option linter.unusedVariables false
set_option linter.unusedSimpArgs false
/- a constraint of one term with three numbers -/
namespace Go.Proofs.YtkdecbloihoanaaGreatDoor.Sv
open Go Go.RowKit Rx
set_option maxRecDepth 100000
/-- a version of three numbers -/
def dv (a b c : Nat) : Ver := ⟨false, Lib.decDigits a, some (Lib.decDigits b), some (Lib.decDigits c), none, none⟩
theorem dB_pB (x : UInt8) (h : dB x = true) : pB x = true := by
  have := byte_all (p := fun x => !dB x || pB x) (by decide) x
  simpa [h] using this
theorem dB_not (x : UInt8) (h : dB x = true) : x ≠ 120 ∧ x ≠ 42 ∧ x ≠ 88 ∧ x ≠ 124 ∧ ws x = false := by
  have := byte_all (p := fun x => !dB x || (x != 120 && x != 42 && x != 88 && x != 124 && !ws x)) (by decide) x
  simpa [h, and_assoc] using this
theorem dec_part (a : Nat) : okPart dB (Lib.decDigits a) := ⟨decDigits_ne a, decDigits_dB a a (Nat.le_refl _)⟩
theorem dv_ok (a b c : Nat) : (dv a b c).Ok dB iB := by
  refine ⟨dec_part a, fun y h => ?_, fun y h => ⟨?_, by simp [dv]⟩, trivial, trivial⟩
  · obtain rfl : Lib.decDigits b = y := by simpa [dv] using h
    exact dec_part b
  · obtain rfl : Lib.decDigits c = y := by simpa [dv] using h
    exact dec_part c
theorem ok_pB {x : Ver} (h : x.Ok dB iB) : x.Ok pB iB :=
  ⟨⟨h.p1.1, fun y hy => dB_pB y (h.p1.2 y hy)⟩, fun y hy => ⟨(h.p2 y hy).1, fun z hz => dB_pB z ((h.p2 y hy).2 z hz)⟩, fun y hy => ⟨⟨(h.p3 y hy).1.1, fun z hz => dB_pB z ((h.p3 y hy).1.2 z hz)⟩, (h.p3 y hy).2⟩, h.pre, h.meta_⟩
theorem dv_text (a b c : Nat) : (dv a b c).text = Lib.decDigits a ++ (46 :: (Lib.decDigits b ++ 46 :: Lib.decDigits c)) := by simp [dv, Ver.text, ptext, gtext]
theorem dv_len (a b c : Nat) (ha : a < 18446744073709551616) (hb : b < 18446744073709551616) (hc : c < 18446744073709551616) : (dv a b c).text.length ≤ 62 := by
  have h1 := nDigits_le a ha
  have h2 := nDigits_le b hb
  have h3 := nDigits_le c hc
  rw [dv_text]
  generalize Lib.decDigits a = x at *
  generalize Lib.decDigits b = y at *
  generalize Lib.decDigits c = z at *
  simp; omega
theorem dec_noX (a : Nat) : isXb (Lib.decDigits a) = false := by
  have h := (dec_part a).2
  generalize Lib.decDigits a = l at *
  have k : ∀ y : UInt8, (y = 120 ∨ y = 42 ∨ y = 88) → ¬ l = [y] := by
    rintro y hy rfl
    have := dB_not y (h y (by simp))
    rcases hy with rfl | rfl | rfl <;> simp at this
  unfold isXb
  simp [k 120 (by simp), k 42 (by simp), k 88 (by simp)]
theorem bytesOf_list (l : Bs) : (bytesOf l).data.toList = l := by simp [bytesOf]
/-- no blank and no bar stands in the text -/
def tame (l : Bs) : Prop := ∀ y ∈ l, ws y = false ∧ y ≠ 124
theorem tame.noWD : ∀ {l : Bs}, tame l → noWD l = true
  | [], _ => rfl
  | [_], _ => rfl
  | x :: y :: l, h => by
    have h1 := (h x (by simp)).1
    have h2 : Rx.noWD (y :: l) = true := tame.noWD fun z hz => h z (by simp [hz])
    simp [Rx.noWD, h1, h2]
theorem tame.app {a b : Bs} (h : tame a) (h' : tame b) : tame (a ++ b) := fun y hy => by
  rcases List.mem_append.1 hy with h1 | h1
  · exact h y h1
  · exact h' y h1
theorem tame_dec (a : Nat) : tame (Lib.decDigits a) := fun y hy => by
  have := dB_not y ((dec_part a).2 y hy)
  exact ⟨this.2.2.2.2, this.2.2.2.1⟩
theorem tame_dv (a b c : Nat) : tame (dv a b c).text := by
  rw [dv_text]
  have h46 : ∀ {l : Bs}, tame l → tame (46 :: l) := fun h y hy => by
    rcases List.mem_cons.1 hy with rfl | h1
    · exact ⟨by decide, by decide⟩
    · exact h y h1
  exact (tame_dec a).app (h46 ((tame_dec b).app (h46 (tame_dec c))))
theorem tame_op {op : Bs} (h : op ∈ opTexts) : tame op := by
  have : opTexts.all (fun o => o.all fun y => !ws y && y != 124) = true := by decide
  have h1 := List.all_eq_true.1 (List.all_eq_true.1 this op h)
  exact fun y hy => by simpa using h1 y hy
theorem first_bars {l : Bs} (h : tame l) : First (bytesOf l) ⟨#[124, 124]⟩ none := by
  intro i hi
  have hs : (⟨#[124, 124]⟩ : ByteArray).size = 2 := rfl
  rw [hs, bytesOf_size] at hi
  rw [hs]
  have hl : i < l.length := by omega
  have e : ((bytesOf l).extract i (i + 2)).toList = (l.drop i).take 2 := by
    rw [extract_eq (A := l.take i) (B := (l.drop i).take 2) (C := (l.drop i).drop 2) (by rw [bytesOf_list, List.take_append_drop, List.take_append_drop]) (by simp; omega) (by simp; omega)]
    exact ByteArray.toList_mk _
  have hne := (h l[i] (List.getElem_mem hl)).2
  have e2 : (⟨#[124, 124]⟩ : ByteArray).toList = [124, 124] := ByteArray.toList_mk [124, 124]
  rw [e, e2, List.drop_eq_getElem_cons hl, List.take_succ_cons]
  rw [beq_eq_false_iff_ne]
  intro hh
  injection hh with h1 h2
  exact hne h1
theorem parted_tame {l : Bs} (h : tame l) : Parted ⟨#[124, 124]⟩ (bytesOf l) [bytesOf l] := .last _ (first_bars h)
/-- the term of an operator and three numbers -/
def dtm (op : Bs) (a b c : Nat) : Tm := ⟨op, [], dv a b c⟩
def dtd (op : Bs) (a b c : Nat) : TD := ⟨op, (dv a b c).text, false, false, false, a, b, c, [], [], (dv a b c).text⟩
theorem dtm_ok {op : Bs} (h : op ∈ opTexts) (a b c : Nat) : (dtm op a b c).Ok := ⟨h, fun y hy => by simp [dtm] at hy, ok_pB (dv_ok a b c)⟩
theorem dtm_text (op : Bs) (a b c : Nat) : (dtm op a b c).text = op ++ (dv a b c).text := by simp [dtm, Tm.text]
theorem reads_dv (a b c : Nat) (ha : a < 18446744073709551616) (hb : b < 18446744073709551616) (hc : c < 18446744073709551616) : Reads (dv a b c).text a b c [] [] := fun w hT => by
  have hl := dv_len a b c ha hb hc
  exact tNewVer3 (dv a b c) (dv_ok a b c) _ _ rfl rfl rfl rfl a b c (parse_dec64 a ha) (parse_dec64 b hb) (parse_dec64 c hc) (by omega) w hT
theorem op_len {op : Bs} (h : op ∈ opTexts) : op.length ≤ 2 := by
  have : opTexts.all (fun o => decide (o.length ≤ 2)) = true := by decide
  simpa using List.all_eq_true.1 this op h
theorem gspec {op : Bs} (h : op ∈ opTexts) (a b c : Nat) (ha : a < 18446744073709551616) (hb : b < 18446744073709551616) (hc : c < 18446744073709551616) : GSpec (bytesOf (dtm op a b c).text) [(dtm op a b c).text] [dtd op a b c] := by
  have hl := dv_len a b c ha hb hc
  have ho := op_len h
  have hs : (bytesOf (dtm op a b c).text).size ≤ 1000 := by rw [bytesOf_size, dtm_text]; simp; omega
  have hok := dtm_ok h a b c
  have h0 : (dtm op a b c).op = [] → (dtm op a b c).blank = [] := fun _ => rfl
  refine ⟨fun w R PB IB icap hp hr hT => ?_, fun w R PB IB icap hp hr hT => ?_, rfl, by simp, by simp, fun i x t hx ht w hT => ?_⟩
  · exact validM hp hr hT hs (B := []) (l := []) (by simp) hok (fun x hx => by cases hx) (by rw [bytesOf_list]; simp [ltext, ltail])
  · exact findM hp hr hT hs (x := dtm op a b c) (l := []) hok (fun x hx => by cases hx) (by rw [bytesOf_list]; simp [ltext, ltail])
  · cases i with
    | succ i => simp at hx
    | zero =>
      obtain rfl : (dtm op a b c).text = x := by simpa using hx
      obtain rfl : dtd op a b c = t := by simpa using ht
      refine (t44full (dtm op a b c) (L := []) (RR := []) hs hok (by rw [bytesOf_list]; simp) (by simp) (by simp) h0 _ _ rfl rfl (dec_noX a) (dec_noX b) (dec_noX c) a b c [] [] (reads_dv a b c ha hb hc) w hT).mono ?_
      rintro e w' ⟨C, V, rfl, h1, h2, h3, h4, h5⟩
      exact ⟨C, rfl, h1, ⟨V, h3, h4⟩, h5⟩
/-- NewConstraint of an operator and three numbers -/
theorem t31one {op : Bs} (h : op ∈ opTexts) (a b c : Nat) (ha : a < 18446744073709551616) (hb : b < 18446744073709551616) (hc : c < 18446744073709551616) (w : World) (hT : Lib.Utf8Tabs 11 12 w) :
    Calls Tryz.prog 11 #[.string (bytesOf (op ++ (dv a b c).text))] w fun e w' => ∃ O, e = .returned (.tuple #[ptr O, .nilIface]) ∧ w.heap.size ≤ O ∧ ConsAt w' O [[dtd op a b c]] false ∧ Below w.heap.size w w' := by
  have hl := dv_len a b c ha hb hc
  have ho := op_len h
  have ht : tame (op ++ (dv a b c).text) := (tame_op h).app (tame_dv a b c)
  have hg := gspec h a b c ha hb hc
  rw [dtm_text] at hg
  refine t31 (bytesOf (op ++ (dv a b c).text)) (by rw [bytesOf_size]; simp; omega) (by rw [bytesOf_list]; exact ht.noWD) [bytesOf (op ++ (dv a b c).text)] (parted_tame ht) (by simp) [[op ++ (dv a b c).text]] [[dtd op a b c]] rfl rfl (fun k v tx ts h1 h2 h3 => ?_) w hT
  cases k with
  | succ k => simp at h1
  | zero =>
    obtain rfl : bytesOf (op ++ (dv a b c).text) = v := by simpa using h1
    obtain rfl : [op ++ (dv a b c).text] = tx := by simpa using h2
    obtain rfl : [dtd op a b c] = ts := by simpa using h3
    exact hg
end Go.Proofs.YtkdecbloihoanaaGreatDoor.Sv
end
section
set_option linter.unusedVariables false
set_option linter.unusedSimpArgs false
/- a version's text, the next versions -/
namespace Go.Proofs.YtkdecbloihoanaaGreatDoor.Sv
open Go Go.RowKit Rx
set_option maxRecDepth 100000
/-- the table of powers of ten -/
def Pow (w : World) : Prop := Lib.TabIs Tryz.prog w "internal/strconv.uint64pow10" .u64 Lib.pow10Tab
theorem tab_below {P : Program} {w w' : World} {name : String} {k : IntKind} {zs : List Int} (h : Lib.TabIs P w name k zs) (hb : Below w.heap.size w w') : Lib.TabIs P w' name k zs := by
  unfold Lib.TabIs World.var? at *
  cases hg : P.globalNamed name with
  | none => simp [hg] at h
  | some g =>
    simp only [hg, Option.bind_some] at h ⊢
    have hlt : g < w.heap.size := by
      rcases Nat.lt_or_ge g w.heap.size with h' | h'
      · exact h'
      · rw [Array.getElem?_eq_none h'] at h; simp at h
    rw [hb.block g hlt]
    exact h
theorem Pow.below {w w' : World} (h : Pow w) (hb : Below w.heap.size w w') : Pow w' := tab_below h hb
theorem Pow.drew {w : World} (h : Pow w) : Pow w.drew := h.below (Below.refl _ _).drew
theorem bytes_app (x y : Bs) : bytesOf x ++ bytesOf y = bytesOf (x ++ y) := by
  apply ByteArray.ext
  simp [bytesOf]
theorem dot_bytes : (⟨#[46]⟩ : ByteArray) = bytesOf [46] := rfl
theorem dot_size : (⟨#[46]⟩ : ByteArray).size = 1 := rfl
theorem add_yields {P : Program} {S : World → Prop} {x y : ByteArray} {t u : TypeId} (h : x.size + y.size < 1000000) : ∀ w, S w → (binOp .add t (.string x) (.string y)).run P w = .ok (.string (x ++ y)) w := by
  intro w _
  go_simp
  omega
def SS (w : World) (T a b c : Nat) (o : ByteArray) (w' : World) : Prop := w'.cell? ⟨T, 0, none⟩ = some (.int .u64 a) ∧ w'.cell? ⟨T, 1, none⟩ = some (.int .u64 b) ∧ w'.cell? ⟨T, 2, none⟩ = some (.int .u64 c) ∧ w'.cell? ⟨T, 3, none⟩ = some (.string e0) ∧ w'.cell? ⟨T, 4, none⟩ = some (.string e0) ∧ w'.cell? ⟨T, 5, none⟩ = some (.string o) ∧ Pow w' ∧ Below w.heap.size w w'
end Go.Proofs.YtkdecbloihoanaaGreatDoor.Sv
end
section
set_option linter.unusedVariables false
set_option linter.unusedSimpArgs false
/- parseConstraint where numbers are missing or wildcards -/
namespace Go.Proofs.YtkdecbloihoanaaGreatDoor.Sv
open Go Go.RowKit Rx
set_option maxRecDepth 100000
theorem bdN (w : World) (n : Nat) : Below w.heap.size w (w.drewN n) := ⟨rfl, rfl, rfl, Nat.le_refl _, fun _ _ => rfl⟩
set_option maxHeartbeats 4000000 in
theorem t44a (x : Tm) {L RR : Bs} {s : ByteArray} (hs : s.size ≤ 1000) (hx : x.Ok) (ht : s.data.toList = L ++ (x.text ++ RR)) (hL : ∀ y ∈ L, ws y = true) (hR : ∀ y ∈ RR, ws y = true) (h0 : x.op = [] → x.blank = [])
    (x1 : isXb x.ver.p1 = true) (a b c : Nat) (pre me : Bs) (hv : Reads ([48, 46, 48, 46, 48] ++ gtext 45 x.ver.pre) a b c pre me) (w : World) (hT : Lib.Utf8Tabs 11 12 w) :
    Calls Tryz.prog 26 #[.string s] w fun e w' => ∃ C V, e = .returned (.tuple #[.pointer (some ⟨C, 0, none⟩), .nilIface]) ∧ w.heap.size ≤ C ∧ w.heap.size ≤ V ∧ ConAt w' C V x.ver.text x.op false true false ∧ VerAt w' V a b c pre me ([48, 46, 48, 46, 48] ++ gtext 45 x.ver.pre) ∧ Below w.heap.size w w' := by
  have hsz : L.length + (x.text.length + RR.length) = s.size := by rw [← list_size, ht]; simp
  have hxp := tm_pos hx
  have hlen : x.ver.p1.length + ((ptext x.ver.p2).length + ((ptext x.ver.p3).length + (gtext 45 x.ver.pre).length)) ≤ x.text.length := by
    rw [Tm.text, Ver.text]; simp; omega
  have hp1 : (bytesOf x.ver.p1).toList.isEmpty = false := by
    rw [bytesOf_toList]
    have := hx.ver.p1.1
    cases h : x.ver.p1 with
    | nil => exact absurd h this
    | cons y l => rfl
  have k0 : (0 : Int) < (s.size : Int) := by omega
  have H61 := Lib.hid (fun (w : World) (R PB IB icap : Nat) (hp : PG w R PB IB icap conT) (hr : RH w R PB 4 1 24 1 11) (hT : Lib.Utf8Tabs 11 12 w) => conM (s := s) hp hr hT hs hx ht hL hR h0)
  have HT := Lib.hid hT
  have sz1 : (bytesOf x.ver.p1).size < 2000 := by rw [bytesOf_size]; omega
  have sz6 : (bytesOf (gtext 45 x.ver.pre)).size < 2000 := by rw [bytesOf_size]; omega
  have HX1 := Lib.hid (fun w => tIsXb x.ver.p1 w)
  rw [x1] at HX1
  have hst : ⟨#[48, 46, 48, 46, 48]⟩ ++ bytesOf (gtext 45 x.ver.pre) = bytesOf ([48, 46, 48, 46, 48] ++ gtext 45 x.ver.pre) := by
    rw [show (⟨#[48, 46, 48, 46, 48]⟩ : ByteArray) = bytesOf [48, 46, 48, 46, 48] from rfl]
    simp only [bytes_app]
  have HST := Lib.hid hst
  have HV := Lib.hid hv
  have q := q52
  clear hx ht hL hR h0 x1 hv hT hsz hxp hlen hs hst
  generalize hp2 : ptext x.ver.p2 = y2 at *
  generalize hp3 : ptext x.ver.p3 = y3 at *
  clear hp2 hp3
  generalize ([48, 46, 48, 46, 48] ++ gtext 45 x.ver.pre) = vt at *
  generalize x.ver.text = yt at *
  generalize x.ver.p1 = r1 at *
  generalize x.op = op at *
  generalize gtext 45 x.ver.pre = g6 at *
  go_enter Tryz.func26, Tryz.ntmps26
  go_wp2_with (first
    | (go_at_call 40; refine (t60 w).mono ?_; rintro e w1 ⟨R, PB, IB, icap, rfl, hp, hr, hb⟩; have HP := Lib.hid (And.intro hp (And.intro hr (And.intro (Utf8Tabs_below HT.out hb) hb))); clear hp hr hb)
    | (go_at_call 41; refine (H61.out _ _ _ _ _ HP.out.1 HP.out.2.1 HP.out.2.2.1).mono ?_; rintro e w2 ⟨hb2, f, ⟨bp, rfl, h1, h2⟩, e1, e2, e3, e4, e5, e6⟩; have c1 := piece_cell h2 1 (by decide); have c2 := piece_cell h2 2 (by decide); have c3 := piece_cell h2 3 (by decide); have c4 := piece_cell h2 4 (by decide); have c5 := piece_cell h2 5 (by decide); have c6 := piece_cell h2 6 (by decide); rw [e1] at c1; rw [e2] at c2; rw [e3] at c3; rw [e4] at c4; rw [e5] at c5; rw [e6] at c6; have HB2 := Lib.hid (And.intro h1 (And.intro h2 (HP.out.2.2.2.trans (hb2.mono HP.out.2.2.2.size)))); clear hb2 h1 h2 e1 e2 e3 e4 e5 e6))
  go_region
  have hst : CAt w w2.heap.size bp #[.pointer none, .string (bytesOf yt), .string (bytesOf op), .bool false, .bool false, .bool false] (strs ((List.range 12).map f)) ((w2.alloc (.cells #[.pointer none, .string (bytesOf yt), .string (bytesOf op), .bool false, .bool false, .bool false] 64)).drew) := by
    obtain ⟨k1, k2, k3⟩ := HB2.out
    exact ⟨heap_alloc_new w2 _, (Below.heap_alloc w2 _ bp (Array.getElem?_eq_some_iff.1 k2).1).trans k2, (k3.alloc k3.size _).drew, k3.size⟩
  have e2 : (strs ((List.range 12).map f))[2]? = some (.string (bytesOf yt)) := by rw [← c2, cell_of_row _ _ _ _ _ _ HB2.out.2.1]
  have e3 : (strs ((List.range 12).map f))[3]? = some (.string (bytesOf r1)) := by rw [← c3, cell_of_row _ _ _ _ _ _ HB2.out.2.1]
  have e4 : (strs ((List.range 12).map f))[4]? = some (.string (bytesOf y2)) := by rw [← c4, cell_of_row _ _ _ _ _ _ HB2.out.2.1]
  have e5 : (strs ((List.range 12).map f))[5]? = some (.string (bytesOf y3)) := by rw [← c5, cell_of_row _ _ _ _ _ _ HB2.out.2.1]
  have e6 : (strs ((List.range 12).map f))[6]? = some (.string (bytesOf g6)) := by rw [← c6, cell_of_row _ _ _ _ _ _ HB2.out.2.1]
  clear c1 c2 c3 c4 c5 c6
  generalize (w2.alloc (.cells #[.pointer none, .string (bytesOf yt), .string (bytesOf op), .bool false, .bool false, .bool false] 64)).drew = W3 at *
  generalize strs ((List.range 12).map f) = ps at *
  generalize w2.heap.size = C at *
  have HS := Lib.hid hst
  have c2 := hst.piece 2 _ e2
  have c3 := hst.piece 3 _ e3
  have c4 := hst.piece 4 _ e4
  have c5 := hst.piece 5 _ e5
  have c6 := hst.piece 6 _ e6
  clear hst e2 e3 e4 e5 e6
  go_upto_region 21 with (first
    | (go_at_call 42; first | ((with_reducible refine (HX1.out _).mono ?_); rintro e w6 ⟨rfl, hw⟩; subst hw))
    | go_in)
  rw [HST.out]
  clear c2 c3 c4 c5 c6  k0
  have HU := Lib.hid (Utf8Tabs_below HT.out HS.out.b)
  go_wp2_with (go_at_call 44; refine (HV.out _ HU.out).mono ?_; rintro e w7 ⟨V, rfl, hVs, hVa, hb7⟩; have hst4 := HS.out.keep hb7; have HS4 := Lib.hid hst4; have HW := Lib.hid (And.intro hVs hVa); have v0 := hst4.cell 0 _ rfl; have v3 := hst4.cell 3 _ rfl; have v4 := hst4.cell 4 _ rfl; have v5 := hst4.cell 5 _ rfl; have z0 := hst4.fz 0; have z3 := hst4.fz 3; have z4 := hst4.fz 4; have z5 := hst4.fz 5; clear hb7 hst4 hVs hVa)
  go_ret2
  have hfin := (((HS4.out.store 0 (.pointer (some ⟨V, 0, none⟩))).store 3 (.bool false)).store 5 (.bool false)).store 4 (.bool true)
  have hne : V ≠ C := typ_ne HW.out.2 HS4.out.v (by decide)
  refine ⟨C, V, rfl, hfin.h, Nat.le_trans HS.out.b.size HW.out.1, hfin.v, ?_, hfin.b⟩
  unfold VerAt
  rw [heap_setCell_other _ _ _ _ hne, heap_setCell_other _ _ _ _ hne, heap_setCell_other _ _ _ _ hne, heap_setCell_other _ _ _ _ hne]
  exact HW.out.2
set_option maxHeartbeats 4000000 in
theorem t44b0 (x : Tm) {L RR : Bs} {s : ByteArray} (hs : s.size ≤ 1000) (hx : x.Ok) (ht : s.data.toList = L ++ (x.text ++ RR)) (hL : ∀ y ∈ L, ws y = true) (hR : ∀ y ∈ RR, ws y = true) (h0 : x.op = [] → x.blank = [])
    (h2 : x.ver.p2 = none) (h3 : x.ver.p3 = none) (x1 : isXb x.ver.p1 = false) (a b c : Nat) (pre me : Bs) (hv : Reads (x.ver.p1 ++ [46, 48, 46, 48] ++ gtext 45 x.ver.pre) a b c pre me) (w : World) (hT : Lib.Utf8Tabs 11 12 w) :
    Calls Tryz.prog 26 #[.string s] w fun e w' => ∃ C V, e = .returned (.tuple #[.pointer (some ⟨C, 0, none⟩), .nilIface]) ∧ w.heap.size ≤ C ∧ w.heap.size ≤ V ∧ ConAt w' C V x.ver.text x.op true true false ∧ VerAt w' V a b c pre me (x.ver.p1 ++ [46, 48, 46, 48] ++ gtext 45 x.ver.pre) ∧ Below w.heap.size w w' := by
  have hsz : L.length + (x.text.length + RR.length) = s.size := by rw [← list_size, ht]; simp
  have hxp := tm_pos hx
  have hlen : x.ver.p1.length + ((ptext x.ver.p2).length + ((ptext x.ver.p3).length + (gtext 45 x.ver.pre).length)) ≤ x.text.length := by
    rw [Tm.text, Ver.text]; simp; omega
  have hp1 : (bytesOf x.ver.p1).toList.isEmpty = false := by
    rw [bytesOf_toList]
    have := hx.ver.p1.1
    cases h : x.ver.p1 with
    | nil => exact absurd h this
    | cons y l => rfl
  have k0 : (0 : Int) < (s.size : Int) := by omega
  have H61 := Lib.hid (fun (w : World) (R PB IB icap : Nat) (hp : PG w R PB IB icap conT) (hr : RH w R PB 4 1 24 1 11) (hT : Lib.Utf8Tabs 11 12 w) => conM (s := s) hp hr hT hs hx ht hL hR h0)
  have HT := Lib.hid hT
  have sz1 : (bytesOf x.ver.p1).size < 2000 := by rw [bytesOf_size]; omega
  have sz6 : (bytesOf (gtext 45 x.ver.pre)).size < 2000 := by rw [bytesOf_size]; omega
  have HX1 := Lib.hid (fun w => tIsXb x.ver.p1 w)
  rw [x1] at HX1
  have sz2 : (bytesOf (ptext x.ver.p2)).size < 2000 := by rw [bytesOf_size]; omega
  rw [h2, h3] at H61
  rw [h2] at sz2
  have HTa := Lib.hid (fun w => tTrimDot [] (.inl rfl) (by simp) w)
  have HX2 := Lib.hid (fun w => tIsXb [] w)
  rw [show isXb [] = false from rfl] at HX2
  have hst : (bytesOf x.ver.p1 ++ ⟨#[46, 48, 46, 48]⟩) ++ bytesOf (gtext 45 x.ver.pre) = bytesOf (x.ver.p1 ++ [46, 48, 46, 48] ++ gtext 45 x.ver.pre) := by
    rw [show (⟨#[46, 48, 46, 48]⟩ : ByteArray) = bytesOf [46, 48, 46, 48] from rfl]
    simp only [bytes_app]
  have HST := Lib.hid hst
  have HV := Lib.hid hv
  have q := q52
  clear hx ht hL hR h0 h2 h3 x1 hv hT hsz hxp hlen hs hst
  simp only [ptext] at H61 sz2
  generalize (x.ver.p1 ++ [46, 48, 46, 48] ++ gtext 45 x.ver.pre) = vt at *
  generalize x.ver.text = yt at *
  generalize x.ver.p1 = r1 at *
  generalize x.op = op at *
  generalize gtext 45 x.ver.pre = g6 at *
  go_enter Tryz.func26, Tryz.ntmps26
  go_wp2_with (first
    | (go_at_call 40; refine (t60 w).mono ?_; rintro e w1 ⟨R, PB, IB, icap, rfl, hp, hr, hb⟩; have HP := Lib.hid (And.intro hp (And.intro hr (And.intro (Utf8Tabs_below HT.out hb) hb))); clear hp hr hb)
    | (go_at_call 41; refine (H61.out _ _ _ _ _ HP.out.1 HP.out.2.1 HP.out.2.2.1).mono ?_; rintro e w2 ⟨hb2, f, ⟨bp, rfl, h1, h2⟩, e1, e2, e3, e4, e5, e6⟩; have c1 := piece_cell h2 1 (by decide); have c2 := piece_cell h2 2 (by decide); have c3 := piece_cell h2 3 (by decide); have c4 := piece_cell h2 4 (by decide); have c5 := piece_cell h2 5 (by decide); have c6 := piece_cell h2 6 (by decide); rw [e1] at c1; rw [e2] at c2; rw [e3] at c3; rw [e4] at c4; rw [e5] at c5; rw [e6] at c6; have HB2 := Lib.hid (And.intro h1 (And.intro h2 (HP.out.2.2.2.trans (hb2.mono HP.out.2.2.2.size)))); clear hb2 h1 h2 e1 e2 e3 e4 e5 e6))
  go_region
  have hst : CAt w w2.heap.size bp #[.pointer none, .string (bytesOf yt), .string (bytesOf op), .bool false, .bool false, .bool false] (strs ((List.range 12).map f)) ((w2.alloc (.cells #[.pointer none, .string (bytesOf yt), .string (bytesOf op), .bool false, .bool false, .bool false] 64)).drew) := by
    obtain ⟨k1, k2, k3⟩ := HB2.out
    exact ⟨heap_alloc_new w2 _, (Below.heap_alloc w2 _ bp (Array.getElem?_eq_some_iff.1 k2).1).trans k2, (k3.alloc k3.size _).drew, k3.size⟩
  have e2 : (strs ((List.range 12).map f))[2]? = some (.string (bytesOf yt)) := by rw [← c2, cell_of_row _ _ _ _ _ _ HB2.out.2.1]
  have e3 : (strs ((List.range 12).map f))[3]? = some (.string (bytesOf r1)) := by rw [← c3, cell_of_row _ _ _ _ _ _ HB2.out.2.1]
  have e4 : (strs ((List.range 12).map f))[4]? = some (.string (bytesOf [])) := by rw [← c4, cell_of_row _ _ _ _ _ _ HB2.out.2.1]
  have e5 : (strs ((List.range 12).map f))[5]? = some (.string (bytesOf [])) := by rw [← c5, cell_of_row _ _ _ _ _ _ HB2.out.2.1]
  have e6 : (strs ((List.range 12).map f))[6]? = some (.string (bytesOf g6)) := by rw [← c6, cell_of_row _ _ _ _ _ _ HB2.out.2.1]
  clear c1 c2 c3 c4 c5 c6
  generalize (w2.alloc (.cells #[.pointer none, .string (bytesOf yt), .string (bytesOf op), .bool false, .bool false, .bool false] 64)).drew = W3 at *
  generalize strs ((List.range 12).map f) = ps at *
  generalize w2.heap.size = C at *
  have HS := Lib.hid hst
  have c2 := hst.piece 2 _ e2
  have c3 := hst.piece 3 _ e3
  have c4 := hst.piece 4 _ e4
  have c5 := hst.piece 5 _ e5
  have c6 := hst.piece 6 _ e6
  clear hst e2 e3 e4 e5 e6
  have n2 := bytesOf_toList []
  go_upto_region 16 with (first
    | (go_at_call 42; first | ((with_reducible refine (HX1.out _).mono ?_); rintro e w6 ⟨rfl, hw⟩; subst hw) | ((with_reducible refine (HX2.out _).mono ?_); rintro e w6 ⟨rfl, hw⟩; subst hw))
    | (go_at_call 43; first | ((with_reducible refine (HTa.out _).mono ?_); rintro e w6 ⟨rfl, hw⟩; subst hw; rw [show ([] : Bs).tail = [] from rfl]))
    | go_in)
  go_quiet (fail)
  have hq := HS.out.keep (bdN _ nq)
  have HS := Lib.hid hq
  clear hq
  go_upto_region 21 with fail
  rw [HST.out]
  clear c2 c3 c4 c5 c6 n2 k0
  have HU := Lib.hid (Utf8Tabs_below HT.out HS.out.b)
  go_wp2_with (go_at_call 44; refine (HV.out _ HU.out).mono ?_; rintro e w7 ⟨V, rfl, hVs, hVa, hb7⟩; have hst4 := HS.out.keep hb7; have HS4 := Lib.hid hst4; have HW := Lib.hid (And.intro hVs hVa); have v0 := hst4.cell 0 _ rfl; have v3 := hst4.cell 3 _ rfl; have v4 := hst4.cell 4 _ rfl; have v5 := hst4.cell 5 _ rfl; have z0 := hst4.fz 0; have z3 := hst4.fz 3; have z4 := hst4.fz 4; have z5 := hst4.fz 5; clear hb7 hst4 hVs hVa)
  go_ret2
  have hfin := (((HS4.out.store 0 (.pointer (some ⟨V, 0, none⟩))).store 3 (.bool true)).store 5 (.bool false)).store 4 (.bool true)
  have hne : V ≠ C := typ_ne HW.out.2 HS4.out.v (by decide)
  refine ⟨C, V, rfl, hfin.h, Nat.le_trans HS.out.b.size HW.out.1, hfin.v, ?_, hfin.b⟩
  unfold VerAt
  rw [heap_setCell_other _ _ _ _ hne, heap_setCell_other _ _ _ _ hne, heap_setCell_other _ _ _ _ hne, heap_setCell_other _ _ _ _ hne]
  exact HW.out.2
set_option maxHeartbeats 4000000 in
theorem t44b1 (x : Tm) {L RR : Bs} {s : ByteArray} (hs : s.size ≤ 1000) (hx : x.Ok) (ht : s.data.toList = L ++ (x.text ++ RR)) (hL : ∀ y ∈ L, ws y = true) (hR : ∀ y ∈ RR, ws y = true) (h0 : x.op = [] → x.blank = [])
    (r2 : Bs) (h2 : x.ver.p2 = some r2) (x1 : isXb x.ver.p1 = false) (x2 : isXb r2 = true) (a b c : Nat) (pre me : Bs) (hv : Reads (x.ver.p1 ++ [46, 48, 46, 48] ++ gtext 45 x.ver.pre) a b c pre me) (w : World) (hT : Lib.Utf8Tabs 11 12 w) :
    Calls Tryz.prog 26 #[.string s] w fun e w' => ∃ C V, e = .returned (.tuple #[.pointer (some ⟨C, 0, none⟩), .nilIface]) ∧ w.heap.size ≤ C ∧ w.heap.size ≤ V ∧ ConAt w' C V x.ver.text x.op true true false ∧ VerAt w' V a b c pre me (x.ver.p1 ++ [46, 48, 46, 48] ++ gtext 45 x.ver.pre) ∧ Below w.heap.size w w' := by
  have hsz : L.length + (x.text.length + RR.length) = s.size := by rw [← list_size, ht]; simp
  have hxp := tm_pos hx
  have hlen : x.ver.p1.length + ((ptext x.ver.p2).length + ((ptext x.ver.p3).length + (gtext 45 x.ver.pre).length)) ≤ x.text.length := by
    rw [Tm.text, Ver.text]; simp; omega
  have hp1 : (bytesOf x.ver.p1).toList.isEmpty = false := by
    rw [bytesOf_toList]
    have := hx.ver.p1.1
    cases h : x.ver.p1 with
    | nil => exact absurd h this
    | cons y l => rfl
  have k0 : (0 : Int) < (s.size : Int) := by omega
  have H61 := Lib.hid (fun (w : World) (R PB IB icap : Nat) (hp : PG w R PB IB icap conT) (hr : RH w R PB 4 1 24 1 11) (hT : Lib.Utf8Tabs 11 12 w) => conM (s := s) hp hr hT hs hx ht hL hR h0)
  have HT := Lib.hid hT
  have sz1 : (bytesOf x.ver.p1).size < 2000 := by rw [bytesOf_size]; omega
  have sz6 : (bytesOf (gtext 45 x.ver.pre)).size < 2000 := by rw [bytesOf_size]; omega
  have HX1 := Lib.hid (fun w => tIsXb x.ver.p1 w)
  rw [x1] at HX1
  have sz2 : (bytesOf (ptext x.ver.p2)).size < 2000 := by rw [bytesOf_size]; omega
  rw [h2] at H61
  rw [h2] at sz2
  have hl2 : r2.length < 1000 := by rw [h2] at hlen; simp [ptext] at hlen; omega
  have HTa := Lib.hid (fun w => tTrimDot (46 :: r2) (.inr ⟨_, rfl⟩) (by simp; omega) w)
  have HX2 := Lib.hid (fun w => tIsXb r2 w)
  rw [x2] at HX2
  clear hl2
  have hst : (bytesOf x.ver.p1 ++ ⟨#[46, 48, 46, 48]⟩) ++ bytesOf (gtext 45 x.ver.pre) = bytesOf (x.ver.p1 ++ [46, 48, 46, 48] ++ gtext 45 x.ver.pre) := by
    rw [show (⟨#[46, 48, 46, 48]⟩ : ByteArray) = bytesOf [46, 48, 46, 48] from rfl]
    simp only [bytes_app]
  have HST := Lib.hid hst
  have HV := Lib.hid hv
  have q := q52
  clear hx ht hL hR h0 h2 x1 x2 hv hT hsz hxp hlen hs hst
  generalize hp3 : ptext x.ver.p3 = y3 at *
  clear hp3
  simp only [ptext] at H61 sz2
  generalize (x.ver.p1 ++ [46, 48, 46, 48] ++ gtext 45 x.ver.pre) = vt at *
  generalize x.ver.text = yt at *
  generalize x.ver.p1 = r1 at *
  generalize x.op = op at *
  generalize gtext 45 x.ver.pre = g6 at *
  go_enter Tryz.func26, Tryz.ntmps26
  go_wp2_with (first
    | (go_at_call 40; refine (t60 w).mono ?_; rintro e w1 ⟨R, PB, IB, icap, rfl, hp, hr, hb⟩; have HP := Lib.hid (And.intro hp (And.intro hr (And.intro (Utf8Tabs_below HT.out hb) hb))); clear hp hr hb)
    | (go_at_call 41; refine (H61.out _ _ _ _ _ HP.out.1 HP.out.2.1 HP.out.2.2.1).mono ?_; rintro e w2 ⟨hb2, f, ⟨bp, rfl, h1, h2⟩, e1, e2, e3, e4, e5, e6⟩; have c1 := piece_cell h2 1 (by decide); have c2 := piece_cell h2 2 (by decide); have c3 := piece_cell h2 3 (by decide); have c4 := piece_cell h2 4 (by decide); have c5 := piece_cell h2 5 (by decide); have c6 := piece_cell h2 6 (by decide); rw [e1] at c1; rw [e2] at c2; rw [e3] at c3; rw [e4] at c4; rw [e5] at c5; rw [e6] at c6; have HB2 := Lib.hid (And.intro h1 (And.intro h2 (HP.out.2.2.2.trans (hb2.mono HP.out.2.2.2.size)))); clear hb2 h1 h2 e1 e2 e3 e4 e5 e6))
  go_region
  have hst : CAt w w2.heap.size bp #[.pointer none, .string (bytesOf yt), .string (bytesOf op), .bool false, .bool false, .bool false] (strs ((List.range 12).map f)) ((w2.alloc (.cells #[.pointer none, .string (bytesOf yt), .string (bytesOf op), .bool false, .bool false, .bool false] 64)).drew) := by
    obtain ⟨k1, k2, k3⟩ := HB2.out
    exact ⟨heap_alloc_new w2 _, (Below.heap_alloc w2 _ bp (Array.getElem?_eq_some_iff.1 k2).1).trans k2, (k3.alloc k3.size _).drew, k3.size⟩
  have e2 : (strs ((List.range 12).map f))[2]? = some (.string (bytesOf yt)) := by rw [← c2, cell_of_row _ _ _ _ _ _ HB2.out.2.1]
  have e3 : (strs ((List.range 12).map f))[3]? = some (.string (bytesOf r1)) := by rw [← c3, cell_of_row _ _ _ _ _ _ HB2.out.2.1]
  have e4 : (strs ((List.range 12).map f))[4]? = some (.string (bytesOf (46 :: r2))) := by rw [← c4, cell_of_row _ _ _ _ _ _ HB2.out.2.1]
  have e5 : (strs ((List.range 12).map f))[5]? = some (.string (bytesOf y3)) := by rw [← c5, cell_of_row _ _ _ _ _ _ HB2.out.2.1]
  have e6 : (strs ((List.range 12).map f))[6]? = some (.string (bytesOf g6)) := by rw [← c6, cell_of_row _ _ _ _ _ _ HB2.out.2.1]
  clear c1 c2 c3 c4 c5 c6
  generalize (w2.alloc (.cells #[.pointer none, .string (bytesOf yt), .string (bytesOf op), .bool false, .bool false, .bool false] 64)).drew = W3 at *
  generalize strs ((List.range 12).map f) = ps at *
  generalize w2.heap.size = C at *
  have HS := Lib.hid hst
  have c2 := hst.piece 2 _ e2
  have c3 := hst.piece 3 _ e3
  have c4 := hst.piece 4 _ e4
  have c5 := hst.piece 5 _ e5
  have c6 := hst.piece 6 _ e6
  clear hst e2 e3 e4 e5 e6
  have n2 := bytesOf_toList (46 :: r2)
  go_upto_region 16 with (first
    | (go_at_call 42; first | ((with_reducible refine (HX1.out _).mono ?_); rintro e w6 ⟨rfl, hw⟩; subst hw) | ((with_reducible refine (HX2.out _).mono ?_); rintro e w6 ⟨rfl, hw⟩; subst hw))
    | (go_at_call 43; first | ((with_reducible refine (HTa.out _).mono ?_); rintro e w6 ⟨rfl, hw⟩; subst hw; rw [show ((46 :: r2) : Bs).tail = r2 from rfl]))
    | go_in)
  go_quiet (fail)
  have hq := HS.out.keep (bdN _ nq)
  have HS := Lib.hid hq
  clear hq
  go_upto_region 21 with fail
  rw [HST.out]
  clear c2 c3 c4 c5 c6 n2 k0
  have HU := Lib.hid (Utf8Tabs_below HT.out HS.out.b)
  go_wp2_with (go_at_call 44; refine (HV.out _ HU.out).mono ?_; rintro e w7 ⟨V, rfl, hVs, hVa, hb7⟩; have hst4 := HS.out.keep hb7; have HS4 := Lib.hid hst4; have HW := Lib.hid (And.intro hVs hVa); have v0 := hst4.cell 0 _ rfl; have v3 := hst4.cell 3 _ rfl; have v4 := hst4.cell 4 _ rfl; have v5 := hst4.cell 5 _ rfl; have z0 := hst4.fz 0; have z3 := hst4.fz 3; have z4 := hst4.fz 4; have z5 := hst4.fz 5; clear hb7 hst4 hVs hVa)
  go_ret2
  have hfin := (((HS4.out.store 0 (.pointer (some ⟨V, 0, none⟩))).store 3 (.bool true)).store 5 (.bool false)).store 4 (.bool true)
  have hne : V ≠ C := typ_ne HW.out.2 HS4.out.v (by decide)
  refine ⟨C, V, rfl, hfin.h, Nat.le_trans HS.out.b.size HW.out.1, hfin.v, ?_, hfin.b⟩
  unfold VerAt
  rw [heap_setCell_other _ _ _ _ hne, heap_setCell_other _ _ _ _ hne, heap_setCell_other _ _ _ _ hne, heap_setCell_other _ _ _ _ hne]
  exact HW.out.2
set_option maxHeartbeats 4000000 in
theorem t44c0 (x : Tm) {L RR : Bs} {s : ByteArray} (hs : s.size ≤ 1000) (hx : x.Ok) (ht : s.data.toList = L ++ (x.text ++ RR)) (hL : ∀ y ∈ L, ws y = true) (hR : ∀ y ∈ RR, ws y = true) (h0 : x.op = [] → x.blank = [])
    (r2 : Bs) (h2 : x.ver.p2 = some r2) (h3 : x.ver.p3 = none) (x1 : isXb x.ver.p1 = false) (x2 : isXb r2 = false) (a b c : Nat) (pre me : Bs) (hv : Reads (x.ver.p1 ++ 46 :: r2 ++ [46, 48] ++ gtext 45 x.ver.pre) a b c pre me) (w : World) (hT : Lib.Utf8Tabs 11 12 w) :
    Calls Tryz.prog 26 #[.string s] w fun e w' => ∃ C V, e = .returned (.tuple #[.pointer (some ⟨C, 0, none⟩), .nilIface]) ∧ w.heap.size ≤ C ∧ w.heap.size ≤ V ∧ ConAt w' C V x.ver.text x.op false true true ∧ VerAt w' V a b c pre me (x.ver.p1 ++ 46 :: r2 ++ [46, 48] ++ gtext 45 x.ver.pre) ∧ Below w.heap.size w w' := by
  have hsz : L.length + (x.text.length + RR.length) = s.size := by rw [← list_size, ht]; simp
  have hxp := tm_pos hx
  have hlen : x.ver.p1.length + ((ptext x.ver.p2).length + ((ptext x.ver.p3).length + (gtext 45 x.ver.pre).length)) ≤ x.text.length := by
    rw [Tm.text, Ver.text]; simp; omega
  have hp1 : (bytesOf x.ver.p1).toList.isEmpty = false := by
    rw [bytesOf_toList]
    have := hx.ver.p1.1
    cases h : x.ver.p1 with
    | nil => exact absurd h this
    | cons y l => rfl
  have k0 : (0 : Int) < (s.size : Int) := by omega
  have H61 := Lib.hid (fun (w : World) (R PB IB icap : Nat) (hp : PG w R PB IB icap conT) (hr : RH w R PB 4 1 24 1 11) (hT : Lib.Utf8Tabs 11 12 w) => conM (s := s) hp hr hT hs hx ht hL hR h0)
  have HT := Lib.hid hT
  have sz1 : (bytesOf x.ver.p1).size < 2000 := by rw [bytesOf_size]; omega
  have sz6 : (bytesOf (gtext 45 x.ver.pre)).size < 2000 := by rw [bytesOf_size]; omega
  have HX1 := Lib.hid (fun w => tIsXb x.ver.p1 w)
  rw [x1] at HX1
  have sz2 : (bytesOf (ptext x.ver.p2)).size < 2000 := by rw [bytesOf_size]; omega
  rw [h2, h3] at H61
  rw [h2] at sz2
  have hl2 : r2.length < 1000 := by rw [h2] at hlen; simp [ptext] at hlen; omega
  have HTa := Lib.hid (fun w => tTrimDot (46 :: r2) (.inr ⟨_, rfl⟩) (by simp; omega) w)
  have HX2 := Lib.hid (fun w => tIsXb r2 w)
  rw [x2] at HX2
  clear hl2
  have HTb := Lib.hid (fun w => tTrimDot [] (.inl rfl) (by simp) w)
  have HX3 := Lib.hid (fun w => tIsXb [] w)
  rw [show isXb [] = false from rfl] at HX3
  have hst : ((bytesOf x.ver.p1 ++ bytesOf (46 :: r2)) ++ ⟨#[46, 48]⟩) ++ bytesOf (gtext 45 x.ver.pre) = bytesOf (x.ver.p1 ++ 46 :: r2 ++ [46, 48] ++ gtext 45 x.ver.pre) := by
    rw [show (⟨#[46, 48]⟩ : ByteArray) = bytesOf [46, 48] from rfl]
    simp only [bytes_app]
  have HST := Lib.hid hst
  have HV := Lib.hid hv
  have q := q52
  clear hx ht hL hR h0 h2 h3 x1 x2 hv hT hsz hxp hlen hs hst
  simp only [ptext] at H61 sz2
  generalize (x.ver.p1 ++ 46 :: r2 ++ [46, 48] ++ gtext 45 x.ver.pre) = vt at *
  generalize x.ver.text = yt at *
  generalize x.ver.p1 = r1 at *
  generalize x.op = op at *
  generalize gtext 45 x.ver.pre = g6 at *
  go_enter Tryz.func26, Tryz.ntmps26
  go_wp2_with (first
    | (go_at_call 40; refine (t60 w).mono ?_; rintro e w1 ⟨R, PB, IB, icap, rfl, hp, hr, hb⟩; have HP := Lib.hid (And.intro hp (And.intro hr (And.intro (Utf8Tabs_below HT.out hb) hb))); clear hp hr hb)
    | (go_at_call 41; refine (H61.out _ _ _ _ _ HP.out.1 HP.out.2.1 HP.out.2.2.1).mono ?_; rintro e w2 ⟨hb2, f, ⟨bp, rfl, h1, h2⟩, e1, e2, e3, e4, e5, e6⟩; have c1 := piece_cell h2 1 (by decide); have c2 := piece_cell h2 2 (by decide); have c3 := piece_cell h2 3 (by decide); have c4 := piece_cell h2 4 (by decide); have c5 := piece_cell h2 5 (by decide); have c6 := piece_cell h2 6 (by decide); rw [e1] at c1; rw [e2] at c2; rw [e3] at c3; rw [e4] at c4; rw [e5] at c5; rw [e6] at c6; have HB2 := Lib.hid (And.intro h1 (And.intro h2 (HP.out.2.2.2.trans (hb2.mono HP.out.2.2.2.size)))); clear hb2 h1 h2 e1 e2 e3 e4 e5 e6))
  go_region
  have hst : CAt w w2.heap.size bp #[.pointer none, .string (bytesOf yt), .string (bytesOf op), .bool false, .bool false, .bool false] (strs ((List.range 12).map f)) ((w2.alloc (.cells #[.pointer none, .string (bytesOf yt), .string (bytesOf op), .bool false, .bool false, .bool false] 64)).drew) := by
    obtain ⟨k1, k2, k3⟩ := HB2.out
    exact ⟨heap_alloc_new w2 _, (Below.heap_alloc w2 _ bp (Array.getElem?_eq_some_iff.1 k2).1).trans k2, (k3.alloc k3.size _).drew, k3.size⟩
  have e2 : (strs ((List.range 12).map f))[2]? = some (.string (bytesOf yt)) := by rw [← c2, cell_of_row _ _ _ _ _ _ HB2.out.2.1]
  have e3 : (strs ((List.range 12).map f))[3]? = some (.string (bytesOf r1)) := by rw [← c3, cell_of_row _ _ _ _ _ _ HB2.out.2.1]
  have e4 : (strs ((List.range 12).map f))[4]? = some (.string (bytesOf (46 :: r2))) := by rw [← c4, cell_of_row _ _ _ _ _ _ HB2.out.2.1]
  have e5 : (strs ((List.range 12).map f))[5]? = some (.string (bytesOf [])) := by rw [← c5, cell_of_row _ _ _ _ _ _ HB2.out.2.1]
  have e6 : (strs ((List.range 12).map f))[6]? = some (.string (bytesOf g6)) := by rw [← c6, cell_of_row _ _ _ _ _ _ HB2.out.2.1]
  clear c1 c2 c3 c4 c5 c6
  generalize (w2.alloc (.cells #[.pointer none, .string (bytesOf yt), .string (bytesOf op), .bool false, .bool false, .bool false] 64)).drew = W3 at *
  generalize strs ((List.range 12).map f) = ps at *
  generalize w2.heap.size = C at *
  have HS := Lib.hid hst
  have c2 := hst.piece 2 _ e2
  have c3 := hst.piece 3 _ e3
  have c4 := hst.piece 4 _ e4
  have c5 := hst.piece 5 _ e5
  have c6 := hst.piece 6 _ e6
  clear hst e2 e3 e4 e5 e6
  have n2 := bytesOf_toList (46 :: r2)
  have n3 := bytesOf_toList []
  go_upto_region 20 with (first
    | (go_at_call 42; first | ((with_reducible refine (HX1.out _).mono ?_); rintro e w6 ⟨rfl, hw⟩; subst hw) | ((with_reducible refine (HX2.out _).mono ?_); rintro e w6 ⟨rfl, hw⟩; subst hw) | ((with_reducible refine (HX3.out _).mono ?_); rintro e w6 ⟨rfl, hw⟩; subst hw))
    | (go_at_call 43; first | ((with_reducible refine (HTa.out _).mono ?_); rintro e w6 ⟨rfl, hw⟩; subst hw; rw [show ((46 :: r2) : Bs).tail = r2 from rfl]) | ((with_reducible refine (HTb.out _).mono ?_); rintro e w6 ⟨rfl, hw⟩; subst hw; rw [show ([] : Bs).tail = [] from rfl]))
    | go_in)
  go_quiet (fail)
  have hq := HS.out.keep (bdN _ nq)
  have HS := Lib.hid hq
  clear hq
  go_upto_region 21 with fail
  rw [HST.out]
  clear c2 c3 c4 c5 c6 n2 n3 k0
  have HU := Lib.hid (Utf8Tabs_below HT.out HS.out.b)
  go_wp2_with (go_at_call 44; refine (HV.out _ HU.out).mono ?_; rintro e w7 ⟨V, rfl, hVs, hVa, hb7⟩; have hst4 := HS.out.keep hb7; have HS4 := Lib.hid hst4; have HW := Lib.hid (And.intro hVs hVa); have v0 := hst4.cell 0 _ rfl; have v3 := hst4.cell 3 _ rfl; have v4 := hst4.cell 4 _ rfl; have v5 := hst4.cell 5 _ rfl; have z0 := hst4.fz 0; have z3 := hst4.fz 3; have z4 := hst4.fz 4; have z5 := hst4.fz 5; clear hb7 hst4 hVs hVa)
  go_ret2
  have hfin := (((HS4.out.store 0 (.pointer (some ⟨V, 0, none⟩))).store 3 (.bool false)).store 5 (.bool true)).store 4 (.bool true)
  have hne : V ≠ C := typ_ne HW.out.2 HS4.out.v (by decide)
  refine ⟨C, V, rfl, hfin.h, Nat.le_trans HS.out.b.size HW.out.1, hfin.v, ?_, hfin.b⟩
  unfold VerAt
  rw [heap_setCell_other _ _ _ _ hne, heap_setCell_other _ _ _ _ hne, heap_setCell_other _ _ _ _ hne, heap_setCell_other _ _ _ _ hne]
  exact HW.out.2
set_option maxHeartbeats 4000000 in
theorem t44c1 (x : Tm) {L RR : Bs} {s : ByteArray} (hs : s.size ≤ 1000) (hx : x.Ok) (ht : s.data.toList = L ++ (x.text ++ RR)) (hL : ∀ y ∈ L, ws y = true) (hR : ∀ y ∈ RR, ws y = true) (h0 : x.op = [] → x.blank = [])
    (r2 r3 : Bs) (h2 : x.ver.p2 = some r2) (h3 : x.ver.p3 = some r3) (x1 : isXb x.ver.p1 = false) (x2 : isXb r2 = false) (x3 : isXb r3 = true) (a b c : Nat) (pre me : Bs) (hv : Reads (x.ver.p1 ++ 46 :: r2 ++ [46, 48] ++ gtext 45 x.ver.pre) a b c pre me) (w : World) (hT : Lib.Utf8Tabs 11 12 w) :
    Calls Tryz.prog 26 #[.string s] w fun e w' => ∃ C V, e = .returned (.tuple #[.pointer (some ⟨C, 0, none⟩), .nilIface]) ∧ w.heap.size ≤ C ∧ w.heap.size ≤ V ∧ ConAt w' C V x.ver.text x.op false true true ∧ VerAt w' V a b c pre me (x.ver.p1 ++ 46 :: r2 ++ [46, 48] ++ gtext 45 x.ver.pre) ∧ Below w.heap.size w w' := by
  have hsz : L.length + (x.text.length + RR.length) = s.size := by rw [← list_size, ht]; simp
  have hxp := tm_pos hx
  have hlen : x.ver.p1.length + ((ptext x.ver.p2).length + ((ptext x.ver.p3).length + (gtext 45 x.ver.pre).length)) ≤ x.text.length := by
    rw [Tm.text, Ver.text]; simp; omega
  have hp1 : (bytesOf x.ver.p1).toList.isEmpty = false := by
    rw [bytesOf_toList]
    have := hx.ver.p1.1
    cases h : x.ver.p1 with
    | nil => exact absurd h this
    | cons y l => rfl
  have k0 : (0 : Int) < (s.size : Int) := by omega
  have H61 := Lib.hid (fun (w : World) (R PB IB icap : Nat) (hp : PG w R PB IB icap conT) (hr : RH w R PB 4 1 24 1 11) (hT : Lib.Utf8Tabs 11 12 w) => conM (s := s) hp hr hT hs hx ht hL hR h0)
  have HT := Lib.hid hT
  have sz1 : (bytesOf x.ver.p1).size < 2000 := by rw [bytesOf_size]; omega
  have sz6 : (bytesOf (gtext 45 x.ver.pre)).size < 2000 := by rw [bytesOf_size]; omega
  have HX1 := Lib.hid (fun w => tIsXb x.ver.p1 w)
  rw [x1] at HX1
  have sz2 : (bytesOf (ptext x.ver.p2)).size < 2000 := by rw [bytesOf_size]; omega
  rw [h2, h3] at H61
  rw [h2] at sz2
  have hl2 : r2.length < 1000 := by rw [h2] at hlen; simp [ptext] at hlen; omega
  have HTa := Lib.hid (fun w => tTrimDot (46 :: r2) (.inr ⟨_, rfl⟩) (by simp; omega) w)
  have HX2 := Lib.hid (fun w => tIsXb r2 w)
  rw [x2] at HX2
  clear hl2
  have hl3 : r3.length < 1000 := by rw [h3] at hlen; simp [ptext] at hlen; omega
  have HTb := Lib.hid (fun w => tTrimDot (46 :: r3) (.inr ⟨_, rfl⟩) (by simp; omega) w)
  have HX3 := Lib.hid (fun w => tIsXb r3 w)
  rw [x3] at HX3
  clear hl3
  have hst : ((bytesOf x.ver.p1 ++ bytesOf (46 :: r2)) ++ ⟨#[46, 48]⟩) ++ bytesOf (gtext 45 x.ver.pre) = bytesOf (x.ver.p1 ++ 46 :: r2 ++ [46, 48] ++ gtext 45 x.ver.pre) := by
    rw [show (⟨#[46, 48]⟩ : ByteArray) = bytesOf [46, 48] from rfl]
    simp only [bytes_app]
  have HST := Lib.hid hst
  have HV := Lib.hid hv
  have q := q52
  clear hx ht hL hR h0 h2 h3 x1 x2 x3 hv hT hsz hxp hlen hs hst
  simp only [ptext] at H61 sz2
  generalize (x.ver.p1 ++ 46 :: r2 ++ [46, 48] ++ gtext 45 x.ver.pre) = vt at *
  generalize x.ver.text = yt at *
  generalize x.ver.p1 = r1 at *
  generalize x.op = op at *
  generalize gtext 45 x.ver.pre = g6 at *
  go_enter Tryz.func26, Tryz.ntmps26
  go_wp2_with (first
    | (go_at_call 40; refine (t60 w).mono ?_; rintro e w1 ⟨R, PB, IB, icap, rfl, hp, hr, hb⟩; have HP := Lib.hid (And.intro hp (And.intro hr (And.intro (Utf8Tabs_below HT.out hb) hb))); clear hp hr hb)
    | (go_at_call 41; refine (H61.out _ _ _ _ _ HP.out.1 HP.out.2.1 HP.out.2.2.1).mono ?_; rintro e w2 ⟨hb2, f, ⟨bp, rfl, h1, h2⟩, e1, e2, e3, e4, e5, e6⟩; have c1 := piece_cell h2 1 (by decide); have c2 := piece_cell h2 2 (by decide); have c3 := piece_cell h2 3 (by decide); have c4 := piece_cell h2 4 (by decide); have c5 := piece_cell h2 5 (by decide); have c6 := piece_cell h2 6 (by decide); rw [e1] at c1; rw [e2] at c2; rw [e3] at c3; rw [e4] at c4; rw [e5] at c5; rw [e6] at c6; have HB2 := Lib.hid (And.intro h1 (And.intro h2 (HP.out.2.2.2.trans (hb2.mono HP.out.2.2.2.size)))); clear hb2 h1 h2 e1 e2 e3 e4 e5 e6))
  go_region
  have hst : CAt w w2.heap.size bp #[.pointer none, .string (bytesOf yt), .string (bytesOf op), .bool false, .bool false, .bool false] (strs ((List.range 12).map f)) ((w2.alloc (.cells #[.pointer none, .string (bytesOf yt), .string (bytesOf op), .bool false, .bool false, .bool false] 64)).drew) := by
    obtain ⟨k1, k2, k3⟩ := HB2.out
    exact ⟨heap_alloc_new w2 _, (Below.heap_alloc w2 _ bp (Array.getElem?_eq_some_iff.1 k2).1).trans k2, (k3.alloc k3.size _).drew, k3.size⟩
  have e2 : (strs ((List.range 12).map f))[2]? = some (.string (bytesOf yt)) := by rw [← c2, cell_of_row _ _ _ _ _ _ HB2.out.2.1]
  have e3 : (strs ((List.range 12).map f))[3]? = some (.string (bytesOf r1)) := by rw [← c3, cell_of_row _ _ _ _ _ _ HB2.out.2.1]
  have e4 : (strs ((List.range 12).map f))[4]? = some (.string (bytesOf (46 :: r2))) := by rw [← c4, cell_of_row _ _ _ _ _ _ HB2.out.2.1]
  have e5 : (strs ((List.range 12).map f))[5]? = some (.string (bytesOf (46 :: r3))) := by rw [← c5, cell_of_row _ _ _ _ _ _ HB2.out.2.1]
  have e6 : (strs ((List.range 12).map f))[6]? = some (.string (bytesOf g6)) := by rw [← c6, cell_of_row _ _ _ _ _ _ HB2.out.2.1]
  clear c1 c2 c3 c4 c5 c6
  generalize (w2.alloc (.cells #[.pointer none, .string (bytesOf yt), .string (bytesOf op), .bool false, .bool false, .bool false] 64)).drew = W3 at *
  generalize strs ((List.range 12).map f) = ps at *
  generalize w2.heap.size = C at *
  have HS := Lib.hid hst
  have c2 := hst.piece 2 _ e2
  have c3 := hst.piece 3 _ e3
  have c4 := hst.piece 4 _ e4
  have c5 := hst.piece 5 _ e5
  have c6 := hst.piece 6 _ e6
  clear hst e2 e3 e4 e5 e6
  have n2 := bytesOf_toList (46 :: r2)
  have n3 := bytesOf_toList (46 :: r3)
  go_upto_region 20 with (first
    | (go_at_call 42; first | ((with_reducible refine (HX1.out _).mono ?_); rintro e w6 ⟨rfl, hw⟩; subst hw) | ((with_reducible refine (HX2.out _).mono ?_); rintro e w6 ⟨rfl, hw⟩; subst hw) | ((with_reducible refine (HX3.out _).mono ?_); rintro e w6 ⟨rfl, hw⟩; subst hw))
    | (go_at_call 43; first | ((with_reducible refine (HTa.out _).mono ?_); rintro e w6 ⟨rfl, hw⟩; subst hw; rw [show ((46 :: r2) : Bs).tail = r2 from rfl]) | ((with_reducible refine (HTb.out _).mono ?_); rintro e w6 ⟨rfl, hw⟩; subst hw; rw [show ((46 :: r3) : Bs).tail = r3 from rfl]))
    | go_in)
  go_quiet (fail)
  have hq := HS.out.keep (bdN _ nq)
  have HS := Lib.hid hq
  clear hq
  go_upto_region 21 with fail
  rw [HST.out]
  clear c2 c3 c4 c5 c6 n2 n3 k0
  have HU := Lib.hid (Utf8Tabs_below HT.out HS.out.b)
  go_wp2_with (go_at_call 44; refine (HV.out _ HU.out).mono ?_; rintro e w7 ⟨V, rfl, hVs, hVa, hb7⟩; have hst4 := HS.out.keep hb7; have HS4 := Lib.hid hst4; have HW := Lib.hid (And.intro hVs hVa); have v0 := hst4.cell 0 _ rfl; have v3 := hst4.cell 3 _ rfl; have v4 := hst4.cell 4 _ rfl; have v5 := hst4.cell 5 _ rfl; have z0 := hst4.fz 0; have z3 := hst4.fz 3; have z4 := hst4.fz 4; have z5 := hst4.fz 5; clear hb7 hst4 hVs hVa)
  go_ret2
  have hfin := (((HS4.out.store 0 (.pointer (some ⟨V, 0, none⟩))).store 3 (.bool false)).store 5 (.bool true)).store 4 (.bool true)
  have hne : V ≠ C := typ_ne HW.out.2 HS4.out.v (by decide)
  refine ⟨C, V, rfl, hfin.h, Nat.le_trans HS.out.b.size HW.out.1, hfin.v, ?_, hfin.b⟩
  unfold VerAt
  rw [heap_setCell_other _ _ _ _ hne, heap_setCell_other _ _ _ _ hne, heap_setCell_other _ _ _ _ hne, heap_setCell_other _ _ _ _ hne]
  exact HW.out.2
end Go.Proofs.YtkdecbloihoanaaGreatDoor.Sv
end
section
set_option linter.unusedVariables false
set_option linter.unusedSimpArgs false
/- terms in any of their ways -/
namespace Go.Proofs.YtkdecbloihoanaaGreatDoor.Sv
open Go Go.RowKit Rx
set_option maxRecDepth 100000
structure GT where
  op : Bs
  blank : Bs
  g : Nat
  v : Bool
  z1 : Bool
  z2 : Bool
  z3 : Bool
  w1 : Bs
  w2 : Option Bs
  w3 : Option Bs
  a : Nat
  b : Nat
  c : Nat
  pre : Bs
  mt : Bool
def num (z : Bool) (a : Nat) : Bs := (if z then [48] else []) ++ Lib.decDigits a
def pgrp (p : Bs) : Option (Bs × List Bs) := if p = [] then none else match idents p with
  | [] => none
  | x :: r => some (x, r)
def mgrp (m : Bool) : Option (Bs × List Bs) := if m then some ([98], [[48, 49]]) else none
def GT.ver (t : GT) : Ver := match t.g with
  | 0 => ⟨t.v, t.w1, t.w2, t.w3, none, none⟩
  | 1 => ⟨t.v, num t.z1 t.a, t.w2, t.w3, none, none⟩
  | 2 => ⟨t.v, num t.z1 t.a, some (num t.z2 t.b), t.w3, none, none⟩
  | _ => ⟨t.v, num t.z1 t.a, some (num t.z2 t.b), some (num t.z3 t.c), pgrp t.pre, mgrp t.mt⟩
def GT.tm (t : GT) : Tm := ⟨t.op, t.blank, t.ver⟩
def GT.td (t : GT) : TD := match t.g with
  | 0 => ⟨t.op, t.ver.text, false, true, false, 0, 0, 0, [], [], [48, 46, 48, 46, 48]⟩
  | 1 => ⟨t.op, t.ver.text, true, true, false, t.a, 0, 0, [], [], num t.z1 t.a ++ [46, 48, 46, 48]⟩
  | 2 => ⟨t.op, t.ver.text, false, true, true, t.a, t.b, 0, [], [], num t.z1 t.a ++ 46 :: num t.z2 t.b ++ [46, 48]⟩
  | _ => ⟨t.op, t.ver.text, false, false, false, t.a, t.b, t.c, t.pre, gpre (mgrp t.mt), t.ver.text⟩
def wildB (w : Bs) : Prop := w = [120] ∨ w = [88] ∨ w = [42]
structure GT.Ok (t : GT) : Prop where
  op : t.op ∈ opTexts
  blank : ∀ y ∈ t.blank, ws y = true
  ob : t.op = [] → t.blank = []
  bl : t.blank.length ≤ 2
  a : t.a < 18446744073709551616
  b : t.b < 18446744073709551616
  c : t.c < 18446744073709551616
  w1 : wildB t.w1
  w2 : ∀ y, t.w2 = some y → wildB y
  w3 : ∀ y, t.w3 = some y → wildB y
  w23 : t.g ≤ 1 → t.w2 = none → t.w3 = none
  pre : t.pre = [] ∨ PreOk t.pre
  pl : t.pre.length ≤ 64
theorem num_part (z : Bool) (a : Nat) : okPart dB (num z a) := by
  have h := dec_part a
  cases z
  · simpa [num] using h
  · refine ⟨by simp [num], fun y hy => ?_⟩
    have : y = 48 ∨ y ∈ Lib.decDigits a := by simpa [num] using hy
    rcases this with rfl | h2
    · decide
    · exact h.2 y h2
theorem dB_noX {w : Bs} (h : okPart dB w) : isXb w = false := by
  obtain ⟨h1, h2⟩ := h
  match w, h1 with
  | [y], _ =>
    have h3 := (dB_not y (h2 y (by simp)))
    simp [isXb, h3.1, h3.2.1, h3.2.2.1]
  | x :: y :: l, _ => simp [isXb]
theorem num_noX (z : Bool) (a : Nat) : isXb (num z a) = false := dB_noX (num_part z a)
theorem num_parse (z : Bool) (a : Nat) (ha : a < 18446744073709551616) : Lib.parseUintB 64 (num z a) = .ok a := by
  cases z
  · exact parse_dec64 a ha
  · exact parse_zero a ha
theorem num_len (z : Bool) (a : Nat) (ha : a < 18446744073709551616) : (num z a).length ≤ 21 := by
  have := nDigits_le a ha
  cases z <;> simp [num] <;> omega
theorem wild_X {w : Bs} (h : wildB w) : isXb w = true ∧ okPart pB w ∧ w.length = 1 := by
  rcases h with rfl | rfl | rfl
  · exact ⟨by decide, ⟨by simp, by decide⟩, rfl⟩
  · exact ⟨by decide, ⟨by simp, by decide⟩, rfl⟩
  · exact ⟨by decide, ⟨by simp, by decide⟩, rfl⟩
theorem gpre_pgrp (p : Bs) : gpre (pgrp p) = p := by
  unfold pgrp
  split
  · rename_i h; subst h; rfl
  · obtain ⟨x, r, e1, e2⟩ := idents_join p.length p (Nat.le_refl _)
    rw [e1]
    exact e2.symm
theorem okGrp_pgrp {p : Bs} (h : p = [] ∨ PreOk p) : okGrp iB (pgrp p) := by
  unfold pgrp
  split
  · trivial
  · rcases h with h | h
    · contradiction
    · obtain ⟨x, r, e1, e2, e3⟩ := h.grp
      rw [e1]; exact e3
theorem okGrp_mgrp (m : Bool) : okGrp iB (mgrp m) := by
  cases m
  · trivial
  · refine ⟨⟨by simp, by decide⟩, fun y hy => ?_⟩
    have : y = [48, 49] := by simpa using hy
    subst this
    exact ⟨by simp, by decide⟩
theorem part_pB {w : Bs} (h : okPart dB w) : okPart pB w := ⟨h.1, fun y hy => dB_pB y (h.2 y hy)⟩
theorem GT.Ok.ver {t : GT} (h : t.Ok) : t.ver.Ok pB iB := by
  unfold GT.ver
  split
  · rename_i hg
    exact ⟨(wild_X h.w1).2.1, fun y hy => (wild_X (h.w2 y hy)).2.1, fun y hy => ⟨(wild_X (h.w3 y hy)).2.1, fun e => by have := h.w23 (by omega) e; simp only at hy; rw [this] at hy; cases hy⟩, trivial, trivial⟩
  · rename_i hg
    exact ⟨part_pB (num_part _ _), fun y hy => (wild_X (h.w2 y hy)).2.1, fun y hy => ⟨(wild_X (h.w3 y hy)).2.1, fun e => by have := h.w23 (by omega) e; simp only at hy; rw [this] at hy; cases hy⟩, trivial, trivial⟩
  · refine ⟨part_pB (num_part _ _), fun y hy => ?_, fun y hy => ⟨(wild_X (h.w3 y hy)).2.1, by simp⟩, trivial, trivial⟩
    obtain rfl : num t.z2 t.b = y := by simpa using hy
    exact part_pB (num_part _ _)
  · refine ⟨part_pB (num_part _ _), fun y hy => ?_, fun y hy => ⟨?_, by simp⟩, okGrp_pgrp h.pre, okGrp_mgrp _⟩
    · obtain rfl : num t.z2 t.b = y := by simpa using hy
      exact part_pB (num_part _ _)
    · obtain rfl : num t.z3 t.c = y := by simpa using hy
      exact part_pB (num_part _ _)
theorem GT.Ok.tm {t : GT} (h : t.Ok) : t.tm.Ok := ⟨h.op, h.blank, h.ver⟩
theorem gtext_len (y : UInt8) (g : Option (Bs × List Bs)) : (gtext y g).length ≤ (gpre g).length + 1 := by
  cases g with
  | none => simp [gtext]
  | some x => obtain ⟨x, l⟩ := x; simp [gtext, gpre]
theorem GT.Ok.len {t : GT} (h : t.Ok) : t.ver.text.length ≤ 140 := by
  have h1 := num_len t.z1 t.a h.a
  have h2 := num_len t.z2 t.b h.b
  have h3 := num_len t.z3 t.c h.c
  have hv : (if t.v then [118] else [] : Bs).length ≤ 1 := by split <;> simp
  have hw1 := (wild_X h.w1).2.2
  have hw2 : (ptext t.w2).length ≤ 2 := by
    cases e : t.w2 with
    | none => simp [ptext]
    | some y => have := (wild_X (h.w2 y e)).2.2; simp [ptext]; omega
  have hw3 : (ptext t.w3).length ≤ 2 := by
    cases e : t.w3 with
    | none => simp [ptext]
    | some y => have := (wild_X (h.w3 y e)).2.2; simp [ptext]; omega
  have hp := gtext_len 45 (pgrp t.pre)
  rw [gpre_pgrp] at hp
  have hpl := h.pl
  have hm : (gtext 43 (mgrp t.mt)).length ≤ 6 := by cases t.mt <;> simp [mgrp, gtext, dots]
  unfold GT.ver
  split <;> simp only [Ver.text, List.length_append, ptext, gtext, List.length_cons, List.length_nil] at * <;> omega
end Go.Proofs.YtkdecbloihoanaaGreatDoor.Sv
end
