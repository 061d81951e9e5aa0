/- a part of the proof: FnSemverBroken: for every list of lists of terms, every style and every byte the law's function returns true and leaves its arguments as they were. No condition is added: the statement is the given one, the tied card. -/
import Derived.Test.YthejepmnnpmdmaaGreatDoorNH
import Derived.Test.YthejepmnnpmdmaaGreatDoorNC
import Derived.Laws.IdiomStrings
import Derived.Lib.ItoaMem
import Derived.Test.YthejepmnnpmdmaaGreatDoorNG
section
set_option linter.unusedVariables false
set_option linter.unusedSimpArgs false
/- lists of terms in memory; the guards of size; good terms -/
namespace Go.Proofs.YthejepmnnpmdmaaGreatDoor.Sv
open Go Go.RowKit Rx
set_option maxRecDepth 100000
/-- a term's cells -/
def TermAt (W : World) (B o : Nat) (t : TV) : Prop := W.cell? ⟨B, o, none⟩ = some (.int .i64 t.op) ∧ W.cell? ⟨B, o + 1, none⟩ = some (.int .i64 t.g) ∧ W.cell? ⟨B, o + 2, none⟩ = some (.int .u64 t.a) ∧ W.cell? ⟨B, o + 3, none⟩ = some (.int .u64 t.b) ∧ W.cell? ⟨B, o + 4, none⟩ = some (.int .u64 t.c) ∧ W.cell? ⟨B, o + 5, none⟩ = some (.string (bytesOf t.pre))
theorem TermAt.keep {W W' : World} {B o n : Nat} {t : TV} (h : TermAt W B o t) (hB : B < n) (hb : Below n W W') : TermAt W' B o t := by
  have k : ∀ o x, W.cell? ⟨B, o, none⟩ = some x → W'.cell? ⟨B, o, none⟩ = some x := fun o x hx => (hb.cell (p := ⟨B, o, none⟩) hB).trans hx
  exact ⟨k _ _ h.1, k _ _ h.2.1, k _ _ h.2.2.1, k _ _ h.2.2.2.1, k _ _ h.2.2.2.2.1, k _ _ h.2.2.2.2.2⟩
/-- a list of terms that comes as an argument, in blocks below n -/
def RowIn (n : Nat) (W : World) (v : Value) (ts : List TV) : Prop := ∃ a cap, v = .slice a ts.length cap ∧ ∀ i t, ts[i]? = some t → ∃ B off, a = some ⟨B, off, none⟩ ∧ B < n ∧ TermAt W B (off + i * 6) t
theorem RowIn.keep {n : Nat} {W W' : World} {v : Value} {ts : List TV} (h : RowIn n W v ts) (hb : Below n W W') : RowIn n W' v ts := by
  obtain ⟨a, cap, e, h⟩ := h
  refine ⟨a, cap, e, fun i t ht => ?_⟩
  obtain ⟨B, off, e2, h1, h2⟩ := h i t ht
  exact ⟨B, off, e2, h1, h2.keep h1 hb⟩
theorem m13 (t : TV) (w : World) : Calls Tryz.prog 18 #[t.val] w fun e w' => OkB e (t.pre.length ≤ 2147483647) ∧ Below w.heap.size w w' := by
  obtain ⟨op, g, a, b, c, pre⟩ := t
  unfold TV.val
  have hsz := bytesOf_size pre
  have H0 := Lib.hid ((Below.refl _ w).alloc (Nat.le_refl _) (.cells #[.int .i64 op, .int .i64 g, .int .u64 a, .int .u64 b, .int .u64 c, .string (bytesOf pre)] 36))
  by_cases hr : (2147483647 : Int) < (pre.length : Int)
  · go_enter Tryz.func18, Tryz.ntmps18
    go_wp2
    go_ret
    exact ⟨⟨_, rfl, fun h => by cases h⟩, H0.out⟩
  · go_enter Tryz.func18, Tryz.ntmps18
    go_wp2
    go_ret
    exact ⟨⟨_, rfl, fun h => by omega⟩, H0.out⟩
set_option maxHeartbeats 4000000 in
theorem m8 (v : Value) (ts : List TV) (n : Nat) (w : World) (hnw : n ≤ w.heap.size) (h : RowIn n w v ts) : Calls Tryz.prog 11 #[v] w fun e w' => OkB e (ts.length ≤ 2147483647 ∧ ∀ t ∈ ts, t.pre.length ≤ 2147483647) ∧ Below w.heap.size w w' := by
  have H13 := Lib.hid m13
  obtain ⟨a, cap, rfl, hc⟩ := h
  have HC := Lib.hid (And.intro hc hnw)
  clear hc hnw
  by_cases hbig : (2147483647 : Int) < (ts.length : Int)
  · go_enter Tryz.func11, Tryz.ntmps11
    go_wp2
    go_ret
    exact ⟨⟨_, rfl, fun h => by cases h⟩, Below.refl _ _⟩
  · go_enter Tryz.func11, Tryz.ntmps11
    go_wp2
    go_loopw [10] (fun kv W => ∃ k : Nat, kv = .int .i64 k ∧ k ≤ ts.length ∧ Hid (Below w.heap.size w W ∧ ∀ j (h : j < ts.length), j < k → (ts[j]'h).pre.length ≤ 2147483647)) (fun kv _ => 3000000000 - (intOf kv).toNat)
    case atStart => exact ⟨0, rfl, Nat.zero_le _, Lib.hid ⟨Below.refl _ _, fun j h h' => by omega⟩⟩
    case round =>
      obtain ⟨k, rfl, hk, HW⟩ := hrel
      by_cases c : k < ts.length
      · have c1 : (k : Int) < (ts.length : Int) := by omega
        obtain ⟨t, ht⟩ : ∃ t, ts[k]'c = t := ⟨_, rfl⟩
        obtain ⟨B, off, rfl, hB, hq⟩ := HC.out.1 k t (by rw [List.getElem?_eq_getElem c, ht])
        obtain ⟨q0, q1, q2, q3, q4, q5⟩ := hq.keep (Nat.lt_of_lt_of_le hB HC.out.2) HW.out.1
        have H := Lib.hid (fun w => H13.out t w)
        unfold TV.val at H
        have HT := Lib.hid ht
        clear ht hq
        obtain ⟨op, g, a, b, cc, pre⟩ := t
        simp only at *
        go_wp2_with (go_at_call 18; refine (H.out _).mono ?_; rintro e w2 ⟨⟨r, rfl, hr⟩, hb⟩; have HB := Lib.hid (And.intro hr (((HW.out.1.alloc HW.out.1.size _)).trans (hb.mono (by have := HW.out.1.size; simp; omega)))); clear hr hb)
        all_goals first
          | (go_ret; exact ⟨⟨_, rfl, fun h => by cases h⟩, HB.out.2⟩)
          | skip
        refine ⟨⟨k + 1, rfl, by omega, Lib.hid ⟨HB.out.2, fun j h h' => ?_⟩⟩, by simp [intOf]; omega⟩
        by_cases hj : j = k
        · subst hj; rw [HT.out]; exact HB.out.1 (by simp_all)
        · exact HW.out.2 j h (by omega)
      · have c1 : ¬ (k : Int) < (ts.length : Int) := by omega
        go_wp2
        go_ret
        refine ⟨⟨_, rfl, fun _ => ⟨by omega, fun t ht => ?_⟩⟩, HW.out.1⟩
        obtain ⟨j, hj, rfl⟩ := List.getElem_of_mem ht
        exact HW.out.2 j hj (by omega)
/-- lists of lists of terms that come as an argument -/
def ConIn (n : Nat) (W : World) (v : Value) (C : List (List TV)) : Prop := ∃ a cap, v = .slice a C.length cap ∧ ∀ i r, C[i]? = some r → ∃ B off u, a = some ⟨B, off, none⟩ ∧ B < n ∧ W.cell? ⟨B, off + i, none⟩ = some u ∧ RowIn n W u r
theorem ConIn.keep {n : Nat} {W W' : World} {v : Value} {C : List (List TV)} (h : ConIn n W v C) (hb : Below n W W') : ConIn n W' v C := by
  obtain ⟨a, cap, e, h⟩ := h
  refine ⟨a, cap, e, fun i t ht => ?_⟩
  obtain ⟨B, off, u, e2, h1, h2, h3⟩ := h i t ht
  exact ⟨B, off, u, e2, h1, (hb.cell (p := ⟨B, off + i, none⟩) h1).trans h2, h3.keep hb⟩
def ShortC (C : List (List TV)) : Prop := C.length ≤ 2147483647 ∧ ∀ r ∈ C, r.length ≤ 2147483647 ∧ ∀ t ∈ r, t.pre.length ≤ 2147483647
set_option maxHeartbeats 4000000 in
theorem m4 (v : Value) (C : List (List TV)) (n : Nat) (w : World) (hnw : n ≤ w.heap.size) (h : ConIn n w v C) : Calls Tryz.prog 4 #[v] w fun e w' => OkB e (ShortC C) ∧ Below w.heap.size w w' := by
  have H8 := Lib.hid m8
  obtain ⟨a, cap, rfl, hc⟩ := h
  have HC := Lib.hid (And.intro hc hnw)
  clear hc hnw
  by_cases hbig : (2147483647 : Int) < (C.length : Int)
  · go_enter Tryz.func4, Tryz.ntmps4
    go_wp2
    go_ret
    exact ⟨⟨_, rfl, fun h => by cases h⟩, Below.refl _ _⟩
  · go_enter Tryz.func4, Tryz.ntmps4
    go_wp2
    go_loopw [10] (fun kv W => ∃ k : Nat, kv = .int .i64 k ∧ k ≤ C.length ∧ Hid (Below w.heap.size w W ∧ ∀ j (h : j < C.length), j < k → (C[j]'h).length ≤ 2147483647 ∧ ∀ t ∈ C[j]'h, t.pre.length ≤ 2147483647)) (fun kv _ => 3000000000 - (intOf kv).toNat)
    case atStart => exact ⟨0, rfl, Nat.zero_le _, Lib.hid ⟨Below.refl _ _, fun j h h' => by omega⟩⟩
    case round =>
      obtain ⟨k, rfl, hk, HW⟩ := hrel
      by_cases c : k < C.length
      · have c1 : (k : Int) < (C.length : Int) := by omega
        obtain ⟨t, ht⟩ : ∃ t, C[k]'c = t := ⟨_, rfl⟩
        obtain ⟨B, off, u, rfl, hB, hq, hr⟩ := HC.out.1 k t (by rw [List.getElem?_eq_getElem c, ht])
        have hbn : Below n w wr := HW.out.1.mono HC.out.2
        have q0 : wr.cell? ⟨B, off + k, none⟩ = some u := (hbn.cell (p := ⟨B, off + k, none⟩) hB).trans hq
        have hsz : n ≤ wr.heap.size := Nat.le_trans HC.out.2 HW.out.1.size
        have H := Lib.hid (H8.out u t n wr hsz (hr.keep hbn))
        have HT := Lib.hid (And.intro ht hr)
        obtain ⟨ua, uc, hu, -⟩ := hr
        subst hu
        clear ht hq hbn hsz
        go_wp2_with (go_at_call 11; refine H.out.mono ?_; rintro e w2 ⟨⟨r, rfl, hr⟩, hb⟩; have HB := Lib.hid (And.intro hr (HW.out.1.trans (hb.mono HW.out.1.size))); clear hr hb)
        all_goals first
          | (go_ret; exact ⟨⟨_, rfl, fun h => by cases h⟩, HB.out.2⟩)
          | skip
        refine ⟨⟨k + 1, rfl, by omega, Lib.hid ⟨HB.out.2, fun j h h' => ?_⟩⟩, by simp [intOf]; omega⟩
        by_cases hj : j = k
        · subst hj; rw [HT.out.1]; exact HB.out.1 (by simp_all)
        · exact HW.out.2 j h (by omega)
      · have c1 : ¬ (k : Int) < (C.length : Int) := by omega
        go_wp2
        go_ret
        refine ⟨⟨_, rfl, fun _ => ⟨by omega, fun t ht => ?_⟩⟩, HW.out.1⟩
        obtain ⟨j, hj, rfl⟩ := List.getElem_of_mem ht
        exact HW.out.2 j hj (by omega)
end Go.Proofs.YthejepmnnpmdmaaGreatDoor.Sv
end
section
set_option linter.unusedVariables false
set_option linter.unusedSimpArgs false
/- good lists of terms -/
namespace Go.Proofs.YthejepmnnpmdmaaGreatDoor.Sv
open Go Go.RowKit Rx
set_option maxRecDepth 100000
def sumL (C : List (List TV)) : Nat := (C.map List.length).sum
structure GoodC (most : Nat) (C : List (List TV)) : Prop where
  pos : C ≠ []
  sum : sumL C ≤ most
  row : ∀ r ∈ C, r ≠ [] ∧ ∀ t ∈ r, t.Good
theorem sumL_take {C : List (List TV)} {k : Nat} (h : k < C.length) : sumL (C.take (k + 1)) = sumL (C.take k) + (C[k]'h).length := by
  unfold sumL
  rw [List.take_succ_eq_append_getElem h]
  simp only [List.map_append, List.sum_append, List.map_cons, List.map_nil, List.sum_cons, List.sum_nil, Nat.add_zero]
set_option maxHeartbeats 8000000 in
theorem m5 (most : Nat) (hmo : most ≤ 1000) (v : Value) (C : List (List TV)) (n : Nat) (w : World) (hnw : n ≤ w.heap.size) (h : ConIn n w v C) (hS : ShortC C) : Calls Tryz.prog 12 #[v, .int .i64 most] w fun e w' => OkB e (GoodC most C) ∧ Below w.heap.size w w' := by
  have H9 := Lib.hid m9
  obtain ⟨a, cap, rfl, hc⟩ := h
  have HC := Lib.hid (And.intro hc hnw)
  have HS := Lib.hid hS
  have hcl : (C.length : Int) ≤ 2147483647 := by have := hS.1; omega
  have hmi : (most : Int) ≤ 1000 := by omega
  clear hc hnw hS
  go_enter Tryz.func12, Tryz.ntmps12
  go_wp2
  go_loopw [5, 12] (fun nv kv W => ∃ k m : Nat, kv = .int .i64 k ∧ nv = .int .i64 m ∧ k ≤ C.length ∧ m ≤ most ∧ Hid (Below w.heap.size w W ∧ m = sumL (C.take k) ∧ (0 < k → 0 < m) ∧ ∀ j (h : j < C.length), j < k → C[j]'h ≠ [] ∧ ∀ t ∈ C[j]'h, t.Good)) (fun _ kv _ => 3000000000 - (intOf kv).toNat)
  case atStart => exact ⟨0, 0, rfl, rfl, Nat.zero_le _, Nat.zero_le _, Lib.hid ⟨Below.refl _ _, by simp [sumL], fun h => by omega, fun j h h' => by omega⟩⟩
  case round =>
    obtain ⟨k, m, rfl, rfl, hk, hm, HW⟩ := hrel
    by_cases c : k < C.length
    · have c1 : (k : Int) < (C.length : Int) := by omega
      obtain ⟨r, hr⟩ : ∃ r, C[k]'c = r := ⟨_, rfl⟩
      obtain ⟨B, off, u, rfl, hB, hq, hrow⟩ := HC.out.1 k r (by rw [List.getElem?_eq_getElem c, hr])
      have hbn : Below n w wr := HW.out.1.mono HC.out.2
      have q0 : wr.cell? ⟨B, off + k, none⟩ = some u := (hbn.cell (p := ⟨B, off + k, none⟩) hB).trans hq
      obtain ⟨ua, uc, hu, hcells⟩ := hrow
      subst hu
      have hsh := HS.out.2 r (by rw [← hr]; exact List.getElem_mem c)
      have hrl : (r.length : Int) ≤ 2147483647 := by have := hsh.1; omega
      have HR := Lib.hid (And.intro hr (And.intro hcells hsh))
      clear hr hq hbn hcells hsh
      go_upto_region 5 with fail
      go_wp2
      go_loopw [18] (fun iv W => ∃ i : Nat, iv = .int .i64 i ∧ i ≤ r.length ∧ Hid (Below w.heap.size w W ∧ ∀ j (h : j < r.length), j < i → (r[j]'h).Good)) (fun iv _ => 3000000000 - (intOf iv).toNat)
      case atStart => exact ⟨0, rfl, Nat.zero_le _, Lib.hid ⟨HW.out.1, fun j h h' => by omega⟩⟩
      case round =>
        obtain ⟨i, rfl, hi, HI⟩ := hrel
        by_cases d : i < r.length
        · have d1 : (i : Int) < (r.length : Int) := by omega
          obtain ⟨t, ht⟩ : ∃ t, r[i]'d = t := ⟨_, rfl⟩
          obtain ⟨B2, o2, rfl, hB2, hq2⟩ := HR.out.2.1 i t (by rw [List.getElem?_eq_getElem d, ht])
          obtain ⟨q0, q1, q2, q3, q4, q5⟩ := hq2.keep (Nat.lt_of_lt_of_le hB2 HC.out.2) HI.out.1
          have H := Lib.hid (fun w => H9.out t (HR.out.2.2.2 t (by rw [← ht]; exact List.getElem_mem d)) w)
          unfold TV.val at H
          have HT := Lib.hid ht
          clear ht hq2
          obtain ⟨op, g, a, b, cc, pre⟩ := t
          simp only at *
          go_wp2_with (go_at_call 19; refine (H.out _).mono ?_; rintro e w2 ⟨⟨r9, rfl, hr9⟩, hb⟩; have HB := Lib.hid (And.intro hr9 (((HI.out.1.alloc HI.out.1.size _)).trans (hb.mono (by have := HI.out.1.size; simp; omega)))); clear hr9 hb)
          all_goals first
            | (go_ret; exact ⟨⟨_, rfl, fun h => by cases h⟩, HB.out.2⟩)
            | skip
          refine ⟨⟨i + 1, rfl, by omega, Lib.hid ⟨HB.out.2, fun j h h' => ?_⟩⟩, by simp [intOf]; omega⟩
          by_cases hj : j = i
          · subst hj; rw [HT.out]; exact HB.out.1 (by simp_all)
          · exact HI.out.2 j h (by omega)
        · have d1 : ¬ (i : Int) < (r.length : Int) := by omega
          have hgood : ∀ t ∈ r, t.Good := fun t ht => by
            obtain ⟨j, hj, rfl⟩ := List.getElem_of_mem ht
            exact HI.out.2 j hj (by omega)
          have HG := Lib.hid hgood
          clear hgood
          by_cases e0 : r.length = 0
          · have e0' : ((r.length : Int) == 0) = true := by rw [beq_iff_eq]; omega
            clear e0
            go_wp2
            all_goals first
              | (go_ret; exact ⟨⟨_, rfl, fun h => by cases h⟩, HI.out.1⟩)
          · have e0' : ((r.length : Int) == 0) = false := by rw [beq_eq_false_iff_ne]; omega
            have E0 := Lib.hid e0
            clear e0
            by_cases e1 : m + r.length ≤ most
            · have e1' : ¬ (most : Int) < (m : Int) + (r.length : Int) := by omega
              go_wp2
              refine ⟨⟨k + 1, m + r.length, rfl, by simp, by omega, e1, Lib.hid ⟨HI.out.1, ?_, fun _ => by have := E0.out; omega, fun j h h' => ?_⟩⟩, by simp [intOf]; omega⟩
              · rw [sumL_take c, HR.out.1, HW.out.2.1]
              · by_cases hj : j = k
                · subst hj
                  rw [HR.out.1]
                  exact ⟨fun e => E0.out (by rw [e]; rfl), HG.out⟩
                · exact HW.out.2.2.2 j h (by omega)
            · have e1' : (most : Int) < (m : Int) + (r.length : Int) := by omega
              go_wp2
              go_ret
              exact ⟨⟨_, rfl, fun h => by cases h⟩, HI.out.1⟩
    · have c1 : ¬ (k : Int) < (C.length : Int) := by omega
      have hk2 : k = C.length := by omega
      have HK := Lib.hid hk2
      clear hk2
      go_wp2
      go_ret
      refine ⟨⟨_, rfl, fun h => ?_⟩, HW.out.1⟩
      have h0 : 0 < m := by simp at h; omega
      obtain ⟨h1, h2, h3, h4⟩ := HW.out
      have h5 := HK.out
      refine ⟨fun e => ?_, ?_, fun x hx => ?_⟩
      · subst e
        simp [sumL] at h2
        omega
      · rw [h5, List.take_length] at h2
        omega
      · obtain ⟨j, hj, rfl⟩ := List.getElem_of_mem hx
        exact h4 j hj (by omega)
end Go.Proofs.YthejepmnnpmdmaaGreatDoor.Sv
end
section
set_option linter.unusedVariables false
set_option linter.unusedSimpArgs false
/- the writer's choices; an operator's spellings -/
namespace Go.Proofs.YthejepmnnpmdmaaGreatDoor.Sv
open Go Go.RowKit Rx
set_option maxRecDepth 100000
theorem m16 (x : Int) (w : World) : Calls Tryz.prog 20 #[.int .u64 x] w fun e w' => e = .returned (.pointer (some ⟨w.heap.size, 0, none⟩)) ∧ w' = w.alloc (.cells #[.int .u64 x] 74) := by
  go_enter Tryz.func20, Tryz.ntmps20
  go_wp2
  go_ret
  exact ⟨rfl, rfl⟩
theorem m17 (S : Nat) (x : Int) (n : Nat) (hn : 0 < n) (hn8 : n ≤ 8) (w : World) (hS : w.heap[S]? = some (.cells #[.int .u64 x] 74 (0, 0))) :
    Calls Tryz.prog 21 #[.pointer (some ⟨S, 0, none⟩), .int .i64 n] w fun e w' => ∃ (r : Nat) (y : Int), e = .returned (.int .i64 r) ∧ r < n ∧ w' = w.setCell ⟨S, 0, none⟩ (.int .u64 y) := by
  have q0 := cell_of_row _ _ 0 _ _ _ hS
  have fz := fun k => frozen_of_row _ _ k _ _ hS
  simp at q0
  go_enter Tryz.func21, Tryz.ntmps21
  go_wp2
  have hY : ∀ z : Int, 0 ≤ IntKind.u64.wrap z ∧ IntKind.u64.wrap z < 18446744073709551616 := fun z => by
    have e : IntKind.u64.bits = 64 := rfl
    unfold IntKind.wrap; simp [e, IntKind.signed]; omega
  have hy := hY (IntKind.u64.wrap (x * 6364136223846793005) + 1442695040888963407)
  generalize IntKind.u64.wrap (IntKind.u64.wrap (x * 6364136223846793005) + 1442695040888963407) = Y at *
  have hq : 0 ≤ Y / 2305843009213693952 ∧ Y / 2305843009213693952 < 8 := by omega
  generalize Y / 2305843009213693952 = q at *
  have hw : wrap64 q = q := by unfold wrap64; omega
  rw [hw]
  have ht : q.tmod (n : Int) = q % (n : Int) := Int.tmod_eq_emod_of_nonneg hq.1
  have h1 := Int.emod_nonneg q (show (n : Int) ≠ 0 by omega)
  have h2 := Int.emod_lt_of_pos q (show (0 : Int) < n by omega)
  obtain ⟨r, hr⟩ : ∃ r : Nat, q % (n : Int) = r := ⟨(q % (n : Int)).toNat, by omega⟩
  rw [ht, hr]
  go_ret
  exact ⟨r, Y, rfl, by omega, rfl⟩
/-- an operator's spellings -/
def spell (op : Int) : List Bs := if op = 0 then [[], [61]] else if op = 1 then [[33, 61]] else if op = 2 then [[62]] else if op = 3 then [[60]] else if op = 4 then [[62, 61], [61, 62]] else if op = 5 then [[60, 61], [61, 60]] else if op = 6 then [[126], [126, 62]] else [[94]]
theorem m50 (op : Int) (h0 : 0 ≤ op) (h8 : op < 8) (w : World) : Calls Tryz.prog 16 #[.int .i64 op] w fun e w' => e = .returned (.slice (some ⟨w.heap.size, 0, none⟩) (spell op).length (spell op).length) ∧ w' = w.alloc (.cells ((spell op).map fun s => Value.string (bytesOf s)).toArray 9) := by
  have h : op = 0 ∨ op = 1 ∨ op = 2 ∨ op = 3 ∨ op = 4 ∨ op = 5 ∨ op = 6 ∨ op = 7 := by omega
  rcases h with rfl | rfl | rfl | rfl | rfl | rfl | rfl | rfl
  all_goals go_enter Tryz.func16, Tryz.ntmps16
  all_goals go_wp2
  all_goals go_ret
  all_goals exact ⟨rfl, rfl⟩
theorem spell_ok {op : Int} {s : Bs} (h : s ∈ spell op) : s ∈ opTexts := by
  unfold spell at h
  split at h
  · simp at h; rcases h with rfl | rfl <;> simp [opTexts]
  split at h
  · simp at h; subst h; simp [opTexts]
  split at h
  · simp at h; subst h; simp [opTexts]
  split at h
  · simp at h; subst h; simp [opTexts]
  split at h
  · simp at h; rcases h with rfl | rfl <;> simp [opTexts]
  split at h
  · simp at h; rcases h with rfl | rfl <;> simp [opTexts]
  split at h
  · simp at h; rcases h with rfl | rfl <;> simp [opTexts]
  · simp at h; subst h; simp [opTexts]
end Go.Proofs.YthejepmnnpmdmaaGreatDoor.Sv
end
section
set_option linter.unusedVariables false
set_option linter.unusedSimpArgs false
/- numbers in decimal -/
namespace Go.Proofs.YthejepmnnpmdmaaGreatDoor.Sv
open Go Go.RowKit Rx
set_option maxRecDepth 100000
def bOf (b : List UInt8) : ByteArray := ⟨b.toArray⟩
theorem bOf_app (x y : List UInt8) : bOf x ++ bOf y = bOf (x ++ y) := by
  apply ByteArray.ext
  simp [bOf]
theorem bOf_size (x : List UInt8) : (bOf x).size = x.length := by simp [bOf, ByteArray.size]
theorem conv1 (c : Nat) (hc : c < 256) (W : World) (N : Nat) (h : W.cell? ⟨N, 0, none⟩ = some (.int .u8 (c : Int))) : (convert 27 9 (.slice (some ⟨N, 0, none⟩) 1 1)).run Tryz.prog W = .ok (.string (bOf [UInt8.ofNat c])) W := by
  have hu : (UInt8.ofNat c).toNat = c := by simp; omega
  refine run_convert_bytes_back (P := Tryz.prog) W 27 9 5 ⟨N, 0, none⟩ 1 [UInt8.ofNat c] Tryz.underlying27 Tryz.underlying5 Tryz.underlying9 (fun j hj => ?_)
  have : j = 0 := by simp at hj; exact hj
  subst this
  simp only [List.getElem_cons_zero, hu]
  exact h
theorem dec_len (u : Nat) (hu : u < 18446744073709551616) : (Lib.decDigits u).length ≤ 20 := by
  rw [Lib.decDigits_length]
  by_cases h : u = 0
  · subst h; rw [Lib.nDigits]; decide
  · have := Lib.numDigits_eq u (by omega) hu; split at this <;> omega
set_option maxHeartbeats 1000000 in
theorem jDec : ∀ (n u : Nat), u ≤ n → u < 18446744073709551616 → ∀ w : World, Calls Tryz.prog 32 #[.int .u64 u] w fun e w' => e = .returned (.string (bOf (Lib.decDigits u))) ∧ Below w.heap.size w w' := by
  have small : ∀ u : Nat, u < 10 → ∀ w : World, Calls Tryz.prog 32 #[.int .u64 u] w fun e w' => e = .returned (.string (bOf (Lib.decDigits u))) ∧ Below w.heap.size w w' := by
    intro u h w
    have k1 : (u : Int) < 10 := by omega
    obtain ⟨c, hc⟩ : ∃ c, c = 48 + u := ⟨_, rfl⟩
    have hcv := conv1 c (by omega) (w.alloc (.cells #[.int .u8 (c : Int)] 5)) w.heap.size (by rw [cell_of_row _ _ _ _ _ _ (heap_alloc_new w _)]; simp)
    have hs : (48 + (u : Int)) = (c : Int) := by omega
    have hd : Lib.decDigits u = [UInt8.ofNat c] := by rw [hc]; exact Lib.decDigits_one h
    rw [hd]
    clear hd h hc
    go_enter Tryz.func32, Tryz.ntmps32
    go_wp2
    go_ret
    exact ⟨rfl, (Below.refl _ w).alloc (Nat.le_refl _) _⟩
  intro n
  induction n with
  | zero => intro u hn hu w; exact small u (by omega) w
  | succ n ih =>
    intro u hn hu w
    by_cases h : u < 10
    · exact small u h w
    · have k1 : ¬ (u : Int) < 10 := by omega
      have H := Lib.hid (ih (u / 10) (by omega) (by omega))
      have hl := dec_len (u / 10) (by omega)
      have z1 : (bOf (Lib.decDigits (u / 10))).size < 100 := by rw [bOf_size]; omega
      have hd : Lib.decDigits u = Lib.decDigits (u / 10) ++ [UInt8.ofNat (48 + u % 10)] := by conv => lhs; rw [Lib.decDigits, dif_neg h]
      rw [hd, ← bOf_app]
      generalize Lib.decDigits (u / 10) = D at *
      obtain ⟨d, hd0⟩ : ∃ d, d = u % 10 := ⟨_, rfl⟩
      have hd1 : d < 10 := by omega
      have t1 : (u : Int).tdiv 10 = ((u / 10 : Nat) : Int) := by rw [Int.tdiv_eq_ediv_of_nonneg (by omega)]; omega
      have t2 : (u : Int).tmod 10 = (d : Int) := by rw [Int.tmod_eq_emod_of_nonneg (by omega)]; omega
      rw [← hd0]
      have t3 : IntKind.u8.wrap (d : Int) = (d : Int) := by
        have e : IntKind.u8.bits = 8 := rfl
        unfold IntKind.wrap; simp [e, IntKind.signed]; omega
      have t4 : IntKind.u8.wrap (48 + (d : Int)) = ((48 + d : Nat) : Int) := by
        have e : IntKind.u8.bits = 8 := rfl
        unfold IntKind.wrap; simp [e, IntKind.signed]; omega
      obtain ⟨c, hc⟩ : ∃ c, c = 48 + d := ⟨_, rfl⟩
      rw [← hc] at t4 ⊢
      have hcv := conv1 c (by omega)
      have z2 : (bOf [UInt8.ofNat c]).size < 100 := by rw [bOf_size]; simp
      have t5 : IntKind.u64.wrap ((u / 10 : Nat) : Int) = ((u / 10 : Nat) : Int) := by
        have e : IntKind.u64.bits = 64 := rfl
        unfold IntKind.wrap; simp [e, IntKind.signed]; omega
      obtain ⟨q, hq⟩ : ∃ q, q = u / 10 := ⟨_, rfl⟩
      rw [← hq] at t1 t5 H
      clear hd hl hd0 hd1 hc ih small hq hn hu h
      go_enter Tryz.func32, Tryz.ntmps32
      go_upto_region 3 with fail
      go_region_with (go_at_call 32; refine (H.out _).mono ?_; rintro e w1 ⟨rfl, hb⟩; obtain ⟨hcc, hff⟩ := bcell hb)
      all_goals go_wp2
      all_goals go_ret
      all_goals refine ⟨rfl, ?_⟩
      all_goals first
        | exact ((Below.refl w.heap.size w).drew.trans hb).alloc hb.size _
        | exact (((Below.refl _ w).drew).alloc (Nat.le_refl _) _).trans (hb.mono (by simp))
end Go.Proofs.YthejepmnnpmdmaaGreatDoor.Sv
end
section
set_option linter.unusedVariables false
set_option linter.unusedSimpArgs false
/- a term's version is written: a number, with a zero ahead or not -/
namespace Go.Proofs.YthejepmnnpmdmaaGreatDoor.Sv
open Go Go.RowKit Rx
set_option maxRecDepth 100000
def zb (z : Bool) : Bs := if z then [48] else []
theorem bytes_add (x y : Bs) : bytesOf x ++ bytesOf y = bytesOf (x ++ y) := bOf_app x y
def zrow8 : Obj := .cells #[.string ⟨#[]⟩, .string ⟨#[]⟩, .string ⟨#[]⟩, .string ⟨#[]⟩, .string ⟨#[]⟩, .string ⟨#[]⟩, .string ⟨#[]⟩, .string ⟨#[48]⟩] 9 (0, 0)
/-- what PartialText's variables hold -/
structure PT (w : World) (S N5 T2 : Nat) (t : TV) (W : World) : Prop where
  n5 : W.heap[N5]? = some (.cells #[.int .u64 t.a, .int .u64 t.b, .int .u64 t.c] 23 (0, 0))
  t2 : W.heap[T2]? = some (.cells #[.int .i64 t.op, .int .i64 t.g, .int .u64 t.a, .int .u64 t.b, .int .u64 t.c, .string (bytesOf t.pre)] 36 (0, 0))
  s : ∃ x : Int, W.heap[S]? = some (.cells #[.int .u64 x] 74 (0, 0))
  b : Below S w W
  l : w.heap.size ≤ W.heap.size ∧ S < w.heap.size ∧ w.heap.size ≤ N5 ∧ w.heap.size ≤ T2
theorem PT.keep {w : World} {S N5 T2 : Nat} {t : TV} {W W' : World} (h : PT w S N5 T2 t W) (hb : Below W.heap.size W W') : PT w S N5 T2 t W' := by
  have k : ∀ {j : Nat} {o : Obj}, W.heap[j]? = some o → W'.heap[j]? = some o := fun {j o} h => (hb.block j (Array.getElem?_eq_some_iff.1 h).1).trans h
  obtain ⟨x, hx⟩ := h.s
  exact ⟨k h.n5, k h.t2, ⟨x, k hx⟩, h.b.trans (hb.mono (by have := h.l; omega)), by have := h.l; have := hb.size; omega⟩
theorem PT.put {w : World} {S N5 T2 : Nat} {t : TV} {W : World} (h : PT w S N5 T2 t W) (y : Int) : PT w S N5 T2 t (W.setCell ⟨S, 0, none⟩ (.int .u64 y)) := by
  obtain ⟨x, hx⟩ := h.s
  have hl := h.l
  exact ⟨(heap_setCell_other _ _ _ _ (by show N5 ≠ S; omega)).trans h.n5, (heap_setCell_other _ _ _ _ (by show T2 ≠ S; omega)).trans h.t2, ⟨y, heap_setCell_same _ _ 0 _ _ _ hx⟩, h.b.setCell (p := ⟨S, 0, none⟩) (Nat.le_refl _) _, by simp; exact hl⟩
def ops14 : Array Oper := #[{ dst := some 53, op := Op.move (Operand.tmp 6), type := 9, pos := "constraint.go:183", after := #[], guard := none }, { dst := some 54, op := Op.buildSlice 29 8 #[(0, Operand.const (Value.string { data := #[] })), (1, Operand.const (Value.string { data := #[] })), (2, Operand.const (Value.string { data := #[] })), (3, Operand.const (Value.string { data := #[] })), (4, Operand.const (Value.string { data := #[] })), (5, Operand.const (Value.string { data := #[] })), (6, Operand.const (Value.string { data := #[] })), (7, Operand.const (Value.string { data := #[48] }))], type := 29, pos := "constraint.go:183", after := #[], guard := none }, { dst := some 55, op := Op.move (Operand.tmp 1), type := 48, pos := "constraint.go:183", after := #[], guard := none }, { dst := some 56, op := Op.call { callee := Callee.value (Operand.func 21), args := #[Operand.tmp 55, Operand.const (Value.int IntKind.i64 8)], argTypes := #[48, 3] }, type := 3, pos := "constraint.go:183", after := #[{ on := 2, ground := Ground.data }], guard := none }, { dst := some 57, op := Op.indexAddr 29 (Operand.tmp 54) (Operand.tmp 56), type := 0, pos := "constraint.go:183", after := #[{ on := 1, ground := Ground.data }, { on := 3, ground := Ground.data }], guard := none }, { dst := some 58, op := Op.load 9 (Operand.tmp 57), type := 9, pos := "constraint.go:183", after := #[{ on := 4, ground := Ground.data }], guard := none }, { dst := some 59, op := Op.move (Operand.tmp 5), type := 71, pos := "constraint.go:183", after := #[], guard := none }, { dst := some 60, op := Op.move (Operand.tmp 8), type := 3, pos := "constraint.go:183", after := #[], guard := none }, { dst := some 61, op := Op.indexAddr 71 (Operand.tmp 59) (Operand.tmp 60), type := 0, pos := "constraint.go:183", after := #[{ on := 6, ground := Ground.data }, { on := 7, ground := Ground.data }], guard := none }, { dst := some 62, op := Op.load 23 (Operand.tmp 61), type := 23, pos := "constraint.go:183", after := #[{ on := 8, ground := Ground.data }], guard := none }, { dst := some 63, op := Op.call { callee := Callee.value (Operand.func 32), args := #[Operand.tmp 62], argTypes := #[23] }, type := 9, pos := "constraint.go:183", after := #[{ on := 9, ground := Ground.data }, { on := 3, ground := Ground.chain }], guard := none }, { dst := some 64, op := Op.binOp BinOp.add 9 (Operand.tmp 58) (Operand.tmp 63) 9, type := 9, pos := "constraint.go:183", after := #[{ on := 5, ground := Ground.data }, { on := 10, ground := Ground.data }], guard := none }, { dst := some 65, op := Op.binOp BinOp.add 9 (Operand.tmp 53) (Operand.tmp 64) 9, type := 9, pos := "constraint.go:183", after := #[{ on := 0, ground := Ground.data }, { on := 11, ground := Ground.data }], guard := none }, { dst := some 6, op := Op.assign (Operand.tmp 65), type := 9, pos := "constraint.go:183", after := #[{ on := 12, ground := Ground.data }, { on := 10, ground := Ground.chain }, { on := 0, ground := Ground.phase }, { on := 1, ground := Ground.phase }, { on := 2, ground := Ground.phase }, { on := 3, ground := Ground.phase }, { on := 4, ground := Ground.phase }, { on := 5, ground := Ground.phase }, { on := 6, ground := Ground.phase }, { on := 7, ground := Ground.phase }, { on := 8, ground := Ground.phase }, { on := 9, ground := Ground.phase }, { on := 10, ground := Ground.phase }, { on := 11, ground := Ground.phase }, { on := 12, ground := Ground.phase }], guard := none }]
def fr14 (S N5 i : Nat) (x0 x2 x3 x4 x7 x9 x10 x11 x12 x13 x14 x15 x16 x17 x18 x19 x20 x21 x22 x23 x24 x25 x26 x27 x28 x29 x30 x31 x32 x33 x34 x35 x36 x37 x38 x39 x40 x41 x42 x43 x44 x45 x46 x47 x48 x49 x50 x51 x52 x66 x67 x68 x69 x70 x71 x72 x73 x74 x75 x76 x77 x78 x79 x80 x81 x82 x83 x84 x85 x86 x87 x88 x89 x90 x91 x92 : Value) (s6 s53 s54 s55 s56 s57 s58 s59 s60 s61 s62 s63 s64 s65 : Value) : Act := ⟨(x0 :: .pointer (some ⟨S, 0, none⟩) :: x2 :: x3 :: x4 :: .slice (some ⟨N5, 0, none⟩) 3 3 :: s6 :: x7 :: .int .i64 (i : Nat) :: x9 :: x10 :: x11 :: x12 :: x13 :: x14 :: x15 :: x16 :: x17 :: x18 :: x19 :: x20 :: x21 :: x22 :: x23 :: x24 :: x25 :: x26 :: x27 :: x28 :: x29 :: x30 :: x31 :: x32 :: x33 :: x34 :: x35 :: x36 :: x37 :: x38 :: x39 :: x40 :: x41 :: x42 :: x43 :: x44 :: x45 :: x46 :: x47 :: x48 :: x49 :: x50 :: x51 :: x52 :: s53 :: s54 :: s55 :: s56 :: s57 :: s58 :: s59 :: s60 :: s61 :: s62 :: s63 :: s64 :: s65 :: x66 :: x67 :: x68 :: x69 :: x70 :: x71 :: x72 :: x73 :: x74 :: x75 :: x76 :: x77 :: x78 :: x79 :: x80 :: x81 :: x82 :: x83 :: x84 :: x85 :: x86 :: x87 :: x88 :: x89 :: x90 :: x91 :: x92 :: []).toArray, []⟩
structure I14 (w : World) (S N5 T2 : Nat) (t : TV) (tx : Bs) (i n : Nat) (L : Nat → Prop) (s6 s53 s54 s55 s56 s57 s58 s59 s60 s61 s62 s63 s64 s65 : Value) (W : World) : Prop where
  pt : PT w S N5 T2 t W
  v53 : L 0 → s53 = .string (bytesOf tx)
  v54 : L 1 → ∃ P, s54 = .slice (some ⟨P, 0, none⟩) 8 8 ∧ P ≠ S ∧ W.heap[P]? = some zrow8
  v55 : L 2 → s55 = .pointer (some ⟨S, 0, none⟩)
  v56 : L 3 → ∃ q : Nat, q < 8 ∧ s56 = .int .i64 q
  v57 : L 4 → ∃ (P q : Nat), q < 8 ∧ s57 = .pointer (some ⟨P, q, none⟩) ∧ P ≠ S ∧ W.heap[P]? = some zrow8
  v58 : L 5 → ∃ z : Bool, s58 = .string (bytesOf (zb z))
  v59 : L 6 → s59 = .slice (some ⟨N5, 0, none⟩) 3 3
  v60 : L 7 → s60 = .int .i64 (i : Nat)
  v61 : L 8 → s61 = .pointer (some ⟨N5, i, none⟩)
  v62 : L 9 → s62 = .int .u64 (n : Nat)
  v63 : L 10 → s63 = .string (bytesOf (Lib.decDigits n))
  v64 : L 11 → ∃ z : Bool, s64 = .string (bytesOf (num z n))
  v65 : L 12 → ∃ z : Bool, s65 = .string (bytesOf (tx ++ num z n))
  v6 : L 13 → ∃ z : Bool, s6 = .string (bytesOf (tx ++ num z n))
theorem I14.keep {w : World} {S N5 T2 : Nat} {t : TV} {tx : Bs} {i n : Nat} {L : Nat → Prop} {s6 s53 s54 s55 s56 s57 s58 s59 s60 s61 s62 s63 s64 s65 : Value} {W W' : World} (h : I14 w S N5 T2 t tx i n L s6 s53 s54 s55 s56 s57 s58 s59 s60 s61 s62 s63 s64 s65 W) (hb : Below W.heap.size W W') : I14 w S N5 T2 t tx i n L s6 s53 s54 s55 s56 s57 s58 s59 s60 s61 s62 s63 s64 s65 W' :=
  ⟨h.pt.keep hb, h.v53, (fun x => by obtain ⟨P, e, hn, hp⟩ := h.v54 x; exact ⟨P, e, hn, (hb.block P (Array.getElem?_eq_some_iff.1 hp).1).trans hp⟩), h.v55, h.v56, (fun x => by obtain ⟨P, q, hq, e, hn, hp⟩ := h.v57 x; exact ⟨P, q, hq, e, hn, (hb.block P (Array.getElem?_eq_some_iff.1 hp).1).trans hp⟩), h.v58, h.v59, h.v60, h.v61, h.v62, h.v63, h.v64, h.v65, h.v6⟩
theorem I14.put {w : World} {S N5 T2 : Nat} {t : TV} {tx : Bs} {i n : Nat} {L : Nat → Prop} {s6 s53 s54 s55 s56 s57 s58 s59 s60 s61 s62 s63 s64 s65 : Value} {W : World} (h : I14 w S N5 T2 t tx i n L s6 s53 s54 s55 s56 s57 s58 s59 s60 s61 s62 s63 s64 s65 W) (y : Int) : I14 w S N5 T2 t tx i n L s6 s53 s54 s55 s56 s57 s58 s59 s60 s61 s62 s63 s64 s65 (W.setCell ⟨S, 0, none⟩ (.int .u64 y)) :=
  ⟨h.pt.put y, h.v53, (fun x => by obtain ⟨P, e, hn, hp⟩ := h.v54 x; exact ⟨P, e, hn, (heap_setCell_other _ _ _ _ hn).trans hp⟩), h.v55, h.v56, (fun x => by obtain ⟨P, q, hq, e, hn, hp⟩ := h.v57 x; exact ⟨P, q, hq, e, hn, (heap_setCell_other _ _ _ _ hn).trans hp⟩), h.v58, h.v59, h.v60, h.v61, h.v62, h.v63, h.v64, h.v65, h.v6⟩
theorem z8cell {W : World} {P q : Nat} (h : W.heap[P]? = some zrow8) (hq : q < 8) : ∃ z : Bool, W.cell? ⟨P, q, none⟩ = some (.string (bytesOf (zb z))) := by
  have h' : q = 0 ∨ q = 1 ∨ q = 2 ∨ q = 3 ∨ q = 4 ∨ q = 5 ∨ q = 6 ∨ q = 7 := by omega
  unfold zrow8 at h
  rcases h' with rfl | rfl | rfl | rfl | rfl | rfl | rfl | rfl
  all_goals first
    | exact ⟨false, cell_of_row _ _ _ _ _ _ h⟩
    | exact ⟨true, cell_of_row _ _ _ _ _ _ h⟩
theorem ncell {w W : World} {S N5 T2 i n : Nat} {t : TV} (h : PT w S N5 T2 t W) (hn : (i = 0 ∧ n = t.a) ∨ (i = 1 ∧ n = t.b) ∨ (i = 2 ∧ n = t.c)) : W.cell? ⟨N5, i, none⟩ = some (.int .u64 (n : Nat)) := by
  rcases hn with ⟨rfl, rfl⟩ | ⟨rfl, rfl⟩ | ⟨rfl, rfl⟩
  · exact cell_of_row _ _ 0 _ _ _ h.n5
  · exact cell_of_row _ _ 1 _ _ _ h.n5
  · exact cell_of_row _ _ 2 _ _ _ h.n5
theorem num_eq (z : Bool) (n : Nat) : bytesOf (zb z) ++ bytesOf (Lib.decDigits n) = bytesOf (num z n) := bytes_add _ _
set_option maxHeartbeats 8000000 in
theorem region14 (y6 y53 y54 y55 y56 y57 y58 y59 y60 y61 y62 y63 y64 y65 : Value) (x0 x2 x3 x4 x7 x9 x10 x11 x12 x13 x14 x15 x16 x17 x18 x19 x20 x21 x22 x23 x24 x25 x26 x27 x28 x29 x30 x31 x32 x33 x34 x35 x36 x37 x38 x39 x40 x41 x42 x43 x44 x45 x46 x47 x48 x49 x50 x51 x52 x66 x67 x68 x69 x70 x71 x72 x73 x74 x75 x76 x77 x78 x79 x80 x81 x82 x83 x84 x85 x86 x87 x88 x89 x90 x91 x92 : Value) (w : World) (S N5 T2 : Nat) (t : TV) (tx : Bs) (i n : Nat) (w5 : World) (hpt : PT w S N5 T2 t w5) (hi : i < 3) (hn : (i = 0 ∧ n = t.a) ∨ (i = 1 ∧ n = t.b) ∨ (i = 2 ∧ n = t.c)) (hn64 : n < 18446744073709551616) (htx : tx.length < 1000) (h6 : y6 = .string (bytesOf tx))
    {Q : Exit → Act → World → Prop} (hQ : ∀ z s6 s53 s54 s55 s56 s57 s58 s59 s60 s61 s62 s63 s64 s65 W, PT w S N5 T2 t W → s6 = .string (bytesOf (tx ++ num z n)) → Q .normal (fr14 S N5 i x0 x2 x3 x4 x7 x9 x10 x11 x12 x13 x14 x15 x16 x17 x18 x19 x20 x21 x22 x23 x24 x25 x26 x27 x28 x29 x30 x31 x32 x33 x34 x35 x36 x37 x38 x39 x40 x41 x42 x43 x44 x45 x46 x47 x48 x49 x50 x51 x52 x66 x67 x68 x69 x70 x71 x72 x73 x74 x75 x76 x77 x78 x79 x80 x81 x82 x83 x84 x85 x86 x87 x88 x89 x90 x91 x92 s6 s53 s54 s55 s56 s57 s58 s59 s60 s61 s62 s63 s64 s65) W) :
    (Code.region 14 ops14 true).wp Tryz.prog Q (fr14 S N5 i x0 x2 x3 x4 x7 x9 x10 x11 x12 x13 x14 x15 x16 x17 x18 x19 x20 x21 x22 x23 x24 x25 x26 x27 x28 x29 x30 x31 x32 x33 x34 x35 x36 x37 x38 x39 x40 x41 x42 x43 x44 x45 x46 x47 x48 x49 x50 x51 x52 x66 x67 x68 x69 x70 x71 x72 x73 x74 x75 x76 x77 x78 x79 x80 x81 x82 x83 x84 x85 x86 x87 x88 x89 x90 x91 x92 y6 y53 y54 y55 y56 y57 y58 y59 y60 y61 y62 y63 y64 y65) w5 := by
  have HD := Lib.hid (fun W => jDec n n (Nat.le_refl _) hn64 W)
  have hdl := dec_len n hn64
  have z1 : ∀ z : Bool, (bytesOf (zb z)).size ≤ 1 := fun z => by rw [bytesOf_size]; cases z <;> simp [zb]
  have z2 : (bytesOf (Lib.decDigits n)).size ≤ 20 := by rw [bytesOf_size]; exact hdl
  have z3 : (bytesOf tx).size < 1000 := by rw [bytesOf_size]; exact htx
  have z4 : ∀ z : Bool, (bytesOf (num z n)).size ≤ 21 := fun z => by rw [bytesOf_size]; exact num_len z n hn64
  have hd0 := hpt.keep (Below.refl w5.heap.size w5).drew
  refine wp_region_inv (by kernel_rfl) (fun L a' W => ∃ s6 s53 s54 s55 s56 s57 s58 s59 s60 s61 s62 s63 s64 s65, a' = fr14 S N5 i x0 x2 x3 x4 x7 x9 x10 x11 x12 x13 x14 x15 x16 x17 x18 x19 x20 x21 x22 x23 x24 x25 x26 x27 x28 x29 x30 x31 x32 x33 x34 x35 x36 x37 x38 x39 x40 x41 x42 x43 x44 x45 x46 x47 x48 x49 x50 x51 x52 x66 x67 x68 x69 x70 x71 x72 x73 x74 x75 x76 x77 x78 x79 x80 x81 x82 x83 x84 x85 x86 x87 x88 x89 x90 x91 x92 s6 s53 s54 s55 s56 s57 s58 s59 s60 s61 s62 s63 s64 s65 ∧ ((L 12 → L 0) ∧ (L 13 → L 12)) ∧ (¬ L 13 → s6 = .string (bytesOf tx)) ∧ I14 w S N5 T2 t tx i n L s6 s53 s54 s55 s56 s57 s58 s59 s60 s61 s62 s63 s64 s65 W) (by kernel_rfl) ⟨_, _, _, _, _, _, _, _, _, _, _, _, _, _, rfl, ⟨fun h => h.elim, fun h => h.elim⟩, fun _ => h6, ⟨hd0, fun h => h.elim, fun h => h.elim, fun h => h.elim, fun h => h.elim, fun h => h.elim, fun h => h.elim, fun h => h.elim, fun h => h.elim, fun h => h.elim, fun h => h.elim, fun h => h.elim, fun h => h.elim, fun h => h.elim, fun h => h.elim⟩⟩ ?_ ?_
  · intro j o ho L a' W hni hdep hI K hK
    obtain ⟨s6, s53, s54, s55, s56, s57, s58, s59, s60, s61, s62, s63, s64, s65, rfl, hO, h60, hk⟩ := hI
    rcases j with _ | _ | _ | _ | _ | _ | _ | _ | _ | _ | _ | _ | _ | _ | j
    · obtain rfl := Option.some.inj (show some ({ dst := some 53, op := Op.move (Operand.tmp 6), type := 9, pos := "constraint.go:183", after := #[], guard := none } : Oper) = some o from ho)
      have h6b := h60 (fun hl => hni (hO.1 (hO.2 hl)))
      subst h6b
      unfold fr14
      go_simp
      refine hK.out _ _ ⟨(.string (bytesOf tx)), (.string (bytesOf tx)), s54, s55, s56, s57, s58, s59, s60, s61, s62, s63, s64, s65, rfl, ⟨(fun _ => .inl rfl), (fun hl => .inr (hO.2 (hl.resolve_left (by decide))))⟩, (fun _ => rfl), ⟨hk.pt, (fun _ => rfl), (fun hl => hk.v54 (hl.resolve_left (by decide))), (fun hl => hk.v55 (hl.resolve_left (by decide))), (fun hl => hk.v56 (hl.resolve_left (by decide))), (fun hl => hk.v57 (hl.resolve_left (by decide))), (fun hl => hk.v58 (hl.resolve_left (by decide))), (fun hl => hk.v59 (hl.resolve_left (by decide))), (fun hl => hk.v60 (hl.resolve_left (by decide))), (fun hl => hk.v61 (hl.resolve_left (by decide))), (fun hl => hk.v62 (hl.resolve_left (by decide))), (fun hl => hk.v63 (hl.resolve_left (by decide))), (fun hl => hk.v64 (hl.resolve_left (by decide))), (fun hl => hk.v65 (hl.resolve_left (by decide))), (fun hl => hk.v6 (hl.resolve_left (by decide)))⟩⟩
    · obtain rfl := Option.some.inj (show some ({ dst := some 54, op := Op.buildSlice 29 8 #[(0, Operand.const (Value.string { data := #[] })), (1, Operand.const (Value.string { data := #[] })), (2, Operand.const (Value.string { data := #[] })), (3, Operand.const (Value.string { data := #[] })), (4, Operand.const (Value.string { data := #[] })), (5, Operand.const (Value.string { data := #[] })), (6, Operand.const (Value.string { data := #[] })), (7, Operand.const (Value.string { data := #[48] }))], type := 29, pos := "constraint.go:183", after := #[], guard := none } : Oper) = some o from ho)
      unfold fr14
      have hb := (Below.refl _ W).alloc (Nat.le_refl _) zrow8
      have hl := hk.pt.l
      have hk := hk.keep hb
      go_simp
      refine hK.out _ _ ⟨s6, s53, (.slice (some ⟨W.heap.size, 0, none⟩) 8 8), s55, s56, s57, s58, s59, s60, s61, s62, s63, s64, s65, rfl, ⟨(fun hl => .inr (hO.1 (hl.resolve_left (by decide)))), (fun hl => .inr (hO.2 (hl.resolve_left (by decide))))⟩, (fun hn => h60 (fun hl => hn (.inr hl))), ⟨hk.pt, (fun hl => hk.v53 (hl.resolve_left (by decide))), (fun _ => ⟨W.heap.size, rfl, by omega, heap_alloc_new W _⟩), (fun hl => hk.v55 (hl.resolve_left (by decide))), (fun hl => hk.v56 (hl.resolve_left (by decide))), (fun hl => hk.v57 (hl.resolve_left (by decide))), (fun hl => hk.v58 (hl.resolve_left (by decide))), (fun hl => hk.v59 (hl.resolve_left (by decide))), (fun hl => hk.v60 (hl.resolve_left (by decide))), (fun hl => hk.v61 (hl.resolve_left (by decide))), (fun hl => hk.v62 (hl.resolve_left (by decide))), (fun hl => hk.v63 (hl.resolve_left (by decide))), (fun hl => hk.v64 (hl.resolve_left (by decide))), (fun hl => hk.v65 (hl.resolve_left (by decide))), (fun hl => hk.v6 (hl.resolve_left (by decide)))⟩⟩
    · obtain rfl := Option.some.inj (show some ({ dst := some 55, op := Op.move (Operand.tmp 1), type := 48, pos := "constraint.go:183", after := #[], guard := none } : Oper) = some o from ho)
      unfold fr14
      go_simp
      refine hK.out _ _ ⟨s6, s53, s54, (.pointer (some ⟨S, 0, none⟩)), s56, s57, s58, s59, s60, s61, s62, s63, s64, s65, rfl, ⟨(fun hl => .inr (hO.1 (hl.resolve_left (by decide)))), (fun hl => .inr (hO.2 (hl.resolve_left (by decide))))⟩, (fun hn => h60 (fun hl => hn (.inr hl))), ⟨hk.pt, (fun hl => hk.v53 (hl.resolve_left (by decide))), (fun hl => hk.v54 (hl.resolve_left (by decide))), (fun _ => rfl), (fun hl => hk.v56 (hl.resolve_left (by decide))), (fun hl => hk.v57 (hl.resolve_left (by decide))), (fun hl => hk.v58 (hl.resolve_left (by decide))), (fun hl => hk.v59 (hl.resolve_left (by decide))), (fun hl => hk.v60 (hl.resolve_left (by decide))), (fun hl => hk.v61 (hl.resolve_left (by decide))), (fun hl => hk.v62 (hl.resolve_left (by decide))), (fun hl => hk.v63 (hl.resolve_left (by decide))), (fun hl => hk.v64 (hl.resolve_left (by decide))), (fun hl => hk.v65 (hl.resolve_left (by decide))), (fun hl => hk.v6 (hl.resolve_left (by decide)))⟩⟩
    · obtain rfl := Option.some.inj (show some ({ dst := some 56, op := Op.call { callee := Callee.value (Operand.func 21), args := #[Operand.tmp 55, Operand.const (Value.int IntKind.i64 8)], argTypes := #[48, 3] }, type := 3, pos := "constraint.go:183", after := #[{ on := 2, ground := Ground.data }], guard := none } : Oper) = some o from ho)
      have g2 := hk.v55 (hdep ⟨2, .data⟩ (by simp) rfl)
      subst g2
      unfold fr14
      go_simp
      obtain ⟨x, hx⟩ := hk.pt.s
      (go_at_call 21; refine (m17 S x 8 (by omega) (by omega) W hx).mono ?_; rintro e W1 ⟨q, y, rfl, hq, hw⟩; subst hw; have hk := hk.put y)
      refine hK.out _ _ ⟨s6, s53, s54, (.pointer (some ⟨S, 0, none⟩)), (.int .i64 q), s57, s58, s59, s60, s61, s62, s63, s64, s65, rfl, ⟨(fun hl => .inr (hO.1 (hl.resolve_left (by decide)))), (fun hl => .inr (hO.2 (hl.resolve_left (by decide))))⟩, (fun hn => h60 (fun hl => hn (.inr hl))), ⟨hk.pt, (fun hl => hk.v53 (hl.resolve_left (by decide))), (fun hl => hk.v54 (hl.resolve_left (by decide))), (fun hl => hk.v55 (hl.resolve_left (by decide))), (fun _ => ⟨q, hq, rfl⟩), (fun hl => hk.v57 (hl.resolve_left (by decide))), (fun hl => hk.v58 (hl.resolve_left (by decide))), (fun hl => hk.v59 (hl.resolve_left (by decide))), (fun hl => hk.v60 (hl.resolve_left (by decide))), (fun hl => hk.v61 (hl.resolve_left (by decide))), (fun hl => hk.v62 (hl.resolve_left (by decide))), (fun hl => hk.v63 (hl.resolve_left (by decide))), (fun hl => hk.v64 (hl.resolve_left (by decide))), (fun hl => hk.v65 (hl.resolve_left (by decide))), (fun hl => hk.v6 (hl.resolve_left (by decide)))⟩⟩
    · obtain rfl := Option.some.inj (show some ({ dst := some 57, op := Op.indexAddr 29 (Operand.tmp 54) (Operand.tmp 56), type := 0, pos := "constraint.go:183", after := #[{ on := 1, ground := Ground.data }, { on := 3, ground := Ground.data }], guard := none } : Oper) = some o from ho)
      obtain ⟨P, g1, hPS, hP⟩ := hk.v54 (hdep ⟨1, .data⟩ (by simp) rfl)
      obtain ⟨q, hq, g3⟩ := hk.v56 (hdep ⟨3, .data⟩ (by simp) rfl)
      subst g1 g3
      have hqi : (q : Int) < 8 := by omega
      unfold fr14
      go_simp
      refine hK.out _ _ ⟨s6, s53, (.slice (some ⟨P, 0, none⟩) 8 8), s55, (.int .i64 q), (.pointer (some ⟨P, q, none⟩)), s58, s59, s60, s61, s62, s63, s64, s65, rfl, ⟨(fun hl => .inr (hO.1 (hl.resolve_left (by decide)))), (fun hl => .inr (hO.2 (hl.resolve_left (by decide))))⟩, (fun hn => h60 (fun hl => hn (.inr hl))), ⟨hk.pt, (fun hl => hk.v53 (hl.resolve_left (by decide))), (fun hl => hk.v54 (hl.resolve_left (by decide))), (fun hl => hk.v55 (hl.resolve_left (by decide))), (fun hl => hk.v56 (hl.resolve_left (by decide))), (fun _ => ⟨P, q, hq, rfl, hPS, hP⟩), (fun hl => hk.v58 (hl.resolve_left (by decide))), (fun hl => hk.v59 (hl.resolve_left (by decide))), (fun hl => hk.v60 (hl.resolve_left (by decide))), (fun hl => hk.v61 (hl.resolve_left (by decide))), (fun hl => hk.v62 (hl.resolve_left (by decide))), (fun hl => hk.v63 (hl.resolve_left (by decide))), (fun hl => hk.v64 (hl.resolve_left (by decide))), (fun hl => hk.v65 (hl.resolve_left (by decide))), (fun hl => hk.v6 (hl.resolve_left (by decide)))⟩⟩
    · obtain rfl := Option.some.inj (show some ({ dst := some 58, op := Op.load 9 (Operand.tmp 57), type := 9, pos := "constraint.go:183", after := #[{ on := 4, ground := Ground.data }], guard := none } : Oper) = some o from ho)
      obtain ⟨P, q, hq, g4, hPS, hP⟩ := hk.v57 (hdep ⟨4, .data⟩ (by simp) rfl)
      subst g4
      obtain ⟨z, hz⟩ := z8cell hP hq
      unfold fr14
      go_simp
      refine hK.out _ _ ⟨s6, s53, s54, s55, s56, (.pointer (some ⟨P, q, none⟩)), (.string (bytesOf (zb z))), s59, s60, s61, s62, s63, s64, s65, rfl, ⟨(fun hl => .inr (hO.1 (hl.resolve_left (by decide)))), (fun hl => .inr (hO.2 (hl.resolve_left (by decide))))⟩, (fun hn => h60 (fun hl => hn (.inr hl))), ⟨hk.pt, (fun hl => hk.v53 (hl.resolve_left (by decide))), (fun hl => hk.v54 (hl.resolve_left (by decide))), (fun hl => hk.v55 (hl.resolve_left (by decide))), (fun hl => hk.v56 (hl.resolve_left (by decide))), (fun hl => hk.v57 (hl.resolve_left (by decide))), (fun _ => ⟨z, rfl⟩), (fun hl => hk.v59 (hl.resolve_left (by decide))), (fun hl => hk.v60 (hl.resolve_left (by decide))), (fun hl => hk.v61 (hl.resolve_left (by decide))), (fun hl => hk.v62 (hl.resolve_left (by decide))), (fun hl => hk.v63 (hl.resolve_left (by decide))), (fun hl => hk.v64 (hl.resolve_left (by decide))), (fun hl => hk.v65 (hl.resolve_left (by decide))), (fun hl => hk.v6 (hl.resolve_left (by decide)))⟩⟩
    · obtain rfl := Option.some.inj (show some ({ dst := some 59, op := Op.move (Operand.tmp 5), type := 71, pos := "constraint.go:183", after := #[], guard := none } : Oper) = some o from ho)
      unfold fr14
      go_simp
      refine hK.out _ _ ⟨s6, s53, s54, s55, s56, s57, s58, (.slice (some ⟨N5, 0, none⟩) 3 3), s60, s61, s62, s63, s64, s65, rfl, ⟨(fun hl => .inr (hO.1 (hl.resolve_left (by decide)))), (fun hl => .inr (hO.2 (hl.resolve_left (by decide))))⟩, (fun hn => h60 (fun hl => hn (.inr hl))), ⟨hk.pt, (fun hl => hk.v53 (hl.resolve_left (by decide))), (fun hl => hk.v54 (hl.resolve_left (by decide))), (fun hl => hk.v55 (hl.resolve_left (by decide))), (fun hl => hk.v56 (hl.resolve_left (by decide))), (fun hl => hk.v57 (hl.resolve_left (by decide))), (fun hl => hk.v58 (hl.resolve_left (by decide))), (fun _ => rfl), (fun hl => hk.v60 (hl.resolve_left (by decide))), (fun hl => hk.v61 (hl.resolve_left (by decide))), (fun hl => hk.v62 (hl.resolve_left (by decide))), (fun hl => hk.v63 (hl.resolve_left (by decide))), (fun hl => hk.v64 (hl.resolve_left (by decide))), (fun hl => hk.v65 (hl.resolve_left (by decide))), (fun hl => hk.v6 (hl.resolve_left (by decide)))⟩⟩
    · obtain rfl := Option.some.inj (show some ({ dst := some 60, op := Op.move (Operand.tmp 8), type := 3, pos := "constraint.go:183", after := #[], guard := none } : Oper) = some o from ho)
      unfold fr14
      go_simp
      refine hK.out _ _ ⟨s6, s53, s54, s55, s56, s57, s58, s59, (.int .i64 (i : Nat)), s61, s62, s63, s64, s65, rfl, ⟨(fun hl => .inr (hO.1 (hl.resolve_left (by decide)))), (fun hl => .inr (hO.2 (hl.resolve_left (by decide))))⟩, (fun hn => h60 (fun hl => hn (.inr hl))), ⟨hk.pt, (fun hl => hk.v53 (hl.resolve_left (by decide))), (fun hl => hk.v54 (hl.resolve_left (by decide))), (fun hl => hk.v55 (hl.resolve_left (by decide))), (fun hl => hk.v56 (hl.resolve_left (by decide))), (fun hl => hk.v57 (hl.resolve_left (by decide))), (fun hl => hk.v58 (hl.resolve_left (by decide))), (fun hl => hk.v59 (hl.resolve_left (by decide))), (fun _ => rfl), (fun hl => hk.v61 (hl.resolve_left (by decide))), (fun hl => hk.v62 (hl.resolve_left (by decide))), (fun hl => hk.v63 (hl.resolve_left (by decide))), (fun hl => hk.v64 (hl.resolve_left (by decide))), (fun hl => hk.v65 (hl.resolve_left (by decide))), (fun hl => hk.v6 (hl.resolve_left (by decide)))⟩⟩
    · obtain rfl := Option.some.inj (show some ({ dst := some 61, op := Op.indexAddr 71 (Operand.tmp 59) (Operand.tmp 60), type := 0, pos := "constraint.go:183", after := #[{ on := 6, ground := Ground.data }, { on := 7, ground := Ground.data }], guard := none } : Oper) = some o from ho)
      have g6 := hk.v59 (hdep ⟨6, .data⟩ (by simp) rfl)
      have g7 := hk.v60 (hdep ⟨7, .data⟩ (by simp) rfl)
      subst g6 g7
      have hii : (i : Int) < 3 := by omega
      unfold fr14
      go_simp
      refine hK.out _ _ ⟨s6, s53, s54, s55, s56, s57, s58, (.slice (some ⟨N5, 0, none⟩) 3 3), (.int .i64 (i : Nat)), (.pointer (some ⟨N5, i, none⟩)), s62, s63, s64, s65, rfl, ⟨(fun hl => .inr (hO.1 (hl.resolve_left (by decide)))), (fun hl => .inr (hO.2 (hl.resolve_left (by decide))))⟩, (fun hn => h60 (fun hl => hn (.inr hl))), ⟨hk.pt, (fun hl => hk.v53 (hl.resolve_left (by decide))), (fun hl => hk.v54 (hl.resolve_left (by decide))), (fun hl => hk.v55 (hl.resolve_left (by decide))), (fun hl => hk.v56 (hl.resolve_left (by decide))), (fun hl => hk.v57 (hl.resolve_left (by decide))), (fun hl => hk.v58 (hl.resolve_left (by decide))), (fun hl => hk.v59 (hl.resolve_left (by decide))), (fun hl => hk.v60 (hl.resolve_left (by decide))), (fun _ => rfl), (fun hl => hk.v62 (hl.resolve_left (by decide))), (fun hl => hk.v63 (hl.resolve_left (by decide))), (fun hl => hk.v64 (hl.resolve_left (by decide))), (fun hl => hk.v65 (hl.resolve_left (by decide))), (fun hl => hk.v6 (hl.resolve_left (by decide)))⟩⟩
    · obtain rfl := Option.some.inj (show some ({ dst := some 62, op := Op.load 23 (Operand.tmp 61), type := 23, pos := "constraint.go:183", after := #[{ on := 8, ground := Ground.data }], guard := none } : Oper) = some o from ho)
      have g8 := hk.v61 (hdep ⟨8, .data⟩ (by simp) rfl)
      subst g8
      have hz := ncell hk.pt hn
      unfold fr14
      go_simp
      refine hK.out _ _ ⟨s6, s53, s54, s55, s56, s57, s58, s59, s60, (.pointer (some ⟨N5, i, none⟩)), (.int .u64 (n : Nat)), s63, s64, s65, rfl, ⟨(fun hl => .inr (hO.1 (hl.resolve_left (by decide)))), (fun hl => .inr (hO.2 (hl.resolve_left (by decide))))⟩, (fun hn => h60 (fun hl => hn (.inr hl))), ⟨hk.pt, (fun hl => hk.v53 (hl.resolve_left (by decide))), (fun hl => hk.v54 (hl.resolve_left (by decide))), (fun hl => hk.v55 (hl.resolve_left (by decide))), (fun hl => hk.v56 (hl.resolve_left (by decide))), (fun hl => hk.v57 (hl.resolve_left (by decide))), (fun hl => hk.v58 (hl.resolve_left (by decide))), (fun hl => hk.v59 (hl.resolve_left (by decide))), (fun hl => hk.v60 (hl.resolve_left (by decide))), (fun hl => hk.v61 (hl.resolve_left (by decide))), (fun _ => rfl), (fun hl => hk.v63 (hl.resolve_left (by decide))), (fun hl => hk.v64 (hl.resolve_left (by decide))), (fun hl => hk.v65 (hl.resolve_left (by decide))), (fun hl => hk.v6 (hl.resolve_left (by decide)))⟩⟩
    · obtain rfl := Option.some.inj (show some ({ dst := some 63, op := Op.call { callee := Callee.value (Operand.func 32), args := #[Operand.tmp 62], argTypes := #[23] }, type := 9, pos := "constraint.go:183", after := #[{ on := 9, ground := Ground.data }, { on := 3, ground := Ground.chain }], guard := none } : Oper) = some o from ho)
      have g9 := hk.v62 (hdep ⟨9, .data⟩ (by simp) rfl)
      subst g9
      unfold fr14
      go_simp
      (go_at_call 32; refine (HD.out _).mono ?_; rintro e W1 ⟨rfl, hb⟩; have hk := hk.keep hb)
      refine hK.out _ _ ⟨s6, s53, s54, s55, s56, s57, s58, s59, s60, s61, (.int .u64 (n : Nat)), (.string (bytesOf (Lib.decDigits n))), s64, s65, rfl, ⟨(fun hl => .inr (hO.1 (hl.resolve_left (by decide)))), (fun hl => .inr (hO.2 (hl.resolve_left (by decide))))⟩, (fun hn => h60 (fun hl => hn (.inr hl))), ⟨hk.pt, (fun hl => hk.v53 (hl.resolve_left (by decide))), (fun hl => hk.v54 (hl.resolve_left (by decide))), (fun hl => hk.v55 (hl.resolve_left (by decide))), (fun hl => hk.v56 (hl.resolve_left (by decide))), (fun hl => hk.v57 (hl.resolve_left (by decide))), (fun hl => hk.v58 (hl.resolve_left (by decide))), (fun hl => hk.v59 (hl.resolve_left (by decide))), (fun hl => hk.v60 (hl.resolve_left (by decide))), (fun hl => hk.v61 (hl.resolve_left (by decide))), (fun hl => hk.v62 (hl.resolve_left (by decide))), (fun _ => rfl), (fun hl => hk.v64 (hl.resolve_left (by decide))), (fun hl => hk.v65 (hl.resolve_left (by decide))), (fun hl => hk.v6 (hl.resolve_left (by decide)))⟩⟩
    · obtain rfl := Option.some.inj (show some ({ dst := some 64, op := Op.binOp BinOp.add 9 (Operand.tmp 58) (Operand.tmp 63) 9, type := 9, pos := "constraint.go:183", after := #[{ on := 5, ground := Ground.data }, { on := 10, ground := Ground.data }], guard := none } : Oper) = some o from ho)
      obtain ⟨z, g5⟩ := hk.v58 (hdep ⟨5, .data⟩ (by simp) rfl)
      have g10 := hk.v63 (hdep ⟨10, .data⟩ (by simp) rfl)
      subst g5 g10
      have y1 := z1 z
      unfold fr14
      go_simp
      rw [if_neg (by omega), num_eq]
      go_simp
      refine hK.out _ _ ⟨s6, s53, s54, s55, s56, s57, (.string (bytesOf (zb z))), s59, s60, s61, s62, (.string (bytesOf (Lib.decDigits n))), (.string (bytesOf (num z n))), s65, rfl, ⟨(fun hl => .inr (hO.1 (hl.resolve_left (by decide)))), (fun hl => .inr (hO.2 (hl.resolve_left (by decide))))⟩, (fun hn => h60 (fun hl => hn (.inr hl))), ⟨hk.pt, (fun hl => hk.v53 (hl.resolve_left (by decide))), (fun hl => hk.v54 (hl.resolve_left (by decide))), (fun hl => hk.v55 (hl.resolve_left (by decide))), (fun hl => hk.v56 (hl.resolve_left (by decide))), (fun hl => hk.v57 (hl.resolve_left (by decide))), (fun hl => hk.v58 (hl.resolve_left (by decide))), (fun hl => hk.v59 (hl.resolve_left (by decide))), (fun hl => hk.v60 (hl.resolve_left (by decide))), (fun hl => hk.v61 (hl.resolve_left (by decide))), (fun hl => hk.v62 (hl.resolve_left (by decide))), (fun hl => hk.v63 (hl.resolve_left (by decide))), (fun _ => ⟨z, rfl⟩), (fun hl => hk.v65 (hl.resolve_left (by decide))), (fun hl => hk.v6 (hl.resolve_left (by decide)))⟩⟩
    · obtain rfl := Option.some.inj (show some ({ dst := some 65, op := Op.binOp BinOp.add 9 (Operand.tmp 53) (Operand.tmp 64) 9, type := 9, pos := "constraint.go:183", after := #[{ on := 0, ground := Ground.data }, { on := 11, ground := Ground.data }], guard := none } : Oper) = some o from ho)
      have g0 := hk.v53 (hdep ⟨0, .data⟩ (by simp) rfl)
      obtain ⟨z, g11⟩ := hk.v64 (hdep ⟨11, .data⟩ (by simp) rfl)
      subst g0 g11
      have y1 := z4 z
      unfold fr14
      go_simp
      rw [if_neg (by omega), bytes_add]
      go_simp
      refine hK.out _ _ ⟨s6, (.string (bytesOf tx)), s54, s55, s56, s57, s58, s59, s60, s61, s62, s63, (.string (bytesOf (num z n))), (.string (bytesOf (tx ++ num z n))), rfl, ⟨(fun _ => .inr (hdep ⟨0, .data⟩ (by simp) rfl)), (fun _ => .inl rfl)⟩, (fun hn => h60 (fun hl => hn (.inr hl))), ⟨hk.pt, (fun hl => hk.v53 (hl.resolve_left (by decide))), (fun hl => hk.v54 (hl.resolve_left (by decide))), (fun hl => hk.v55 (hl.resolve_left (by decide))), (fun hl => hk.v56 (hl.resolve_left (by decide))), (fun hl => hk.v57 (hl.resolve_left (by decide))), (fun hl => hk.v58 (hl.resolve_left (by decide))), (fun hl => hk.v59 (hl.resolve_left (by decide))), (fun hl => hk.v60 (hl.resolve_left (by decide))), (fun hl => hk.v61 (hl.resolve_left (by decide))), (fun hl => hk.v62 (hl.resolve_left (by decide))), (fun hl => hk.v63 (hl.resolve_left (by decide))), (fun hl => hk.v64 (hl.resolve_left (by decide))), (fun _ => ⟨z, rfl⟩), (fun hl => hk.v6 (hl.resolve_left (by decide)))⟩⟩
    · obtain rfl := Option.some.inj (show some ({ dst := some 6, op := Op.assign (Operand.tmp 65), type := 9, pos := "constraint.go:183", after := #[{ on := 12, ground := Ground.data }, { on := 10, ground := Ground.chain }, { on := 0, ground := Ground.phase }, { on := 1, ground := Ground.phase }, { on := 2, ground := Ground.phase }, { on := 3, ground := Ground.phase }, { on := 4, ground := Ground.phase }, { on := 5, ground := Ground.phase }, { on := 6, ground := Ground.phase }, { on := 7, ground := Ground.phase }, { on := 8, ground := Ground.phase }, { on := 9, ground := Ground.phase }, { on := 10, ground := Ground.phase }, { on := 11, ground := Ground.phase }, { on := 12, ground := Ground.phase }], guard := none } : Oper) = some o from ho)
      obtain ⟨z, g12⟩ := hk.v65 (hdep ⟨12, .data⟩ (by simp) rfl)
      subst g12
      unfold fr14
      go_simp
      refine hK.out _ _ ⟨(.string (bytesOf (tx ++ num z n))), s53, s54, s55, s56, s57, s58, s59, s60, s61, s62, s63, s64, (.string (bytesOf (tx ++ num z n))), rfl, ⟨(fun hl => .inr (hO.1 (hl.resolve_left (by decide)))), (fun _ => .inr (hdep ⟨12, .data⟩ (by simp) rfl))⟩, (fun hn => absurd (.inl rfl) hn), ⟨hk.pt, (fun hl => hk.v53 (hl.resolve_left (by decide))), (fun hl => hk.v54 (hl.resolve_left (by decide))), (fun hl => hk.v55 (hl.resolve_left (by decide))), (fun hl => hk.v56 (hl.resolve_left (by decide))), (fun hl => hk.v57 (hl.resolve_left (by decide))), (fun hl => hk.v58 (hl.resolve_left (by decide))), (fun hl => hk.v59 (hl.resolve_left (by decide))), (fun hl => hk.v60 (hl.resolve_left (by decide))), (fun hl => hk.v61 (hl.resolve_left (by decide))), (fun hl => hk.v62 (hl.resolve_left (by decide))), (fun hl => hk.v63 (hl.resolve_left (by decide))), (fun hl => hk.v64 (hl.resolve_left (by decide))), (fun hl => hk.v65 (hl.resolve_left (by decide))), (fun _ => ⟨z, rfl⟩)⟩⟩
    · exact absurd (Array.getElem?_eq_some_iff.1 ho).1 (by simp [ops14])
  · intro L a' W hall hI
    obtain ⟨s6, s53, s54, s55, s56, s57, s58, s59, s60, s61, s62, s63, s64, s65, rfl, hO, h60, hk⟩ := hI
    obtain ⟨z, h6⟩ := hk.v6 (hall 13 (by decide))
    exact hQ z _ _ _ _ _ _ _ _ _ _ _ _ _ _ W hk.pt h6
end Go.Proofs.YthejepmnnpmdmaaGreatDoor.Sv
end
section
set_option linter.unusedVariables false
set_option linter.unusedSimpArgs false
/- how many numbers a term shows -/
namespace Go.Proofs.YthejepmnnpmdmaaGreatDoor.Sv
open Go Go.RowKit Rx
set_option maxRecDepth 100000
theorem wrap_i (z : Int) (h : 0 ≤ z ∧ z ≤ 1000) : IntKind.i64.wrap z = z := by
  have e : IntKind.i64.bits = 64 := rfl
  unfold IntKind.wrap; simp [e, IntKind.signed]; omega
def ops6 : Array Oper := #[{ dst := some 31, op := Op.fieldAddr 36 (Operand.tmp 2) 1, type := 0, pos := "constraint.go:175", after := #[], guard := none }, { dst := some 32, op := Op.load 3 (Operand.tmp 31), type := 3, pos := "constraint.go:175", after := #[{ on := 0, ground := Ground.data }], guard := none }, { dst := some 33, op := Op.move (Operand.tmp 1), type := 48, pos := "constraint.go:175", after := #[], guard := none }, { dst := some 34, op := Op.fieldAddr 36 (Operand.tmp 2) 1, type := 0, pos := "constraint.go:175", after := #[], guard := none }, { dst := some 35, op := Op.load 3 (Operand.tmp 34), type := 3, pos := "constraint.go:175", after := #[{ on := 3, ground := Ground.data }], guard := none }, { dst := some 36, op := Op.binOp BinOp.sub 3 (Operand.const (Value.int IntKind.i64 4)) (Operand.tmp 35) 3, type := 3, pos := "constraint.go:175", after := #[{ on := 4, ground := Ground.data }], guard := none }, { dst := some 37, op := Op.call { callee := Callee.value (Operand.func 21), args := #[Operand.tmp 33, Operand.tmp 36], argTypes := #[48, 3] }, type := 3, pos := "constraint.go:175", after := #[{ on := 2, ground := Ground.data }, { on := 5, ground := Ground.data }], guard := none }, { dst := some 38, op := Op.binOp BinOp.add 3 (Operand.tmp 32) (Operand.tmp 37) 3, type := 3, pos := "constraint.go:175", after := #[{ on := 1, ground := Ground.data }, { on := 6, ground := Ground.data }], guard := none }, { dst := some 7, op := Op.assign (Operand.tmp 38), type := 3, pos := "constraint.go:175", after := #[{ on := 7, ground := Ground.data }, { on := 6, ground := Ground.chain }, { on := 0, ground := Ground.phase }, { on := 1, ground := Ground.phase }, { on := 2, ground := Ground.phase }, { on := 3, ground := Ground.phase }, { on := 4, ground := Ground.phase }, { on := 5, ground := Ground.phase }, { on := 6, ground := Ground.phase }, { on := 7, ground := Ground.phase }], guard := none }]
def fr6 (S T2 : Nat) (x0 x3 x4 x5 x6 x8 x9 x10 x11 x12 x13 x14 x15 x16 x17 x18 x19 x20 x21 x22 x23 x24 x25 x26 x27 x28 x29 x30 x39 x40 x41 x42 x43 x44 x45 x46 x47 x48 x49 x50 x51 x52 x53 x54 x55 x56 x57 x58 x59 x60 x61 x62 x63 x64 x65 x66 x67 x68 x69 x70 x71 x72 x73 x74 x75 x76 x77 x78 x79 x80 x81 x82 x83 x84 x85 x86 x87 x88 x89 x90 x91 x92 : Value) (s7 s31 s32 s33 s34 s35 s36 s37 s38 : Value) : Act := ⟨(x0 :: .pointer (some ⟨S, 0, none⟩) :: .pointer (some ⟨T2, 0, none⟩) :: x3 :: x4 :: x5 :: x6 :: s7 :: x8 :: x9 :: x10 :: x11 :: x12 :: x13 :: x14 :: x15 :: x16 :: x17 :: x18 :: x19 :: x20 :: x21 :: x22 :: x23 :: x24 :: x25 :: x26 :: x27 :: x28 :: x29 :: x30 :: s31 :: s32 :: s33 :: s34 :: s35 :: s36 :: s37 :: s38 :: x39 :: x40 :: x41 :: x42 :: x43 :: x44 :: x45 :: x46 :: x47 :: x48 :: x49 :: x50 :: x51 :: x52 :: x53 :: x54 :: x55 :: x56 :: x57 :: x58 :: x59 :: x60 :: x61 :: x62 :: x63 :: x64 :: x65 :: x66 :: x67 :: x68 :: x69 :: x70 :: x71 :: x72 :: x73 :: x74 :: x75 :: x76 :: x77 :: x78 :: x79 :: x80 :: x81 :: x82 :: x83 :: x84 :: x85 :: x86 :: x87 :: x88 :: x89 :: x90 :: x91 :: x92 :: []).toArray, []⟩
structure I60 (w : World) (S N5 T2 : Nat) (t : TV) (L : Nat → Prop) (s7 s31 s32 s33 s34 s35 s36 s37 s38 : Value) (W : World) : Prop where
  pt : PT w S N5 T2 t W
  v31 : L 0 → s31 = .pointer (some ⟨T2, 1, none⟩)
  v32 : L 1 → s32 = .int .i64 0
  v33 : L 2 → s33 = .pointer (some ⟨S, 0, none⟩)
  v34 : L 3 → s34 = .pointer (some ⟨T2, 1, none⟩)
  v35 : L 4 → s35 = .int .i64 0
  v36 : L 5 → s36 = .int .i64 4
  v37 : L 6 → ∃ q : Nat, q < 4 ∧ s37 = .int .i64 (q : Nat)
  v38 : L 7 → ∃ q : Nat, q < 4 ∧ s38 = .int .i64 (q : Int)
  v7 : L 8 → ∃ q : Nat, q < 4 ∧ s7 = .int .i64 (q : Int)
theorem I60.put {w : World} {S N5 T2 : Nat} {t : TV} {L : Nat → Prop} {s7 s31 s32 s33 s34 s35 s36 s37 s38 : Value} {W : World} (h : I60 w S N5 T2 t L s7 s31 s32 s33 s34 s35 s36 s37 s38 W) (y : Int) : I60 w S N5 T2 t L s7 s31 s32 s33 s34 s35 s36 s37 s38 (W.setCell ⟨S, 0, none⟩ (.int .u64 y)) :=
  ⟨h.pt.put y, h.v31, h.v32, h.v33, h.v34, h.v35, h.v36, h.v37, h.v38, h.v7⟩
set_option maxHeartbeats 8000000 in
theorem region6_0 (y7 : Value) (x0 x3 x4 x5 x6 x8 x9 x10 x11 x12 x13 x14 x15 x16 x17 x18 x19 x20 x21 x22 x23 x24 x25 x26 x27 x28 x29 x30 x39 x40 x41 x42 x43 x44 x45 x46 x47 x48 x49 x50 x51 x52 x53 x54 x55 x56 x57 x58 x59 x60 x61 x62 x63 x64 x65 x66 x67 x68 x69 x70 x71 x72 x73 x74 x75 x76 x77 x78 x79 x80 x81 x82 x83 x84 x85 x86 x87 x88 x89 x90 x91 x92 : Value) (w : World) (S N5 T2 : Nat) (t : TV) (w5 : World) (hpt : PT w S N5 T2 t w5) (hg : t.g = 0)
    {Q : Exit → Act → World → Prop} (hQ : ∀ (q : Nat) s7 s31 s32 s33 s34 s35 s36 s37 s38 W, PT w S N5 T2 t W → q < 4 → s7 = .int .i64 (q : Int) → Q .normal (fr6 S T2 x0 x3 x4 x5 x6 x8 x9 x10 x11 x12 x13 x14 x15 x16 x17 x18 x19 x20 x21 x22 x23 x24 x25 x26 x27 x28 x29 x30 x39 x40 x41 x42 x43 x44 x45 x46 x47 x48 x49 x50 x51 x52 x53 x54 x55 x56 x57 x58 x59 x60 x61 x62 x63 x64 x65 x66 x67 x68 x69 x70 x71 x72 x73 x74 x75 x76 x77 x78 x79 x80 x81 x82 x83 x84 x85 x86 x87 x88 x89 x90 x91 x92 s7 s31 s32 s33 s34 s35 s36 s37 s38) W) :
    (Code.region 6 ops6 true).wp Tryz.prog Q (fr6 S T2 x0 x3 x4 x5 x6 x8 x9 x10 x11 x12 x13 x14 x15 x16 x17 x18 x19 x20 x21 x22 x23 x24 x25 x26 x27 x28 x29 x30 x39 x40 x41 x42 x43 x44 x45 x46 x47 x48 x49 x50 x51 x52 x53 x54 x55 x56 x57 x58 x59 x60 x61 x62 x63 x64 x65 x66 x67 x68 x69 x70 x71 x72 x73 x74 x75 x76 x77 x78 x79 x80 x81 x82 x83 x84 x85 x86 x87 x88 x89 x90 x91 x92 y7 undef undef undef undef undef undef undef undef) w5 := by
  have hd0 := hpt.keep (Below.refl w5.heap.size w5).drew
  refine wp_region_inv (by kernel_rfl) (fun L a' W => ∃ s7 s31 s32 s33 s34 s35 s36 s37 s38, a' = fr6 S T2 x0 x3 x4 x5 x6 x8 x9 x10 x11 x12 x13 x14 x15 x16 x17 x18 x19 x20 x21 x22 x23 x24 x25 x26 x27 x28 x29 x30 x39 x40 x41 x42 x43 x44 x45 x46 x47 x48 x49 x50 x51 x52 x53 x54 x55 x56 x57 x58 x59 x60 x61 x62 x63 x64 x65 x66 x67 x68 x69 x70 x71 x72 x73 x74 x75 x76 x77 x78 x79 x80 x81 x82 x83 x84 x85 x86 x87 x88 x89 x90 x91 x92 s7 s31 s32 s33 s34 s35 s36 s37 s38 ∧ I60 w S N5 T2 t L s7 s31 s32 s33 s34 s35 s36 s37 s38 W) (by kernel_rfl) ⟨_, _, _, _, _, _, _, _, _, rfl, ⟨hd0, fun h => h.elim, fun h => h.elim, fun h => h.elim, fun h => h.elim, fun h => h.elim, fun h => h.elim, fun h => h.elim, fun h => h.elim, fun h => h.elim⟩⟩ ?_ ?_
  · intro j o ho L a' W hni hdep hI K hK
    obtain ⟨s7, s31, s32, s33, s34, s35, s36, s37, s38, rfl, hk⟩ := hI
    have hq : W.cell? ⟨T2, 1, none⟩ = some (.int .i64 0) := by rw [← hg]; exact cell_of_row _ _ 1 _ _ _ hk.pt.t2
    rcases j with _ | _ | _ | _ | _ | _ | _ | _ | _ | j
    · obtain rfl := Option.some.inj (show some ({ dst := some 31, op := Op.fieldAddr 36 (Operand.tmp 2) 1, type := 0, pos := "constraint.go:175", after := #[], guard := none } : Oper) = some o from ho)
      unfold fr6
      go_simp
      refine hK.out _ _ ⟨s7, (.pointer (some ⟨T2, 1, none⟩)), s32, s33, s34, s35, s36, s37, s38, rfl, ⟨hk.pt, (fun _ => rfl), (fun hl => hk.v32 (hl.resolve_left (by decide))), (fun hl => hk.v33 (hl.resolve_left (by decide))), (fun hl => hk.v34 (hl.resolve_left (by decide))), (fun hl => hk.v35 (hl.resolve_left (by decide))), (fun hl => hk.v36 (hl.resolve_left (by decide))), (fun hl => hk.v37 (hl.resolve_left (by decide))), (fun hl => hk.v38 (hl.resolve_left (by decide))), (fun hl => hk.v7 (hl.resolve_left (by decide)))⟩⟩
    · obtain rfl := Option.some.inj (show some ({ dst := some 32, op := Op.load 3 (Operand.tmp 31), type := 3, pos := "constraint.go:175", after := #[{ on := 0, ground := Ground.data }], guard := none } : Oper) = some o from ho)
      have g0 := hk.v31 (hdep ⟨0, .data⟩ (by simp) rfl)
      subst g0
      unfold fr6
      go_simp
      refine hK.out _ _ ⟨s7, (.pointer (some ⟨T2, 1, none⟩)), (.int .i64 0), s33, s34, s35, s36, s37, s38, rfl, ⟨hk.pt, (fun hl => hk.v31 (hl.resolve_left (by decide))), (fun _ => rfl), (fun hl => hk.v33 (hl.resolve_left (by decide))), (fun hl => hk.v34 (hl.resolve_left (by decide))), (fun hl => hk.v35 (hl.resolve_left (by decide))), (fun hl => hk.v36 (hl.resolve_left (by decide))), (fun hl => hk.v37 (hl.resolve_left (by decide))), (fun hl => hk.v38 (hl.resolve_left (by decide))), (fun hl => hk.v7 (hl.resolve_left (by decide)))⟩⟩
    · obtain rfl := Option.some.inj (show some ({ dst := some 33, op := Op.move (Operand.tmp 1), type := 48, pos := "constraint.go:175", after := #[], guard := none } : Oper) = some o from ho)
      unfold fr6
      go_simp
      refine hK.out _ _ ⟨s7, s31, s32, (.pointer (some ⟨S, 0, none⟩)), s34, s35, s36, s37, s38, rfl, ⟨hk.pt, (fun hl => hk.v31 (hl.resolve_left (by decide))), (fun hl => hk.v32 (hl.resolve_left (by decide))), (fun _ => rfl), (fun hl => hk.v34 (hl.resolve_left (by decide))), (fun hl => hk.v35 (hl.resolve_left (by decide))), (fun hl => hk.v36 (hl.resolve_left (by decide))), (fun hl => hk.v37 (hl.resolve_left (by decide))), (fun hl => hk.v38 (hl.resolve_left (by decide))), (fun hl => hk.v7 (hl.resolve_left (by decide)))⟩⟩
    · obtain rfl := Option.some.inj (show some ({ dst := some 34, op := Op.fieldAddr 36 (Operand.tmp 2) 1, type := 0, pos := "constraint.go:175", after := #[], guard := none } : Oper) = some o from ho)
      unfold fr6
      go_simp
      refine hK.out _ _ ⟨s7, s31, s32, s33, (.pointer (some ⟨T2, 1, none⟩)), s35, s36, s37, s38, rfl, ⟨hk.pt, (fun hl => hk.v31 (hl.resolve_left (by decide))), (fun hl => hk.v32 (hl.resolve_left (by decide))), (fun hl => hk.v33 (hl.resolve_left (by decide))), (fun _ => rfl), (fun hl => hk.v35 (hl.resolve_left (by decide))), (fun hl => hk.v36 (hl.resolve_left (by decide))), (fun hl => hk.v37 (hl.resolve_left (by decide))), (fun hl => hk.v38 (hl.resolve_left (by decide))), (fun hl => hk.v7 (hl.resolve_left (by decide)))⟩⟩
    · obtain rfl := Option.some.inj (show some ({ dst := some 35, op := Op.load 3 (Operand.tmp 34), type := 3, pos := "constraint.go:175", after := #[{ on := 3, ground := Ground.data }], guard := none } : Oper) = some o from ho)
      have g3 := hk.v34 (hdep ⟨3, .data⟩ (by simp) rfl)
      subst g3
      unfold fr6
      go_simp
      refine hK.out _ _ ⟨s7, s31, s32, s33, (.pointer (some ⟨T2, 1, none⟩)), (.int .i64 0), s36, s37, s38, rfl, ⟨hk.pt, (fun hl => hk.v31 (hl.resolve_left (by decide))), (fun hl => hk.v32 (hl.resolve_left (by decide))), (fun hl => hk.v33 (hl.resolve_left (by decide))), (fun hl => hk.v34 (hl.resolve_left (by decide))), (fun _ => rfl), (fun hl => hk.v36 (hl.resolve_left (by decide))), (fun hl => hk.v37 (hl.resolve_left (by decide))), (fun hl => hk.v38 (hl.resolve_left (by decide))), (fun hl => hk.v7 (hl.resolve_left (by decide)))⟩⟩
    · obtain rfl := Option.some.inj (show some ({ dst := some 36, op := Op.binOp BinOp.sub 3 (Operand.const (Value.int IntKind.i64 4)) (Operand.tmp 35) 3, type := 3, pos := "constraint.go:175", after := #[{ on := 4, ground := Ground.data }], guard := none } : Oper) = some o from ho)
      have g4 := hk.v35 (hdep ⟨4, .data⟩ (by simp) rfl)
      subst g4
      unfold fr6
      go_simp
      refine hK.out _ _ ⟨s7, s31, s32, s33, s34, (.int .i64 0), (.int .i64 4), s37, s38, rfl, ⟨hk.pt, (fun hl => hk.v31 (hl.resolve_left (by decide))), (fun hl => hk.v32 (hl.resolve_left (by decide))), (fun hl => hk.v33 (hl.resolve_left (by decide))), (fun hl => hk.v34 (hl.resolve_left (by decide))), (fun hl => hk.v35 (hl.resolve_left (by decide))), (fun _ => rfl), (fun hl => hk.v37 (hl.resolve_left (by decide))), (fun hl => hk.v38 (hl.resolve_left (by decide))), (fun hl => hk.v7 (hl.resolve_left (by decide)))⟩⟩
    · obtain rfl := Option.some.inj (show some ({ dst := some 37, op := Op.call { callee := Callee.value (Operand.func 21), args := #[Operand.tmp 33, Operand.tmp 36], argTypes := #[48, 3] }, type := 3, pos := "constraint.go:175", after := #[{ on := 2, ground := Ground.data }, { on := 5, ground := Ground.data }], guard := none } : Oper) = some o from ho)
      have g2 := hk.v33 (hdep ⟨2, .data⟩ (by simp) rfl)
      have g5 := hk.v36 (hdep ⟨5, .data⟩ (by simp) rfl)
      subst g2 g5
      unfold fr6
      go_simp
      obtain ⟨x, hx⟩ := hk.pt.s
      (go_at_call 21; refine (m17 S x 4 (by omega) (by omega) W hx).mono ?_; rintro e W1 ⟨q, y, rfl, hq2, hw⟩; subst hw; have hk := hk.put y)
      refine hK.out _ _ ⟨s7, s31, s32, (.pointer (some ⟨S, 0, none⟩)), s34, s35, (.int .i64 4), (.int .i64 (q : Nat)), s38, rfl, ⟨hk.pt, (fun hl => hk.v31 (hl.resolve_left (by decide))), (fun hl => hk.v32 (hl.resolve_left (by decide))), (fun hl => hk.v33 (hl.resolve_left (by decide))), (fun hl => hk.v34 (hl.resolve_left (by decide))), (fun hl => hk.v35 (hl.resolve_left (by decide))), (fun hl => hk.v36 (hl.resolve_left (by decide))), (fun _ => ⟨q, hq2, rfl⟩), (fun hl => hk.v38 (hl.resolve_left (by decide))), (fun hl => hk.v7 (hl.resolve_left (by decide)))⟩⟩
    · obtain rfl := Option.some.inj (show some ({ dst := some 38, op := Op.binOp BinOp.add 3 (Operand.tmp 32) (Operand.tmp 37) 3, type := 3, pos := "constraint.go:175", after := #[{ on := 1, ground := Ground.data }, { on := 6, ground := Ground.data }], guard := none } : Oper) = some o from ho)
      have g1 := hk.v32 (hdep ⟨1, .data⟩ (by simp) rfl)
      obtain ⟨q, hq2, g6⟩ := hk.v37 (hdep ⟨6, .data⟩ (by simp) rfl)
      subst g1 g6
      have hqi : (q : Int) < 4 := by omega
      unfold fr6
      go_simp
      rw [wrap_i _ (by omega)]
      refine hK.out _ _ ⟨s7, s31, (.int .i64 0), s33, s34, s35, s36, (.int .i64 (q : Nat)), (.int .i64 (q : Int)), rfl, ⟨hk.pt, (fun hl => hk.v31 (hl.resolve_left (by decide))), (fun hl => hk.v32 (hl.resolve_left (by decide))), (fun hl => hk.v33 (hl.resolve_left (by decide))), (fun hl => hk.v34 (hl.resolve_left (by decide))), (fun hl => hk.v35 (hl.resolve_left (by decide))), (fun hl => hk.v36 (hl.resolve_left (by decide))), (fun hl => hk.v37 (hl.resolve_left (by decide))), (fun _ => ⟨q, hq2, rfl⟩), (fun hl => hk.v7 (hl.resolve_left (by decide)))⟩⟩
    · obtain rfl := Option.some.inj (show some ({ dst := some 7, op := Op.assign (Operand.tmp 38), type := 3, pos := "constraint.go:175", after := #[{ on := 7, ground := Ground.data }, { on := 6, ground := Ground.chain }, { on := 0, ground := Ground.phase }, { on := 1, ground := Ground.phase }, { on := 2, ground := Ground.phase }, { on := 3, ground := Ground.phase }, { on := 4, ground := Ground.phase }, { on := 5, ground := Ground.phase }, { on := 6, ground := Ground.phase }, { on := 7, ground := Ground.phase }], guard := none } : Oper) = some o from ho)
      obtain ⟨q, hq2, g7⟩ := hk.v38 (hdep ⟨7, .data⟩ (by simp) rfl)
      subst g7
      unfold fr6
      go_simp
      refine hK.out _ _ ⟨(.int .i64 (q : Int)), s31, s32, s33, s34, s35, s36, s37, (.int .i64 (q : Int)), rfl, ⟨hk.pt, (fun hl => hk.v31 (hl.resolve_left (by decide))), (fun hl => hk.v32 (hl.resolve_left (by decide))), (fun hl => hk.v33 (hl.resolve_left (by decide))), (fun hl => hk.v34 (hl.resolve_left (by decide))), (fun hl => hk.v35 (hl.resolve_left (by decide))), (fun hl => hk.v36 (hl.resolve_left (by decide))), (fun hl => hk.v37 (hl.resolve_left (by decide))), (fun hl => hk.v38 (hl.resolve_left (by decide))), (fun _ => ⟨q, hq2, rfl⟩)⟩⟩
    · exact absurd (Array.getElem?_eq_some_iff.1 ho).1 (by simp [ops6])
  · intro L a' W hall hI
    obtain ⟨s7, s31, s32, s33, s34, s35, s36, s37, s38, rfl, hk⟩ := hI
    obtain ⟨q, hq, h7⟩ := hk.v7 (hall 8 (by decide))
    exact hQ q _ _ _ _ _ _ _ _ _ W hk.pt hq h7
structure I61 (w : World) (S N5 T2 : Nat) (t : TV) (L : Nat → Prop) (s7 s31 s32 s33 s34 s35 s36 s37 s38 : Value) (W : World) : Prop where
  pt : PT w S N5 T2 t W
  v31 : L 0 → s31 = .pointer (some ⟨T2, 1, none⟩)
  v32 : L 1 → s32 = .int .i64 1
  v33 : L 2 → s33 = .pointer (some ⟨S, 0, none⟩)
  v34 : L 3 → s34 = .pointer (some ⟨T2, 1, none⟩)
  v35 : L 4 → s35 = .int .i64 1
  v36 : L 5 → s36 = .int .i64 3
  v37 : L 6 → ∃ q : Nat, q < 3 ∧ s37 = .int .i64 (q : Nat)
  v38 : L 7 → ∃ q : Nat, q < 3 ∧ s38 = .int .i64 (1 + (q : Int))
  v7 : L 8 → ∃ q : Nat, q < 3 ∧ s7 = .int .i64 (1 + (q : Int))
theorem I61.put {w : World} {S N5 T2 : Nat} {t : TV} {L : Nat → Prop} {s7 s31 s32 s33 s34 s35 s36 s37 s38 : Value} {W : World} (h : I61 w S N5 T2 t L s7 s31 s32 s33 s34 s35 s36 s37 s38 W) (y : Int) : I61 w S N5 T2 t L s7 s31 s32 s33 s34 s35 s36 s37 s38 (W.setCell ⟨S, 0, none⟩ (.int .u64 y)) :=
  ⟨h.pt.put y, h.v31, h.v32, h.v33, h.v34, h.v35, h.v36, h.v37, h.v38, h.v7⟩
set_option maxHeartbeats 8000000 in
theorem region6_1 (y7 : Value) (x0 x3 x4 x5 x6 x8 x9 x10 x11 x12 x13 x14 x15 x16 x17 x18 x19 x20 x21 x22 x23 x24 x25 x26 x27 x28 x29 x30 x39 x40 x41 x42 x43 x44 x45 x46 x47 x48 x49 x50 x51 x52 x53 x54 x55 x56 x57 x58 x59 x60 x61 x62 x63 x64 x65 x66 x67 x68 x69 x70 x71 x72 x73 x74 x75 x76 x77 x78 x79 x80 x81 x82 x83 x84 x85 x86 x87 x88 x89 x90 x91 x92 : Value) (w : World) (S N5 T2 : Nat) (t : TV) (w5 : World) (hpt : PT w S N5 T2 t w5) (hg : t.g = 1)
    {Q : Exit → Act → World → Prop} (hQ : ∀ (q : Nat) s7 s31 s32 s33 s34 s35 s36 s37 s38 W, PT w S N5 T2 t W → q < 3 → s7 = .int .i64 (1 + (q : Int)) → Q .normal (fr6 S T2 x0 x3 x4 x5 x6 x8 x9 x10 x11 x12 x13 x14 x15 x16 x17 x18 x19 x20 x21 x22 x23 x24 x25 x26 x27 x28 x29 x30 x39 x40 x41 x42 x43 x44 x45 x46 x47 x48 x49 x50 x51 x52 x53 x54 x55 x56 x57 x58 x59 x60 x61 x62 x63 x64 x65 x66 x67 x68 x69 x70 x71 x72 x73 x74 x75 x76 x77 x78 x79 x80 x81 x82 x83 x84 x85 x86 x87 x88 x89 x90 x91 x92 s7 s31 s32 s33 s34 s35 s36 s37 s38) W) :
    (Code.region 6 ops6 true).wp Tryz.prog Q (fr6 S T2 x0 x3 x4 x5 x6 x8 x9 x10 x11 x12 x13 x14 x15 x16 x17 x18 x19 x20 x21 x22 x23 x24 x25 x26 x27 x28 x29 x30 x39 x40 x41 x42 x43 x44 x45 x46 x47 x48 x49 x50 x51 x52 x53 x54 x55 x56 x57 x58 x59 x60 x61 x62 x63 x64 x65 x66 x67 x68 x69 x70 x71 x72 x73 x74 x75 x76 x77 x78 x79 x80 x81 x82 x83 x84 x85 x86 x87 x88 x89 x90 x91 x92 y7 undef undef undef undef undef undef undef undef) w5 := by
  have hd0 := hpt.keep (Below.refl w5.heap.size w5).drew
  refine wp_region_inv (by kernel_rfl) (fun L a' W => ∃ s7 s31 s32 s33 s34 s35 s36 s37 s38, a' = fr6 S T2 x0 x3 x4 x5 x6 x8 x9 x10 x11 x12 x13 x14 x15 x16 x17 x18 x19 x20 x21 x22 x23 x24 x25 x26 x27 x28 x29 x30 x39 x40 x41 x42 x43 x44 x45 x46 x47 x48 x49 x50 x51 x52 x53 x54 x55 x56 x57 x58 x59 x60 x61 x62 x63 x64 x65 x66 x67 x68 x69 x70 x71 x72 x73 x74 x75 x76 x77 x78 x79 x80 x81 x82 x83 x84 x85 x86 x87 x88 x89 x90 x91 x92 s7 s31 s32 s33 s34 s35 s36 s37 s38 ∧ I61 w S N5 T2 t L s7 s31 s32 s33 s34 s35 s36 s37 s38 W) (by kernel_rfl) ⟨_, _, _, _, _, _, _, _, _, rfl, ⟨hd0, fun h => h.elim, fun h => h.elim, fun h => h.elim, fun h => h.elim, fun h => h.elim, fun h => h.elim, fun h => h.elim, fun h => h.elim, fun h => h.elim⟩⟩ ?_ ?_
  · intro j o ho L a' W hni hdep hI K hK
    obtain ⟨s7, s31, s32, s33, s34, s35, s36, s37, s38, rfl, hk⟩ := hI
    have hq : W.cell? ⟨T2, 1, none⟩ = some (.int .i64 1) := by rw [← hg]; exact cell_of_row _ _ 1 _ _ _ hk.pt.t2
    rcases j with _ | _ | _ | _ | _ | _ | _ | _ | _ | j
    · obtain rfl := Option.some.inj (show some ({ dst := some 31, op := Op.fieldAddr 36 (Operand.tmp 2) 1, type := 0, pos := "constraint.go:175", after := #[], guard := none } : Oper) = some o from ho)
      unfold fr6
      go_simp
      refine hK.out _ _ ⟨s7, (.pointer (some ⟨T2, 1, none⟩)), s32, s33, s34, s35, s36, s37, s38, rfl, ⟨hk.pt, (fun _ => rfl), (fun hl => hk.v32 (hl.resolve_left (by decide))), (fun hl => hk.v33 (hl.resolve_left (by decide))), (fun hl => hk.v34 (hl.resolve_left (by decide))), (fun hl => hk.v35 (hl.resolve_left (by decide))), (fun hl => hk.v36 (hl.resolve_left (by decide))), (fun hl => hk.v37 (hl.resolve_left (by decide))), (fun hl => hk.v38 (hl.resolve_left (by decide))), (fun hl => hk.v7 (hl.resolve_left (by decide)))⟩⟩
    · obtain rfl := Option.some.inj (show some ({ dst := some 32, op := Op.load 3 (Operand.tmp 31), type := 3, pos := "constraint.go:175", after := #[{ on := 0, ground := Ground.data }], guard := none } : Oper) = some o from ho)
      have g0 := hk.v31 (hdep ⟨0, .data⟩ (by simp) rfl)
      subst g0
      unfold fr6
      go_simp
      refine hK.out _ _ ⟨s7, (.pointer (some ⟨T2, 1, none⟩)), (.int .i64 1), s33, s34, s35, s36, s37, s38, rfl, ⟨hk.pt, (fun hl => hk.v31 (hl.resolve_left (by decide))), (fun _ => rfl), (fun hl => hk.v33 (hl.resolve_left (by decide))), (fun hl => hk.v34 (hl.resolve_left (by decide))), (fun hl => hk.v35 (hl.resolve_left (by decide))), (fun hl => hk.v36 (hl.resolve_left (by decide))), (fun hl => hk.v37 (hl.resolve_left (by decide))), (fun hl => hk.v38 (hl.resolve_left (by decide))), (fun hl => hk.v7 (hl.resolve_left (by decide)))⟩⟩
    · obtain rfl := Option.some.inj (show some ({ dst := some 33, op := Op.move (Operand.tmp 1), type := 48, pos := "constraint.go:175", after := #[], guard := none } : Oper) = some o from ho)
      unfold fr6
      go_simp
      refine hK.out _ _ ⟨s7, s31, s32, (.pointer (some ⟨S, 0, none⟩)), s34, s35, s36, s37, s38, rfl, ⟨hk.pt, (fun hl => hk.v31 (hl.resolve_left (by decide))), (fun hl => hk.v32 (hl.resolve_left (by decide))), (fun _ => rfl), (fun hl => hk.v34 (hl.resolve_left (by decide))), (fun hl => hk.v35 (hl.resolve_left (by decide))), (fun hl => hk.v36 (hl.resolve_left (by decide))), (fun hl => hk.v37 (hl.resolve_left (by decide))), (fun hl => hk.v38 (hl.resolve_left (by decide))), (fun hl => hk.v7 (hl.resolve_left (by decide)))⟩⟩
    · obtain rfl := Option.some.inj (show some ({ dst := some 34, op := Op.fieldAddr 36 (Operand.tmp 2) 1, type := 0, pos := "constraint.go:175", after := #[], guard := none } : Oper) = some o from ho)
      unfold fr6
      go_simp
      refine hK.out _ _ ⟨s7, s31, s32, s33, (.pointer (some ⟨T2, 1, none⟩)), s35, s36, s37, s38, rfl, ⟨hk.pt, (fun hl => hk.v31 (hl.resolve_left (by decide))), (fun hl => hk.v32 (hl.resolve_left (by decide))), (fun hl => hk.v33 (hl.resolve_left (by decide))), (fun _ => rfl), (fun hl => hk.v35 (hl.resolve_left (by decide))), (fun hl => hk.v36 (hl.resolve_left (by decide))), (fun hl => hk.v37 (hl.resolve_left (by decide))), (fun hl => hk.v38 (hl.resolve_left (by decide))), (fun hl => hk.v7 (hl.resolve_left (by decide)))⟩⟩
    · obtain rfl := Option.some.inj (show some ({ dst := some 35, op := Op.load 3 (Operand.tmp 34), type := 3, pos := "constraint.go:175", after := #[{ on := 3, ground := Ground.data }], guard := none } : Oper) = some o from ho)
      have g3 := hk.v34 (hdep ⟨3, .data⟩ (by simp) rfl)
      subst g3
      unfold fr6
      go_simp
      refine hK.out _ _ ⟨s7, s31, s32, s33, (.pointer (some ⟨T2, 1, none⟩)), (.int .i64 1), s36, s37, s38, rfl, ⟨hk.pt, (fun hl => hk.v31 (hl.resolve_left (by decide))), (fun hl => hk.v32 (hl.resolve_left (by decide))), (fun hl => hk.v33 (hl.resolve_left (by decide))), (fun hl => hk.v34 (hl.resolve_left (by decide))), (fun _ => rfl), (fun hl => hk.v36 (hl.resolve_left (by decide))), (fun hl => hk.v37 (hl.resolve_left (by decide))), (fun hl => hk.v38 (hl.resolve_left (by decide))), (fun hl => hk.v7 (hl.resolve_left (by decide)))⟩⟩
    · obtain rfl := Option.some.inj (show some ({ dst := some 36, op := Op.binOp BinOp.sub 3 (Operand.const (Value.int IntKind.i64 4)) (Operand.tmp 35) 3, type := 3, pos := "constraint.go:175", after := #[{ on := 4, ground := Ground.data }], guard := none } : Oper) = some o from ho)
      have g4 := hk.v35 (hdep ⟨4, .data⟩ (by simp) rfl)
      subst g4
      unfold fr6
      go_simp
      refine hK.out _ _ ⟨s7, s31, s32, s33, s34, (.int .i64 1), (.int .i64 3), s37, s38, rfl, ⟨hk.pt, (fun hl => hk.v31 (hl.resolve_left (by decide))), (fun hl => hk.v32 (hl.resolve_left (by decide))), (fun hl => hk.v33 (hl.resolve_left (by decide))), (fun hl => hk.v34 (hl.resolve_left (by decide))), (fun hl => hk.v35 (hl.resolve_left (by decide))), (fun _ => rfl), (fun hl => hk.v37 (hl.resolve_left (by decide))), (fun hl => hk.v38 (hl.resolve_left (by decide))), (fun hl => hk.v7 (hl.resolve_left (by decide)))⟩⟩
    · obtain rfl := Option.some.inj (show some ({ dst := some 37, op := Op.call { callee := Callee.value (Operand.func 21), args := #[Operand.tmp 33, Operand.tmp 36], argTypes := #[48, 3] }, type := 3, pos := "constraint.go:175", after := #[{ on := 2, ground := Ground.data }, { on := 5, ground := Ground.data }], guard := none } : Oper) = some o from ho)
      have g2 := hk.v33 (hdep ⟨2, .data⟩ (by simp) rfl)
      have g5 := hk.v36 (hdep ⟨5, .data⟩ (by simp) rfl)
      subst g2 g5
      unfold fr6
      go_simp
      obtain ⟨x, hx⟩ := hk.pt.s
      (go_at_call 21; refine (m17 S x 3 (by omega) (by omega) W hx).mono ?_; rintro e W1 ⟨q, y, rfl, hq2, hw⟩; subst hw; have hk := hk.put y)
      refine hK.out _ _ ⟨s7, s31, s32, (.pointer (some ⟨S, 0, none⟩)), s34, s35, (.int .i64 3), (.int .i64 (q : Nat)), s38, rfl, ⟨hk.pt, (fun hl => hk.v31 (hl.resolve_left (by decide))), (fun hl => hk.v32 (hl.resolve_left (by decide))), (fun hl => hk.v33 (hl.resolve_left (by decide))), (fun hl => hk.v34 (hl.resolve_left (by decide))), (fun hl => hk.v35 (hl.resolve_left (by decide))), (fun hl => hk.v36 (hl.resolve_left (by decide))), (fun _ => ⟨q, hq2, rfl⟩), (fun hl => hk.v38 (hl.resolve_left (by decide))), (fun hl => hk.v7 (hl.resolve_left (by decide)))⟩⟩
    · obtain rfl := Option.some.inj (show some ({ dst := some 38, op := Op.binOp BinOp.add 3 (Operand.tmp 32) (Operand.tmp 37) 3, type := 3, pos := "constraint.go:175", after := #[{ on := 1, ground := Ground.data }, { on := 6, ground := Ground.data }], guard := none } : Oper) = some o from ho)
      have g1 := hk.v32 (hdep ⟨1, .data⟩ (by simp) rfl)
      obtain ⟨q, hq2, g6⟩ := hk.v37 (hdep ⟨6, .data⟩ (by simp) rfl)
      subst g1 g6
      have hqi : (q : Int) < 4 := by omega
      unfold fr6
      go_simp
      rw [wrap_i _ (by omega)]
      refine hK.out _ _ ⟨s7, s31, (.int .i64 1), s33, s34, s35, s36, (.int .i64 (q : Nat)), (.int .i64 (1 + (q : Int))), rfl, ⟨hk.pt, (fun hl => hk.v31 (hl.resolve_left (by decide))), (fun hl => hk.v32 (hl.resolve_left (by decide))), (fun hl => hk.v33 (hl.resolve_left (by decide))), (fun hl => hk.v34 (hl.resolve_left (by decide))), (fun hl => hk.v35 (hl.resolve_left (by decide))), (fun hl => hk.v36 (hl.resolve_left (by decide))), (fun hl => hk.v37 (hl.resolve_left (by decide))), (fun _ => ⟨q, hq2, rfl⟩), (fun hl => hk.v7 (hl.resolve_left (by decide)))⟩⟩
    · obtain rfl := Option.some.inj (show some ({ dst := some 7, op := Op.assign (Operand.tmp 38), type := 3, pos := "constraint.go:175", after := #[{ on := 7, ground := Ground.data }, { on := 6, ground := Ground.chain }, { on := 0, ground := Ground.phase }, { on := 1, ground := Ground.phase }, { on := 2, ground := Ground.phase }, { on := 3, ground := Ground.phase }, { on := 4, ground := Ground.phase }, { on := 5, ground := Ground.phase }, { on := 6, ground := Ground.phase }, { on := 7, ground := Ground.phase }], guard := none } : Oper) = some o from ho)
      obtain ⟨q, hq2, g7⟩ := hk.v38 (hdep ⟨7, .data⟩ (by simp) rfl)
      subst g7
      unfold fr6
      go_simp
      refine hK.out _ _ ⟨(.int .i64 (1 + (q : Int))), s31, s32, s33, s34, s35, s36, s37, (.int .i64 (1 + (q : Int))), rfl, ⟨hk.pt, (fun hl => hk.v31 (hl.resolve_left (by decide))), (fun hl => hk.v32 (hl.resolve_left (by decide))), (fun hl => hk.v33 (hl.resolve_left (by decide))), (fun hl => hk.v34 (hl.resolve_left (by decide))), (fun hl => hk.v35 (hl.resolve_left (by decide))), (fun hl => hk.v36 (hl.resolve_left (by decide))), (fun hl => hk.v37 (hl.resolve_left (by decide))), (fun hl => hk.v38 (hl.resolve_left (by decide))), (fun _ => ⟨q, hq2, rfl⟩)⟩⟩
    · exact absurd (Array.getElem?_eq_some_iff.1 ho).1 (by simp [ops6])
  · intro L a' W hall hI
    obtain ⟨s7, s31, s32, s33, s34, s35, s36, s37, s38, rfl, hk⟩ := hI
    obtain ⟨q, hq, h7⟩ := hk.v7 (hall 8 (by decide))
    exact hQ q _ _ _ _ _ _ _ _ _ W hk.pt hq h7
structure I62 (w : World) (S N5 T2 : Nat) (t : TV) (L : Nat → Prop) (s7 s31 s32 s33 s34 s35 s36 s37 s38 : Value) (W : World) : Prop where
  pt : PT w S N5 T2 t W
  v31 : L 0 → s31 = .pointer (some ⟨T2, 1, none⟩)
  v32 : L 1 → s32 = .int .i64 2
  v33 : L 2 → s33 = .pointer (some ⟨S, 0, none⟩)
  v34 : L 3 → s34 = .pointer (some ⟨T2, 1, none⟩)
  v35 : L 4 → s35 = .int .i64 2
  v36 : L 5 → s36 = .int .i64 2
  v37 : L 6 → ∃ q : Nat, q < 2 ∧ s37 = .int .i64 (q : Nat)
  v38 : L 7 → ∃ q : Nat, q < 2 ∧ s38 = .int .i64 (2 + (q : Int))
  v7 : L 8 → ∃ q : Nat, q < 2 ∧ s7 = .int .i64 (2 + (q : Int))
theorem I62.put {w : World} {S N5 T2 : Nat} {t : TV} {L : Nat → Prop} {s7 s31 s32 s33 s34 s35 s36 s37 s38 : Value} {W : World} (h : I62 w S N5 T2 t L s7 s31 s32 s33 s34 s35 s36 s37 s38 W) (y : Int) : I62 w S N5 T2 t L s7 s31 s32 s33 s34 s35 s36 s37 s38 (W.setCell ⟨S, 0, none⟩ (.int .u64 y)) :=
  ⟨h.pt.put y, h.v31, h.v32, h.v33, h.v34, h.v35, h.v36, h.v37, h.v38, h.v7⟩
set_option maxHeartbeats 8000000 in
theorem region6_2 (y7 : Value) (x0 x3 x4 x5 x6 x8 x9 x10 x11 x12 x13 x14 x15 x16 x17 x18 x19 x20 x21 x22 x23 x24 x25 x26 x27 x28 x29 x30 x39 x40 x41 x42 x43 x44 x45 x46 x47 x48 x49 x50 x51 x52 x53 x54 x55 x56 x57 x58 x59 x60 x61 x62 x63 x64 x65 x66 x67 x68 x69 x70 x71 x72 x73 x74 x75 x76 x77 x78 x79 x80 x81 x82 x83 x84 x85 x86 x87 x88 x89 x90 x91 x92 : Value) (w : World) (S N5 T2 : Nat) (t : TV) (w5 : World) (hpt : PT w S N5 T2 t w5) (hg : t.g = 2)
    {Q : Exit → Act → World → Prop} (hQ : ∀ (q : Nat) s7 s31 s32 s33 s34 s35 s36 s37 s38 W, PT w S N5 T2 t W → q < 2 → s7 = .int .i64 (2 + (q : Int)) → Q .normal (fr6 S T2 x0 x3 x4 x5 x6 x8 x9 x10 x11 x12 x13 x14 x15 x16 x17 x18 x19 x20 x21 x22 x23 x24 x25 x26 x27 x28 x29 x30 x39 x40 x41 x42 x43 x44 x45 x46 x47 x48 x49 x50 x51 x52 x53 x54 x55 x56 x57 x58 x59 x60 x61 x62 x63 x64 x65 x66 x67 x68 x69 x70 x71 x72 x73 x74 x75 x76 x77 x78 x79 x80 x81 x82 x83 x84 x85 x86 x87 x88 x89 x90 x91 x92 s7 s31 s32 s33 s34 s35 s36 s37 s38) W) :
    (Code.region 6 ops6 true).wp Tryz.prog Q (fr6 S T2 x0 x3 x4 x5 x6 x8 x9 x10 x11 x12 x13 x14 x15 x16 x17 x18 x19 x20 x21 x22 x23 x24 x25 x26 x27 x28 x29 x30 x39 x40 x41 x42 x43 x44 x45 x46 x47 x48 x49 x50 x51 x52 x53 x54 x55 x56 x57 x58 x59 x60 x61 x62 x63 x64 x65 x66 x67 x68 x69 x70 x71 x72 x73 x74 x75 x76 x77 x78 x79 x80 x81 x82 x83 x84 x85 x86 x87 x88 x89 x90 x91 x92 y7 undef undef undef undef undef undef undef undef) w5 := by
  have hd0 := hpt.keep (Below.refl w5.heap.size w5).drew
  refine wp_region_inv (by kernel_rfl) (fun L a' W => ∃ s7 s31 s32 s33 s34 s35 s36 s37 s38, a' = fr6 S T2 x0 x3 x4 x5 x6 x8 x9 x10 x11 x12 x13 x14 x15 x16 x17 x18 x19 x20 x21 x22 x23 x24 x25 x26 x27 x28 x29 x30 x39 x40 x41 x42 x43 x44 x45 x46 x47 x48 x49 x50 x51 x52 x53 x54 x55 x56 x57 x58 x59 x60 x61 x62 x63 x64 x65 x66 x67 x68 x69 x70 x71 x72 x73 x74 x75 x76 x77 x78 x79 x80 x81 x82 x83 x84 x85 x86 x87 x88 x89 x90 x91 x92 s7 s31 s32 s33 s34 s35 s36 s37 s38 ∧ I62 w S N5 T2 t L s7 s31 s32 s33 s34 s35 s36 s37 s38 W) (by kernel_rfl) ⟨_, _, _, _, _, _, _, _, _, rfl, ⟨hd0, fun h => h.elim, fun h => h.elim, fun h => h.elim, fun h => h.elim, fun h => h.elim, fun h => h.elim, fun h => h.elim, fun h => h.elim, fun h => h.elim⟩⟩ ?_ ?_
  · intro j o ho L a' W hni hdep hI K hK
    obtain ⟨s7, s31, s32, s33, s34, s35, s36, s37, s38, rfl, hk⟩ := hI
    have hq : W.cell? ⟨T2, 1, none⟩ = some (.int .i64 2) := by rw [← hg]; exact cell_of_row _ _ 1 _ _ _ hk.pt.t2
    rcases j with _ | _ | _ | _ | _ | _ | _ | _ | _ | j
    · obtain rfl := Option.some.inj (show some ({ dst := some 31, op := Op.fieldAddr 36 (Operand.tmp 2) 1, type := 0, pos := "constraint.go:175", after := #[], guard := none } : Oper) = some o from ho)
      unfold fr6
      go_simp
      refine hK.out _ _ ⟨s7, (.pointer (some ⟨T2, 1, none⟩)), s32, s33, s34, s35, s36, s37, s38, rfl, ⟨hk.pt, (fun _ => rfl), (fun hl => hk.v32 (hl.resolve_left (by decide))), (fun hl => hk.v33 (hl.resolve_left (by decide))), (fun hl => hk.v34 (hl.resolve_left (by decide))), (fun hl => hk.v35 (hl.resolve_left (by decide))), (fun hl => hk.v36 (hl.resolve_left (by decide))), (fun hl => hk.v37 (hl.resolve_left (by decide))), (fun hl => hk.v38 (hl.resolve_left (by decide))), (fun hl => hk.v7 (hl.resolve_left (by decide)))⟩⟩
    · obtain rfl := Option.some.inj (show some ({ dst := some 32, op := Op.load 3 (Operand.tmp 31), type := 3, pos := "constraint.go:175", after := #[{ on := 0, ground := Ground.data }], guard := none } : Oper) = some o from ho)
      have g0 := hk.v31 (hdep ⟨0, .data⟩ (by simp) rfl)
      subst g0
      unfold fr6
      go_simp
      refine hK.out _ _ ⟨s7, (.pointer (some ⟨T2, 1, none⟩)), (.int .i64 2), s33, s34, s35, s36, s37, s38, rfl, ⟨hk.pt, (fun hl => hk.v31 (hl.resolve_left (by decide))), (fun _ => rfl), (fun hl => hk.v33 (hl.resolve_left (by decide))), (fun hl => hk.v34 (hl.resolve_left (by decide))), (fun hl => hk.v35 (hl.resolve_left (by decide))), (fun hl => hk.v36 (hl.resolve_left (by decide))), (fun hl => hk.v37 (hl.resolve_left (by decide))), (fun hl => hk.v38 (hl.resolve_left (by decide))), (fun hl => hk.v7 (hl.resolve_left (by decide)))⟩⟩
    · obtain rfl := Option.some.inj (show some ({ dst := some 33, op := Op.move (Operand.tmp 1), type := 48, pos := "constraint.go:175", after := #[], guard := none } : Oper) = some o from ho)
      unfold fr6
      go_simp
      refine hK.out _ _ ⟨s7, s31, s32, (.pointer (some ⟨S, 0, none⟩)), s34, s35, s36, s37, s38, rfl, ⟨hk.pt, (fun hl => hk.v31 (hl.resolve_left (by decide))), (fun hl => hk.v32 (hl.resolve_left (by decide))), (fun _ => rfl), (fun hl => hk.v34 (hl.resolve_left (by decide))), (fun hl => hk.v35 (hl.resolve_left (by decide))), (fun hl => hk.v36 (hl.resolve_left (by decide))), (fun hl => hk.v37 (hl.resolve_left (by decide))), (fun hl => hk.v38 (hl.resolve_left (by decide))), (fun hl => hk.v7 (hl.resolve_left (by decide)))⟩⟩
    · obtain rfl := Option.some.inj (show some ({ dst := some 34, op := Op.fieldAddr 36 (Operand.tmp 2) 1, type := 0, pos := "constraint.go:175", after := #[], guard := none } : Oper) = some o from ho)
      unfold fr6
      go_simp
      refine hK.out _ _ ⟨s7, s31, s32, s33, (.pointer (some ⟨T2, 1, none⟩)), s35, s36, s37, s38, rfl, ⟨hk.pt, (fun hl => hk.v31 (hl.resolve_left (by decide))), (fun hl => hk.v32 (hl.resolve_left (by decide))), (fun hl => hk.v33 (hl.resolve_left (by decide))), (fun _ => rfl), (fun hl => hk.v35 (hl.resolve_left (by decide))), (fun hl => hk.v36 (hl.resolve_left (by decide))), (fun hl => hk.v37 (hl.resolve_left (by decide))), (fun hl => hk.v38 (hl.resolve_left (by decide))), (fun hl => hk.v7 (hl.resolve_left (by decide)))⟩⟩
    · obtain rfl := Option.some.inj (show some ({ dst := some 35, op := Op.load 3 (Operand.tmp 34), type := 3, pos := "constraint.go:175", after := #[{ on := 3, ground := Ground.data }], guard := none } : Oper) = some o from ho)
      have g3 := hk.v34 (hdep ⟨3, .data⟩ (by simp) rfl)
      subst g3
      unfold fr6
      go_simp
      refine hK.out _ _ ⟨s7, s31, s32, s33, (.pointer (some ⟨T2, 1, none⟩)), (.int .i64 2), s36, s37, s38, rfl, ⟨hk.pt, (fun hl => hk.v31 (hl.resolve_left (by decide))), (fun hl => hk.v32 (hl.resolve_left (by decide))), (fun hl => hk.v33 (hl.resolve_left (by decide))), (fun hl => hk.v34 (hl.resolve_left (by decide))), (fun _ => rfl), (fun hl => hk.v36 (hl.resolve_left (by decide))), (fun hl => hk.v37 (hl.resolve_left (by decide))), (fun hl => hk.v38 (hl.resolve_left (by decide))), (fun hl => hk.v7 (hl.resolve_left (by decide)))⟩⟩
    · obtain rfl := Option.some.inj (show some ({ dst := some 36, op := Op.binOp BinOp.sub 3 (Operand.const (Value.int IntKind.i64 4)) (Operand.tmp 35) 3, type := 3, pos := "constraint.go:175", after := #[{ on := 4, ground := Ground.data }], guard := none } : Oper) = some o from ho)
      have g4 := hk.v35 (hdep ⟨4, .data⟩ (by simp) rfl)
      subst g4
      unfold fr6
      go_simp
      refine hK.out _ _ ⟨s7, s31, s32, s33, s34, (.int .i64 2), (.int .i64 2), s37, s38, rfl, ⟨hk.pt, (fun hl => hk.v31 (hl.resolve_left (by decide))), (fun hl => hk.v32 (hl.resolve_left (by decide))), (fun hl => hk.v33 (hl.resolve_left (by decide))), (fun hl => hk.v34 (hl.resolve_left (by decide))), (fun hl => hk.v35 (hl.resolve_left (by decide))), (fun _ => rfl), (fun hl => hk.v37 (hl.resolve_left (by decide))), (fun hl => hk.v38 (hl.resolve_left (by decide))), (fun hl => hk.v7 (hl.resolve_left (by decide)))⟩⟩
    · obtain rfl := Option.some.inj (show some ({ dst := some 37, op := Op.call { callee := Callee.value (Operand.func 21), args := #[Operand.tmp 33, Operand.tmp 36], argTypes := #[48, 3] }, type := 3, pos := "constraint.go:175", after := #[{ on := 2, ground := Ground.data }, { on := 5, ground := Ground.data }], guard := none } : Oper) = some o from ho)
      have g2 := hk.v33 (hdep ⟨2, .data⟩ (by simp) rfl)
      have g5 := hk.v36 (hdep ⟨5, .data⟩ (by simp) rfl)
      subst g2 g5
      unfold fr6
      go_simp
      obtain ⟨x, hx⟩ := hk.pt.s
      (go_at_call 21; refine (m17 S x 2 (by omega) (by omega) W hx).mono ?_; rintro e W1 ⟨q, y, rfl, hq2, hw⟩; subst hw; have hk := hk.put y)
      refine hK.out _ _ ⟨s7, s31, s32, (.pointer (some ⟨S, 0, none⟩)), s34, s35, (.int .i64 2), (.int .i64 (q : Nat)), s38, rfl, ⟨hk.pt, (fun hl => hk.v31 (hl.resolve_left (by decide))), (fun hl => hk.v32 (hl.resolve_left (by decide))), (fun hl => hk.v33 (hl.resolve_left (by decide))), (fun hl => hk.v34 (hl.resolve_left (by decide))), (fun hl => hk.v35 (hl.resolve_left (by decide))), (fun hl => hk.v36 (hl.resolve_left (by decide))), (fun _ => ⟨q, hq2, rfl⟩), (fun hl => hk.v38 (hl.resolve_left (by decide))), (fun hl => hk.v7 (hl.resolve_left (by decide)))⟩⟩
    · obtain rfl := Option.some.inj (show some ({ dst := some 38, op := Op.binOp BinOp.add 3 (Operand.tmp 32) (Operand.tmp 37) 3, type := 3, pos := "constraint.go:175", after := #[{ on := 1, ground := Ground.data }, { on := 6, ground := Ground.data }], guard := none } : Oper) = some o from ho)
      have g1 := hk.v32 (hdep ⟨1, .data⟩ (by simp) rfl)
      obtain ⟨q, hq2, g6⟩ := hk.v37 (hdep ⟨6, .data⟩ (by simp) rfl)
      subst g1 g6
      have hqi : (q : Int) < 4 := by omega
      unfold fr6
      go_simp
      rw [wrap_i _ (by omega)]
      refine hK.out _ _ ⟨s7, s31, (.int .i64 2), s33, s34, s35, s36, (.int .i64 (q : Nat)), (.int .i64 (2 + (q : Int))), rfl, ⟨hk.pt, (fun hl => hk.v31 (hl.resolve_left (by decide))), (fun hl => hk.v32 (hl.resolve_left (by decide))), (fun hl => hk.v33 (hl.resolve_left (by decide))), (fun hl => hk.v34 (hl.resolve_left (by decide))), (fun hl => hk.v35 (hl.resolve_left (by decide))), (fun hl => hk.v36 (hl.resolve_left (by decide))), (fun hl => hk.v37 (hl.resolve_left (by decide))), (fun _ => ⟨q, hq2, rfl⟩), (fun hl => hk.v7 (hl.resolve_left (by decide)))⟩⟩
    · obtain rfl := Option.some.inj (show some ({ dst := some 7, op := Op.assign (Operand.tmp 38), type := 3, pos := "constraint.go:175", after := #[{ on := 7, ground := Ground.data }, { on := 6, ground := Ground.chain }, { on := 0, ground := Ground.phase }, { on := 1, ground := Ground.phase }, { on := 2, ground := Ground.phase }, { on := 3, ground := Ground.phase }, { on := 4, ground := Ground.phase }, { on := 5, ground := Ground.phase }, { on := 6, ground := Ground.phase }, { on := 7, ground := Ground.phase }], guard := none } : Oper) = some o from ho)
      obtain ⟨q, hq2, g7⟩ := hk.v38 (hdep ⟨7, .data⟩ (by simp) rfl)
      subst g7
      unfold fr6
      go_simp
      refine hK.out _ _ ⟨(.int .i64 (2 + (q : Int))), s31, s32, s33, s34, s35, s36, s37, (.int .i64 (2 + (q : Int))), rfl, ⟨hk.pt, (fun hl => hk.v31 (hl.resolve_left (by decide))), (fun hl => hk.v32 (hl.resolve_left (by decide))), (fun hl => hk.v33 (hl.resolve_left (by decide))), (fun hl => hk.v34 (hl.resolve_left (by decide))), (fun hl => hk.v35 (hl.resolve_left (by decide))), (fun hl => hk.v36 (hl.resolve_left (by decide))), (fun hl => hk.v37 (hl.resolve_left (by decide))), (fun hl => hk.v38 (hl.resolve_left (by decide))), (fun _ => ⟨q, hq2, rfl⟩)⟩⟩
    · exact absurd (Array.getElem?_eq_some_iff.1 ho).1 (by simp [ops6])
  · intro L a' W hall hI
    obtain ⟨s7, s31, s32, s33, s34, s35, s36, s37, s38, rfl, hk⟩ := hI
    obtain ⟨q, hq, h7⟩ := hk.v7 (hall 8 (by decide))
    exact hQ q _ _ _ _ _ _ _ _ _ W hk.pt hq h7
end Go.Proofs.YthejepmnnpmdmaaGreatDoor.Sv
end
section
set_option linter.unusedVariables false
set_option linter.unusedSimpArgs false
/- what PartialText writes is a version in one of its ways -/
namespace Go.Proofs.YthejepmnnpmdmaaGreatDoor.Sv
open Go Go.RowKit Rx
set_option maxRecDepth 100000
/-- a version's text of a term -/
def VerTx (t : TV) (V : Bs) : Prop := ∃ q : GT, q.g = t.g.toNat ∧ q.a = t.a ∧ q.b = t.b ∧ q.c = t.c ∧ q.pre = t.pre ∧ wildB q.w1 ∧ (∀ y, q.w2 = some y → wildB y) ∧ (∀ y, q.w3 = some y → wildB y) ∧ (q.g ≤ 1 → q.w2 = none → q.w3 = none) ∧ V = q.ver.text
def vb (v : Bool) : Bs := if v then [118] else []
def mb (m : Bool) : Bs := if m then [43, 98, 46, 48, 49] else []
def pb (p : Bs) : Bs := if p = [] then [] else 45 :: p
theorem gtext_pgrp (p : Bs) : gtext 45 (pgrp p) = pb p := by
  unfold pgrp pb
  split
  · rfl
  · obtain ⟨x, r, e1, e2⟩ := idents_join p.length p (Nat.le_refl _)
    rw [e1]
    exact congrArg (45 :: ·) e2.symm
theorem gtext_mgrp (m : Bool) : gtext 43 (mgrp m) = mb m := by cases m <;> simp [mgrp, mb, gtext, dots]
theorem vertx0 (t : TV) (hg : t.g = 0) (v : Bool) (w1 : Bs) (l : List Bs) (h1 : wildB w1) (hl : ∀ y ∈ l, wildB y) (hn : l.length ≤ 2) : VerTx t (vb v ++ (w1 ++ dots l)) := by
  match l, hn with
  | [], _ => exact ⟨⟨[], [], 0, v, false, false, false, w1, none, none, t.a, t.b, t.c, t.pre, false⟩, by simp [hg], rfl, rfl, rfl, rfl, h1, by simp, by simp, by simp, by simp [GT.ver, Ver.text, ptext, gtext, dots, vb]⟩
  | [w2], _ => exact ⟨⟨[], [], 0, v, false, false, false, w1, some w2, none, t.a, t.b, t.c, t.pre, false⟩, by simp [hg], rfl, rfl, rfl, rfl, h1, fun y hy => by obtain rfl := Option.some.inj hy; exact hl _ (by simp), by simp, by simp, by simp [GT.ver, Ver.text, ptext, gtext, dots, vb]⟩
  | [w2, w3], _ => exact ⟨⟨[], [], 0, v, false, false, false, w1, some w2, some w3, t.a, t.b, t.c, t.pre, false⟩, by simp [hg], rfl, rfl, rfl, rfl, h1, fun y hy => by obtain rfl := Option.some.inj hy; exact hl _ (by simp), fun y hy => by obtain rfl := Option.some.inj hy; exact hl _ (by simp), by simp, by simp [GT.ver, Ver.text, ptext, gtext, dots, vb]⟩
theorem wx1 : wildB [120] := .inl rfl
theorem vertx1 (t : TV) (hg : t.g = 1) (v z1 : Bool) (l : List Bs) (hl : ∀ y ∈ l, wildB y) (hn : l.length ≤ 2) : VerTx t (vb v ++ (num z1 t.a ++ dots l)) := by
  match l, hn with
  | [], _ => exact ⟨⟨[], [], 1, v, z1, false, false, [120], none, none, t.a, t.b, t.c, t.pre, false⟩, by simp [hg], rfl, rfl, rfl, rfl, wx1, by simp, by simp, by simp, by simp [GT.ver, Ver.text, ptext, gtext, dots, vb]⟩
  | [w2], _ => exact ⟨⟨[], [], 1, v, z1, false, false, [120], some w2, none, t.a, t.b, t.c, t.pre, false⟩, by simp [hg], rfl, rfl, rfl, rfl, wx1, fun y hy => by obtain rfl := Option.some.inj hy; exact hl _ (by simp), by simp, by simp, by simp [GT.ver, Ver.text, ptext, gtext, dots, vb]⟩
  | [w2, w3], _ => exact ⟨⟨[], [], 1, v, z1, false, false, [120], some w2, some w3, t.a, t.b, t.c, t.pre, false⟩, by simp [hg], rfl, rfl, rfl, rfl, wx1, fun y hy => by obtain rfl := Option.some.inj hy; exact hl _ (by simp), fun y hy => by obtain rfl := Option.some.inj hy; exact hl _ (by simp), by simp, by simp [GT.ver, Ver.text, ptext, gtext, dots, vb]⟩
theorem vertx2 (t : TV) (hg : t.g = 2) (v z1 z2 : Bool) (l : List Bs) (hl : ∀ y ∈ l, wildB y) (hn : l.length ≤ 1) : VerTx t (vb v ++ (num z1 t.a ++ dots (num z2 t.b :: l))) := by
  match l, hn with
  | [], _ => exact ⟨⟨[], [], 2, v, z1, z2, false, [120], none, none, t.a, t.b, t.c, t.pre, false⟩, by simp [hg], rfl, rfl, rfl, rfl, wx1, by simp, by simp, by simp, by simp [GT.ver, Ver.text, ptext, gtext, dots, vb]⟩
  | [w3], _ => exact ⟨⟨[], [], 2, v, z1, z2, false, [120], none, some w3, t.a, t.b, t.c, t.pre, false⟩, by simp [hg], rfl, rfl, rfl, rfl, wx1, by simp, fun y hy => by obtain rfl := Option.some.inj hy; exact hl _ (by simp), by simp, by simp [GT.ver, Ver.text, ptext, gtext, dots, vb]⟩
theorem vertx3 (t : TV) (hg : t.g = 3) (v z1 z2 z3 m : Bool) : VerTx t (((vb v ++ (num z1 t.a ++ dots [num z2 t.b, num z3 t.c])) ++ pb t.pre) ++ mb m) :=
  ⟨⟨[], [], 3, v, z1, z2, z3, [120], none, none, t.a, t.b, t.c, t.pre, m⟩, by simp [hg], rfl, rfl, rfl, rfl, wx1, by simp, by simp, by simp, by simp [GT.ver, Ver.text, ptext, gtext_pgrp, gtext_mgrp, dots, vb]⟩
/-- the pieces so far -/
def PJ : List Bs → Bs
  | [] => []
  | x :: l => x ++ dots l
theorem PJ_snoc (x : Bs) (l : List Bs) (p : Bs) : PJ (x :: l ++ [p]) = PJ (x :: l) ++ (46 :: p) := by simp [PJ, dots]
/-- the pieces of a term with g numbers given -/
structure PcsOk (t : TV) (g : Nat) (L : List Bs) : Prop where
  n0 : ∀ p, L[0]? = some p → 0 < g → ∃ z, p = num z t.a
  n1 : ∀ p, L[1]? = some p → 1 < g → ∃ z, p = num z t.b
  n2 : ∀ p, L[2]? = some p → 2 < g → ∃ z, p = num z t.c
  w : ∀ j p, L[j]? = some p → g ≤ j → wildB p
theorem pieces_tx (t : TV) (g : Nat) (hg : t.g = (g : Nat)) (hg3 : g ≤ 3) (hp : g < 3 → t.pre = []) (v m : Bool) (hm : g < 3 → m = false) (L : List Bs) (h : PcsOk t g L) (h1 : 1 ≤ L.length) (h3 : L.length ≤ 3) (hgl : g ≤ L.length) : VerTx t (((vb v ++ PJ L) ++ pb t.pre) ++ mb m) := by
  have hlow : g < 3 → pb t.pre = [] ∧ mb m = [] := fun h => by rw [hp h, hm h]; exact ⟨rfl, rfl⟩
  match L, h1 with
  | x :: l, _ =>
    have hgc : g = 0 ∨ g = 1 ∨ g = 2 ∨ g = 3 := by omega
    rcases hgc with rfl | rfl | rfl | rfl
    · obtain ⟨e1, e2⟩ := hlow (by omega)
      rw [e1, e2, List.append_nil, List.append_nil]
      exact vertx0 t hg v x l (h.w 0 x rfl (Nat.le_refl _)) (fun y hy => by
        obtain ⟨j, hj, rfl⟩ := List.getElem_of_mem hy
        exact h.w (j + 1) _ (by simp) (by omega)) (by simp at h3; omega)
    · obtain ⟨e1, e2⟩ := hlow (by omega)
      rw [e1, e2, List.append_nil, List.append_nil]
      obtain ⟨z, rfl⟩ := h.n0 x rfl (by omega)
      exact vertx1 t hg v z l (fun y hy => by
        obtain ⟨j, hj, rfl⟩ := List.getElem_of_mem hy
        exact h.w (j + 1) _ (by simp) (by omega)) (by simp at h3; omega)
    · obtain ⟨e1, e2⟩ := hlow (by omega)
      rw [e1, e2, List.append_nil, List.append_nil]
      obtain ⟨z, rfl⟩ := h.n0 x rfl (by omega)
      match l, hgl with
      | y :: l, _ =>
        obtain ⟨z2, rfl⟩ := h.n1 y rfl (by omega)
        exact vertx2 t hg v z z2 l (fun y hy => by
          obtain ⟨j, hj, rfl⟩ := List.getElem_of_mem hy
          exact h.w (j + 2) _ (by simp) (by omega)) (by simp at h3; omega)
    · obtain ⟨z, rfl⟩ := h.n0 x rfl (by omega)
      match l, hgl, h3 with
      | [y, y2], _, _ =>
        obtain ⟨z2, rfl⟩ := h.n1 y rfl (by omega)
        obtain ⟨z3, rfl⟩ := h.n2 y2 rfl (by omega)
        exact vertx3 t hg v z z2 z3 m
end Go.Proofs.YthejepmnnpmdmaaGreatDoor.Sv
end
