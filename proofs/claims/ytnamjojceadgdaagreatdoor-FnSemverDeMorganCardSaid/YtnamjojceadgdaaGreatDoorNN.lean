/- a part of the proof: FnSemverDeMorgan: for every list of terms, every style and every version the law's function returns true and leaves its arguments as they were. No condition is added: the statement is the given one, the tied card. -/
import Derived.Test.YtnamjojceadgdaaGreatDoorNM
import Derived.Test.YtnamjojceadgdaaGreatDoorNF
import Derived.Test.YtnamjojceadgdaaGreatDoorNB
import Derived.Test.YtnamjojceadgdaaGreatDoorNL
import Derived.Test.YtnamjojceadgdaaGreatDoorNG
section
set_option linter.unusedVariables false
set_option linter.unusedSimpArgs false
/- PartialText where numbers are missing -/
namespace Go.Proofs.YtnamjojceadgdaaGreatDoor.Sv
open Go Go.RowKit Rx
set_option maxRecDepth 100000
theorem dot46 : (⟨#[46]⟩ : ByteArray) = bytesOf [46] := rfl
def wrow3 : Obj := .cells #[.string ⟨#[120]⟩, .string ⟨#[88]⟩, .string ⟨#[42]⟩] 9 (0, 0)
theorem w3cell {W : World} {P q : Nat} (h : W.heap[P]? = some wrow3) (hq : q < 3) : ∃ p : Bs, wildB p ∧ W.cell? ⟨P, q, none⟩ = some (.string (bytesOf p)) := by
  have h' : q = 0 ∨ q = 1 ∨ q = 2 := by omega
  unfold wrow3 at h
  rcases h' with rfl | rfl | rfl
  · exact ⟨[120], .inl rfl, cell_of_row _ _ _ _ _ _ h⟩
  · exact ⟨[88], .inr (.inl rfl), cell_of_row _ _ _ _ _ _ h⟩
  · exact ⟨[42], .inr (.inr rfl), cell_of_row _ _ _ _ _ _ h⟩
set_option maxHeartbeats 8000000 in
theorem m51_0 (op : Int) (a b c : Nat) (ha : a < 18446744073709551616) (hb : b < 18446744073709551616) (hc : c < 18446744073709551616) (S : Nat) (x : Int) (w : World) (hS : w.heap[S]? = some (.cells #[.int .u64 x] 116 (0, 0))) :
    Calls Tryz.prog 90 #[.agg #[.int .i64 op, .int .i64 0, .int .u64 a, .int .u64 b, .int .u64 c, .string (bytesOf [])], .pointer (some ⟨S, 0, none⟩)] w fun e w' => ∃ V, e = .returned (.string (bytesOf V)) ∧ VerTx ⟨op, 0, a, b, c, []⟩ V ∧ Below S w w' ∧ ∃ y : Int, w'.heap[S]? = some (.cells #[.int .u64 y] 116 (0, 0)) := by
  have hSl := (Array.getElem?_eq_some_iff.1 hS).1
  have HH := Lib.hid (And.intro ha (And.intro hb hc))
  have hal1 := (Below.refl _ w).alloc (Nat.le_refl _) (.cells #[.int .i64 op, .int .i64 0, .int .u64 a, .int .u64 b, .int .u64 c, .string (bytesOf [])] 31)
  have hal2 := hal1.alloc hal1.size (.cells #[.int .u64 a, .int .u64 b, .int .u64 c] 23)
  have H0 : PT w S (w.heap.size + 1) w.heap.size ⟨op, 0, a, b, c, []⟩ ((w.alloc (.cells #[.int .i64 op, .int .i64 0, .int .u64 a, .int .u64 b, .int .u64 c, .string (bytesOf [])] 31)).alloc (.cells #[.int .u64 a, .int .u64 b, .int .u64 c] 23)) :=
    ⟨new2' w _ _ _, jblk' ((Below.refl _ _).alloc (Nat.le_refl _) _) (heap_alloc_new w _), ⟨x, jblk' hal2 hS⟩, hal2.mono (Nat.le_of_lt hSl), by simp; omega⟩
  clear ha hb hc hal1 hal2 hS
  go_enter Tryz.func90, Tryz.ntmps90
  go_upto_region 2 with fail
  generalize (w.alloc (.cells #[.int .i64 op, .int .i64 0, .int .u64 a, .int .u64 b, .int .u64 c, .string (bytesOf [])] 31)).alloc (.cells #[.int .u64 a, .int .u64 b, .int .u64 c] 23) = w0 at *
  generalize hN5 : w.heap.size + 1 = N5 at *
  generalize hT2 : w.heap.size = T2 at *
  have H1 := H0.keep ((Below.refl _ _).alloc (Nat.le_refl _) vrow4)
  have hrow := heap_alloc_new w0 vrow4
  have hP : w0.heap.size ≠ S := by have := H0.l; omega
  obtain ⟨x1, hx1⟩ := H1.s
  have HX := Lib.hid hx1
  unfold vrow4 at H1 hrow hx1
  have HPT := Lib.hid (fun y => H1.put y)
  have HRW := Lib.hid (fun y : Int => (show ((w0.alloc (.cells #[.string ⟨#[]⟩, .string ⟨#[]⟩, .string ⟨#[]⟩, .string ⟨#[118]⟩] 9)).setCell ⟨S, 0, none⟩ (.int .u64 y)).heap[w0.heap.size]? = (w0.alloc (.cells #[.string ⟨#[]⟩, .string ⟨#[]⟩, .string ⟨#[]⟩, .string ⟨#[118]⟩] 9)).heap[w0.heap.size]? from heap_setCell_other _ _ _ _ hP).trans hrow)
  have HM := Lib.hid (m17 S x1 4 (by omega) (by omega) _ hx1)
  clear H0 H1 hrow hx1 HX
  go_upto_region 3 with (go_at_call 39; refine HM.out.mono ?_; rintro e w1 ⟨q, y, rfl, hq, hw⟩; have H2 := HPT.out y; have hr2 := HRW.out y; rw [← hw] at H2 hr2; obtain ⟨v, hv⟩ := v4cell hr2 hq; have hqi : (q : Int) < 4 := (by omega); clear hw hr2)
  have q1 : w1.cell? ⟨T2, 1, none⟩ = some (.int .i64 0) := cell_of_row _ _ 1 _ _ _ H2.t2
  have fz := fun k => frozen_of_row _ _ k _ _ H2.t2
  go_upto_region 4 with fail
  rw [show (max 0 (min 3 0) : Int) = 0 from rfl]
  have H3 : PT w S N5 T2 ⟨op, 0, a, b, c, []⟩ (w1.setCell ⟨T2, 1, none⟩ (.int .i64 0)) := H2.setg (by omega)
  generalize w1.setCell ⟨T2, 1, none⟩ (.int .i64 0) = w2 at *
  clear H2 q1 fz hv HPT HRW HM
  have q1 : w2.cell? ⟨T2, 1, none⟩ = some (.int .i64 0) := cell_of_row _ _ 1 _ _ _ H3.t2
  go_upto_region 6 with fail
  refine region6_0 _ _ _ _ _ _ _ _ _ _ _ _ _ _ _ _ _ _ _ _ _ _ _ _ _ _ _ _ _ _ _ _ _ _ _ _ _ _ _ _ _ _ _ _ _ _ _ _ _ _ _ _ _ _ _ _ _ _ _ _ _ _ _ _ _ _ _ _ _ _ _ _ _ _ _ _ _ _ _ _ _ _ _ (hpt := H3) (hg := rfl) (hQ := fun q6 s7 s31 s32 s33 s34 s35 s36 s37 s38 W6 hW6 hq6 h7 => ?_)
  clear H3 q1
  have hqc : q6 = 0 ∨ q6 = 1 ∨ q6 = 2 ∨ q6 = 3 := by omega
  rcases hqc with rfl | rfl | rfl | rfl
  · have h7' : s7 = .int .i64 0 := by rw [h7]; rfl
    clear h7
    subst h7'
    unfold fr6
    go_upto_region 8 with fail
    try rw [show (max 1 0 : Int) = 1 from rfl]
    have HP3 := Lib.hid hW6
    clear hW6
    go_wp2
    go_loopw [6, 42] (fun tv iv W => ∃ (k : Nat) (L : List Bs), iv = .int .i64 (k : Nat) ∧ tv = .string (bytesOf (vb v ++ PJ L)) ∧ k ≤ 1 ∧ L.length = k ∧ Hid (PcsOk ⟨op, 0, a, b, c, []⟩ 0 L ∧ (vb v ++ PJ L).length ≤ 1 + 22 * k ∧ PT w S N5 T2 ⟨op, 0, a, b, c, []⟩ W)) (fun _ iv _ => 1 - (intOf iv).toNat)
    case atStart => exact ⟨0, [], rfl, by simp [PJ], by omega, rfl, Lib.hid ⟨⟨by simp, by simp, by simp, by simp⟩, by cases v <;> simp [vb, PJ], HP3.out⟩⟩
    case round =>
      obtain ⟨k, L, rfl, rfl, hk, hL, HI⟩ := hrel
      have hkc : k = 0 ∨ k = 1 := by omega
      have q1 : wr.cell? ⟨T2, 1, none⟩ = some (.int .i64 0) := cell_of_row _ _ 1 _ _ _ HI.out.2.2.t2
      rcases hkc with rfl | rfl
      · have hsz : (bytesOf (vb v ++ PJ L)).size < 200 := by rw [bytesOf_size]; have := HI.out.2.1; omega
        go_upto_region 15 with fail
        have hs2 : (bytesOf (vb v ++ PJ L)).size < 300 := by rw [bytesOf_size]; have := HI.out.2.1; simp at this ⊢; omega
        have H1 := HI.out.2.2.keep ((Below.refl _ _).alloc (Nat.le_refl _) wrow3)
        have hrow := heap_alloc_new wr wrow3
        have hP : wr.heap.size ≠ S := by have := HI.out.2.2.l; omega
        obtain ⟨x1, hx1⟩ := H1.s
        unfold wrow3 at H1 hrow hx1
        have HPT := Lib.hid (fun y => H1.put y)
        have HRW := Lib.hid (fun y : Int => (show ((wr.alloc (.cells #[.string ⟨#[120]⟩, .string ⟨#[88]⟩, .string ⟨#[42]⟩] 9)).setCell ⟨S, 0, none⟩ (.int .u64 y)).heap[wr.heap.size]? = (wr.alloc (.cells #[.string ⟨#[120]⟩, .string ⟨#[88]⟩, .string ⟨#[42]⟩] 9)).heap[wr.heap.size]? from heap_setCell_other _ _ _ _ hP).trans hrow)
        have HM := Lib.hid (m17 S x1 3 (by omega) (by omega) _ hx1)
        clear H1 hrow hx1
        go_wp2_with (go_at_call 39; refine HM.out.mono ?_; rintro e w9 ⟨q9, y, rfl, hq9, hw⟩; have H2 := HPT.out y; have hr2 := HRW.out y; rw [← hw] at H2 hr2; obtain ⟨p, hpw, hm⟩ := w3cell hr2 hq9; have hqi9 : (q9 : Int) < 3 := (by omega); have zm : (bytesOf p).size ≤ 1 := (by rw [bytesOf_size]; rcases hpw with rfl | rfl | rfl <;> decide); have HF := Lib.hid (And.intro H2 hpw); have HK := Lib.hid ((PJ_step v L p).1 (List.length_eq_zero_iff.1 hL)); clear hw hr2 H2 hpw)
        go_roundw
        case measure => simp [intOf]
        case rel =>
          refine ⟨1, L ++ [p], rfl, ?_, by omega, by rw [List.length_append, hL]; rfl, Lib.hid ⟨HI.out.1.snoc _ (fun h _ => by omega) (fun h _ => by omega) (fun h _ => by omega) (fun h => HF.out.2), ?_, HF.out.1⟩⟩
          · rw [bytes_add, ← HK.out]
          · have h1 := HI.out.2.1
            rw [bytesOf_size] at zm
            rw [← HK.out]
            simp at h1 ⊢
            omega
      · have q5 : wr.cell? ⟨T2, 5, none⟩ = some (.string (bytesOf [])) := cell_of_row _ _ 5 _ _ _ HI.out.2.2.t2
        have e1 := bytesOf_toList []
        have hsz : (bytesOf (vb v ++ PJ L)).size < 200 := by rw [bytesOf_size]; have := HI.out.2.1; omega
        have d5 : (([] : Bs) == ([] : Bs)) = true := rfl
        go_wp2
        go_ret
        have hv := pieces_tx ⟨op, 0, a, b, c, []⟩ 0 rfl (by omega) (fun _ => rfl) v false (fun _ => rfl) L HI.out.1 (by omega) (by omega) (by omega)
        refine ⟨_, ?_, hv, HI.out.2.2.b, HI.out.2.2.s⟩
        simp [pb, mb]
  · have h7' : s7 = .int .i64 1 := by rw [h7]; rfl
    clear h7
    subst h7'
    unfold fr6
    go_upto_region 8 with fail
    try rw [show (max 1 1 : Int) = 1 from rfl]
    have HP3 := Lib.hid hW6
    clear hW6
    go_wp2
    go_loopw [6, 42] (fun tv iv W => ∃ (k : Nat) (L : List Bs), iv = .int .i64 (k : Nat) ∧ tv = .string (bytesOf (vb v ++ PJ L)) ∧ k ≤ 1 ∧ L.length = k ∧ Hid (PcsOk ⟨op, 0, a, b, c, []⟩ 0 L ∧ (vb v ++ PJ L).length ≤ 1 + 22 * k ∧ PT w S N5 T2 ⟨op, 0, a, b, c, []⟩ W)) (fun _ iv _ => 1 - (intOf iv).toNat)
    case atStart => exact ⟨0, [], rfl, by simp [PJ], by omega, rfl, Lib.hid ⟨⟨by simp, by simp, by simp, by simp⟩, by cases v <;> simp [vb, PJ], HP3.out⟩⟩
    case round =>
      obtain ⟨k, L, rfl, rfl, hk, hL, HI⟩ := hrel
      have hkc : k = 0 ∨ k = 1 := by omega
      have q1 : wr.cell? ⟨T2, 1, none⟩ = some (.int .i64 0) := cell_of_row _ _ 1 _ _ _ HI.out.2.2.t2
      rcases hkc with rfl | rfl
      · have hsz : (bytesOf (vb v ++ PJ L)).size < 200 := by rw [bytesOf_size]; have := HI.out.2.1; omega
        go_upto_region 15 with fail
        have hs2 : (bytesOf (vb v ++ PJ L)).size < 300 := by rw [bytesOf_size]; have := HI.out.2.1; simp at this ⊢; omega
        have H1 := HI.out.2.2.keep ((Below.refl _ _).alloc (Nat.le_refl _) wrow3)
        have hrow := heap_alloc_new wr wrow3
        have hP : wr.heap.size ≠ S := by have := HI.out.2.2.l; omega
        obtain ⟨x1, hx1⟩ := H1.s
        unfold wrow3 at H1 hrow hx1
        have HPT := Lib.hid (fun y => H1.put y)
        have HRW := Lib.hid (fun y : Int => (show ((wr.alloc (.cells #[.string ⟨#[120]⟩, .string ⟨#[88]⟩, .string ⟨#[42]⟩] 9)).setCell ⟨S, 0, none⟩ (.int .u64 y)).heap[wr.heap.size]? = (wr.alloc (.cells #[.string ⟨#[120]⟩, .string ⟨#[88]⟩, .string ⟨#[42]⟩] 9)).heap[wr.heap.size]? from heap_setCell_other _ _ _ _ hP).trans hrow)
        have HM := Lib.hid (m17 S x1 3 (by omega) (by omega) _ hx1)
        clear H1 hrow hx1
        go_wp2_with (go_at_call 39; refine HM.out.mono ?_; rintro e w9 ⟨q9, y, rfl, hq9, hw⟩; have H2 := HPT.out y; have hr2 := HRW.out y; rw [← hw] at H2 hr2; obtain ⟨p, hpw, hm⟩ := w3cell hr2 hq9; have hqi9 : (q9 : Int) < 3 := (by omega); have zm : (bytesOf p).size ≤ 1 := (by rw [bytesOf_size]; rcases hpw with rfl | rfl | rfl <;> decide); have HF := Lib.hid (And.intro H2 hpw); have HK := Lib.hid ((PJ_step v L p).1 (List.length_eq_zero_iff.1 hL)); clear hw hr2 H2 hpw)
        go_roundw
        case measure => simp [intOf]
        case rel =>
          refine ⟨1, L ++ [p], rfl, ?_, by omega, by rw [List.length_append, hL]; rfl, Lib.hid ⟨HI.out.1.snoc _ (fun h _ => by omega) (fun h _ => by omega) (fun h _ => by omega) (fun h => HF.out.2), ?_, HF.out.1⟩⟩
          · rw [bytes_add, ← HK.out]
          · have h1 := HI.out.2.1
            rw [bytesOf_size] at zm
            rw [← HK.out]
            simp at h1 ⊢
            omega
      · have q5 : wr.cell? ⟨T2, 5, none⟩ = some (.string (bytesOf [])) := cell_of_row _ _ 5 _ _ _ HI.out.2.2.t2
        have e1 := bytesOf_toList []
        have hsz : (bytesOf (vb v ++ PJ L)).size < 200 := by rw [bytesOf_size]; have := HI.out.2.1; omega
        have d5 : (([] : Bs) == ([] : Bs)) = true := rfl
        go_wp2
        go_ret
        have hv := pieces_tx ⟨op, 0, a, b, c, []⟩ 0 rfl (by omega) (fun _ => rfl) v false (fun _ => rfl) L HI.out.1 (by omega) (by omega) (by omega)
        refine ⟨_, ?_, hv, HI.out.2.2.b, HI.out.2.2.s⟩
        simp [pb, mb]
  · have h7' : s7 = .int .i64 2 := by rw [h7]; rfl
    clear h7
    subst h7'
    unfold fr6
    go_upto_region 8 with fail
    try rw [show (max 1 2 : Int) = 2 from rfl]
    have HP3 := Lib.hid hW6
    clear hW6
    go_wp2
    go_loopw [6, 42] (fun tv iv W => ∃ (k : Nat) (L : List Bs), iv = .int .i64 (k : Nat) ∧ tv = .string (bytesOf (vb v ++ PJ L)) ∧ k ≤ 2 ∧ L.length = k ∧ Hid (PcsOk ⟨op, 0, a, b, c, []⟩ 0 L ∧ (vb v ++ PJ L).length ≤ 1 + 22 * k ∧ PT w S N5 T2 ⟨op, 0, a, b, c, []⟩ W)) (fun _ iv _ => 2 - (intOf iv).toNat)
    case atStart => exact ⟨0, [], rfl, by simp [PJ], by omega, rfl, Lib.hid ⟨⟨by simp, by simp, by simp, by simp⟩, by cases v <;> simp [vb, PJ], HP3.out⟩⟩
    case round =>
      obtain ⟨k, L, rfl, rfl, hk, hL, HI⟩ := hrel
      have hkc : k = 0 ∨ k = 1 ∨ k = 2 := by omega
      have q1 : wr.cell? ⟨T2, 1, none⟩ = some (.int .i64 0) := cell_of_row _ _ 1 _ _ _ HI.out.2.2.t2
      rcases hkc with rfl | rfl | rfl
      · have hsz : (bytesOf (vb v ++ PJ L)).size < 200 := by rw [bytesOf_size]; have := HI.out.2.1; omega
        go_upto_region 15 with fail
        have hs2 : (bytesOf (vb v ++ PJ L)).size < 300 := by rw [bytesOf_size]; have := HI.out.2.1; simp at this ⊢; omega
        have H1 := HI.out.2.2.keep ((Below.refl _ _).alloc (Nat.le_refl _) wrow3)
        have hrow := heap_alloc_new wr wrow3
        have hP : wr.heap.size ≠ S := by have := HI.out.2.2.l; omega
        obtain ⟨x1, hx1⟩ := H1.s
        unfold wrow3 at H1 hrow hx1
        have HPT := Lib.hid (fun y => H1.put y)
        have HRW := Lib.hid (fun y : Int => (show ((wr.alloc (.cells #[.string ⟨#[120]⟩, .string ⟨#[88]⟩, .string ⟨#[42]⟩] 9)).setCell ⟨S, 0, none⟩ (.int .u64 y)).heap[wr.heap.size]? = (wr.alloc (.cells #[.string ⟨#[120]⟩, .string ⟨#[88]⟩, .string ⟨#[42]⟩] 9)).heap[wr.heap.size]? from heap_setCell_other _ _ _ _ hP).trans hrow)
        have HM := Lib.hid (m17 S x1 3 (by omega) (by omega) _ hx1)
        clear H1 hrow hx1
        go_wp2_with (go_at_call 39; refine HM.out.mono ?_; rintro e w9 ⟨q9, y, rfl, hq9, hw⟩; have H2 := HPT.out y; have hr2 := HRW.out y; rw [← hw] at H2 hr2; obtain ⟨p, hpw, hm⟩ := w3cell hr2 hq9; have hqi9 : (q9 : Int) < 3 := (by omega); have zm : (bytesOf p).size ≤ 1 := (by rw [bytesOf_size]; rcases hpw with rfl | rfl | rfl <;> decide); have HF := Lib.hid (And.intro H2 hpw); have HK := Lib.hid ((PJ_step v L p).1 (List.length_eq_zero_iff.1 hL)); clear hw hr2 H2 hpw)
        go_roundw
        case measure => simp [intOf]
        case rel =>
          refine ⟨1, L ++ [p], rfl, ?_, by omega, by rw [List.length_append, hL]; rfl, Lib.hid ⟨HI.out.1.snoc _ (fun h _ => by omega) (fun h _ => by omega) (fun h _ => by omega) (fun h => HF.out.2), ?_, HF.out.1⟩⟩
          · rw [bytes_add, ← HK.out]
          · have h1 := HI.out.2.1
            rw [bytesOf_size] at zm
            rw [← HK.out]
            simp at h1 ⊢
            omega
      · have hsz : (bytesOf (vb v ++ PJ L)).size < 200 := by rw [bytesOf_size]; have := HI.out.2.1; omega
        go_upto_region 15 with fail
        rw [dot46, bytes_add, List.append_assoc]
        have hs2 : (bytesOf (vb v ++ (PJ L ++ [46]))).size < 300 := by rw [bytesOf_size]; have := HI.out.2.1; simp at this ⊢; omega
        have H1 := HI.out.2.2.keep ((Below.refl _ _).alloc (Nat.le_refl _) wrow3)
        have hrow := heap_alloc_new wr wrow3
        have hP : wr.heap.size ≠ S := by have := HI.out.2.2.l; omega
        obtain ⟨x1, hx1⟩ := H1.s
        unfold wrow3 at H1 hrow hx1
        have HPT := Lib.hid (fun y => H1.put y)
        have HRW := Lib.hid (fun y : Int => (show ((wr.alloc (.cells #[.string ⟨#[120]⟩, .string ⟨#[88]⟩, .string ⟨#[42]⟩] 9)).setCell ⟨S, 0, none⟩ (.int .u64 y)).heap[wr.heap.size]? = (wr.alloc (.cells #[.string ⟨#[120]⟩, .string ⟨#[88]⟩, .string ⟨#[42]⟩] 9)).heap[wr.heap.size]? from heap_setCell_other _ _ _ _ hP).trans hrow)
        have HM := Lib.hid (m17 S x1 3 (by omega) (by omega) _ hx1)
        clear H1 hrow hx1
        go_wp2_with (go_at_call 39; refine HM.out.mono ?_; rintro e w9 ⟨q9, y, rfl, hq9, hw⟩; have H2 := HPT.out y; have hr2 := HRW.out y; rw [← hw] at H2 hr2; obtain ⟨p, hpw, hm⟩ := w3cell hr2 hq9; have hqi9 : (q9 : Int) < 3 := (by omega); have zm : (bytesOf p).size ≤ 1 := (by rw [bytesOf_size]; rcases hpw with rfl | rfl | rfl <;> decide); have HF := Lib.hid (And.intro H2 hpw); have HK := Lib.hid ((PJ_step v L p).2 (fun e => by rw [e] at hL; simp at hL)); clear hw hr2 H2 hpw)
        go_roundw
        case measure => simp [intOf]
        case rel =>
          refine ⟨2, L ++ [p], rfl, ?_, by omega, by rw [List.length_append, hL]; rfl, Lib.hid ⟨HI.out.1.snoc _ (fun h _ => by omega) (fun h _ => by omega) (fun h _ => by omega) (fun h => HF.out.2), ?_, HF.out.1⟩⟩
          · rw [bytes_add, ← HK.out]; simp
          · have h1 := HI.out.2.1
            rw [bytesOf_size] at zm
            rw [← HK.out]
            simp at h1 ⊢
            omega
      · have q5 : wr.cell? ⟨T2, 5, none⟩ = some (.string (bytesOf [])) := cell_of_row _ _ 5 _ _ _ HI.out.2.2.t2
        have e1 := bytesOf_toList []
        have hsz : (bytesOf (vb v ++ PJ L)).size < 200 := by rw [bytesOf_size]; have := HI.out.2.1; omega
        have d5 : (([] : Bs) == ([] : Bs)) = true := rfl
        go_wp2
        go_ret
        have hv := pieces_tx ⟨op, 0, a, b, c, []⟩ 0 rfl (by omega) (fun _ => rfl) v false (fun _ => rfl) L HI.out.1 (by omega) (by omega) (by omega)
        refine ⟨_, ?_, hv, HI.out.2.2.b, HI.out.2.2.s⟩
        simp [pb, mb]
  · have h7' : s7 = .int .i64 3 := by rw [h7]; rfl
    clear h7
    subst h7'
    unfold fr6
    go_upto_region 8 with fail
    try rw [show (max 1 3 : Int) = 3 from rfl]
    have HP3 := Lib.hid hW6
    clear hW6
    go_wp2
    go_loopw [6, 42] (fun tv iv W => ∃ (k : Nat) (L : List Bs), iv = .int .i64 (k : Nat) ∧ tv = .string (bytesOf (vb v ++ PJ L)) ∧ k ≤ 3 ∧ L.length = k ∧ Hid (PcsOk ⟨op, 0, a, b, c, []⟩ 0 L ∧ (vb v ++ PJ L).length ≤ 1 + 22 * k ∧ PT w S N5 T2 ⟨op, 0, a, b, c, []⟩ W)) (fun _ iv _ => 3 - (intOf iv).toNat)
    case atStart => exact ⟨0, [], rfl, by simp [PJ], by omega, rfl, Lib.hid ⟨⟨by simp, by simp, by simp, by simp⟩, by cases v <;> simp [vb, PJ], HP3.out⟩⟩
    case round =>
      obtain ⟨k, L, rfl, rfl, hk, hL, HI⟩ := hrel
      have hkc : k = 0 ∨ k = 1 ∨ k = 2 ∨ k = 3 := by omega
      have q1 : wr.cell? ⟨T2, 1, none⟩ = some (.int .i64 0) := cell_of_row _ _ 1 _ _ _ HI.out.2.2.t2
      rcases hkc with rfl | rfl | rfl | rfl
      · have hsz : (bytesOf (vb v ++ PJ L)).size < 200 := by rw [bytesOf_size]; have := HI.out.2.1; omega
        go_upto_region 15 with fail
        have hs2 : (bytesOf (vb v ++ PJ L)).size < 300 := by rw [bytesOf_size]; have := HI.out.2.1; simp at this ⊢; omega
        have H1 := HI.out.2.2.keep ((Below.refl _ _).alloc (Nat.le_refl _) wrow3)
        have hrow := heap_alloc_new wr wrow3
        have hP : wr.heap.size ≠ S := by have := HI.out.2.2.l; omega
        obtain ⟨x1, hx1⟩ := H1.s
        unfold wrow3 at H1 hrow hx1
        have HPT := Lib.hid (fun y => H1.put y)
        have HRW := Lib.hid (fun y : Int => (show ((wr.alloc (.cells #[.string ⟨#[120]⟩, .string ⟨#[88]⟩, .string ⟨#[42]⟩] 9)).setCell ⟨S, 0, none⟩ (.int .u64 y)).heap[wr.heap.size]? = (wr.alloc (.cells #[.string ⟨#[120]⟩, .string ⟨#[88]⟩, .string ⟨#[42]⟩] 9)).heap[wr.heap.size]? from heap_setCell_other _ _ _ _ hP).trans hrow)
        have HM := Lib.hid (m17 S x1 3 (by omega) (by omega) _ hx1)
        clear H1 hrow hx1
        go_wp2_with (go_at_call 39; refine HM.out.mono ?_; rintro e w9 ⟨q9, y, rfl, hq9, hw⟩; have H2 := HPT.out y; have hr2 := HRW.out y; rw [← hw] at H2 hr2; obtain ⟨p, hpw, hm⟩ := w3cell hr2 hq9; have hqi9 : (q9 : Int) < 3 := (by omega); have zm : (bytesOf p).size ≤ 1 := (by rw [bytesOf_size]; rcases hpw with rfl | rfl | rfl <;> decide); have HF := Lib.hid (And.intro H2 hpw); have HK := Lib.hid ((PJ_step v L p).1 (List.length_eq_zero_iff.1 hL)); clear hw hr2 H2 hpw)
        go_roundw
        case measure => simp [intOf]
        case rel =>
          refine ⟨1, L ++ [p], rfl, ?_, by omega, by rw [List.length_append, hL]; rfl, Lib.hid ⟨HI.out.1.snoc _ (fun h _ => by omega) (fun h _ => by omega) (fun h _ => by omega) (fun h => HF.out.2), ?_, HF.out.1⟩⟩
          · rw [bytes_add, ← HK.out]
          · have h1 := HI.out.2.1
            rw [bytesOf_size] at zm
            rw [← HK.out]
            simp at h1 ⊢
            omega
      · have hsz : (bytesOf (vb v ++ PJ L)).size < 200 := by rw [bytesOf_size]; have := HI.out.2.1; omega
        go_upto_region 15 with fail
        rw [dot46, bytes_add, List.append_assoc]
        have hs2 : (bytesOf (vb v ++ (PJ L ++ [46]))).size < 300 := by rw [bytesOf_size]; have := HI.out.2.1; simp at this ⊢; omega
        have H1 := HI.out.2.2.keep ((Below.refl _ _).alloc (Nat.le_refl _) wrow3)
        have hrow := heap_alloc_new wr wrow3
        have hP : wr.heap.size ≠ S := by have := HI.out.2.2.l; omega
        obtain ⟨x1, hx1⟩ := H1.s
        unfold wrow3 at H1 hrow hx1
        have HPT := Lib.hid (fun y => H1.put y)
        have HRW := Lib.hid (fun y : Int => (show ((wr.alloc (.cells #[.string ⟨#[120]⟩, .string ⟨#[88]⟩, .string ⟨#[42]⟩] 9)).setCell ⟨S, 0, none⟩ (.int .u64 y)).heap[wr.heap.size]? = (wr.alloc (.cells #[.string ⟨#[120]⟩, .string ⟨#[88]⟩, .string ⟨#[42]⟩] 9)).heap[wr.heap.size]? from heap_setCell_other _ _ _ _ hP).trans hrow)
        have HM := Lib.hid (m17 S x1 3 (by omega) (by omega) _ hx1)
        clear H1 hrow hx1
        go_wp2_with (go_at_call 39; refine HM.out.mono ?_; rintro e w9 ⟨q9, y, rfl, hq9, hw⟩; have H2 := HPT.out y; have hr2 := HRW.out y; rw [← hw] at H2 hr2; obtain ⟨p, hpw, hm⟩ := w3cell hr2 hq9; have hqi9 : (q9 : Int) < 3 := (by omega); have zm : (bytesOf p).size ≤ 1 := (by rw [bytesOf_size]; rcases hpw with rfl | rfl | rfl <;> decide); have HF := Lib.hid (And.intro H2 hpw); have HK := Lib.hid ((PJ_step v L p).2 (fun e => by rw [e] at hL; simp at hL)); clear hw hr2 H2 hpw)
        go_roundw
        case measure => simp [intOf]
        case rel =>
          refine ⟨2, L ++ [p], rfl, ?_, by omega, by rw [List.length_append, hL]; rfl, Lib.hid ⟨HI.out.1.snoc _ (fun h _ => by omega) (fun h _ => by omega) (fun h _ => by omega) (fun h => HF.out.2), ?_, HF.out.1⟩⟩
          · rw [bytes_add, ← HK.out]; simp
          · have h1 := HI.out.2.1
            rw [bytesOf_size] at zm
            rw [← HK.out]
            simp at h1 ⊢
            omega
      · have hsz : (bytesOf (vb v ++ PJ L)).size < 200 := by rw [bytesOf_size]; have := HI.out.2.1; omega
        go_upto_region 15 with fail
        rw [dot46, bytes_add, List.append_assoc]
        have hs2 : (bytesOf (vb v ++ (PJ L ++ [46]))).size < 300 := by rw [bytesOf_size]; have := HI.out.2.1; simp at this ⊢; omega
        have H1 := HI.out.2.2.keep ((Below.refl _ _).alloc (Nat.le_refl _) wrow3)
        have hrow := heap_alloc_new wr wrow3
        have hP : wr.heap.size ≠ S := by have := HI.out.2.2.l; omega
        obtain ⟨x1, hx1⟩ := H1.s
        unfold wrow3 at H1 hrow hx1
        have HPT := Lib.hid (fun y => H1.put y)
        have HRW := Lib.hid (fun y : Int => (show ((wr.alloc (.cells #[.string ⟨#[120]⟩, .string ⟨#[88]⟩, .string ⟨#[42]⟩] 9)).setCell ⟨S, 0, none⟩ (.int .u64 y)).heap[wr.heap.size]? = (wr.alloc (.cells #[.string ⟨#[120]⟩, .string ⟨#[88]⟩, .string ⟨#[42]⟩] 9)).heap[wr.heap.size]? from heap_setCell_other _ _ _ _ hP).trans hrow)
        have HM := Lib.hid (m17 S x1 3 (by omega) (by omega) _ hx1)
        clear H1 hrow hx1
        go_wp2_with (go_at_call 39; refine HM.out.mono ?_; rintro e w9 ⟨q9, y, rfl, hq9, hw⟩; have H2 := HPT.out y; have hr2 := HRW.out y; rw [← hw] at H2 hr2; obtain ⟨p, hpw, hm⟩ := w3cell hr2 hq9; have hqi9 : (q9 : Int) < 3 := (by omega); have zm : (bytesOf p).size ≤ 1 := (by rw [bytesOf_size]; rcases hpw with rfl | rfl | rfl <;> decide); have HF := Lib.hid (And.intro H2 hpw); have HK := Lib.hid ((PJ_step v L p).2 (fun e => by rw [e] at hL; simp at hL)); clear hw hr2 H2 hpw)
        go_roundw
        case measure => simp [intOf]
        case rel =>
          refine ⟨3, L ++ [p], rfl, ?_, by omega, by rw [List.length_append, hL]; rfl, Lib.hid ⟨HI.out.1.snoc _ (fun h _ => by omega) (fun h _ => by omega) (fun h _ => by omega) (fun h => HF.out.2), ?_, HF.out.1⟩⟩
          · rw [bytes_add, ← HK.out]; simp
          · have h1 := HI.out.2.1
            rw [bytesOf_size] at zm
            rw [← HK.out]
            simp at h1 ⊢
            omega
      · have q5 : wr.cell? ⟨T2, 5, none⟩ = some (.string (bytesOf [])) := cell_of_row _ _ 5 _ _ _ HI.out.2.2.t2
        have e1 := bytesOf_toList []
        have hsz : (bytesOf (vb v ++ PJ L)).size < 200 := by rw [bytesOf_size]; have := HI.out.2.1; omega
        have d5 : (([] : Bs) == ([] : Bs)) = true := rfl
        go_wp2
        go_ret
        have hv := pieces_tx ⟨op, 0, a, b, c, []⟩ 0 rfl (by omega) (fun _ => rfl) v false (fun _ => rfl) L HI.out.1 (by omega) (by omega) (by omega)
        refine ⟨_, ?_, hv, HI.out.2.2.b, HI.out.2.2.s⟩
        simp [pb, mb]
set_option maxHeartbeats 8000000 in
theorem m51_1 (op : Int) (a b c : Nat) (ha : a < 18446744073709551616) (hb : b < 18446744073709551616) (hc : c < 18446744073709551616) (S : Nat) (x : Int) (w : World) (hS : w.heap[S]? = some (.cells #[.int .u64 x] 116 (0, 0))) :
    Calls Tryz.prog 90 #[.agg #[.int .i64 op, .int .i64 1, .int .u64 a, .int .u64 b, .int .u64 c, .string (bytesOf [])], .pointer (some ⟨S, 0, none⟩)] w fun e w' => ∃ V, e = .returned (.string (bytesOf V)) ∧ VerTx ⟨op, 1, a, b, c, []⟩ V ∧ Below S w w' ∧ ∃ y : Int, w'.heap[S]? = some (.cells #[.int .u64 y] 116 (0, 0)) := by
  have hSl := (Array.getElem?_eq_some_iff.1 hS).1
  have HH := Lib.hid (And.intro ha (And.intro hb hc))
  have hal1 := (Below.refl _ w).alloc (Nat.le_refl _) (.cells #[.int .i64 op, .int .i64 1, .int .u64 a, .int .u64 b, .int .u64 c, .string (bytesOf [])] 31)
  have hal2 := hal1.alloc hal1.size (.cells #[.int .u64 a, .int .u64 b, .int .u64 c] 23)
  have H0 : PT w S (w.heap.size + 1) w.heap.size ⟨op, 1, a, b, c, []⟩ ((w.alloc (.cells #[.int .i64 op, .int .i64 1, .int .u64 a, .int .u64 b, .int .u64 c, .string (bytesOf [])] 31)).alloc (.cells #[.int .u64 a, .int .u64 b, .int .u64 c] 23)) :=
    ⟨new2' w _ _ _, jblk' ((Below.refl _ _).alloc (Nat.le_refl _) _) (heap_alloc_new w _), ⟨x, jblk' hal2 hS⟩, hal2.mono (Nat.le_of_lt hSl), by simp; omega⟩
  clear ha hb hc hal1 hal2 hS
  go_enter Tryz.func90, Tryz.ntmps90
  go_upto_region 2 with fail
  generalize (w.alloc (.cells #[.int .i64 op, .int .i64 1, .int .u64 a, .int .u64 b, .int .u64 c, .string (bytesOf [])] 31)).alloc (.cells #[.int .u64 a, .int .u64 b, .int .u64 c] 23) = w0 at *
  generalize hN5 : w.heap.size + 1 = N5 at *
  generalize hT2 : w.heap.size = T2 at *
  have H1 := H0.keep ((Below.refl _ _).alloc (Nat.le_refl _) vrow4)
  have hrow := heap_alloc_new w0 vrow4
  have hP : w0.heap.size ≠ S := by have := H0.l; omega
  obtain ⟨x1, hx1⟩ := H1.s
  have HX := Lib.hid hx1
  unfold vrow4 at H1 hrow hx1
  have HPT := Lib.hid (fun y => H1.put y)
  have HRW := Lib.hid (fun y : Int => (show ((w0.alloc (.cells #[.string ⟨#[]⟩, .string ⟨#[]⟩, .string ⟨#[]⟩, .string ⟨#[118]⟩] 9)).setCell ⟨S, 0, none⟩ (.int .u64 y)).heap[w0.heap.size]? = (w0.alloc (.cells #[.string ⟨#[]⟩, .string ⟨#[]⟩, .string ⟨#[]⟩, .string ⟨#[118]⟩] 9)).heap[w0.heap.size]? from heap_setCell_other _ _ _ _ hP).trans hrow)
  have HM := Lib.hid (m17 S x1 4 (by omega) (by omega) _ hx1)
  clear H0 H1 hrow hx1 HX
  go_upto_region 3 with (go_at_call 39; refine HM.out.mono ?_; rintro e w1 ⟨q, y, rfl, hq, hw⟩; have H2 := HPT.out y; have hr2 := HRW.out y; rw [← hw] at H2 hr2; obtain ⟨v, hv⟩ := v4cell hr2 hq; have hqi : (q : Int) < 4 := (by omega); clear hw hr2)
  have q1 : w1.cell? ⟨T2, 1, none⟩ = some (.int .i64 1) := cell_of_row _ _ 1 _ _ _ H2.t2
  have fz := fun k => frozen_of_row _ _ k _ _ H2.t2
  go_upto_region 4 with fail
  rw [show (max 0 (min 3 1) : Int) = 1 from rfl]
  have H3 : PT w S N5 T2 ⟨op, 1, a, b, c, []⟩ (w1.setCell ⟨T2, 1, none⟩ (.int .i64 1)) := H2.setg (by omega)
  generalize w1.setCell ⟨T2, 1, none⟩ (.int .i64 1) = w2 at *
  clear H2 q1 fz hv HPT HRW HM
  have q1 : w2.cell? ⟨T2, 1, none⟩ = some (.int .i64 1) := cell_of_row _ _ 1 _ _ _ H3.t2
  go_upto_region 6 with fail
  refine region6_1 _ _ _ _ _ _ _ _ _ _ _ _ _ _ _ _ _ _ _ _ _ _ _ _ _ _ _ _ _ _ _ _ _ _ _ _ _ _ _ _ _ _ _ _ _ _ _ _ _ _ _ _ _ _ _ _ _ _ _ _ _ _ _ _ _ _ _ _ _ _ _ _ _ _ _ _ _ _ _ _ _ _ _ (hpt := H3) (hg := rfl) (hQ := fun q6 s7 s31 s32 s33 s34 s35 s36 s37 s38 W6 hW6 hq6 h7 => ?_)
  clear H3 q1
  have hqc : q6 = 0 ∨ q6 = 1 ∨ q6 = 2 := by omega
  rcases hqc with rfl | rfl | rfl
  · have h7' : s7 = .int .i64 1 := by rw [h7]; rfl
    clear h7
    subst h7'
    unfold fr6
    go_upto_region 8 with fail
    try rw [show (max 1 1 : Int) = 1 from rfl]
    have HP3 := Lib.hid hW6
    clear hW6
    go_wp2
    go_loopw [6, 42] (fun tv iv W => ∃ (k : Nat) (L : List Bs), iv = .int .i64 (k : Nat) ∧ tv = .string (bytesOf (vb v ++ PJ L)) ∧ k ≤ 1 ∧ L.length = k ∧ Hid (PcsOk ⟨op, 1, a, b, c, []⟩ 1 L ∧ (vb v ++ PJ L).length ≤ 1 + 22 * k ∧ PT w S N5 T2 ⟨op, 1, a, b, c, []⟩ W)) (fun _ iv _ => 1 - (intOf iv).toNat)
    case atStart => exact ⟨0, [], rfl, by simp [PJ], by omega, rfl, Lib.hid ⟨⟨by simp, by simp, by simp, by simp⟩, by cases v <;> simp [vb, PJ], HP3.out⟩⟩
    case round =>
      obtain ⟨k, L, rfl, rfl, hk, hL, HI⟩ := hrel
      have hkc : k = 0 ∨ k = 1 := by omega
      have q1 : wr.cell? ⟨T2, 1, none⟩ = some (.int .i64 1) := cell_of_row _ _ 1 _ _ _ HI.out.2.2.t2
      rcases hkc with rfl | rfl
      · have hsz : (bytesOf (vb v ++ PJ L)).size < 200 := by rw [bytesOf_size]; have := HI.out.2.1; omega
        go_upto_region 14 with fail
        refine region14 _ _ _ _ _ _ _ _ _ _ _ _ _ _ _ _ _ _ _ _ _ _ _ _ _ _ _ _ _ _ _ _ _ _ _ _ _ _ _ _ _ _ _ _ _ _ _ _ _ _ _ _ _ _ _ _ _ _ _ _ _ _ _ _ _ _ _ _ _ _ _ _ _ _ _ _ _ _ _ _ _ _ _ _ _ _ _ _ _ _ (hpt := HI.out.2.2) (i := 0) (n := a) (tx := vb v ++ PJ L) (hi := by omega) (hn := by simp) (hn64 := by have := HH.out; omega) (htx := by have := HI.out.2.1; simp at this ⊢; omega) (h6 := rfl) (hQ := fun z s6 s53 s54 s55 s56 s57 s58 s59 s60 s61 s62 s63 s64 s65 W hW h6 => ?_)
        subst h6
        unfold fr14
        have hnl := num_len z a (by have := HH.out; omega)
        have hpj := (PJ_step v L (num z a)).1 (List.length_eq_zero_iff.1 hL)
        have HK := Lib.hid (And.intro hnl hpj)
        clear hnl hpj
        rw [HK.out.2]
        go_wp2
        refine ⟨⟨1, L ++ [num z a], rfl, rfl, by omega, by rw [List.length_append, hL]; rfl, Lib.hid ⟨HI.out.1.snoc _ (fun h _ => ⟨z, rfl⟩) (fun h _ => by omega) (fun h _ => by omega) (fun h => by omega), ?_, hW⟩⟩, by simp [intOf]⟩
        have h1 := HI.out.2.1
        have h2 := HK.out.1
        rw [← HK.out.2]
        simp at h1 ⊢
        omega
      · have q5 : wr.cell? ⟨T2, 5, none⟩ = some (.string (bytesOf [])) := cell_of_row _ _ 5 _ _ _ HI.out.2.2.t2
        have e1 := bytesOf_toList []
        have hsz : (bytesOf (vb v ++ PJ L)).size < 200 := by rw [bytesOf_size]; have := HI.out.2.1; omega
        have d5 : (([] : Bs) == ([] : Bs)) = true := rfl
        go_wp2
        go_ret
        have hv := pieces_tx ⟨op, 1, a, b, c, []⟩ 1 rfl (by omega) (fun _ => rfl) v false (fun _ => rfl) L HI.out.1 (by omega) (by omega) (by omega)
        refine ⟨_, ?_, hv, HI.out.2.2.b, HI.out.2.2.s⟩
        simp [pb, mb]
  · have h7' : s7 = .int .i64 2 := by rw [h7]; rfl
    clear h7
    subst h7'
    unfold fr6
    go_upto_region 8 with fail
    try rw [show (max 1 2 : Int) = 2 from rfl]
    have HP3 := Lib.hid hW6
    clear hW6
    go_wp2
    go_loopw [6, 42] (fun tv iv W => ∃ (k : Nat) (L : List Bs), iv = .int .i64 (k : Nat) ∧ tv = .string (bytesOf (vb v ++ PJ L)) ∧ k ≤ 2 ∧ L.length = k ∧ Hid (PcsOk ⟨op, 1, a, b, c, []⟩ 1 L ∧ (vb v ++ PJ L).length ≤ 1 + 22 * k ∧ PT w S N5 T2 ⟨op, 1, a, b, c, []⟩ W)) (fun _ iv _ => 2 - (intOf iv).toNat)
    case atStart => exact ⟨0, [], rfl, by simp [PJ], by omega, rfl, Lib.hid ⟨⟨by simp, by simp, by simp, by simp⟩, by cases v <;> simp [vb, PJ], HP3.out⟩⟩
    case round =>
      obtain ⟨k, L, rfl, rfl, hk, hL, HI⟩ := hrel
      have hkc : k = 0 ∨ k = 1 ∨ k = 2 := by omega
      have q1 : wr.cell? ⟨T2, 1, none⟩ = some (.int .i64 1) := cell_of_row _ _ 1 _ _ _ HI.out.2.2.t2
      rcases hkc with rfl | rfl | rfl
      · have hsz : (bytesOf (vb v ++ PJ L)).size < 200 := by rw [bytesOf_size]; have := HI.out.2.1; omega
        go_upto_region 14 with fail
        refine region14 _ _ _ _ _ _ _ _ _ _ _ _ _ _ _ _ _ _ _ _ _ _ _ _ _ _ _ _ _ _ _ _ _ _ _ _ _ _ _ _ _ _ _ _ _ _ _ _ _ _ _ _ _ _ _ _ _ _ _ _ _ _ _ _ _ _ _ _ _ _ _ _ _ _ _ _ _ _ _ _ _ _ _ _ _ _ _ _ _ _ (hpt := HI.out.2.2) (i := 0) (n := a) (tx := vb v ++ PJ L) (hi := by omega) (hn := by simp) (hn64 := by have := HH.out; omega) (htx := by have := HI.out.2.1; simp at this ⊢; omega) (h6 := rfl) (hQ := fun z s6 s53 s54 s55 s56 s57 s58 s59 s60 s61 s62 s63 s64 s65 W hW h6 => ?_)
        subst h6
        unfold fr14
        have hnl := num_len z a (by have := HH.out; omega)
        have hpj := (PJ_step v L (num z a)).1 (List.length_eq_zero_iff.1 hL)
        have HK := Lib.hid (And.intro hnl hpj)
        clear hnl hpj
        rw [HK.out.2]
        go_wp2
        refine ⟨⟨1, L ++ [num z a], rfl, rfl, by omega, by rw [List.length_append, hL]; rfl, Lib.hid ⟨HI.out.1.snoc _ (fun h _ => ⟨z, rfl⟩) (fun h _ => by omega) (fun h _ => by omega) (fun h => by omega), ?_, hW⟩⟩, by simp [intOf]⟩
        have h1 := HI.out.2.1
        have h2 := HK.out.1
        rw [← HK.out.2]
        simp at h1 ⊢
        omega
      · have hsz : (bytesOf (vb v ++ PJ L)).size < 200 := by rw [bytesOf_size]; have := HI.out.2.1; omega
        go_upto_region 15 with fail
        rw [dot46, bytes_add, List.append_assoc]
        have hs2 : (bytesOf (vb v ++ (PJ L ++ [46]))).size < 300 := by rw [bytesOf_size]; have := HI.out.2.1; simp at this ⊢; omega
        have H1 := HI.out.2.2.keep ((Below.refl _ _).alloc (Nat.le_refl _) wrow3)
        have hrow := heap_alloc_new wr wrow3
        have hP : wr.heap.size ≠ S := by have := HI.out.2.2.l; omega
        obtain ⟨x1, hx1⟩ := H1.s
        unfold wrow3 at H1 hrow hx1
        have HPT := Lib.hid (fun y => H1.put y)
        have HRW := Lib.hid (fun y : Int => (show ((wr.alloc (.cells #[.string ⟨#[120]⟩, .string ⟨#[88]⟩, .string ⟨#[42]⟩] 9)).setCell ⟨S, 0, none⟩ (.int .u64 y)).heap[wr.heap.size]? = (wr.alloc (.cells #[.string ⟨#[120]⟩, .string ⟨#[88]⟩, .string ⟨#[42]⟩] 9)).heap[wr.heap.size]? from heap_setCell_other _ _ _ _ hP).trans hrow)
        have HM := Lib.hid (m17 S x1 3 (by omega) (by omega) _ hx1)
        clear H1 hrow hx1
        go_wp2_with (go_at_call 39; refine HM.out.mono ?_; rintro e w9 ⟨q9, y, rfl, hq9, hw⟩; have H2 := HPT.out y; have hr2 := HRW.out y; rw [← hw] at H2 hr2; obtain ⟨p, hpw, hm⟩ := w3cell hr2 hq9; have hqi9 : (q9 : Int) < 3 := (by omega); have zm : (bytesOf p).size ≤ 1 := (by rw [bytesOf_size]; rcases hpw with rfl | rfl | rfl <;> decide); have HF := Lib.hid (And.intro H2 hpw); have HK := Lib.hid ((PJ_step v L p).2 (fun e => by rw [e] at hL; simp at hL)); clear hw hr2 H2 hpw)
        go_roundw
        case measure => simp [intOf]
        case rel =>
          refine ⟨2, L ++ [p], rfl, ?_, by omega, by rw [List.length_append, hL]; rfl, Lib.hid ⟨HI.out.1.snoc _ (fun h _ => by omega) (fun h _ => by omega) (fun h _ => by omega) (fun h => HF.out.2), ?_, HF.out.1⟩⟩
          · rw [bytes_add, ← HK.out]; simp
          · have h1 := HI.out.2.1
            rw [bytesOf_size] at zm
            rw [← HK.out]
            simp at h1 ⊢
            omega
      · have q5 : wr.cell? ⟨T2, 5, none⟩ = some (.string (bytesOf [])) := cell_of_row _ _ 5 _ _ _ HI.out.2.2.t2
        have e1 := bytesOf_toList []
        have hsz : (bytesOf (vb v ++ PJ L)).size < 200 := by rw [bytesOf_size]; have := HI.out.2.1; omega
        have d5 : (([] : Bs) == ([] : Bs)) = true := rfl
        go_wp2
        go_ret
        have hv := pieces_tx ⟨op, 1, a, b, c, []⟩ 1 rfl (by omega) (fun _ => rfl) v false (fun _ => rfl) L HI.out.1 (by omega) (by omega) (by omega)
        refine ⟨_, ?_, hv, HI.out.2.2.b, HI.out.2.2.s⟩
        simp [pb, mb]
  · have h7' : s7 = .int .i64 3 := by rw [h7]; rfl
    clear h7
    subst h7'
    unfold fr6
    go_upto_region 8 with fail
    try rw [show (max 1 3 : Int) = 3 from rfl]
    have HP3 := Lib.hid hW6
    clear hW6
    go_wp2
    go_loopw [6, 42] (fun tv iv W => ∃ (k : Nat) (L : List Bs), iv = .int .i64 (k : Nat) ∧ tv = .string (bytesOf (vb v ++ PJ L)) ∧ k ≤ 3 ∧ L.length = k ∧ Hid (PcsOk ⟨op, 1, a, b, c, []⟩ 1 L ∧ (vb v ++ PJ L).length ≤ 1 + 22 * k ∧ PT w S N5 T2 ⟨op, 1, a, b, c, []⟩ W)) (fun _ iv _ => 3 - (intOf iv).toNat)
    case atStart => exact ⟨0, [], rfl, by simp [PJ], by omega, rfl, Lib.hid ⟨⟨by simp, by simp, by simp, by simp⟩, by cases v <;> simp [vb, PJ], HP3.out⟩⟩
    case round =>
      obtain ⟨k, L, rfl, rfl, hk, hL, HI⟩ := hrel
      have hkc : k = 0 ∨ k = 1 ∨ k = 2 ∨ k = 3 := by omega
      have q1 : wr.cell? ⟨T2, 1, none⟩ = some (.int .i64 1) := cell_of_row _ _ 1 _ _ _ HI.out.2.2.t2
      rcases hkc with rfl | rfl | rfl | rfl
      · have hsz : (bytesOf (vb v ++ PJ L)).size < 200 := by rw [bytesOf_size]; have := HI.out.2.1; omega
        go_upto_region 14 with fail
        refine region14 _ _ _ _ _ _ _ _ _ _ _ _ _ _ _ _ _ _ _ _ _ _ _ _ _ _ _ _ _ _ _ _ _ _ _ _ _ _ _ _ _ _ _ _ _ _ _ _ _ _ _ _ _ _ _ _ _ _ _ _ _ _ _ _ _ _ _ _ _ _ _ _ _ _ _ _ _ _ _ _ _ _ _ _ _ _ _ _ _ _ (hpt := HI.out.2.2) (i := 0) (n := a) (tx := vb v ++ PJ L) (hi := by omega) (hn := by simp) (hn64 := by have := HH.out; omega) (htx := by have := HI.out.2.1; simp at this ⊢; omega) (h6 := rfl) (hQ := fun z s6 s53 s54 s55 s56 s57 s58 s59 s60 s61 s62 s63 s64 s65 W hW h6 => ?_)
        subst h6
        unfold fr14
        have hnl := num_len z a (by have := HH.out; omega)
        have hpj := (PJ_step v L (num z a)).1 (List.length_eq_zero_iff.1 hL)
        have HK := Lib.hid (And.intro hnl hpj)
        clear hnl hpj
        rw [HK.out.2]
        go_wp2
        refine ⟨⟨1, L ++ [num z a], rfl, rfl, by omega, by rw [List.length_append, hL]; rfl, Lib.hid ⟨HI.out.1.snoc _ (fun h _ => ⟨z, rfl⟩) (fun h _ => by omega) (fun h _ => by omega) (fun h => by omega), ?_, hW⟩⟩, by simp [intOf]⟩
        have h1 := HI.out.2.1
        have h2 := HK.out.1
        rw [← HK.out.2]
        simp at h1 ⊢
        omega
      · have hsz : (bytesOf (vb v ++ PJ L)).size < 200 := by rw [bytesOf_size]; have := HI.out.2.1; omega
        go_upto_region 15 with fail
        rw [dot46, bytes_add, List.append_assoc]
        have hs2 : (bytesOf (vb v ++ (PJ L ++ [46]))).size < 300 := by rw [bytesOf_size]; have := HI.out.2.1; simp at this ⊢; omega
        have H1 := HI.out.2.2.keep ((Below.refl _ _).alloc (Nat.le_refl _) wrow3)
        have hrow := heap_alloc_new wr wrow3
        have hP : wr.heap.size ≠ S := by have := HI.out.2.2.l; omega
        obtain ⟨x1, hx1⟩ := H1.s
        unfold wrow3 at H1 hrow hx1
        have HPT := Lib.hid (fun y => H1.put y)
        have HRW := Lib.hid (fun y : Int => (show ((wr.alloc (.cells #[.string ⟨#[120]⟩, .string ⟨#[88]⟩, .string ⟨#[42]⟩] 9)).setCell ⟨S, 0, none⟩ (.int .u64 y)).heap[wr.heap.size]? = (wr.alloc (.cells #[.string ⟨#[120]⟩, .string ⟨#[88]⟩, .string ⟨#[42]⟩] 9)).heap[wr.heap.size]? from heap_setCell_other _ _ _ _ hP).trans hrow)
        have HM := Lib.hid (m17 S x1 3 (by omega) (by omega) _ hx1)
        clear H1 hrow hx1
        go_wp2_with (go_at_call 39; refine HM.out.mono ?_; rintro e w9 ⟨q9, y, rfl, hq9, hw⟩; have H2 := HPT.out y; have hr2 := HRW.out y; rw [← hw] at H2 hr2; obtain ⟨p, hpw, hm⟩ := w3cell hr2 hq9; have hqi9 : (q9 : Int) < 3 := (by omega); have zm : (bytesOf p).size ≤ 1 := (by rw [bytesOf_size]; rcases hpw with rfl | rfl | rfl <;> decide); have HF := Lib.hid (And.intro H2 hpw); have HK := Lib.hid ((PJ_step v L p).2 (fun e => by rw [e] at hL; simp at hL)); clear hw hr2 H2 hpw)
        go_roundw
        case measure => simp [intOf]
        case rel =>
          refine ⟨2, L ++ [p], rfl, ?_, by omega, by rw [List.length_append, hL]; rfl, Lib.hid ⟨HI.out.1.snoc _ (fun h _ => by omega) (fun h _ => by omega) (fun h _ => by omega) (fun h => HF.out.2), ?_, HF.out.1⟩⟩
          · rw [bytes_add, ← HK.out]; simp
          · have h1 := HI.out.2.1
            rw [bytesOf_size] at zm
            rw [← HK.out]
            simp at h1 ⊢
            omega
      · have hsz : (bytesOf (vb v ++ PJ L)).size < 200 := by rw [bytesOf_size]; have := HI.out.2.1; omega
        go_upto_region 15 with fail
        rw [dot46, bytes_add, List.append_assoc]
        have hs2 : (bytesOf (vb v ++ (PJ L ++ [46]))).size < 300 := by rw [bytesOf_size]; have := HI.out.2.1; simp at this ⊢; omega
        have H1 := HI.out.2.2.keep ((Below.refl _ _).alloc (Nat.le_refl _) wrow3)
        have hrow := heap_alloc_new wr wrow3
        have hP : wr.heap.size ≠ S := by have := HI.out.2.2.l; omega
        obtain ⟨x1, hx1⟩ := H1.s
        unfold wrow3 at H1 hrow hx1
        have HPT := Lib.hid (fun y => H1.put y)
        have HRW := Lib.hid (fun y : Int => (show ((wr.alloc (.cells #[.string ⟨#[120]⟩, .string ⟨#[88]⟩, .string ⟨#[42]⟩] 9)).setCell ⟨S, 0, none⟩ (.int .u64 y)).heap[wr.heap.size]? = (wr.alloc (.cells #[.string ⟨#[120]⟩, .string ⟨#[88]⟩, .string ⟨#[42]⟩] 9)).heap[wr.heap.size]? from heap_setCell_other _ _ _ _ hP).trans hrow)
        have HM := Lib.hid (m17 S x1 3 (by omega) (by omega) _ hx1)
        clear H1 hrow hx1
        go_wp2_with (go_at_call 39; refine HM.out.mono ?_; rintro e w9 ⟨q9, y, rfl, hq9, hw⟩; have H2 := HPT.out y; have hr2 := HRW.out y; rw [← hw] at H2 hr2; obtain ⟨p, hpw, hm⟩ := w3cell hr2 hq9; have hqi9 : (q9 : Int) < 3 := (by omega); have zm : (bytesOf p).size ≤ 1 := (by rw [bytesOf_size]; rcases hpw with rfl | rfl | rfl <;> decide); have HF := Lib.hid (And.intro H2 hpw); have HK := Lib.hid ((PJ_step v L p).2 (fun e => by rw [e] at hL; simp at hL)); clear hw hr2 H2 hpw)
        go_roundw
        case measure => simp [intOf]
        case rel =>
          refine ⟨3, L ++ [p], rfl, ?_, by omega, by rw [List.length_append, hL]; rfl, Lib.hid ⟨HI.out.1.snoc _ (fun h _ => by omega) (fun h _ => by omega) (fun h _ => by omega) (fun h => HF.out.2), ?_, HF.out.1⟩⟩
          · rw [bytes_add, ← HK.out]; simp
          · have h1 := HI.out.2.1
            rw [bytesOf_size] at zm
            rw [← HK.out]
            simp at h1 ⊢
            omega
      · have q5 : wr.cell? ⟨T2, 5, none⟩ = some (.string (bytesOf [])) := cell_of_row _ _ 5 _ _ _ HI.out.2.2.t2
        have e1 := bytesOf_toList []
        have hsz : (bytesOf (vb v ++ PJ L)).size < 200 := by rw [bytesOf_size]; have := HI.out.2.1; omega
        have d5 : (([] : Bs) == ([] : Bs)) = true := rfl
        go_wp2
        go_ret
        have hv := pieces_tx ⟨op, 1, a, b, c, []⟩ 1 rfl (by omega) (fun _ => rfl) v false (fun _ => rfl) L HI.out.1 (by omega) (by omega) (by omega)
        refine ⟨_, ?_, hv, HI.out.2.2.b, HI.out.2.2.s⟩
        simp [pb, mb]
set_option maxHeartbeats 8000000 in
theorem m51_2 (op : Int) (a b c : Nat) (ha : a < 18446744073709551616) (hb : b < 18446744073709551616) (hc : c < 18446744073709551616) (S : Nat) (x : Int) (w : World) (hS : w.heap[S]? = some (.cells #[.int .u64 x] 116 (0, 0))) :
    Calls Tryz.prog 90 #[.agg #[.int .i64 op, .int .i64 2, .int .u64 a, .int .u64 b, .int .u64 c, .string (bytesOf [])], .pointer (some ⟨S, 0, none⟩)] w fun e w' => ∃ V, e = .returned (.string (bytesOf V)) ∧ VerTx ⟨op, 2, a, b, c, []⟩ V ∧ Below S w w' ∧ ∃ y : Int, w'.heap[S]? = some (.cells #[.int .u64 y] 116 (0, 0)) := by
  have hSl := (Array.getElem?_eq_some_iff.1 hS).1
  have HH := Lib.hid (And.intro ha (And.intro hb hc))
  have hal1 := (Below.refl _ w).alloc (Nat.le_refl _) (.cells #[.int .i64 op, .int .i64 2, .int .u64 a, .int .u64 b, .int .u64 c, .string (bytesOf [])] 31)
  have hal2 := hal1.alloc hal1.size (.cells #[.int .u64 a, .int .u64 b, .int .u64 c] 23)
  have H0 : PT w S (w.heap.size + 1) w.heap.size ⟨op, 2, a, b, c, []⟩ ((w.alloc (.cells #[.int .i64 op, .int .i64 2, .int .u64 a, .int .u64 b, .int .u64 c, .string (bytesOf [])] 31)).alloc (.cells #[.int .u64 a, .int .u64 b, .int .u64 c] 23)) :=
    ⟨new2' w _ _ _, jblk' ((Below.refl _ _).alloc (Nat.le_refl _) _) (heap_alloc_new w _), ⟨x, jblk' hal2 hS⟩, hal2.mono (Nat.le_of_lt hSl), by simp; omega⟩
  clear ha hb hc hal1 hal2 hS
  go_enter Tryz.func90, Tryz.ntmps90
  go_upto_region 2 with fail
  generalize (w.alloc (.cells #[.int .i64 op, .int .i64 2, .int .u64 a, .int .u64 b, .int .u64 c, .string (bytesOf [])] 31)).alloc (.cells #[.int .u64 a, .int .u64 b, .int .u64 c] 23) = w0 at *
  generalize hN5 : w.heap.size + 1 = N5 at *
  generalize hT2 : w.heap.size = T2 at *
  have H1 := H0.keep ((Below.refl _ _).alloc (Nat.le_refl _) vrow4)
  have hrow := heap_alloc_new w0 vrow4
  have hP : w0.heap.size ≠ S := by have := H0.l; omega
  obtain ⟨x1, hx1⟩ := H1.s
  have HX := Lib.hid hx1
  unfold vrow4 at H1 hrow hx1
  have HPT := Lib.hid (fun y => H1.put y)
  have HRW := Lib.hid (fun y : Int => (show ((w0.alloc (.cells #[.string ⟨#[]⟩, .string ⟨#[]⟩, .string ⟨#[]⟩, .string ⟨#[118]⟩] 9)).setCell ⟨S, 0, none⟩ (.int .u64 y)).heap[w0.heap.size]? = (w0.alloc (.cells #[.string ⟨#[]⟩, .string ⟨#[]⟩, .string ⟨#[]⟩, .string ⟨#[118]⟩] 9)).heap[w0.heap.size]? from heap_setCell_other _ _ _ _ hP).trans hrow)
  have HM := Lib.hid (m17 S x1 4 (by omega) (by omega) _ hx1)
  clear H0 H1 hrow hx1 HX
  go_upto_region 3 with (go_at_call 39; refine HM.out.mono ?_; rintro e w1 ⟨q, y, rfl, hq, hw⟩; have H2 := HPT.out y; have hr2 := HRW.out y; rw [← hw] at H2 hr2; obtain ⟨v, hv⟩ := v4cell hr2 hq; have hqi : (q : Int) < 4 := (by omega); clear hw hr2)
  have q1 : w1.cell? ⟨T2, 1, none⟩ = some (.int .i64 2) := cell_of_row _ _ 1 _ _ _ H2.t2
  have fz := fun k => frozen_of_row _ _ k _ _ H2.t2
  go_upto_region 4 with fail
  rw [show (max 0 (min 3 2) : Int) = 2 from rfl]
  have H3 : PT w S N5 T2 ⟨op, 2, a, b, c, []⟩ (w1.setCell ⟨T2, 1, none⟩ (.int .i64 2)) := H2.setg (by omega)
  generalize w1.setCell ⟨T2, 1, none⟩ (.int .i64 2) = w2 at *
  clear H2 q1 fz hv HPT HRW HM
  have q1 : w2.cell? ⟨T2, 1, none⟩ = some (.int .i64 2) := cell_of_row _ _ 1 _ _ _ H3.t2
  go_upto_region 6 with fail
  refine region6_2 _ _ _ _ _ _ _ _ _ _ _ _ _ _ _ _ _ _ _ _ _ _ _ _ _ _ _ _ _ _ _ _ _ _ _ _ _ _ _ _ _ _ _ _ _ _ _ _ _ _ _ _ _ _ _ _ _ _ _ _ _ _ _ _ _ _ _ _ _ _ _ _ _ _ _ _ _ _ _ _ _ _ _ (hpt := H3) (hg := rfl) (hQ := fun q6 s7 s31 s32 s33 s34 s35 s36 s37 s38 W6 hW6 hq6 h7 => ?_)
  clear H3 q1
  have hqc : q6 = 0 ∨ q6 = 1 := by omega
  rcases hqc with rfl | rfl
  · have h7' : s7 = .int .i64 2 := by rw [h7]; rfl
    clear h7
    subst h7'
    unfold fr6
    go_upto_region 8 with fail
    try rw [show (max 1 2 : Int) = 2 from rfl]
    have HP3 := Lib.hid hW6
    clear hW6
    go_wp2
    go_loopw [6, 42] (fun tv iv W => ∃ (k : Nat) (L : List Bs), iv = .int .i64 (k : Nat) ∧ tv = .string (bytesOf (vb v ++ PJ L)) ∧ k ≤ 2 ∧ L.length = k ∧ Hid (PcsOk ⟨op, 2, a, b, c, []⟩ 2 L ∧ (vb v ++ PJ L).length ≤ 1 + 22 * k ∧ PT w S N5 T2 ⟨op, 2, a, b, c, []⟩ W)) (fun _ iv _ => 2 - (intOf iv).toNat)
    case atStart => exact ⟨0, [], rfl, by simp [PJ], by omega, rfl, Lib.hid ⟨⟨by simp, by simp, by simp, by simp⟩, by cases v <;> simp [vb, PJ], HP3.out⟩⟩
    case round =>
      obtain ⟨k, L, rfl, rfl, hk, hL, HI⟩ := hrel
      have hkc : k = 0 ∨ k = 1 ∨ k = 2 := by omega
      have q1 : wr.cell? ⟨T2, 1, none⟩ = some (.int .i64 2) := cell_of_row _ _ 1 _ _ _ HI.out.2.2.t2
      rcases hkc with rfl | rfl | rfl
      · have hsz : (bytesOf (vb v ++ PJ L)).size < 200 := by rw [bytesOf_size]; have := HI.out.2.1; omega
        go_upto_region 14 with fail
        refine region14 _ _ _ _ _ _ _ _ _ _ _ _ _ _ _ _ _ _ _ _ _ _ _ _ _ _ _ _ _ _ _ _ _ _ _ _ _ _ _ _ _ _ _ _ _ _ _ _ _ _ _ _ _ _ _ _ _ _ _ _ _ _ _ _ _ _ _ _ _ _ _ _ _ _ _ _ _ _ _ _ _ _ _ _ _ _ _ _ _ _ (hpt := HI.out.2.2) (i := 0) (n := a) (tx := vb v ++ PJ L) (hi := by omega) (hn := by simp) (hn64 := by have := HH.out; omega) (htx := by have := HI.out.2.1; simp at this ⊢; omega) (h6 := rfl) (hQ := fun z s6 s53 s54 s55 s56 s57 s58 s59 s60 s61 s62 s63 s64 s65 W hW h6 => ?_)
        subst h6
        unfold fr14
        have hnl := num_len z a (by have := HH.out; omega)
        have hpj := (PJ_step v L (num z a)).1 (List.length_eq_zero_iff.1 hL)
        have HK := Lib.hid (And.intro hnl hpj)
        clear hnl hpj
        rw [HK.out.2]
        go_wp2
        refine ⟨⟨1, L ++ [num z a], rfl, rfl, by omega, by rw [List.length_append, hL]; rfl, Lib.hid ⟨HI.out.1.snoc _ (fun h _ => ⟨z, rfl⟩) (fun h _ => by omega) (fun h _ => by omega) (fun h => by omega), ?_, hW⟩⟩, by simp [intOf]⟩
        have h1 := HI.out.2.1
        have h2 := HK.out.1
        rw [← HK.out.2]
        simp at h1 ⊢
        omega
      · have hsz : (bytesOf (vb v ++ PJ L)).size < 200 := by rw [bytesOf_size]; have := HI.out.2.1; omega
        go_upto_region 14 with fail
        rw [dot46, bytes_add]
        refine region14 _ _ _ _ _ _ _ _ _ _ _ _ _ _ _ _ _ _ _ _ _ _ _ _ _ _ _ _ _ _ _ _ _ _ _ _ _ _ _ _ _ _ _ _ _ _ _ _ _ _ _ _ _ _ _ _ _ _ _ _ _ _ _ _ _ _ _ _ _ _ _ _ _ _ _ _ _ _ _ _ _ _ _ _ _ _ _ _ _ _ (hpt := HI.out.2.2) (i := 1) (n := b) (tx := vb v ++ PJ L ++ [46]) (hi := by omega) (hn := by simp) (hn64 := by have := HH.out; omega) (htx := by have := HI.out.2.1; simp at this ⊢; omega) (h6 := rfl) (hQ := fun z s6 s53 s54 s55 s56 s57 s58 s59 s60 s61 s62 s63 s64 s65 W hW h6 => ?_)
        subst h6
        unfold fr14
        have hnl := num_len z b (by have := HH.out; omega)
        have hpj := (PJ_step v L (num z b)).2 (fun e => by rw [e] at hL; simp at hL)
        have HK := Lib.hid (And.intro hnl hpj)
        clear hnl hpj
        rw [HK.out.2]
        go_wp2
        refine ⟨⟨2, L ++ [num z b], rfl, rfl, by omega, by rw [List.length_append, hL]; rfl, Lib.hid ⟨HI.out.1.snoc _ (fun h _ => by omega) (fun h _ => ⟨z, rfl⟩) (fun h _ => by omega) (fun h => by omega), ?_, hW⟩⟩, by simp [intOf]⟩
        have h1 := HI.out.2.1
        have h2 := HK.out.1
        rw [← HK.out.2]
        simp at h1 ⊢
        omega
      · have q5 : wr.cell? ⟨T2, 5, none⟩ = some (.string (bytesOf [])) := cell_of_row _ _ 5 _ _ _ HI.out.2.2.t2
        have e1 := bytesOf_toList []
        have hsz : (bytesOf (vb v ++ PJ L)).size < 200 := by rw [bytesOf_size]; have := HI.out.2.1; omega
        have d5 : (([] : Bs) == ([] : Bs)) = true := rfl
        go_wp2
        go_ret
        have hv := pieces_tx ⟨op, 2, a, b, c, []⟩ 2 rfl (by omega) (fun _ => rfl) v false (fun _ => rfl) L HI.out.1 (by omega) (by omega) (by omega)
        refine ⟨_, ?_, hv, HI.out.2.2.b, HI.out.2.2.s⟩
        simp [pb, mb]
  · have h7' : s7 = .int .i64 3 := by rw [h7]; rfl
    clear h7
    subst h7'
    unfold fr6
    go_upto_region 8 with fail
    try rw [show (max 1 3 : Int) = 3 from rfl]
    have HP3 := Lib.hid hW6
    clear hW6
    go_wp2
    go_loopw [6, 42] (fun tv iv W => ∃ (k : Nat) (L : List Bs), iv = .int .i64 (k : Nat) ∧ tv = .string (bytesOf (vb v ++ PJ L)) ∧ k ≤ 3 ∧ L.length = k ∧ Hid (PcsOk ⟨op, 2, a, b, c, []⟩ 2 L ∧ (vb v ++ PJ L).length ≤ 1 + 22 * k ∧ PT w S N5 T2 ⟨op, 2, a, b, c, []⟩ W)) (fun _ iv _ => 3 - (intOf iv).toNat)
    case atStart => exact ⟨0, [], rfl, by simp [PJ], by omega, rfl, Lib.hid ⟨⟨by simp, by simp, by simp, by simp⟩, by cases v <;> simp [vb, PJ], HP3.out⟩⟩
    case round =>
      obtain ⟨k, L, rfl, rfl, hk, hL, HI⟩ := hrel
      have hkc : k = 0 ∨ k = 1 ∨ k = 2 ∨ k = 3 := by omega
      have q1 : wr.cell? ⟨T2, 1, none⟩ = some (.int .i64 2) := cell_of_row _ _ 1 _ _ _ HI.out.2.2.t2
      rcases hkc with rfl | rfl | rfl | rfl
      · have hsz : (bytesOf (vb v ++ PJ L)).size < 200 := by rw [bytesOf_size]; have := HI.out.2.1; omega
        go_upto_region 14 with fail
        refine region14 _ _ _ _ _ _ _ _ _ _ _ _ _ _ _ _ _ _ _ _ _ _ _ _ _ _ _ _ _ _ _ _ _ _ _ _ _ _ _ _ _ _ _ _ _ _ _ _ _ _ _ _ _ _ _ _ _ _ _ _ _ _ _ _ _ _ _ _ _ _ _ _ _ _ _ _ _ _ _ _ _ _ _ _ _ _ _ _ _ _ (hpt := HI.out.2.2) (i := 0) (n := a) (tx := vb v ++ PJ L) (hi := by omega) (hn := by simp) (hn64 := by have := HH.out; omega) (htx := by have := HI.out.2.1; simp at this ⊢; omega) (h6 := rfl) (hQ := fun z s6 s53 s54 s55 s56 s57 s58 s59 s60 s61 s62 s63 s64 s65 W hW h6 => ?_)
        subst h6
        unfold fr14
        have hnl := num_len z a (by have := HH.out; omega)
        have hpj := (PJ_step v L (num z a)).1 (List.length_eq_zero_iff.1 hL)
        have HK := Lib.hid (And.intro hnl hpj)
        clear hnl hpj
        rw [HK.out.2]
        go_wp2
        refine ⟨⟨1, L ++ [num z a], rfl, rfl, by omega, by rw [List.length_append, hL]; rfl, Lib.hid ⟨HI.out.1.snoc _ (fun h _ => ⟨z, rfl⟩) (fun h _ => by omega) (fun h _ => by omega) (fun h => by omega), ?_, hW⟩⟩, by simp [intOf]⟩
        have h1 := HI.out.2.1
        have h2 := HK.out.1
        rw [← HK.out.2]
        simp at h1 ⊢
        omega
      · have hsz : (bytesOf (vb v ++ PJ L)).size < 200 := by rw [bytesOf_size]; have := HI.out.2.1; omega
        go_upto_region 14 with fail
        rw [dot46, bytes_add]
        refine region14 _ _ _ _ _ _ _ _ _ _ _ _ _ _ _ _ _ _ _ _ _ _ _ _ _ _ _ _ _ _ _ _ _ _ _ _ _ _ _ _ _ _ _ _ _ _ _ _ _ _ _ _ _ _ _ _ _ _ _ _ _ _ _ _ _ _ _ _ _ _ _ _ _ _ _ _ _ _ _ _ _ _ _ _ _ _ _ _ _ _ (hpt := HI.out.2.2) (i := 1) (n := b) (tx := vb v ++ PJ L ++ [46]) (hi := by omega) (hn := by simp) (hn64 := by have := HH.out; omega) (htx := by have := HI.out.2.1; simp at this ⊢; omega) (h6 := rfl) (hQ := fun z s6 s53 s54 s55 s56 s57 s58 s59 s60 s61 s62 s63 s64 s65 W hW h6 => ?_)
        subst h6
        unfold fr14
        have hnl := num_len z b (by have := HH.out; omega)
        have hpj := (PJ_step v L (num z b)).2 (fun e => by rw [e] at hL; simp at hL)
        have HK := Lib.hid (And.intro hnl hpj)
        clear hnl hpj
        rw [HK.out.2]
        go_wp2
        refine ⟨⟨2, L ++ [num z b], rfl, rfl, by omega, by rw [List.length_append, hL]; rfl, Lib.hid ⟨HI.out.1.snoc _ (fun h _ => by omega) (fun h _ => ⟨z, rfl⟩) (fun h _ => by omega) (fun h => by omega), ?_, hW⟩⟩, by simp [intOf]⟩
        have h1 := HI.out.2.1
        have h2 := HK.out.1
        rw [← HK.out.2]
        simp at h1 ⊢
        omega
      · have hsz : (bytesOf (vb v ++ PJ L)).size < 200 := by rw [bytesOf_size]; have := HI.out.2.1; omega
        go_upto_region 15 with fail
        rw [dot46, bytes_add, List.append_assoc]
        have hs2 : (bytesOf (vb v ++ (PJ L ++ [46]))).size < 300 := by rw [bytesOf_size]; have := HI.out.2.1; simp at this ⊢; omega
        have H1 := HI.out.2.2.keep ((Below.refl _ _).alloc (Nat.le_refl _) wrow3)
        have hrow := heap_alloc_new wr wrow3
        have hP : wr.heap.size ≠ S := by have := HI.out.2.2.l; omega
        obtain ⟨x1, hx1⟩ := H1.s
        unfold wrow3 at H1 hrow hx1
        have HPT := Lib.hid (fun y => H1.put y)
        have HRW := Lib.hid (fun y : Int => (show ((wr.alloc (.cells #[.string ⟨#[120]⟩, .string ⟨#[88]⟩, .string ⟨#[42]⟩] 9)).setCell ⟨S, 0, none⟩ (.int .u64 y)).heap[wr.heap.size]? = (wr.alloc (.cells #[.string ⟨#[120]⟩, .string ⟨#[88]⟩, .string ⟨#[42]⟩] 9)).heap[wr.heap.size]? from heap_setCell_other _ _ _ _ hP).trans hrow)
        have HM := Lib.hid (m17 S x1 3 (by omega) (by omega) _ hx1)
        clear H1 hrow hx1
        go_wp2_with (go_at_call 39; refine HM.out.mono ?_; rintro e w9 ⟨q9, y, rfl, hq9, hw⟩; have H2 := HPT.out y; have hr2 := HRW.out y; rw [← hw] at H2 hr2; obtain ⟨p, hpw, hm⟩ := w3cell hr2 hq9; have hqi9 : (q9 : Int) < 3 := (by omega); have zm : (bytesOf p).size ≤ 1 := (by rw [bytesOf_size]; rcases hpw with rfl | rfl | rfl <;> decide); have HF := Lib.hid (And.intro H2 hpw); have HK := Lib.hid ((PJ_step v L p).2 (fun e => by rw [e] at hL; simp at hL)); clear hw hr2 H2 hpw)
        go_roundw
        case measure => simp [intOf]
        case rel =>
          refine ⟨3, L ++ [p], rfl, ?_, by omega, by rw [List.length_append, hL]; rfl, Lib.hid ⟨HI.out.1.snoc _ (fun h _ => by omega) (fun h _ => by omega) (fun h _ => by omega) (fun h => HF.out.2), ?_, HF.out.1⟩⟩
          · rw [bytes_add, ← HK.out]; simp
          · have h1 := HI.out.2.1
            rw [bytesOf_size] at zm
            rw [← HK.out]
            simp at h1 ⊢
            omega
      · have q5 : wr.cell? ⟨T2, 5, none⟩ = some (.string (bytesOf [])) := cell_of_row _ _ 5 _ _ _ HI.out.2.2.t2
        have e1 := bytesOf_toList []
        have hsz : (bytesOf (vb v ++ PJ L)).size < 200 := by rw [bytesOf_size]; have := HI.out.2.1; omega
        have d5 : (([] : Bs) == ([] : Bs)) = true := rfl
        go_wp2
        go_ret
        have hv := pieces_tx ⟨op, 2, a, b, c, []⟩ 2 rfl (by omega) (fun _ => rfl) v false (fun _ => rfl) L HI.out.1 (by omega) (by omega) (by omega)
        refine ⟨_, ?_, hv, HI.out.2.2.b, HI.out.2.2.s⟩
        simp [pb, mb]
end Go.Proofs.YtnamjojceadgdaaGreatDoor.Sv
end
section
set_option linter.unusedVariables false
set_option linter.unusedSimpArgs false
/- PartialText whole; TermText -/
namespace Go.Proofs.YtnamjojceadgdaaGreatDoor.Sv
open Go Go.RowKit Rx
set_option maxRecDepth 100000
/-- the numbers of a term as they come -/
def TV.Fit (t : TV) : Prop := t.a < 18446744073709551616 ∧ t.b < 18446744073709551616 ∧ t.c < 18446744073709551616 ∧ t.pre.length ≤ 2147483647
theorem m51 (t : TV) (ht : t.Good) (hf : t.Fit) (S : Nat) (x : Int) (w : World) (hS : w.heap[S]? = some (.cells #[.int .u64 x] 116 (0, 0))) :
    Calls Tryz.prog 90 #[t.val, .pointer (some ⟨S, 0, none⟩)] w fun e w' => ∃ V, e = .returned (.string (bytesOf V)) ∧ VerTx t V ∧ Below S w w' ∧ ∃ y : Int, w'.heap[S]? = some (.cells #[.int .u64 y] 116 (0, 0)) := by
  obtain ⟨op, g, a, b, c, pre⟩ := t
  obtain ⟨hg0, hg3⟩ := ht.g
  obtain ⟨h1, h2, h3, h4⟩ := hf
  have hgc : g = 0 ∨ g = 1 ∨ g = 2 ∨ g = 3 := by simp only at hg0 hg3; omega
  unfold TV.val
  rcases hgc with rfl | rfl | rfl | rfl
  · obtain ⟨rfl, rfl⟩ := ht.c (show (0 : Int) < 3 by decide)
    exact m51_0 op a b 0 h1 h2 (by omega) S x w hS
  · obtain ⟨rfl, rfl⟩ := ht.c (show (1 : Int) < 3 by decide)
    exact m51_1 op a b 0 h1 h2 (by omega) S x w hS
  · obtain ⟨rfl, rfl⟩ := ht.c (show (2 : Int) < 3 by decide)
    exact m51_2 op a b 0 h1 h2 (by omega) S x w hS
  · exact m51_3 op a b c pre h1 h2 h3 h4 S x w hS
theorem VerTx.len {t : TV} {V : Bs} (h : VerTx t V) (hf : t.Fit) : V.length ≤ 80 + t.pre.length := by
  obtain ⟨q, h1, h2, h3, h4, h5, h6, h7, h8, h9, rfl⟩ := h
  obtain ⟨f1, f2, f3, -⟩ := hf
  have n1 := num_len q.z1 q.a (by omega)
  have n2 := num_len q.z2 q.b (by omega)
  have n3 := num_len q.z3 q.c (by omega)
  have hv : (if q.v then [118] else [] : Bs).length ≤ 1 := by split <;> simp
  have hw1 := (wild_X h6).2.2
  have hw2 : (ptext q.w2).length ≤ 2 := by
    cases e : q.w2 with
    | none => simp [ptext]
    | some y => have := (wild_X (h7 y e)).2.2; simp [ptext]; omega
  have hw3 : (ptext q.w3).length ≤ 2 := by
    cases e : q.w3 with
    | none => simp [ptext]
    | some y => have := (wild_X (h8 y e)).2.2; simp [ptext]; omega
  have hp := gtext_len 45 (pgrp q.pre)
  have hm := gtext_len 43 (mgrp q.mt)
  rw [gpre_pgrp] at hp
  have hm2 : (gpre (mgrp q.mt)).length ≤ 4 := by cases q.mt <;> simp [mgrp, gpre, dots]
  have h5' := congrArg List.length h5
  have hz : ∀ o, gtext o none = [] := fun o => rfl
  unfold GT.ver
  split <;> simp only [Ver.text, List.length_append, hz, List.length_nil, show ∀ y : Bs, (ptext (some y)).length = y.length + 1 from fun y => by simp [ptext]] <;> omega
def blankB (b : Bs) : Prop := b = [] ∨ b = [32] ∨ b = [32, 32] ∨ b = [9]
def brow8 : Obj := .cells #[.string ⟨#[]⟩, .string ⟨#[]⟩, .string ⟨#[]⟩, .string ⟨#[32]⟩, .string ⟨#[32]⟩, .string ⟨#[32]⟩, .string ⟨#[32, 32]⟩, .string ⟨#[9]⟩] 9 (0, 0)
theorem b8cell {W : World} {P q : Nat} (h : W.heap[P]? = some brow8) (hq : q < 8) : ∃ m : Bs, blankB m ∧ W.cell? ⟨P, q, none⟩ = some (.string (bytesOf m)) := by
  have h' : q = 0 ∨ q = 1 ∨ q = 2 ∨ q = 3 ∨ q = 4 ∨ q = 5 ∨ q = 6 ∨ q = 7 := by omega
  unfold brow8 at h
  rcases h' with rfl | rfl | rfl | rfl | rfl | rfl | rfl | rfl
  all_goals first
    | exact ⟨[], .inl rfl, cell_of_row _ _ _ _ _ _ h⟩
    | exact ⟨[32], .inr (.inl rfl), cell_of_row _ _ _ _ _ _ h⟩
    | exact ⟨[32, 32], .inr (.inr (.inl rfl)), cell_of_row _ _ _ _ _ _ h⟩
    | exact ⟨[9], .inr (.inr (.inr rfl)), cell_of_row _ _ _ _ _ _ h⟩
theorem blankB.len {b : Bs} (h : blankB b) : b.length ≤ 2 := by rcases h with rfl | rfl | rfl | rfl <;> decide
theorem blankB.ws {b : Bs} (h : blankB b) : ∀ y ∈ b, ws y = true := by rcases h with rfl | rfl | rfl | rfl <;> decide
theorem spell_len (op : Int) : 0 < (spell op).length ∧ (spell op).length ≤ 2 := by unfold spell; (repeat' split) <;> decide
theorem spell_blen {op : Int} {s : Bs} (h : s ∈ spell op) : s.length ≤ 2 := by
  have ho := spell_ok h
  simp only [opTexts, List.mem_cons, List.not_mem_nil, or_false] at ho
  rcases ho with e | e | e | e | e | e | e | e | e | e | e | e <;> rw [e] <;> decide
theorem spcell {W : World} {P q : Nat} {op : Int} (h : W.heap[P]? = some (.cells ((spell op).map fun s => Value.string (bytesOf s)).toArray 9 (0, 0))) (hq : q < (spell op).length) : ∃ o : Bs, o ∈ spell op ∧ W.cell? ⟨P, q, none⟩ = some (.string (bytesOf o)) := by
  refine ⟨(spell op)[q], List.getElem_mem hq, ?_⟩
  rw [cell_of_row _ _ _ _ _ _ h]
  simp [hq]
/-- what the writer's world keeps: the style, and what lies below -/
structure ST (w : World) (S : Nat) (W : World) : Prop where
  s : ∃ x : Int, W.heap[S]? = some (.cells #[.int .u64 x] 116 (0, 0))
  b : Below S w W
  l : w.heap.size ≤ W.heap.size ∧ S < w.heap.size
theorem ST.keep {w : World} {S : Nat} {W W' : World} (h : ST w S W) (hb : Below W.heap.size W W') : ST w S W' := by
  obtain ⟨x, hx⟩ := h.s
  have hl := h.l
  exact ⟨⟨x, (hb.block S (Array.getElem?_eq_some_iff.1 hx).1).trans hx⟩, h.b.trans (hb.mono (by omega)), by have := hb.size; omega⟩
theorem ST.put {w : World} {S : Nat} {W : World} (h : ST w S W) (y : Int) : ST w S (W.setCell ⟨S, 0, none⟩ (.int .u64 y)) := by
  obtain ⟨x, hx⟩ := h.s
  have hl := h.l
  exact ⟨⟨y, heap_setCell_same _ _ 0 _ _ _ hx⟩, h.b.setCell (p := ⟨S, 0, none⟩) (Nat.le_refl _) _, by simp; exact hl⟩
theorem ST.step {w : World} {S : Nat} {W W' : World} (h : ST w S W) (hb : Below S W W') (hs : ∃ y : Int, W'.heap[S]? = some (.cells #[.int .u64 y] 116 (0, 0))) : ST w S W' := by
  have hl := h.l
  exact ⟨hs, h.b.trans hb, by have := hb.size; omega⟩
set_option maxHeartbeats 8000000 in
theorem m31 (t : TV) (ht : t.Good) (hf : t.Fit) (S : Nat) (x : Int) (w : World) (hS : w.heap[S]? = some (.cells #[.int .u64 x] 116 (0, 0))) :
    Calls Tryz.prog 65 #[t.val, .pointer (some ⟨S, 0, none⟩)] w fun e w' => ∃ o bl V : Bs, e = .returned (.tuple #[.string (bytesOf (o ++ (bl ++ V))), .string (bytesOf (o ++ V))]) ∧ o ∈ spell t.op ∧ blankB bl ∧ (o = [] → bl = []) ∧ VerTx t V ∧ Below S w w' ∧ ∃ y : Int, w'.heap[S]? = some (.cells #[.int .u64 y] 116 (0, 0)) := by
  have hSl := (Array.getElem?_eq_some_iff.1 hS).1
  obtain ⟨op, g, a, b, c, pre⟩ := t
  have HG := Lib.hid (And.intro ht hf)
  obtain ⟨o0, o8⟩ := ht.op
  have H51 := Lib.hid (fun S x w hS => m51 ⟨op, g, a, b, c, pre⟩ ht hf S x w hS)
  have H0 : ST w S (w.alloc (.cells #[.int .i64 op, .int .i64 g, .int .u64 a, .int .u64 b, .int .u64 c, .string (bytesOf pre)] 31)) := by
    have := ST.keep (w := w) (S := S) ⟨⟨x, hS⟩, Below.refl _ _, Nat.le_refl _, hSl⟩ ((Below.refl _ w).alloc (Nat.le_refl _) (.cells #[.int .i64 op, .int .i64 g, .int .u64 a, .int .u64 b, .int .u64 c, .string (bytesOf pre)] 31))
    exact this
  have hT := heap_alloc_new w (.cells #[.int .i64 op, .int .i64 g, .int .u64 a, .int .u64 b, .int .u64 c, .string (bytesOf pre)] 31 (0, 0))
  unfold TV.val at *
  simp only at *
  clear ht hf hS
  go_enter Tryz.func65, Tryz.ntmps65
  go_upto_region 1 with fail
  generalize w.alloc (.cells #[.int .i64 op, .int .i64 g, .int .u64 a, .int .u64 b, .int .u64 c, .string (bytesOf pre)] 31) = w0 at *
  have hTS : w.heap.size ≠ S := by omega
  generalize w.heap.size = T at *
  have q0 : w0.cell? ⟨T, 0, none⟩ = some (.int .i64 op) := cell_of_row _ _ 0 _ _ _ hT
  have HM := Lib.hid (m50 op o0 o8 w0)
  obtain ⟨n1, n2⟩ := spell_len op
  go_upto_region 2 with (go_at_call 89; refine HM.out.mono ?_; rintro e w1 ⟨rfl, hw1⟩; have HW1 := Lib.hid hw1; clear hw1)
  have hb1 : Below w0.heap.size w0 w1 := by rw [HW1.out]; exact (Below.refl _ _).alloc (Nat.le_refl _) _
  have H1 := H0.keep hb1
  have hr1 : w1.heap[w0.heap.size]? = some (.cells ((spell op).map fun s => Value.string (bytesOf s)).toArray 9 (0, 0)) := by rw [HW1.out]; exact heap_alloc_new w0 _
  have hT1 : w1.heap[T]? = _ := (hb1.block T (Array.getElem?_eq_some_iff.1 hT).1).trans hT
  have hPS : w0.heap.size ≠ S := by have := H0.l; omega
  generalize w0.heap.size = P at *
  obtain ⟨N, hN⟩ : ∃ N, N = (spell op).length := ⟨_, rfl⟩
  rw [← hN] at n1 n2 ⊢
  have HN := Lib.hid hN
  obtain ⟨x1, hx1⟩ := H1.s
  have HM2 := Lib.hid (m17 S x1 N (by omega) (by omega) _ hx1)
  have HPT := Lib.hid (fun y => H1.put y)
  have HRW := Lib.hid (fun y : Int => (show (w1.setCell ⟨S, 0, none⟩ (.int .u64 y)).heap[P]? = w1.heap[P]? from heap_setCell_other _ _ _ _ hPS).trans hr1)
  have HTW := Lib.hid (fun y : Int => (show (w1.setCell ⟨S, 0, none⟩ (.int .u64 y)).heap[T]? = w1.heap[T]? from heap_setCell_other _ _ _ _ hTS).trans hT1)
  clear H0 H1 hr1 hT1 hx1 hT q0 HM HW1 hb1 hN
  go_upto_region 3 with (go_at_call 39; refine HM2.out.mono ?_; rintro e w2 ⟨q, y, rfl, hq, hw⟩; have H2 := HPT.out y; have hr2 := HRW.out y; have hT2 := HTW.out y; rw [← hw] at H2 hr2 hT2; obtain ⟨o, ho, hc⟩ := spcell hr2 (by rw [← HN.out]; exact hq); have hqi : (q : Int) < N := (by omega); clear hw hr2)
  have HO := Lib.hid ho
  have zo : (bytesOf o).size ≤ 2 := by rw [bytesOf_size]; exact spell_blen ho
  have e1 := bytesOf_toList o
  clear ho HPT HRW HTW HM2
  obtain ⟨x2, hx2⟩ := H2.s
  by_cases hp : o = []
  · have d5 : (o == ([] : Bs)) = true := by rw [hp]; rfl
    have HPP := Lib.hid hp
    clear hp
    have HM := Lib.hid (H51.out S x2 w2 hx2)
    have HB := Lib.hid H2
    clear hx2 H2
    have q0 : w2.cell? ⟨T, 0, none⟩ = some (.int .i64 op) := cell_of_row _ _ 0 _ _ _ hT2
    have q1 : w2.cell? ⟨T, 1, none⟩ = some (.int .i64 g) := cell_of_row _ _ 1 _ _ _ hT2
    have q2 : w2.cell? ⟨T, 2, none⟩ = some (.int .u64 a) := cell_of_row _ _ 2 _ _ _ hT2
    have q3 : w2.cell? ⟨T, 3, none⟩ = some (.int .u64 b) := cell_of_row _ _ 3 _ _ _ hT2
    have q4 : w2.cell? ⟨T, 4, none⟩ = some (.int .u64 c) := cell_of_row _ _ 4 _ _ _ hT2
    have q5 : w2.cell? ⟨T, 5, none⟩ = some (.string (bytesOf pre)) := cell_of_row _ _ 5 _ _ _ hT2
    clear hT2
    go_upto_region 6 with (go_at_call 90; refine HM.out.mono ?_; rintro e w3 ⟨V, rfl, hV, hb, hs⟩; have H3 := HB.out.step hb hs; have zV : (bytesOf V).size ≤ 2147483800 := (by rw [bytesOf_size]; have h1 := hV.len HG.out.2; have h2 : pre.length ≤ 2147483647 := HG.out.2.2.2.2; simp only at h1; omega); have HF := Lib.hid (And.intro hV H3); clear hV hb hs H3)
    go_wp2
    go_ret2
    refine ⟨o, [], V, ?_, HO.out, Or.inl rfl, fun _ => rfl, HF.out.1, HF.out.2.b, HF.out.2.s⟩
    rw [HPP.out]
    simp only [show (⟨#[]⟩ : ByteArray) = bytesOf [] from rfl, bytes_add, List.nil_append]
    rfl
  · have d5 : (o == ([] : Bs)) = false := by cases o with | nil => exact absurd rfl hp | cons y l => rfl
    have HPP := Lib.hid hp
    clear hp
    go_upto_region 4 with fail
    have H1 := H2.keep ((Below.refl _ _).alloc (Nat.le_refl _) brow8)
    have hrow := heap_alloc_new w2 brow8
    have hP2 : w2.heap.size ≠ S := by have := H2.l; omega
    have hTl : T < w2.heap.size := (Array.getElem?_eq_some_iff.1 hT2).1
    have hT3 : (w2.alloc brow8).heap[T]? = _ := (((Below.refl _ w2).alloc (Nat.le_refl _) brow8).block T hTl).trans hT2
    obtain ⟨x1, hx1⟩ := H1.s
    unfold brow8 at H1 hrow hx1 hT3
    have HPT := Lib.hid (fun y => H1.put y)
    have HRW := Lib.hid (fun y : Int => (show ((w2.alloc (.cells #[.string ⟨#[]⟩, .string ⟨#[]⟩, .string ⟨#[]⟩, .string ⟨#[32]⟩, .string ⟨#[32]⟩, .string ⟨#[32]⟩, .string ⟨#[32, 32]⟩, .string ⟨#[9]⟩] 9)).setCell ⟨S, 0, none⟩ (.int .u64 y)).heap[w2.heap.size]? = (w2.alloc (.cells #[.string ⟨#[]⟩, .string ⟨#[]⟩, .string ⟨#[]⟩, .string ⟨#[32]⟩, .string ⟨#[32]⟩, .string ⟨#[32]⟩, .string ⟨#[32, 32]⟩, .string ⟨#[9]⟩] 9)).heap[w2.heap.size]? from heap_setCell_other _ _ _ _ hP2).trans hrow)
    have HTW := Lib.hid (fun y : Int => (show ((w2.alloc (.cells #[.string ⟨#[]⟩, .string ⟨#[]⟩, .string ⟨#[]⟩, .string ⟨#[32]⟩, .string ⟨#[32]⟩, .string ⟨#[32]⟩, .string ⟨#[32, 32]⟩, .string ⟨#[9]⟩] 9)).setCell ⟨S, 0, none⟩ (.int .u64 y)).heap[T]? = (w2.alloc (.cells #[.string ⟨#[]⟩, .string ⟨#[]⟩, .string ⟨#[]⟩, .string ⟨#[32]⟩, .string ⟨#[32]⟩, .string ⟨#[32]⟩, .string ⟨#[32, 32]⟩, .string ⟨#[9]⟩] 9)).heap[T]? from heap_setCell_other _ _ _ _ hTS).trans hT3)
    have HM2 := Lib.hid (m17 S x1 8 (by omega) (by omega) _ hx1)
    clear H1 H2 hrow hx1 hx2 hT2 hT3
    go_upto_region 5 with (go_at_call 39; refine HM2.out.mono ?_; rintro e w3 ⟨q, y, rfl, hq, hw⟩; have H2 := HPT.out y; have hr2 := HRW.out y; have hT2 := HTW.out y; rw [← hw] at H2 hr2 hT2; obtain ⟨m, hmb, hm⟩ := b8cell hr2 hq; have hqi : (q : Int) < 8 := (by omega); have zm : (bytesOf m).size ≤ 2 := (by rw [bytesOf_size]; exact hmb.len); have HMB := Lib.hid hmb; clear hw hr2 hmb)
    obtain ⟨x3, hx3⟩ := H2.s
    have HM := Lib.hid (H51.out S x3 w3 hx3)
    have HB := Lib.hid H2
    clear hx3 H2 HPT HRW HTW HM2
    have q0 : w3.cell? ⟨T, 0, none⟩ = some (.int .i64 op) := cell_of_row _ _ 0 _ _ _ hT2
    have q1 : w3.cell? ⟨T, 1, none⟩ = some (.int .i64 g) := cell_of_row _ _ 1 _ _ _ hT2
    have q2 : w3.cell? ⟨T, 2, none⟩ = some (.int .u64 a) := cell_of_row _ _ 2 _ _ _ hT2
    have q3 : w3.cell? ⟨T, 3, none⟩ = some (.int .u64 b) := cell_of_row _ _ 3 _ _ _ hT2
    have q4 : w3.cell? ⟨T, 4, none⟩ = some (.int .u64 c) := cell_of_row _ _ 4 _ _ _ hT2
    have q5 : w3.cell? ⟨T, 5, none⟩ = some (.string (bytesOf pre)) := cell_of_row _ _ 5 _ _ _ hT2
    clear hT2
    go_upto_region 6 with (go_at_call 90; refine HM.out.mono ?_; rintro e w4 ⟨V, rfl, hV, hb, hs⟩; have H3 := HB.out.step hb hs; have zV : (bytesOf V).size ≤ 2147483800 := (by rw [bytesOf_size]; have h1 := hV.len HG.out.2; have h2 : pre.length ≤ 2147483647 := HG.out.2.2.2.2; simp only at h1; omega); have HF := Lib.hid (And.intro hV H3); clear hV hb hs H3)
    have zom : (bytesOf o ++ bytesOf m).size ≤ 4 := by rw [ByteArray.size_append]; omega
    go_wp2
    go_ret2
    refine ⟨o, m, V, ?_, HO.out, HMB.out, fun h => absurd h HPP.out, HF.out.1, HF.out.2.b, HF.out.2.s⟩
    simp [bytes_add]
end Go.Proofs.YtnamjojceadgdaaGreatDoor.Sv
end
section
set_option linter.unusedVariables false
set_option linter.unusedSimpArgs false
/- a list of terms with blanks ahead of it and behind it: it is taken, its terms are found -/
namespace Go.Proofs.YtnamjojceadgdaaGreatDoor.Sv
open Go Go.RowKit Rx
set_option maxRecDepth 100000
/-- a list of terms is taken by the whole check -/
theorem validMR {w : World} {R PB IB icap : Nat} {s : ByteArray} (hp : PG w R PB IB icap validT) (hr : RH w R PB 4 1 50 1 24) (hT : Lib.Utf8Tabs 11 12 w) (hs : s.size ≤ 1000)
    {B R' : Bs} {x : Tm} {l : List (Sep × Tm)} (hB : ∀ y ∈ B, ws y = true) (hR : ∀ y ∈ R', ws y = true) (hx : x.Ok) (hl : LOk l) (ht : s.data.toList = B ++ (ltext x l ++ R')) :
    Calls Tryz.prog 27 #[.pointer (some ⟨R, 0, none⟩), .string s] w fun e w' => e = .returned (.bool true) ∧ Below w.heap.size w w' := by
  obtain ⟨n, hM⟩ := valid_M (txt_env validT s) rfl 0 (Nat.zero_le _)
  have hv := valid_evalR hB hR hx hl _ ht
  have h0 : ¬ s.size < 1 := by
    intro h
    have : s.data.toList.length = 0 := by rw [list_size]; omega
    rw [ht] at this
    obtain ⟨y, r, hy, _⟩ := ver_head hx.ver
    simp [ltext, Tm.text, hy] at this
  refine (tMatchString (sur_of hp hT validT_ok (by decide) hs) hr (by omega) (.emp 2 4) rfl (by decide) hM (fun h => absurd h h0)).mono ?_
  rintro e w' ⟨rfl, hb⟩
  exact ⟨by rw [hv], hb⟩
theorem msT_stepR {E : Env} {s R : Bs} (T : Txt E s) (hR : ∀ y ∈ R, ws y = true) {y : Sep × Tm} {l : List (Sep × Tm)} {p : Nat} (h : s.drop p = ltail (y :: l) ++ R) (hp : p ≤ s.length) (h1 : SepW y.1) (h2 : y.2.Ok) (h0 : y.2.op = [] → y.2.blank = []) (hl : LOk l)
    (ih : ∀ p, s.drop p = ltail l ++ R → p ≤ s.length → MsOk E s.length (findS s) p (msT p l)) : MsOk E s.length (findS s) p (msT p (y :: l)) := by
  have hlen := text_len h0
  have h3 : s.drop p = (y.1.text ++ y.2.text) ++ (ltail l ++ R) := by rw [h]; simp [ltail]
  have h4 := drop_add h3
  rw [hlen] at h4
  have hN := congrArg List.length h3
  rw [List.length_drop, List.length_append, hlen] at hN
  have hpos := tm_pos (found_okW h1 h2)
  refine ⟨fun k hk => ?_, p + skip y + (found y).text.length, (mAt_slots _ _).1, ⟨(mAt_slots _ _).2, by show p + skip y ≤ _; omega⟩, by omega, by omega, ?_⟩
  · have := find_nextR (n := k - (skip y + 1)) T hR h h1 h2 h0 hl
    rwa [show k - (skip y + 1) + skip y + 1 = k by omega] at this
  · exact ih _ (by rw [← h4]; congr 1; omega) (by omega)
theorem msT_okR {E : Env} {s R : Bs} (T : Txt E s) (hR : ∀ y ∈ R, ws y = true) : ∀ (l : List (Sep × Tm)) (p : Nat), s.drop p = ltail l ++ R → p ≤ s.length → LOk l → MsOk E s.length (findS s) p (msT p l)
  | [], p, h, hp, _ => fun k _ => find_endR T hR (by rw [h]; simp [ltail]) hp
  | y :: l, p, h, hp, hl => by
    obtain ⟨h1, h2, h0⟩ := hl y (by simp)
    exact msT_stepR T hR h hp h1.weak h2 h0 (fun z hz => hl z (by simp [hz])) fun p h hp => msT_okR T hR l p h hp (fun z hz => hl z (by simp [hz]))
theorem msT_textR {s : ByteArray} {R : Bs} : ∀ (l : List (Sep × Tm)) (p : Nat), s.data.toList.drop p = ltail l ++ R → p ≤ s.size → (∀ y ∈ l, y.2.op = [] → y.2.blank = []) → (msT p l).map (mtext s) = l.map (fun y => ⟨(found y).text.toArray⟩)
  | [], p, h, hp, _ => rfl
  | y :: l, p, h, hp, hl => by
    have h0 := hl y (by simp)
    have hlen := text_len h0
    have h3 : s.data.toList.drop p = gap y ++ ((found y).text ++ (ltail l ++ R)) := by
      rw [h, ← List.append_assoc, ← text_found h0]; simp [ltail]
    have hN := congrArg List.length h3
    rw [List.length_drop, List.length_append, List.length_append, list_size] at hN
    have hsk : skip y = (gap y).length := rfl
    have h4 := drop_add h3
    have h5 := drop_add h4
    simp only [msT, List.map_cons]
    congr 1
    · unfold mtext
      rw [(mAt_slots _ _).1]
      obtain ⟨e1, e2⟩ := drop_split h4 (by rw [list_size]; omega)
      refine extract_eq e1 (by rw [e2]; rfl) rfl
    · exact msT_textR l _ h5 (by omega) (fun z hz => hl z (by simp [hz]))
theorem findMR {w : World} {RX PB IB icap : Nat} {s : ByteArray} (hp : PG w RX PB IB icap findT) (hr : RH w RX PB 0 1 24 1 11) (hT : Lib.Utf8Tabs 11 12 w) (hs : s.size ≤ 1000) {R : Bs} (hR : ∀ y ∈ R, ws y = true)
    {y : Sep × Tm} {l : List (Sep × Tm)} (h1 : SepW y.1) (h2 : y.2.Ok) (h0 : y.2.op = [] → y.2.blank = []) (hl : LOk l) (ht : s.data.toList = ltail (y :: l) ++ R) :
    Calls Tryz.prog 30 #[.pointer (some ⟨RX, 0, none⟩), .string s, .int .i64 (-1)] w fun e w' => ∃ v, e = .returned v ∧ w'.ownsRow w.heap.size 9 1 v (l.length + 1) (((found y).text :: l.map fun y => (found y).text).map fun t => Value.string ⟨t.toArray⟩) ∧ Below w.heap.size w w' := by
  have T := txt_env findT s
  have hd : s.data.toList.drop 0 = ltail (y :: l) ++ R := ht
  have hll : l.length < 1001 := by
    have : ∀ (l : List (Sep × Tm)), LOk l → l.length ≤ (ltail l).length := by
      intro l
      induction l with
      | nil => intro _; simp
      | cons y l ih =>
        intro hl
        have h1 := ih (fun z hz => hl z (by simp [hz]))
        have h2 := tm_pos (hl y (by simp)).2.1
        simp [ltail] at h1 ⊢
        omega
    have h3 := this l hl
    have h4 : (ltail l).length ≤ s.size := by rw [← list_size, ht]; simp [ltail]; omega
    omega
  have hpos : 0 < s.size := by
    have h3 := tm_pos h2
    rw [← list_size, ht]; simp [ltail]; omega
  have hms : MsOk (envOf findT s) s.size (findS s.data.toList) 0 (msT 0 (y :: l)) := by
    rw [← list_size s]
    exact msT_stepR T hR hd (Nat.zero_le _) h1 h2 h0 hl fun p h hp => msT_okR T hR l p h hp hl
  have h := tFindAll (sur_of hp hT findT_ok (by decide) hs) hr (by omega) _ (show findT[1]? = some findT[1] from rfl) (by decide) (by omega) (findS s.data.toList) (fun p hp => find_M T rfl p (by rw [list_size]; exact hp)) _ hms (fun h => by omega) (by simp [msT_length]; omega)
  refine h.mono ?_
  rintro e w' ⟨v, rfl, h1', h2', h3'⟩
  refine ⟨v, rfl, ?_, h3'⟩
  have e1 : (msT 0 (y :: l)).map (mtext s) = ((found y).text :: l.map fun y => (found y).text).map fun t => (⟨t.toArray⟩ : ByteArray) := by
    rw [msT_textR (y :: l) 0 hd (Nat.zero_le _) (fun z hz => by
      rcases List.mem_cons.1 hz with rfl | hz
      · exact h0
      · exact (hl z hz).2.2)]
    simp
  rw [e1] at h1'
  simpa [msT_length, Function.comp_def] using h1'
end Go.Proofs.YtnamjojceadgdaaGreatDoor.Sv
end
section
set_option linter.unusedVariables false
set_option linter.unusedSimpArgs false
/- what is read of a term in any of its ways; lists of such -/
namespace Go.Proofs.YtnamjojceadgdaaGreatDoor.Sv
open Go Go.RowKit Rx
set_option maxRecDepth 100000
def zver (x y : Bs) : Ver := ⟨false, x, some y, some [48], none, none⟩
theorem zpart : okPart dB [48] := ⟨by simp, by decide⟩
theorem zparse : Lib.parseUintB 64 [48] = .ok 0 := by
  have := parse_dec64 0 (by decide)
  rwa [show Lib.decDigits 0 = [48] from Lib.decDigits_one (by omega)] at this
theorem zver_text (x y : Bs) : (zver x y).text = x ++ 46 :: y ++ [46, 48] := by simp [zver, Ver.text, ptext, gtext]
theorem reads_z {x y : Bs} (hx : okPart dB x) (hy : okPart dB y) (a b : Nat) (ha : Lib.parseUintB 64 x = .ok a) (hb : Lib.parseUintB 64 y = .ok b) (hl : x.length + y.length ≤ 100) : Reads (x ++ 46 :: y ++ [46, 48]) a b 0 [] [] := by
  rw [← zver_text]
  refine tNewVerG (zver x y) ⟨hx, fun z h => ?_, fun z h => ⟨?_, by simp [zver]⟩, trivial, trivial⟩ y [48] rfl rfl (.inl rfl) (.inl rfl) a b 0 ha hb zparse (by rw [zver_text]; simp; omega)
  · obtain rfl : y = z := by simpa [zver] using h
    exact hy
  · obtain rfl : [48] = z := by simpa [zver] using h
    exact zpart
theorem read_g (t : GT) (h : t.Ok) (L : Bs) (hL : ∀ y ∈ L, ws y = true) (hl : L.length ≤ 600) (w : World) (hT : Lib.Utf8Tabs 11 12 w) :
    Calls Tryz.prog 31 #[.string (bytesOf (L ++ t.tm.text))] w fun e w' => ∃ C, e = .returned (.tuple #[ptr C, .nilIface]) ∧ w.heap.size ≤ C ∧ TDAt w' C t.td ∧ Below w.heap.size w w' := by
  have hlen := h.len
  have ho := op_len h.op
  have hok := h.tm
  have hob := h.ob
  have hbl := h.bl
  have hs : (bytesOf (L ++ t.tm.text)).size ≤ 1000 := by rw [bytesOf_size]; simp [GT.tm, Tm.text]; omega
  have ht : (bytesOf (L ++ t.tm.text)).data.toList = L ++ (t.tm.text ++ []) := by rw [bytesOf_list]; simp
  have n1 := num_part t.z1 t.a
  have n2 := num_part t.z2 t.b
  have n3 := num_part t.z3 t.c
  have p1 := num_parse t.z1 t.a h.a
  have p2 := num_parse t.z2 t.b h.b
  have p3 := num_parse t.z3 t.c h.c
  have l1 := num_len t.z1 t.a h.a
  have l2 := num_len t.z2 t.b h.b
  have x1 := num_noX t.z1 t.a
  have x2 := num_noX t.z2 t.b
  have x3 := num_noX t.z3 t.c
  have r1 : Reads (num t.z1 t.a ++ [46, 48, 46, 48]) t.a 0 0 [] [] := by
    have := reads_z n1 zpart t.a 0 p1 zparse (by simp; omega)
    simpa using this
  have r2 := reads_z n1 n2 t.a t.b p1 p2 (by omega)
  obtain ⟨op, blank, g, v, z1, z2, z3, w1, w2, w3, a, b, c, pre, mt⟩ := t
  simp only at *
  match g with
  | 0 =>
    have hr : Reads ([48, 46, 48, 46, 48] ++ gtext 45 none) 0 0 0 [] [] := by
      have := reads_z zpart zpart 0 0 zparse zparse (by simp)
      simpa [gtext] using this
    refine (t44a (GT.tm ⟨op, blank, 0, v, z1, z2, z3, w1, w2, w3, a, b, c, pre, mt⟩) (L := L) (RR := []) hs hok ht hL (by simp) hob (wild_X h.w1).1 0 0 0 [] [] hr w hT).mono ?_
    rintro e w' ⟨C, V, rfl, h1, h2, h3, h4, h5⟩
    exact ⟨C, rfl, h1, ⟨V, h3, h4⟩, h5⟩
  | 1 =>
    have e0 : num z1 a ++ [46, 48, 46, 48] ++ gtext 45 none = num z1 a ++ [46, 48, 46, 48] := by simp [gtext]
    rw [← e0] at r1
    cases w2 with
    | none =>
      obtain rfl : w3 = none := h.w23 (by simp) rfl
      refine (t44b0 (GT.tm ⟨op, blank, 1, v, z1, z2, z3, w1, none, none, a, b, c, pre, mt⟩) (L := L) (RR := []) hs hok ht hL (by simp) hob rfl rfl x1 a 0 0 [] [] r1 w hT).mono ?_
      rintro e w' ⟨C, V, rfl, h1, h2, h3, h4, h5⟩
      exact ⟨C, rfl, h1, ⟨V, h3, by rw [show (GT.tm ⟨op, blank, 1, v, z1, z2, z3, w1, none, none, a, b, c, pre, mt⟩).ver.p1 ++ [46, 48, 46, 48] ++ gtext 45 (GT.tm ⟨op, blank, 1, v, z1, z2, z3, w1, none, none, a, b, c, pre, mt⟩).ver.pre = num z1 a ++ [46, 48, 46, 48] from e0] at h4; exact h4⟩, h5⟩
    | some y2 =>
      refine (t44b1 (GT.tm ⟨op, blank, 1, v, z1, z2, z3, w1, some y2, w3, a, b, c, pre, mt⟩) (L := L) (RR := []) hs hok ht hL (by simp) hob y2 rfl x1 (wild_X (h.w2 y2 rfl)).1 a 0 0 [] [] r1 w hT).mono ?_
      rintro e w' ⟨C, V, rfl, h1, h2, h3, h4, h5⟩
      exact ⟨C, rfl, h1, ⟨V, h3, by rw [show (GT.tm ⟨op, blank, 1, v, z1, z2, z3, w1, some y2, w3, a, b, c, pre, mt⟩).ver.p1 ++ [46, 48, 46, 48] ++ gtext 45 (GT.tm ⟨op, blank, 1, v, z1, z2, z3, w1, some y2, w3, a, b, c, pre, mt⟩).ver.pre = num z1 a ++ [46, 48, 46, 48] from e0] at h4; exact h4⟩, h5⟩
  | 2 =>
    have e0 : num z1 a ++ 46 :: num z2 b ++ [46, 48] ++ gtext 45 none = num z1 a ++ 46 :: num z2 b ++ [46, 48] := by simp [gtext]
    rw [← e0] at r2
    cases w3 with
    | none =>
      refine (t44c0 (GT.tm ⟨op, blank, 2, v, z1, z2, z3, w1, w2, none, a, b, c, pre, mt⟩) (L := L) (RR := []) hs hok ht hL (by simp) hob (num z2 b) rfl rfl x1 x2 a b 0 [] [] r2 w hT).mono ?_
      rintro e w' ⟨C, V, rfl, h1, h2, h3, h4, h5⟩
      exact ⟨C, rfl, h1, ⟨V, h3, by rw [show (GT.tm ⟨op, blank, 2, v, z1, z2, z3, w1, w2, none, a, b, c, pre, mt⟩).ver.p1 ++ 46 :: num z2 b ++ [46, 48] ++ gtext 45 (GT.tm ⟨op, blank, 2, v, z1, z2, z3, w1, w2, none, a, b, c, pre, mt⟩).ver.pre = num z1 a ++ 46 :: num z2 b ++ [46, 48] from e0] at h4; exact h4⟩, h5⟩
    | some y3 =>
      refine (t44c1 (GT.tm ⟨op, blank, 2, v, z1, z2, z3, w1, w2, some y3, a, b, c, pre, mt⟩) (L := L) (RR := []) hs hok ht hL (by simp) hob (num z2 b) y3 rfl rfl x1 x2 (wild_X (h.w3 y3 rfl)).1 a b 0 [] [] r2 w hT).mono ?_
      rintro e w' ⟨C, V, rfl, h1, h2, h3, h4, h5⟩
      exact ⟨C, rfl, h1, ⟨V, h3, by rw [show (GT.tm ⟨op, blank, 2, v, z1, z2, z3, w1, w2, some y3, a, b, c, pre, mt⟩).ver.p1 ++ 46 :: num z2 b ++ [46, 48] ++ gtext 45 (GT.tm ⟨op, blank, 2, v, z1, z2, z3, w1, w2, some y3, a, b, c, pre, mt⟩).ver.pre = num z1 a ++ 46 :: num z2 b ++ [46, 48] from e0] at h4; exact h4⟩, h5⟩
  | g + 3 =>
    have hv : (GT.ver ⟨op, blank, g + 3, v, z1, z2, z3, w1, w2, w3, a, b, c, pre, mt⟩).Ok dB iB := by
      refine ⟨n1, fun y hy => ?_, fun y hy => ⟨?_, by simp [GT.ver]⟩, okGrp_pgrp h.pre, okGrp_mgrp _⟩
      · obtain rfl : num z2 b = y := by simpa [GT.ver] using hy
        exact n2
      · obtain rfl : num z3 c = y := by simpa [GT.ver] using hy
        exact n3
    have hr : Reads (GT.ver ⟨op, blank, g + 3, v, z1, z2, z3, w1, w2, w3, a, b, c, pre, mt⟩).text a b c (gpre (pgrp pre)) (gpre (mgrp mt)) :=
      tNewVerG _ hv (num z2 b) (num z3 c) rfl rfl (by
        show gpre (pgrp pre) = [] ∨ PreOk (gpre (pgrp pre))
        rw [gpre_pgrp]; exact h.pre) (by
        show gpre (mgrp mt) = [] ∨ _
        cases mt
        · exact .inl rfl
        · refine .inr fun i hi => ?_
          have : i = [98] ∨ i = [48, 49] := by simpa [gpre, mgrp, GT.ver, dots, idents] using hi
          rcases this with rfl | rfl
          · exact ⟨by simp, by decide⟩
          · exact ⟨by simp, by decide⟩) a b c p1 p2 p3 (by omega)
    rw [gpre_pgrp] at hr
    refine (t44full (GT.tm ⟨op, blank, g + 3, v, z1, z2, z3, w1, w2, w3, a, b, c, pre, mt⟩) (L := L) (RR := []) hs hok ht hL (by simp) hob (num z2 b) (num z3 c) rfl rfl x1 x2 x3 a b c _ _ hr w hT).mono ?_
    rintro e w' ⟨C, V, rfl, h1, h2, h3, h4, h5⟩
    exact ⟨C, rfl, h1, ⟨V, h3, h4⟩, h5⟩
end Go.Proofs.YtnamjojceadgdaaGreatDoor.Sv
end
section
set_option linter.unusedVariables false
set_option linter.unusedSimpArgs false
/- lists of terms in any of their ways, and constraints of such -/
namespace Go.Proofs.YtnamjojceadgdaaGreatDoor.Sv
open Go Go.RowKit Rx
set_option maxRecDepth 100000
structure GL where
  B : Bs
  t : GT
  l : List (Sep × GT)
  R : Bs
def GL.rest (g : GL) : List (Sep × Tm) := g.l.map fun y => (y.1, y.2.tm)
def GL.hd (g : GL) : Sep × Tm := (⟨g.B, none⟩, g.t.tm)
def GL.text (g : GL) : Bs := ltail (g.hd :: g.rest) ++ g.R
structure GL.Ok (g : GL) : Prop where
  B : ∀ y ∈ g.B, ws y = true
  bl : g.B.length ≤ 10
  t : g.t.Ok
  l : ∀ y ∈ g.l, y.1.Ok ∧ (lead y.1).length ≤ 10 ∧ y.2.Ok
  R : ∀ y ∈ g.R, ws y = true
def GL.tds (g : GL) : List TD := g.t.td :: g.l.map fun y => y.2.td
def GL.txs (g : GL) : List Bs := (found g.hd).text :: g.rest.map fun y => (found y).text
theorem GL.Ok.lok {g : GL} (h : g.Ok) : LOk g.rest := fun x hx => by
  obtain ⟨y, hy, rfl⟩ := List.mem_map.1 hx
  have h1 := h.l y hy
  exact ⟨h1.1, h1.2.2.tm, h1.2.2.ob⟩
theorem found_lead {x : Sep × GT} (h : x.2.Ok) (hw : SepW x.1) (hl : (lead x.1).length ≤ 10) : ∃ L : Bs, (∀ y ∈ L, ws y = true) ∧ L.length ≤ 600 ∧ (found (x.1, x.2.tm)).text = L ++ x.2.tm.text := by
  by_cases ho : x.2.op = []
  · refine ⟨lead x.1, fun y hy => ?_, by omega, ?_⟩
    · unfold lead at hy
      cases hb : x.1.b2 with
      | none => rw [hb] at hy; exact hw.b1 y hy
      | some z => rw [hb] at hy; exact hw.b2 z hb y hy
    · have hb := h.ob ho
      simp [found, GT.tm, ho, hb, Tm.text]
  · exact ⟨[], by simp, by simp, by simp [found, GT.tm, ho]⟩
theorem gspecGL (g : GL) (h : g.Ok) (hs : g.text.length ≤ 1000) (hn : g.l.length < 1000) : GSpec (bytesOf g.text) g.txs g.tds := by
  have hs' : (bytesOf g.text).size ≤ 1000 := by rw [bytesOf_size]; exact hs
  have hb := bytesOf_list g.text
  have hwB : SepW g.hd.1 := ⟨h.B, fun z hz => by cases hz⟩
  refine ⟨fun w R PB IB icap hp hr hT => ?_, fun w R PB IB icap hp hr hT => ?_, by simp [GL.txs, GL.tds, GL.rest], by simp [GL.txs], by simp [GL.txs, GL.rest]; omega, fun i x td hx htd w hT => ?_⟩
  · exact validMR hp hr hT hs' h.B h.R h.t.tm h.lok (by rw [hb]; simp [GL.text, GL.hd, ltail, Sep.text, ctext, ltext])
  · have e := findMR hp hr hT hs' h.R (y := g.hd) (l := g.rest) hwB h.t.tm h.t.ob h.lok (by rw [hb]; rfl)
    have e2 : g.txs.length = g.rest.length + 1 := by simp [GL.txs]
    rw [e2]
    exact e
  · have key : ∀ (x : Sep × GT), x.2.Ok → SepW x.1 → (lead x.1).length ≤ 10 → Calls Tryz.prog 31 #[.string (bytesOf (found (x.1, x.2.tm)).text)] w fun e w' => ∃ C, e = .returned (.tuple #[ptr C, .nilIface]) ∧ w.heap.size ≤ C ∧ TDAt w' C x.2.td ∧ Below w.heap.size w w' := fun x h1 h2 h3 => by
      obtain ⟨L, a1, a2, a3⟩ := found_lead h1 h2 h3
      rw [a3]
      exact read_g x.2 h1 L a1 a2 w hT
    cases i with
    | zero =>
      obtain rfl : (found g.hd).text = x := by simpa [GL.txs] using hx
      obtain rfl : g.t.td = td := by simpa [GL.tds] using htd
      exact key (⟨g.B, none⟩, g.t) h.t hwB h.bl
    | succ i =>
      simp only [GL.txs, GL.tds, GL.rest, List.getElem?_cons_succ, List.getElem?_map, Option.map_eq_some_iff] at hx htd
      obtain ⟨y, ⟨y', h1, rfl⟩, rfl⟩ := hx
      obtain ⟨z, h2, rfl⟩ := htd
      rw [h1] at h2
      obtain rfl := Option.some.inj h2
      have h3 := h.l y' (List.mem_of_getElem? h1)
      exact key y' h3.2.2 h3.1.weak h3.2.1
/-! no blank ahead of a hyphen; no bar -/
def Seg (l : Bs) : Prop := noWD l = true ∧ (∀ y, l.head? = some y → y ≠ 45) ∧ ∀ y ∈ l, y ≠ 124
theorem noWD_app : ∀ {a b : Bs}, noWD a = true → noWD b = true → (∀ y, b.head? = some y → y ≠ 45) → noWD (a ++ b) = true
  | [], b, _, hb, _ => hb
  | [x], [], _, _, _ => rfl
  | [x], y :: b, _, hb, hh => by
    have h1 : (y == 45) = false := by simpa using hh y rfl
    simp only [List.singleton_append, Rx.noWD, h1, Bool.and_false, Bool.not_false, Bool.true_and]
    exact hb
  | x :: y :: a, b, ha, hb, hh => by
    simp only [Rx.noWD, Bool.and_eq_true] at ha
    have := noWD_app ha.2 hb hh
    simp only [List.cons_append, Rx.noWD, Bool.and_eq_true]
    exact ⟨ha.1, this⟩
theorem Seg.nil : Seg [] := ⟨rfl, by simp, by simp⟩
theorem Seg.app {a b : Bs} (ha : Seg a) (hb : Seg b) : Seg (a ++ b) := by
  refine ⟨noWD_app ha.1 hb.1 hb.2.1, fun y hy => ?_, fun y hy => ?_⟩
  · cases a with
    | nil => exact hb.2.1 y hy
    | cons x a => exact ha.2.1 y (by simpa using hy)
  · rcases List.mem_append.1 hy with h | h
    · exact ha.2.2 y h
    · exact hb.2.2 y h
theorem noWD_of {l : Bs} : (∀ y ∈ l, y ≠ 45) → noWD l = true := fun h => by
  have : ∀ l : Bs, (∀ y ∈ l, y ≠ 45) → noWD l = true := by
    intro l
    induction l with
    | nil => intro _; rfl
    | cons x l ih =>
      intro h
      cases l with
      | nil => rfl
      | cons y l =>
        have h1 : (y == 45) = false := by simpa using h y (by simp)
        have h2 := ih fun z hz => h z (List.mem_cons_of_mem _ hz)
        simp [Rx.noWD, h1, h2]
  exact this l h
theorem noWD_ws {l : Bs} : (∀ y ∈ l, ws y = false) → noWD l = true := fun h => by
  have : ∀ l : Bs, (∀ y ∈ l, ws y = false) → noWD l = true := by
    intro l
    induction l with
    | nil => intro _; rfl
    | cons x l ih =>
      intro h
      cases l with
      | nil => rfl
      | cons y l =>
        have h1 := h x (by simp)
        have h2 := ih fun z hz => h z (List.mem_cons_of_mem _ hz)
        simp [Rx.noWD, h1, h2]
  exact this l h
theorem Seg.of {l : Bs} (h : ∀ y ∈ l, y ≠ 45 ∧ y ≠ 124) : Seg l := ⟨noWD_of fun y hy => (h y hy).1, fun y hy => (h y (List.mem_of_mem_head? hy)).1, fun y hy => (h y hy).2⟩
theorem ws_out (y : UInt8) (h : ws y = true) : y ≠ 45 ∧ y ≠ 124 := by
  have := byte_all (p := fun x => !ws x || (!(x == 45) && !(x == 124))) (by decide +kernel) y
  simpa [h] using this
theorem iB_out (y : UInt8) (h : iB y = true) : ws y = false ∧ y ≠ 124 := by
  have := byte_all (p := fun x => !iB x || (!ws x && !(x == 124))) (by decide +kernel) y
  simpa [h] using this
theorem dB_out (y : UInt8) (h : dB y = true) : ws y = false ∧ y ≠ 124 ∧ y ≠ 45 := by
  have := byte_all (p := fun x => !dB x || (!ws x && (!(x == 124) && !(x == 45)))) (by decide +kernel) y
  simpa [h] using this
/-- a byte of a version's text -/
def vByte (y : UInt8) : Prop := ws y = false ∧ y ≠ 124
theorem num_v {z : Bool} {a : Nat} : ∀ y ∈ num z a, vByte y := fun y hy => by
  have := dB_out y ((num_part z a).2 y hy)
  exact ⟨this.1, this.2.1⟩
theorem wild_v {w : Bs} (h : wildB w) : ∀ y ∈ w, vByte y := fun y hy => by
  rcases h with rfl | rfl | rfl <;> (obtain rfl := List.mem_singleton.1 hy; exact ⟨by decide, by decide⟩)
theorem ptext_v {o : Option Bs} (h : ∀ r, o = some r → ∀ y ∈ r, vByte y) : ∀ y ∈ ptext o, vByte y := fun y hy => by
  cases o with
  | none => cases hy
  | some r =>
    rcases List.mem_cons.1 hy with rfl | hy
    · exact ⟨by decide, by decide⟩
    · exact h r rfl y hy
theorem gtext_v {lead : UInt8} (hl : vByte lead) {g : Option (Bs × List Bs)} (h : okGrp iB g) : ∀ y ∈ gtext lead g, vByte y := fun y hy => by
  cases g with
  | none => cases hy
  | some x =>
    obtain ⟨x, l⟩ := x
    rcases List.mem_cons.1 hy with rfl | hy
    · exact hl
    · rcases List.mem_append.1 hy with hy | hy
      · exact iB_out y (h.1.2 y hy)
      · obtain ⟨r, hr, hy⟩ := List.mem_flatMap.1 hy
        rcases List.mem_cons.1 hy with rfl | hy
        · exact ⟨by decide, by decide⟩
        · exact iB_out y ((h.2 r hr).2 y hy)
theorem GT.Ok.bytes {t : GT} (h : t.Ok) : ∀ y ∈ t.ver.text, vByte y := fun y hy => by
  have hv : ∀ y ∈ (if t.v then [118] else [] : Bs), vByte y := fun y hy => by
    split at hy
    · obtain rfl := List.mem_singleton.1 hy; exact ⟨by decide, by decide⟩
    · cases hy
  have hw2 := ptext_v (o := t.w2) fun r hr => wild_v (h.w2 r hr)
  have hw3 := ptext_v (o := t.w3) fun r hr => wild_v (h.w3 r hr)
  have hn2 := ptext_v (o := some (num t.z2 t.b)) fun r hr => by obtain rfl := Option.some.inj hr; exact num_v
  have hn3 := ptext_v (o := some (num t.z3 t.c)) fun r hr => by obtain rfl := Option.some.inj hr; exact num_v
  have hp := gtext_v (lead := 45) ⟨by decide, by decide⟩ (okGrp_pgrp h.pre)
  have hm := gtext_v (lead := 43) ⟨by decide, by decide⟩ (okGrp_mgrp t.mt)
  unfold GT.ver at hy
  split at hy <;> simp only [Ver.text, List.mem_append] at hy
  · rcases hy with hy | hy | hy | hy | hy | hy
    · exact hv y hy
    · exact wild_v h.w1 y hy
    · exact hw2 y hy
    · exact hw3 y hy
    · cases hy
    · cases hy
  · rcases hy with hy | hy | hy | hy | hy | hy
    · exact hv y hy
    · exact num_v y hy
    · exact hw2 y hy
    · exact hw3 y hy
    · cases hy
    · cases hy
  · rcases hy with hy | hy | hy | hy | hy | hy
    · exact hv y hy
    · exact num_v y hy
    · exact hn2 y hy
    · exact hw3 y hy
    · cases hy
    · cases hy
  · rcases hy with hy | hy | hy | hy | hy | hy
    · exact hv y hy
    · exact num_v y hy
    · exact hn2 y hy
    · exact hn3 y hy
    · exact hp y hy
    · exact hm y hy
theorem GT.Ok.seg {t : GT} (h : t.Ok) : Seg t.tm.text := by
  have h1 : Seg t.op := Seg.of fun y hy => by
    have ho := h.op
    simp only [opTexts, List.mem_cons, List.not_mem_nil, or_false] at ho
    rcases ho with e | e | e | e | e | e | e | e | e | e | e | e <;> rw [e] at hy <;> revert y <;> decide
  have h2 : Seg t.blank := Seg.of fun y hy => ws_out y (h.blank y hy)
  have h3 : Seg t.ver.text := by
    have hb := h.bytes
    refine ⟨noWD_ws fun y hy => (hb y hy).1, fun y hy => ?_, fun y hy => (hb y hy).2⟩
    obtain ⟨z, l, hz, hz2⟩ := ver_head h.ver
    rw [hz] at hy
    obtain rfl : z = y := by simpa using hy
    rcases hz2 with rfl | hz2
    · decide
    · exact (pB_op z hz2).2.2.2
  exact h1.app (h2.app h3)
theorem sep_seg {x : Sep} (h : x.Ok) : Seg x.text := Seg.of fun y hy => by
  rcases List.mem_append.1 hy with hy | hy
  · exact ws_out y (h.b1 y hy)
  · unfold ctext at hy
    split at hy
    · cases hy
    · rename_i z hz
      rcases List.mem_cons.1 hy with rfl | hy
      · decide
      · exact ws_out y (h.b2 z hz y hy)
theorem GL.Ok.seg {g : GL} (h : g.Ok) : Seg g.text := by
  have h1 : ∀ l : List (Sep × GT), (∀ y ∈ l, y.1.Ok ∧ (lead y.1).length ≤ 10 ∧ y.2.Ok) → Seg (ltail (l.map fun y => (y.1, y.2.tm))) := by
    intro l
    induction l with
    | nil => intro _; exact Seg.nil
    | cons y l ih =>
      intro hl
      have h2 := hl y (by simp)
      have h3 := ih fun z hz => hl z (List.mem_cons_of_mem _ hz)
      have e : ltail ((y :: l).map fun y => (y.1, y.2.tm)) = (y.1.text ++ y.2.tm.text) ++ ltail (l.map fun y => (y.1, y.2.tm)) := rfl
      rw [e]
      exact ((sep_seg h2.1).app h2.2.2.seg).app h3
  have e : g.text = (g.B ++ (g.t.tm.text ++ ltail g.rest)) ++ g.R := by simp [GL.text, GL.hd, ltail, Sep.text, ctext]
  rw [e]
  exact ((Seg.of fun y hy => ws_out y (h.B y hy)).app (h.t.seg.app (h1 g.l h.l))).app (Seg.of fun y hy => ws_out y (h.R y hy))
/-! lists with two bars between -/
def barred : List Bs → Bs
  | [] => []
  | [x] => x
  | x :: y :: l => x ++ (124 :: 124 :: barred (y :: l))
theorem bars2 : (⟨#[124, 124]⟩ : ByteArray).size = 2 ∧ (⟨#[124, 124]⟩ : ByteArray).toList = [124, 124] := ⟨rfl, ByteArray.toList_mk [124, 124]⟩
theorem ext2 {s : Bs} {i : Nat} (h : i + 2 ≤ s.length) : ∃ y z, ((bytesOf s).extract i (i + 2)).toList = [y, z] ∧ s.drop i = y :: z :: s.drop (i + 2) := by
  have h1 : s.drop i = s[i] :: s.drop (i + 1) := List.drop_eq_getElem_cons (by omega)
  have h2 : s.drop (i + 1) = s[i + 1] :: s.drop (i + 2) := List.drop_eq_getElem_cons (by omega)
  refine ⟨s[i], s[i + 1], ?_, by rw [h1, h2]⟩
  rw [extract_eq (A := s.take i) (B := [s[i], s[i + 1]]) (C := s.drop (i + 2)) (by
    show s.toArray.toList = _
    rw [List.toList_toArray]
    conv => lhs; rw [← List.take_append_drop i s, h1, h2]
    rfl) (by simp; omega) (by simp)]
  exact ByteArray.toList_mk _
theorem parted_bars : ∀ (l : List Bs), l ≠ [] → (∀ x ∈ l, ∀ y ∈ x, y ≠ 124) → Parted ⟨#[124, 124]⟩ (bytesOf (barred l)) (l.map bytesOf)
  | [], h, _ => absurd rfl h
  | [x], _, h => by
    have hx := h x (by simp)
    refine .last _ ?_
    unfold First
    rw [bars2.1, bars2.2]
    intro i hi
    rw [bytesOf_size] at hi
    obtain ⟨y, z, e1, e2⟩ := ext2 (s := barred [x]) (i := i) hi
    rw [e1]
    have hy : y ∈ x := List.mem_of_mem_drop (i := i) (by rw [show x.drop i = _ from e2]; simp)
    have := hx y hy
    simp [this]
  | x :: y :: l, _, h => by
    have hx := h x (by simp)
    have ih := parted_bars (y :: l) (by simp) fun z hz => h z (List.mem_cons_of_mem _ hz)
    have e0 : (bytesOf (barred (x :: y :: l))).extract 0 x.length = bytesOf x := extract_eq (A := []) (B := x) (C := 124 :: 124 :: barred (y :: l)) (by show (barred (x :: y :: l)).toArray.toList = _; simp [barred]) (by simp) (by simp)
    have e1 : (bytesOf (barred (x :: y :: l))).extract (x.length + (⟨#[124, 124]⟩ : ByteArray).size) (bytesOf (barred (x :: y :: l))).size = bytesOf (barred (y :: l)) := extract_eq (A := x ++ [124, 124]) (B := barred (y :: l)) (C := []) (by show (barred (x :: y :: l)).toArray.toList = _; simp [barred]) (by rw [bars2.1]; simp) (by rw [bars2.1, bytesOf_size]; simp [barred]; omega)
    rw [← e1] at ih
    have hf : First (bytesOf (barred (x :: y :: l))) ⟨#[124, 124]⟩ (some x.length) := by
      unfold First
      rw [bars2.1, bars2.2]
      refine ⟨by rw [bytesOf_size]; simp [barred], ?_, fun i hi => ?_⟩
      · obtain ⟨a, b, e1, e2⟩ := ext2 (s := barred (x :: y :: l)) (i := x.length) (by simp [barred])
        have e3 : (barred (x :: y :: l)).drop x.length = 124 :: 124 :: barred (y :: l) := by simp [barred]
        rw [e3] at e2
        simp only [List.cons.injEq] at e2
        rw [e1, ← e2.1, ← e2.2.1]
        rfl
      · obtain ⟨a, b, e1, e2⟩ := ext2 (s := barred (x :: y :: l)) (i := i) (by simp [barred]; omega)
        have e3 : (barred (x :: y :: l)).drop i = x.drop i ++ (124 :: 124 :: barred (y :: l)) := by
          rw [barred, List.drop_append_of_le_length (Nat.le_of_lt hi)]
        rw [e3, List.drop_eq_getElem_cons hi] at e2
        simp only [List.cons_append, List.cons.injEq] at e2
        have := hx a (by rw [← e2.1]; exact List.getElem_mem hi)
        rw [e1]
        simp [this]
    have := Parted.more _ x.length _ hf ih
    rw [e0] at this
    exact this
/-- the text of a constraint of lists -/
def ctextOf (G : List GL) : Bs := barred (G.map GL.text)
theorem barred_seg : ∀ (l : List Bs), (∀ x ∈ l, Seg x) → noWD (barred l) = true ∧ ∀ y, (barred l).head? = some y → y ≠ 45
  | [], _ => ⟨rfl, by simp [barred]⟩
  | [x], h => ⟨(h x (by simp)).1, (h x (by simp)).2.1⟩
  | x :: y :: l, h => by
    have ih := barred_seg (y :: l) fun z hz => h z (List.mem_cons_of_mem _ hz)
    have hx := h x (by simp)
    have e : barred (x :: y :: l) = x ++ ([124, 124] ++ barred (y :: l)) := rfl
    have h2 : noWD ([124, 124] ++ barred (y :: l)) = true := noWD_app (by decide) ih.1 ih.2
    rw [e]
    refine ⟨noWD_app hx.1 h2 (by simp), fun z hz => ?_⟩
    cases x with
    | nil => obtain rfl : 124 = z := by simpa using hz
             decide
    | cons a x => exact hx.2.1 z (by simpa using hz)
/-- NewConstraint of any constraint that is written out of good terms -/
theorem t31GL (G : List GL) (hne : G ≠ []) (hok : ∀ g ∈ G, g.Ok) (hs : (ctextOf G).length ≤ 512) (hn : G.length ≤ 32) (hl : ∀ g ∈ G, g.text.length ≤ 1000 ∧ g.l.length < 1000) (w : World) (hT : Lib.Utf8Tabs 11 12 w) :
    Calls Tryz.prog 16 #[.string (bytesOf (ctextOf G))] w fun e w' => ∃ O, e = .returned (.tuple #[ptr O, .nilIface]) ∧ w.heap.size ≤ O ∧ ConsAt w' O (G.map GL.tds) false ∧ Below w.heap.size w w' := by
  have hseg : ∀ x ∈ G.map GL.text, Seg x := fun x hx => by
    obtain ⟨g, hg, rfl⟩ := List.mem_map.1 hx
    exact (hok g hg).seg
  have hp := parted_bars (G.map GL.text) (by simpa using hne) fun x hx => (hseg x hx).2.2
  refine t31 (bytesOf (ctextOf G)) (by rw [bytesOf_size]; exact hs) (by rw [bytesOf_list]; exact (barred_seg _ hseg).1) _ hp (by simpa using hn) (G.map GL.txs) (G.map GL.tds) (by simp) (by simp) (fun k v tx ts h1 h2 h3 => ?_) w hT
  simp only [List.getElem?_map, Option.map_eq_some_iff] at h1 h2 h3
  obtain ⟨x, ⟨g, hg, rfl⟩, rfl⟩ := h1
  obtain ⟨g2, hg2, rfl⟩ := h2
  obtain ⟨g3, hg3, rfl⟩ := h3
  rw [hg] at hg2 hg3
  obtain rfl := Option.some.inj hg2
  obtain rfl := Option.some.inj hg3
  have hm := List.mem_of_getElem? hg
  exact gspecGL g (hok g hm) (hl g hm).1 (hl g hm).2
end Go.Proofs.YtnamjojceadgdaaGreatDoor.Sv
end
section
set_option linter.unusedVariables false
set_option linter.unusedSimpArgs false
/- ListText -/
namespace Go.Proofs.YtnamjojceadgdaaGreatDoor.Sv
open Go Go.RowKit Rx
set_option maxRecDepth 100000
/-- a term in one of its ways -/
structure GTOf (t : TV) (q : GT) : Prop where
  g : q.g = t.g.toNat
  a : q.a = t.a
  b : q.b = t.b
  c : q.c = t.c
  pre : q.pre = t.pre
  w1 : wildB q.w1
  w2 : ∀ y, q.w2 = some y → wildB y
  w3 : ∀ y, q.w3 = some y → wildB y
  w23 : q.g ≤ 1 → q.w2 = none → q.w3 = none
  op : q.op ∈ spell t.op
  bl : blankB q.blank
  ob : q.op = [] → q.blank = []
theorem gtof_of {t : TV} {o bl V : Bs} (ho : o ∈ spell t.op) (hb : blankB bl) (hob : o = [] → bl = []) (hv : VerTx t V) : ∃ q : GT, GTOf t q ∧ q.op = o ∧ q.blank = bl ∧ q.ver.text = V ∧ q.tm.text = o ++ (bl ++ V) := by
  obtain ⟨q, h1, h2, h3, h4, h5, h6, h7, h8, h9, rfl⟩ := hv
  exact ⟨{ q with op := o, blank := bl }, ⟨h1, h2, h3, h4, h5, h6, h7, h8, h9, ho, hb, hob⟩, rfl, rfl, rfl, rfl⟩
theorem GTOf.ver {t : TV} {q : GT} (h : GTOf t q) : VerTx t q.ver.text := ⟨q, h.g, h.a, h.b, h.c, h.pre, h.w1, h.w2, h.w3, h.w23, rfl⟩
theorem GTOf.ok {t : TV} {q : GT} (h : GTOf t q) (ht : t.Good) (hf : t.Fit) (hl : t.pre.length ≤ 64) : q.Ok := by
  obtain ⟨f1, f2, f3, -⟩ := hf
  exact ⟨spell_ok h.op, h.bl.ws, h.ob, h.bl.len, by rw [h.a]; exact f1, by rw [h.b]; exact f2, by rw [h.c]; exact f3, h.w1, h.w2, h.w3, h.w23, by rw [h.pre]; exact ht.pre, by rw [h.pre]; exact hl⟩
theorem GTOf.len {t : TV} {q : GT} (h : GTOf t q) (hf : t.Fit) : q.tm.text.length ≤ 84 + t.pre.length ∧ q.ver.text.length ≤ 80 + t.pre.length := by
  have h1 := h.ver.len hf
  have h2 := spell_blen h.op
  have h3 := h.bl.len
  refine ⟨?_, h1⟩
  show (q.op ++ (q.blank ++ q.ver.text)).length ≤ _
  simp; omega
def sepB (s : Sep) : Prop := s = ⟨[], some [32]⟩ ∨ s = ⟨[32], none⟩ ∨ s = ⟨[], some []⟩ ∨ s = ⟨[32, 32], none⟩ ∨ s = ⟨[32], some [32]⟩ ∨ s = ⟨[9], none⟩
theorem sepB.ok {s : Sep} (h : sepB s) : s.Ok ∧ (lead s).length ≤ 10 ∧ s.text.length ≤ 3 := by
  rcases h with rfl | rfl | rfl | rfl | rfl | rfl <;> refine ⟨⟨?_, ?_, ?_⟩, ?_, ?_⟩ <;> simp [lead, Sep.text, ctext] <;> decide
/-- a list of terms in one of its ways -/
structure GLOf (l : List TV) (g : GL) : Prop where
  B : g.B = []
  R : g.R = []
  len : l.length = g.l.length + 1
  t : ∀ (i : Nat) (t : TV) (q : GT), l[i]? = some t → (g.t :: g.l.map (·.2))[i]? = some q → GTOf t q
  s : ∀ y ∈ g.l, sepB y.1
theorem GLOf.one {t : TV} {q : GT} (h : GTOf t q) : GLOf [t] ⟨[], q, [], []⟩ := by
  refine ⟨rfl, rfl, rfl, fun i t' q' h1 h2 => ?_, fun y hy => by cases hy⟩
  cases i with
  | zero =>
    obtain rfl : t = t' := by simpa using h1
    obtain rfl : q = q' := by simpa using h2
    exact h
  | succ i => simp at h1
theorem GLOf.snoc {l : List TV} {g : GL} (h : GLOf l g) {t : TV} {q : GT} {s : Sep} (hq : GTOf t q) (hs : sepB s) : GLOf (l ++ [t]) { g with l := g.l ++ [(s, q)] } := by
  refine ⟨h.B, h.R, by simp [h.len], fun i t' q' h1 h2 => ?_, fun y hy => ?_⟩
  · by_cases hi : i < l.length
    · rw [List.getElem?_append_left hi] at h1
      refine h.t i t' q' h1 ?_
      have e : (g.t :: (g.l ++ [(s, q)]).map (·.2)) = (g.t :: g.l.map (·.2)) ++ [q] := by simp
      simp only at h2
      rw [e, List.getElem?_append_left (by have := h.len; simp; omega)] at h2
      exact h2
    · have hi2 : i = l.length := by
        have := (List.getElem?_eq_some_iff.1 h1).1
        simp at this; omega
      subst hi2
      obtain rfl : t = t' := by simpa using h1
      have e : (g.t :: (g.l ++ [(s, q)]).map (·.2)) = (g.t :: g.l.map (·.2)) ++ [q] := by simp
      simp only at h2
      rw [e, List.getElem?_append_right (by have := h.len; simp; omega)] at h2
      have e2 : l.length - (g.t :: g.l.map (·.2)).length = 0 := by have := h.len; simp; omega
      rw [e2] at h2
      obtain rfl : q = q' := by simpa using h2
      exact hq
  · rcases List.mem_append.1 hy with hy | hy
    · exact h.s y hy
    · obtain rfl := List.mem_singleton.1 hy
      exact hs
theorem gl_snoc_text {g : GL} (hR : g.R = []) (s : Sep) (q : GT) : ({ g with l := g.l ++ [(s, q)] } : GL).text = g.text ++ (s.text ++ q.tm.text) := by
  simp [GL.text, GL.rest, GL.hd, hR, ltail]
theorem gl_one_text (q : GT) : (⟨[], q, [], []⟩ : GL).text = q.tm.text := by simp [GL.text, GL.rest, GL.hd, ltail, Sep.text, ctext]
/-- the text so far -/
def LTx (l : List TV) (k : Nat) (X : Bs) : Prop := (k = 0 ∧ X = []) ∨ (0 < k ∧ ∃ g, GLOf (l.take k) g ∧ X = g.text)
def srow8 : Obj := .cells #[.string ⟨#[44, 32]⟩, .string ⟨#[32]⟩, .string ⟨#[44]⟩, .string ⟨#[44, 32]⟩, .string ⟨#[32]⟩, .string ⟨#[32, 32]⟩, .string ⟨#[32, 44, 32]⟩, .string ⟨#[9]⟩] 9 (0, 0)
theorem s8cell {W : World} {P q : Nat} (h : W.heap[P]? = some srow8) (hq : q < 8) : ∃ m : Sep, sepB m ∧ W.cell? ⟨P, q, none⟩ = some (.string (bytesOf m.text)) := by
  have h' : q = 0 ∨ q = 1 ∨ q = 2 ∨ q = 3 ∨ q = 4 ∨ q = 5 ∨ q = 6 ∨ q = 7 := by omega
  unfold srow8 at h
  rcases h' with rfl | rfl | rfl | rfl | rfl | rfl | rfl | rfl
  all_goals first
    | exact ⟨⟨[], some [32]⟩, .inl rfl, cell_of_row _ _ _ _ _ _ h⟩
    | exact ⟨⟨[32], none⟩, .inr (.inl rfl), cell_of_row _ _ _ _ _ _ h⟩
    | exact ⟨⟨[], some []⟩, .inr (.inr (.inl rfl)), cell_of_row _ _ _ _ _ _ h⟩
    | exact ⟨⟨[32, 32], none⟩, .inr (.inr (.inr (.inl rfl))), cell_of_row _ _ _ _ _ _ h⟩
    | exact ⟨⟨[32], some [32]⟩, .inr (.inr (.inr (.inr (.inl rfl)))), cell_of_row _ _ _ _ _ _ h⟩
    | exact ⟨⟨[9], none⟩, .inr (.inr (.inr (.inr (.inr rfl)))), cell_of_row _ _ _ _ _ _ h⟩
theorem m31' (t : TV) (ht : t.Good) (hf : t.Fit) (S : Nat) (x : Int) (w : World) (hS : w.heap[S]? = some (.cells #[.int .u64 x] 116 (0, 0))) :
    Calls Tryz.prog 65 #[t.val, .pointer (some ⟨S, 0, none⟩)] w fun e w' => ∃ (q : GT) (T : Bs), e = .returned (.tuple #[.string (bytesOf q.tm.text), .string (bytesOf T)]) ∧ GTOf t q ∧ T.length ≤ 84 + t.pre.length ∧ Below S w w' ∧ ∃ y : Int, w'.heap[S]? = some (.cells #[.int .u64 y] 116 (0, 0)) := by
  refine (m31 t ht hf S x w hS).mono ?_
  rintro e w' ⟨o, bl, V, rfl, h1, h2, h3, h4, h5, h6⟩
  obtain ⟨q, g1, g2, g3, g4, g5⟩ := gtof_of h1 h2 h3 h4
  refine ⟨q, o ++ V, by rw [g5], g1, ?_, h5, h6⟩
  have := h4.len hf
  have := spell_blen h1
  simp; omega
set_option maxHeartbeats 8000000 in
theorem m18 (v : Value) (ts : List TV) (n : Nat) (S : Nat) (x : Int) (w : World) (hr : RowIn n w v ts) (hn : n ≤ S) (hne : ts ≠ []) (hl : ts.length ≤ 1000) (hg : ∀ t ∈ ts, t.Good ∧ t.Fit) (hS : w.heap[S]? = some (.cells #[.int .u64 x] 116 (0, 0))) :
    Calls Tryz.prog 40 #[v, .pointer (some ⟨S, 0, none⟩)] w fun e w' => ∃ (g : GL) (T : Bs), e = .returned (.tuple #[.string (bytesOf g.text), .string (bytesOf T)]) ∧ GLOf ts g ∧ g.text.length ≤ ts.length * 2147483800 ∧ T.length ≤ ts.length * 2147483800 ∧ Below S w w' ∧ ∃ y : Int, w'.heap[S]? = some (.cells #[.int .u64 y] 116 (0, 0)) := by
  have hSl := (Array.getElem?_eq_some_iff.1 hS).1
  obtain ⟨a, cap, rfl, hc⟩ := hr
  have H0 : ST w S w := ⟨⟨x, hS⟩, Below.refl _ _, Nat.le_refl _, hSl⟩
  have HC := Lib.hid (And.intro hc (And.intro hn (And.intro hne (And.intro hg H0))))
  clear hc hn hne hg H0 hS
  have hlen : (ts.length : Int) ≤ 1000 := by omega
  go_enter Tryz.func40, Tryz.ntmps40
  go_wp2
  go_loopw [4, 5, 12] (fun xv tv kv W => ∃ (k : Nat) (X T : Bs), kv = .int .i64 k ∧ xv = .string (bytesOf X) ∧ tv = .string (bytesOf T) ∧ k ≤ ts.length ∧ Hid (LTx ts k X ∧ X.length ≤ k * 2147483800 ∧ T.length ≤ k * 2147483800 ∧ ST w S W)) (fun _ _ kv _ => 3000 - (intOf kv).toNat)
  case atStart => exact ⟨0, [], [], rfl, rfl, rfl, Nat.zero_le _, Lib.hid ⟨.inl ⟨rfl, rfl⟩, by simp, by simp, HC.out.2.2.2.2⟩⟩
  case round =>
    obtain ⟨k, X, T, rfl, rfl, rfl, hk, HW⟩ := hrel
    by_cases c : k < ts.length
    · have c1 : (k : Int) < (ts.length : Int) := by omega
      obtain ⟨t, ht⟩ : ∃ t, ts[k]? = some t := ⟨_, List.getElem?_eq_getElem c⟩
      obtain ⟨B, off, rfl, hB, hq⟩ := HC.out.1 k t ht
      obtain ⟨q0, q1, q2, q3, q4, q5⟩ := hq.keep hB (HW.out.2.2.2.b.mono HC.out.2.1)
      have hgf := HC.out.2.2.2.1 t (List.mem_of_getElem? ht)
      have HT := Lib.hid (And.intro ht hgf)
      have H31 := Lib.hid (fun S x w hS => m31' t hgf.1 hgf.2 S x w hS)
      clear ht hgf hq
      obtain ⟨op, g, a, b, cc, pre⟩ := t
      unfold TV.val at H31
      simp only at *
      go_upto_region 4 with fail
      have H1 := HW.out.2.2.2.keep ((Below.refl _ wr).alloc (Nat.le_refl _) (.cells #[.int .i64 op, .int .i64 g, .int .u64 a, .int .u64 b, .int .u64 cc, .string (bytesOf pre)] 31))
      have hT := heap_alloc_new wr (.cells #[.int .i64 op, .int .i64 g, .int .u64 a, .int .u64 b, .int .u64 cc, .string (bytesOf pre)] 31)
      have hTS : wr.heap.size ≠ S := by have := HW.out.2.2.2.l; omega
      generalize wr.alloc (.cells #[.int .i64 op, .int .i64 g, .int .u64 a, .int .u64 b, .int .u64 cc, .string (bytesOf pre)] 31) = w1 at *
      generalize wr.heap.size = P at *
      clear q0 q1 q2 q3 q4 q5
      have zX : (bytesOf X).size ≤ k * 2147483800 := by rw [bytesOf_size]; exact HW.out.2.1
      have zT : (bytesOf T).size ≤ k * 2147483800 := by rw [bytesOf_size]; exact HW.out.2.2.1
      rcases Nat.eq_zero_or_pos k with rfl | hk0
      · obtain ⟨x1, hx1⟩ := H1.s
        have HM := Lib.hid (H31.out S x1 w1 hx1)
        have HB := Lib.hid H1
        clear hx1 H1
        have q0 : w1.cell? ⟨P, 0, none⟩ = some (.int .i64 op) := cell_of_row _ _ 0 _ _ _ hT
        have q1 : w1.cell? ⟨P, 1, none⟩ = some (.int .i64 g) := cell_of_row _ _ 1 _ _ _ hT
        have q2 : w1.cell? ⟨P, 2, none⟩ = some (.int .u64 a) := cell_of_row _ _ 2 _ _ _ hT
        have q3 : w1.cell? ⟨P, 3, none⟩ = some (.int .u64 b) := cell_of_row _ _ 3 _ _ _ hT
        have q4 : w1.cell? ⟨P, 4, none⟩ = some (.int .u64 cc) := cell_of_row _ _ 4 _ _ _ hT
        have q5 : w1.cell? ⟨P, 5, none⟩ = some (.string (bytesOf pre)) := cell_of_row _ _ 5 _ _ _ hT
        clear hT
        go_upto_region 8 with (go_at_call 65; refine HM.out.mono ?_; rintro e w4 ⟨q, T2, rfl, hq, hl2, hb, hs⟩; have H4 := HB.out.step hb hs; have hpl : pre.length ≤ 2147483647 := HT.out.2.2.2.2.2; have zq : (bytesOf q.tm.text).size ≤ 2147483731 := (by rw [bytesOf_size]; have := (hq.len HT.out.2.2).1; simp only at this; omega); have zT2 : (bytesOf T2).size ≤ 2147483731 := (by rw [bytesOf_size]; omega); have HF := Lib.hid (And.intro hq H4); clear hq hl2 hb hs H4)
        go_wp2
        go_roundw
        case measure => simp [intOf]
        case rel =>
          have hX : X = [] := by rcases HW.out.1 with ⟨-, h⟩ | ⟨h, -⟩; exact h; omega
          have hT0 : T = [] := by have := HW.out.2.2.1; simpa using this
          obtain ⟨z1, z2⟩ := HF.out
          refine ⟨1, q.tm.text, T2, rfl, ?_, ?_, by omega, Lib.hid ⟨.inr ⟨by omega, _, ?_, (gl_one_text q).symm⟩, by rw [bytesOf_size] at zq; omega, by rw [bytesOf_size] at zT2; omega, z2⟩⟩
          · rw [hX, bytes_add]; rfl
          · rw [hT0, bytes_add]; rfl
          · have : ts.take 1 = [⟨op, g, a, b, cc, pre⟩] := by rw [List.take_succ_eq_append_getElem c]; have := HT.out.1; simp [List.getElem?_eq_getElem c] at this; simp [this]
            rw [this]
            exact GLOf.one z1
      · have c2 : (0 : Int) < (k : Int) := by omega
        go_upto_region 5 with fail
        have H2 := H1.keep ((Below.refl _ _).alloc (Nat.le_refl _) srow8)
        have hrow := heap_alloc_new w1 srow8
        have hP2 : w1.heap.size ≠ S := by have := H1.l; omega
        have hTl : P < w1.heap.size := (Array.getElem?_eq_some_iff.1 hT).1
        have hT3 : (w1.alloc srow8).heap[P]? = _ := (((Below.refl _ w1).alloc (Nat.le_refl _) srow8).block P hTl).trans hT
        obtain ⟨x1, hx1⟩ := H2.s
        unfold srow8 at H2 hrow hx1 hT3
        have HPT := Lib.hid (fun y => H2.put y)
        have HRW := Lib.hid (fun y : Int => (show ((w1.alloc (.cells #[.string ⟨#[44, 32]⟩, .string ⟨#[32]⟩, .string ⟨#[44]⟩, .string ⟨#[44, 32]⟩, .string ⟨#[32]⟩, .string ⟨#[32, 32]⟩, .string ⟨#[32, 44, 32]⟩, .string ⟨#[9]⟩] 9)).setCell ⟨S, 0, none⟩ (.int .u64 y)).heap[w1.heap.size]? = (w1.alloc (.cells #[.string ⟨#[44, 32]⟩, .string ⟨#[32]⟩, .string ⟨#[44]⟩, .string ⟨#[44, 32]⟩, .string ⟨#[32]⟩, .string ⟨#[32, 32]⟩, .string ⟨#[32, 44, 32]⟩, .string ⟨#[9]⟩] 9)).heap[w1.heap.size]? from heap_setCell_other _ _ _ _ hP2).trans hrow)
        have HTW := Lib.hid (fun y : Int => (show ((w1.alloc (.cells #[.string ⟨#[44, 32]⟩, .string ⟨#[32]⟩, .string ⟨#[44]⟩, .string ⟨#[44, 32]⟩, .string ⟨#[32]⟩, .string ⟨#[32, 32]⟩, .string ⟨#[32, 44, 32]⟩, .string ⟨#[9]⟩] 9)).setCell ⟨S, 0, none⟩ (.int .u64 y)).heap[P]? = (w1.alloc (.cells #[.string ⟨#[44, 32]⟩, .string ⟨#[32]⟩, .string ⟨#[44]⟩, .string ⟨#[44, 32]⟩, .string ⟨#[32]⟩, .string ⟨#[32, 32]⟩, .string ⟨#[32, 44, 32]⟩, .string ⟨#[9]⟩] 9)).heap[P]? from heap_setCell_other _ _ _ _ hTS).trans hT3)
        have HM2 := Lib.hid (m17 S x1 8 (by omega) (by omega) _ hx1)
        clear H1 H2 hrow hx1 hT hT3
        go_upto_region 6 with (go_at_call 39; refine HM2.out.mono ?_; rintro e w3 ⟨q, y, rfl, hq, hw⟩; have H2 := HPT.out y; have hr2 := HRW.out y; have hT2 := HTW.out y; rw [← hw] at H2 hr2 hT2; obtain ⟨m, hmb, hm⟩ := s8cell hr2 hq; have hqi : (q : Int) < 8 := (by omega); have zm : (bytesOf m.text).size ≤ 3 := (by rw [bytesOf_size]; exact hmb.ok.2.2); have HMB := Lib.hid hmb; clear hw hr2 hmb)
        obtain ⟨x3, hx3⟩ := H2.s
        have HM := Lib.hid (H31.out S x3 w3 hx3)
        have HB := Lib.hid H2
        clear hx3 H2 HPT HRW HTW HM2
        have q0 : w3.cell? ⟨P, 0, none⟩ = some (.int .i64 op) := cell_of_row _ _ 0 _ _ _ hT2
        have q1 : w3.cell? ⟨P, 1, none⟩ = some (.int .i64 g) := cell_of_row _ _ 1 _ _ _ hT2
        have q2 : w3.cell? ⟨P, 2, none⟩ = some (.int .u64 a) := cell_of_row _ _ 2 _ _ _ hT2
        have q3 : w3.cell? ⟨P, 3, none⟩ = some (.int .u64 b) := cell_of_row _ _ 3 _ _ _ hT2
        have q4 : w3.cell? ⟨P, 4, none⟩ = some (.int .u64 cc) := cell_of_row _ _ 4 _ _ _ hT2
        have q5 : w3.cell? ⟨P, 5, none⟩ = some (.string (bytesOf pre)) := cell_of_row _ _ 5 _ _ _ hT2
        clear hT2
        go_upto_region 8 with (go_at_call 65; refine HM.out.mono ?_; rintro e w4 ⟨q, T2, rfl, hq, hl2, hb, hs⟩; have H4 := HB.out.step hb hs; have hpl : pre.length ≤ 2147483647 := HT.out.2.2.2.2.2; have zq : (bytesOf q.tm.text).size ≤ 2147483731 := (by rw [bytesOf_size]; have := (hq.len HT.out.2.2).1; simp only at this; omega); have zT2 : (bytesOf T2).size ≤ 2147483731 := (by rw [bytesOf_size]; omega); have HF := Lib.hid (And.intro hq H4); clear hq hl2 hb hs H4)
        have zXm : (bytesOf X ++ bytesOf m.text).size ≤ k * 2147483800 + 3 := by rw [ByteArray.size_append]; omega
        have zTm : (bytesOf T ++ ⟨#[32]⟩).size ≤ k * 2147483800 + 1 := by rw [ByteArray.size_append]; have : (⟨#[32]⟩ : ByteArray).size = 1 := rfl; omega
        go_wp2
        go_roundw
        case measure => simp [intOf]; omega
        case rel =>
          obtain ⟨z1, z2⟩ := HF.out
          rcases HW.out.1 with ⟨h, -⟩ | ⟨-, gg, hg1, hg2⟩
          · omega
          · refine ⟨k + 1, X ++ (m.text ++ q.tm.text), T ++ ([32] ++ T2), by simp, ?_, ?_, by omega, Lib.hid ⟨.inr ⟨by omega, { gg with l := gg.l ++ [(m, q)] }, ?_, ?_⟩, ?_, ?_, z2⟩⟩
            · simp [← bytes_add, ByteArray.append_assoc]
            · rw [show (⟨#[32]⟩ : ByteArray) = bytesOf [32] from rfl]; simp only [← bytes_add, ByteArray.append_assoc]
            · have : ts.take (k + 1) = ts.take k ++ [⟨op, g, a, b, cc, pre⟩] := by rw [List.take_succ_eq_append_getElem c]; have := HT.out.1; simp [List.getElem?_eq_getElem c] at this; simp [this]
              rw [this]
              exact hg1.snoc z1 HMB.out
            · rw [hg2, gl_snoc_text hg1.R]
            · rw [bytesOf_size] at zX zm zq; simp; omega
            · rw [bytesOf_size] at zT zT2; simp; omega
    · have hkn : k = ts.length := by omega
      subst hkn
      go_wp2
      go_ret2
      rcases HW.out.1 with ⟨h, -⟩ | ⟨-, gg, hg1, hg2⟩
      · exact absurd (List.length_eq_zero_iff.1 h) HC.out.2.2.1
      · rw [List.take_length] at hg1
        refine ⟨gg, T, by rw [hg2]; rfl, hg1, by rw [← hg2]; exact HW.out.2.1, HW.out.2.2.1, HW.out.2.2.2.b, HW.out.2.2.2.s⟩
end Go.Proofs.YtnamjojceadgdaaGreatDoor.Sv
end
