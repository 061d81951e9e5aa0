/- a part of the proof: FnSemverBroken: for every list of lists of terms, every style and every byte the law's function returns true and leaves its arguments as they were. No condition is added: the statement is the given one, the tied card. -/
import Derived.Test.YthejepmnnpmdmaaGreatDoorNI
import Derived.Test.YthejepmnnpmdmaaGreatDoorNH
section
set_option linter.unusedVariables false
set_option linter.unusedSimpArgs false
/- PartialText -/
namespace Go.Proofs.YthejepmnnpmdmaaGreatDoor.Sv
open Go Go.RowKit Rx
set_option maxRecDepth 100000
def vrow4 : Obj := .cells #[.string ⟨#[]⟩, .string ⟨#[]⟩, .string ⟨#[]⟩, .string ⟨#[118]⟩] 9 (0, 0)
theorem new2' (w : World) (o1 : Obj) (xs : Array Value) (t : TypeId) : ((w.alloc o1).alloc (.cells xs t (0, 0))).heap[w.heap.size + 1]? = some (.cells xs t (0, 0)) := by
  have h := heap_alloc_new (w.alloc o1) (.cells xs t (0, 0))
  rwa [World.size_alloc] at h
theorem v4cell {W : World} {P q : Nat} (h : W.heap[P]? = some vrow4) (hq : q < 4) : ∃ v : Bool, W.cell? ⟨P, q, none⟩ = some (.string (bytesOf (vb v))) := by
  have h' : q = 0 ∨ q = 1 ∨ q = 2 ∨ q = 3 := by omega
  unfold vrow4 at h
  rcases h' with rfl | rfl | rfl | rfl
  all_goals first
    | exact ⟨false, cell_of_row _ _ _ _ _ _ h⟩
    | exact ⟨true, cell_of_row _ _ _ _ _ _ h⟩
theorem PT.setg {w : World} {S N5 T2 : Nat} {t : TV} {W : World} (h : PT w S N5 T2 t W) (hN : N5 ≠ T2) : PT w S N5 T2 t (W.setCell ⟨T2, 1, none⟩ (.int .i64 t.g)) := by
  obtain ⟨x, hx⟩ := h.s
  have hl := h.l
  exact ⟨(heap_setCell_other _ _ _ _ (by show N5 ≠ T2; omega)).trans h.n5, heap_setCell_same _ _ 1 _ _ _ h.t2, ⟨x, (heap_setCell_other _ _ _ _ (by show S ≠ T2; omega)).trans hx⟩, h.b.setCell (p := ⟨T2, 1, none⟩) (by show S ≤ T2; omega) _, by simp; exact hl⟩
theorem PcsOk.snoc {t : TV} {g : Nat} {L : List Bs} (h : PcsOk t g L) (p : Bs) (h0 : L.length = 0 → 0 < g → ∃ z, p = num z t.a) (h1 : L.length = 1 → 1 < g → ∃ z, p = num z t.b) (h2 : L.length = 2 → 2 < g → ∃ z, p = num z t.c) (hw : g ≤ L.length → wildB p) : PcsOk t g (L ++ [p]) := by
  have key : ∀ j y, (L ++ [p])[j]? = some y → L[j]? = some y ∨ (j = L.length ∧ y = p) := fun j y hy => by
    rw [List.getElem?_append] at hy
    split at hy
    · exact .inl hy
    · have hj : j - L.length = 0 := by
        have := (List.getElem?_eq_some_iff.1 hy).1
        simp at this; omega
      rw [hj] at hy
      exact .inr ⟨by omega, by simpa using hy.symm⟩
  refine ⟨fun y hy hg => ?_, fun y hy hg => ?_, fun y hy hg => ?_, fun j y hy hg => ?_⟩
  · rcases key _ _ hy with h3 | ⟨h3, rfl⟩
    · exact h.n0 y h3 hg
    · exact h0 h3.symm hg
  · rcases key _ _ hy with h3 | ⟨h3, rfl⟩
    · exact h.n1 y h3 hg
    · exact h1 h3.symm hg
  · rcases key _ _ hy with h3 | ⟨h3, rfl⟩
    · exact h.n2 y h3 hg
    · exact h2 h3.symm hg
  · rcases key _ _ hy with h3 | ⟨h3, rfl⟩
    · exact h.w j y h3 hg
    · exact hw (by omega)
theorem PJ_step (v : Bool) (L : List Bs) (p : Bs) : (L = [] → (vb v ++ PJ L) ++ p = vb v ++ PJ (L ++ [p])) ∧ (L ≠ [] → (vb v ++ PJ L ++ [46]) ++ p = vb v ++ PJ (L ++ [p])) := by
  constructor
  · rintro rfl; simp [PJ, dots]
  · intro h
    match L, h with
    | x :: l, _ => rw [PJ_snoc]; simp
def mrow8 : Obj := .cells #[.string ⟨#[]⟩, .string ⟨#[]⟩, .string ⟨#[]⟩, .string ⟨#[]⟩, .string ⟨#[]⟩, .string ⟨#[]⟩, .string ⟨#[]⟩, .string ⟨#[43, 98, 46, 48, 49]⟩] 9 (0, 0)
theorem m8cell {W : World} {P q : Nat} (h : W.heap[P]? = some mrow8) (hq : q < 8) : ∃ m : Bool, W.cell? ⟨P, q, none⟩ = some (.string (bytesOf (mb m))) := by
  have h' : q = 0 ∨ q = 1 ∨ q = 2 ∨ q = 3 ∨ q = 4 ∨ q = 5 ∨ q = 6 ∨ q = 7 := by omega
  unfold mrow8 at h
  rcases h' with rfl | rfl | rfl | rfl | rfl | rfl | rfl | rfl
  all_goals first
    | exact ⟨false, cell_of_row _ _ _ _ _ _ h⟩
    | exact ⟨true, cell_of_row _ _ _ _ _ _ h⟩
set_option maxHeartbeats 8000000 in
theorem m51_3 (op : Int) (a b c : Nat) (pre : Bs) (ha : a < 18446744073709551616) (hb : b < 18446744073709551616) (hc : c < 18446744073709551616) (hpl : pre.length ≤ 2147483647) (S : Nat) (x : Int) (w : World) (hS : w.heap[S]? = some (.cells #[.int .u64 x] 74 (0, 0))) :
    Calls Tryz.prog 52 #[.agg #[.int .i64 op, .int .i64 3, .int .u64 a, .int .u64 b, .int .u64 c, .string (bytesOf pre)], .pointer (some ⟨S, 0, none⟩)] w fun e w' => ∃ V, e = .returned (.string (bytesOf V)) ∧ VerTx ⟨op, 3, a, b, c, pre⟩ V ∧ Below S w w' ∧ ∃ y : Int, w'.heap[S]? = some (.cells #[.int .u64 y] 74 (0, 0)) := by
  have hSl := (Array.getElem?_eq_some_iff.1 hS).1
  have HH := Lib.hid (And.intro ha (And.intro hb (And.intro hc hpl)))
  have hal1 := (Below.refl _ w).alloc (Nat.le_refl _) (.cells #[.int .i64 op, .int .i64 3, .int .u64 a, .int .u64 b, .int .u64 c, .string (bytesOf pre)] 36)
  have hal2 := hal1.alloc hal1.size (.cells #[.int .u64 a, .int .u64 b, .int .u64 c] 23)
  have H0 : PT w S (w.heap.size + 1) w.heap.size ⟨op, 3, a, b, c, pre⟩ ((w.alloc (.cells #[.int .i64 op, .int .i64 3, .int .u64 a, .int .u64 b, .int .u64 c, .string (bytesOf pre)] 36)).alloc (.cells #[.int .u64 a, .int .u64 b, .int .u64 c] 23)) :=
    ⟨new2' w _ _ _, jblk' ((Below.refl _ _).alloc (Nat.le_refl _) _) (heap_alloc_new w _), ⟨x, jblk' hal2 hS⟩, hal2.mono (Nat.le_of_lt hSl), by simp; omega⟩
  clear ha hb hc hpl hal1 hal2 hS
  go_enter Tryz.func52, Tryz.ntmps52
  go_upto_region 2 with fail
  generalize (w.alloc (.cells #[.int .i64 op, .int .i64 3, .int .u64 a, .int .u64 b, .int .u64 c, .string (bytesOf pre)] 36)).alloc (.cells #[.int .u64 a, .int .u64 b, .int .u64 c] 23) = w0 at *
  generalize hN5 : w.heap.size + 1 = N5 at *
  generalize hT2 : w.heap.size = T2 at *
  have H1 := H0.keep ((Below.refl _ _).alloc (Nat.le_refl _) vrow4)
  have hrow := heap_alloc_new w0 vrow4
  have hP : w0.heap.size ≠ S := by have := H0.l; omega
  obtain ⟨x1, hx1⟩ := H1.s
  have HX := Lib.hid hx1
  unfold vrow4 at H1 hrow hx1
  have HPT := Lib.hid (fun y => H1.put y)
  have HRW := Lib.hid (fun y : Int => (show ((w0.alloc (.cells #[.string ⟨#[]⟩, .string ⟨#[]⟩, .string ⟨#[]⟩, .string ⟨#[118]⟩] 9)).setCell ⟨S, 0, none⟩ (.int .u64 y)).heap[w0.heap.size]? = (w0.alloc (.cells #[.string ⟨#[]⟩, .string ⟨#[]⟩, .string ⟨#[]⟩, .string ⟨#[118]⟩] 9)).heap[w0.heap.size]? from heap_setCell_other _ _ _ _ hP).trans hrow)
  have HM := Lib.hid (m17 S x1 4 (by omega) (by omega) _ hx1)
  clear H0 H1 hrow hx1 HX
  go_upto_region 3 with (go_at_call 21; refine HM.out.mono ?_; rintro e w1 ⟨q, y, rfl, hq, hw⟩; have H2 := HPT.out y; have hr2 := HRW.out y; rw [← hw] at H2 hr2; obtain ⟨v, hv⟩ := v4cell hr2 hq; have hqi : (q : Int) < 4 := (by omega); clear hw hr2)
  have q1 : w1.cell? ⟨T2, 1, none⟩ = some (.int .i64 3) := cell_of_row _ _ 1 _ _ _ H2.t2
  have fz := fun k => frozen_of_row _ _ k _ _ H2.t2
  go_upto_region 4 with fail
  rw [show (max 0 3 : Int) = 3 from rfl]
  have H3 : PT w S N5 T2 ⟨op, 3, a, b, c, pre⟩ (w1.setCell ⟨T2, 1, none⟩ (.int .i64 3)) := H2.setg (by omega)
  generalize w1.setCell ⟨T2, 1, none⟩ (.int .i64 3) = w2 at *
  clear H2 q1 fz hv HPT HRW HM
  have q1 : w2.cell? ⟨T2, 1, none⟩ = some (.int .i64 3) := cell_of_row _ _ 1 _ _ _ H3.t2
  go_upto_region 8 with fail
  rw [show (max 1 3 : Int) = 3 from rfl]
  have HP3 := Lib.hid H3
  clear q1 H3
  go_wp2
  go_loopw [6, 42] (fun tv iv W => ∃ (k : Nat) (L : List Bs), iv = .int .i64 (k : Nat) ∧ tv = .string (bytesOf (vb v ++ PJ L)) ∧ k ≤ 3 ∧ L.length = k ∧ Hid (PcsOk ⟨op, 3, a, b, c, pre⟩ 3 L ∧ (vb v ++ PJ L).length ≤ 1 + 22 * k ∧ PT w S N5 T2 ⟨op, 3, a, b, c, pre⟩ W)) (fun _ iv _ => 3 - (intOf iv).toNat)
  case atStart => exact ⟨0, [], rfl, by simp [PJ], by omega, rfl, Lib.hid ⟨⟨by simp, by simp, by simp, by simp⟩, by cases v <;> simp [vb, PJ], HP3.out⟩⟩
  case round =>
    obtain ⟨k, L, rfl, rfl, hk, hL, HI⟩ := hrel
    have hkc : k = 0 ∨ k = 1 ∨ k = 2 ∨ k = 3 := by omega
    have q1 : wr.cell? ⟨T2, 1, none⟩ = some (.int .i64 3) := cell_of_row _ _ 1 _ _ _ HI.out.2.2.t2
    rcases hkc with rfl | rfl | rfl | rfl
    · have hsz : (bytesOf (vb v ++ PJ L)).size < 200 := by rw [bytesOf_size]; have := HI.out.2.1; omega
      go_upto_region 14 with fail

      refine region14 _ _ _ _ _ _ _ _ _ _ _ _ _ _ _ _ _ _ _ _ _ _ _ _ _ _ _ _ _ _ _ _ _ _ _ _ _ _ _ _ _ _ _ _ _ _ _ _ _ _ _ _ _ _ _ _ _ _ _ _ _ _ _ _ _ _ _ _ _ _ _ _ _ _ _ _ _ _ _ _ _ _ _ _ _ _ _ _ _ _ (hpt := HI.out.2.2) (i := 0) (n := a) (tx := vb v ++ PJ L) (hi := by omega) (hn := by simp) (hn64 := by have := HH.out; omega) (htx := by have := HI.out.2.1; simp at this ⊢; omega) (h6 := rfl) (hQ := fun z s6 s53 s54 s55 s56 s57 s58 s59 s60 s61 s62 s63 s64 s65 W hW h6 => ?_)
      subst h6
      unfold fr14
      have hnl := num_len z a (by have := HH.out; omega)
      have hpj := (PJ_step v L (num z a)).1 (List.length_eq_zero_iff.1 hL)
      have HK := Lib.hid (And.intro hnl hpj)
      clear hnl hpj
      rw [HK.out.2]
      go_wp2
      refine ⟨⟨1, L ++ [num z a], rfl, rfl, by omega, by rw [List.length_append, hL]; rfl, Lib.hid ⟨HI.out.1.snoc _ (fun h _ => ⟨z, rfl⟩) (fun h _ => by omega) (fun h _ => by omega) (fun h => by omega), ?_, hW⟩⟩, by simp [intOf]⟩
      have h1 := HI.out.2.1
      have h2 := HK.out.1
      rw [← HK.out.2]
      simp at h1 ⊢
      omega
    · have hsz : (bytesOf (vb v ++ PJ L)).size < 200 := by rw [bytesOf_size]; have := HI.out.2.1; omega
      go_upto_region 14 with fail
      rw [show (⟨#[46]⟩ : ByteArray) = bytesOf [46] from rfl, bytes_add]
      refine region14 _ _ _ _ _ _ _ _ _ _ _ _ _ _ _ _ _ _ _ _ _ _ _ _ _ _ _ _ _ _ _ _ _ _ _ _ _ _ _ _ _ _ _ _ _ _ _ _ _ _ _ _ _ _ _ _ _ _ _ _ _ _ _ _ _ _ _ _ _ _ _ _ _ _ _ _ _ _ _ _ _ _ _ _ _ _ _ _ _ _ (hpt := HI.out.2.2) (i := 1) (n := b) (tx := vb v ++ PJ L ++ [46]) (hi := by omega) (hn := by simp) (hn64 := by have := HH.out; omega) (htx := by have := HI.out.2.1; simp at this ⊢; omega) (h6 := rfl) (hQ := fun z s6 s53 s54 s55 s56 s57 s58 s59 s60 s61 s62 s63 s64 s65 W hW h6 => ?_)
      subst h6
      unfold fr14
      have hnl := num_len z b (by have := HH.out; omega)
      have hpj := (PJ_step v L (num z b)).2 (fun e => by rw [e] at hL; simp at hL)
      have HK := Lib.hid (And.intro hnl hpj)
      clear hnl hpj
      rw [HK.out.2]
      go_wp2
      refine ⟨⟨2, L ++ [num z b], rfl, rfl, by omega, by rw [List.length_append, hL]; rfl, Lib.hid ⟨HI.out.1.snoc _ (fun h _ => by omega) (fun h _ => ⟨z, rfl⟩) (fun h _ => by omega) (fun h => by omega), ?_, hW⟩⟩, by simp [intOf]⟩
      have h1 := HI.out.2.1
      have h2 := HK.out.1
      rw [← HK.out.2]
      simp at h1 ⊢
      omega
    · have hsz : (bytesOf (vb v ++ PJ L)).size < 200 := by rw [bytesOf_size]; have := HI.out.2.1; omega
      go_upto_region 14 with fail
      rw [show (⟨#[46]⟩ : ByteArray) = bytesOf [46] from rfl, bytes_add]
      refine region14 _ _ _ _ _ _ _ _ _ _ _ _ _ _ _ _ _ _ _ _ _ _ _ _ _ _ _ _ _ _ _ _ _ _ _ _ _ _ _ _ _ _ _ _ _ _ _ _ _ _ _ _ _ _ _ _ _ _ _ _ _ _ _ _ _ _ _ _ _ _ _ _ _ _ _ _ _ _ _ _ _ _ _ _ _ _ _ _ _ _ (hpt := HI.out.2.2) (i := 2) (n := c) (tx := vb v ++ PJ L ++ [46]) (hi := by omega) (hn := by simp) (hn64 := by have := HH.out; omega) (htx := by have := HI.out.2.1; simp at this ⊢; omega) (h6 := rfl) (hQ := fun z s6 s53 s54 s55 s56 s57 s58 s59 s60 s61 s62 s63 s64 s65 W hW h6 => ?_)
      subst h6
      unfold fr14
      have hnl := num_len z c (by have := HH.out; omega)
      have hpj := (PJ_step v L (num z c)).2 (fun e => by rw [e] at hL; simp at hL)
      have HK := Lib.hid (And.intro hnl hpj)
      clear hnl hpj
      rw [HK.out.2]
      go_wp2
      refine ⟨⟨3, L ++ [num z c], rfl, rfl, by omega, by rw [List.length_append, hL]; rfl, Lib.hid ⟨HI.out.1.snoc _ (fun h _ => by omega) (fun h _ => by omega) (fun h _ => ⟨z, rfl⟩) (fun h => by omega), ?_, hW⟩⟩, by simp [intOf]⟩
      have h1 := HI.out.2.1
      have h2 := HK.out.1
      rw [← HK.out.2]
      simp at h1 ⊢
      omega
    · have q5 : wr.cell? ⟨T2, 5, none⟩ = some (.string (bytesOf pre)) := cell_of_row _ _ 5 _ _ _ HI.out.2.2.t2
      have e1 := bytesOf_toList pre
      have hsz : (bytesOf (vb v ++ PJ L)).size < 200 := by rw [bytesOf_size]; have := HI.out.2.1; omega
      have hsp : (bytesOf pre).size ≤ 2147483647 := by rw [bytesOf_size]; exact HH.out.2.2.2
      by_cases hp : pre = []
      · have d5 : (pre == ([] : Bs)) = true := by rw [hp]; rfl
        have HPP := Lib.hid hp
        clear hp
        go_upto_region 20 with fail
        have H1 := HI.out.2.2.keep ((Below.refl _ _).alloc (Nat.le_refl _) mrow8)
        have hrow := heap_alloc_new wr mrow8
        have hP : wr.heap.size ≠ S := by have := HI.out.2.2.l; omega
        obtain ⟨x1, hx1⟩ := H1.s
        unfold mrow8 at H1 hrow hx1
        have HPT := Lib.hid (fun y => H1.put y)
        have HRW := Lib.hid (fun y : Int => (show ((wr.alloc (.cells #[.string ⟨#[]⟩, .string ⟨#[]⟩, .string ⟨#[]⟩, .string ⟨#[]⟩, .string ⟨#[]⟩, .string ⟨#[]⟩, .string ⟨#[]⟩, .string ⟨#[43, 98, 46, 48, 49]⟩] 9)).setCell ⟨S, 0, none⟩ (.int .u64 y)).heap[wr.heap.size]? = (wr.alloc (.cells #[.string ⟨#[]⟩, .string ⟨#[]⟩, .string ⟨#[]⟩, .string ⟨#[]⟩, .string ⟨#[]⟩, .string ⟨#[]⟩, .string ⟨#[]⟩, .string ⟨#[43, 98, 46, 48, 49]⟩] 9)).heap[wr.heap.size]? from heap_setCell_other _ _ _ _ hP).trans hrow)
        have HM := Lib.hid (m17 S x1 8 (by omega) (by omega) _ hx1)
        clear H1 hrow hx1
        go_wp2_with (go_at_call 21; refine HM.out.mono ?_; rintro e w9 ⟨q9, y, rfl, hq9, hw⟩; have H2 := HPT.out y; have hr2 := HRW.out y; rw [← hw] at H2 hr2; obtain ⟨m, hm⟩ := m8cell hr2 hq9; have hqi9 : (q9 : Int) < 8 := (by omega); have zm : (bytesOf (mb m)).size ≤ 5 := (by rw [bytesOf_size]; cases m <;> simp [mb]); have HF := Lib.hid H2; clear hw hr2 H2)
        go_ret
        have hv := pieces_tx ⟨op, 3, a, b, c, pre⟩ 3 rfl (by omega) (by omega) v m (by omega) L HI.out.1 (by omega) (by omega) (by omega)
        refine ⟨_, ?_, hv, HF.out.b, HF.out.s⟩
        simp only [bytes_add, pb]
        rw [if_pos HPP.out]
        simp
      · have d5 : (pre == ([] : Bs)) = false := by cases pre with | nil => exact absurd rfl hp | cons y l => rfl
        have HPP := Lib.hid hp
        clear hp
        go_upto_region 20 with fail
        rw [show (⟨#[45]⟩ : ByteArray) = bytesOf [45] from rfl, bytes_add, bytes_add]
        have hs2 : (bytesOf (vb v ++ PJ L ++ ([45] ++ pre))).size < 2147484000 := by rw [bytesOf_size]; have h1 := HI.out.2.1; have h2 := HH.out.2.2.2; simp at h1 ⊢; omega
        obtain ⟨Y, hY⟩ : ∃ Y, Y = vb v ++ PJ L ++ ([45] ++ pre) := ⟨_, rfl⟩
        rw [← hY] at hs2 ⊢
        have HYY := Lib.hid hY
        clear hY
        have H1 := HI.out.2.2.keep ((Below.refl _ _).alloc (Nat.le_refl _) mrow8)
        have hrow := heap_alloc_new wr mrow8
        have hP : wr.heap.size ≠ S := by have := HI.out.2.2.l; omega
        obtain ⟨x1, hx1⟩ := H1.s
        unfold mrow8 at H1 hrow hx1
        have HPT := Lib.hid (fun y => H1.put y)
        have HRW := Lib.hid (fun y : Int => (show ((wr.alloc (.cells #[.string ⟨#[]⟩, .string ⟨#[]⟩, .string ⟨#[]⟩, .string ⟨#[]⟩, .string ⟨#[]⟩, .string ⟨#[]⟩, .string ⟨#[]⟩, .string ⟨#[43, 98, 46, 48, 49]⟩] 9)).setCell ⟨S, 0, none⟩ (.int .u64 y)).heap[wr.heap.size]? = (wr.alloc (.cells #[.string ⟨#[]⟩, .string ⟨#[]⟩, .string ⟨#[]⟩, .string ⟨#[]⟩, .string ⟨#[]⟩, .string ⟨#[]⟩, .string ⟨#[]⟩, .string ⟨#[43, 98, 46, 48, 49]⟩] 9)).heap[wr.heap.size]? from heap_setCell_other _ _ _ _ hP).trans hrow)
        have HM := Lib.hid (m17 S x1 8 (by omega) (by omega) _ hx1)
        clear H1 hrow hx1
        go_wp2_with (go_at_call 21; refine HM.out.mono ?_; rintro e w9 ⟨q9, y, rfl, hq9, hw⟩; have H2 := HPT.out y; have hr2 := HRW.out y; rw [← hw] at H2 hr2; obtain ⟨m, hm⟩ := m8cell hr2 hq9; have hqi9 : (q9 : Int) < 8 := (by omega); have zm : (bytesOf (mb m)).size ≤ 5 := (by rw [bytesOf_size]; cases m <;> simp [mb]); have HF := Lib.hid H2; clear hw hr2 H2)
        go_ret
        have hv := pieces_tx ⟨op, 3, a, b, c, pre⟩ 3 rfl (by omega) (by omega) v m (by omega) L HI.out.1 (by omega) (by omega) (by omega)
        refine ⟨_, ?_, hv, HF.out.b, HF.out.s⟩
        simp only [bytes_add, pb]
        rw [HYY.out, if_neg HPP.out]
        rfl
end Go.Proofs.YthejepmnnpmdmaaGreatDoor.Sv
end
section
set_option linter.unusedVariables false
set_option linter.unusedSimpArgs false
/- PartialText where numbers are missing -/
namespace Go.Proofs.YthejepmnnpmdmaaGreatDoor.Sv
open Go Go.RowKit Rx
set_option maxRecDepth 100000
theorem dot46 : (⟨#[46]⟩ : ByteArray) = bytesOf [46] := rfl
def wrow3 : Obj := .cells #[.string ⟨#[120]⟩, .string ⟨#[88]⟩, .string ⟨#[42]⟩] 9 (0, 0)
theorem w3cell {W : World} {P q : Nat} (h : W.heap[P]? = some wrow3) (hq : q < 3) : ∃ p : Bs, wildB p ∧ W.cell? ⟨P, q, none⟩ = some (.string (bytesOf p)) := by
  have h' : q = 0 ∨ q = 1 ∨ q = 2 := by omega
  unfold wrow3 at h
  rcases h' with rfl | rfl | rfl
  · exact ⟨[120], .inl rfl, cell_of_row _ _ _ _ _ _ h⟩
  · exact ⟨[88], .inr (.inl rfl), cell_of_row _ _ _ _ _ _ h⟩
  · exact ⟨[42], .inr (.inr rfl), cell_of_row _ _ _ _ _ _ h⟩
set_option maxHeartbeats 8000000 in
theorem m51_0 (op : Int) (a b c : Nat) (ha : a < 18446744073709551616) (hb : b < 18446744073709551616) (hc : c < 18446744073709551616) (S : Nat) (x : Int) (w : World) (hS : w.heap[S]? = some (.cells #[.int .u64 x] 74 (0, 0))) :
    Calls Tryz.prog 52 #[.agg #[.int .i64 op, .int .i64 0, .int .u64 a, .int .u64 b, .int .u64 c, .string (bytesOf [])], .pointer (some ⟨S, 0, none⟩)] w fun e w' => ∃ V, e = .returned (.string (bytesOf V)) ∧ VerTx ⟨op, 0, a, b, c, []⟩ V ∧ Below S w w' ∧ ∃ y : Int, w'.heap[S]? = some (.cells #[.int .u64 y] 74 (0, 0)) := by
  have hSl := (Array.getElem?_eq_some_iff.1 hS).1
  have HH := Lib.hid (And.intro ha (And.intro hb hc))
  have hal1 := (Below.refl _ w).alloc (Nat.le_refl _) (.cells #[.int .i64 op, .int .i64 0, .int .u64 a, .int .u64 b, .int .u64 c, .string (bytesOf [])] 36)
  have hal2 := hal1.alloc hal1.size (.cells #[.int .u64 a, .int .u64 b, .int .u64 c] 23)
  have H0 : PT w S (w.heap.size + 1) w.heap.size ⟨op, 0, a, b, c, []⟩ ((w.alloc (.cells #[.int .i64 op, .int .i64 0, .int .u64 a, .int .u64 b, .int .u64 c, .string (bytesOf [])] 36)).alloc (.cells #[.int .u64 a, .int .u64 b, .int .u64 c] 23)) :=
    ⟨new2' w _ _ _, jblk' ((Below.refl _ _).alloc (Nat.le_refl _) _) (heap_alloc_new w _), ⟨x, jblk' hal2 hS⟩, hal2.mono (Nat.le_of_lt hSl), by simp; omega⟩
  clear ha hb hc hal1 hal2 hS
  go_enter Tryz.func52, Tryz.ntmps52
  go_upto_region 2 with fail
  generalize (w.alloc (.cells #[.int .i64 op, .int .i64 0, .int .u64 a, .int .u64 b, .int .u64 c, .string (bytesOf [])] 36)).alloc (.cells #[.int .u64 a, .int .u64 b, .int .u64 c] 23) = w0 at *
  generalize hN5 : w.heap.size + 1 = N5 at *
  generalize hT2 : w.heap.size = T2 at *
  have H1 := H0.keep ((Below.refl _ _).alloc (Nat.le_refl _) vrow4)
  have hrow := heap_alloc_new w0 vrow4
  have hP : w0.heap.size ≠ S := by have := H0.l; omega
  obtain ⟨x1, hx1⟩ := H1.s
  have HX := Lib.hid hx1
  unfold vrow4 at H1 hrow hx1
  have HPT := Lib.hid (fun y => H1.put y)
  have HRW := Lib.hid (fun y : Int => (show ((w0.alloc (.cells #[.string ⟨#[]⟩, .string ⟨#[]⟩, .string ⟨#[]⟩, .string ⟨#[118]⟩] 9)).setCell ⟨S, 0, none⟩ (.int .u64 y)).heap[w0.heap.size]? = (w0.alloc (.cells #[.string ⟨#[]⟩, .string ⟨#[]⟩, .string ⟨#[]⟩, .string ⟨#[118]⟩] 9)).heap[w0.heap.size]? from heap_setCell_other _ _ _ _ hP).trans hrow)
  have HM := Lib.hid (m17 S x1 4 (by omega) (by omega) _ hx1)
  clear H0 H1 hrow hx1 HX
  go_upto_region 3 with (go_at_call 21; refine HM.out.mono ?_; rintro e w1 ⟨q, y, rfl, hq, hw⟩; have H2 := HPT.out y; have hr2 := HRW.out y; rw [← hw] at H2 hr2; obtain ⟨v, hv⟩ := v4cell hr2 hq; have hqi : (q : Int) < 4 := (by omega); clear hw hr2)
  have q1 : w1.cell? ⟨T2, 1, none⟩ = some (.int .i64 0) := cell_of_row _ _ 1 _ _ _ H2.t2
  have fz := fun k => frozen_of_row _ _ k _ _ H2.t2
  go_upto_region 4 with fail
  rw [show (max 0 (min 3 0) : Int) = 0 from rfl]
  have H3 : PT w S N5 T2 ⟨op, 0, a, b, c, []⟩ (w1.setCell ⟨T2, 1, none⟩ (.int .i64 0)) := H2.setg (by omega)
  generalize w1.setCell ⟨T2, 1, none⟩ (.int .i64 0) = w2 at *
  clear H2 q1 fz hv HPT HRW HM
  have q1 : w2.cell? ⟨T2, 1, none⟩ = some (.int .i64 0) := cell_of_row _ _ 1 _ _ _ H3.t2
  go_upto_region 6 with fail
  refine region6_0 _ _ _ _ _ _ _ _ _ _ _ _ _ _ _ _ _ _ _ _ _ _ _ _ _ _ _ _ _ _ _ _ _ _ _ _ _ _ _ _ _ _ _ _ _ _ _ _ _ _ _ _ _ _ _ _ _ _ _ _ _ _ _ _ _ _ _ _ _ _ _ _ _ _ _ _ _ _ _ _ _ _ _ (hpt := H3) (hg := rfl) (hQ := fun q6 s7 s31 s32 s33 s34 s35 s36 s37 s38 W6 hW6 hq6 h7 => ?_)
  clear H3 q1
  have hqc : q6 = 0 ∨ q6 = 1 ∨ q6 = 2 ∨ q6 = 3 := by omega
  rcases hqc with rfl | rfl | rfl | rfl
  · have h7' : s7 = .int .i64 0 := by rw [h7]; rfl
    clear h7
    subst h7'
    unfold fr6
    go_upto_region 8 with fail
    try rw [show (max 1 0 : Int) = 1 from rfl]
    have HP3 := Lib.hid hW6
    clear hW6
    go_wp2
    go_loopw [6, 42] (fun tv iv W => ∃ (k : Nat) (L : List Bs), iv = .int .i64 (k : Nat) ∧ tv = .string (bytesOf (vb v ++ PJ L)) ∧ k ≤ 1 ∧ L.length = k ∧ Hid (PcsOk ⟨op, 0, a, b, c, []⟩ 0 L ∧ (vb v ++ PJ L).length ≤ 1 + 22 * k ∧ PT w S N5 T2 ⟨op, 0, a, b, c, []⟩ W)) (fun _ iv _ => 1 - (intOf iv).toNat)
    case atStart => exact ⟨0, [], rfl, by simp [PJ], by omega, rfl, Lib.hid ⟨⟨by simp, by simp, by simp, by simp⟩, by cases v <;> simp [vb, PJ], HP3.out⟩⟩
    case round =>
      obtain ⟨k, L, rfl, rfl, hk, hL, HI⟩ := hrel
      have hkc : k = 0 ∨ k = 1 := by omega
      have q1 : wr.cell? ⟨T2, 1, none⟩ = some (.int .i64 0) := cell_of_row _ _ 1 _ _ _ HI.out.2.2.t2
      rcases hkc with rfl | rfl
      · have hsz : (bytesOf (vb v ++ PJ L)).size < 200 := by rw [bytesOf_size]; have := HI.out.2.1; omega
        go_upto_region 15 with fail
        have hs2 : (bytesOf (vb v ++ PJ L)).size < 300 := by rw [bytesOf_size]; have := HI.out.2.1; simp at this ⊢; omega
        have H1 := HI.out.2.2.keep ((Below.refl _ _).alloc (Nat.le_refl _) wrow3)
        have hrow := heap_alloc_new wr wrow3
        have hP : wr.heap.size ≠ S := by have := HI.out.2.2.l; omega
        obtain ⟨x1, hx1⟩ := H1.s
        unfold wrow3 at H1 hrow hx1
        have HPT := Lib.hid (fun y => H1.put y)
        have HRW := Lib.hid (fun y : Int => (show ((wr.alloc (.cells #[.string ⟨#[120]⟩, .string ⟨#[88]⟩, .string ⟨#[42]⟩] 9)).setCell ⟨S, 0, none⟩ (.int .u64 y)).heap[wr.heap.size]? = (wr.alloc (.cells #[.string ⟨#[120]⟩, .string ⟨#[88]⟩, .string ⟨#[42]⟩] 9)).heap[wr.heap.size]? from heap_setCell_other _ _ _ _ hP).trans hrow)
        have HM := Lib.hid (m17 S x1 3 (by omega) (by omega) _ hx1)
        clear H1 hrow hx1
        go_wp2_with (go_at_call 21; refine HM.out.mono ?_; rintro e w9 ⟨q9, y, rfl, hq9, hw⟩; have H2 := HPT.out y; have hr2 := HRW.out y; rw [← hw] at H2 hr2; obtain ⟨p, hpw, hm⟩ := w3cell hr2 hq9; have hqi9 : (q9 : Int) < 3 := (by omega); have zm : (bytesOf p).size ≤ 1 := (by rw [bytesOf_size]; rcases hpw with rfl | rfl | rfl <;> decide); have HF := Lib.hid (And.intro H2 hpw); have HK := Lib.hid ((PJ_step v L p).1 (List.length_eq_zero_iff.1 hL)); clear hw hr2 H2 hpw)
        go_roundw
        case measure => simp [intOf]
        case rel =>
          refine ⟨1, L ++ [p], rfl, ?_, by omega, by rw [List.length_append, hL]; rfl, Lib.hid ⟨HI.out.1.snoc _ (fun h _ => by omega) (fun h _ => by omega) (fun h _ => by omega) (fun h => HF.out.2), ?_, HF.out.1⟩⟩
          · rw [bytes_add, ← HK.out]
          · have h1 := HI.out.2.1
            rw [bytesOf_size] at zm
            rw [← HK.out]
            simp at h1 ⊢
            omega
      · have q5 : wr.cell? ⟨T2, 5, none⟩ = some (.string (bytesOf [])) := cell_of_row _ _ 5 _ _ _ HI.out.2.2.t2
        have e1 := bytesOf_toList []
        have hsz : (bytesOf (vb v ++ PJ L)).size < 200 := by rw [bytesOf_size]; have := HI.out.2.1; omega
        have d5 : (([] : Bs) == ([] : Bs)) = true := rfl
        go_wp2
        go_ret
        have hv := pieces_tx ⟨op, 0, a, b, c, []⟩ 0 rfl (by omega) (fun _ => rfl) v false (fun _ => rfl) L HI.out.1 (by omega) (by omega) (by omega)
        refine ⟨_, ?_, hv, HI.out.2.2.b, HI.out.2.2.s⟩
        simp [pb, mb]
  · have h7' : s7 = .int .i64 1 := by rw [h7]; rfl
    clear h7
    subst h7'
    unfold fr6
    go_upto_region 8 with fail
    try rw [show (max 1 1 : Int) = 1 from rfl]
    have HP3 := Lib.hid hW6
    clear hW6
    go_wp2
    go_loopw [6, 42] (fun tv iv W => ∃ (k : Nat) (L : List Bs), iv = .int .i64 (k : Nat) ∧ tv = .string (bytesOf (vb v ++ PJ L)) ∧ k ≤ 1 ∧ L.length = k ∧ Hid (PcsOk ⟨op, 0, a, b, c, []⟩ 0 L ∧ (vb v ++ PJ L).length ≤ 1 + 22 * k ∧ PT w S N5 T2 ⟨op, 0, a, b, c, []⟩ W)) (fun _ iv _ => 1 - (intOf iv).toNat)
    case atStart => exact ⟨0, [], rfl, by simp [PJ], by omega, rfl, Lib.hid ⟨⟨by simp, by simp, by simp, by simp⟩, by cases v <;> simp [vb, PJ], HP3.out⟩⟩
    case round =>
      obtain ⟨k, L, rfl, rfl, hk, hL, HI⟩ := hrel
      have hkc : k = 0 ∨ k = 1 := by omega
      have q1 : wr.cell? ⟨T2, 1, none⟩ = some (.int .i64 0) := cell_of_row _ _ 1 _ _ _ HI.out.2.2.t2
      rcases hkc with rfl | rfl
      · have hsz : (bytesOf (vb v ++ PJ L)).size < 200 := by rw [bytesOf_size]; have := HI.out.2.1; omega
        go_upto_region 15 with fail
        have hs2 : (bytesOf (vb v ++ PJ L)).size < 300 := by rw [bytesOf_size]; have := HI.out.2.1; simp at this ⊢; omega
        have H1 := HI.out.2.2.keep ((Below.refl _ _).alloc (Nat.le_refl _) wrow3)
        have hrow := heap_alloc_new wr wrow3
        have hP : wr.heap.size ≠ S := by have := HI.out.2.2.l; omega
        obtain ⟨x1, hx1⟩ := H1.s
        unfold wrow3 at H1 hrow hx1
        have HPT := Lib.hid (fun y => H1.put y)
        have HRW := Lib.hid (fun y : Int => (show ((wr.alloc (.cells #[.string ⟨#[120]⟩, .string ⟨#[88]⟩, .string ⟨#[42]⟩] 9)).setCell ⟨S, 0, none⟩ (.int .u64 y)).heap[wr.heap.size]? = (wr.alloc (.cells #[.string ⟨#[120]⟩, .string ⟨#[88]⟩, .string ⟨#[42]⟩] 9)).heap[wr.heap.size]? from heap_setCell_other _ _ _ _ hP).trans hrow)
        have HM := Lib.hid (m17 S x1 3 (by omega) (by omega) _ hx1)
        clear H1 hrow hx1
        go_wp2_with (go_at_call 21; refine HM.out.mono ?_; rintro e w9 ⟨q9, y, rfl, hq9, hw⟩; have H2 := HPT.out y; have hr2 := HRW.out y; rw [← hw] at H2 hr2; obtain ⟨p, hpw, hm⟩ := w3cell hr2 hq9; have hqi9 : (q9 : Int) < 3 := (by omega); have zm : (bytesOf p).size ≤ 1 := (by rw [bytesOf_size]; rcases hpw with rfl | rfl | rfl <;> decide); have HF := Lib.hid (And.intro H2 hpw); have HK := Lib.hid ((PJ_step v L p).1 (List.length_eq_zero_iff.1 hL)); clear hw hr2 H2 hpw)
        go_roundw
        case measure => simp [intOf]
        case rel =>
          refine ⟨1, L ++ [p], rfl, ?_, by omega, by rw [List.length_append, hL]; rfl, Lib.hid ⟨HI.out.1.snoc _ (fun h _ => by omega) (fun h _ => by omega) (fun h _ => by omega) (fun h => HF.out.2), ?_, HF.out.1⟩⟩
          · rw [bytes_add, ← HK.out]
          · have h1 := HI.out.2.1
            rw [bytesOf_size] at zm
            rw [← HK.out]
            simp at h1 ⊢
            omega
      · have q5 : wr.cell? ⟨T2, 5, none⟩ = some (.string (bytesOf [])) := cell_of_row _ _ 5 _ _ _ HI.out.2.2.t2
        have e1 := bytesOf_toList []
        have hsz : (bytesOf (vb v ++ PJ L)).size < 200 := by rw [bytesOf_size]; have := HI.out.2.1; omega
        have d5 : (([] : Bs) == ([] : Bs)) = true := rfl
        go_wp2
        go_ret
        have hv := pieces_tx ⟨op, 0, a, b, c, []⟩ 0 rfl (by omega) (fun _ => rfl) v false (fun _ => rfl) L HI.out.1 (by omega) (by omega) (by omega)
        refine ⟨_, ?_, hv, HI.out.2.2.b, HI.out.2.2.s⟩
        simp [pb, mb]
  · have h7' : s7 = .int .i64 2 := by rw [h7]; rfl
    clear h7
    subst h7'
    unfold fr6
    go_upto_region 8 with fail
    try rw [show (max 1 2 : Int) = 2 from rfl]
    have HP3 := Lib.hid hW6
    clear hW6
    go_wp2
    go_loopw [6, 42] (fun tv iv W => ∃ (k : Nat) (L : List Bs), iv = .int .i64 (k : Nat) ∧ tv = .string (bytesOf (vb v ++ PJ L)) ∧ k ≤ 2 ∧ L.length = k ∧ Hid (PcsOk ⟨op, 0, a, b, c, []⟩ 0 L ∧ (vb v ++ PJ L).length ≤ 1 + 22 * k ∧ PT w S N5 T2 ⟨op, 0, a, b, c, []⟩ W)) (fun _ iv _ => 2 - (intOf iv).toNat)
    case atStart => exact ⟨0, [], rfl, by simp [PJ], by omega, rfl, Lib.hid ⟨⟨by simp, by simp, by simp, by simp⟩, by cases v <;> simp [vb, PJ], HP3.out⟩⟩
    case round =>
      obtain ⟨k, L, rfl, rfl, hk, hL, HI⟩ := hrel
      have hkc : k = 0 ∨ k = 1 ∨ k = 2 := by omega
      have q1 : wr.cell? ⟨T2, 1, none⟩ = some (.int .i64 0) := cell_of_row _ _ 1 _ _ _ HI.out.2.2.t2
      rcases hkc with rfl | rfl | rfl
      · have hsz : (bytesOf (vb v ++ PJ L)).size < 200 := by rw [bytesOf_size]; have := HI.out.2.1; omega
        go_upto_region 15 with fail
        have hs2 : (bytesOf (vb v ++ PJ L)).size < 300 := by rw [bytesOf_size]; have := HI.out.2.1; simp at this ⊢; omega
        have H1 := HI.out.2.2.keep ((Below.refl _ _).alloc (Nat.le_refl _) wrow3)
        have hrow := heap_alloc_new wr wrow3
        have hP : wr.heap.size ≠ S := by have := HI.out.2.2.l; omega
        obtain ⟨x1, hx1⟩ := H1.s
        unfold wrow3 at H1 hrow hx1
        have HPT := Lib.hid (fun y => H1.put y)
        have HRW := Lib.hid (fun y : Int => (show ((wr.alloc (.cells #[.string ⟨#[120]⟩, .string ⟨#[88]⟩, .string ⟨#[42]⟩] 9)).setCell ⟨S, 0, none⟩ (.int .u64 y)).heap[wr.heap.size]? = (wr.alloc (.cells #[.string ⟨#[120]⟩, .string ⟨#[88]⟩, .string ⟨#[42]⟩] 9)).heap[wr.heap.size]? from heap_setCell_other _ _ _ _ hP).trans hrow)
        have HM := Lib.hid (m17 S x1 3 (by omega) (by omega) _ hx1)
        clear H1 hrow hx1
        go_wp2_with (go_at_call 21; refine HM.out.mono ?_; rintro e w9 ⟨q9, y, rfl, hq9, hw⟩; have H2 := HPT.out y; have hr2 := HRW.out y; rw [← hw] at H2 hr2; obtain ⟨p, hpw, hm⟩ := w3cell hr2 hq9; have hqi9 : (q9 : Int) < 3 := (by omega); have zm : (bytesOf p).size ≤ 1 := (by rw [bytesOf_size]; rcases hpw with rfl | rfl | rfl <;> decide); have HF := Lib.hid (And.intro H2 hpw); have HK := Lib.hid ((PJ_step v L p).1 (List.length_eq_zero_iff.1 hL)); clear hw hr2 H2 hpw)
        go_roundw
        case measure => simp [intOf]
        case rel =>
          refine ⟨1, L ++ [p], rfl, ?_, by omega, by rw [List.length_append, hL]; rfl, Lib.hid ⟨HI.out.1.snoc _ (fun h _ => by omega) (fun h _ => by omega) (fun h _ => by omega) (fun h => HF.out.2), ?_, HF.out.1⟩⟩
          · rw [bytes_add, ← HK.out]
          · have h1 := HI.out.2.1
            rw [bytesOf_size] at zm
            rw [← HK.out]
            simp at h1 ⊢
            omega
      · have hsz : (bytesOf (vb v ++ PJ L)).size < 200 := by rw [bytesOf_size]; have := HI.out.2.1; omega
        go_upto_region 15 with fail
        rw [dot46, bytes_add, List.append_assoc]
        have hs2 : (bytesOf (vb v ++ (PJ L ++ [46]))).size < 300 := by rw [bytesOf_size]; have := HI.out.2.1; simp at this ⊢; omega
        have H1 := HI.out.2.2.keep ((Below.refl _ _).alloc (Nat.le_refl _) wrow3)
        have hrow := heap_alloc_new wr wrow3
        have hP : wr.heap.size ≠ S := by have := HI.out.2.2.l; omega
        obtain ⟨x1, hx1⟩ := H1.s
        unfold wrow3 at H1 hrow hx1
        have HPT := Lib.hid (fun y => H1.put y)
        have HRW := Lib.hid (fun y : Int => (show ((wr.alloc (.cells #[.string ⟨#[120]⟩, .string ⟨#[88]⟩, .string ⟨#[42]⟩] 9)).setCell ⟨S, 0, none⟩ (.int .u64 y)).heap[wr.heap.size]? = (wr.alloc (.cells #[.string ⟨#[120]⟩, .string ⟨#[88]⟩, .string ⟨#[42]⟩] 9)).heap[wr.heap.size]? from heap_setCell_other _ _ _ _ hP).trans hrow)
        have HM := Lib.hid (m17 S x1 3 (by omega) (by omega) _ hx1)
        clear H1 hrow hx1
        go_wp2_with (go_at_call 21; refine HM.out.mono ?_; rintro e w9 ⟨q9, y, rfl, hq9, hw⟩; have H2 := HPT.out y; have hr2 := HRW.out y; rw [← hw] at H2 hr2; obtain ⟨p, hpw, hm⟩ := w3cell hr2 hq9; have hqi9 : (q9 : Int) < 3 := (by omega); have zm : (bytesOf p).size ≤ 1 := (by rw [bytesOf_size]; rcases hpw with rfl | rfl | rfl <;> decide); have HF := Lib.hid (And.intro H2 hpw); have HK := Lib.hid ((PJ_step v L p).2 (fun e => by rw [e] at hL; simp at hL)); clear hw hr2 H2 hpw)
        go_roundw
        case measure => simp [intOf]
        case rel =>
          refine ⟨2, L ++ [p], rfl, ?_, by omega, by rw [List.length_append, hL]; rfl, Lib.hid ⟨HI.out.1.snoc _ (fun h _ => by omega) (fun h _ => by omega) (fun h _ => by omega) (fun h => HF.out.2), ?_, HF.out.1⟩⟩
          · rw [bytes_add, ← HK.out]; simp
          · have h1 := HI.out.2.1
            rw [bytesOf_size] at zm
            rw [← HK.out]
            simp at h1 ⊢
            omega
      · have q5 : wr.cell? ⟨T2, 5, none⟩ = some (.string (bytesOf [])) := cell_of_row _ _ 5 _ _ _ HI.out.2.2.t2
        have e1 := bytesOf_toList []
        have hsz : (bytesOf (vb v ++ PJ L)).size < 200 := by rw [bytesOf_size]; have := HI.out.2.1; omega
        have d5 : (([] : Bs) == ([] : Bs)) = true := rfl
        go_wp2
        go_ret
        have hv := pieces_tx ⟨op, 0, a, b, c, []⟩ 0 rfl (by omega) (fun _ => rfl) v false (fun _ => rfl) L HI.out.1 (by omega) (by omega) (by omega)
        refine ⟨_, ?_, hv, HI.out.2.2.b, HI.out.2.2.s⟩
        simp [pb, mb]
  · have h7' : s7 = .int .i64 3 := by rw [h7]; rfl
    clear h7
    subst h7'
    unfold fr6
    go_upto_region 8 with fail
    try rw [show (max 1 3 : Int) = 3 from rfl]
    have HP3 := Lib.hid hW6
    clear hW6
    go_wp2
    go_loopw [6, 42] (fun tv iv W => ∃ (k : Nat) (L : List Bs), iv = .int .i64 (k : Nat) ∧ tv = .string (bytesOf (vb v ++ PJ L)) ∧ k ≤ 3 ∧ L.length = k ∧ Hid (PcsOk ⟨op, 0, a, b, c, []⟩ 0 L ∧ (vb v ++ PJ L).length ≤ 1 + 22 * k ∧ PT w S N5 T2 ⟨op, 0, a, b, c, []⟩ W)) (fun _ iv _ => 3 - (intOf iv).toNat)
    case atStart => exact ⟨0, [], rfl, by simp [PJ], by omega, rfl, Lib.hid ⟨⟨by simp, by simp, by simp, by simp⟩, by cases v <;> simp [vb, PJ], HP3.out⟩⟩
    case round =>
      obtain ⟨k, L, rfl, rfl, hk, hL, HI⟩ := hrel
      have hkc : k = 0 ∨ k = 1 ∨ k = 2 ∨ k = 3 := by omega
      have q1 : wr.cell? ⟨T2, 1, none⟩ = some (.int .i64 0) := cell_of_row _ _ 1 _ _ _ HI.out.2.2.t2
      rcases hkc with rfl | rfl | rfl | rfl
      · have hsz : (bytesOf (vb v ++ PJ L)).size < 200 := by rw [bytesOf_size]; have := HI.out.2.1; omega
        go_upto_region 15 with fail
        have hs2 : (bytesOf (vb v ++ PJ L)).size < 300 := by rw [bytesOf_size]; have := HI.out.2.1; simp at this ⊢; omega
        have H1 := HI.out.2.2.keep ((Below.refl _ _).alloc (Nat.le_refl _) wrow3)
        have hrow := heap_alloc_new wr wrow3
        have hP : wr.heap.size ≠ S := by have := HI.out.2.2.l; omega
        obtain ⟨x1, hx1⟩ := H1.s
        unfold wrow3 at H1 hrow hx1
        have HPT := Lib.hid (fun y => H1.put y)
        have HRW := Lib.hid (fun y : Int => (show ((wr.alloc (.cells #[.string ⟨#[120]⟩, .string ⟨#[88]⟩, .string ⟨#[42]⟩] 9)).setCell ⟨S, 0, none⟩ (.int .u64 y)).heap[wr.heap.size]? = (wr.alloc (.cells #[.string ⟨#[120]⟩, .string ⟨#[88]⟩, .string ⟨#[42]⟩] 9)).heap[wr.heap.size]? from heap_setCell_other _ _ _ _ hP).trans hrow)
        have HM := Lib.hid (m17 S x1 3 (by omega) (by omega) _ hx1)
        clear H1 hrow hx1
        go_wp2_with (go_at_call 21; refine HM.out.mono ?_; rintro e w9 ⟨q9, y, rfl, hq9, hw⟩; have H2 := HPT.out y; have hr2 := HRW.out y; rw [← hw] at H2 hr2; obtain ⟨p, hpw, hm⟩ := w3cell hr2 hq9; have hqi9 : (q9 : Int) < 3 := (by omega); have zm : (bytesOf p).size ≤ 1 := (by rw [bytesOf_size]; rcases hpw with rfl | rfl | rfl <;> decide); have HF := Lib.hid (And.intro H2 hpw); have HK := Lib.hid ((PJ_step v L p).1 (List.length_eq_zero_iff.1 hL)); clear hw hr2 H2 hpw)
        go_roundw
        case measure => simp [intOf]
        case rel =>
          refine ⟨1, L ++ [p], rfl, ?_, by omega, by rw [List.length_append, hL]; rfl, Lib.hid ⟨HI.out.1.snoc _ (fun h _ => by omega) (fun h _ => by omega) (fun h _ => by omega) (fun h => HF.out.2), ?_, HF.out.1⟩⟩
          · rw [bytes_add, ← HK.out]
          · have h1 := HI.out.2.1
            rw [bytesOf_size] at zm
            rw [← HK.out]
            simp at h1 ⊢
            omega
      · have hsz : (bytesOf (vb v ++ PJ L)).size < 200 := by rw [bytesOf_size]; have := HI.out.2.1; omega
        go_upto_region 15 with fail
        rw [dot46, bytes_add, List.append_assoc]
        have hs2 : (bytesOf (vb v ++ (PJ L ++ [46]))).size < 300 := by rw [bytesOf_size]; have := HI.out.2.1; simp at this ⊢; omega
        have H1 := HI.out.2.2.keep ((Below.refl _ _).alloc (Nat.le_refl _) wrow3)
        have hrow := heap_alloc_new wr wrow3
        have hP : wr.heap.size ≠ S := by have := HI.out.2.2.l; omega
        obtain ⟨x1, hx1⟩ := H1.s
        unfold wrow3 at H1 hrow hx1
        have HPT := Lib.hid (fun y => H1.put y)
        have HRW := Lib.hid (fun y : Int => (show ((wr.alloc (.cells #[.string ⟨#[120]⟩, .string ⟨#[88]⟩, .string ⟨#[42]⟩] 9)).setCell ⟨S, 0, none⟩ (.int .u64 y)).heap[wr.heap.size]? = (wr.alloc (.cells #[.string ⟨#[120]⟩, .string ⟨#[88]⟩, .string ⟨#[42]⟩] 9)).heap[wr.heap.size]? from heap_setCell_other _ _ _ _ hP).trans hrow)
        have HM := Lib.hid (m17 S x1 3 (by omega) (by omega) _ hx1)
        clear H1 hrow hx1
        go_wp2_with (go_at_call 21; refine HM.out.mono ?_; rintro e w9 ⟨q9, y, rfl, hq9, hw⟩; have H2 := HPT.out y; have hr2 := HRW.out y; rw [← hw] at H2 hr2; obtain ⟨p, hpw, hm⟩ := w3cell hr2 hq9; have hqi9 : (q9 : Int) < 3 := (by omega); have zm : (bytesOf p).size ≤ 1 := (by rw [bytesOf_size]; rcases hpw with rfl | rfl | rfl <;> decide); have HF := Lib.hid (And.intro H2 hpw); have HK := Lib.hid ((PJ_step v L p).2 (fun e => by rw [e] at hL; simp at hL)); clear hw hr2 H2 hpw)
        go_roundw
        case measure => simp [intOf]
        case rel =>
          refine ⟨2, L ++ [p], rfl, ?_, by omega, by rw [List.length_append, hL]; rfl, Lib.hid ⟨HI.out.1.snoc _ (fun h _ => by omega) (fun h _ => by omega) (fun h _ => by omega) (fun h => HF.out.2), ?_, HF.out.1⟩⟩
          · rw [bytes_add, ← HK.out]; simp
          · have h1 := HI.out.2.1
            rw [bytesOf_size] at zm
            rw [← HK.out]
            simp at h1 ⊢
            omega
      · have hsz : (bytesOf (vb v ++ PJ L)).size < 200 := by rw [bytesOf_size]; have := HI.out.2.1; omega
        go_upto_region 15 with fail
        rw [dot46, bytes_add, List.append_assoc]
        have hs2 : (bytesOf (vb v ++ (PJ L ++ [46]))).size < 300 := by rw [bytesOf_size]; have := HI.out.2.1; simp at this ⊢; omega
        have H1 := HI.out.2.2.keep ((Below.refl _ _).alloc (Nat.le_refl _) wrow3)
        have hrow := heap_alloc_new wr wrow3
        have hP : wr.heap.size ≠ S := by have := HI.out.2.2.l; omega
        obtain ⟨x1, hx1⟩ := H1.s
        unfold wrow3 at H1 hrow hx1
        have HPT := Lib.hid (fun y => H1.put y)
        have HRW := Lib.hid (fun y : Int => (show ((wr.alloc (.cells #[.string ⟨#[120]⟩, .string ⟨#[88]⟩, .string ⟨#[42]⟩] 9)).setCell ⟨S, 0, none⟩ (.int .u64 y)).heap[wr.heap.size]? = (wr.alloc (.cells #[.string ⟨#[120]⟩, .string ⟨#[88]⟩, .string ⟨#[42]⟩] 9)).heap[wr.heap.size]? from heap_setCell_other _ _ _ _ hP).trans hrow)
        have HM := Lib.hid (m17 S x1 3 (by omega) (by omega) _ hx1)
        clear H1 hrow hx1
        go_wp2_with (go_at_call 21; refine HM.out.mono ?_; rintro e w9 ⟨q9, y, rfl, hq9, hw⟩; have H2 := HPT.out y; have hr2 := HRW.out y; rw [← hw] at H2 hr2; obtain ⟨p, hpw, hm⟩ := w3cell hr2 hq9; have hqi9 : (q9 : Int) < 3 := (by omega); have zm : (bytesOf p).size ≤ 1 := (by rw [bytesOf_size]; rcases hpw with rfl | rfl | rfl <;> decide); have HF := Lib.hid (And.intro H2 hpw); have HK := Lib.hid ((PJ_step v L p).2 (fun e => by rw [e] at hL; simp at hL)); clear hw hr2 H2 hpw)
        go_roundw
        case measure => simp [intOf]
        case rel =>
          refine ⟨3, L ++ [p], rfl, ?_, by omega, by rw [List.length_append, hL]; rfl, Lib.hid ⟨HI.out.1.snoc _ (fun h _ => by omega) (fun h _ => by omega) (fun h _ => by omega) (fun h => HF.out.2), ?_, HF.out.1⟩⟩
          · rw [bytes_add, ← HK.out]; simp
          · have h1 := HI.out.2.1
            rw [bytesOf_size] at zm
            rw [← HK.out]
            simp at h1 ⊢
            omega
      · have q5 : wr.cell? ⟨T2, 5, none⟩ = some (.string (bytesOf [])) := cell_of_row _ _ 5 _ _ _ HI.out.2.2.t2
        have e1 := bytesOf_toList []
        have hsz : (bytesOf (vb v ++ PJ L)).size < 200 := by rw [bytesOf_size]; have := HI.out.2.1; omega
        have d5 : (([] : Bs) == ([] : Bs)) = true := rfl
        go_wp2
        go_ret
        have hv := pieces_tx ⟨op, 0, a, b, c, []⟩ 0 rfl (by omega) (fun _ => rfl) v false (fun _ => rfl) L HI.out.1 (by omega) (by omega) (by omega)
        refine ⟨_, ?_, hv, HI.out.2.2.b, HI.out.2.2.s⟩
        simp [pb, mb]
set_option maxHeartbeats 8000000 in
theorem m51_1 (op : Int) (a b c : Nat) (ha : a < 18446744073709551616) (hb : b < 18446744073709551616) (hc : c < 18446744073709551616) (S : Nat) (x : Int) (w : World) (hS : w.heap[S]? = some (.cells #[.int .u64 x] 74 (0, 0))) :
    Calls Tryz.prog 52 #[.agg #[.int .i64 op, .int .i64 1, .int .u64 a, .int .u64 b, .int .u64 c, .string (bytesOf [])], .pointer (some ⟨S, 0, none⟩)] w fun e w' => ∃ V, e = .returned (.string (bytesOf V)) ∧ VerTx ⟨op, 1, a, b, c, []⟩ V ∧ Below S w w' ∧ ∃ y : Int, w'.heap[S]? = some (.cells #[.int .u64 y] 74 (0, 0)) := by
  have hSl := (Array.getElem?_eq_some_iff.1 hS).1
  have HH := Lib.hid (And.intro ha (And.intro hb hc))
  have hal1 := (Below.refl _ w).alloc (Nat.le_refl _) (.cells #[.int .i64 op, .int .i64 1, .int .u64 a, .int .u64 b, .int .u64 c, .string (bytesOf [])] 36)
  have hal2 := hal1.alloc hal1.size (.cells #[.int .u64 a, .int .u64 b, .int .u64 c] 23)
  have H0 : PT w S (w.heap.size + 1) w.heap.size ⟨op, 1, a, b, c, []⟩ ((w.alloc (.cells #[.int .i64 op, .int .i64 1, .int .u64 a, .int .u64 b, .int .u64 c, .string (bytesOf [])] 36)).alloc (.cells #[.int .u64 a, .int .u64 b, .int .u64 c] 23)) :=
    ⟨new2' w _ _ _, jblk' ((Below.refl _ _).alloc (Nat.le_refl _) _) (heap_alloc_new w _), ⟨x, jblk' hal2 hS⟩, hal2.mono (Nat.le_of_lt hSl), by simp; omega⟩
  clear ha hb hc hal1 hal2 hS
  go_enter Tryz.func52, Tryz.ntmps52
  go_upto_region 2 with fail
  generalize (w.alloc (.cells #[.int .i64 op, .int .i64 1, .int .u64 a, .int .u64 b, .int .u64 c, .string (bytesOf [])] 36)).alloc (.cells #[.int .u64 a, .int .u64 b, .int .u64 c] 23) = w0 at *
  generalize hN5 : w.heap.size + 1 = N5 at *
  generalize hT2 : w.heap.size = T2 at *
  have H1 := H0.keep ((Below.refl _ _).alloc (Nat.le_refl _) vrow4)
  have hrow := heap_alloc_new w0 vrow4
  have hP : w0.heap.size ≠ S := by have := H0.l; omega
  obtain ⟨x1, hx1⟩ := H1.s
  have HX := Lib.hid hx1
  unfold vrow4 at H1 hrow hx1
  have HPT := Lib.hid (fun y => H1.put y)
  have HRW := Lib.hid (fun y : Int => (show ((w0.alloc (.cells #[.string ⟨#[]⟩, .string ⟨#[]⟩, .string ⟨#[]⟩, .string ⟨#[118]⟩] 9)).setCell ⟨S, 0, none⟩ (.int .u64 y)).heap[w0.heap.size]? = (w0.alloc (.cells #[.string ⟨#[]⟩, .string ⟨#[]⟩, .string ⟨#[]⟩, .string ⟨#[118]⟩] 9)).heap[w0.heap.size]? from heap_setCell_other _ _ _ _ hP).trans hrow)
  have HM := Lib.hid (m17 S x1 4 (by omega) (by omega) _ hx1)
  clear H0 H1 hrow hx1 HX
  go_upto_region 3 with (go_at_call 21; refine HM.out.mono ?_; rintro e w1 ⟨q, y, rfl, hq, hw⟩; have H2 := HPT.out y; have hr2 := HRW.out y; rw [← hw] at H2 hr2; obtain ⟨v, hv⟩ := v4cell hr2 hq; have hqi : (q : Int) < 4 := (by omega); clear hw hr2)
  have q1 : w1.cell? ⟨T2, 1, none⟩ = some (.int .i64 1) := cell_of_row _ _ 1 _ _ _ H2.t2
  have fz := fun k => frozen_of_row _ _ k _ _ H2.t2
  go_upto_region 4 with fail
  rw [show (max 0 (min 3 1) : Int) = 1 from rfl]
  have H3 : PT w S N5 T2 ⟨op, 1, a, b, c, []⟩ (w1.setCell ⟨T2, 1, none⟩ (.int .i64 1)) := H2.setg (by omega)
  generalize w1.setCell ⟨T2, 1, none⟩ (.int .i64 1) = w2 at *
  clear H2 q1 fz hv HPT HRW HM
  have q1 : w2.cell? ⟨T2, 1, none⟩ = some (.int .i64 1) := cell_of_row _ _ 1 _ _ _ H3.t2
  go_upto_region 6 with fail
  refine region6_1 _ _ _ _ _ _ _ _ _ _ _ _ _ _ _ _ _ _ _ _ _ _ _ _ _ _ _ _ _ _ _ _ _ _ _ _ _ _ _ _ _ _ _ _ _ _ _ _ _ _ _ _ _ _ _ _ _ _ _ _ _ _ _ _ _ _ _ _ _ _ _ _ _ _ _ _ _ _ _ _ _ _ _ (hpt := H3) (hg := rfl) (hQ := fun q6 s7 s31 s32 s33 s34 s35 s36 s37 s38 W6 hW6 hq6 h7 => ?_)
  clear H3 q1
  have hqc : q6 = 0 ∨ q6 = 1 ∨ q6 = 2 := by omega
  rcases hqc with rfl | rfl | rfl
  · have h7' : s7 = .int .i64 1 := by rw [h7]; rfl
    clear h7
    subst h7'
    unfold fr6
    go_upto_region 8 with fail
    try rw [show (max 1 1 : Int) = 1 from rfl]
    have HP3 := Lib.hid hW6
    clear hW6
    go_wp2
    go_loopw [6, 42] (fun tv iv W => ∃ (k : Nat) (L : List Bs), iv = .int .i64 (k : Nat) ∧ tv = .string (bytesOf (vb v ++ PJ L)) ∧ k ≤ 1 ∧ L.length = k ∧ Hid (PcsOk ⟨op, 1, a, b, c, []⟩ 1 L ∧ (vb v ++ PJ L).length ≤ 1 + 22 * k ∧ PT w S N5 T2 ⟨op, 1, a, b, c, []⟩ W)) (fun _ iv _ => 1 - (intOf iv).toNat)
    case atStart => exact ⟨0, [], rfl, by simp [PJ], by omega, rfl, Lib.hid ⟨⟨by simp, by simp, by simp, by simp⟩, by cases v <;> simp [vb, PJ], HP3.out⟩⟩
    case round =>
      obtain ⟨k, L, rfl, rfl, hk, hL, HI⟩ := hrel
      have hkc : k = 0 ∨ k = 1 := by omega
      have q1 : wr.cell? ⟨T2, 1, none⟩ = some (.int .i64 1) := cell_of_row _ _ 1 _ _ _ HI.out.2.2.t2
      rcases hkc with rfl | rfl
      · have hsz : (bytesOf (vb v ++ PJ L)).size < 200 := by rw [bytesOf_size]; have := HI.out.2.1; omega
        go_upto_region 14 with fail
        refine region14 _ _ _ _ _ _ _ _ _ _ _ _ _ _ _ _ _ _ _ _ _ _ _ _ _ _ _ _ _ _ _ _ _ _ _ _ _ _ _ _ _ _ _ _ _ _ _ _ _ _ _ _ _ _ _ _ _ _ _ _ _ _ _ _ _ _ _ _ _ _ _ _ _ _ _ _ _ _ _ _ _ _ _ _ _ _ _ _ _ _ (hpt := HI.out.2.2) (i := 0) (n := a) (tx := vb v ++ PJ L) (hi := by omega) (hn := by simp) (hn64 := by have := HH.out; omega) (htx := by have := HI.out.2.1; simp at this ⊢; omega) (h6 := rfl) (hQ := fun z s6 s53 s54 s55 s56 s57 s58 s59 s60 s61 s62 s63 s64 s65 W hW h6 => ?_)
        subst h6
        unfold fr14
        have hnl := num_len z a (by have := HH.out; omega)
        have hpj := (PJ_step v L (num z a)).1 (List.length_eq_zero_iff.1 hL)
        have HK := Lib.hid (And.intro hnl hpj)
        clear hnl hpj
        rw [HK.out.2]
        go_wp2
        refine ⟨⟨1, L ++ [num z a], rfl, rfl, by omega, by rw [List.length_append, hL]; rfl, Lib.hid ⟨HI.out.1.snoc _ (fun h _ => ⟨z, rfl⟩) (fun h _ => by omega) (fun h _ => by omega) (fun h => by omega), ?_, hW⟩⟩, by simp [intOf]⟩
        have h1 := HI.out.2.1
        have h2 := HK.out.1
        rw [← HK.out.2]
        simp at h1 ⊢
        omega
      · have q5 : wr.cell? ⟨T2, 5, none⟩ = some (.string (bytesOf [])) := cell_of_row _ _ 5 _ _ _ HI.out.2.2.t2
        have e1 := bytesOf_toList []
        have hsz : (bytesOf (vb v ++ PJ L)).size < 200 := by rw [bytesOf_size]; have := HI.out.2.1; omega
        have d5 : (([] : Bs) == ([] : Bs)) = true := rfl
        go_wp2
        go_ret
        have hv := pieces_tx ⟨op, 1, a, b, c, []⟩ 1 rfl (by omega) (fun _ => rfl) v false (fun _ => rfl) L HI.out.1 (by omega) (by omega) (by omega)
        refine ⟨_, ?_, hv, HI.out.2.2.b, HI.out.2.2.s⟩
        simp [pb, mb]
  · have h7' : s7 = .int .i64 2 := by rw [h7]; rfl
    clear h7
    subst h7'
    unfold fr6
    go_upto_region 8 with fail
    try rw [show (max 1 2 : Int) = 2 from rfl]
    have HP3 := Lib.hid hW6
    clear hW6
    go_wp2
    go_loopw [6, 42] (fun tv iv W => ∃ (k : Nat) (L : List Bs), iv = .int .i64 (k : Nat) ∧ tv = .string (bytesOf (vb v ++ PJ L)) ∧ k ≤ 2 ∧ L.length = k ∧ Hid (PcsOk ⟨op, 1, a, b, c, []⟩ 1 L ∧ (vb v ++ PJ L).length ≤ 1 + 22 * k ∧ PT w S N5 T2 ⟨op, 1, a, b, c, []⟩ W)) (fun _ iv _ => 2 - (intOf iv).toNat)
    case atStart => exact ⟨0, [], rfl, by simp [PJ], by omega, rfl, Lib.hid ⟨⟨by simp, by simp, by simp, by simp⟩, by cases v <;> simp [vb, PJ], HP3.out⟩⟩
    case round =>
      obtain ⟨k, L, rfl, rfl, hk, hL, HI⟩ := hrel
      have hkc : k = 0 ∨ k = 1 ∨ k = 2 := by omega
      have q1 : wr.cell? ⟨T2, 1, none⟩ = some (.int .i64 1) := cell_of_row _ _ 1 _ _ _ HI.out.2.2.t2
      rcases hkc with rfl | rfl | rfl
      · have hsz : (bytesOf (vb v ++ PJ L)).size < 200 := by rw [bytesOf_size]; have := HI.out.2.1; omega
        go_upto_region 14 with fail
        refine region14 _ _ _ _ _ _ _ _ _ _ _ _ _ _ _ _ _ _ _ _ _ _ _ _ _ _ _ _ _ _ _ _ _ _ _ _ _ _ _ _ _ _ _ _ _ _ _ _ _ _ _ _ _ _ _ _ _ _ _ _ _ _ _ _ _ _ _ _ _ _ _ _ _ _ _ _ _ _ _ _ _ _ _ _ _ _ _ _ _ _ (hpt := HI.out.2.2) (i := 0) (n := a) (tx := vb v ++ PJ L) (hi := by omega) (hn := by simp) (hn64 := by have := HH.out; omega) (htx := by have := HI.out.2.1; simp at this ⊢; omega) (h6 := rfl) (hQ := fun z s6 s53 s54 s55 s56 s57 s58 s59 s60 s61 s62 s63 s64 s65 W hW h6 => ?_)
        subst h6
        unfold fr14
        have hnl := num_len z a (by have := HH.out; omega)
        have hpj := (PJ_step v L (num z a)).1 (List.length_eq_zero_iff.1 hL)
        have HK := Lib.hid (And.intro hnl hpj)
        clear hnl hpj
        rw [HK.out.2]
        go_wp2
        refine ⟨⟨1, L ++ [num z a], rfl, rfl, by omega, by rw [List.length_append, hL]; rfl, Lib.hid ⟨HI.out.1.snoc _ (fun h _ => ⟨z, rfl⟩) (fun h _ => by omega) (fun h _ => by omega) (fun h => by omega), ?_, hW⟩⟩, by simp [intOf]⟩
        have h1 := HI.out.2.1
        have h2 := HK.out.1
        rw [← HK.out.2]
        simp at h1 ⊢
        omega
      · have hsz : (bytesOf (vb v ++ PJ L)).size < 200 := by rw [bytesOf_size]; have := HI.out.2.1; omega
        go_upto_region 15 with fail
        rw [dot46, bytes_add, List.append_assoc]
        have hs2 : (bytesOf (vb v ++ (PJ L ++ [46]))).size < 300 := by rw [bytesOf_size]; have := HI.out.2.1; simp at this ⊢; omega
        have H1 := HI.out.2.2.keep ((Below.refl _ _).alloc (Nat.le_refl _) wrow3)
        have hrow := heap_alloc_new wr wrow3
        have hP : wr.heap.size ≠ S := by have := HI.out.2.2.l; omega
        obtain ⟨x1, hx1⟩ := H1.s
        unfold wrow3 at H1 hrow hx1
        have HPT := Lib.hid (fun y => H1.put y)
        have HRW := Lib.hid (fun y : Int => (show ((wr.alloc (.cells #[.string ⟨#[120]⟩, .string ⟨#[88]⟩, .string ⟨#[42]⟩] 9)).setCell ⟨S, 0, none⟩ (.int .u64 y)).heap[wr.heap.size]? = (wr.alloc (.cells #[.string ⟨#[120]⟩, .string ⟨#[88]⟩, .string ⟨#[42]⟩] 9)).heap[wr.heap.size]? from heap_setCell_other _ _ _ _ hP).trans hrow)
        have HM := Lib.hid (m17 S x1 3 (by omega) (by omega) _ hx1)
        clear H1 hrow hx1
        go_wp2_with (go_at_call 21; refine HM.out.mono ?_; rintro e w9 ⟨q9, y, rfl, hq9, hw⟩; have H2 := HPT.out y; have hr2 := HRW.out y; rw [← hw] at H2 hr2; obtain ⟨p, hpw, hm⟩ := w3cell hr2 hq9; have hqi9 : (q9 : Int) < 3 := (by omega); have zm : (bytesOf p).size ≤ 1 := (by rw [bytesOf_size]; rcases hpw with rfl | rfl | rfl <;> decide); have HF := Lib.hid (And.intro H2 hpw); have HK := Lib.hid ((PJ_step v L p).2 (fun e => by rw [e] at hL; simp at hL)); clear hw hr2 H2 hpw)
        go_roundw
        case measure => simp [intOf]
        case rel =>
          refine ⟨2, L ++ [p], rfl, ?_, by omega, by rw [List.length_append, hL]; rfl, Lib.hid ⟨HI.out.1.snoc _ (fun h _ => by omega) (fun h _ => by omega) (fun h _ => by omega) (fun h => HF.out.2), ?_, HF.out.1⟩⟩
          · rw [bytes_add, ← HK.out]; simp
          · have h1 := HI.out.2.1
            rw [bytesOf_size] at zm
            rw [← HK.out]
            simp at h1 ⊢
            omega
      · have q5 : wr.cell? ⟨T2, 5, none⟩ = some (.string (bytesOf [])) := cell_of_row _ _ 5 _ _ _ HI.out.2.2.t2
        have e1 := bytesOf_toList []
        have hsz : (bytesOf (vb v ++ PJ L)).size < 200 := by rw [bytesOf_size]; have := HI.out.2.1; omega
        have d5 : (([] : Bs) == ([] : Bs)) = true := rfl
        go_wp2
        go_ret
        have hv := pieces_tx ⟨op, 1, a, b, c, []⟩ 1 rfl (by omega) (fun _ => rfl) v false (fun _ => rfl) L HI.out.1 (by omega) (by omega) (by omega)
        refine ⟨_, ?_, hv, HI.out.2.2.b, HI.out.2.2.s⟩
        simp [pb, mb]
  · have h7' : s7 = .int .i64 3 := by rw [h7]; rfl
    clear h7
    subst h7'
    unfold fr6
    go_upto_region 8 with fail
    try rw [show (max 1 3 : Int) = 3 from rfl]
    have HP3 := Lib.hid hW6
    clear hW6
    go_wp2
    go_loopw [6, 42] (fun tv iv W => ∃ (k : Nat) (L : List Bs), iv = .int .i64 (k : Nat) ∧ tv = .string (bytesOf (vb v ++ PJ L)) ∧ k ≤ 3 ∧ L.length = k ∧ Hid (PcsOk ⟨op, 1, a, b, c, []⟩ 1 L ∧ (vb v ++ PJ L).length ≤ 1 + 22 * k ∧ PT w S N5 T2 ⟨op, 1, a, b, c, []⟩ W)) (fun _ iv _ => 3 - (intOf iv).toNat)
    case atStart => exact ⟨0, [], rfl, by simp [PJ], by omega, rfl, Lib.hid ⟨⟨by simp, by simp, by simp, by simp⟩, by cases v <;> simp [vb, PJ], HP3.out⟩⟩
    case round =>
      obtain ⟨k, L, rfl, rfl, hk, hL, HI⟩ := hrel
      have hkc : k = 0 ∨ k = 1 ∨ k = 2 ∨ k = 3 := by omega
      have q1 : wr.cell? ⟨T2, 1, none⟩ = some (.int .i64 1) := cell_of_row _ _ 1 _ _ _ HI.out.2.2.t2
      rcases hkc with rfl | rfl | rfl | rfl
      · have hsz : (bytesOf (vb v ++ PJ L)).size < 200 := by rw [bytesOf_size]; have := HI.out.2.1; omega
        go_upto_region 14 with fail
        refine region14 _ _ _ _ _ _ _ _ _ _ _ _ _ _ _ _ _ _ _ _ _ _ _ _ _ _ _ _ _ _ _ _ _ _ _ _ _ _ _ _ _ _ _ _ _ _ _ _ _ _ _ _ _ _ _ _ _ _ _ _ _ _ _ _ _ _ _ _ _ _ _ _ _ _ _ _ _ _ _ _ _ _ _ _ _ _ _ _ _ _ (hpt := HI.out.2.2) (i := 0) (n := a) (tx := vb v ++ PJ L) (hi := by omega) (hn := by simp) (hn64 := by have := HH.out; omega) (htx := by have := HI.out.2.1; simp at this ⊢; omega) (h6 := rfl) (hQ := fun z s6 s53 s54 s55 s56 s57 s58 s59 s60 s61 s62 s63 s64 s65 W hW h6 => ?_)
        subst h6
        unfold fr14
        have hnl := num_len z a (by have := HH.out; omega)
        have hpj := (PJ_step v L (num z a)).1 (List.length_eq_zero_iff.1 hL)
        have HK := Lib.hid (And.intro hnl hpj)
        clear hnl hpj
        rw [HK.out.2]
        go_wp2
        refine ⟨⟨1, L ++ [num z a], rfl, rfl, by omega, by rw [List.length_append, hL]; rfl, Lib.hid ⟨HI.out.1.snoc _ (fun h _ => ⟨z, rfl⟩) (fun h _ => by omega) (fun h _ => by omega) (fun h => by omega), ?_, hW⟩⟩, by simp [intOf]⟩
        have h1 := HI.out.2.1
        have h2 := HK.out.1
        rw [← HK.out.2]
        simp at h1 ⊢
        omega
      · have hsz : (bytesOf (vb v ++ PJ L)).size < 200 := by rw [bytesOf_size]; have := HI.out.2.1; omega
        go_upto_region 15 with fail
        rw [dot46, bytes_add, List.append_assoc]
        have hs2 : (bytesOf (vb v ++ (PJ L ++ [46]))).size < 300 := by rw [bytesOf_size]; have := HI.out.2.1; simp at this ⊢; omega
        have H1 := HI.out.2.2.keep ((Below.refl _ _).alloc (Nat.le_refl _) wrow3)
        have hrow := heap_alloc_new wr wrow3
        have hP : wr.heap.size ≠ S := by have := HI.out.2.2.l; omega
        obtain ⟨x1, hx1⟩ := H1.s
        unfold wrow3 at H1 hrow hx1
        have HPT := Lib.hid (fun y => H1.put y)
        have HRW := Lib.hid (fun y : Int => (show ((wr.alloc (.cells #[.string ⟨#[120]⟩, .string ⟨#[88]⟩, .string ⟨#[42]⟩] 9)).setCell ⟨S, 0, none⟩ (.int .u64 y)).heap[wr.heap.size]? = (wr.alloc (.cells #[.string ⟨#[120]⟩, .string ⟨#[88]⟩, .string ⟨#[42]⟩] 9)).heap[wr.heap.size]? from heap_setCell_other _ _ _ _ hP).trans hrow)
        have HM := Lib.hid (m17 S x1 3 (by omega) (by omega) _ hx1)
        clear H1 hrow hx1
        go_wp2_with (go_at_call 21; refine HM.out.mono ?_; rintro e w9 ⟨q9, y, rfl, hq9, hw⟩; have H2 := HPT.out y; have hr2 := HRW.out y; rw [← hw] at H2 hr2; obtain ⟨p, hpw, hm⟩ := w3cell hr2 hq9; have hqi9 : (q9 : Int) < 3 := (by omega); have zm : (bytesOf p).size ≤ 1 := (by rw [bytesOf_size]; rcases hpw with rfl | rfl | rfl <;> decide); have HF := Lib.hid (And.intro H2 hpw); have HK := Lib.hid ((PJ_step v L p).2 (fun e => by rw [e] at hL; simp at hL)); clear hw hr2 H2 hpw)
        go_roundw
        case measure => simp [intOf]
        case rel =>
          refine ⟨2, L ++ [p], rfl, ?_, by omega, by rw [List.length_append, hL]; rfl, Lib.hid ⟨HI.out.1.snoc _ (fun h _ => by omega) (fun h _ => by omega) (fun h _ => by omega) (fun h => HF.out.2), ?_, HF.out.1⟩⟩
          · rw [bytes_add, ← HK.out]; simp
          · have h1 := HI.out.2.1
            rw [bytesOf_size] at zm
            rw [← HK.out]
            simp at h1 ⊢
            omega
      · have hsz : (bytesOf (vb v ++ PJ L)).size < 200 := by rw [bytesOf_size]; have := HI.out.2.1; omega
        go_upto_region 15 with fail
        rw [dot46, bytes_add, List.append_assoc]
        have hs2 : (bytesOf (vb v ++ (PJ L ++ [46]))).size < 300 := by rw [bytesOf_size]; have := HI.out.2.1; simp at this ⊢; omega
        have H1 := HI.out.2.2.keep ((Below.refl _ _).alloc (Nat.le_refl _) wrow3)
        have hrow := heap_alloc_new wr wrow3
        have hP : wr.heap.size ≠ S := by have := HI.out.2.2.l; omega
        obtain ⟨x1, hx1⟩ := H1.s
        unfold wrow3 at H1 hrow hx1
        have HPT := Lib.hid (fun y => H1.put y)
        have HRW := Lib.hid (fun y : Int => (show ((wr.alloc (.cells #[.string ⟨#[120]⟩, .string ⟨#[88]⟩, .string ⟨#[42]⟩] 9)).setCell ⟨S, 0, none⟩ (.int .u64 y)).heap[wr.heap.size]? = (wr.alloc (.cells #[.string ⟨#[120]⟩, .string ⟨#[88]⟩, .string ⟨#[42]⟩] 9)).heap[wr.heap.size]? from heap_setCell_other _ _ _ _ hP).trans hrow)
        have HM := Lib.hid (m17 S x1 3 (by omega) (by omega) _ hx1)
        clear H1 hrow hx1
        go_wp2_with (go_at_call 21; refine HM.out.mono ?_; rintro e w9 ⟨q9, y, rfl, hq9, hw⟩; have H2 := HPT.out y; have hr2 := HRW.out y; rw [← hw] at H2 hr2; obtain ⟨p, hpw, hm⟩ := w3cell hr2 hq9; have hqi9 : (q9 : Int) < 3 := (by omega); have zm : (bytesOf p).size ≤ 1 := (by rw [bytesOf_size]; rcases hpw with rfl | rfl | rfl <;> decide); have HF := Lib.hid (And.intro H2 hpw); have HK := Lib.hid ((PJ_step v L p).2 (fun e => by rw [e] at hL; simp at hL)); clear hw hr2 H2 hpw)
        go_roundw
        case measure => simp [intOf]
        case rel =>
          refine ⟨3, L ++ [p], rfl, ?_, by omega, by rw [List.length_append, hL]; rfl, Lib.hid ⟨HI.out.1.snoc _ (fun h _ => by omega) (fun h _ => by omega) (fun h _ => by omega) (fun h => HF.out.2), ?_, HF.out.1⟩⟩
          · rw [bytes_add, ← HK.out]; simp
          · have h1 := HI.out.2.1
            rw [bytesOf_size] at zm
            rw [← HK.out]
            simp at h1 ⊢
            omega
      · have q5 : wr.cell? ⟨T2, 5, none⟩ = some (.string (bytesOf [])) := cell_of_row _ _ 5 _ _ _ HI.out.2.2.t2
        have e1 := bytesOf_toList []
        have hsz : (bytesOf (vb v ++ PJ L)).size < 200 := by rw [bytesOf_size]; have := HI.out.2.1; omega
        have d5 : (([] : Bs) == ([] : Bs)) = true := rfl
        go_wp2
        go_ret
        have hv := pieces_tx ⟨op, 1, a, b, c, []⟩ 1 rfl (by omega) (fun _ => rfl) v false (fun _ => rfl) L HI.out.1 (by omega) (by omega) (by omega)
        refine ⟨_, ?_, hv, HI.out.2.2.b, HI.out.2.2.s⟩
        simp [pb, mb]
set_option maxHeartbeats 8000000 in
theorem m51_2 (op : Int) (a b c : Nat) (ha : a < 18446744073709551616) (hb : b < 18446744073709551616) (hc : c < 18446744073709551616) (S : Nat) (x : Int) (w : World) (hS : w.heap[S]? = some (.cells #[.int .u64 x] 74 (0, 0))) :
    Calls Tryz.prog 52 #[.agg #[.int .i64 op, .int .i64 2, .int .u64 a, .int .u64 b, .int .u64 c, .string (bytesOf [])], .pointer (some ⟨S, 0, none⟩)] w fun e w' => ∃ V, e = .returned (.string (bytesOf V)) ∧ VerTx ⟨op, 2, a, b, c, []⟩ V ∧ Below S w w' ∧ ∃ y : Int, w'.heap[S]? = some (.cells #[.int .u64 y] 74 (0, 0)) := by
  have hSl := (Array.getElem?_eq_some_iff.1 hS).1
  have HH := Lib.hid (And.intro ha (And.intro hb hc))
  have hal1 := (Below.refl _ w).alloc (Nat.le_refl _) (.cells #[.int .i64 op, .int .i64 2, .int .u64 a, .int .u64 b, .int .u64 c, .string (bytesOf [])] 36)
  have hal2 := hal1.alloc hal1.size (.cells #[.int .u64 a, .int .u64 b, .int .u64 c] 23)
  have H0 : PT w S (w.heap.size + 1) w.heap.size ⟨op, 2, a, b, c, []⟩ ((w.alloc (.cells #[.int .i64 op, .int .i64 2, .int .u64 a, .int .u64 b, .int .u64 c, .string (bytesOf [])] 36)).alloc (.cells #[.int .u64 a, .int .u64 b, .int .u64 c] 23)) :=
    ⟨new2' w _ _ _, jblk' ((Below.refl _ _).alloc (Nat.le_refl _) _) (heap_alloc_new w _), ⟨x, jblk' hal2 hS⟩, hal2.mono (Nat.le_of_lt hSl), by simp; omega⟩
  clear ha hb hc hal1 hal2 hS
  go_enter Tryz.func52, Tryz.ntmps52
  go_upto_region 2 with fail
  generalize (w.alloc (.cells #[.int .i64 op, .int .i64 2, .int .u64 a, .int .u64 b, .int .u64 c, .string (bytesOf [])] 36)).alloc (.cells #[.int .u64 a, .int .u64 b, .int .u64 c] 23) = w0 at *
  generalize hN5 : w.heap.size + 1 = N5 at *
  generalize hT2 : w.heap.size = T2 at *
  have H1 := H0.keep ((Below.refl _ _).alloc (Nat.le_refl _) vrow4)
  have hrow := heap_alloc_new w0 vrow4
  have hP : w0.heap.size ≠ S := by have := H0.l; omega
  obtain ⟨x1, hx1⟩ := H1.s
  have HX := Lib.hid hx1
  unfold vrow4 at H1 hrow hx1
  have HPT := Lib.hid (fun y => H1.put y)
  have HRW := Lib.hid (fun y : Int => (show ((w0.alloc (.cells #[.string ⟨#[]⟩, .string ⟨#[]⟩, .string ⟨#[]⟩, .string ⟨#[118]⟩] 9)).setCell ⟨S, 0, none⟩ (.int .u64 y)).heap[w0.heap.size]? = (w0.alloc (.cells #[.string ⟨#[]⟩, .string ⟨#[]⟩, .string ⟨#[]⟩, .string ⟨#[118]⟩] 9)).heap[w0.heap.size]? from heap_setCell_other _ _ _ _ hP).trans hrow)
  have HM := Lib.hid (m17 S x1 4 (by omega) (by omega) _ hx1)
  clear H0 H1 hrow hx1 HX
  go_upto_region 3 with (go_at_call 21; refine HM.out.mono ?_; rintro e w1 ⟨q, y, rfl, hq, hw⟩; have H2 := HPT.out y; have hr2 := HRW.out y; rw [← hw] at H2 hr2; obtain ⟨v, hv⟩ := v4cell hr2 hq; have hqi : (q : Int) < 4 := (by omega); clear hw hr2)
  have q1 : w1.cell? ⟨T2, 1, none⟩ = some (.int .i64 2) := cell_of_row _ _ 1 _ _ _ H2.t2
  have fz := fun k => frozen_of_row _ _ k _ _ H2.t2
  go_upto_region 4 with fail
  rw [show (max 0 (min 3 2) : Int) = 2 from rfl]
  have H3 : PT w S N5 T2 ⟨op, 2, a, b, c, []⟩ (w1.setCell ⟨T2, 1, none⟩ (.int .i64 2)) := H2.setg (by omega)
  generalize w1.setCell ⟨T2, 1, none⟩ (.int .i64 2) = w2 at *
  clear H2 q1 fz hv HPT HRW HM
  have q1 : w2.cell? ⟨T2, 1, none⟩ = some (.int .i64 2) := cell_of_row _ _ 1 _ _ _ H3.t2
  go_upto_region 6 with fail
  refine region6_2 _ _ _ _ _ _ _ _ _ _ _ _ _ _ _ _ _ _ _ _ _ _ _ _ _ _ _ _ _ _ _ _ _ _ _ _ _ _ _ _ _ _ _ _ _ _ _ _ _ _ _ _ _ _ _ _ _ _ _ _ _ _ _ _ _ _ _ _ _ _ _ _ _ _ _ _ _ _ _ _ _ _ _ (hpt := H3) (hg := rfl) (hQ := fun q6 s7 s31 s32 s33 s34 s35 s36 s37 s38 W6 hW6 hq6 h7 => ?_)
  clear H3 q1
  have hqc : q6 = 0 ∨ q6 = 1 := by omega
  rcases hqc with rfl | rfl
  · have h7' : s7 = .int .i64 2 := by rw [h7]; rfl
    clear h7
    subst h7'
    unfold fr6
    go_upto_region 8 with fail
    try rw [show (max 1 2 : Int) = 2 from rfl]
    have HP3 := Lib.hid hW6
    clear hW6
    go_wp2
    go_loopw [6, 42] (fun tv iv W => ∃ (k : Nat) (L : List Bs), iv = .int .i64 (k : Nat) ∧ tv = .string (bytesOf (vb v ++ PJ L)) ∧ k ≤ 2 ∧ L.length = k ∧ Hid (PcsOk ⟨op, 2, a, b, c, []⟩ 2 L ∧ (vb v ++ PJ L).length ≤ 1 + 22 * k ∧ PT w S N5 T2 ⟨op, 2, a, b, c, []⟩ W)) (fun _ iv _ => 2 - (intOf iv).toNat)
    case atStart => exact ⟨0, [], rfl, by simp [PJ], by omega, rfl, Lib.hid ⟨⟨by simp, by simp, by simp, by simp⟩, by cases v <;> simp [vb, PJ], HP3.out⟩⟩
    case round =>
      obtain ⟨k, L, rfl, rfl, hk, hL, HI⟩ := hrel
      have hkc : k = 0 ∨ k = 1 ∨ k = 2 := by omega
      have q1 : wr.cell? ⟨T2, 1, none⟩ = some (.int .i64 2) := cell_of_row _ _ 1 _ _ _ HI.out.2.2.t2
      rcases hkc with rfl | rfl | rfl
      · have hsz : (bytesOf (vb v ++ PJ L)).size < 200 := by rw [bytesOf_size]; have := HI.out.2.1; omega
        go_upto_region 14 with fail
        refine region14 _ _ _ _ _ _ _ _ _ _ _ _ _ _ _ _ _ _ _ _ _ _ _ _ _ _ _ _ _ _ _ _ _ _ _ _ _ _ _ _ _ _ _ _ _ _ _ _ _ _ _ _ _ _ _ _ _ _ _ _ _ _ _ _ _ _ _ _ _ _ _ _ _ _ _ _ _ _ _ _ _ _ _ _ _ _ _ _ _ _ (hpt := HI.out.2.2) (i := 0) (n := a) (tx := vb v ++ PJ L) (hi := by omega) (hn := by simp) (hn64 := by have := HH.out; omega) (htx := by have := HI.out.2.1; simp at this ⊢; omega) (h6 := rfl) (hQ := fun z s6 s53 s54 s55 s56 s57 s58 s59 s60 s61 s62 s63 s64 s65 W hW h6 => ?_)
        subst h6
        unfold fr14
        have hnl := num_len z a (by have := HH.out; omega)
        have hpj := (PJ_step v L (num z a)).1 (List.length_eq_zero_iff.1 hL)
        have HK := Lib.hid (And.intro hnl hpj)
        clear hnl hpj
        rw [HK.out.2]
        go_wp2
        refine ⟨⟨1, L ++ [num z a], rfl, rfl, by omega, by rw [List.length_append, hL]; rfl, Lib.hid ⟨HI.out.1.snoc _ (fun h _ => ⟨z, rfl⟩) (fun h _ => by omega) (fun h _ => by omega) (fun h => by omega), ?_, hW⟩⟩, by simp [intOf]⟩
        have h1 := HI.out.2.1
        have h2 := HK.out.1
        rw [← HK.out.2]
        simp at h1 ⊢
        omega
      · have hsz : (bytesOf (vb v ++ PJ L)).size < 200 := by rw [bytesOf_size]; have := HI.out.2.1; omega
        go_upto_region 14 with fail
        rw [dot46, bytes_add]
        refine region14 _ _ _ _ _ _ _ _ _ _ _ _ _ _ _ _ _ _ _ _ _ _ _ _ _ _ _ _ _ _ _ _ _ _ _ _ _ _ _ _ _ _ _ _ _ _ _ _ _ _ _ _ _ _ _ _ _ _ _ _ _ _ _ _ _ _ _ _ _ _ _ _ _ _ _ _ _ _ _ _ _ _ _ _ _ _ _ _ _ _ (hpt := HI.out.2.2) (i := 1) (n := b) (tx := vb v ++ PJ L ++ [46]) (hi := by omega) (hn := by simp) (hn64 := by have := HH.out; omega) (htx := by have := HI.out.2.1; simp at this ⊢; omega) (h6 := rfl) (hQ := fun z s6 s53 s54 s55 s56 s57 s58 s59 s60 s61 s62 s63 s64 s65 W hW h6 => ?_)
        subst h6
        unfold fr14
        have hnl := num_len z b (by have := HH.out; omega)
        have hpj := (PJ_step v L (num z b)).2 (fun e => by rw [e] at hL; simp at hL)
        have HK := Lib.hid (And.intro hnl hpj)
        clear hnl hpj
        rw [HK.out.2]
        go_wp2
        refine ⟨⟨2, L ++ [num z b], rfl, rfl, by omega, by rw [List.length_append, hL]; rfl, Lib.hid ⟨HI.out.1.snoc _ (fun h _ => by omega) (fun h _ => ⟨z, rfl⟩) (fun h _ => by omega) (fun h => by omega), ?_, hW⟩⟩, by simp [intOf]⟩
        have h1 := HI.out.2.1
        have h2 := HK.out.1
        rw [← HK.out.2]
        simp at h1 ⊢
        omega
      · have q5 : wr.cell? ⟨T2, 5, none⟩ = some (.string (bytesOf [])) := cell_of_row _ _ 5 _ _ _ HI.out.2.2.t2
        have e1 := bytesOf_toList []
        have hsz : (bytesOf (vb v ++ PJ L)).size < 200 := by rw [bytesOf_size]; have := HI.out.2.1; omega
        have d5 : (([] : Bs) == ([] : Bs)) = true := rfl
        go_wp2
        go_ret
        have hv := pieces_tx ⟨op, 2, a, b, c, []⟩ 2 rfl (by omega) (fun _ => rfl) v false (fun _ => rfl) L HI.out.1 (by omega) (by omega) (by omega)
        refine ⟨_, ?_, hv, HI.out.2.2.b, HI.out.2.2.s⟩
        simp [pb, mb]
  · have h7' : s7 = .int .i64 3 := by rw [h7]; rfl
    clear h7
    subst h7'
    unfold fr6
    go_upto_region 8 with fail
    try rw [show (max 1 3 : Int) = 3 from rfl]
    have HP3 := Lib.hid hW6
    clear hW6
    go_wp2
    go_loopw [6, 42] (fun tv iv W => ∃ (k : Nat) (L : List Bs), iv = .int .i64 (k : Nat) ∧ tv = .string (bytesOf (vb v ++ PJ L)) ∧ k ≤ 3 ∧ L.length = k ∧ Hid (PcsOk ⟨op, 2, a, b, c, []⟩ 2 L ∧ (vb v ++ PJ L).length ≤ 1 + 22 * k ∧ PT w S N5 T2 ⟨op, 2, a, b, c, []⟩ W)) (fun _ iv _ => 3 - (intOf iv).toNat)
    case atStart => exact ⟨0, [], rfl, by simp [PJ], by omega, rfl, Lib.hid ⟨⟨by simp, by simp, by simp, by simp⟩, by cases v <;> simp [vb, PJ], HP3.out⟩⟩
    case round =>
      obtain ⟨k, L, rfl, rfl, hk, hL, HI⟩ := hrel
      have hkc : k = 0 ∨ k = 1 ∨ k = 2 ∨ k = 3 := by omega
      have q1 : wr.cell? ⟨T2, 1, none⟩ = some (.int .i64 2) := cell_of_row _ _ 1 _ _ _ HI.out.2.2.t2
      rcases hkc with rfl | rfl | rfl | rfl
      · have hsz : (bytesOf (vb v ++ PJ L)).size < 200 := by rw [bytesOf_size]; have := HI.out.2.1; omega
        go_upto_region 14 with fail
        refine region14 _ _ _ _ _ _ _ _ _ _ _ _ _ _ _ _ _ _ _ _ _ _ _ _ _ _ _ _ _ _ _ _ _ _ _ _ _ _ _ _ _ _ _ _ _ _ _ _ _ _ _ _ _ _ _ _ _ _ _ _ _ _ _ _ _ _ _ _ _ _ _ _ _ _ _ _ _ _ _ _ _ _ _ _ _ _ _ _ _ _ (hpt := HI.out.2.2) (i := 0) (n := a) (tx := vb v ++ PJ L) (hi := by omega) (hn := by simp) (hn64 := by have := HH.out; omega) (htx := by have := HI.out.2.1; simp at this ⊢; omega) (h6 := rfl) (hQ := fun z s6 s53 s54 s55 s56 s57 s58 s59 s60 s61 s62 s63 s64 s65 W hW h6 => ?_)
        subst h6
        unfold fr14
        have hnl := num_len z a (by have := HH.out; omega)
        have hpj := (PJ_step v L (num z a)).1 (List.length_eq_zero_iff.1 hL)
        have HK := Lib.hid (And.intro hnl hpj)
        clear hnl hpj
        rw [HK.out.2]
        go_wp2
        refine ⟨⟨1, L ++ [num z a], rfl, rfl, by omega, by rw [List.length_append, hL]; rfl, Lib.hid ⟨HI.out.1.snoc _ (fun h _ => ⟨z, rfl⟩) (fun h _ => by omega) (fun h _ => by omega) (fun h => by omega), ?_, hW⟩⟩, by simp [intOf]⟩
        have h1 := HI.out.2.1
        have h2 := HK.out.1
        rw [← HK.out.2]
        simp at h1 ⊢
        omega
      · have hsz : (bytesOf (vb v ++ PJ L)).size < 200 := by rw [bytesOf_size]; have := HI.out.2.1; omega
        go_upto_region 14 with fail
        rw [dot46, bytes_add]
        refine region14 _ _ _ _ _ _ _ _ _ _ _ _ _ _ _ _ _ _ _ _ _ _ _ _ _ _ _ _ _ _ _ _ _ _ _ _ _ _ _ _ _ _ _ _ _ _ _ _ _ _ _ _ _ _ _ _ _ _ _ _ _ _ _ _ _ _ _ _ _ _ _ _ _ _ _ _ _ _ _ _ _ _ _ _ _ _ _ _ _ _ (hpt := HI.out.2.2) (i := 1) (n := b) (tx := vb v ++ PJ L ++ [46]) (hi := by omega) (hn := by simp) (hn64 := by have := HH.out; omega) (htx := by have := HI.out.2.1; simp at this ⊢; omega) (h6 := rfl) (hQ := fun z s6 s53 s54 s55 s56 s57 s58 s59 s60 s61 s62 s63 s64 s65 W hW h6 => ?_)
        subst h6
        unfold fr14
        have hnl := num_len z b (by have := HH.out; omega)
        have hpj := (PJ_step v L (num z b)).2 (fun e => by rw [e] at hL; simp at hL)
        have HK := Lib.hid (And.intro hnl hpj)
        clear hnl hpj
        rw [HK.out.2]
        go_wp2
        refine ⟨⟨2, L ++ [num z b], rfl, rfl, by omega, by rw [List.length_append, hL]; rfl, Lib.hid ⟨HI.out.1.snoc _ (fun h _ => by omega) (fun h _ => ⟨z, rfl⟩) (fun h _ => by omega) (fun h => by omega), ?_, hW⟩⟩, by simp [intOf]⟩
        have h1 := HI.out.2.1
        have h2 := HK.out.1
        rw [← HK.out.2]
        simp at h1 ⊢
        omega
      · have hsz : (bytesOf (vb v ++ PJ L)).size < 200 := by rw [bytesOf_size]; have := HI.out.2.1; omega
        go_upto_region 15 with fail
        rw [dot46, bytes_add, List.append_assoc]
        have hs2 : (bytesOf (vb v ++ (PJ L ++ [46]))).size < 300 := by rw [bytesOf_size]; have := HI.out.2.1; simp at this ⊢; omega
        have H1 := HI.out.2.2.keep ((Below.refl _ _).alloc (Nat.le_refl _) wrow3)
        have hrow := heap_alloc_new wr wrow3
        have hP : wr.heap.size ≠ S := by have := HI.out.2.2.l; omega
        obtain ⟨x1, hx1⟩ := H1.s
        unfold wrow3 at H1 hrow hx1
        have HPT := Lib.hid (fun y => H1.put y)
        have HRW := Lib.hid (fun y : Int => (show ((wr.alloc (.cells #[.string ⟨#[120]⟩, .string ⟨#[88]⟩, .string ⟨#[42]⟩] 9)).setCell ⟨S, 0, none⟩ (.int .u64 y)).heap[wr.heap.size]? = (wr.alloc (.cells #[.string ⟨#[120]⟩, .string ⟨#[88]⟩, .string ⟨#[42]⟩] 9)).heap[wr.heap.size]? from heap_setCell_other _ _ _ _ hP).trans hrow)
        have HM := Lib.hid (m17 S x1 3 (by omega) (by omega) _ hx1)
        clear H1 hrow hx1
        go_wp2_with (go_at_call 21; refine HM.out.mono ?_; rintro e w9 ⟨q9, y, rfl, hq9, hw⟩; have H2 := HPT.out y; have hr2 := HRW.out y; rw [← hw] at H2 hr2; obtain ⟨p, hpw, hm⟩ := w3cell hr2 hq9; have hqi9 : (q9 : Int) < 3 := (by omega); have zm : (bytesOf p).size ≤ 1 := (by rw [bytesOf_size]; rcases hpw with rfl | rfl | rfl <;> decide); have HF := Lib.hid (And.intro H2 hpw); have HK := Lib.hid ((PJ_step v L p).2 (fun e => by rw [e] at hL; simp at hL)); clear hw hr2 H2 hpw)
        go_roundw
        case measure => simp [intOf]
        case rel =>
          refine ⟨3, L ++ [p], rfl, ?_, by omega, by rw [List.length_append, hL]; rfl, Lib.hid ⟨HI.out.1.snoc _ (fun h _ => by omega) (fun h _ => by omega) (fun h _ => by omega) (fun h => HF.out.2), ?_, HF.out.1⟩⟩
          · rw [bytes_add, ← HK.out]; simp
          · have h1 := HI.out.2.1
            rw [bytesOf_size] at zm
            rw [← HK.out]
            simp at h1 ⊢
            omega
      · have q5 : wr.cell? ⟨T2, 5, none⟩ = some (.string (bytesOf [])) := cell_of_row _ _ 5 _ _ _ HI.out.2.2.t2
        have e1 := bytesOf_toList []
        have hsz : (bytesOf (vb v ++ PJ L)).size < 200 := by rw [bytesOf_size]; have := HI.out.2.1; omega
        have d5 : (([] : Bs) == ([] : Bs)) = true := rfl
        go_wp2
        go_ret
        have hv := pieces_tx ⟨op, 2, a, b, c, []⟩ 2 rfl (by omega) (fun _ => rfl) v false (fun _ => rfl) L HI.out.1 (by omega) (by omega) (by omega)
        refine ⟨_, ?_, hv, HI.out.2.2.b, HI.out.2.2.s⟩
        simp [pb, mb]
end Go.Proofs.YthejepmnnpmdmaaGreatDoor.Sv
end
section
set_option linter.unusedVariables false
set_option linter.unusedSimpArgs false
/- PartialText whole; TermText -/
namespace Go.Proofs.YthejepmnnpmdmaaGreatDoor.Sv
open Go Go.RowKit Rx
set_option maxRecDepth 100000
/-- the numbers of a term as they come -/
def TV.Fit (t : TV) : Prop := t.a < 18446744073709551616 ∧ t.b < 18446744073709551616 ∧ t.c < 18446744073709551616 ∧ t.pre.length ≤ 2147483647
theorem m51 (t : TV) (ht : t.Good) (hf : t.Fit) (S : Nat) (x : Int) (w : World) (hS : w.heap[S]? = some (.cells #[.int .u64 x] 74 (0, 0))) :
    Calls Tryz.prog 52 #[t.val, .pointer (some ⟨S, 0, none⟩)] w fun e w' => ∃ V, e = .returned (.string (bytesOf V)) ∧ VerTx t V ∧ Below S w w' ∧ ∃ y : Int, w'.heap[S]? = some (.cells #[.int .u64 y] 74 (0, 0)) := by
  obtain ⟨op, g, a, b, c, pre⟩ := t
  obtain ⟨hg0, hg3⟩ := ht.g
  obtain ⟨h1, h2, h3, h4⟩ := hf
  have hgc : g = 0 ∨ g = 1 ∨ g = 2 ∨ g = 3 := by simp only at hg0 hg3; omega
  unfold TV.val
  rcases hgc with rfl | rfl | rfl | rfl
  · obtain ⟨rfl, rfl⟩ := ht.c (show (0 : Int) < 3 by decide)
    exact m51_0 op a b 0 h1 h2 (by omega) S x w hS
  · obtain ⟨rfl, rfl⟩ := ht.c (show (1 : Int) < 3 by decide)
    exact m51_1 op a b 0 h1 h2 (by omega) S x w hS
  · obtain ⟨rfl, rfl⟩ := ht.c (show (2 : Int) < 3 by decide)
    exact m51_2 op a b 0 h1 h2 (by omega) S x w hS
  · exact m51_3 op a b c pre h1 h2 h3 h4 S x w hS
theorem VerTx.len {t : TV} {V : Bs} (h : VerTx t V) (hf : t.Fit) : V.length ≤ 80 + t.pre.length := by
  obtain ⟨q, h1, h2, h3, h4, h5, h6, h7, h8, h9, rfl⟩ := h
  obtain ⟨f1, f2, f3, -⟩ := hf
  have n1 := num_len q.z1 q.a (by omega)
  have n2 := num_len q.z2 q.b (by omega)
  have n3 := num_len q.z3 q.c (by omega)
  have hv : (if q.v then [118] else [] : Bs).length ≤ 1 := by split <;> simp
  have hw1 := (wild_X h6).2.2
  have hw2 : (ptext q.w2).length ≤ 2 := by
    cases e : q.w2 with
    | none => simp [ptext]
    | some y => have := (wild_X (h7 y e)).2.2; simp [ptext]; omega
  have hw3 : (ptext q.w3).length ≤ 2 := by
    cases e : q.w3 with
    | none => simp [ptext]
    | some y => have := (wild_X (h8 y e)).2.2; simp [ptext]; omega
  have hp := gtext_len 45 (pgrp q.pre)
  have hm := gtext_len 43 (mgrp q.mt)
  rw [gpre_pgrp] at hp
  have hm2 : (gpre (mgrp q.mt)).length ≤ 4 := by cases q.mt <;> simp [mgrp, gpre, dots]
  have h5' := congrArg List.length h5
  have hz : ∀ o, gtext o none = [] := fun o => rfl
  unfold GT.ver
  split <;> simp only [Ver.text, List.length_append, hz, List.length_nil, show ∀ y : Bs, (ptext (some y)).length = y.length + 1 from fun y => by simp [ptext]] <;> omega
def blankB (b : Bs) : Prop := b = [] ∨ b = [32] ∨ b = [32, 32] ∨ b = [9]
def brow8 : Obj := .cells #[.string ⟨#[]⟩, .string ⟨#[]⟩, .string ⟨#[]⟩, .string ⟨#[32]⟩, .string ⟨#[32]⟩, .string ⟨#[32]⟩, .string ⟨#[32, 32]⟩, .string ⟨#[9]⟩] 9 (0, 0)
theorem b8cell {W : World} {P q : Nat} (h : W.heap[P]? = some brow8) (hq : q < 8) : ∃ m : Bs, blankB m ∧ W.cell? ⟨P, q, none⟩ = some (.string (bytesOf m)) := by
  have h' : q = 0 ∨ q = 1 ∨ q = 2 ∨ q = 3 ∨ q = 4 ∨ q = 5 ∨ q = 6 ∨ q = 7 := by omega
  unfold brow8 at h
  rcases h' with rfl | rfl | rfl | rfl | rfl | rfl | rfl | rfl
  all_goals first
    | exact ⟨[], .inl rfl, cell_of_row _ _ _ _ _ _ h⟩
    | exact ⟨[32], .inr (.inl rfl), cell_of_row _ _ _ _ _ _ h⟩
    | exact ⟨[32, 32], .inr (.inr (.inl rfl)), cell_of_row _ _ _ _ _ _ h⟩
    | exact ⟨[9], .inr (.inr (.inr rfl)), cell_of_row _ _ _ _ _ _ h⟩
theorem blankB.len {b : Bs} (h : blankB b) : b.length ≤ 2 := by rcases h with rfl | rfl | rfl | rfl <;> decide
theorem blankB.ws {b : Bs} (h : blankB b) : ∀ y ∈ b, ws y = true := by rcases h with rfl | rfl | rfl | rfl <;> decide
theorem spell_len (op : Int) : 0 < (spell op).length ∧ (spell op).length ≤ 2 := by unfold spell; (repeat' split) <;> decide
theorem spell_blen {op : Int} {s : Bs} (h : s ∈ spell op) : s.length ≤ 2 := by
  have ho := spell_ok h
  simp only [opTexts, List.mem_cons, List.not_mem_nil, or_false] at ho
  rcases ho with e | e | e | e | e | e | e | e | e | e | e | e <;> rw [e] <;> decide
theorem spcell {W : World} {P q : Nat} {op : Int} (h : W.heap[P]? = some (.cells ((spell op).map fun s => Value.string (bytesOf s)).toArray 9 (0, 0))) (hq : q < (spell op).length) : ∃ o : Bs, o ∈ spell op ∧ W.cell? ⟨P, q, none⟩ = some (.string (bytesOf o)) := by
  refine ⟨(spell op)[q], List.getElem_mem hq, ?_⟩
  rw [cell_of_row _ _ _ _ _ _ h]
  simp [hq]
/-- what the writer's world keeps: the style, and what lies below -/
structure ST (w : World) (S : Nat) (W : World) : Prop where
  s : ∃ x : Int, W.heap[S]? = some (.cells #[.int .u64 x] 74 (0, 0))
  b : Below S w W
  l : w.heap.size ≤ W.heap.size ∧ S < w.heap.size
theorem ST.keep {w : World} {S : Nat} {W W' : World} (h : ST w S W) (hb : Below W.heap.size W W') : ST w S W' := by
  obtain ⟨x, hx⟩ := h.s
  have hl := h.l
  exact ⟨⟨x, (hb.block S (Array.getElem?_eq_some_iff.1 hx).1).trans hx⟩, h.b.trans (hb.mono (by omega)), by have := hb.size; omega⟩
theorem ST.put {w : World} {S : Nat} {W : World} (h : ST w S W) (y : Int) : ST w S (W.setCell ⟨S, 0, none⟩ (.int .u64 y)) := by
  obtain ⟨x, hx⟩ := h.s
  have hl := h.l
  exact ⟨⟨y, heap_setCell_same _ _ 0 _ _ _ hx⟩, h.b.setCell (p := ⟨S, 0, none⟩) (Nat.le_refl _) _, by simp; exact hl⟩
theorem ST.step {w : World} {S : Nat} {W W' : World} (h : ST w S W) (hb : Below S W W') (hs : ∃ y : Int, W'.heap[S]? = some (.cells #[.int .u64 y] 74 (0, 0))) : ST w S W' := by
  have hl := h.l
  exact ⟨hs, h.b.trans hb, by have := hb.size; omega⟩
set_option maxHeartbeats 8000000 in
theorem m31 (t : TV) (ht : t.Good) (hf : t.Fit) (S : Nat) (x : Int) (w : World) (hS : w.heap[S]? = some (.cells #[.int .u64 x] 74 (0, 0))) :
    Calls Tryz.prog 35 #[t.val, .pointer (some ⟨S, 0, none⟩)] w fun e w' => ∃ o bl V : Bs, e = .returned (.tuple #[.string (bytesOf (o ++ (bl ++ V))), .string (bytesOf (o ++ V))]) ∧ o ∈ spell t.op ∧ blankB bl ∧ (o = [] → bl = []) ∧ VerTx t V ∧ Below S w w' ∧ ∃ y : Int, w'.heap[S]? = some (.cells #[.int .u64 y] 74 (0, 0)) := by
  have hSl := (Array.getElem?_eq_some_iff.1 hS).1
  obtain ⟨op, g, a, b, c, pre⟩ := t
  have HG := Lib.hid (And.intro ht hf)
  obtain ⟨o0, o8⟩ := ht.op
  have H51 := Lib.hid (fun S x w hS => m51 ⟨op, g, a, b, c, pre⟩ ht hf S x w hS)
  have H0 : ST w S (w.alloc (.cells #[.int .i64 op, .int .i64 g, .int .u64 a, .int .u64 b, .int .u64 c, .string (bytesOf pre)] 36)) := by
    have := ST.keep (w := w) (S := S) ⟨⟨x, hS⟩, Below.refl _ _, Nat.le_refl _, hSl⟩ ((Below.refl _ w).alloc (Nat.le_refl _) (.cells #[.int .i64 op, .int .i64 g, .int .u64 a, .int .u64 b, .int .u64 c, .string (bytesOf pre)] 36))
    exact this
  have hT := heap_alloc_new w (.cells #[.int .i64 op, .int .i64 g, .int .u64 a, .int .u64 b, .int .u64 c, .string (bytesOf pre)] 36 (0, 0))
  unfold TV.val at *
  simp only at *
  clear ht hf hS
  go_enter Tryz.func35, Tryz.ntmps35
  go_upto_region 1 with fail
  generalize w.alloc (.cells #[.int .i64 op, .int .i64 g, .int .u64 a, .int .u64 b, .int .u64 c, .string (bytesOf pre)] 36) = w0 at *
  have hTS : w.heap.size ≠ S := by omega
  generalize w.heap.size = T at *
  have q0 : w0.cell? ⟨T, 0, none⟩ = some (.int .i64 op) := cell_of_row _ _ 0 _ _ _ hT
  have HM := Lib.hid (m50 op o0 o8 w0)
  obtain ⟨n1, n2⟩ := spell_len op
  go_upto_region 2 with (go_at_call 16; refine HM.out.mono ?_; rintro e w1 ⟨rfl, hw1⟩; have HW1 := Lib.hid hw1; clear hw1)
  have hb1 : Below w0.heap.size w0 w1 := by rw [HW1.out]; exact (Below.refl _ _).alloc (Nat.le_refl _) _
  have H1 := H0.keep hb1
  have hr1 : w1.heap[w0.heap.size]? = some (.cells ((spell op).map fun s => Value.string (bytesOf s)).toArray 9 (0, 0)) := by rw [HW1.out]; exact heap_alloc_new w0 _
  have hT1 : w1.heap[T]? = _ := (hb1.block T (Array.getElem?_eq_some_iff.1 hT).1).trans hT
  have hPS : w0.heap.size ≠ S := by have := H0.l; omega
  generalize w0.heap.size = P at *
  obtain ⟨N, hN⟩ : ∃ N, N = (spell op).length := ⟨_, rfl⟩
  rw [← hN] at n1 n2 ⊢
  have HN := Lib.hid hN
  obtain ⟨x1, hx1⟩ := H1.s
  have HM2 := Lib.hid (m17 S x1 N (by omega) (by omega) _ hx1)
  have HPT := Lib.hid (fun y => H1.put y)
  have HRW := Lib.hid (fun y : Int => (show (w1.setCell ⟨S, 0, none⟩ (.int .u64 y)).heap[P]? = w1.heap[P]? from heap_setCell_other _ _ _ _ hPS).trans hr1)
  have HTW := Lib.hid (fun y : Int => (show (w1.setCell ⟨S, 0, none⟩ (.int .u64 y)).heap[T]? = w1.heap[T]? from heap_setCell_other _ _ _ _ hTS).trans hT1)
  clear H0 H1 hr1 hT1 hx1 hT q0 HM HW1 hb1 hN
  go_upto_region 3 with (go_at_call 21; refine HM2.out.mono ?_; rintro e w2 ⟨q, y, rfl, hq, hw⟩; have H2 := HPT.out y; have hr2 := HRW.out y; have hT2 := HTW.out y; rw [← hw] at H2 hr2 hT2; obtain ⟨o, ho, hc⟩ := spcell hr2 (by rw [← HN.out]; exact hq); have hqi : (q : Int) < N := (by omega); clear hw hr2)
  have HO := Lib.hid ho
  have zo : (bytesOf o).size ≤ 2 := by rw [bytesOf_size]; exact spell_blen ho
  have e1 := bytesOf_toList o
  clear ho HPT HRW HTW HM2
  obtain ⟨x2, hx2⟩ := H2.s
  by_cases hp : o = []
  · have d5 : (o == ([] : Bs)) = true := by rw [hp]; rfl
    have HPP := Lib.hid hp
    clear hp
    have HM := Lib.hid (H51.out S x2 w2 hx2)
    have HB := Lib.hid H2
    clear hx2 H2
    have q0 : w2.cell? ⟨T, 0, none⟩ = some (.int .i64 op) := cell_of_row _ _ 0 _ _ _ hT2
    have q1 : w2.cell? ⟨T, 1, none⟩ = some (.int .i64 g) := cell_of_row _ _ 1 _ _ _ hT2
    have q2 : w2.cell? ⟨T, 2, none⟩ = some (.int .u64 a) := cell_of_row _ _ 2 _ _ _ hT2
    have q3 : w2.cell? ⟨T, 3, none⟩ = some (.int .u64 b) := cell_of_row _ _ 3 _ _ _ hT2
    have q4 : w2.cell? ⟨T, 4, none⟩ = some (.int .u64 c) := cell_of_row _ _ 4 _ _ _ hT2
    have q5 : w2.cell? ⟨T, 5, none⟩ = some (.string (bytesOf pre)) := cell_of_row _ _ 5 _ _ _ hT2
    clear hT2
    go_upto_region 6 with (go_at_call 52; refine HM.out.mono ?_; rintro e w3 ⟨V, rfl, hV, hb, hs⟩; have H3 := HB.out.step hb hs; have zV : (bytesOf V).size ≤ 2147483800 := (by rw [bytesOf_size]; have h1 := hV.len HG.out.2; have h2 : pre.length ≤ 2147483647 := HG.out.2.2.2.2; simp only at h1; omega); have HF := Lib.hid (And.intro hV H3); clear hV hb hs H3)
    go_wp2
    go_ret2
    refine ⟨o, [], V, ?_, HO.out, Or.inl rfl, fun _ => rfl, HF.out.1, HF.out.2.b, HF.out.2.s⟩
    rw [HPP.out]
    simp only [show (⟨#[]⟩ : ByteArray) = bytesOf [] from rfl, bytes_add, List.nil_append]
    rfl
  · have d5 : (o == ([] : Bs)) = false := by cases o with | nil => exact absurd rfl hp | cons y l => rfl
    have HPP := Lib.hid hp
    clear hp
    go_upto_region 4 with fail
    have H1 := H2.keep ((Below.refl _ _).alloc (Nat.le_refl _) brow8)
    have hrow := heap_alloc_new w2 brow8
    have hP2 : w2.heap.size ≠ S := by have := H2.l; omega
    have hTl : T < w2.heap.size := (Array.getElem?_eq_some_iff.1 hT2).1
    have hT3 : (w2.alloc brow8).heap[T]? = _ := (((Below.refl _ w2).alloc (Nat.le_refl _) brow8).block T hTl).trans hT2
    obtain ⟨x1, hx1⟩ := H1.s
    unfold brow8 at H1 hrow hx1 hT3
    have HPT := Lib.hid (fun y => H1.put y)
    have HRW := Lib.hid (fun y : Int => (show ((w2.alloc (.cells #[.string ⟨#[]⟩, .string ⟨#[]⟩, .string ⟨#[]⟩, .string ⟨#[32]⟩, .string ⟨#[32]⟩, .string ⟨#[32]⟩, .string ⟨#[32, 32]⟩, .string ⟨#[9]⟩] 9)).setCell ⟨S, 0, none⟩ (.int .u64 y)).heap[w2.heap.size]? = (w2.alloc (.cells #[.string ⟨#[]⟩, .string ⟨#[]⟩, .string ⟨#[]⟩, .string ⟨#[32]⟩, .string ⟨#[32]⟩, .string ⟨#[32]⟩, .string ⟨#[32, 32]⟩, .string ⟨#[9]⟩] 9)).heap[w2.heap.size]? from heap_setCell_other _ _ _ _ hP2).trans hrow)
    have HTW := Lib.hid (fun y : Int => (show ((w2.alloc (.cells #[.string ⟨#[]⟩, .string ⟨#[]⟩, .string ⟨#[]⟩, .string ⟨#[32]⟩, .string ⟨#[32]⟩, .string ⟨#[32]⟩, .string ⟨#[32, 32]⟩, .string ⟨#[9]⟩] 9)).setCell ⟨S, 0, none⟩ (.int .u64 y)).heap[T]? = (w2.alloc (.cells #[.string ⟨#[]⟩, .string ⟨#[]⟩, .string ⟨#[]⟩, .string ⟨#[32]⟩, .string ⟨#[32]⟩, .string ⟨#[32]⟩, .string ⟨#[32, 32]⟩, .string ⟨#[9]⟩] 9)).heap[T]? from heap_setCell_other _ _ _ _ hTS).trans hT3)
    have HM2 := Lib.hid (m17 S x1 8 (by omega) (by omega) _ hx1)
    clear H1 H2 hrow hx1 hx2 hT2 hT3
    go_upto_region 5 with (go_at_call 21; refine HM2.out.mono ?_; rintro e w3 ⟨q, y, rfl, hq, hw⟩; have H2 := HPT.out y; have hr2 := HRW.out y; have hT2 := HTW.out y; rw [← hw] at H2 hr2 hT2; obtain ⟨m, hmb, hm⟩ := b8cell hr2 hq; have hqi : (q : Int) < 8 := (by omega); have zm : (bytesOf m).size ≤ 2 := (by rw [bytesOf_size]; exact hmb.len); have HMB := Lib.hid hmb; clear hw hr2 hmb)
    obtain ⟨x3, hx3⟩ := H2.s
    have HM := Lib.hid (H51.out S x3 w3 hx3)
    have HB := Lib.hid H2
    clear hx3 H2 HPT HRW HTW HM2
    have q0 : w3.cell? ⟨T, 0, none⟩ = some (.int .i64 op) := cell_of_row _ _ 0 _ _ _ hT2
    have q1 : w3.cell? ⟨T, 1, none⟩ = some (.int .i64 g) := cell_of_row _ _ 1 _ _ _ hT2
    have q2 : w3.cell? ⟨T, 2, none⟩ = some (.int .u64 a) := cell_of_row _ _ 2 _ _ _ hT2
    have q3 : w3.cell? ⟨T, 3, none⟩ = some (.int .u64 b) := cell_of_row _ _ 3 _ _ _ hT2
    have q4 : w3.cell? ⟨T, 4, none⟩ = some (.int .u64 c) := cell_of_row _ _ 4 _ _ _ hT2
    have q5 : w3.cell? ⟨T, 5, none⟩ = some (.string (bytesOf pre)) := cell_of_row _ _ 5 _ _ _ hT2
    clear hT2
    go_upto_region 6 with (go_at_call 52; refine HM.out.mono ?_; rintro e w4 ⟨V, rfl, hV, hb, hs⟩; have H3 := HB.out.step hb hs; have zV : (bytesOf V).size ≤ 2147483800 := (by rw [bytesOf_size]; have h1 := hV.len HG.out.2; have h2 : pre.length ≤ 2147483647 := HG.out.2.2.2.2; simp only at h1; omega); have HF := Lib.hid (And.intro hV H3); clear hV hb hs H3)
    have zom : (bytesOf o ++ bytesOf m).size ≤ 4 := by rw [ByteArray.size_append]; omega
    go_wp2
    go_ret2
    refine ⟨o, m, V, ?_, HO.out, HMB.out, fun h => absurd h HPP.out, HF.out.1, HF.out.2.b, HF.out.2.s⟩
    simp [bytes_add]
end Go.Proofs.YthejepmnnpmdmaaGreatDoor.Sv
end
section
set_option linter.unusedVariables false
set_option linter.unusedSimpArgs false
/- ListText -/
namespace Go.Proofs.YthejepmnnpmdmaaGreatDoor.Sv
open Go Go.RowKit Rx
set_option maxRecDepth 100000
/-- a term in one of its ways -/
structure GTOf (t : TV) (q : GT) : Prop where
  g : q.g = t.g.toNat
  a : q.a = t.a
  b : q.b = t.b
  c : q.c = t.c
  pre : q.pre = t.pre
  w1 : wildB q.w1
  w2 : ∀ y, q.w2 = some y → wildB y
  w3 : ∀ y, q.w3 = some y → wildB y
  w23 : q.g ≤ 1 → q.w2 = none → q.w3 = none
  op : q.op ∈ spell t.op
  bl : blankB q.blank
  ob : q.op = [] → q.blank = []
theorem gtof_of {t : TV} {o bl V : Bs} (ho : o ∈ spell t.op) (hb : blankB bl) (hob : o = [] → bl = []) (hv : VerTx t V) : ∃ q : GT, GTOf t q ∧ q.op = o ∧ q.blank = bl ∧ q.ver.text = V ∧ q.tm.text = o ++ (bl ++ V) := by
  obtain ⟨q, h1, h2, h3, h4, h5, h6, h7, h8, h9, rfl⟩ := hv
  exact ⟨{ q with op := o, blank := bl }, ⟨h1, h2, h3, h4, h5, h6, h7, h8, h9, ho, hb, hob⟩, rfl, rfl, rfl, rfl⟩
theorem GTOf.ver {t : TV} {q : GT} (h : GTOf t q) : VerTx t q.ver.text := ⟨q, h.g, h.a, h.b, h.c, h.pre, h.w1, h.w2, h.w3, h.w23, rfl⟩
theorem GTOf.ok {t : TV} {q : GT} (h : GTOf t q) (ht : t.Good) (hf : t.Fit) (hl : t.pre.length ≤ 64) : q.Ok := by
  obtain ⟨f1, f2, f3, -⟩ := hf
  exact ⟨spell_ok h.op, h.bl.ws, h.ob, h.bl.len, by rw [h.a]; exact f1, by rw [h.b]; exact f2, by rw [h.c]; exact f3, h.w1, h.w2, h.w3, h.w23, by rw [h.pre]; exact ht.pre, by rw [h.pre]; exact hl⟩
theorem GTOf.len {t : TV} {q : GT} (h : GTOf t q) (hf : t.Fit) : q.tm.text.length ≤ 84 + t.pre.length ∧ q.ver.text.length ≤ 80 + t.pre.length := by
  have h1 := h.ver.len hf
  have h2 := spell_blen h.op
  have h3 := h.bl.len
  refine ⟨?_, h1⟩
  show (q.op ++ (q.blank ++ q.ver.text)).length ≤ _
  simp; omega
def sepB (s : Sep) : Prop := s = ⟨[], some [32]⟩ ∨ s = ⟨[32], none⟩ ∨ s = ⟨[], some []⟩ ∨ s = ⟨[32, 32], none⟩ ∨ s = ⟨[32], some [32]⟩ ∨ s = ⟨[9], none⟩
theorem sepB.ok {s : Sep} (h : sepB s) : s.Ok ∧ (lead s).length ≤ 10 ∧ s.text.length ≤ 3 := by
  rcases h with rfl | rfl | rfl | rfl | rfl | rfl <;> refine ⟨⟨?_, ?_, ?_⟩, ?_, ?_⟩ <;> simp [lead, Sep.text, ctext] <;> decide
/-- a list of terms in one of its ways -/
structure GLOf (l : List TV) (g : GL) : Prop where
  B : g.B = []
  R : g.R = []
  len : l.length = g.l.length + 1
  t : ∀ (i : Nat) (t : TV) (q : GT), l[i]? = some t → (g.t :: g.l.map (·.2))[i]? = some q → GTOf t q
  s : ∀ y ∈ g.l, sepB y.1
theorem GLOf.one {t : TV} {q : GT} (h : GTOf t q) : GLOf [t] ⟨[], q, [], []⟩ := by
  refine ⟨rfl, rfl, rfl, fun i t' q' h1 h2 => ?_, fun y hy => by cases hy⟩
  cases i with
  | zero =>
    obtain rfl : t = t' := by simpa using h1
    obtain rfl : q = q' := by simpa using h2
    exact h
  | succ i => simp at h1
theorem GLOf.snoc {l : List TV} {g : GL} (h : GLOf l g) {t : TV} {q : GT} {s : Sep} (hq : GTOf t q) (hs : sepB s) : GLOf (l ++ [t]) { g with l := g.l ++ [(s, q)] } := by
  refine ⟨h.B, h.R, by simp [h.len], fun i t' q' h1 h2 => ?_, fun y hy => ?_⟩
  · by_cases hi : i < l.length
    · rw [List.getElem?_append_left hi] at h1
      refine h.t i t' q' h1 ?_
      have e : (g.t :: (g.l ++ [(s, q)]).map (·.2)) = (g.t :: g.l.map (·.2)) ++ [q] := by simp
      simp only at h2
      rw [e, List.getElem?_append_left (by have := h.len; simp; omega)] at h2
      exact h2
    · have hi2 : i = l.length := by
        have := (List.getElem?_eq_some_iff.1 h1).1
        simp at this; omega
      subst hi2
      obtain rfl : t = t' := by simpa using h1
      have e : (g.t :: (g.l ++ [(s, q)]).map (·.2)) = (g.t :: g.l.map (·.2)) ++ [q] := by simp
      simp only at h2
      rw [e, List.getElem?_append_right (by have := h.len; simp; omega)] at h2
      have e2 : l.length - (g.t :: g.l.map (·.2)).length = 0 := by have := h.len; simp; omega
      rw [e2] at h2
      obtain rfl : q = q' := by simpa using h2
      exact hq
  · rcases List.mem_append.1 hy with hy | hy
    · exact h.s y hy
    · obtain rfl := List.mem_singleton.1 hy
      exact hs
theorem gl_snoc_text {g : GL} (hR : g.R = []) (s : Sep) (q : GT) : ({ g with l := g.l ++ [(s, q)] } : GL).text = g.text ++ (s.text ++ q.tm.text) := by
  simp [GL.text, GL.rest, GL.hd, hR, ltail]
theorem gl_one_text (q : GT) : (⟨[], q, [], []⟩ : GL).text = q.tm.text := by simp [GL.text, GL.rest, GL.hd, ltail, Sep.text, ctext]
/-- the text so far -/
def LTx (l : List TV) (k : Nat) (X : Bs) : Prop := (k = 0 ∧ X = []) ∨ (0 < k ∧ ∃ g, GLOf (l.take k) g ∧ X = g.text)
def srow8 : Obj := .cells #[.string ⟨#[44, 32]⟩, .string ⟨#[32]⟩, .string ⟨#[44]⟩, .string ⟨#[44, 32]⟩, .string ⟨#[32]⟩, .string ⟨#[32, 32]⟩, .string ⟨#[32, 44, 32]⟩, .string ⟨#[9]⟩] 9 (0, 0)
theorem s8cell {W : World} {P q : Nat} (h : W.heap[P]? = some srow8) (hq : q < 8) : ∃ m : Sep, sepB m ∧ W.cell? ⟨P, q, none⟩ = some (.string (bytesOf m.text)) := by
  have h' : q = 0 ∨ q = 1 ∨ q = 2 ∨ q = 3 ∨ q = 4 ∨ q = 5 ∨ q = 6 ∨ q = 7 := by omega
  unfold srow8 at h
  rcases h' with rfl | rfl | rfl | rfl | rfl | rfl | rfl | rfl
  all_goals first
    | exact ⟨⟨[], some [32]⟩, .inl rfl, cell_of_row _ _ _ _ _ _ h⟩
    | exact ⟨⟨[32], none⟩, .inr (.inl rfl), cell_of_row _ _ _ _ _ _ h⟩
    | exact ⟨⟨[], some []⟩, .inr (.inr (.inl rfl)), cell_of_row _ _ _ _ _ _ h⟩
    | exact ⟨⟨[32, 32], none⟩, .inr (.inr (.inr (.inl rfl))), cell_of_row _ _ _ _ _ _ h⟩
    | exact ⟨⟨[32], some [32]⟩, .inr (.inr (.inr (.inr (.inl rfl)))), cell_of_row _ _ _ _ _ _ h⟩
    | exact ⟨⟨[9], none⟩, .inr (.inr (.inr (.inr (.inr rfl)))), cell_of_row _ _ _ _ _ _ h⟩
theorem m31' (t : TV) (ht : t.Good) (hf : t.Fit) (S : Nat) (x : Int) (w : World) (hS : w.heap[S]? = some (.cells #[.int .u64 x] 74 (0, 0))) :
    Calls Tryz.prog 35 #[t.val, .pointer (some ⟨S, 0, none⟩)] w fun e w' => ∃ (q : GT) (T : Bs), e = .returned (.tuple #[.string (bytesOf q.tm.text), .string (bytesOf T)]) ∧ GTOf t q ∧ T.length ≤ 84 + t.pre.length ∧ Below S w w' ∧ ∃ y : Int, w'.heap[S]? = some (.cells #[.int .u64 y] 74 (0, 0)) := by
  refine (m31 t ht hf S x w hS).mono ?_
  rintro e w' ⟨o, bl, V, rfl, h1, h2, h3, h4, h5, h6⟩
  obtain ⟨q, g1, g2, g3, g4, g5⟩ := gtof_of h1 h2 h3 h4
  refine ⟨q, o ++ V, by rw [g5], g1, ?_, h5, h6⟩
  have := h4.len hf
  have := spell_blen h1
  simp; omega
set_option maxHeartbeats 8000000 in
theorem m18 (v : Value) (ts : List TV) (n : Nat) (S : Nat) (x : Int) (w : World) (hr : RowIn n w v ts) (hn : n ≤ S) (hne : ts ≠ []) (hl : ts.length ≤ 1000) (hg : ∀ t ∈ ts, t.Good ∧ t.Fit) (hS : w.heap[S]? = some (.cells #[.int .u64 x] 74 (0, 0))) :
    Calls Tryz.prog 22 #[v, .pointer (some ⟨S, 0, none⟩)] w fun e w' => ∃ (g : GL) (T : Bs), e = .returned (.tuple #[.string (bytesOf g.text), .string (bytesOf T)]) ∧ GLOf ts g ∧ g.text.length ≤ ts.length * 2147483800 ∧ T.length ≤ ts.length * 2147483800 ∧ Below S w w' ∧ ∃ y : Int, w'.heap[S]? = some (.cells #[.int .u64 y] 74 (0, 0)) := by
  have hSl := (Array.getElem?_eq_some_iff.1 hS).1
  obtain ⟨a, cap, rfl, hc⟩ := hr
  have H0 : ST w S w := ⟨⟨x, hS⟩, Below.refl _ _, Nat.le_refl _, hSl⟩
  have HC := Lib.hid (And.intro hc (And.intro hn (And.intro hne (And.intro hg H0))))
  clear hc hn hne hg H0 hS
  have hlen : (ts.length : Int) ≤ 1000 := by omega
  go_enter Tryz.func22, Tryz.ntmps22
  go_wp2
  go_loopw [4, 5, 12] (fun xv tv kv W => ∃ (k : Nat) (X T : Bs), kv = .int .i64 k ∧ xv = .string (bytesOf X) ∧ tv = .string (bytesOf T) ∧ k ≤ ts.length ∧ Hid (LTx ts k X ∧ X.length ≤ k * 2147483800 ∧ T.length ≤ k * 2147483800 ∧ ST w S W)) (fun _ _ kv _ => 3000 - (intOf kv).toNat)
  case atStart => exact ⟨0, [], [], rfl, rfl, rfl, Nat.zero_le _, Lib.hid ⟨.inl ⟨rfl, rfl⟩, by simp, by simp, HC.out.2.2.2.2⟩⟩
  case round =>
    obtain ⟨k, X, T, rfl, rfl, rfl, hk, HW⟩ := hrel
    by_cases c : k < ts.length
    · have c1 : (k : Int) < (ts.length : Int) := by omega
      obtain ⟨t, ht⟩ : ∃ t, ts[k]? = some t := ⟨_, List.getElem?_eq_getElem c⟩
      obtain ⟨B, off, rfl, hB, hq⟩ := HC.out.1 k t ht
      obtain ⟨q0, q1, q2, q3, q4, q5⟩ := hq.keep hB (HW.out.2.2.2.b.mono HC.out.2.1)
      have hgf := HC.out.2.2.2.1 t (List.mem_of_getElem? ht)
      have HT := Lib.hid (And.intro ht hgf)
      have H31 := Lib.hid (fun S x w hS => m31' t hgf.1 hgf.2 S x w hS)
      clear ht hgf hq
      obtain ⟨op, g, a, b, cc, pre⟩ := t
      unfold TV.val at H31
      simp only at *
      go_upto_region 4 with fail
      have H1 := HW.out.2.2.2.keep ((Below.refl _ wr).alloc (Nat.le_refl _) (.cells #[.int .i64 op, .int .i64 g, .int .u64 a, .int .u64 b, .int .u64 cc, .string (bytesOf pre)] 36))
      have hT := heap_alloc_new wr (.cells #[.int .i64 op, .int .i64 g, .int .u64 a, .int .u64 b, .int .u64 cc, .string (bytesOf pre)] 36)
      have hTS : wr.heap.size ≠ S := by have := HW.out.2.2.2.l; omega
      generalize wr.alloc (.cells #[.int .i64 op, .int .i64 g, .int .u64 a, .int .u64 b, .int .u64 cc, .string (bytesOf pre)] 36) = w1 at *
      generalize wr.heap.size = P at *
      clear q0 q1 q2 q3 q4 q5
      have zX : (bytesOf X).size ≤ k * 2147483800 := by rw [bytesOf_size]; exact HW.out.2.1
      have zT : (bytesOf T).size ≤ k * 2147483800 := by rw [bytesOf_size]; exact HW.out.2.2.1
      rcases Nat.eq_zero_or_pos k with rfl | hk0
      · obtain ⟨x1, hx1⟩ := H1.s
        have HM := Lib.hid (H31.out S x1 w1 hx1)
        have HB := Lib.hid H1
        clear hx1 H1
        have q0 : w1.cell? ⟨P, 0, none⟩ = some (.int .i64 op) := cell_of_row _ _ 0 _ _ _ hT
        have q1 : w1.cell? ⟨P, 1, none⟩ = some (.int .i64 g) := cell_of_row _ _ 1 _ _ _ hT
        have q2 : w1.cell? ⟨P, 2, none⟩ = some (.int .u64 a) := cell_of_row _ _ 2 _ _ _ hT
        have q3 : w1.cell? ⟨P, 3, none⟩ = some (.int .u64 b) := cell_of_row _ _ 3 _ _ _ hT
        have q4 : w1.cell? ⟨P, 4, none⟩ = some (.int .u64 cc) := cell_of_row _ _ 4 _ _ _ hT
        have q5 : w1.cell? ⟨P, 5, none⟩ = some (.string (bytesOf pre)) := cell_of_row _ _ 5 _ _ _ hT
        clear hT
        go_upto_region 8 with (go_at_call 35; refine HM.out.mono ?_; rintro e w4 ⟨q, T2, rfl, hq, hl2, hb, hs⟩; have H4 := HB.out.step hb hs; have hpl : pre.length ≤ 2147483647 := HT.out.2.2.2.2.2; have zq : (bytesOf q.tm.text).size ≤ 2147483731 := (by rw [bytesOf_size]; have := (hq.len HT.out.2.2).1; simp only at this; omega); have zT2 : (bytesOf T2).size ≤ 2147483731 := (by rw [bytesOf_size]; omega); have HF := Lib.hid (And.intro hq H4); clear hq hl2 hb hs H4)
        go_wp2
        go_roundw
        case measure => simp [intOf]
        case rel =>
          have hX : X = [] := by rcases HW.out.1 with ⟨-, h⟩ | ⟨h, -⟩; exact h; omega
          have hT0 : T = [] := by have := HW.out.2.2.1; simpa using this
          obtain ⟨z1, z2⟩ := HF.out
          refine ⟨1, q.tm.text, T2, rfl, ?_, ?_, by omega, Lib.hid ⟨.inr ⟨by omega, _, ?_, (gl_one_text q).symm⟩, by rw [bytesOf_size] at zq; omega, by rw [bytesOf_size] at zT2; omega, z2⟩⟩
          · rw [hX, bytes_add]; rfl
          · rw [hT0, bytes_add]; rfl
          · have : ts.take 1 = [⟨op, g, a, b, cc, pre⟩] := by rw [List.take_succ_eq_append_getElem c]; have := HT.out.1; simp [List.getElem?_eq_getElem c] at this; simp [this]
            rw [this]
            exact GLOf.one z1
      · have c2 : (0 : Int) < (k : Int) := by omega
        go_upto_region 5 with fail
        have H2 := H1.keep ((Below.refl _ _).alloc (Nat.le_refl _) srow8)
        have hrow := heap_alloc_new w1 srow8
        have hP2 : w1.heap.size ≠ S := by have := H1.l; omega
        have hTl : P < w1.heap.size := (Array.getElem?_eq_some_iff.1 hT).1
        have hT3 : (w1.alloc srow8).heap[P]? = _ := (((Below.refl _ w1).alloc (Nat.le_refl _) srow8).block P hTl).trans hT
        obtain ⟨x1, hx1⟩ := H2.s
        unfold srow8 at H2 hrow hx1 hT3
        have HPT := Lib.hid (fun y => H2.put y)
        have HRW := Lib.hid (fun y : Int => (show ((w1.alloc (.cells #[.string ⟨#[44, 32]⟩, .string ⟨#[32]⟩, .string ⟨#[44]⟩, .string ⟨#[44, 32]⟩, .string ⟨#[32]⟩, .string ⟨#[32, 32]⟩, .string ⟨#[32, 44, 32]⟩, .string ⟨#[9]⟩] 9)).setCell ⟨S, 0, none⟩ (.int .u64 y)).heap[w1.heap.size]? = (w1.alloc (.cells #[.string ⟨#[44, 32]⟩, .string ⟨#[32]⟩, .string ⟨#[44]⟩, .string ⟨#[44, 32]⟩, .string ⟨#[32]⟩, .string ⟨#[32, 32]⟩, .string ⟨#[32, 44, 32]⟩, .string ⟨#[9]⟩] 9)).heap[w1.heap.size]? from heap_setCell_other _ _ _ _ hP2).trans hrow)
        have HTW := Lib.hid (fun y : Int => (show ((w1.alloc (.cells #[.string ⟨#[44, 32]⟩, .string ⟨#[32]⟩, .string ⟨#[44]⟩, .string ⟨#[44, 32]⟩, .string ⟨#[32]⟩, .string ⟨#[32, 32]⟩, .string ⟨#[32, 44, 32]⟩, .string ⟨#[9]⟩] 9)).setCell ⟨S, 0, none⟩ (.int .u64 y)).heap[P]? = (w1.alloc (.cells #[.string ⟨#[44, 32]⟩, .string ⟨#[32]⟩, .string ⟨#[44]⟩, .string ⟨#[44, 32]⟩, .string ⟨#[32]⟩, .string ⟨#[32, 32]⟩, .string ⟨#[32, 44, 32]⟩, .string ⟨#[9]⟩] 9)).heap[P]? from heap_setCell_other _ _ _ _ hTS).trans hT3)
        have HM2 := Lib.hid (m17 S x1 8 (by omega) (by omega) _ hx1)
        clear H1 H2 hrow hx1 hT hT3
        go_upto_region 6 with (go_at_call 21; refine HM2.out.mono ?_; rintro e w3 ⟨q, y, rfl, hq, hw⟩; have H2 := HPT.out y; have hr2 := HRW.out y; have hT2 := HTW.out y; rw [← hw] at H2 hr2 hT2; obtain ⟨m, hmb, hm⟩ := s8cell hr2 hq; have hqi : (q : Int) < 8 := (by omega); have zm : (bytesOf m.text).size ≤ 3 := (by rw [bytesOf_size]; exact hmb.ok.2.2); have HMB := Lib.hid hmb; clear hw hr2 hmb)
        obtain ⟨x3, hx3⟩ := H2.s
        have HM := Lib.hid (H31.out S x3 w3 hx3)
        have HB := Lib.hid H2
        clear hx3 H2 HPT HRW HTW HM2
        have q0 : w3.cell? ⟨P, 0, none⟩ = some (.int .i64 op) := cell_of_row _ _ 0 _ _ _ hT2
        have q1 : w3.cell? ⟨P, 1, none⟩ = some (.int .i64 g) := cell_of_row _ _ 1 _ _ _ hT2
        have q2 : w3.cell? ⟨P, 2, none⟩ = some (.int .u64 a) := cell_of_row _ _ 2 _ _ _ hT2
        have q3 : w3.cell? ⟨P, 3, none⟩ = some (.int .u64 b) := cell_of_row _ _ 3 _ _ _ hT2
        have q4 : w3.cell? ⟨P, 4, none⟩ = some (.int .u64 cc) := cell_of_row _ _ 4 _ _ _ hT2
        have q5 : w3.cell? ⟨P, 5, none⟩ = some (.string (bytesOf pre)) := cell_of_row _ _ 5 _ _ _ hT2
        clear hT2
        go_upto_region 8 with (go_at_call 35; refine HM.out.mono ?_; rintro e w4 ⟨q, T2, rfl, hq, hl2, hb, hs⟩; have H4 := HB.out.step hb hs; have hpl : pre.length ≤ 2147483647 := HT.out.2.2.2.2.2; have zq : (bytesOf q.tm.text).size ≤ 2147483731 := (by rw [bytesOf_size]; have := (hq.len HT.out.2.2).1; simp only at this; omega); have zT2 : (bytesOf T2).size ≤ 2147483731 := (by rw [bytesOf_size]; omega); have HF := Lib.hid (And.intro hq H4); clear hq hl2 hb hs H4)
        have zXm : (bytesOf X ++ bytesOf m.text).size ≤ k * 2147483800 + 3 := by rw [ByteArray.size_append]; omega
        have zTm : (bytesOf T ++ ⟨#[32]⟩).size ≤ k * 2147483800 + 1 := by rw [ByteArray.size_append]; have : (⟨#[32]⟩ : ByteArray).size = 1 := rfl; omega
        go_wp2
        go_roundw
        case measure => simp [intOf]; omega
        case rel =>
          obtain ⟨z1, z2⟩ := HF.out
          rcases HW.out.1 with ⟨h, -⟩ | ⟨-, gg, hg1, hg2⟩
          · omega
          · refine ⟨k + 1, X ++ (m.text ++ q.tm.text), T ++ ([32] ++ T2), by simp, ?_, ?_, by omega, Lib.hid ⟨.inr ⟨by omega, { gg with l := gg.l ++ [(m, q)] }, ?_, ?_⟩, ?_, ?_, z2⟩⟩
            · simp [← bytes_add, ByteArray.append_assoc]
            · rw [show (⟨#[32]⟩ : ByteArray) = bytesOf [32] from rfl]; simp only [← bytes_add, ByteArray.append_assoc]
            · have : ts.take (k + 1) = ts.take k ++ [⟨op, g, a, b, cc, pre⟩] := by rw [List.take_succ_eq_append_getElem c]; have := HT.out.1; simp [List.getElem?_eq_getElem c] at this; simp [this]
              rw [this]
              exact hg1.snoc z1 HMB.out
            · rw [hg2, gl_snoc_text hg1.R]
            · rw [bytesOf_size] at zX zm zq; simp; omega
            · rw [bytesOf_size] at zT zT2; simp; omega
    · have hkn : k = ts.length := by omega
      subst hkn
      go_wp2
      go_ret2
      rcases HW.out.1 with ⟨h, -⟩ | ⟨-, gg, hg1, hg2⟩
      · exact absurd (List.length_eq_zero_iff.1 h) HC.out.2.2.1
      · rw [List.take_length] at hg1
        refine ⟨gg, T, by rw [hg2]; rfl, hg1, by rw [← hg2]; exact HW.out.2.1, HW.out.2.2.1, HW.out.2.2.2.b, HW.out.2.2.2.s⟩
end Go.Proofs.YthejepmnnpmdmaaGreatDoor.Sv
end
