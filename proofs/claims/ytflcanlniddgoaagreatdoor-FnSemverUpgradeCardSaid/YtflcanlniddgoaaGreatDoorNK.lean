/- a part of the proof: FnSemverUpgrade: for every version the law's function returns true and leaves its argument as it was; no condition is added, the statement is the given tied card. -/
import Derived.Test.YtflcanlniddgoaaGreatDoorNH
import Derived.Test.YtflcanlniddgoaaGreatDoorNJ
import Derived.Test.YtflcanlniddgoaaGreatDoorNG
section
set_option linter.unusedVariables false
set_option linter.unusedSimpArgs false
/- check of one term -/
namespace Go.Proofs.YtflcanlniddgoaaGreatDoor.Sv
open Go Go.RowKit Rx
set_option maxRecDepth 100000
set_option maxHeartbeats 4000000 in
theorem tChkTilde (w : World) (V U C a b c : Nat) (p m o : ByteArray) (a2 b2 c2 : Nat) (p2 m2 o2 : ByteArray) (md d pd inc : Bool) (h : S3 w V U C a b c p m o a2 b2 c2 p2 m2 o2 ⟨#[126]⟩ md d pd w) (hp : p.toList.isEmpty = true) (rel : Bool) (hr : p2.toList.isEmpty = rel) :
    Calls Tryz.prog 45 #[.pointer (some ⟨C, 0, none⟩), .pointer (some ⟨V, 0, none⟩), .bool inc] w fun e w' => ∃ ev, e = .returned (.tuple #[.bool (tildeR a b c a2 b2 c2 rel md pd), ev]) ∧ Below w.heap.size w w' := by
  have H := Lib.hid (tTilde w V U C a b c p m o a2 b2 c2 p2 m2 o2 ⟨#[126]⟩ md d pd inc h hp rel hr)
  obtain ⟨q0, q1, q2, q3, q4, q5, q6, q7, q8, q9, q10, q11, q12, q13, q14, q15, q16, q17⟩ := h
  clear q0 q1 q2 q3 q4 q5 q6 q7 q8 q9 q10 q11 q12 q14 q15 q16 q17 hp hr
  generalize tildeR a b c a2 b2 c2 rel md pd = r at *
  go_enter Tryz.func45, Tryz.ntmps45
  go_wp2_with (go_at_call 72; refine H.out.mono ?_; rintro e w1 ⟨ev, rfl, hb⟩; have HB := Lib.hid hb; clear hb)
  go_ret2
  exact ⟨_, rfl, HB.out⟩
set_option maxHeartbeats 4000000 in
theorem tChkCaret (w : World) (V U C a b c : Nat) (p m o : ByteArray) (a2 b2 c2 : Nat) (p2 m2 o2 : ByteArray) (md d pd inc : Bool) (h : S3 w V U C a b c p m o a2 b2 c2 p2 m2 o2 ⟨#[94]⟩ md d pd w) (hp : p.toList.isEmpty = true) (rel : Bool) (hr : p2.toList.isEmpty = rel) :
    Calls Tryz.prog 45 #[.pointer (some ⟨C, 0, none⟩), .pointer (some ⟨V, 0, none⟩), .bool inc] w fun e w' => ∃ ev, e = .returned (.tuple #[.bool (caretR a b c a2 b2 c2 rel md pd), ev]) ∧ Below w.heap.size w w' := by
  have H := Lib.hid (tCaret w V U C a b c p m o a2 b2 c2 p2 m2 o2 ⟨#[94]⟩ md d pd inc h hp rel hr)
  obtain ⟨q0, q1, q2, q3, q4, q5, q6, q7, q8, q9, q10, q11, q12, q13, q14, q15, q16, q17⟩ := h
  clear q0 q1 q2 q3 q4 q5 q6 q7 q8 q9 q10 q11 q12 q14 q15 q16 q17 hp hr
  generalize caretR a b c a2 b2 c2 rel md pd = r at *
  go_enter Tryz.func45, Tryz.ntmps45
  go_wp2_with (go_at_call 73; refine H.out.mono ?_; rintro e w1 ⟨ev, rfl, hb⟩; have HB := Lib.hid hb; clear hb)
  go_ret2
  exact ⟨_, rfl, HB.out⟩
set_option maxHeartbeats 4000000 in
theorem tChkGt (w : World) (V U C a b c : Nat) (p m o : ByteArray) (a2 b2 c2 : Nat) (p2 m2 o2 : ByteArray) (md d pd inc : Bool) (h : S3 w V U C a b c p m o a2 b2 c2 p2 m2 o2 ⟨#[62]⟩ md d pd w) (hp : p.toList.isEmpty = true) (rel : Bool) (hr : p2.toList.isEmpty = rel) (hd : d = false) :
    Calls Tryz.prog 45 #[.pointer (some ⟨C, 0, none⟩), .pointer (some ⟨V, 0, none⟩), .bool inc] w fun e w' => ∃ ev, e = .returned (.tuple #[.bool (cmpRel a b c a2 b2 c2 rel == 1), ev]) ∧ Below w.heap.size w w' := by
  have H := Lib.hid (tGt w V U C a b c p m o a2 b2 c2 p2 m2 o2 ⟨#[62]⟩ md d pd inc h hp rel hr hd)
  obtain ⟨q0, q1, q2, q3, q4, q5, q6, q7, q8, q9, q10, q11, q12, q13, q14, q15, q16, q17⟩ := h
  clear q0 q1 q2 q3 q4 q5 q6 q7 q8 q9 q10 q11 q12 q14 q15 q16 q17 hp hr hd
  generalize (cmpRel a b c a2 b2 c2 rel == 1) = r at *
  go_enter Tryz.func45, Tryz.ntmps45
  go_wp2_with (go_at_call 68; refine H.out.mono ?_; rintro e w1 ⟨ev, rfl, hb⟩; have HB := Lib.hid hb; clear hb)
  go_ret2
  exact ⟨_, rfl, HB.out⟩
end Go.Proofs.YtflcanlniddgoaaGreatDoor.Sv
end
section
set_option linter.unusedVariables false
set_option linter.unusedSimpArgs false
/- Check: one list at least holds -/
namespace Go.Proofs.YtflcanlniddgoaaGreatDoor.Sv
open Go Go.RowKit Rx
set_option maxRecDepth 100000
theorem ptrRow_get {Cs : List Nat} {n i C : Nat} (h : Cs[i]? = some C) : (ptrRow Cs n)[i]? = some (ptr C) := by
  have hl := (List.getElem?_eq_some_iff.1 h).1
  unfold ptrRow
  rw [List.getElem?_toArray, List.getElem?_append_left (by simpa using hl), List.getElem?_map, h]
  rfl
/-- what holds of the constraint's blocks -/
structure CS (OR HP : Nat) (Xs : List Nat) (gs : List (List TD)) (VP : World → Prop) (T : Nat) (inc : Bool) (W : World) : Prop where
  r : W.heap[OR]? = some (.cells (rowVals Xs gs).toArray 60 (0, 0))
  p : W.heap[HP]? = some (.cells ((gs.map anyPre).map Value.bool).toArray 4 (0, 0))
  rows : Rows W Xs gs
  v : VP W
  t : W.heap[T]? = some (.cells #[.slice (some ⟨OR, 0, none⟩) gs.length gs.length, .slice (some ⟨HP, 0, none⟩) gs.length gs.length, .bool inc] 50 (0, 0))
theorem CS.keep {OR HP : Nat} {Xs : List Nat} {gs : List (List TD)} {VP : World → Prop} {T : Nat} {inc : Bool} {W W' : World} (hVP : ∀ W W', VP W → Below W.heap.size W W' → VP W') (h : CS OR HP Xs gs VP T inc W) (hb : Below W.heap.size W W') : CS OR HP Xs gs VP T inc W' :=
  ⟨blk hb h.r, blk hb h.p, h.rows.keep hb, hVP _ _ h.v hb, blk hb h.t⟩
set_option maxHeartbeats 4000000 in
theorem t32 {gs : List (List TD)} {OR HP V : Nat} {Xs : List Nat} {inc : Bool} (R : TD → Bool → Bool) (VP : World → Prop) (hVP : ∀ W W', VP W → Below W.heap.size W W' → VP W')
    (hchk : ∀ ts ∈ gs, ∀ t ∈ ts, ∀ C i W, TDAt W C t → VP W → Calls Tryz.prog 45 #[.pointer (some ⟨C, 0, none⟩), .pointer (some ⟨V, 0, none⟩), .bool i] W fun e w' => ∃ ev, e = .returned (.tuple #[.bool (R t i), ev]) ∧ Below W.heap.size W w')
    (hl1 : gs.length ≤ 1000) (hl2 : ∀ ts ∈ gs, ts.length ≤ 1000) (w : World) (hr : w.heap[OR]? = some (.cells (rowVals Xs gs).toArray 60 (0, 0))) (hp : w.heap[HP]? = some (.cells ((gs.map anyPre).map Value.bool).toArray 4 (0, 0)))
    (hrows : Rows w Xs gs) (hv : VP w) :
    Calls Tryz.prog 32 #[.agg #[.slice (some ⟨OR, 0, none⟩) gs.length gs.length, .slice (some ⟨HP, 0, none⟩) gs.length gs.length, .bool inc], .pointer (some ⟨V, 0, none⟩)] w fun e w' =>
      e = .returned (.bool (gs.any fun ts => ts.all fun t => R t (inc || anyPre ts))) ∧ Below w.heap.size w w' := by
  have hal := (Below.refl _ w).alloc (Nat.le_refl _) (.cells #[.slice (some ⟨OR, 0, none⟩) gs.length gs.length, .slice (some ⟨HP, 0, none⟩) gs.length gs.length, .bool inc] 50)
  have H0 : CS OR HP Xs gs VP w.heap.size inc (w.alloc (.cells #[.slice (some ⟨OR, 0, none⟩) gs.length gs.length, .slice (some ⟨HP, 0, none⟩) gs.length gs.length, .bool inc] 50)) :=
    ⟨blk hal hr, blk hal hp, hrows.keep hal, hVP _ _ hv hal, heap_alloc_new w _⟩
  have HV := Lib.hid hVP
  have HC := Lib.hid hchk
  have HL := Lib.hid hl2
  generalize hres : (gs.any fun ts => ts.all fun t => R t (inc || anyPre ts)) = res
  have HRES := Lib.hid hres
  clear hVP hchk hl2 hr hp hrows hv hres
  have hlen : (gs.length : Int) ≤ 1000 := by omega
  go_enter Tryz.func32, Tryz.ntmps32
  go_upto_region 1 with fail
  generalize hw0 : w.alloc (.cells #[.slice (some ⟨OR, 0, none⟩) gs.length gs.length, .slice (some ⟨HP, 0, none⟩) gs.length gs.length, .bool inc] 50) = w0 at *
  clear hw0
  have HB := Lib.hid hal
  clear hal
  generalize w.heap.size = T at H0 ⊢
  have c0 : w0.cell? ⟨T, 0, none⟩ = some (.slice (some ⟨OR, 0, none⟩) gs.length gs.length) := cell_of_row _ _ 0 _ _ _ H0.t
  have HS := Lib.hid H0
  clear H0
  go_wp2
  clear c0
  go_loopw [15] (fun kv W => ∃ (k : Nat), kv = .int .i64 k ∧ Hid (k ≤ gs.length ∧ ((gs.take k).any fun ts => ts.all fun t => R t (inc || anyPre ts)) = false ∧ Below w0.heap.size w0 W)) (fun kv _ => 2000 - (intOf kv).toNat)
  case atStart => exact ⟨0, rfl, Lib.hid ⟨Nat.zero_le _, rfl, Below.refl _ _⟩⟩
  case round =>
    obtain ⟨k, rfl, HK⟩ := hrel
    by_cases c : k < gs.length
    · have c1 : (k : Int) < (gs.length : Int) := by omega
      obtain ⟨ts, hts⟩ : ∃ ts, gs[k]? = some ts := ⟨_, List.getElem?_eq_getElem c⟩
      have hmem : ts ∈ gs := List.mem_of_getElem? hts
      have hcs := HS.out.keep HV.out HK.out.2.2
      obtain ⟨X, hX, hRow⟩ := hcs.rows.get hts
      obtain ⟨Cs, hCs, hTD⟩ := hRow
      have q0 : wr.cell? ⟨OR, k, none⟩ = some (.slice (some ⟨X, 0, none⟩) ts.length ts.length) := by
        rw [cell_of_row _ _ _ _ _ _ hcs.r, List.getElem?_toArray, rowVals_get hX hts]; rfl
      have hn : ts.length ≤ 1000 := HL.out ts hmem
      have hnI : (ts.length : Int) ≤ 1000 := by omega
      have hstep : ((gs.take (k + 1)).any fun ts => ts.all fun t => R t (inc || anyPre ts)) = (ts.all fun t => R t (inc || anyPre ts)) := by
        rw [List.take_add_one, hts, List.any_append, HK.out.2.1]; simp
      have hall : (ts.all fun t => R t (inc || anyPre ts)) = true → res = true := fun h => by
        rw [← HRES.out, List.any_eq_true]; exact ⟨ts, hmem, h⟩
      have HN := Lib.hid (And.intro c (And.intro hts (And.intro hmem (And.intro hstep hall))))
      have HX := Lib.hid (And.intro hCs hTD)
      clear hts hmem hcs hX hCs hTD hstep hall c
      go_upto_region 5 with fail
      go_wp2
      clear q0
      go_loopw [7, 22] (fun jv iv W => ∃ (i : Nat), jv = .bool true ∧ iv = .int .i64 i ∧ Hid (i ≤ ts.length ∧ ((ts.take i).all fun t => R t (inc || anyPre ts)) = true ∧ Below wr.heap.size wr W)) (fun _ iv _ => 2000 - (intOf iv).toNat)
      case atStart => exact ⟨0, rfl, rfl, Lib.hid ⟨Nat.zero_le _, rfl, Below.refl _ _⟩⟩
      case round =>
        obtain ⟨i, rfl, rfl, HI⟩ := hrel
        have hbb := belk HI.out.2.2 HK.out.2.2
        have hcs := HS.out.keep HV.out hbb
        by_cases c : i < ts.length
        · have c2 : (i : Int) < (ts.length : Int) := by omega
          obtain ⟨t, ht⟩ : ∃ t, ts[i]? = some t := ⟨_, List.getElem?_eq_getElem c⟩
          obtain ⟨C, hC, hTC⟩ := HX.out.2.get ht
          have q0 : wr.cell? ⟨X, i, none⟩ = some (.pointer (some ⟨C, 0, none⟩)) := by
            rw [cell_of_row _ _ _ _ _ _ (blk HI.out.2.2 HX.out.1)]; exact ptrRow_get hC
          have q1 : wr.cell? ⟨T, 2, none⟩ = some (.bool inc) := cell_of_row _ _ 2 _ _ _ hcs.t
          have q2 : wr.cell? ⟨T, 1, none⟩ = some (.slice (some ⟨HP, 0, none⟩) gs.length gs.length) := cell_of_row _ _ 1 _ _ _ hcs.t
          have q3 : wr.cell? ⟨HP, k, none⟩ = some (.bool (anyPre ts)) := by
            rw [cell_of_row _ _ _ _ _ _ hcs.p, List.getElem?_toArray, List.getElem?_map, List.getElem?_map, HN.out.2.1]; rfl
          have HCK := Lib.hid (fun j => HC.out ts HN.out.2.2.1 t (List.mem_of_getElem? ht) C j wr (hTC.keep HI.out.2.2) hcs.v)
          have hst : ((ts.take (i + 1)).all fun t => R t (inc || anyPre ts)) = R t (inc || anyPre ts) := by
            rw [List.take_add_one, ht, List.all_append, HI.out.2.1]; simp
          have hno : R t (inc || anyPre ts) = false → (ts.all fun t => R t (inc || anyPre ts)) = false := fun h => by
            rw [List.all_eq_false]; exact ⟨t, List.mem_of_getElem? ht, by simp [h]⟩
          have HST := Lib.hid (And.intro c (And.intro hst hno))
          have HBB := Lib.hid hbb
          clear hst hno hcs hC hTC ht c hbb
          cases inc
          · have HCJ := Lib.hid (HCK.out (anyPre ts))
            have HJ := Lib.hid HST.out
            clear HCK HST
            cases hR : R t (anyPre ts) with
            | true =>
              rw [hR] at HCJ
              have hst : ((ts.take (i + 1)).all fun t => R t (false || anyPre ts)) = true := HJ.out.2.1.trans hR
              have HT := Lib.hid hst
              clear hst hR
              go_wp2_with (go_at_call 45; refine HCJ.out.mono ?_; rintro e w9 ⟨ev, rfl, hb9⟩; have H9 := Lib.hid (belk hb9 HI.out.2.2); clear hb9)
              exact ⟨⟨i + 1, rfl, by simp, Lib.hid ⟨HJ.out.1, HT.out, H9.out⟩⟩, by simp only [intOf]; have := HJ.out.1; omega⟩
            | false =>
              rw [hR] at HCJ
              have hst : ((gs.take (k + 1)).any fun ts => ts.all fun t => R t (false || anyPre ts)) = false := HN.out.2.2.2.1.trans (HJ.out.2.2 hR)
              have HT := Lib.hid hst
              clear hst hR
              go_wp2_with (go_at_call 45; refine HCJ.out.mono ?_; rintro e w9 ⟨ev, rfl, hb9⟩; have H9 := Lib.hid (belk hb9 HBB.out); clear hb9)
              exact ⟨⟨k + 1, by simp, Lib.hid ⟨HN.out.1, HT.out, H9.out⟩⟩, by simp only [intOf]; have := HN.out.1; omega⟩
          · have HCJ := Lib.hid (HCK.out true)
            have HJ := Lib.hid HST.out
            clear HCK HST
            cases hR : R t true with
            | true =>
              rw [hR] at HCJ
              have hst : ((ts.take (i + 1)).all fun t => R t (true || anyPre ts)) = true := HJ.out.2.1.trans hR
              have HT := Lib.hid hst
              clear hst hR
              go_wp2_with (go_at_call 45; refine HCJ.out.mono ?_; rintro e w9 ⟨ev, rfl, hb9⟩; have H9 := Lib.hid (belk hb9 HI.out.2.2); clear hb9)
              exact ⟨⟨i + 1, rfl, by simp, Lib.hid ⟨HJ.out.1, HT.out, H9.out⟩⟩, by simp only [intOf]; have := HJ.out.1; omega⟩
            | false =>
              rw [hR] at HCJ
              have hst : ((gs.take (k + 1)).any fun ts => ts.all fun t => R t (true || anyPre ts)) = false := HN.out.2.2.2.1.trans (HJ.out.2.2 hR)
              have HT := Lib.hid hst
              clear hst hR
              go_wp2_with (go_at_call 45; refine HCJ.out.mono ?_; rintro e w9 ⟨ev, rfl, hb9⟩; have H9 := Lib.hid (belk hb9 HBB.out); clear hb9)
              exact ⟨⟨k + 1, by simp, Lib.hid ⟨HN.out.1, HT.out, H9.out⟩⟩, by simp only [intOf]; have := HN.out.1; omega⟩
        · have hin : i = ts.length := by have := HI.out.1; omega
          have hr : res = true := HN.out.2.2.2.2 (by have := HI.out.2.1; rw [hin, List.take_length] at this; exact this)
          have HR := Lib.hid hr
          have c2 : ¬ (i : Int) < (ts.length : Int) := by omega
          have HBB := Lib.hid hbb
          clear hr c hin hcs hbb
          go_wp2
          go_ret
          exact ⟨by rw [HR.out]; rfl, belk HBB.out HB.out⟩
    · have hkn : k = gs.length := by have := HK.out.1; omega
      subst hkn
      have hr : res = false := by rw [← HRES.out, ← HK.out.2.1, List.take_length]
      have HR := Lib.hid hr
      clear hr c
      go_wp2
      go_ret
      exact ⟨by rw [HR.out]; rfl, belk HK.out.2.2 HB.out⟩
end Go.Proofs.YtflcanlniddgoaaGreatDoor.Sv
end
section
set_option linter.unusedVariables false
set_option linter.unusedSimpArgs false
/- CheckText -/
namespace Go.Proofs.YtflcanlniddgoaaGreatDoor.Sv
open Go Go.RowKit Rx
set_option maxRecDepth 100000
/-- a version's row -/
def vrow (a b c : Nat) (p m : ByteArray) : Obj := .cells #[.int .u64 a, .int .u64 b, .int .u64 c, .string p, .string m, .string e0] 33 (0, 0)
set_option maxHeartbeats 4000000 in
theorem t19 {s : ByteArray} {gs : List (List TD)} {a b c : Nat} {p m : ByteArray} {pre : Bool} (R : TD → Bool → Bool)
    (h31 : ∀ w, Lib.Utf8Tabs 14 15 w → Calls Tryz.prog 31 #[.string s] w fun e w' => ∃ O, e = .returned (.tuple #[ptr O, .nilIface]) ∧ w.heap.size ≤ O ∧ ConsAt w' O gs false ∧ Below w.heap.size w w')
    (hchk : ∀ ts ∈ gs, ∀ t ∈ ts, ∀ V C i W, TDAt W C t → W.heap[V]? = some (vrow a b c p m) → Calls Tryz.prog 45 #[.pointer (some ⟨C, 0, none⟩), .pointer (some ⟨V, 0, none⟩), .bool i] W fun e w' => ∃ ev, e = .returned (.tuple #[.bool (R t i), ev]) ∧ Below W.heap.size W w')
    (hl1 : gs.length ≤ 1000) (hl2 : ∀ ts ∈ gs, ts.length ≤ 1000) (w : World) (hT : Lib.Utf8Tabs 14 15 w) :
    Calls Tryz.prog 19 #[.string s, iv a b c p m, .bool pre] w fun e w' =>
      e = .returned (.tuple #[.bool (gs.any fun ts => ts.all fun t => R t (pre || anyPre ts)), .bool true]) ∧ Below w.heap.size w w' := by
  have hal := (Below.refl _ w).alloc (Nat.le_refl _) (.cells #[.int .u64 a, .int .u64 b, .int .u64 c, .string p, .string m] 24)
  have H31 := Lib.hid (h31 _ (Utf8Tabs_below hT hal))
  have HC := Lib.hid (fun V OR HP Xs => t32 (OR := OR) (HP := HP) (Xs := Xs) (inc := pre) (V := V) R (fun W => W.heap[V]? = some (vrow a b c p m)) (fun W W' h hb => blk hb h) (fun ts hts t ht C i W h1 h2 => hchk ts hts t ht V C i W h1 h2) hl1 hl2)
  generalize (gs.any fun ts => ts.all fun t => R t (pre || anyPre ts)) = res at *
  clear h31 hchk hl1 hl2 hT
  have hrow := heap_alloc_new w (.cells #[.int .u64 a, .int .u64 b, .int .u64 c, .string p, .string m] 24)
  have HL := Lib.hid (fun V => l13 a b c p m V)
  unfold iv
  go_enter Tryz.func19, Tryz.ntmps19
  go_upto_region 1 with fail
  generalize hw0 : w.alloc (.cells #[.int .u64 a, .int .u64 b, .int .u64 c, .string p, .string m] 24) = w0 at *
  clear hw0
  have HB := Lib.hid hal
  have HR := Lib.hid hrow
  clear hal hrow
  generalize w.heap.size = T at HR ⊢
  go_upto_region 4 with (go_at_call 31; refine H31.out.mono ?_; rintro e w1 ⟨O, rfl, hO, hcons, hb⟩; simp only [ptr]; obtain ⟨OR, HP, Xs, hO1, hOR, hHP, hRows⟩ := hcons; have HK := Lib.hid (And.intro hO1 (And.intro hOR (And.intro hHP (And.intro hRows (And.intro hO hb))))); clear hO1 hOR hHP hRows hO hb)
  have o2 : w1.cell? ⟨O, 2, none⟩ = some (.bool false) := cell_of_row _ _ 2 _ _ _ HK.out.1
  have f2 := frozen_of_row _ _ 2 _ _ HK.out.1
  go_upto_region 5 with fail
  have H5 : (w1.setCell ⟨O, 2, none⟩ (.bool pre)).heap[O]? = some (.cells #[.slice (some ⟨OR, 0, none⟩) gs.length gs.length, .slice (some ⟨HP, 0, none⟩) gs.length gs.length, .bool pre] 50 (0, 0)) ∧ (w1.setCell ⟨O, 2, none⟩ (.bool pre)).heap[OR]? = some (.cells (rowVals Xs gs).toArray 60 (0, 0)) ∧ (w1.setCell ⟨O, 2, none⟩ (.bool pre)).heap[HP]? = some (.cells ((gs.map anyPre).map Value.bool).toArray 4 (0, 0)) ∧ Rows (w1.setCell ⟨O, 2, none⟩ (.bool pre)) Xs gs ∧ Below w0.heap.size w0 (w1.setCell ⟨O, 2, none⟩ (.bool pre)) := by
    obtain ⟨h1, h2, h3, h4, h5, h6⟩ := HK.out
    have hfr := free_of h1 (by decide) (by decide)
    refine ⟨heap_setCell_same _ _ 2 _ _ _ h1, oth h2 (typ_ne h2 h1 (by decide)), oth h3 (typ_ne h3 h1 (by decide)), h4.kp (Kp.setCell O 2 w1 _) hfr ?_, h6.setCell h5 _⟩
    intro hm
    obtain ⟨cs, hc⟩ := h4.mem_lt O hm
    rw [h1] at hc
    simp at hc
  generalize w1.setCell ⟨O, 2, none⟩ (.bool pre) = w5 at *
  clear o2 f2
  obtain ⟨h1, h2, h3, h4, h5⟩ := H5
  have hrT := blk h5 HR.out
  have q0 : w5.cell? ⟨O, 0, none⟩ = some (.slice (some ⟨OR, 0, none⟩) gs.length gs.length) := cell_of_row _ _ 0 _ _ _ h1
  have q1 : w5.cell? ⟨O, 1, none⟩ = some (.slice (some ⟨HP, 0, none⟩) gs.length gs.length) := cell_of_row _ _ 1 _ _ _ h1
  have q2 : w5.cell? ⟨O, 2, none⟩ = some (.bool pre) := cell_of_row _ _ 2 _ _ _ h1
  have q3 : w5.cell? ⟨T, 0, none⟩ = some (.int .u64 a) := cell_of_row _ _ 0 _ _ _ hrT
  have q4 : w5.cell? ⟨T, 1, none⟩ = some (.int .u64 b) := cell_of_row _ _ 1 _ _ _ hrT
  have q5 : w5.cell? ⟨T, 2, none⟩ = some (.int .u64 c) := cell_of_row _ _ 2 _ _ _ hrT
  have q6 : w5.cell? ⟨T, 3, none⟩ = some (.string p) := cell_of_row _ _ 3 _ _ _ hrT
  have q7 : w5.cell? ⟨T, 4, none⟩ = some (.string m) := cell_of_row _ _ 4 _ _ _ hrT
  have q8 := Below.refl w5.heap.size w5
  have HM := Lib.hid (And.intro h2 (And.intro h3 h4))
  have HB5 := Lib.hid h5
  clear h1 h2 h3 h4 h5 hrT
  go_region_held3 (fun W => W.cell? ⟨O, 0, none⟩ = some (.slice (some ⟨OR, 0, none⟩) gs.length gs.length) ∧ W.cell? ⟨O, 1, none⟩ = some (.slice (some ⟨HP, 0, none⟩) gs.length gs.length) ∧ W.cell? ⟨O, 2, none⟩ = some (.bool pre) ∧ W.cell? ⟨T, 0, none⟩ = some (.int .u64 a) ∧ W.cell? ⟨T, 1, none⟩ = some (.int .u64 b) ∧ W.cell? ⟨T, 2, none⟩ = some (.int .u64 c) ∧ W.cell? ⟨T, 3, none⟩ = some (.string p) ∧ W.cell? ⟨T, 4, none⟩ = some (.string m) ∧ Below w5.heap.size w5 W) (first | exact ⟨by assumption, by assumption, by assumption, by assumption, by assumption, by assumption, by assumption, by assumption, by assumption⟩ | exact ⟨by first | assumption | (rw [World.cell?_drew]; assumption), by first | assumption | (rw [World.cell?_drew]; assumption), by first | assumption | (rw [World.cell?_drew]; assumption), by first | assumption | (rw [World.cell?_drew]; assumption), by first | assumption | (rw [World.cell?_drew]; assumption), by first | assumption | (rw [World.cell?_drew]; assumption), by first | assumption | (rw [World.cell?_drew]; assumption), by first | assumption | (rw [World.cell?_drew]; assumption), by first | assumption | exact Below.drew (by assumption)⟩) (first
    | (go_at_call 13; (with_reducible refine (HL.out _).mono ?_); rintro e w6 ⟨V, rfl, hV, hr, hb⟩; have HVR := Lib.hid hr; clear hr hV; have HS2 : (fun W => W.cell? ⟨O, 0, none⟩ = some (.slice (some ⟨OR, 0, none⟩) gs.length gs.length) ∧ W.cell? ⟨O, 1, none⟩ = some (.slice (some ⟨HP, 0, none⟩) gs.length gs.length) ∧ W.cell? ⟨O, 2, none⟩ = some (.bool pre) ∧ W.cell? ⟨T, 0, none⟩ = some (.int .u64 a) ∧ W.cell? ⟨T, 1, none⟩ = some (.int .u64 b) ∧ W.cell? ⟨T, 2, none⟩ = some (.int .u64 c) ∧ W.cell? ⟨T, 3, none⟩ = some (.string p) ∧ W.cell? ⟨T, 4, none⟩ = some (.string m) ∧ Below w5.heap.size w5 W) w6 := ⟨keepc hb (by first | assumption | (rw [World.cell?_drew]; assumption)), keepc hb (by first | assumption | (rw [World.cell?_drew]; assumption)), keepc hb (by first | assumption | (rw [World.cell?_drew]; assumption)), keepc hb (by first | assumption | (rw [World.cell?_drew]; assumption)), keepc hb (by first | assumption | (rw [World.cell?_drew]; assumption)), keepc hb (by first | assumption | (rw [World.cell?_drew]; assumption)), keepc hb (by first | assumption | (rw [World.cell?_drew]; assumption)), keepc hb (by first | assumption | (rw [World.cell?_drew]; assumption)), belk hb (by first | assumption | exact Below.drew (by assumption))⟩; obtain ⟨q0, q1, q2, q3, q4, q5, q6, q7, q8⟩ := HS2; clear hb)
    | (go_at_call 32; (with_reducible refine (HC.out _ _ _ _ _ (blk q8 HM.out.1) (blk q8 HM.out.2.1) (HM.out.2.2.keep q8) HVR.out).mono ?_); rintro e w7 ⟨rfl, hb⟩; have HS2 : (fun W => W.cell? ⟨O, 0, none⟩ = some (.slice (some ⟨OR, 0, none⟩) gs.length gs.length) ∧ W.cell? ⟨O, 1, none⟩ = some (.slice (some ⟨HP, 0, none⟩) gs.length gs.length) ∧ W.cell? ⟨O, 2, none⟩ = some (.bool pre) ∧ W.cell? ⟨T, 0, none⟩ = some (.int .u64 a) ∧ W.cell? ⟨T, 1, none⟩ = some (.int .u64 b) ∧ W.cell? ⟨T, 2, none⟩ = some (.int .u64 c) ∧ W.cell? ⟨T, 3, none⟩ = some (.string p) ∧ W.cell? ⟨T, 4, none⟩ = some (.string m) ∧ Below w5.heap.size w5 W) w7 := ⟨keepc hb (by first | assumption | (rw [World.cell?_drew]; assumption)), keepc hb (by first | assumption | (rw [World.cell?_drew]; assumption)), keepc hb (by first | assumption | (rw [World.cell?_drew]; assumption)), keepc hb (by first | assumption | (rw [World.cell?_drew]; assumption)), keepc hb (by first | assumption | (rw [World.cell?_drew]; assumption)), keepc hb (by first | assumption | (rw [World.cell?_drew]; assumption)), keepc hb (by first | assumption | (rw [World.cell?_drew]; assumption)), keepc hb (by first | assumption | (rw [World.cell?_drew]; assumption)), belk hb (by first | assumption | exact Below.drew (by assumption))⟩; obtain ⟨q0, q1, q2, q3, q4, q5, q6, q7, q8⟩ := HS2; clear hb))
  all_goals go_wp2
  all_goals go_ret2
  all_goals exact ⟨rfl, belk (belk (by assumption) HB5.out) HB.out⟩
end Go.Proofs.YtflcanlniddgoaaGreatDoor.Sv
end
section
set_option linter.unusedVariables false
set_option linter.unusedSimpArgs false
/- scIs, for one term of three numbers -/
namespace Go.Proofs.YtflcanlniddgoaaGreatDoor.Sv
open Go Go.RowKit Rx
set_option maxRecDepth 100000
/-- what an operator of the statement says of a release -/
def opR (op : Bs) (a b c a2 b2 c2 : Nat) : Bool := if op = [126] then tildeR a b c a2 b2 c2 true false false else if op = [94] then caretR a b c a2 b2 c2 true false false else cmpRel a b c a2 b2 c2 true == 1
theorem chk_one {op : Bs} (ho : op = [126] ∨ op = [94] ∨ op = [62]) (a b c a2 b2 c2 V C : Nat) (i : Bool) (W : World) (hC : TDAt W C (dtd op a2 b2 c2)) (hV : W.heap[V]? = some (vrow a b c e0 e0)) :
    Calls Tryz.prog 45 #[.pointer (some ⟨C, 0, none⟩), .pointer (some ⟨V, 0, none⟩), .bool i] W fun e w' => ∃ ev, e = .returned (.tuple #[.bool (opR op a b c a2 b2 c2), ev]) ∧ Below W.heap.size W w' := by
  obtain ⟨U, hc, hu⟩ := hC
  unfold ConAt dtd at hc
  unfold VerAt dtd at hu
  unfold vrow at hV
  have h3 : S3 W V U C a b c e0 e0 e0 a2 b2 c2 (bytesOf []) (bytesOf []) (bytesOf (dv a2 b2 c2).text) (bytesOf op) false false false W :=
    ⟨cell_of_row _ _ 0 _ _ _ hV, cell_of_row _ _ 1 _ _ _ hV, cell_of_row _ _ 2 _ _ _ hV, cell_of_row _ _ 3 _ _ _ hV, cell_of_row _ _ 4 _ _ _ hV, cell_of_row _ _ 5 _ _ _ hV,
      cell_of_row _ _ 0 _ _ _ hu, cell_of_row _ _ 1 _ _ _ hu, cell_of_row _ _ 2 _ _ _ hu, cell_of_row _ _ 3 _ _ _ hu, cell_of_row _ _ 4 _ _ _ hu, cell_of_row _ _ 5 _ _ _ hu,
      cell_of_row _ _ 0 _ _ _ hc, cell_of_row _ _ 2 _ _ _ hc, cell_of_row _ _ 3 _ _ _ hc, cell_of_row _ _ 4 _ _ _ hc, cell_of_row _ _ 5 _ _ _ hc, Below.refl _ _⟩
  have hp : e0.toList.isEmpty = true := by rw [show e0.toList = [] from ByteArray.toList_mk []]; rfl
  have hr : (bytesOf []).toList.isEmpty = true := by rw [bytesOf_toList]; rfl
  rcases ho with rfl | rfl | rfl
  · exact tChkTilde W V U C a b c e0 e0 e0 a2 b2 c2 _ _ _ false false false i h3 hp true hr
  · exact tChkCaret W V U C a b c e0 e0 e0 a2 b2 c2 _ _ _ false false false i h3 hp true hr
  · exact tChkGt W V U C a b c e0 e0 e0 a2 b2 c2 _ _ _ false false false i h3 hp true hr rfl
theorem op_mem {op : Bs} (ho : op = [126] ∨ op = [94] ∨ op = [62]) : op ∈ opTexts := by rcases ho with rfl | rfl | rfl <;> decide
theorem t19one {op : Bs} (ho : op = [126] ∨ op = [94] ∨ op = [62]) (a b c a2 b2 c2 : Nat) (ha : a2 < 18446744073709551616) (hb : b2 < 18446744073709551616) (hc : c2 < 18446744073709551616) (pre : Bool) (w : World) (hT : Lib.Utf8Tabs 14 15 w) :
    Calls Tryz.prog 19 #[.string (bytesOf (op ++ (dv a2 b2 c2).text)), iv a b c e0 e0, .bool pre] w fun e w' => e = .returned (.tuple #[.bool (opR op a b c a2 b2 c2), .bool true]) ∧ Below w.heap.size w w' := by
  have h := t19 (s := bytesOf (op ++ (dv a2 b2 c2).text)) (gs := [[dtd op a2 b2 c2]]) (a := a) (b := b) (c := c) (p := e0) (m := e0) (pre := pre) (fun _ _ => opR op a b c a2 b2 c2)
    (fun w hT => t31one (op_mem ho) a2 b2 c2 ha hb hc w hT)
    (fun ts hts t ht V C i W h1 h2 => by
      obtain rfl : ts = [dtd op a2 b2 c2] := by simpa using hts
      obtain rfl : t = dtd op a2 b2 c2 := by simpa using ht
      exact chk_one ho a b c a2 b2 c2 V C i W h1 h2) (by simp) (fun ts hts => by (obtain rfl : ts = [dtd op a2 b2 c2] := (by simpa using hts)); simp) w hT
  simpa using h
theorem t11one {op : Bs} (ho : op = [126] ∨ op = [94] ∨ op = [62]) (a b c a2 b2 c2 : Nat) (ha : a2 < 18446744073709551616) (hb : b2 < 18446744073709551616) (hc : c2 < 18446744073709551616) (pre want : Bool) (w : World) (hT : Lib.Utf8Tabs 14 15 w) :
    Calls Tryz.prog 11 #[.string (bytesOf (op ++ (dv a2 b2 c2).text)), iv a b c e0 e0, .bool pre, .bool want] w fun e w' => e = .returned (.bool (opR op a b c a2 b2 c2 == want)) ∧ Below w.heap.size w w' := by
  have hal := (Below.refl _ w).alloc (Nat.le_refl _) (.cells #[.int .u64 a, .int .u64 b, .int .u64 c, .string e0, .string e0] 24)
  have H := Lib.hid (t19one ho a b c a2 b2 c2 ha hb hc pre _ (Utf8Tabs_below hT hal))
  have HB := Lib.hid hal
  clear hal hT ha hb hc ho
  generalize opR op a b c a2 b2 c2 = r at *
  unfold iv at *
  go_enter Tryz.func11, Tryz.ntmps11
  go_wp2_with (go_at_call 19; refine H.out.mono ?_; rintro e w1 ⟨rfl, hb⟩; have HB1 := Lib.hid (belk hb HB.out); clear hb)
  go_ret
  exact ⟨rfl, HB1.out⟩
end Go.Proofs.YtflcanlniddgoaaGreatDoor.Sv
end
section
set_option linter.unusedVariables false
set_option linter.unusedSimpArgs false
/- the law's region 7 -/
namespace Go.Proofs.YtflcanlniddgoaaGreatDoor.Sv
open Go Go.RowKit Rx
set_option maxRecDepth 100000
def ops7 : Array Oper := #[{ dst := some 23, op := Op.load 24 (Operand.tmp 1), type := 24, pos := "semver_check.go:474", after := #[], guard := none }, { dst := some 24, op := Op.call { callee := Callee.value (Operand.func 8), args := #[Operand.tmp 23], argTypes := #[24] }, type := 24, pos := "semver_check.go:474", after := #[{ on := 0, ground := Ground.data }], guard := none }, { dst := some 25, op := Op.load 24 (Operand.tmp 1), type := 24, pos := "semver_check.go:474", after := #[], guard := none }, { dst := some 26, op := Op.call { callee := Callee.value (Operand.func 9), args := #[Operand.tmp 25], argTypes := #[24] }, type := 24, pos := "semver_check.go:474", after := #[{ on := 2, ground := Ground.data }, { on := 1, ground := Ground.chain }], guard := none }, { dst := some 27, op := Op.load 24 (Operand.tmp 1), type := 24, pos := "semver_check.go:474", after := #[], guard := none }, { dst := some 28, op := Op.call { callee := Callee.value (Operand.func 10), args := #[Operand.tmp 27], argTypes := #[24] }, type := 24, pos := "semver_check.go:474", after := #[{ on := 4, ground := Ground.data }, { on := 3, ground := Ground.chain }], guard := none }, { dst := some 4, op := Op.alloc 24, type := 0, pos := "semver_check.go:474", after := #[], guard := none }, { dst := some 5, op := Op.alloc 24, type := 0, pos := "semver_check.go:474", after := #[], guard := none }, { dst := some 6, op := Op.alloc 24, type := 0, pos := "semver_check.go:474", after := #[], guard := none }, { dst := none, op := Op.store 24 (Operand.tmp 4) (Operand.tmp 24), type := 0, pos := "semver_check.go:474", after := #[{ on := 6, ground := Ground.data }, { on := 1, ground := Ground.data }, { on := 5, ground := Ground.chain }, { on := 0, ground := Ground.phase }, { on := 1, ground := Ground.phase }, { on := 2, ground := Ground.textOnly Departure.lateStores }, { on := 3, ground := Ground.textOnly Departure.lateStoresUnsure }, { on := 4, ground := Ground.textOnly Departure.lateStores }, { on := 5, ground := Ground.textOnly Departure.lateStoresUnsure }, { on := 6, ground := Ground.phase }, { on := 7, ground := Ground.phase }, { on := 8, ground := Ground.phase }], guard := none }, { dst := none, op := Op.store 24 (Operand.tmp 5) (Operand.tmp 26), type := 0, pos := "semver_check.go:474", after := #[{ on := 7, ground := Ground.data }, { on := 3, ground := Ground.data }, { on := 9, ground := Ground.chain }, { on := 0, ground := Ground.phase }, { on := 1, ground := Ground.phase }, { on := 2, ground := Ground.phase }, { on := 3, ground := Ground.phase }, { on := 4, ground := Ground.textOnly Departure.lateStores }, { on := 5, ground := Ground.textOnly Departure.lateStoresUnsure }, { on := 6, ground := Ground.phase }, { on := 7, ground := Ground.phase }, { on := 8, ground := Ground.phase }, { on := 9, ground := Ground.phase }], guard := none }, { dst := none, op := Op.store 24 (Operand.tmp 6) (Operand.tmp 28), type := 0, pos := "semver_check.go:474", after := #[{ on := 8, ground := Ground.data }, { on := 5, ground := Ground.data }, { on := 10, ground := Ground.chain }, { on := 0, ground := Ground.phase }, { on := 1, ground := Ground.phase }, { on := 2, ground := Ground.phase }, { on := 3, ground := Ground.phase }, { on := 4, ground := Ground.phase }, { on := 5, ground := Ground.phase }, { on := 6, ground := Ground.phase }, { on := 7, ground := Ground.phase }, { on := 8, ground := Ground.phase }, { on := 9, ground := Ground.phase }, { on := 10, ground := Ground.phase }], guard := none }]
/-- what the law's variable and the tables need -/
structure LW (w : World) (T a b c : Nat) (p m : ByteArray) (W : World) : Prop where
  t : W.heap[T]? = some (.cells #[.int .u64 a, .int .u64 b, .int .u64 c, .string p, .string m] 24 (0, 0))
  pow : Pow W
  tabs : Lib.Utf8Tabs 14 15 W
  b : Below w.heap.size w W
  l : w.heap.size ≤ T
theorem LW.keep {w W W' : World} {T a b c : Nat} {p m : ByteArray} (h : LW w T a b c p m W) (hb : Below W.heap.size W W') : LW w T a b c p m W' :=
  ⟨blk hb h.t, h.pow.below hb, Utf8Tabs_below h.tabs hb, h.b.trans (hb.mono h.b.size), h.l⟩
theorem LW.cells {w W : World} {T a b c : Nat} {p m : ByteArray} (h : LW w T a b c p m W) :
    W.cell? ⟨T, 0, none⟩ = some (.int .u64 a) ∧ W.cell? ⟨T, 1, none⟩ = some (.int .u64 b) ∧ W.cell? ⟨T, 2, none⟩ = some (.int .u64 c) ∧ W.cell? ⟨T, 3, none⟩ = some (.string p) ∧ W.cell? ⟨T, 4, none⟩ = some (.string m) :=
  ⟨cell_of_row _ _ 0 _ _ _ h.t, cell_of_row _ _ 1 _ _ _ h.t, cell_of_row _ _ 2 _ _ _ h.t, cell_of_row _ _ 3 _ _ _ h.t, cell_of_row _ _ 4 _ _ _ h.t⟩
def rowOf (x y z : Nat) : Array Value := #[.int .u64 x, .int .u64 y, .int .u64 z, .string e0, .string e0]
def rowZ : Array Value := #[.int .u64 0, .int .u64 0, .int .u64 0, .string ⟨#[]⟩, .string ⟨#[]⟩]
def set5 (W : World) (P : Nat) (x0 x1 x2 x3 x4 : Value) : World := ((((W.setCell ⟨P, 0, none⟩ x0).setCell ⟨P, 1, none⟩ x1).setCell ⟨P, 2, none⟩ x2).setCell ⟨P, 3, none⟩ x3).setCell ⟨P, 4, none⟩ x4
theorem set5_size (W : World) (P : Nat) (x0 x1 x2 x3 x4 : Value) : (set5 W P x0 x1 x2 x3 x4).heap.size = W.heap.size := by simp [set5]
theorem set5_other {W : World} {P k : Nat} (h : k ≠ P) (x0 x1 x2 x3 x4 : Value) : (set5 W P x0 x1 x2 x3 x4).heap[k]? = W.heap[k]? := by
  unfold set5
  rw [heap_setCell_other _ _ _ _ h, heap_setCell_other _ _ _ _ h, heap_setCell_other _ _ _ _ h, heap_setCell_other _ _ _ _ h, heap_setCell_other _ _ _ _ h]
theorem set5_same {W : World} {P : Nat} {y0 y1 y2 y3 y4 : Value} (h : W.heap[P]? = some (.cells #[y0, y1, y2, y3, y4] 24 (0, 0))) (x0 x1 x2 x3 x4 : Value) : (set5 W P x0 x1 x2 x3 x4).heap[P]? = some (.cells #[x0, x1, x2, x3, x4] 24 (0, 0)) :=
  heap_setCell_same _ _ 4 _ _ _ (heap_setCell_same _ _ 3 _ _ _ (heap_setCell_same _ _ 2 _ _ _ (heap_setCell_same _ _ 1 _ _ _ (heap_setCell_same _ _ 0 _ _ _ h))))
theorem LW.set5 {w W : World} {T a b c P : Nat} {p m : ByteArray} (h : LW w T a b c p m W) (hw : Pow w ∧ Lib.Utf8Tabs 14 15 w) (hP : P ≠ T) (hl : w.heap.size ≤ P) (x0 x1 x2 x3 x4 : Value) : LW w T a b c p m (set5 W P x0 x1 x2 x3 x4) :=
  have hb : Below w.heap.size w (Sv.set5 W P x0 x1 x2 x3 x4) := ((((h.b.setCell hl _).setCell hl _).setCell hl _).setCell hl _).setCell hl _
  ⟨(set5_other (Ne.symm hP) _ _ _ _ _).trans h.t, hw.1.below hb, Utf8Tabs_below hw.2 hb, hb, h.l⟩
/-- a box of a version -/
def Blk (W : World) (s : Value) (N : Nat) (X : Array Value) : Prop := ∃ P, s = .pointer (some ⟨P, 0, none⟩) ∧ N ≤ P ∧ P < W.heap.size ∧ W.heap[P]? = some (.cells X 24 (0, 0))
theorem Blk.keep {W W' : World} {s : Value} {N : Nat} {X : Array Value} (h : Blk W s N X) (hb : Below W.heap.size W W') : Blk W' s N X := by
  obtain ⟨P, h1, h2, h3, h4⟩ := h
  exact ⟨P, h1, h2, Nat.lt_of_lt_of_le h3 hb.size, blk hb h4⟩
theorem Blk.set5 {W : World} {s : Value} {N : Nat} {X : Array Value} {P : Nat} (h : Blk W s N X) (hn : Value.pointer (some ⟨P, 0, none⟩) ≠ s) (x0 x1 x2 x3 x4 : Value) : Blk (set5 W P x0 x1 x2 x3 x4) s N X := by
  obtain ⟨P', h1, h2, h3, h4⟩ := h
  exact ⟨P', h1, h2, by rw [set5_size]; exact h3, (set5_other (fun e => hn (by rw [h1, e])) _ _ _ _ _).trans h4⟩
structure J (w : World) (T a b c n1 n2 n3 N : Nat) (L : Nat → Prop) (s4 s5 s6 s23 s24 s25 s26 s27 s28 : Value) (W : World) : Prop where
  lw : LW w T a b c e0 e0 W
  hN : N ≤ W.heap.size
  hTN : T < N
  hwN : w.heap.size ≤ N
  v23 : L 0 → s23 = .agg (rowOf a b c)
  v24 : L 1 → s24 = .agg (rowOf a b n1)
  v25 : L 2 → s25 = .agg (rowOf a b c)
  v26 : L 3 → s26 = .agg (rowOf a n2 0)
  v27 : L 4 → s27 = .agg (rowOf a b c)
  v28 : L 5 → s28 = .agg (rowOf n3 0 0)
  b4 : L 6 → ¬ L 9 → Blk W s4 N rowZ
  b5 : L 7 → ¬ L 10 → Blk W s5 N rowZ
  b6 : L 8 → ¬ L 11 → Blk W s6 N rowZ
  d4 : L 9 → Blk W s4 N (rowOf a b n1)
  d5 : L 10 → Blk W s5 N (rowOf a n2 0)
  d6 : L 11 → Blk W s6 N (rowOf n3 0 0)
  ne45 : L 6 → L 7 → s4 ≠ s5
  ne46 : L 6 → L 8 → s4 ≠ s6
  ne56 : L 7 → L 8 → s5 ≠ s6
section
variable {w : World} {T a b c n1 n2 n3 N : Nat} {L : Nat → Prop} {s4 s5 s6 s23 s24 s25 s26 s27 s28 : Value} {W W' : World}
theorem J.keep (h : J w T a b c n1 n2 n3 N L s4 s5 s6 s23 s24 s25 s26 s27 s28 W) (hb : Below W.heap.size W W') : J w T a b c n1 n2 n3 N L s4 s5 s6 s23 s24 s25 s26 s27 s28 W' :=
  ⟨h.lw.keep hb, Nat.le_trans h.hN hb.size, h.hTN, h.hwN, h.v23, h.v24, h.v25, h.v26, h.v27, h.v28, fun x y => (h.b4 x y).keep hb, fun x y => (h.b5 x y).keep hb, fun x y => (h.b6 x y).keep hb, fun x => (h.d4 x).keep hb, fun x => (h.d5 x).keep hb, fun x => (h.d6 x).keep hb, h.ne45, h.ne46, h.ne56⟩
theorem Blk.fresh {s : Value} {X : Array Value} (h : Blk W s N X) : Value.pointer (some ⟨W.heap.size, 0, none⟩) ≠ s := by
  obtain ⟨P, h1, h2, h3, h4⟩ := h
  rw [h1]
  intro e
  injection e with e
  injection e with e
  injection e with e
  omega
theorem J.fresh4 (h : J w T a b c n1 n2 n3 N L s4 s5 s6 s23 s24 s25 s26 s27 s28 W) (hl : L 6) : Value.pointer (some ⟨W.heap.size, 0, none⟩) ≠ s4 := by
  by_cases h9 : L 9
  · exact (h.d4 h9).fresh
  · exact (h.b4 hl h9).fresh
theorem J.fresh5 (h : J w T a b c n1 n2 n3 N L s4 s5 s6 s23 s24 s25 s26 s27 s28 W) (hl : L 7) : Value.pointer (some ⟨W.heap.size, 0, none⟩) ≠ s5 := by
  by_cases h9 : L 10
  · exact (h.d5 h9).fresh
  · exact (h.b5 hl h9).fresh
theorem J.fresh6 (h : J w T a b c n1 n2 n3 N L s4 s5 s6 s23 s24 s25 s26 s27 s28 W) (hl : L 8) : Value.pointer (some ⟨W.heap.size, 0, none⟩) ≠ s6 := by
  by_cases h9 : L 11
  · exact (h.d6 h9).fresh
  · exact (h.b6 hl h9).fresh
end
def fr7 (A E : Value) (T : Nat) (tx : ByteArray) (r : Bool) (u13 u14 u15 u16 u17 u18 u19 : Value) (s4 s5 s6 s23 s24 s25 s26 s27 s28 : Value) : Act := ⟨(A :: .pointer (some ⟨T, 0, none⟩) :: .bool false :: .string tx :: s4 :: s5 :: s6 :: undef :: A :: .bool r :: .bool false :: A :: E :: u13 :: u14 :: u15 :: u16 :: u17 :: u18 :: u19 :: .bool false :: E :: .string tx :: s23 :: s24 :: s25 :: s26 :: s27 :: s28 :: undef :: undef :: undef :: undef :: undef :: undef :: undef :: undef :: undef :: undef :: undef :: undef :: undef :: undef :: undef :: undef :: undef :: undef :: undef :: undef :: undef :: undef :: undef :: undef :: undef :: undef :: undef :: undef :: undef :: undef :: undef :: undef :: undef :: undef :: undef :: undef :: undef :: undef :: undef :: undef :: undef :: undef :: undef :: undef :: undef :: undef :: undef :: undef :: undef :: undef :: undef :: undef :: undef :: undef :: undef :: undef :: undef :: undef :: undef :: undef :: undef :: undef :: []).toArray, []⟩
/-- a store waits for its box -/
def waitB (st al : Nat) : Bool := (st == 9 && al == 6) || ((st == 10 && al == 7) || (st == 11 && al == 8))
set_option maxHeartbeats 8000000 in
theorem region7 (A E : Value) (T : Nat) (tx : ByteArray) (r : Bool) (u13 u14 u15 u16 u17 u18 u19 : Value) (w : World) (a b c n1 n2 n3 : Nat) (w5 : World) (hlw : LW w T a b c e0 e0 w5) (hw : Pow w ∧ Lib.Utf8Tabs 14 15 w) (hT5 : T < w5.heap.size)
    (h8 : ∀ W, Pow W → Calls Tryz.prog 8 #[.agg (rowOf a b c)] W fun e w' => e = .returned (.agg (rowOf a b n1)) ∧ Below W.heap.size W w')
    (h9 : ∀ W, Pow W → Calls Tryz.prog 9 #[.agg (rowOf a b c)] W fun e w' => e = .returned (.agg (rowOf a n2 0)) ∧ Below W.heap.size W w')
    (h10 : ∀ W, Pow W → Calls Tryz.prog 10 #[.agg (rowOf a b c)] W fun e w' => e = .returned (.agg (rowOf n3 0 0)) ∧ Below W.heap.size W w')
    {Q : Exit → Act → World → Prop} (hQ : ∀ s4 s5 s6 s23 s24 s25 s26 s27 s28 W, LW w T a b c e0 e0 W → Blk W s4 w5.heap.size (rowOf a b n1) → Blk W s5 w5.heap.size (rowOf a n2 0) → Blk W s6 w5.heap.size (rowOf n3 0 0) → Q .normal (fr7 A E T tx r u13 u14 u15 u16 u17 u18 u19 s4 s5 s6 s23 s24 s25 s26 s27 s28) W) :
    (Code.region 7 ops7 true).wp Tryz.prog Q (fr7 A E T tx r u13 u14 u15 u16 u17 u18 u19 undef undef undef undef undef undef undef undef undef) w5 := by
  have HC := Lib.hid (And.intro h8 (And.intro h9 h10))
  have HPT := Lib.hid hw
  clear h8 h9 h10 hw
  have hd0 := hlw.keep (Below.refl w5.heap.size w5).drew
  refine wp_region_inv (by kernel_rfl) (fun L a' W => (∀ st al, L st → waitB st al = true → L al) ∧ ∃ s4 s5 s6 s23 s24 s25 s26 s27 s28, a' = fr7 A E T tx r u13 u14 u15 u16 u17 u18 u19 s4 s5 s6 s23 s24 s25 s26 s27 s28 ∧ J w T a b c n1 n2 n3 w5.heap.size L s4 s5 s6 s23 s24 s25 s26 s27 s28 W) (by kernel_rfl) ⟨fun _ _ h => h.elim, _, _, _, _, _, _, _, _, _, rfl, ⟨hd0, Nat.le_refl _, hT5, hlw.b.size, fun h => h.elim, fun h => h.elim, fun h => h.elim, fun h => h.elim, fun h => h.elim, fun h => h.elim, fun h => h.elim, fun h => h.elim, fun h => h.elim, fun h => h.elim, fun h => h.elim, fun h => h.elim, fun h => h.elim, fun h => h.elim, fun h => h.elim⟩⟩ ?_ ?_
  · intro i o ho L a' W hni hdep hI K hK0
    obtain ⟨HD, s4, s5, s6, s23, s24, s25, s26, s27, s28, rfl, hk⟩ := hI
    have HD' : ∀ st al, (st = i ∨ L st) → waitB st al = true → (al = i ∨ L al) := by
      intro st al hs hwb
      rcases hs with rfl | hs
      · right
        have : (st = 9 ∧ al = 6) ∨ (st = 10 ∧ al = 7) ∨ (st = 11 ∧ al = 8) := by simpa [waitB] using hwb
        rcases this with ⟨rfl, rfl⟩ | ⟨rfl, rfl⟩ | ⟨rfl, rfl⟩
        · obtain rfl := Option.some.inj (show some ({ dst := none, op := Op.store 24 (Operand.tmp 4) (Operand.tmp 24), type := 0, pos := "semver_check.go:474", after := #[{ on := 6, ground := Ground.data }, { on := 1, ground := Ground.data }, { on := 5, ground := Ground.chain }, { on := 0, ground := Ground.phase }, { on := 1, ground := Ground.phase }, { on := 2, ground := Ground.textOnly Departure.lateStores }, { on := 3, ground := Ground.textOnly Departure.lateStoresUnsure }, { on := 4, ground := Ground.textOnly Departure.lateStores }, { on := 5, ground := Ground.textOnly Departure.lateStoresUnsure }, { on := 6, ground := Ground.phase }, { on := 7, ground := Ground.phase }, { on := 8, ground := Ground.phase }], guard := none } : Oper) = some o from ho)
          exact hdep ⟨6, .data⟩ (by simp) rfl
        · obtain rfl := Option.some.inj (show some ({ dst := none, op := Op.store 24 (Operand.tmp 5) (Operand.tmp 26), type := 0, pos := "semver_check.go:474", after := #[{ on := 7, ground := Ground.data }, { on := 3, ground := Ground.data }, { on := 9, ground := Ground.chain }, { on := 0, ground := Ground.phase }, { on := 1, ground := Ground.phase }, { on := 2, ground := Ground.phase }, { on := 3, ground := Ground.phase }, { on := 4, ground := Ground.textOnly Departure.lateStores }, { on := 5, ground := Ground.textOnly Departure.lateStoresUnsure }, { on := 6, ground := Ground.phase }, { on := 7, ground := Ground.phase }, { on := 8, ground := Ground.phase }, { on := 9, ground := Ground.phase }], guard := none } : Oper) = some o from ho)
          exact hdep ⟨7, .data⟩ (by simp) rfl
        · obtain rfl := Option.some.inj (show some ({ dst := none, op := Op.store 24 (Operand.tmp 6) (Operand.tmp 28), type := 0, pos := "semver_check.go:474", after := #[{ on := 8, ground := Ground.data }, { on := 5, ground := Ground.data }, { on := 10, ground := Ground.chain }, { on := 0, ground := Ground.phase }, { on := 1, ground := Ground.phase }, { on := 2, ground := Ground.phase }, { on := 3, ground := Ground.phase }, { on := 4, ground := Ground.phase }, { on := 5, ground := Ground.phase }, { on := 6, ground := Ground.phase }, { on := 7, ground := Ground.phase }, { on := 8, ground := Ground.phase }, { on := 9, ground := Ground.phase }, { on := 10, ground := Ground.phase }], guard := none } : Oper) = some o from ho)
          exact hdep ⟨8, .data⟩ (by simp) rfl
      · exact .inr (HD st al hs hwb)
    have hK : Shut (∀ a' w', (∃ s4 s5 s6 s23 s24 s25 s26 s27 s28, a' = fr7 A E T tx r u13 u14 u15 u16 u17 u18 u19 s4 s5 s6 s23 s24 s25 s26 s27 s28 ∧ J w T a b c n1 n2 n3 w5.heap.size (fun j => j = i ∨ L j) s4 s5 s6 s23 s24 s25 s26 s27 s28 w') → K a' w') := fun a' w' h => hK0.out a' w' ⟨HD', h⟩
    clear hK0 HD'
    rcases i with _ | _ | _ | _ | _ | _ | _ | _ | _ | _ | _ | _ | i
    · obtain rfl := Option.some.inj (show some ({ dst := some 23, op := Op.load 24 (Operand.tmp 1), type := 24, pos := "semver_check.go:474", after := #[], guard := none } : Oper) = some o from ho)
      unfold fr7
      obtain ⟨q0, q1, q2, q3, q4⟩ := hk.lw.cells
      unfold rowOf at *
      go_simp
      refine hK.out _ _ ⟨s4, s5, s6, .agg (rowOf a b c), s24, s25, s26, s27, s28, rfl, ⟨hk.lw, hk.hN, hk.hTN, hk.hwN, (fun _ => rfl), (fun hl => hk.v24 (hl.resolve_left (by decide))), (fun hl => hk.v25 (hl.resolve_left (by decide))), (fun hl => hk.v26 (hl.resolve_left (by decide))), (fun hl => hk.v27 (hl.resolve_left (by decide))), (fun hl => hk.v28 (hl.resolve_left (by decide))), (fun hl hn => hk.b4 (hl.resolve_left (by decide)) (fun h9 => hn (.inr h9))), (fun hl hn => hk.b5 (hl.resolve_left (by decide)) (fun h9 => hn (.inr h9))), (fun hl hn => hk.b6 (hl.resolve_left (by decide)) (fun h9 => hn (.inr h9))), (fun hl => hk.d4 (hl.resolve_left (by decide))), (fun hl => hk.d5 (hl.resolve_left (by decide))), (fun hl => hk.d6 (hl.resolve_left (by decide))), (fun h1 h2 => hk.ne45 (h1.resolve_left (by decide)) (h2.resolve_left (by decide))), (fun h1 h2 => hk.ne46 (h1.resolve_left (by decide)) (h2.resolve_left (by decide))), (fun h1 h2 => hk.ne56 (h1.resolve_left (by decide)) (h2.resolve_left (by decide)))⟩⟩
    · obtain rfl := Option.some.inj (show some ({ dst := some 24, op := Op.call { callee := Callee.value (Operand.func 8), args := #[Operand.tmp 23], argTypes := #[24] }, type := 24, pos := "semver_check.go:474", after := #[{ on := 0, ground := Ground.data }], guard := none } : Oper) = some o from ho)
      unfold fr7
      obtain rfl := hk.v23 (hdep ⟨0, .data⟩ (by simp) rfl)
      go_simp
      (go_at_call 8; refine (HC.out.1 _ hk.lw.pow).mono ?_; rintro e W1 ⟨rfl, hb⟩; have hk := hk.keep hb)
      refine hK.out _ _ ⟨s4, s5, s6, .agg (rowOf a b c), .agg (rowOf a b n1), s25, s26, s27, s28, rfl, ⟨hk.lw, hk.hN, hk.hTN, hk.hwN, (fun hl => hk.v23 (hl.resolve_left (by decide))), (fun _ => rfl), (fun hl => hk.v25 (hl.resolve_left (by decide))), (fun hl => hk.v26 (hl.resolve_left (by decide))), (fun hl => hk.v27 (hl.resolve_left (by decide))), (fun hl => hk.v28 (hl.resolve_left (by decide))), (fun hl hn => hk.b4 (hl.resolve_left (by decide)) (fun h9 => hn (.inr h9))), (fun hl hn => hk.b5 (hl.resolve_left (by decide)) (fun h9 => hn (.inr h9))), (fun hl hn => hk.b6 (hl.resolve_left (by decide)) (fun h9 => hn (.inr h9))), (fun hl => hk.d4 (hl.resolve_left (by decide))), (fun hl => hk.d5 (hl.resolve_left (by decide))), (fun hl => hk.d6 (hl.resolve_left (by decide))), (fun h1 h2 => hk.ne45 (h1.resolve_left (by decide)) (h2.resolve_left (by decide))), (fun h1 h2 => hk.ne46 (h1.resolve_left (by decide)) (h2.resolve_left (by decide))), (fun h1 h2 => hk.ne56 (h1.resolve_left (by decide)) (h2.resolve_left (by decide)))⟩⟩
    · obtain rfl := Option.some.inj (show some ({ dst := some 25, op := Op.load 24 (Operand.tmp 1), type := 24, pos := "semver_check.go:474", after := #[], guard := none } : Oper) = some o from ho)
      unfold fr7
      obtain ⟨q0, q1, q2, q3, q4⟩ := hk.lw.cells
      unfold rowOf at *
      go_simp
      refine hK.out _ _ ⟨s4, s5, s6, s23, s24, .agg (rowOf a b c), s26, s27, s28, rfl, ⟨hk.lw, hk.hN, hk.hTN, hk.hwN, (fun hl => hk.v23 (hl.resolve_left (by decide))), (fun hl => hk.v24 (hl.resolve_left (by decide))), (fun _ => rfl), (fun hl => hk.v26 (hl.resolve_left (by decide))), (fun hl => hk.v27 (hl.resolve_left (by decide))), (fun hl => hk.v28 (hl.resolve_left (by decide))), (fun hl hn => hk.b4 (hl.resolve_left (by decide)) (fun h9 => hn (.inr h9))), (fun hl hn => hk.b5 (hl.resolve_left (by decide)) (fun h9 => hn (.inr h9))), (fun hl hn => hk.b6 (hl.resolve_left (by decide)) (fun h9 => hn (.inr h9))), (fun hl => hk.d4 (hl.resolve_left (by decide))), (fun hl => hk.d5 (hl.resolve_left (by decide))), (fun hl => hk.d6 (hl.resolve_left (by decide))), (fun h1 h2 => hk.ne45 (h1.resolve_left (by decide)) (h2.resolve_left (by decide))), (fun h1 h2 => hk.ne46 (h1.resolve_left (by decide)) (h2.resolve_left (by decide))), (fun h1 h2 => hk.ne56 (h1.resolve_left (by decide)) (h2.resolve_left (by decide)))⟩⟩
    · obtain rfl := Option.some.inj (show some ({ dst := some 26, op := Op.call { callee := Callee.value (Operand.func 9), args := #[Operand.tmp 25], argTypes := #[24] }, type := 24, pos := "semver_check.go:474", after := #[{ on := 2, ground := Ground.data }, { on := 1, ground := Ground.chain }], guard := none } : Oper) = some o from ho)
      unfold fr7
      obtain rfl := hk.v25 (hdep ⟨2, .data⟩ (by simp) rfl)
      go_simp
      (go_at_call 9; refine (HC.out.2.1 _ hk.lw.pow).mono ?_; rintro e W1 ⟨rfl, hb⟩; have hk := hk.keep hb)
      refine hK.out _ _ ⟨s4, s5, s6, s23, s24, .agg (rowOf a b c), .agg (rowOf a n2 0), s27, s28, rfl, ⟨hk.lw, hk.hN, hk.hTN, hk.hwN, (fun hl => hk.v23 (hl.resolve_left (by decide))), (fun hl => hk.v24 (hl.resolve_left (by decide))), (fun hl => hk.v25 (hl.resolve_left (by decide))), (fun _ => rfl), (fun hl => hk.v27 (hl.resolve_left (by decide))), (fun hl => hk.v28 (hl.resolve_left (by decide))), (fun hl hn => hk.b4 (hl.resolve_left (by decide)) (fun h9 => hn (.inr h9))), (fun hl hn => hk.b5 (hl.resolve_left (by decide)) (fun h9 => hn (.inr h9))), (fun hl hn => hk.b6 (hl.resolve_left (by decide)) (fun h9 => hn (.inr h9))), (fun hl => hk.d4 (hl.resolve_left (by decide))), (fun hl => hk.d5 (hl.resolve_left (by decide))), (fun hl => hk.d6 (hl.resolve_left (by decide))), (fun h1 h2 => hk.ne45 (h1.resolve_left (by decide)) (h2.resolve_left (by decide))), (fun h1 h2 => hk.ne46 (h1.resolve_left (by decide)) (h2.resolve_left (by decide))), (fun h1 h2 => hk.ne56 (h1.resolve_left (by decide)) (h2.resolve_left (by decide)))⟩⟩
    · obtain rfl := Option.some.inj (show some ({ dst := some 27, op := Op.load 24 (Operand.tmp 1), type := 24, pos := "semver_check.go:474", after := #[], guard := none } : Oper) = some o from ho)
      unfold fr7
      obtain ⟨q0, q1, q2, q3, q4⟩ := hk.lw.cells
      unfold rowOf at *
      go_simp
      refine hK.out _ _ ⟨s4, s5, s6, s23, s24, s25, s26, .agg (rowOf a b c), s28, rfl, ⟨hk.lw, hk.hN, hk.hTN, hk.hwN, (fun hl => hk.v23 (hl.resolve_left (by decide))), (fun hl => hk.v24 (hl.resolve_left (by decide))), (fun hl => hk.v25 (hl.resolve_left (by decide))), (fun hl => hk.v26 (hl.resolve_left (by decide))), (fun _ => rfl), (fun hl => hk.v28 (hl.resolve_left (by decide))), (fun hl hn => hk.b4 (hl.resolve_left (by decide)) (fun h9 => hn (.inr h9))), (fun hl hn => hk.b5 (hl.resolve_left (by decide)) (fun h9 => hn (.inr h9))), (fun hl hn => hk.b6 (hl.resolve_left (by decide)) (fun h9 => hn (.inr h9))), (fun hl => hk.d4 (hl.resolve_left (by decide))), (fun hl => hk.d5 (hl.resolve_left (by decide))), (fun hl => hk.d6 (hl.resolve_left (by decide))), (fun h1 h2 => hk.ne45 (h1.resolve_left (by decide)) (h2.resolve_left (by decide))), (fun h1 h2 => hk.ne46 (h1.resolve_left (by decide)) (h2.resolve_left (by decide))), (fun h1 h2 => hk.ne56 (h1.resolve_left (by decide)) (h2.resolve_left (by decide)))⟩⟩
    · obtain rfl := Option.some.inj (show some ({ dst := some 28, op := Op.call { callee := Callee.value (Operand.func 10), args := #[Operand.tmp 27], argTypes := #[24] }, type := 24, pos := "semver_check.go:474", after := #[{ on := 4, ground := Ground.data }, { on := 3, ground := Ground.chain }], guard := none } : Oper) = some o from ho)
      unfold fr7
      obtain rfl := hk.v27 (hdep ⟨4, .data⟩ (by simp) rfl)
      go_simp
      (go_at_call 10; refine (HC.out.2.2 _ hk.lw.pow).mono ?_; rintro e W1 ⟨rfl, hb⟩; have hk := hk.keep hb)
      refine hK.out _ _ ⟨s4, s5, s6, s23, s24, s25, s26, .agg (rowOf a b c), .agg (rowOf n3 0 0), rfl, ⟨hk.lw, hk.hN, hk.hTN, hk.hwN, (fun hl => hk.v23 (hl.resolve_left (by decide))), (fun hl => hk.v24 (hl.resolve_left (by decide))), (fun hl => hk.v25 (hl.resolve_left (by decide))), (fun hl => hk.v26 (hl.resolve_left (by decide))), (fun hl => hk.v27 (hl.resolve_left (by decide))), (fun _ => rfl), (fun hl hn => hk.b4 (hl.resolve_left (by decide)) (fun h9 => hn (.inr h9))), (fun hl hn => hk.b5 (hl.resolve_left (by decide)) (fun h9 => hn (.inr h9))), (fun hl hn => hk.b6 (hl.resolve_left (by decide)) (fun h9 => hn (.inr h9))), (fun hl => hk.d4 (hl.resolve_left (by decide))), (fun hl => hk.d5 (hl.resolve_left (by decide))), (fun hl => hk.d6 (hl.resolve_left (by decide))), (fun h1 h2 => hk.ne45 (h1.resolve_left (by decide)) (h2.resolve_left (by decide))), (fun h1 h2 => hk.ne46 (h1.resolve_left (by decide)) (h2.resolve_left (by decide))), (fun h1 h2 => hk.ne56 (h1.resolve_left (by decide)) (h2.resolve_left (by decide)))⟩⟩
    · obtain rfl := Option.some.inj (show some ({ dst := some 4, op := Op.alloc 24, type := 0, pos := "semver_check.go:474", after := #[], guard := none } : Oper) = some o from ho)
      unfold fr7
      have hb := (Below.refl _ W).alloc (Nat.le_refl _) (.cells #[.int .u64 0, .int .u64 0, .int .u64 0, .string ⟨#[]⟩, .string ⟨#[]⟩] 24)
      go_simp
      have hk0 := hk
      have hk := hk.keep hb
      refine hK.out _ _ ⟨.pointer (some ⟨W.heap.size, 0, none⟩), s5, s6, s23, s24, s25, s26, s27, s28, rfl, ⟨hk.lw, hk.hN, hk.hTN, hk.hwN, (fun hl => hk.v23 (hl.resolve_left (by decide))), (fun hl => hk.v24 (hl.resolve_left (by decide))), (fun hl => hk.v25 (hl.resolve_left (by decide))), (fun hl => hk.v26 (hl.resolve_left (by decide))), (fun hl => hk.v27 (hl.resolve_left (by decide))), (fun hl => hk.v28 (hl.resolve_left (by decide))), (fun _ _ => ⟨W.heap.size, rfl, hk0.hN, by simp, heap_alloc_new W _⟩), (fun hl hn => hk.b5 (hl.resolve_left (by decide)) (fun h9 => hn (.inr h9))), (fun hl hn => hk.b6 (hl.resolve_left (by decide)) (fun h9 => hn (.inr h9))), (fun hl => absurd (HD 9 6 (hl.resolve_left (by decide)) rfl) hni), (fun hl => hk.d5 (hl.resolve_left (by decide))), (fun hl => hk.d6 (hl.resolve_left (by decide))), (fun _ h2 => hk0.fresh5 (h2.resolve_left (by decide))), (fun _ h2 => hk0.fresh6 (h2.resolve_left (by decide))), (fun h1 h2 => hk.ne56 (h1.resolve_left (by decide)) (h2.resolve_left (by decide)))⟩⟩
    · obtain rfl := Option.some.inj (show some ({ dst := some 5, op := Op.alloc 24, type := 0, pos := "semver_check.go:474", after := #[], guard := none } : Oper) = some o from ho)
      unfold fr7
      have hb := (Below.refl _ W).alloc (Nat.le_refl _) (.cells #[.int .u64 0, .int .u64 0, .int .u64 0, .string ⟨#[]⟩, .string ⟨#[]⟩] 24)
      go_simp
      have hk0 := hk
      have hk := hk.keep hb
      refine hK.out _ _ ⟨s4, .pointer (some ⟨W.heap.size, 0, none⟩), s6, s23, s24, s25, s26, s27, s28, rfl, ⟨hk.lw, hk.hN, hk.hTN, hk.hwN, (fun hl => hk.v23 (hl.resolve_left (by decide))), (fun hl => hk.v24 (hl.resolve_left (by decide))), (fun hl => hk.v25 (hl.resolve_left (by decide))), (fun hl => hk.v26 (hl.resolve_left (by decide))), (fun hl => hk.v27 (hl.resolve_left (by decide))), (fun hl => hk.v28 (hl.resolve_left (by decide))), (fun hl hn => hk.b4 (hl.resolve_left (by decide)) (fun h9 => hn (.inr h9))), (fun _ _ => ⟨W.heap.size, rfl, hk0.hN, by simp, heap_alloc_new W _⟩), (fun hl hn => hk.b6 (hl.resolve_left (by decide)) (fun h9 => hn (.inr h9))), (fun hl => hk.d4 (hl.resolve_left (by decide))), (fun hl => absurd (HD 10 7 (hl.resolve_left (by decide)) rfl) hni), (fun hl => hk.d6 (hl.resolve_left (by decide))), (fun h1 _ e => hk0.fresh4 (h1.resolve_left (by decide)) e.symm), (fun h1 h2 => hk.ne46 (h1.resolve_left (by decide)) (h2.resolve_left (by decide))), (fun _ h2 => hk0.fresh6 (h2.resolve_left (by decide)))⟩⟩
    · obtain rfl := Option.some.inj (show some ({ dst := some 6, op := Op.alloc 24, type := 0, pos := "semver_check.go:474", after := #[], guard := none } : Oper) = some o from ho)
      unfold fr7
      have hb := (Below.refl _ W).alloc (Nat.le_refl _) (.cells #[.int .u64 0, .int .u64 0, .int .u64 0, .string ⟨#[]⟩, .string ⟨#[]⟩] 24)
      go_simp
      have hk0 := hk
      have hk := hk.keep hb
      refine hK.out _ _ ⟨s4, s5, .pointer (some ⟨W.heap.size, 0, none⟩), s23, s24, s25, s26, s27, s28, rfl, ⟨hk.lw, hk.hN, hk.hTN, hk.hwN, (fun hl => hk.v23 (hl.resolve_left (by decide))), (fun hl => hk.v24 (hl.resolve_left (by decide))), (fun hl => hk.v25 (hl.resolve_left (by decide))), (fun hl => hk.v26 (hl.resolve_left (by decide))), (fun hl => hk.v27 (hl.resolve_left (by decide))), (fun hl => hk.v28 (hl.resolve_left (by decide))), (fun hl hn => hk.b4 (hl.resolve_left (by decide)) (fun h9 => hn (.inr h9))), (fun hl hn => hk.b5 (hl.resolve_left (by decide)) (fun h9 => hn (.inr h9))), (fun _ _ => ⟨W.heap.size, rfl, hk0.hN, by simp, heap_alloc_new W _⟩), (fun hl => hk.d4 (hl.resolve_left (by decide))), (fun hl => hk.d5 (hl.resolve_left (by decide))), (fun hl => absurd (HD 11 8 (hl.resolve_left (by decide)) rfl) hni), (fun h1 h2 => hk.ne45 (h1.resolve_left (by decide)) (h2.resolve_left (by decide))), (fun h1 _ e => hk0.fresh4 (h1.resolve_left (by decide)) e.symm), (fun h1 _ e => hk0.fresh5 (h1.resolve_left (by decide)) e.symm)⟩⟩
    · obtain rfl := Option.some.inj (show some ({ dst := none, op := Op.store 24 (Operand.tmp 4) (Operand.tmp 24), type := 0, pos := "semver_check.go:474", after := #[{ on := 6, ground := Ground.data }, { on := 1, ground := Ground.data }, { on := 5, ground := Ground.chain }, { on := 0, ground := Ground.phase }, { on := 1, ground := Ground.phase }, { on := 2, ground := Ground.textOnly Departure.lateStores }, { on := 3, ground := Ground.textOnly Departure.lateStoresUnsure }, { on := 4, ground := Ground.textOnly Departure.lateStores }, { on := 5, ground := Ground.textOnly Departure.lateStoresUnsure }, { on := 6, ground := Ground.phase }, { on := 7, ground := Ground.phase }, { on := 8, ground := Ground.phase }], guard := none } : Oper) = some o from ho)
      unfold fr7
      obtain ⟨PP, rfl, hPN, hPS, hPB⟩ := hk.b4 (hdep ⟨6, .data⟩ (by simp) rfl) hni
      obtain rfl := hk.v24 (hdep ⟨1, .data⟩ (by simp) rfl)
      have hPT : PP ≠ T := by have := hk.hTN; omega
      have c0 : W.cell? ⟨PP, 0, none⟩ = some (.int .u64 0) := cell_of_row _ _ 0 _ _ _ hPB
      have c1 : W.cell? ⟨PP, 1, none⟩ = some (.int .u64 0) := cell_of_row _ _ 1 _ _ _ hPB
      have c2 : W.cell? ⟨PP, 2, none⟩ = some (.int .u64 0) := cell_of_row _ _ 2 _ _ _ hPB
      have c3 : W.cell? ⟨PP, 3, none⟩ = some (.string e0) := cell_of_row _ _ 3 _ _ _ hPB
      have c4 : W.cell? ⟨PP, 4, none⟩ = some (.string e0) := cell_of_row _ _ 4 _ _ _ hPB
      have fz := fun k => frozen_of_row _ _ k _ _ hPB
      unfold rowOf
      go_simp
      refine hK.out _ (set5 W PP (.int .u64 (a : Nat)) (.int .u64 (b : Nat)) (.int .u64 (n1 : Nat)) (.string e0) (.string e0)) ⟨.pointer (some ⟨PP, 0, none⟩), s5, s6, s23, .agg (rowOf a b n1), s25, s26, s27, s28, rfl, ⟨hk.lw.set5 HPT.out hPT (by have := hk.hwN; omega) _ _ _ _ _, (by rw [set5_size]; exact hk.hN), hk.hTN, hk.hwN, (fun hl => hk.v23 (hl.resolve_left (by decide))), (fun hl => hk.v24 (hl.resolve_left (by decide))), (fun hl => hk.v25 (hl.resolve_left (by decide))), (fun hl => hk.v26 (hl.resolve_left (by decide))), (fun hl => hk.v27 (hl.resolve_left (by decide))), (fun hl => hk.v28 (hl.resolve_left (by decide))), (fun _ hn => absurd (.inl rfl) hn), (fun hl hn => (hk.b5 (hl.resolve_left (by decide)) (fun h9 => hn (.inr h9))).set5 (hk.ne45 (hdep ⟨6, .data⟩ (by simp) rfl) (hl.resolve_left (by decide))) _ _ _ _ _), (fun hl hn => (hk.b6 (hl.resolve_left (by decide)) (fun h9 => hn (.inr h9))).set5 (hk.ne46 (hdep ⟨6, .data⟩ (by simp) rfl) (hl.resolve_left (by decide))) _ _ _ _ _), (fun _ => ⟨PP, rfl, hPN, by rw [set5_size]; exact hPS, set5_same hPB _ _ _ _ _⟩), (fun hl => (hk.d5 (hl.resolve_left (by decide))).set5 (hk.ne45 (hdep ⟨6, .data⟩ (by simp) rfl) (HD 10 7 (hl.resolve_left (by decide)) rfl)) _ _ _ _ _), (fun hl => (hk.d6 (hl.resolve_left (by decide))).set5 (hk.ne46 (hdep ⟨6, .data⟩ (by simp) rfl) (HD 11 8 (hl.resolve_left (by decide)) rfl)) _ _ _ _ _), (fun h1 h2 => hk.ne45 (h1.resolve_left (by decide)) (h2.resolve_left (by decide))), (fun h1 h2 => hk.ne46 (h1.resolve_left (by decide)) (h2.resolve_left (by decide))), (fun h1 h2 => hk.ne56 (h1.resolve_left (by decide)) (h2.resolve_left (by decide)))⟩⟩
    · obtain rfl := Option.some.inj (show some ({ dst := none, op := Op.store 24 (Operand.tmp 5) (Operand.tmp 26), type := 0, pos := "semver_check.go:474", after := #[{ on := 7, ground := Ground.data }, { on := 3, ground := Ground.data }, { on := 9, ground := Ground.chain }, { on := 0, ground := Ground.phase }, { on := 1, ground := Ground.phase }, { on := 2, ground := Ground.phase }, { on := 3, ground := Ground.phase }, { on := 4, ground := Ground.textOnly Departure.lateStores }, { on := 5, ground := Ground.textOnly Departure.lateStoresUnsure }, { on := 6, ground := Ground.phase }, { on := 7, ground := Ground.phase }, { on := 8, ground := Ground.phase }, { on := 9, ground := Ground.phase }], guard := none } : Oper) = some o from ho)
      unfold fr7
      obtain ⟨PP, rfl, hPN, hPS, hPB⟩ := hk.b5 (hdep ⟨7, .data⟩ (by simp) rfl) hni
      obtain rfl := hk.v26 (hdep ⟨3, .data⟩ (by simp) rfl)
      have hPT : PP ≠ T := by have := hk.hTN; omega
      have c0 : W.cell? ⟨PP, 0, none⟩ = some (.int .u64 0) := cell_of_row _ _ 0 _ _ _ hPB
      have c1 : W.cell? ⟨PP, 1, none⟩ = some (.int .u64 0) := cell_of_row _ _ 1 _ _ _ hPB
      have c2 : W.cell? ⟨PP, 2, none⟩ = some (.int .u64 0) := cell_of_row _ _ 2 _ _ _ hPB
      have c3 : W.cell? ⟨PP, 3, none⟩ = some (.string e0) := cell_of_row _ _ 3 _ _ _ hPB
      have c4 : W.cell? ⟨PP, 4, none⟩ = some (.string e0) := cell_of_row _ _ 4 _ _ _ hPB
      have fz := fun k => frozen_of_row _ _ k _ _ hPB
      unfold rowOf
      go_simp
      refine hK.out _ (set5 W PP (.int .u64 (a : Nat)) (.int .u64 (n2 : Nat)) (.int .u64 0) (.string e0) (.string e0)) ⟨s4, .pointer (some ⟨PP, 0, none⟩), s6, s23, s24, s25, .agg (rowOf a n2 0), s27, s28, rfl, ⟨hk.lw.set5 HPT.out hPT (by have := hk.hwN; omega) _ _ _ _ _, (by rw [set5_size]; exact hk.hN), hk.hTN, hk.hwN, (fun hl => hk.v23 (hl.resolve_left (by decide))), (fun hl => hk.v24 (hl.resolve_left (by decide))), (fun hl => hk.v25 (hl.resolve_left (by decide))), (fun hl => hk.v26 (hl.resolve_left (by decide))), (fun hl => hk.v27 (hl.resolve_left (by decide))), (fun hl => hk.v28 (hl.resolve_left (by decide))), (fun hl hn => (hk.b4 (hl.resolve_left (by decide)) (fun h9 => hn (.inr h9))).set5 (fun e => hk.ne45 (hl.resolve_left (by decide)) (hdep ⟨7, .data⟩ (by simp) rfl) e.symm) _ _ _ _ _), (fun _ hn => absurd (.inl rfl) hn), (fun hl hn => (hk.b6 (hl.resolve_left (by decide)) (fun h9 => hn (.inr h9))).set5 (hk.ne56 (hdep ⟨7, .data⟩ (by simp) rfl) (hl.resolve_left (by decide))) _ _ _ _ _), (fun hl => (hk.d4 (hl.resolve_left (by decide))).set5 (fun e => hk.ne45 (HD 9 6 (hl.resolve_left (by decide)) rfl) (hdep ⟨7, .data⟩ (by simp) rfl) e.symm) _ _ _ _ _), (fun _ => ⟨PP, rfl, hPN, by rw [set5_size]; exact hPS, set5_same hPB _ _ _ _ _⟩), (fun hl => (hk.d6 (hl.resolve_left (by decide))).set5 (hk.ne56 (hdep ⟨7, .data⟩ (by simp) rfl) (HD 11 8 (hl.resolve_left (by decide)) rfl)) _ _ _ _ _), (fun h1 h2 => hk.ne45 (h1.resolve_left (by decide)) (h2.resolve_left (by decide))), (fun h1 h2 => hk.ne46 (h1.resolve_left (by decide)) (h2.resolve_left (by decide))), (fun h1 h2 => hk.ne56 (h1.resolve_left (by decide)) (h2.resolve_left (by decide)))⟩⟩
    · obtain rfl := Option.some.inj (show some ({ dst := none, op := Op.store 24 (Operand.tmp 6) (Operand.tmp 28), type := 0, pos := "semver_check.go:474", after := #[{ on := 8, ground := Ground.data }, { on := 5, ground := Ground.data }, { on := 10, ground := Ground.chain }, { on := 0, ground := Ground.phase }, { on := 1, ground := Ground.phase }, { on := 2, ground := Ground.phase }, { on := 3, ground := Ground.phase }, { on := 4, ground := Ground.phase }, { on := 5, ground := Ground.phase }, { on := 6, ground := Ground.phase }, { on := 7, ground := Ground.phase }, { on := 8, ground := Ground.phase }, { on := 9, ground := Ground.phase }, { on := 10, ground := Ground.phase }], guard := none } : Oper) = some o from ho)
      unfold fr7
      obtain ⟨PP, rfl, hPN, hPS, hPB⟩ := hk.b6 (hdep ⟨8, .data⟩ (by simp) rfl) hni
      obtain rfl := hk.v28 (hdep ⟨5, .data⟩ (by simp) rfl)
      have hPT : PP ≠ T := by have := hk.hTN; omega
      have c0 : W.cell? ⟨PP, 0, none⟩ = some (.int .u64 0) := cell_of_row _ _ 0 _ _ _ hPB
      have c1 : W.cell? ⟨PP, 1, none⟩ = some (.int .u64 0) := cell_of_row _ _ 1 _ _ _ hPB
      have c2 : W.cell? ⟨PP, 2, none⟩ = some (.int .u64 0) := cell_of_row _ _ 2 _ _ _ hPB
      have c3 : W.cell? ⟨PP, 3, none⟩ = some (.string e0) := cell_of_row _ _ 3 _ _ _ hPB
      have c4 : W.cell? ⟨PP, 4, none⟩ = some (.string e0) := cell_of_row _ _ 4 _ _ _ hPB
      have fz := fun k => frozen_of_row _ _ k _ _ hPB
      unfold rowOf
      go_simp
      refine hK.out _ (set5 W PP (.int .u64 (n3 : Nat)) (.int .u64 0) (.int .u64 0) (.string e0) (.string e0)) ⟨s4, s5, .pointer (some ⟨PP, 0, none⟩), s23, s24, s25, s26, s27, .agg (rowOf n3 0 0), rfl, ⟨hk.lw.set5 HPT.out hPT (by have := hk.hwN; omega) _ _ _ _ _, (by rw [set5_size]; exact hk.hN), hk.hTN, hk.hwN, (fun hl => hk.v23 (hl.resolve_left (by decide))), (fun hl => hk.v24 (hl.resolve_left (by decide))), (fun hl => hk.v25 (hl.resolve_left (by decide))), (fun hl => hk.v26 (hl.resolve_left (by decide))), (fun hl => hk.v27 (hl.resolve_left (by decide))), (fun hl => hk.v28 (hl.resolve_left (by decide))), (fun hl hn => (hk.b4 (hl.resolve_left (by decide)) (fun h9 => hn (.inr h9))).set5 (fun e => hk.ne46 (hl.resolve_left (by decide)) (hdep ⟨8, .data⟩ (by simp) rfl) e.symm) _ _ _ _ _), (fun hl hn => (hk.b5 (hl.resolve_left (by decide)) (fun h9 => hn (.inr h9))).set5 (fun e => hk.ne56 (hl.resolve_left (by decide)) (hdep ⟨8, .data⟩ (by simp) rfl) e.symm) _ _ _ _ _), (fun _ hn => absurd (.inl rfl) hn), (fun hl => (hk.d4 (hl.resolve_left (by decide))).set5 (fun e => hk.ne46 (HD 9 6 (hl.resolve_left (by decide)) rfl) (hdep ⟨8, .data⟩ (by simp) rfl) e.symm) _ _ _ _ _), (fun hl => (hk.d5 (hl.resolve_left (by decide))).set5 (fun e => hk.ne56 (HD 10 7 (hl.resolve_left (by decide)) rfl) (hdep ⟨8, .data⟩ (by simp) rfl) e.symm) _ _ _ _ _), (fun _ => ⟨PP, rfl, hPN, by rw [set5_size]; exact hPS, set5_same hPB _ _ _ _ _⟩), (fun h1 h2 => hk.ne45 (h1.resolve_left (by decide)) (h2.resolve_left (by decide))), (fun h1 h2 => hk.ne46 (h1.resolve_left (by decide)) (h2.resolve_left (by decide))), (fun h1 h2 => hk.ne56 (h1.resolve_left (by decide)) (h2.resolve_left (by decide)))⟩⟩
    · exact absurd (Array.getElem?_eq_some_iff.1 ho).1 (by simp [ops7])
  · intro L a' W hall hI
    obtain ⟨_, s4, s5, s6, s23, s24, s25, s26, s27, s28, rfl, hk⟩ := hI
    exact hQ _ _ _ _ _ _ _ _ _ W hk.lw (hk.d4 (hall 9 (by decide))) (hk.d5 (hall 10 (by decide))) (hk.d6 (hall 11 (by decide)))
end Go.Proofs.YtflcanlniddgoaaGreatDoor.Sv
end
