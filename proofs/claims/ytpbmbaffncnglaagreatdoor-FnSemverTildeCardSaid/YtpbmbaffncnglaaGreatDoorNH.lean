/- a part of the proof: FnSemverTilde: for every two versions, number and wildcard the law's function returns true and leaves its arguments as they were; no condition is added, the statement is the given tied card. -/
import Derived.Test.YtpbmbaffncnglaaGreatDoorNG
import Derived.Test.YtpbmbaffncnglaaGreatDoorND
section
set_option linter.unusedVariables false
set_option linter.unusedSimpArgs false
/- a constraint's text is read -/
namespace Go.Proofs.YtpbmbaffncnglaaGreatDoor.Sv
open Go Go.RowKit Rx
set_option maxRecDepth 100000
theorem info60 : (Tryz.prog.info? 61).map (fun i => (i.zero, i.size, i.bytes)) = some (some (.slice none 0 0), 1, 24) := by kernel_rfl
theorem info4 : (Tryz.prog.info? 4).map (fun i => (i.zero, i.size, i.bytes)) = some (some (.bool false), 1, 1) := by kernel_rfl
theorem info61 : (Tryz.prog.info? 62).map (fun i => (i.zero, i.size, i.bytes)) = some (some (.pointer none), 1, 8) := by kernel_rfl
def reps (n : Nat) (z : Value) : Array Value := (List.replicate n z).toArray
theorem mk47 (n : Nat) (hn : n ≤ 1000) (w : World) : (Instr.makeSlice 47 (.int .i64 n) (.int .i64 n)).run Tryz.prog w = .ok (.slice (some ⟨w.heap.size, 0, none⟩) n n) (w.alloc (.cells (reps n (.slice none 0 0)) 61)) := by
  rw [run_make_row' 47 61 (.slice none 0 0) 24 Tryz.underlying47 info60 rfl .i64 .i64 n (by omega) (by omega) w]
  congr 3
  apply Array.ext'
  rw [toList_madeCells_one]
  rfl
theorem mk48 (n : Nat) (hn : n ≤ 1000) (w : World) : (Instr.makeSlice 48 (.int .i64 n) (.int .i64 n)).run Tryz.prog w = .ok (.slice (some ⟨w.heap.size, 0, none⟩) n n) (w.alloc (.cells (reps n (.bool false)) 4)) := by
  rw [run_make_row' 48 4 (.bool false) 1 Tryz.underlying48 info4 rfl .i64 .i64 n (by omega) (by omega) w]
  congr 3
  apply Array.ext'
  rw [toList_madeCells_one]
  rfl
theorem mk60 (n : Nat) (hn : n ≤ 1000) (w : World) : (Instr.makeSlice 61 (.int .i64 n) (.int .i64 n)).run Tryz.prog w = .ok (.slice (some ⟨w.heap.size, 0, none⟩) n n) (w.alloc (.cells (reps n (.pointer none)) 62)) := by
  rw [run_make_row' 61 62 (.pointer none) 8 Tryz.underlying61 info61 rfl .i64 .i64 n (by omega) (by omega) w]
  congr 3
  apply Array.ext'
  rw [toList_madeCells_one]
  rfl
theorem own_cells {W : World} {base n cap ob : Nat} {e : TypeId} {xs : List Value} (h : W.ownsRow base e 1 (.slice (some ⟨ob, 0, none⟩) n cap) n xs) (hn : 0 < n) : ∃ cur, W.heap[ob]? = some (.cells cur e (0, 0)) ∧ ∀ (j : Nat) (v : Value), xs[j]? = some v → cur[j]? = some v := by
  rcases h.2 with ⟨hv, _⟩ | ⟨g, c, cur, q1, q2, q3, q4, q5, q6, q7⟩
  · cases hv
  · cases q1
    refine ⟨cur, q3, fun j v hj => ?_⟩
    rw [← q7, List.getElem?_take] at hj
    split at hj
    · simpa using hj
    · cases hj
/-- what is known of one list's text -/
structure GSpec (v : ByteArray) (tx : List Bs) (ts : List TD) : Prop where
  valid : ∀ (w : World) (R PB IB icap : Nat), PG w R PB IB icap validT → RH w R PB 4 1 50 1 24 → Lib.Utf8Tabs 11 12 w → Calls Tryz.prog 27 #[.pointer (some ⟨R, 0, none⟩), .string v] w fun e w' => e = .returned (.bool true) ∧ Below w.heap.size w w'
  find : ∀ (w : World) (R PB IB icap : Nat), PG w R PB IB icap findT → RH w R PB 0 1 24 1 11 → Lib.Utf8Tabs 11 12 w → Calls Tryz.prog 30 #[.pointer (some ⟨R, 0, none⟩), .string v, .int .i64 (-1)] w fun e w' => ∃ u, e = .returned u ∧ w'.ownsRow w.heap.size 9 1 u tx.length (tx.map fun t => Value.string (bytesOf t)) ∧ Below w.heap.size w w'
  len : tx.length = ts.length
  pos : 0 < tx.length
  le : tx.length ≤ 1000
  each : ∀ (i : Nat) (x : Bs) (t : TD), tx[i]? = some x → ts[i]? = some t → ∀ w, Lib.Utf8Tabs 11 12 w → Calls Tryz.prog 31 #[.string (bytesOf x)] w fun e w' => ∃ C, e = .returned (.tuple #[ptr C, .nilIface]) ∧ w.heap.size ≤ C ∧ TDAt w' C t ∧ Below w.heap.size w w'
/-- between two lists -/
structure NOut (w : World) (ob OR HP : Nat) (ocur : Array Value) (gs : List (List TD)) (k : Nat) (Xs : List Nat) (W : World) : Prop where
  o : W.heap[ob]? = some (.cells ocur 9 (0, 0))
  r : W.heap[OR]? = some (.cells (rowVals Xs (gs.take k) ++ List.replicate (gs.length - k) (Value.slice none 0 0)).toArray 61 (0, 0))
  h : W.heap[HP]? = some (.cells (((gs.take k).map anyPre).map Value.bool ++ List.replicate (gs.length - k) (Value.bool false)).toArray 4 (0, 0))
  rows : Rows W Xs (gs.take k)
  b : Below w.heap.size w W
  l1 : w.heap.size ≤ OR
  l2 : w.heap.size ≤ HP
/-- within a list -/
structure NIn (w : World) (ob OR HP : Nat) (ocur : Array Value) (gs : List (List TD)) (k : Nat) (Xs : List Nat) (ts : List TD) (cb : Nat) (ccur : Array Value) (RX i : Nat) (Cs : List Nat) (pr : Bool) (W : World) : Prop where
  o : W.heap[ob]? = some (.cells ocur 9 (0, 0))
  r : W.heap[OR]? = some (.cells (rowVals Xs (gs.take k) ++ List.replicate (gs.length - k) (Value.slice none 0 0)).toArray 61 (0, 0))
  h : W.heap[HP]? = some (.cells (((gs.take k).map anyPre).map Value.bool ++ Value.bool pr :: List.replicate (gs.length - (k + 1)) (Value.bool false)).toArray 4 (0, 0))
  rows : Rows W Xs (gs.take k)
  c : W.heap[cb]? = some (.cells ccur 9 (0, 0))
  x : W.heap[RX]? = some (.cells (ptrRow Cs ts.length) 62 (0, 0))
  t : TDs W Cs (ts.take i)
  nx : RX ∉ Xs
  b : Below w.heap.size w W
  l1 : w.heap.size ≤ OR
  l2 : w.heap.size ≤ HP
  l3 : w.heap.size ≤ RX
section
variable {w : World} {ob OR HP : Nat} {ocur : Array Value} {gs : List (List TD)} {k : Nat} {Xs : List Nat} {ts : List TD} {cb : Nat} {ccur : Array Value} {RX i : Nat} {Cs : List Nat} {pr : Bool} {W W' : World}
theorem blk {W W' : World} {j : Nat} {o : Obj} (hb : Below W.heap.size W W') (h : W.heap[j]? = some o) : W'.heap[j]? = some o := (hb.block j (Array.getElem?_eq_some_iff.1 h).1).trans h
theorem NOut.keep (h : NOut w ob OR HP ocur gs k Xs W) (hb : Below W.heap.size W W') : NOut w ob OR HP ocur gs k Xs W' :=
  ⟨blk hb h.o, blk hb h.r, blk hb h.h, h.rows.keep hb, h.b.trans (hb.mono h.b.size), h.l1, h.l2⟩
theorem NIn.keep (h : NIn w ob OR HP ocur gs k Xs ts cb ccur RX i Cs pr W) (hb : Below W.heap.size W W') : NIn w ob OR HP ocur gs k Xs ts cb ccur RX i Cs pr W' :=
  ⟨blk hb h.o, blk hb h.r, blk hb h.h, h.rows.keep hb, blk hb h.c, blk hb h.x, h.t.keep hb, h.nx, h.b.trans (hb.mono h.b.size), h.l1, h.l2, h.l3⟩
theorem free_of {W : World} {X : Nat} {cs : Array Value} {t : TypeId} (h : W.heap[X]? = some (.cells cs t (0, 0))) (h1 : t ≠ 68) (h2 : t ≠ 66) : Free X W := fun cs' t' f' h' => by
  rw [h] at h'; injection h' with h'; injection h' with e1 e2 e3; subst e2; exact ⟨h1, h2⟩
theorem oth {W : World} {X j i : Nat} {v : Value} {o : Obj} (h : W.heap[j]? = some o) (hn : j ≠ X) : (W.setCell ⟨X, i, none⟩ v).heap[j]? = some o := (heap_setCell_other _ _ _ _ hn).trans h
theorem NOut.start (h : NOut w ob OR HP ocur gs k Xs W) (hk : k < gs.length) (ts : List TD) {cb : Nat} {ccur : Array Value} {RX : Nat} (hc : W.heap[cb]? = some (.cells ccur 9 (0, 0))) (hx : W.heap[RX]? = some (.cells (reps ts.length (.pointer none)) 62 (0, 0))) (hnx : RX ∉ Xs) (h3 : w.heap.size ≤ RX) :
    NIn w ob OR HP ocur gs k Xs ts cb ccur RX 0 [] false W := by
  refine ⟨h.o, h.r, ?_, h.rows, hc, by rw [hx]; simp [ptrRow, reps], by simp [TDs], hnx, h.b, h.l1, h.l2, h3⟩
  rw [h.h]
  obtain ⟨m, hm⟩ : ∃ m, gs.length - k = m + 1 := ⟨gs.length - k - 1, by omega⟩
  rw [hm, show gs.length - (k + 1) = m by omega, List.replicate_succ]
theorem set_mid (A : List Value) (x y : Value) (B : List Value) (k : Nat) (h : A.length = k) : (A ++ x :: B).toArray.setIfInBounds k y = (A ++ y :: B).toArray := by
  subst h
  apply Array.toList_inj.1
  simp
theorem NIn.pre (h : NIn w ob OR HP ocur gs k Xs ts cb ccur RX i Cs pr W) (hk : k < gs.length) : NIn w ob OR HP ocur gs k Xs ts cb ccur RX i Cs true (W.setCell ⟨HP, k, none⟩ (.bool true)) := by
  have hf := free_of h.h (by decide) (by decide)
  have hkp := Kp.setCell HP k W (.bool true)
  have hl : (((gs.take k).map anyPre).map Value.bool).length = k := by simp; omega
  have hnr : HP ∉ Xs := fun hm => by
    obtain ⟨cs, hc⟩ := h.rows.mem_lt HP hm
    exact typ_ne h.h hc (by decide) rfl
  refine ⟨oth h.o (typ_ne h.o h.h (by decide)), oth h.r (typ_ne h.r h.h (by decide)), ?_, h.rows.kp hkp hf hnr, oth h.c (typ_ne h.c h.h (by decide)), oth h.x (typ_ne h.x h.h (by decide)), h.t.kp hkp hf, h.nx, h.b.setCell (p := ⟨HP, k, none⟩) h.l2 _, h.l1, h.l2, h.l3⟩
  rw [heap_setCell_same W HP k _ 4 _ h.h]
  rw [set_mid _ _ _ _ _ hl]
theorem NIn.term (h : NIn w ob OR HP ocur gs k Xs ts cb ccur RX i Cs pr W) {C : Nat} {t : TD} (ht : ts[i]? = some t) (hi : Cs.length = i) (hC : TDAt W C t) : NIn w ob OR HP ocur gs k Xs ts cb ccur RX (i + 1) (Cs ++ [C]) pr (W.setCell ⟨RX, i, none⟩ (ptr C)) := by
  have hf := free_of h.x (by decide) (by decide)
  have hkp := Kp.setCell RX i W (ptr C)
  have hlt : i < ts.length := (List.getElem?_eq_some_iff.1 ht).1
  refine ⟨oth h.o (typ_ne h.o h.x (by decide)), oth h.r (typ_ne h.r h.x (by decide)), oth h.h (typ_ne h.h h.x (by decide)), h.rows.kp hkp hf h.nx, oth h.c (typ_ne h.c h.x (by decide)), ?_, ?_, h.nx, h.b.setCell (p := ⟨RX, i, none⟩) h.l3 _, h.l1, h.l2, h.l3⟩
  · rw [heap_setCell_same W RX i _ 62 _ h.x, ← hi, ptrRow_step Cs ts.length C (by omega)]
  · rw [List.take_add_one, ht]
    exact TDs.snoc (hC.kp hkp hf) (h.t.kp hkp hf)
theorem NIn.done (h : NIn w ob OR HP ocur gs k Xs ts cb ccur RX i Cs pr W) (hi : i = ts.length) (hg : gs[k]? = some ts) (hpr : pr = anyPre ts) (hX : Xs.length = k) : NOut w ob OR HP ocur gs (k + 1) (Xs ++ [RX]) (W.setCell ⟨OR, k, none⟩ (rowVal RX ts)) := by
  have hf := free_of h.r (by decide) (by decide)
  have hkp := Kp.setCell OR k W (rowVal RX ts)
  have hlt : k < gs.length := (List.getElem?_eq_some_iff.1 hg).1
  have htk : (gs.take k).length = k := by simp; omega
  have hrl : (rowVals Xs (gs.take k)).length = k := by rw [rowVals_length (by omega)]; exact htk
  have hnr : OR ∉ Xs := fun hm => by
    obtain ⟨cs, hc⟩ := h.rows.mem_lt OR hm
    exact typ_ne h.r hc (by decide) rfl
  have hne : RX ≠ OR := typ_ne h.x h.r (by decide)
  have hrow : RowAt W RX ts := ⟨Cs, h.x, by have := h.t; rwa [hi, List.take_length] at this⟩
  have e1 : gs.take (k + 1) = gs.take k ++ [ts] := by rw [List.take_add_one, hg]; rfl
  refine ⟨oth h.o (typ_ne h.o h.r (by decide)), ?_, ?_, ?_, h.b.setCell (p := ⟨OR, k, none⟩) h.l1 _, h.l1, h.l2⟩
  · rw [heap_setCell_same W OR k _ 61 _ h.r, e1, rowVals_snoc (by omega)]
    have := fill_step (rowVals Xs (gs.take k)) gs.length (rowVal RX ts) (.slice none 0 0) (by omega)
    rw [hrl] at this
    rw [this]
    simp [hrl]
  · rw [oth h.h (typ_ne h.h h.r (by decide)), e1, hpr]
    simp
  · rw [e1]
    exact Rows.snoc (hrow.kp hkp hf hne) (h.rows.kp hkp hf hnr)
end
set_option maxHeartbeats 4000000 in
theorem t31 (s : ByteArray) (hs : s.size ≤ 512) (hrw : noWD s.data.toList = true) (Vs : List ByteArray) (hp : Parted ⟨#[124, 124]⟩ s Vs) (hn : Vs.length ≤ 32) (Ts : List (List Bs)) (gs : List (List TD)) (hl1 : Ts.length = Vs.length) (hl2 : gs.length = Vs.length)
    (hG : ∀ (k : Nat) (v : ByteArray) (tx : List Bs) (ts : List TD), Vs[k]? = some v → Ts[k]? = some tx → gs[k]? = some ts → GSpec v tx ts) (w : World) (hT : Lib.Utf8Tabs 11 12 w) :
    Calls Tryz.prog 18 #[.string s] w fun e w' => ∃ O, e = .returned (.tuple #[ptr O, .nilIface]) ∧ w.heap.size ≤ O ∧ ConsAt w' O gs false ∧ Below w.heap.size w w' := by
  have hnz : 0 < Vs.length := List.length_pos_iff.2 hp.ne
  have k0 : ¬ (512 : Int) < (s.size : Int) := by omega
  have k1 : ¬ (32 : Int) < (Vs.length : Int) := by omega
  have HR := Lib.hid (tRewrite s w (by omega) hT hrw)
  have HP := Lib.hid (fun w => t38 s ⟨#[124, 124]⟩ Vs hp (by omega) (by decide) (by decide) w)
  have HG := Lib.hid hG
  have HL := Lib.hid (And.intro hl1 hl2)
  have HT := Lib.hid hT
  have m47 := mk47 Vs.length (by omega)
  have m48 := mk48 Vs.length (by omega)
  clear hs hrw hp hG hT hl1 hl2
  go_enter Tryz.func18, Tryz.ntmps18
  go_upto_region 10 with (first
    | (go_at_call 24; refine HR.out.mono ?_; rintro e w1 ⟨rfl, hb1⟩; have HB1 := Lib.hid hb1; clear hb1)
    | (go_at_call 25; refine (HP.out _).mono ?_; rintro e w2 ⟨v2, rfl, ho, hb2⟩; obtain ⟨ob, oc, hv2, hob⟩ := World.ownsRow.form ho hnz; subst hv2; obtain ⟨ocur, hob2, hoc⟩ := own_cells ho hnz; have HO := Lib.hid (And.intro hob2 (And.intro hoc (HB1.out.trans (hb2.mono HB1.out.size)))); clear ho hb2 hob hob2 hoc))
  have hst : NOut w ob w2.heap.size (w2.heap.size + 1) ocur gs 0 [] ((w2.alloc (.cells (reps Vs.length (.slice none 0 0)) 61)).alloc (.cells (reps Vs.length (.bool false)) 4)) := by
    obtain ⟨h1, h2, h3⟩ := HO.out
    obtain ⟨l1, l2⟩ := HL.out
    have hobs := (Array.getElem?_eq_some_iff.1 h1).1
    refine ⟨?_, ?_, ?_, by simp [Rows], (h3.alloc h3.size _).alloc (by have := h3.size; simp; omega) _, h3.size, by have := h3.size; omega⟩
    · rw [Below.heap_alloc _ _ _ (by simp; omega), Below.heap_alloc _ _ _ hobs, h1]
    · rw [Below.heap_alloc _ _ _ (by simp), heap_alloc_new w2 _, l2]; simp [rowVals, reps]
    · have := heap_alloc_new (w2.alloc (.cells (reps Vs.length (.slice none 0 0)) 61)) (.cells (reps Vs.length (.bool false)) 4 (0, 0))
      rw [World.size_alloc] at this
      rw [this, l2]; simp [reps]
  generalize ((w2.alloc (.cells (reps Vs.length (.slice none 0 0)) 61)).alloc (.cells (reps Vs.length (.bool false)) 4)) = W3 at *
  generalize w2.heap.size + 1 = HPb at *
  generalize w2.heap.size = OR at *
  have HS := Lib.hid hst
  clear hst m47 m48 k1
  go_wp2
  go_loopw [37] (fun kv W => ∃ (k : Nat) (Xs : List Nat), kv = .int .i64 k ∧ Hid (k ≤ Vs.length ∧ NOut w ob OR HPb ocur gs k Xs W)) (fun kv _ => 100 - (intOf kv).toNat)
  case atStart => exact ⟨0, [], rfl, Lib.hid ⟨Nat.zero_le _, HS.out⟩⟩
  case round =>
    obtain ⟨k, Xs, rfl, HK⟩ := hrel
    by_cases c : k < Vs.length
    · have c1 : (k : Int) < (Vs.length : Int) := by omega
      obtain ⟨v, hv⟩ : ∃ v, Vs[k]? = some v := ⟨_, List.getElem?_eq_getElem c⟩
      obtain ⟨tx, htx⟩ : ∃ tx, Ts[k]? = some tx := ⟨_, List.getElem?_eq_getElem (by have := HL.out.1; omega)⟩
      obtain ⟨ts, hts⟩ : ∃ ts, gs[k]? = some ts := ⟨_, List.getElem?_eq_getElem (by have := HL.out.2; omega)⟩
      have hg := HG.out k v tx ts hv htx hts
      have q0 : wr.cell? ⟨ob, k, none⟩ = some (.string v) := by rw [cell_of_row _ _ _ _ _ _ HK.out.2.o, HO.out.2.1 k (.string v) (by simp [hv])]
      have HGS := Lib.hid hg
      have hpos := hg.pos
      have m60 := mk60 tx.length hg.le
      have q := q52
      have HC := Lib.hid (And.intro c hts)
      clear hv htx hts hg c
      go_upto_region 19 with (first
        | (go_at_call 26; refine (t39 _).mono ?_; rintro e w4 ⟨R, PB, IB, icap, rfl, hp, hr, hb⟩; have HA := Lib.hid (And.intro hp (And.intro hr hb)); clear hp hr hb)
        | (go_at_call 27; refine (HGS.out.valid _ _ _ _ _ HA.out.1 HA.out.2.1 (Utf8Tabs_below HT.out (HK.out.2.keep HA.out.2.2).b)).mono ?_; rintro e w5 ⟨rfl, hb5⟩; have HD := Lib.hid (HA.out.2.2.trans (hb5.mono HA.out.2.2.size)); clear hb5)
        | (go_at_call 29; refine (t42 _).mono ?_; rintro e w6 ⟨R, PB, IB, icap, rfl, hp, hr, hb⟩; have HA2 := Lib.hid (And.intro hp (And.intro hr (HD.out.trans (hb.mono HD.out.size)))); clear hp hr hb)
        | (go_at_call 30; refine (HGS.out.find _ _ _ _ _ HA2.out.1 HA2.out.2.1 (Utf8Tabs_below HT.out (HK.out.2.keep HA2.out.2.2).b)).mono ?_; rintro e w7 ⟨u, rfl, ho, hb7⟩; obtain ⟨cb, cc, hvu, hcb⟩ := World.ownsRow.form ho hpos; subst hvu; obtain ⟨ccur, h1, h2⟩ := own_cells ho hpos; have HF := Lib.hid (And.intro h1 (And.intro h2 (HA2.out.2.2.trans (hb7.mono HA2.out.2.2.size)))); clear ho hb7 hcb h1 h2))
      have hkp := HK.out.2.keep HF.out.2.2
      have hin : NIn w ob OR HPb ocur gs k Xs ts cb ccur w7.heap.size 0 [] false (w7.alloc (.cells (reps tx.length (.pointer none)) 62)) := by
        refine (hkp.keep ((Below.refl _ w7).alloc (Nat.le_refl _) _)).start (by have := HC.out.1; have := HL.out.2; omega) ts ?_ ?_ ?_ hkp.b.size
        · rw [Below.heap_alloc _ _ _ (Array.getElem?_eq_some_iff.1 HF.out.1).1, HF.out.1]
        · rw [heap_alloc_new w7 _, HGS.out.len]
        · intro hm
          obtain ⟨cs, hc⟩ := hkp.rows.mem_lt _ hm
          have := (Array.getElem?_eq_some_iff.1 hc).1
          omega
      generalize w7.alloc (.cells (reps tx.length (.pointer none)) 62) = W8 at *
      generalize w7.heap.size = RX at *
      have HN := Lib.hid hin
      have HX := Lib.hid (show Xs.length = k by have := hkp.rows.length; simp at this; have h1 := HC.out.1; have h2 := HL.out.2; omega)
      clear hin hkp m60 q q0 c1
      go_wp2
      go_loopw [61] (fun iv W => ∃ (i : Nat) (Cs : List Nat), iv = .int .i64 i ∧ Hid (i ≤ tx.length ∧ Cs.length = i ∧ NIn w ob OR HPb ocur gs k Xs ts cb ccur RX i Cs (anyPre (ts.take i)) W)) (fun iv _ => 2000 - (intOf iv).toNat)
      case atStart => exact ⟨0, [], rfl, Lib.hid ⟨Nat.zero_le _, rfl, HN.out⟩⟩
      case round =>
        obtain ⟨i, Cs, rfl, HI⟩ := hrel
        by_cases c : i < tx.length
        · have c1 : (i : Int) < (tx.length : Int) := by omega
          obtain ⟨x, hx⟩ : ∃ x, tx[i]? = some x := ⟨_, List.getElem?_eq_getElem c⟩
          obtain ⟨t, ht⟩ : ∃ t, ts[i]? = some t := ⟨_, List.getElem?_eq_getElem (by rw [← HGS.out.len]; exact c)⟩
          have q0 : wr.cell? ⟨cb, i, none⟩ = some (.string (bytesOf x)) := by rw [cell_of_row _ _ _ _ _ _ HI.out.2.2.c, HF.out.2.1 i (.string (bytesOf x)) (by simp [hx])]
          have HE := Lib.hid (HGS.out.each i x t hx ht)
          have HCI := Lib.hid (And.intro c ht)
          clear hx ht c
          go_upto_region 23 with (go_at_call 31; refine (HE.out _ (Utf8Tabs_below HT.out HI.out.2.2.b)).mono ?_; rintro e w9 ⟨C, rfl, hC1, hC2, hb9⟩; have HY := Lib.hid (And.intro (HI.out.2.2.keep hb9) hC2); clear hC1 hC2 hb9)
          obtain ⟨V, hcon, hver⟩ := HY.out.2
          have p0 : w9.cell? ⟨C, 0, none⟩ = some (.pointer (some ⟨V, 0, none⟩)) := cell_of_row _ _ 0 _ _ _ hcon
          have p3 : w9.cell? ⟨V, 3, none⟩ = some (.string (bytesOf t.pre)) := cell_of_row _ _ 3 _ _ _ hver
          clear hcon hver
          simp only [ptr] at HY ⊢
          have hx1 := HY.out.1
          have r0 : ∃ z, w9.cell? ⟨RX, i, none⟩ = some z := by
            have : i < (ptrRow Cs ts.length).size := by have := HGS.out.len; have := HCI.out.1; have := HI.out.2.1; simp [ptrRow]; omega
            exact ⟨_, by rw [cell_of_row _ _ _ _ _ _ hx1.x, Array.getElem?_eq_getElem this]⟩
          obtain ⟨z, r0⟩ := r0
          have rf := frozen_of_row _ _ i _ _ hx1.x
          have hle := HGS.out.le
          have kN : (k : Int) < (Vs.length : Int) := by have := HC.out.1; omega
          have hne : HPb ≠ RX := typ_ne hx1.h hx1.x (by decide)
          have hl : i < (ts.take i).length + 1 := by have := HGS.out.len; have := HCI.out.1; simp; omega
          have hany : anyPre (ts.take (i + 1)) = (anyPre (ts.take i) || !t.pre.isEmpty) := by
            rw [List.take_add_one, HCI.out.2]; simp [anyPre]
          have HZ := Lib.hid hany
          clear hx1 hl hany
          rcases hpre : t.pre with _ | ⟨y, pr⟩
          · rw [hpre] at p3 HZ
            have n1 := bytesOf_toList []
            go_wp2
            refine ⟨⟨i + 1, Cs ++ [C], by simp, Lib.hid ⟨by have := HCI.out.1; omega, by simp [HI.out.2.1], ?_⟩⟩, by simp only [intOf]; have := HCI.out.1; omega⟩
            rw [HZ.out]
            have := HY.out.1.term HCI.out.2 HI.out.2.1 HY.out.2
            simpa [ptr] using this
          · rw [hpre] at p3 HZ
            have n1 := bytesOf_toList (y :: pr)
            have h0 : ∃ z, w9.cell? ⟨HPb, k, none⟩ = some z := by
              refine ⟨.bool (anyPre (ts.take i)), ?_⟩
              rw [cell_of_row _ _ _ _ _ _ HY.out.1.h]
              have hl : (((gs.take k).map anyPre).map Value.bool).length = k := by simp; have := HC.out.1; have := HL.out.2; omega
              simp only [List.getElem?_toArray]
              rw [List.getElem?_append_right (by omega), hl, Nat.sub_self]
              rfl
            obtain ⟨z0, h0⟩ := h0
            have hf := frozen_of_row _ _ k _ _ HY.out.1.h
            go_wp2
            refine ⟨⟨i + 1, Cs ++ [C], by simp, Lib.hid ⟨by have := HCI.out.1; omega, by simp [HI.out.2.1], ?_⟩⟩, by simp only [intOf]; have := HCI.out.1; omega⟩
            rw [HZ.out]
            have hk : k < gs.length := by have := HC.out.1; have := HL.out.2; omega
            have hfr := free_of HY.out.1.h (by decide) (by decide)
            have := (HY.out.1.pre hk).term HCI.out.2 HI.out.2.1 (HY.out.2.kp (Kp.setCell HPb k w9 (.bool true)) hfr)
            simpa [ptr] using this
        · have hit : i = tx.length := by have := HI.out.1; omega
          subst hit
          clear c
          have kN : (k : Int) < (Vs.length : Int) := by have := HC.out.1; omega
          have r0 : ∃ z, wr.cell? ⟨OR, k, none⟩ = some z := by
            have h1 := HC.out.1
            have h2 := HL.out.2
            have hx := HX.out
            have h3 : (rowVals Xs (gs.take k)).length = k := by rw [rowVals_length (by simp; omega)]; simp; omega
            have : k < (rowVals Xs (gs.take k) ++ List.replicate (gs.length - k) (Value.slice none 0 0)).toArray.size := by simp [h3]; omega
            exact ⟨_, by rw [cell_of_row _ _ _ _ _ _ HI.out.2.2.r, Array.getElem?_eq_getElem this]⟩
          obtain ⟨z, r0⟩ := r0
          have rf := frozen_of_row _ _ k _ _ HI.out.2.2.r
          go_wp2
          refine ⟨⟨k + 1, Xs ++ [RX], by simp, Lib.hid ⟨by have := HC.out.1; omega, ?_⟩⟩, by simp only [intOf]; have := HC.out.1; omega⟩
          have hlen := HGS.out.len
          have hd := HI.out.2.2.done hlen HC.out.2 (by rw [hlen, List.take_length]) HX.out
          unfold rowVal at hd
          rw [← hlen] at hd
          exact hd
    · have hkn : k = Vs.length := by have := HK.out.1; omega
      subst hkn
      clear c
      go_wp2
      go_ret2
      have hN := HK.out.2
      have hlg := HL.out.2
      have hb : Below wr.heap.size wr (wr.alloc (.cells #[.slice (some ⟨OR, 0, none⟩) Vs.length Vs.length, .slice (some ⟨HPb, 0, none⟩) Vs.length Vs.length, .bool false] 50)) := (Below.refl _ wr).alloc (Nat.le_refl _) _
      have h2 := hN.keep hb
      have et : gs.take Vs.length = gs := by rw [← hlg, List.take_length]
      have en : gs.length - Vs.length = 0 := by omega
      refine ⟨wr.heap.size, rfl, hN.b.size, ⟨OR, HPb, Xs, by rw [hlg]; exact heap_alloc_new wr _, ?_, ?_, ?_⟩, h2.b⟩
      · have := h2.r; rw [et, en] at this; simpa using this
      · have := h2.h; rw [et, en] at this; simpa using this
      · have := h2.rows; rwa [et] at this
end Go.Proofs.YtpbmbaffncnglaaGreatDoor.Sv
end
section
set_option linter.unusedVariables false
set_option linter.unusedSimpArgs false
/- a version's good form: its guards, of any answer -/
namespace Go.Proofs.YtpbmbaffncnglaaGreatDoor.Sv
open Go Go.RowKit Rx
set_option maxRecDepth 100000
set_option maxHeartbeats 2000000 in
theorem j21 (s : ByteArray) (hs : s.size ≤ 65536) (w : World) : Calls Tryz.prog 21 #[.string s] w fun e w' => ∃ (v : Value) (D : List ByteArray), e = .returned v ∧ 0 < D.length ∧ D.length ≤ 65537 ∧ (∀ d ∈ D, d.size ≤ 65536) ∧ w'.ownsRow w.heap.size 9 1 v D.length (D.map Value.string) ∧ Below w.heap.size w w' := by
  obtain ⟨i0, hi, hz0, hz1, hz2⟩ := info_parts info9
  have HI := Lib.hid (And.intro hi (And.intro hz0 (And.intro hz1 hz2)))
  have HSZ := Lib.hid hs
  have k9 : (s.size : Int) ≤ 65536 := by omega
  clear hi hz0 hz1 hz2
  go_enter Tryz.func21, Tryz.ntmps21
  go_wp2
  go_loopw [3, 4, 5] (fun lv fv iv wr => ∃ i fr : Nat, iv = .int .i64 i ∧ fv = .int .i64 fr ∧ i ≤ s.size ∧ fr ≤ i ∧ ∃ D : List ByteArray, Hid ((∀ d ∈ D, d.size ≤ 65536) ∧ D.length ≤ fr ∧ wr.ownsRow w.heap.size 9 1 lv D.length (D.map Value.string) ∧ Below w.heap.size w wr)) (fun _ _ iv _ => 70000 - (intOf iv).toNat)
  case atStart => exact ⟨0, 0, rfl, rfl, Nat.zero_le _, Nat.zero_le _, [], Lib.hid ⟨by simp, by simp, World.ownsRow_nil w w.heap.size 9 1, Below.refl _ _⟩⟩
  case round =>
    obtain ⟨i, fr, rfl, rfl, hi, hf, D, HR⟩ := hrel
    have k1 : (fr : Int) ≤ (i : Int) := by omega
    have k2 : (i : Int) ≤ (s.size : Int) := by omega
    have k3 : (fr : Int) ≤ (s.size : Int) := by omega
    by_cases c : i < s.size
    · have c1 : (i : Int) < (s.size : Int) := by omega
      go_wp2_with ((with_reducible refine wpList_append_own (o := ⟨some 22, _, _, _, _, _⟩) _ ?h1 (.tmp 16) (.tmp 21) 40 ?h2 w.heap.size 9 i0 (.string ⟨#[]⟩) 1 16 Tryz.underlying40 HI.out.1 HI.out.2.1 HI.out.2.2.1 HI.out.2.2.2 rfl (by decide) _ D.length _ ?h3 (HR.out.2.2.1.alloc _) ⟨wr.heap.size, 0, none⟩ 1 1 [.string (s.extract fr i)] ?h4 rfl ?h5 ?h6 ?h7 ?h8 ?h9 ?_); (case h1 => rfl); (case h2 => rfl); (case h3 => rfl); (case h4 => rfl); (case h5 => exact cell_one_new _ _ _); (case h6 => simp [Value.oneCell']); (case h7 => (have := HR.out.2.1; have := HSZ.out; unfold maxLen; omega)); (case h8 => (have := HR.out.2.1; have := HSZ.out; omega)); (case h9 => (have := HR.out.2.2.2.size; simp; omega)); intro v' w2 ho' hg' _; have HN := Lib.hid (And.intro ho' (own_fin HR.out.2.2.1 HR.out.2.2.2 hg')); clear ho' hg')
      · obtain ⟨n1, n2⟩ := HN.out
        obtain ⟨r1, r2, r3, r4⟩ := HR.out
        refine ⟨⟨i + 1, i + 1, rfl, rfl, by omega, Nat.le_refl _, D ++ [s.extract fr i], Lib.hid ⟨?_, by simp; omega, by simpa using n1, n2⟩⟩, by simp [intOf]; omega⟩
        intro d hd
        rcases List.mem_append.1 hd with h | h
        · exact r1 d h
        · simp at h; subst h; simp; omega
      · exact ⟨⟨i + 1, fr, rfl, rfl, by omega, by omega, D, HR⟩, by simp [intOf]; omega⟩
    · have c1 : ¬ (i : Int) < (s.size : Int) := by omega
      go_wp2_with ((with_reducible refine wpList_append_own (o := ⟨some 30, _, _, _, _, _⟩) _ ?h1 (.tmp 25) (.tmp 29) 40 ?h2 w.heap.size 9 i0 (.string ⟨#[]⟩) 1 16 Tryz.underlying40 HI.out.1 HI.out.2.1 HI.out.2.2.1 HI.out.2.2.2 rfl (by decide) _ D.length _ ?h3 (HR.out.2.2.1.alloc _) ⟨wr.heap.size, 0, none⟩ 1 1 [.string (s.extract fr s.size)] ?h4 rfl ?h5 ?h6 ?h7 ?h8 ?h9 ?_); (case h1 => rfl); (case h2 => rfl); (case h3 => rfl); (case h4 => rfl); (case h5 => exact cell_one_new _ _ _); (case h6 => simp [Value.oneCell']); (case h7 => (have := HR.out.2.1; have := HSZ.out; unfold maxLen; omega)); (case h8 => (have := HR.out.2.1; have := HSZ.out; omega)); (case h9 => (have := HR.out.2.2.2.size; simp; omega)); intro v' w2 ho' hg' _; have HN := Lib.hid (And.intro ho' (own_fin HR.out.2.2.1 HR.out.2.2.2 hg')); clear ho' hg')
      go_ret
      obtain ⟨n1, n2⟩ := HN.out
      obtain ⟨r1, r2, r3, r4⟩ := HR.out
      have hsz := HSZ.out
      refine ⟨_, rfl, D ++ [s.extract fr s.size], by simp, by simp; omega, ?_, by simpa using n1, n2⟩
      intro d hd
      rcases List.mem_append.1 hd with h | h
      · exact r1 d h
      · simp at h; subst h; simp; omega
set_option maxHeartbeats 2000000 in
theorem j17 (s : ByteArray) (hs : s.size ≤ 65536) (w : World) : Calls Tryz.prog 17 #[.string s] w fun e w' => SomeB e ∧ Below w.heap.size w w' := by
  have H := Lib.hid (j21 s hs w)
  have H2 := Lib.hid j22
  clear hs
  go_enter Tryz.func17, Tryz.ntmps17
  go_upto_region 2 with (go_at_call 21; refine H.out.mono ?_; rintro e w1 ⟨v, D, rfl, hnz, hn, hd, ho, hb⟩; obtain ⟨ob, oc, hv2, hob⟩ := World.ownsRow.form ho hnz; subst hv2; obtain ⟨ocur, hob2, hoc⟩ := own_cells ho hnz; have HO := Lib.hid (And.intro hob2 (And.intro hoc (And.intro hd hb))); have kn : (D.length : Int) ≤ 65537 := (by omega); clear ho hb hob hob2 hoc hd hnz)
  go_wp2
  go_loopw [8] (fun kv W => ∃ k : Nat, kv = .int .i64 k ∧ k ≤ D.length ∧ W = w1) (fun kv _ => 70000 - (intOf kv).toNat)
  case atStart => exact ⟨0, rfl, Nat.zero_le _, rfl⟩
  case round =>
    obtain ⟨k, rfl, hk, rfl⟩ := hrel
    by_cases c : k < D.length
    · have c1 : (k : Int) < (D.length : Int) := by omega
      obtain ⟨d, hd⟩ : ∃ d, D[k]? = some d := ⟨_, List.getElem?_eq_getElem c⟩
      have q0 : wr.cell? ⟨ob, k, none⟩ = some (.string d) := by rw [cell_of_row _ _ _ _ _ _ HO.out.1, HO.out.2.1 k (.string d) (by simp [hd])]
      have hd2 : d.size ≤ 65536 := HO.out.2.2.1 d (List.mem_of_getElem? hd)
      have HX := Lib.hid (H2.out d (by omega) wr)
      clear hd
      go_wp2_with (go_at_call 22; refine HX.out.mono ?_; rintro e w1 ⟨⟨r, rfl⟩, hw⟩; subst hw)
      all_goals first
        | (go_ret; exact ⟨⟨_, rfl⟩, HO.out.2.2.2⟩)
        | exact ⟨⟨k + 1, rfl, by omega, trivial⟩, by simp [intOf]; omega⟩
    · have c1 : ¬ (k : Int) < (D.length : Int) := by omega
      go_wp2
      go_ret
      exact ⟨⟨_, rfl⟩, HO.out.2.2.2⟩
set_option maxHeartbeats 2000000 in
theorem j12 (p m : ByteArray) (w : World) (B : Nat) (h0 : w.cell? ⟨B, 0, none⟩ = some (.string p)) (h1 : w.cell? ⟨B, 1, none⟩ = some (.string m)) : Calls Tryz.prog 12 #[.slice (some ⟨B, 0, none⟩) 2 2] w fun e w' => (∃ r : Bool, e = .returned (.bool r) ∧ (r = true → m.size ≤ 65536)) ∧ w' = w := by
  by_cases k1 : (65536 : Int) < (p.size : Int)
  · go_enter Tryz.func12, Tryz.ntmps12
    go_wp2
    go_loopw [7] (fun kv W => kv = .int .i64 0 ∧ W = w) (fun kv _ => 2 - (intOf kv).toNat)
    case atStart => exact ⟨rfl, rfl⟩
    case round =>
      obtain ⟨rfl, rfl⟩ := hrel
      go_wp2
      go_ret
      exact ⟨⟨_, rfl, fun h => by cases h⟩, rfl⟩
  · by_cases k2 : (65536 : Int) < (m.size : Int)
    · go_enter Tryz.func12, Tryz.ntmps12
      go_wp2
      go_loopw [7] (fun kv W => (kv = .int .i64 0 ∨ kv = .int .i64 1) ∧ W = w) (fun kv _ => 2 - (intOf kv).toNat)
      case atStart => exact ⟨.inl rfl, rfl⟩
      case round =>
        obtain ⟨rfl | rfl, rfl⟩ := hrel
        · go_wp2
          exact ⟨⟨.inr rfl, trivial⟩, by simp [intOf]⟩
        · go_wp2
          go_ret
          exact ⟨⟨_, rfl, fun h => by cases h⟩, rfl⟩
    · go_enter Tryz.func12, Tryz.ntmps12
      go_wp2
      go_loopw [7] (fun kv W => (kv = .int .i64 0 ∨ kv = .int .i64 1 ∨ kv = .int .i64 2) ∧ W = w) (fun kv _ => 2 - (intOf kv).toNat)
      case atStart => exact ⟨.inl rfl, rfl⟩
      case round =>
        obtain ⟨rfl | rfl | rfl, rfl⟩ := hrel
        · go_wp2
          exact ⟨⟨.inr (.inl rfl), trivial⟩, by simp [intOf]⟩
        · go_wp2
          exact ⟨⟨.inr (.inr rfl), trivial⟩, by simp [intOf]⟩
        · go_wp2
          go_ret
          exact ⟨⟨_, rfl, fun _ => by omega⟩, rfl⟩
theorem j13 (a b c : Nat) (m : ByteArray) (hm : m.size ≤ 65536) (w : World) : Calls Tryz.prog 13 #[iv a b c e0 m] w fun e w' => SomeB e ∧ Below w.heap.size w w' := by
  have H := fun w => Lib.hid (j17 m hm w)
  have hal := Lib.hid ((Below.refl _ w).alloc (Nat.le_refl _) (.cells #[.int .u64 a, .int .u64 b, .int .u64 c, .string e0, .string m] 24))
  generalize h1 : (m.toList == []) = r1
  clear hm
  unfold iv e0 at *
  go_enter Tryz.func13, Tryz.ntmps13
  cases r1
  · go_wp2_with (go_at_call 17; refine (H _).out.mono ?_; rintro e w1 ⟨⟨r, rfl⟩, hb⟩; have HB := Lib.hid hb; clear hb)
    all_goals first
      | (go_ret; exact ⟨⟨_, rfl⟩, hal.out⟩)
      | (go_ret; exact ⟨⟨_, rfl⟩, hal.out.trans (HB.out.mono hal.out.size)⟩)
  · go_wp2
    go_ret
    exact ⟨⟨_, rfl⟩, hal.out⟩
theorem new2 (w : World) (o1 : Obj) (xs : Array Value) (t : TypeId) : ((w.alloc o1).alloc (.cells xs t (0, 0))).heap[w.heap.size + 1]? = some (.cells xs t (0, 0)) := by
  have h := heap_alloc_new (w.alloc o1) (.cells xs t (0, 0))
  rwa [World.size_alloc] at h
theorem j12' (p m : ByteArray) (w : World) (o1 : Obj) (t : TypeId) : Calls Tryz.prog 12 #[.slice (some ⟨w.heap.size + 1, 0, none⟩) 2 2] ((w.alloc o1).alloc (.cells #[.string p, .string m] t (0, 0))) fun e w' => (∃ r : Bool, e = .returned (.bool r) ∧ (r = true → m.size ≤ 65536)) ∧ w' = (w.alloc o1).alloc (.cells #[.string p, .string m] t (0, 0)) :=
  j12 p m _ _ (cell_of_row _ _ 0 _ _ _ (new2 w o1 _ _)) (cell_of_row _ _ 1 _ _ _ (new2 w o1 _ _))
set_option maxHeartbeats 2000000 in
theorem j7 (a b c : Nat) (m : ByteArray) (w : World) (B : Nat) (h0 : w.heap[B]? = some (.cells #[.int .u64 a, .int .u64 b, .int .u64 c, .string e0, .string m] 24 (0, 0))) : Calls Tryz.prog 7 #[.slice (some ⟨B, 0, none⟩) 1 1] w fun e w' => SomeB e ∧ Below w.heap.size w w' := by
  have H := fun w o1 t => Lib.hid (j12' e0 m w o1 t)
  have H2 := fun hm w => Lib.hid (j13 a b c m hm w)
  unfold iv at *
  go_enter Tryz.func7, Tryz.ntmps7
  go_wp2
  go_loopw [7] (fun kv W => (kv = .int .i64 0 ∨ kv = .int .i64 1) ∧ Hid (Below w.heap.size w W)) (fun kv _ => 2 - (intOf kv).toNat)
  case atStart => exact ⟨.inl rfl, Lib.hid (Below.refl _ _)⟩
  case round =>
    obtain ⟨rfl | rfl, HB⟩ := hrel
    · have q := jblk HB.out h0
      have q0 := cell_of_row _ _ 0 _ _ _ q
      have q1 := cell_of_row _ _ 1 _ _ _ q
      have q2 := cell_of_row _ _ 2 _ _ _ q
      have q3 := cell_of_row _ _ 3 _ _ _ q
      have q4 := cell_of_row _ _ 4 _ _ _ q
      have HA := Lib.hid (((HB.out.alloc HB.out.size (.cells #[.int .u64 a, .int .u64 b, .int .u64 c, .string e0, .string m] 24)).alloc (by have := HB.out.size; simp; omega) (.cells #[.string e0, .string m] 9)))
      simp at q0 q1 q2 q3 q4
      clear q
      by_cases hm : m.size ≤ 65536
      · go_wp2_with (first
          | (go_at_call 12; refine (H _ _ _).out.mono ?_; rintro e w1 ⟨⟨r, rfl, hr⟩, hw⟩; subst hw; clear hr)
          | (go_at_call 13; refine (H2 hm _).out.mono ?_; rintro e w1 ⟨⟨r, rfl⟩, hb⟩; have HB2 := Lib.hid hb; clear hb))
        all_goals first
          | (go_ret; exact ⟨⟨_, rfl⟩, HA.out⟩)
          | (go_ret; exact ⟨⟨_, rfl⟩, HA.out.trans (HB2.out.mono HA.out.size)⟩)
          | exact ⟨⟨.inr rfl, Lib.hid (HA.out.trans (HB2.out.mono HA.out.size))⟩, by simp [intOf]⟩
      · go_wp2_with (go_at_call 12; refine (H _ _ _).out.mono ?_; rintro e w1 ⟨⟨r, rfl, hr⟩, hw⟩; subst hw; cases r; all_goals (try exact absurd (hr rfl) hm))
        go_ret
        exact ⟨⟨_, rfl⟩, HA.out⟩
    · go_wp2
      go_ret
      exact ⟨⟨_, rfl⟩, HB.out⟩
end Go.Proofs.YtpbmbaffncnglaaGreatDoor.Sv
end
section
set_option linter.unusedVariables false
set_option linter.unusedSimpArgs false
/- versions are compared -/
namespace Go.Proofs.YtpbmbaffncnglaaGreatDoor.Sv
open Go Go.RowKit Rx
set_option maxRecDepth 100000
abbrev ver (a b c : Nat) (p m o : ByteArray) : Value := .agg #[.int .u64 a, .int .u64 b, .int .u64 c, .string p, .string m, .string o]
theorem tMajor (a b c : Nat) (p m o : ByteArray) (w : World) : Calls Tryz.prog 75 #[ver a b c p m o] w fun e w' => e = .returned (.int .u64 a) ∧ Below w.heap.size w w' := by
  unfold ver
  go_enter Tryz.func75, Tryz.ntmps75
  go_wp2
  go_ret
  exact ⟨rfl, (Below.refl _ w).alloc (Nat.le_refl _) _⟩
theorem tMinor (a b c : Nat) (p m o : ByteArray) (w : World) : Calls Tryz.prog 76 #[ver a b c p m o] w fun e w' => e = .returned (.int .u64 b) ∧ Below w.heap.size w w' := by
  unfold ver
  go_enter Tryz.func76, Tryz.ntmps76
  go_wp2
  go_ret
  exact ⟨rfl, (Below.refl _ w).alloc (Nat.le_refl _) _⟩
theorem tPatch (a b c : Nat) (p m o : ByteArray) (w : World) : Calls Tryz.prog 77 #[ver a b c p m o] w fun e w' => e = .returned (.int .u64 c) ∧ Below w.heap.size w w' := by
  unfold ver
  go_enter Tryz.func77, Tryz.ntmps77
  go_wp2
  go_ret
  exact ⟨rfl, (Below.refl _ w).alloc (Nat.le_refl _) _⟩
theorem tPrere (a b c : Nat) (p m o : ByteArray) (w : World) : Calls Tryz.prog 73 #[ver a b c p m o] w fun e w' => e = .returned (.string p) ∧ Below w.heap.size w w' := by
  unfold ver
  go_enter Tryz.func73, Tryz.ntmps73
  go_wp2
  go_ret
  exact ⟨rfl, (Below.refl _ w).alloc (Nat.le_refl _) _⟩
def seg (x y : Nat) : Int := if x < y then -1 else if y < x then 1 else 0
theorem tSeg (x y : Nat) (w : World) : Calls Tryz.prog 95 #[.int .u64 x, .int .u64 y] w fun e w' => e = .returned (.int .i64 (seg x y)) ∧ w' = w := by
  unfold seg
  by_cases h1 : x < y
  · have k1 : (x : Int) < y := by omega
    rw [if_pos h1]
    go_enter Tryz.func95, Tryz.ntmps95
    go_wp2
    go_ret
    exact ⟨rfl, rfl⟩
  · have k1 : ¬ (x : Int) < y := by omega
    rw [if_neg h1]
    by_cases h2 : y < x
    · have k2 : (y : Int) < x := by omega
      rw [if_pos h2]
      go_enter Tryz.func95, Tryz.ntmps95
      go_wp2
      go_ret
      exact ⟨rfl, rfl⟩
    · have k2 : ¬ (y : Int) < x := by omega
      rw [if_neg h2]
      go_enter Tryz.func95, Tryz.ntmps95
      go_wp2
      go_ret
      exact ⟨rfl, rfl⟩
end Go.Proofs.YtpbmbaffncnglaaGreatDoor.Sv
end
section
set_option linter.unusedVariables false
set_option linter.unusedSimpArgs false
/- Compare -/
namespace Go.Proofs.YtpbmbaffncnglaaGreatDoor.Sv
open Go Go.RowKit Rx
set_option maxRecDepth 100000
def S2 (w : World) (V U a b c : Nat) (p m o : ByteArray) (a2 b2 c2 : Nat) (p2 m2 o2 : ByteArray) (w' : World) : Prop := w'.cell? ⟨V, 0, none⟩ = some (.int .u64 a) ∧ w'.cell? ⟨V, 1, none⟩ = some (.int .u64 b) ∧ w'.cell? ⟨V, 2, none⟩ = some (.int .u64 c) ∧ w'.cell? ⟨V, 3, none⟩ = some (.string p) ∧ w'.cell? ⟨V, 4, none⟩ = some (.string m) ∧ w'.cell? ⟨V, 5, none⟩ = some (.string o) ∧ w'.cell? ⟨U, 0, none⟩ = some (.int .u64 a2) ∧ w'.cell? ⟨U, 1, none⟩ = some (.int .u64 b2) ∧ w'.cell? ⟨U, 2, none⟩ = some (.int .u64 c2) ∧ w'.cell? ⟨U, 3, none⟩ = some (.string p2) ∧ w'.cell? ⟨U, 4, none⟩ = some (.string m2) ∧ w'.cell? ⟨U, 5, none⟩ = some (.string o2) ∧ Below w.heap.size w w'
theorem belk {w w1 w2 : World} (hb : Below w1.heap.size w1 w2) (h : Below w.heap.size w w1) : Below w.heap.size w w2 := h.trans (hb.mono h.size)
/-- a release against a version -/
def cmpRel (a b c a2 b2 c2 : Nat) (rel : Bool) : Int := if seg a a2 ≠ 0 then seg a a2 else if seg b b2 ≠ 0 then seg b b2 else if seg c c2 ≠ 0 then seg c c2 else if rel then 0 else 1
set_option maxHeartbeats 8000000 in
theorem tCmp (w : World) (V U a b c : Nat) (p m o : ByteArray) (a2 b2 c2 : Nat) (p2 m2 o2 : ByteArray) (h : S2 w V U a b c p m o a2 b2 c2 p2 m2 o2 w) (hp : p.toList.isEmpty = true) (rel : Bool) (hr : p2.toList.isEmpty = rel) :
    Calls Tryz.prog 79 #[.pointer (some ⟨V, 0, none⟩), .pointer (some ⟨U, 0, none⟩)] w fun e w' => e = .returned (.int .i64 (cmpRel a b c a2 b2 c2 rel)) ∧ Below w.heap.size w w' := by
  obtain ⟨q0, q1, q2, q3, q4, q5, q6, q7, q8, q9, q10, q11, q12⟩ := h
  generalize hres : cmpRel a b c a2 b2 c2 rel = r
  have HRES := Lib.hid hres
  clear hres
  go_enter Tryz.func79, Tryz.ntmps79
  go_wp2
  go_region_held3 (fun w' => w'.cell? ⟨V, 0, none⟩ = some (.int .u64 a) ∧ w'.cell? ⟨V, 1, none⟩ = some (.int .u64 b) ∧ w'.cell? ⟨V, 2, none⟩ = some (.int .u64 c) ∧ w'.cell? ⟨V, 3, none⟩ = some (.string p) ∧ w'.cell? ⟨V, 4, none⟩ = some (.string m) ∧ w'.cell? ⟨V, 5, none⟩ = some (.string o) ∧ w'.cell? ⟨U, 0, none⟩ = some (.int .u64 a2) ∧ w'.cell? ⟨U, 1, none⟩ = some (.int .u64 b2) ∧ w'.cell? ⟨U, 2, none⟩ = some (.int .u64 c2) ∧ w'.cell? ⟨U, 3, none⟩ = some (.string p2) ∧ w'.cell? ⟨U, 4, none⟩ = some (.string m2) ∧ w'.cell? ⟨U, 5, none⟩ = some (.string o2) ∧ Below w.heap.size w w') (first | exact ⟨by assumption, by assumption, by assumption, by assumption, by assumption, by assumption, by assumption, by assumption, by assumption, by assumption, by assumption, by assumption, by assumption⟩ | exact ⟨by first | assumption | (rw [World.cell?_drew]; assumption), by first | assumption | (rw [World.cell?_drew]; assumption), by first | assumption | (rw [World.cell?_drew]; assumption), by first | assumption | (rw [World.cell?_drew]; assumption), by first | assumption | (rw [World.cell?_drew]; assumption), by first | assumption | (rw [World.cell?_drew]; assumption), by first | assumption | (rw [World.cell?_drew]; assumption), by first | assumption | (rw [World.cell?_drew]; assumption), by first | assumption | (rw [World.cell?_drew]; assumption), by first | assumption | (rw [World.cell?_drew]; assumption), by first | assumption | (rw [World.cell?_drew]; assumption), by first | assumption | (rw [World.cell?_drew]; assumption), by first | assumption | (refine Below.drew ?_; assumption)⟩) (first | (go_at_call 75; refine (tMajor _ _ _ _ _ _ _).mono ?_; rintro e w1 ⟨rfl, hb⟩; have HS2 : S2 w V U a b c p m o a2 b2 c2 p2 m2 o2 w1 := ⟨keepc hb (by first | assumption | (rw [World.cell?_drew]; assumption)), keepc hb (by first | assumption | (rw [World.cell?_drew]; assumption)), keepc hb (by first | assumption | (rw [World.cell?_drew]; assumption)), keepc hb (by first | assumption | (rw [World.cell?_drew]; assumption)), keepc hb (by first | assumption | (rw [World.cell?_drew]; assumption)), keepc hb (by first | assumption | (rw [World.cell?_drew]; assumption)), keepc hb (by first | assumption | (rw [World.cell?_drew]; assumption)), keepc hb (by first | assumption | (rw [World.cell?_drew]; assumption)), keepc hb (by first | assumption | (rw [World.cell?_drew]; assumption)), keepc hb (by first | assumption | (rw [World.cell?_drew]; assumption)), keepc hb (by first | assumption | (rw [World.cell?_drew]; assumption)), keepc hb (by first | assumption | (rw [World.cell?_drew]; assumption)), belk hb (by first | assumption | (refine Below.drew ?_; assumption))⟩; clear hb; obtain ⟨q0, q1, q2, q3, q4, q5, q6, q7, q8, q9, q10, q11, q12⟩ := HS2) | (go_at_call 95; refine (tSeg _ _ _).mono ?_; rintro e w1 ⟨rfl, rfl⟩))
  by_cases d1 : seg a a2 ≠ 0
  · have e1 : (seg a a2 == 0) = false := by simpa using d1
    go_wp2
    go_ret
    exact ⟨by rw [← HRES.out, cmpRel, if_pos d1]; rfl, by first | assumption | (refine Below.drew ?_; assumption)⟩
  · have e1 : seg a a2 = 0 := by simpa using d1
    have HD1 := Lib.hid d1
    clear d1
    rw [e1]
    clear e1
    go_wp2
    go_region_held3 (fun w' => w'.cell? ⟨V, 0, none⟩ = some (.int .u64 a) ∧ w'.cell? ⟨V, 1, none⟩ = some (.int .u64 b) ∧ w'.cell? ⟨V, 2, none⟩ = some (.int .u64 c) ∧ w'.cell? ⟨V, 3, none⟩ = some (.string p) ∧ w'.cell? ⟨V, 4, none⟩ = some (.string m) ∧ w'.cell? ⟨V, 5, none⟩ = some (.string o) ∧ w'.cell? ⟨U, 0, none⟩ = some (.int .u64 a2) ∧ w'.cell? ⟨U, 1, none⟩ = some (.int .u64 b2) ∧ w'.cell? ⟨U, 2, none⟩ = some (.int .u64 c2) ∧ w'.cell? ⟨U, 3, none⟩ = some (.string p2) ∧ w'.cell? ⟨U, 4, none⟩ = some (.string m2) ∧ w'.cell? ⟨U, 5, none⟩ = some (.string o2) ∧ Below w.heap.size w w') (first | exact ⟨by assumption, by assumption, by assumption, by assumption, by assumption, by assumption, by assumption, by assumption, by assumption, by assumption, by assumption, by assumption, by assumption⟩ | exact ⟨by first | assumption | (rw [World.cell?_drew]; assumption), by first | assumption | (rw [World.cell?_drew]; assumption), by first | assumption | (rw [World.cell?_drew]; assumption), by first | assumption | (rw [World.cell?_drew]; assumption), by first | assumption | (rw [World.cell?_drew]; assumption), by first | assumption | (rw [World.cell?_drew]; assumption), by first | assumption | (rw [World.cell?_drew]; assumption), by first | assumption | (rw [World.cell?_drew]; assumption), by first | assumption | (rw [World.cell?_drew]; assumption), by first | assumption | (rw [World.cell?_drew]; assumption), by first | assumption | (rw [World.cell?_drew]; assumption), by first | assumption | (rw [World.cell?_drew]; assumption), by first | assumption | (refine Below.drew ?_; assumption)⟩) (first | (go_at_call 76; refine (tMinor _ _ _ _ _ _ _).mono ?_; rintro e w1 ⟨rfl, hb⟩; have HS2 : S2 w V U a b c p m o a2 b2 c2 p2 m2 o2 w1 := ⟨keepc hb (by first | assumption | (rw [World.cell?_drew]; assumption)), keepc hb (by first | assumption | (rw [World.cell?_drew]; assumption)), keepc hb (by first | assumption | (rw [World.cell?_drew]; assumption)), keepc hb (by first | assumption | (rw [World.cell?_drew]; assumption)), keepc hb (by first | assumption | (rw [World.cell?_drew]; assumption)), keepc hb (by first | assumption | (rw [World.cell?_drew]; assumption)), keepc hb (by first | assumption | (rw [World.cell?_drew]; assumption)), keepc hb (by first | assumption | (rw [World.cell?_drew]; assumption)), keepc hb (by first | assumption | (rw [World.cell?_drew]; assumption)), keepc hb (by first | assumption | (rw [World.cell?_drew]; assumption)), keepc hb (by first | assumption | (rw [World.cell?_drew]; assumption)), keepc hb (by first | assumption | (rw [World.cell?_drew]; assumption)), belk hb (by first | assumption | (refine Below.drew ?_; assumption))⟩; clear hb; obtain ⟨q0, q1, q2, q3, q4, q5, q6, q7, q8, q9, q10, q11, q12⟩ := HS2) | (go_at_call 95; refine (tSeg _ _ _).mono ?_; rintro e w1 ⟨rfl, rfl⟩))
    by_cases d2 : seg b b2 ≠ 0
    · have e2 : (seg b b2 == 0) = false := by simpa using d2
      go_wp2
      go_ret
      exact ⟨by rw [← HRES.out, cmpRel, if_neg HD1.out, if_pos d2]; rfl, by first | assumption | (refine Below.drew ?_; assumption)⟩
    · have e2 : seg b b2 = 0 := by simpa using d2
      have HD2 := Lib.hid d2
      clear d2
      rw [e2]
      clear e2
      go_wp2
      go_region_held3 (fun w' => w'.cell? ⟨V, 0, none⟩ = some (.int .u64 a) ∧ w'.cell? ⟨V, 1, none⟩ = some (.int .u64 b) ∧ w'.cell? ⟨V, 2, none⟩ = some (.int .u64 c) ∧ w'.cell? ⟨V, 3, none⟩ = some (.string p) ∧ w'.cell? ⟨V, 4, none⟩ = some (.string m) ∧ w'.cell? ⟨V, 5, none⟩ = some (.string o) ∧ w'.cell? ⟨U, 0, none⟩ = some (.int .u64 a2) ∧ w'.cell? ⟨U, 1, none⟩ = some (.int .u64 b2) ∧ w'.cell? ⟨U, 2, none⟩ = some (.int .u64 c2) ∧ w'.cell? ⟨U, 3, none⟩ = some (.string p2) ∧ w'.cell? ⟨U, 4, none⟩ = some (.string m2) ∧ w'.cell? ⟨U, 5, none⟩ = some (.string o2) ∧ Below w.heap.size w w') (first | exact ⟨by assumption, by assumption, by assumption, by assumption, by assumption, by assumption, by assumption, by assumption, by assumption, by assumption, by assumption, by assumption, by assumption⟩ | exact ⟨by first | assumption | (rw [World.cell?_drew]; assumption), by first | assumption | (rw [World.cell?_drew]; assumption), by first | assumption | (rw [World.cell?_drew]; assumption), by first | assumption | (rw [World.cell?_drew]; assumption), by first | assumption | (rw [World.cell?_drew]; assumption), by first | assumption | (rw [World.cell?_drew]; assumption), by first | assumption | (rw [World.cell?_drew]; assumption), by first | assumption | (rw [World.cell?_drew]; assumption), by first | assumption | (rw [World.cell?_drew]; assumption), by first | assumption | (rw [World.cell?_drew]; assumption), by first | assumption | (rw [World.cell?_drew]; assumption), by first | assumption | (rw [World.cell?_drew]; assumption), by first | assumption | (refine Below.drew ?_; assumption)⟩) (first | (go_at_call 77; refine (tPatch _ _ _ _ _ _ _).mono ?_; rintro e w1 ⟨rfl, hb⟩; have HS2 : S2 w V U a b c p m o a2 b2 c2 p2 m2 o2 w1 := ⟨keepc hb (by first | assumption | (rw [World.cell?_drew]; assumption)), keepc hb (by first | assumption | (rw [World.cell?_drew]; assumption)), keepc hb (by first | assumption | (rw [World.cell?_drew]; assumption)), keepc hb (by first | assumption | (rw [World.cell?_drew]; assumption)), keepc hb (by first | assumption | (rw [World.cell?_drew]; assumption)), keepc hb (by first | assumption | (rw [World.cell?_drew]; assumption)), keepc hb (by first | assumption | (rw [World.cell?_drew]; assumption)), keepc hb (by first | assumption | (rw [World.cell?_drew]; assumption)), keepc hb (by first | assumption | (rw [World.cell?_drew]; assumption)), keepc hb (by first | assumption | (rw [World.cell?_drew]; assumption)), keepc hb (by first | assumption | (rw [World.cell?_drew]; assumption)), keepc hb (by first | assumption | (rw [World.cell?_drew]; assumption)), belk hb (by first | assumption | (refine Below.drew ?_; assumption))⟩; clear hb; obtain ⟨q0, q1, q2, q3, q4, q5, q6, q7, q8, q9, q10, q11, q12⟩ := HS2) | (go_at_call 95; refine (tSeg _ _ _).mono ?_; rintro e w1 ⟨rfl, rfl⟩))
      by_cases d3 : seg c c2 ≠ 0
      · have e3 : (seg c c2 == 0) = false := by simpa using d3
        go_wp2
        go_ret
        exact ⟨by rw [← HRES.out, cmpRel, if_neg HD1.out, if_neg HD2.out, if_pos d3]; rfl, by first | assumption | (refine Below.drew ?_; assumption)⟩
      · have e3 : seg c c2 = 0 := by simpa using d3
        have HD3 := Lib.hid d3
        clear d3
        rw [e3]
        clear e3
        go_wp2_with (go_at_call 73; refine (tPrere _ _ _ _ _ _ _).mono ?_; rintro e w1 ⟨rfl, hb⟩)
        all_goals go_ret
        all_goals refine ⟨?_, belk hb (by first | assumption | (refine Below.drew ?_; assumption))⟩
        all_goals rw [← HRES.out, cmpRel, if_neg HD1.out, if_neg HD2.out, if_neg HD3.out]
        all_goals simp_all
end Go.Proofs.YtpbmbaffncnglaaGreatDoor.Sv
end
section
set_option linter.unusedVariables false
set_option linter.unusedSimpArgs false
/- the operators of a constraint, of a release: no number missing -/
namespace Go.Proofs.YtpbmbaffncnglaaGreatDoor.Sv
open Go Go.RowKit Rx
set_option maxRecDepth 100000
def S3 (w : World) (V U C a b c : Nat) (p m o : ByteArray) (a2 b2 c2 : Nat) (p2 m2 o2 op : ByteArray) (md d pd : Bool) (w' : World) : Prop := w'.cell? ⟨V, 0, none⟩ = some (.int .u64 a) ∧ w'.cell? ⟨V, 1, none⟩ = some (.int .u64 b) ∧ w'.cell? ⟨V, 2, none⟩ = some (.int .u64 c) ∧ w'.cell? ⟨V, 3, none⟩ = some (.string p) ∧ w'.cell? ⟨V, 4, none⟩ = some (.string m) ∧ w'.cell? ⟨V, 5, none⟩ = some (.string o) ∧ w'.cell? ⟨U, 0, none⟩ = some (.int .u64 a2) ∧ w'.cell? ⟨U, 1, none⟩ = some (.int .u64 b2) ∧ w'.cell? ⟨U, 2, none⟩ = some (.int .u64 c2) ∧ w'.cell? ⟨U, 3, none⟩ = some (.string p2) ∧ w'.cell? ⟨U, 4, none⟩ = some (.string m2) ∧ w'.cell? ⟨U, 5, none⟩ = some (.string o2) ∧ w'.cell? ⟨C, 0, none⟩ = some (.pointer (some ⟨U, 0, none⟩)) ∧ w'.cell? ⟨C, 2, none⟩ = some (.string op) ∧ w'.cell? ⟨C, 3, none⟩ = some (.bool md) ∧ w'.cell? ⟨C, 4, none⟩ = some (.bool d) ∧ w'.cell? ⟨C, 5, none⟩ = some (.bool pd) ∧ Below w.heap.size w w'
theorem tErr (s : ByteArray) (w : World) : Calls Tryz.prog 28 #[.string s] w fun e w' => ∃ t a, e = .returned (.iface t (.pointer (some a))) ∧ Below w.heap.size w w' := by
  go_enter Tryz.func28, Tryz.ntmps28
  go_wp2
  go_ret
  exact ⟨_, _, rfl, (Below.refl _ w).alloc (Nat.le_refl _) _⟩
theorem tLess (w : World) (V U a b c : Nat) (p m o : ByteArray) (a2 b2 c2 : Nat) (p2 m2 o2 : ByteArray) (h : S2 w V U a b c p m o a2 b2 c2 p2 m2 o2 w) (hp : p.toList.isEmpty = true) (rel : Bool) (hr : p2.toList.isEmpty = rel) :
    Calls Tryz.prog 80 #[.pointer (some ⟨V, 0, none⟩), .pointer (some ⟨U, 0, none⟩)] w fun e w' => e = .returned (.bool (decide (cmpRel a b c a2 b2 c2 rel < 0))) ∧ Below w.heap.size w w' := by
  have H := Lib.hid (tCmp w V U a b c p m o a2 b2 c2 p2 m2 o2 h hp rel hr)
  clear h hp hr
  generalize cmpRel a b c a2 b2 c2 rel = r at *
  go_enter Tryz.func80, Tryz.ntmps80
  go_wp2_with (go_at_call 79; refine H.out.mono ?_; rintro e w1 ⟨rfl, hb⟩; have HB := Lib.hid hb; clear hb)
  go_ret
  exact ⟨rfl, HB.out⟩
theorem ret_bool {x r : Bool} {ev : Value} {w w' : World} (hx : x = r) (hb : Below w.heap.size w w') : ∃ ev', Ending.returned (.tuple #[.bool x, ev]) = Ending.returned (.tuple #[.bool r, ev']) ∧ Below w.heap.size w w' := ⟨ev, by rw [hx], hb⟩
set_option maxHeartbeats 4000000 in
theorem tGt (w : World) (V U C a b c : Nat) (p m o : ByteArray) (a2 b2 c2 : Nat) (p2 m2 o2 op : ByteArray) (md d pd inc : Bool) (h : S3 w V U C a b c p m o a2 b2 c2 p2 m2 o2 op md d pd w) (hp : p.toList.isEmpty = true) (rel : Bool) (hr : p2.toList.isEmpty = rel) (hd : d = false) :
    Calls Tryz.prog 52 #[.pointer (some ⟨V, 0, none⟩), .pointer (some ⟨C, 0, none⟩), .bool inc] w fun e w' => ∃ ev, e = .returned (.tuple #[.bool (cmpRel a b c a2 b2 c2 rel == 1), ev]) ∧ Below w.heap.size w w' := by
  subst hd
  obtain ⟨q0, q1, q2, q3, q4, q5, q6, q7, q8, q9, q10, q11, q12, q13, q14, q15, q16, q17⟩ := h
  go_enter Tryz.func52, Tryz.ntmps52
  go_wp2_with (first
    | (go_at_call 73; refine (tPrere _ _ _ _ _ _ _).mono ?_; rintro e w1 ⟨rfl, hb⟩; have q0 := keepc hb q0; have q1 := keepc hb q1; have q2 := keepc hb q2; have q3 := keepc hb q3; have q4 := keepc hb q4; have q5 := keepc hb q5; have q6 := keepc hb q6; have q7 := keepc hb q7; have q8 := keepc hb q8; have q9 := keepc hb q9; have q10 := keepc hb q10; have q11 := keepc hb q11; have q12 := keepc hb q12; have q13 := keepc hb q13; have q14 := keepc hb q14; have q15 := keepc hb q15; have q16 := keepc hb q16; have q17 := belk hb q17; clear hb)
    | (go_at_call 79; refine (tCmp _ V U a b c p m o a2 b2 c2 p2 m2 o2 ⟨q0, q1, q2, q3, q4, q5, q6, q7, q8, q9, q10, q11, Below.refl _ _⟩ hp rel hr).mono ?_; rintro e w2 ⟨rfl, hb⟩; have q0 := keepc hb q0; have q1 := keepc hb q1; have q2 := keepc hb q2; have q3 := keepc hb q3; have q4 := keepc hb q4; have q5 := keepc hb q5; have q6 := keepc hb q6; have q7 := keepc hb q7; have q8 := keepc hb q8; have q9 := keepc hb q9; have q10 := keepc hb q10; have q11 := keepc hb q11; have q12 := keepc hb q12; have q13 := keepc hb q13; have q14 := keepc hb q14; have q15 := keepc hb q15; have q16 := keepc hb q16; have q17 := belk hb q17; clear hb)
    | (go_at_call 28; refine (tErr _ _).mono ?_; rintro e w3 ⟨t3, a3, rfl, hb⟩; have q0 := keepc hb q0; have q1 := keepc hb q1; have q2 := keepc hb q2; have q3 := keepc hb q3; have q4 := keepc hb q4; have q5 := keepc hb q5; have q6 := keepc hb q6; have q7 := keepc hb q7; have q8 := keepc hb q8; have q9 := keepc hb q9; have q10 := keepc hb q10; have q11 := keepc hb q11; have q12 := keepc hb q12; have q13 := keepc hb q13; have q14 := keepc hb q14; have q15 := keepc hb q15; have q16 := keepc hb q16; have q17 := belk hb q17; clear hb))
  all_goals go_ret2
  all_goals first
    | (rw [show (cmpRel a b c a2 b2 c2 rel == 1) = true by assumption]; exact ⟨_, rfl, by assumption⟩)
    | (rw [show (cmpRel a b c a2 b2 c2 rel == 1) = false by assumption]; exact ⟨_, rfl, by assumption⟩)
end Go.Proofs.YtpbmbaffncnglaaGreatDoor.Sv
end
section
set_option linter.unusedVariables false
set_option linter.unusedSimpArgs false
/- the caret, of a release -/
namespace Go.Proofs.YtpbmbaffncnglaaGreatDoor.Sv
open Go Go.RowKit Rx
set_option maxRecDepth 100000
def caretR (a b c a2 b2 c2 : Nat) (rel md pd : Bool) : Bool := if cmpRel a b c a2 b2 c2 rel < 0 then false else if 0 < a2 ∨ md = true then decide (a = a2) else if 0 < a then false else if 0 < b2 ∨ pd = true then decide (b = b2) else if 0 < b then false else decide (c2 = c)
set_option maxHeartbeats 8000000 in
theorem tCaret (w : World) (V U C a b c : Nat) (p m o : ByteArray) (a2 b2 c2 : Nat) (p2 m2 o2 op : ByteArray) (md d pd inc : Bool) (h : S3 w V U C a b c p m o a2 b2 c2 p2 m2 o2 op md d pd w) (hp : p.toList.isEmpty = true) (rel : Bool) (hr : p2.toList.isEmpty = rel) :
    Calls Tryz.prog 57 #[.pointer (some ⟨V, 0, none⟩), .pointer (some ⟨C, 0, none⟩), .bool inc] w fun e w' => ∃ ev, e = .returned (.tuple #[.bool (caretR a b c a2 b2 c2 rel md pd), ev]) ∧ Below w.heap.size w w' := by
  obtain ⟨q0, q1, q2, q3, q4, q5, q6, q7, q8, q9, q10, q11, q12, q13, q14, q15, q16, q17⟩ := h
  generalize hres : caretR a b c a2 b2 c2 rel md pd = res
  have HRES := Lib.hid hres
  clear hres
  generalize hlt : decide (cmpRel a b c a2 b2 c2 rel < 0) = lt
  have HLT := Lib.hid hlt
  go_enter Tryz.func57, Tryz.ntmps57
  cases lt
  · have HN := Lib.hid (of_decide_eq_false HLT.out)
    by_cases x1 : 0 < a2
    · have y1 : (0 : Int) < (a2 : Int) := by omega
      go_upto_region 7 with (first | (go_at_call 73; refine (tPrere _ _ _ _ _ _ _).mono ?_; rintro e w1 ⟨rfl, hb⟩; have q0 := keepc hb q0; have q1 := keepc hb q1; have q2 := keepc hb q2; have q3 := keepc hb q3; have q4 := keepc hb q4; have q5 := keepc hb q5; have q6 := keepc hb q6; have q7 := keepc hb q7; have q8 := keepc hb q8; have q9 := keepc hb q9; have q10 := keepc hb q10; have q11 := keepc hb q11; have q12 := keepc hb q12; have q13 := keepc hb q13; have q14 := keepc hb q14; have q15 := keepc hb q15; have q16 := keepc hb q16; have q17 := belk hb q17; clear hb) | (go_at_call 75; refine (tMajor _ _ _ _ _ _ _).mono ?_; rintro e w1 ⟨rfl, hb⟩; have q0 := keepc hb q0; have q1 := keepc hb q1; have q2 := keepc hb q2; have q3 := keepc hb q3; have q4 := keepc hb q4; have q5 := keepc hb q5; have q6 := keepc hb q6; have q7 := keepc hb q7; have q8 := keepc hb q8; have q9 := keepc hb q9; have q10 := keepc hb q10; have q11 := keepc hb q11; have q12 := keepc hb q12; have q13 := keepc hb q13; have q14 := keepc hb q14; have q15 := keepc hb q15; have q16 := keepc hb q16; have q17 := belk hb q17; clear hb) | (go_at_call 76; refine (tMinor _ _ _ _ _ _ _).mono ?_; rintro e w1 ⟨rfl, hb⟩; have q0 := keepc hb q0; have q1 := keepc hb q1; have q2 := keepc hb q2; have q3 := keepc hb q3; have q4 := keepc hb q4; have q5 := keepc hb q5; have q6 := keepc hb q6; have q7 := keepc hb q7; have q8 := keepc hb q8; have q9 := keepc hb q9; have q10 := keepc hb q10; have q11 := keepc hb q11; have q12 := keepc hb q12; have q13 := keepc hb q13; have q14 := keepc hb q14; have q15 := keepc hb q15; have q16 := keepc hb q16; have q17 := belk hb q17; clear hb) | (go_at_call 77; refine (tPatch _ _ _ _ _ _ _).mono ?_; rintro e w1 ⟨rfl, hb⟩; have q0 := keepc hb q0; have q1 := keepc hb q1; have q2 := keepc hb q2; have q3 := keepc hb q3; have q4 := keepc hb q4; have q5 := keepc hb q5; have q6 := keepc hb q6; have q7 := keepc hb q7; have q8 := keepc hb q8; have q9 := keepc hb q9; have q10 := keepc hb q10; have q11 := keepc hb q11; have q12 := keepc hb q12; have q13 := keepc hb q13; have q14 := keepc hb q14; have q15 := keepc hb q15; have q16 := keepc hb q16; have q17 := belk hb q17; clear hb) | (go_at_call 80; refine (tLess _ V U a b c p m o a2 b2 c2 p2 m2 o2 ⟨q0, q1, q2, q3, q4, q5, q6, q7, q8, q9, q10, q11, Below.refl _ _⟩ hp rel hr).mono ?_; rintro e w2 ⟨rfl, hb⟩; rw [hlt]; have q0 := keepc hb q0; have q1 := keepc hb q1; have q2 := keepc hb q2; have q3 := keepc hb q3; have q4 := keepc hb q4; have q5 := keepc hb q5; have q6 := keepc hb q6; have q7 := keepc hb q7; have q8 := keepc hb q8; have q9 := keepc hb q9; have q10 := keepc hb q10; have q11 := keepc hb q11; have q12 := keepc hb q12; have q13 := keepc hb q13; have q14 := keepc hb q14; have q15 := keepc hb q15; have q16 := keepc hb q16; have q17 := belk hb q17; clear hb) | (go_at_call 28; refine (tErr _ _).mono ?_; rintro e w3 ⟨t3, a3, rfl, hb⟩; have q0 := keepc hb q0; have q1 := keepc hb q1; have q2 := keepc hb q2; have q3 := keepc hb q3; have q4 := keepc hb q4; have q5 := keepc hb q5; have q6 := keepc hb q6; have q7 := keepc hb q7; have q8 := keepc hb q8; have q9 := keepc hb q9; have q10 := keepc hb q10; have q11 := keepc hb q11; have q12 := keepc hb q12; have q13 := keepc hb q13; have q14 := keepc hb q14; have q15 := keepc hb q15; have q16 := keepc hb q16; have q17 := belk hb q17; clear hb))
      go_region_held3 (fun w' => w'.cell? ⟨V, 0, none⟩ = some (.int .u64 a) ∧ w'.cell? ⟨V, 1, none⟩ = some (.int .u64 b) ∧ w'.cell? ⟨V, 2, none⟩ = some (.int .u64 c) ∧ w'.cell? ⟨V, 3, none⟩ = some (.string p) ∧ w'.cell? ⟨V, 4, none⟩ = some (.string m) ∧ w'.cell? ⟨V, 5, none⟩ = some (.string o) ∧ w'.cell? ⟨U, 0, none⟩ = some (.int .u64 a2) ∧ w'.cell? ⟨U, 1, none⟩ = some (.int .u64 b2) ∧ w'.cell? ⟨U, 2, none⟩ = some (.int .u64 c2) ∧ w'.cell? ⟨U, 3, none⟩ = some (.string p2) ∧ w'.cell? ⟨U, 4, none⟩ = some (.string m2) ∧ w'.cell? ⟨U, 5, none⟩ = some (.string o2) ∧ w'.cell? ⟨C, 0, none⟩ = some (.pointer (some ⟨U, 0, none⟩)) ∧ w'.cell? ⟨C, 2, none⟩ = some (.string op) ∧ w'.cell? ⟨C, 3, none⟩ = some (.bool md) ∧ w'.cell? ⟨C, 4, none⟩ = some (.bool d) ∧ w'.cell? ⟨C, 5, none⟩ = some (.bool pd) ∧ Below w.heap.size w w') (first | exact ⟨by assumption, by assumption, by assumption, by assumption, by assumption, by assumption, by assumption, by assumption, by assumption, by assumption, by assumption, by assumption, by assumption, by assumption, by assumption, by assumption, by assumption, by assumption⟩ | exact ⟨by first | assumption | (rw [World.cell?_drew]; assumption), by first | assumption | (rw [World.cell?_drew]; assumption), by first | assumption | (rw [World.cell?_drew]; assumption), by first | assumption | (rw [World.cell?_drew]; assumption), by first | assumption | (rw [World.cell?_drew]; assumption), by first | assumption | (rw [World.cell?_drew]; assumption), by first | assumption | (rw [World.cell?_drew]; assumption), by first | assumption | (rw [World.cell?_drew]; assumption), by first | assumption | (rw [World.cell?_drew]; assumption), by first | assumption | (rw [World.cell?_drew]; assumption), by first | assumption | (rw [World.cell?_drew]; assumption), by first | assumption | (rw [World.cell?_drew]; assumption), by first | assumption | (rw [World.cell?_drew]; assumption), by first | assumption | (rw [World.cell?_drew]; assumption), by first | assumption | (rw [World.cell?_drew]; assumption), by first | assumption | (rw [World.cell?_drew]; assumption), by first | assumption | (rw [World.cell?_drew]; assumption), by first | assumption | (refine Below.drew ?_; assumption)⟩) (first | (go_at_call 75; refine (tMajor _ _ _ _ _ _ _).mono ?_; rintro e w1 ⟨rfl, hb⟩; have HS2 : S3 w V U C a b c p m o a2 b2 c2 p2 m2 o2 op md d pd w1 := ⟨keepc hb (by first | assumption | (rw [World.cell?_drew]; assumption)), keepc hb (by first | assumption | (rw [World.cell?_drew]; assumption)), keepc hb (by first | assumption | (rw [World.cell?_drew]; assumption)), keepc hb (by first | assumption | (rw [World.cell?_drew]; assumption)), keepc hb (by first | assumption | (rw [World.cell?_drew]; assumption)), keepc hb (by first | assumption | (rw [World.cell?_drew]; assumption)), keepc hb (by first | assumption | (rw [World.cell?_drew]; assumption)), keepc hb (by first | assumption | (rw [World.cell?_drew]; assumption)), keepc hb (by first | assumption | (rw [World.cell?_drew]; assumption)), keepc hb (by first | assumption | (rw [World.cell?_drew]; assumption)), keepc hb (by first | assumption | (rw [World.cell?_drew]; assumption)), keepc hb (by first | assumption | (rw [World.cell?_drew]; assumption)), keepc hb (by first | assumption | (rw [World.cell?_drew]; assumption)), keepc hb (by first | assumption | (rw [World.cell?_drew]; assumption)), keepc hb (by first | assumption | (rw [World.cell?_drew]; assumption)), keepc hb (by first | assumption | (rw [World.cell?_drew]; assumption)), keepc hb (by first | assumption | (rw [World.cell?_drew]; assumption)), belk hb (by first | assumption | (refine Below.drew ?_; assumption))⟩; clear hb; obtain ⟨q0, q1, q2, q3, q4, q5, q6, q7, q8, q9, q10, q11, q12, q13, q14, q15, q16, q17⟩ := HS2))
      all_goals go_wp2_with (go_at_call 28; refine (tErr _ _).mono ?_; rintro e w3 ⟨t3, a3, rfl, hb⟩; have hbb := belk hb (by first | assumption | (refine Below.drew ?_; assumption)); clear hb)
      all_goals (go_ret2; refine ret_bool (r := res) ?_ (by first | assumption | (refine Below.drew ?_; assumption)); rw [← HRES.out, caretR, if_neg (by have := HN.out; omega), if_pos (.inl x1)]; all_goals first | rfl | (have e := eq_of_beq (show ((a : Int) == (a2 : Int)) = true by assumption); rw [decide_eq_true (by omega)]) | (have e := ne_of_beq_false (show ((a : Int) == (a2 : Int)) = false by assumption); rw [decide_eq_false (by omega)]) | (have e := eq_of_beq (show ((b : Int) == (b2 : Int)) = true by assumption); rw [decide_eq_true (by omega)]) | (have e := ne_of_beq_false (show ((b : Int) == (b2 : Int)) = false by assumption); rw [decide_eq_false (by omega)]) | (have e := eq_of_beq (show ((c2 : Int) == (c : Int)) = true by assumption); rw [decide_eq_true (by omega)]) | (have e := ne_of_beq_false (show ((c2 : Int) == (c : Int)) = false by assumption); rw [decide_eq_false (by omega)]))
    · have y1 : ¬ (0 : Int) < (a2 : Int) := by omega
      have z1 : ((a2 : Int) == 0) = true := by simp; omega
      cases md
      · by_cases x2 : 0 < a
        · have y2 : (0 : Int) < (a : Int) := by omega
          go_wp2_with (first | (go_at_call 73; refine (tPrere _ _ _ _ _ _ _).mono ?_; rintro e w1 ⟨rfl, hb⟩; have q0 := keepc hb q0; have q1 := keepc hb q1; have q2 := keepc hb q2; have q3 := keepc hb q3; have q4 := keepc hb q4; have q5 := keepc hb q5; have q6 := keepc hb q6; have q7 := keepc hb q7; have q8 := keepc hb q8; have q9 := keepc hb q9; have q10 := keepc hb q10; have q11 := keepc hb q11; have q12 := keepc hb q12; have q13 := keepc hb q13; have q14 := keepc hb q14; have q15 := keepc hb q15; have q16 := keepc hb q16; have q17 := belk hb q17; clear hb) | (go_at_call 75; refine (tMajor _ _ _ _ _ _ _).mono ?_; rintro e w1 ⟨rfl, hb⟩; have q0 := keepc hb q0; have q1 := keepc hb q1; have q2 := keepc hb q2; have q3 := keepc hb q3; have q4 := keepc hb q4; have q5 := keepc hb q5; have q6 := keepc hb q6; have q7 := keepc hb q7; have q8 := keepc hb q8; have q9 := keepc hb q9; have q10 := keepc hb q10; have q11 := keepc hb q11; have q12 := keepc hb q12; have q13 := keepc hb q13; have q14 := keepc hb q14; have q15 := keepc hb q15; have q16 := keepc hb q16; have q17 := belk hb q17; clear hb) | (go_at_call 76; refine (tMinor _ _ _ _ _ _ _).mono ?_; rintro e w1 ⟨rfl, hb⟩; have q0 := keepc hb q0; have q1 := keepc hb q1; have q2 := keepc hb q2; have q3 := keepc hb q3; have q4 := keepc hb q4; have q5 := keepc hb q5; have q6 := keepc hb q6; have q7 := keepc hb q7; have q8 := keepc hb q8; have q9 := keepc hb q9; have q10 := keepc hb q10; have q11 := keepc hb q11; have q12 := keepc hb q12; have q13 := keepc hb q13; have q14 := keepc hb q14; have q15 := keepc hb q15; have q16 := keepc hb q16; have q17 := belk hb q17; clear hb) | (go_at_call 77; refine (tPatch _ _ _ _ _ _ _).mono ?_; rintro e w1 ⟨rfl, hb⟩; have q0 := keepc hb q0; have q1 := keepc hb q1; have q2 := keepc hb q2; have q3 := keepc hb q3; have q4 := keepc hb q4; have q5 := keepc hb q5; have q6 := keepc hb q6; have q7 := keepc hb q7; have q8 := keepc hb q8; have q9 := keepc hb q9; have q10 := keepc hb q10; have q11 := keepc hb q11; have q12 := keepc hb q12; have q13 := keepc hb q13; have q14 := keepc hb q14; have q15 := keepc hb q15; have q16 := keepc hb q16; have q17 := belk hb q17; clear hb) | (go_at_call 80; refine (tLess _ V U a b c p m o a2 b2 c2 p2 m2 o2 ⟨q0, q1, q2, q3, q4, q5, q6, q7, q8, q9, q10, q11, Below.refl _ _⟩ hp rel hr).mono ?_; rintro e w2 ⟨rfl, hb⟩; rw [hlt]; have q0 := keepc hb q0; have q1 := keepc hb q1; have q2 := keepc hb q2; have q3 := keepc hb q3; have q4 := keepc hb q4; have q5 := keepc hb q5; have q6 := keepc hb q6; have q7 := keepc hb q7; have q8 := keepc hb q8; have q9 := keepc hb q9; have q10 := keepc hb q10; have q11 := keepc hb q11; have q12 := keepc hb q12; have q13 := keepc hb q13; have q14 := keepc hb q14; have q15 := keepc hb q15; have q16 := keepc hb q16; have q17 := belk hb q17; clear hb) | (go_at_call 28; refine (tErr _ _).mono ?_; rintro e w3 ⟨t3, a3, rfl, hb⟩; have q0 := keepc hb q0; have q1 := keepc hb q1; have q2 := keepc hb q2; have q3 := keepc hb q3; have q4 := keepc hb q4; have q5 := keepc hb q5; have q6 := keepc hb q6; have q7 := keepc hb q7; have q8 := keepc hb q8; have q9 := keepc hb q9; have q10 := keepc hb q10; have q11 := keepc hb q11; have q12 := keepc hb q12; have q13 := keepc hb q13; have q14 := keepc hb q14; have q15 := keepc hb q15; have q16 := keepc hb q16; have q17 := belk hb q17; clear hb))
          (go_ret2; refine ret_bool (r := res) ?_ (by first | assumption | (refine Below.drew ?_; assumption)); rw [← HRES.out, caretR, if_neg (by have := HN.out; omega), if_neg (by simp [x1]), if_pos x2]; all_goals first | rfl | (have e := eq_of_beq (show ((a : Int) == (a2 : Int)) = true by assumption); rw [decide_eq_true (by omega)]) | (have e := ne_of_beq_false (show ((a : Int) == (a2 : Int)) = false by assumption); rw [decide_eq_false (by omega)]) | (have e := eq_of_beq (show ((b : Int) == (b2 : Int)) = true by assumption); rw [decide_eq_true (by omega)]) | (have e := ne_of_beq_false (show ((b : Int) == (b2 : Int)) = false by assumption); rw [decide_eq_false (by omega)]) | (have e := eq_of_beq (show ((c2 : Int) == (c : Int)) = true by assumption); rw [decide_eq_true (by omega)]) | (have e := ne_of_beq_false (show ((c2 : Int) == (c : Int)) = false by assumption); rw [decide_eq_false (by omega)]))
        · have y2 : ¬ (0 : Int) < (a : Int) := by omega
          have z2 : ((a : Int) == 0) = true := by simp; omega
          by_cases x3 : 0 < b2
          · have y3 : (0 : Int) < (b2 : Int) := by omega
            go_upto_region 14 with (first | (go_at_call 73; refine (tPrere _ _ _ _ _ _ _).mono ?_; rintro e w1 ⟨rfl, hb⟩; have q0 := keepc hb q0; have q1 := keepc hb q1; have q2 := keepc hb q2; have q3 := keepc hb q3; have q4 := keepc hb q4; have q5 := keepc hb q5; have q6 := keepc hb q6; have q7 := keepc hb q7; have q8 := keepc hb q8; have q9 := keepc hb q9; have q10 := keepc hb q10; have q11 := keepc hb q11; have q12 := keepc hb q12; have q13 := keepc hb q13; have q14 := keepc hb q14; have q15 := keepc hb q15; have q16 := keepc hb q16; have q17 := belk hb q17; clear hb) | (go_at_call 75; refine (tMajor _ _ _ _ _ _ _).mono ?_; rintro e w1 ⟨rfl, hb⟩; have q0 := keepc hb q0; have q1 := keepc hb q1; have q2 := keepc hb q2; have q3 := keepc hb q3; have q4 := keepc hb q4; have q5 := keepc hb q5; have q6 := keepc hb q6; have q7 := keepc hb q7; have q8 := keepc hb q8; have q9 := keepc hb q9; have q10 := keepc hb q10; have q11 := keepc hb q11; have q12 := keepc hb q12; have q13 := keepc hb q13; have q14 := keepc hb q14; have q15 := keepc hb q15; have q16 := keepc hb q16; have q17 := belk hb q17; clear hb) | (go_at_call 76; refine (tMinor _ _ _ _ _ _ _).mono ?_; rintro e w1 ⟨rfl, hb⟩; have q0 := keepc hb q0; have q1 := keepc hb q1; have q2 := keepc hb q2; have q3 := keepc hb q3; have q4 := keepc hb q4; have q5 := keepc hb q5; have q6 := keepc hb q6; have q7 := keepc hb q7; have q8 := keepc hb q8; have q9 := keepc hb q9; have q10 := keepc hb q10; have q11 := keepc hb q11; have q12 := keepc hb q12; have q13 := keepc hb q13; have q14 := keepc hb q14; have q15 := keepc hb q15; have q16 := keepc hb q16; have q17 := belk hb q17; clear hb) | (go_at_call 77; refine (tPatch _ _ _ _ _ _ _).mono ?_; rintro e w1 ⟨rfl, hb⟩; have q0 := keepc hb q0; have q1 := keepc hb q1; have q2 := keepc hb q2; have q3 := keepc hb q3; have q4 := keepc hb q4; have q5 := keepc hb q5; have q6 := keepc hb q6; have q7 := keepc hb q7; have q8 := keepc hb q8; have q9 := keepc hb q9; have q10 := keepc hb q10; have q11 := keepc hb q11; have q12 := keepc hb q12; have q13 := keepc hb q13; have q14 := keepc hb q14; have q15 := keepc hb q15; have q16 := keepc hb q16; have q17 := belk hb q17; clear hb) | (go_at_call 80; refine (tLess _ V U a b c p m o a2 b2 c2 p2 m2 o2 ⟨q0, q1, q2, q3, q4, q5, q6, q7, q8, q9, q10, q11, Below.refl _ _⟩ hp rel hr).mono ?_; rintro e w2 ⟨rfl, hb⟩; rw [hlt]; have q0 := keepc hb q0; have q1 := keepc hb q1; have q2 := keepc hb q2; have q3 := keepc hb q3; have q4 := keepc hb q4; have q5 := keepc hb q5; have q6 := keepc hb q6; have q7 := keepc hb q7; have q8 := keepc hb q8; have q9 := keepc hb q9; have q10 := keepc hb q10; have q11 := keepc hb q11; have q12 := keepc hb q12; have q13 := keepc hb q13; have q14 := keepc hb q14; have q15 := keepc hb q15; have q16 := keepc hb q16; have q17 := belk hb q17; clear hb) | (go_at_call 28; refine (tErr _ _).mono ?_; rintro e w3 ⟨t3, a3, rfl, hb⟩; have q0 := keepc hb q0; have q1 := keepc hb q1; have q2 := keepc hb q2; have q3 := keepc hb q3; have q4 := keepc hb q4; have q5 := keepc hb q5; have q6 := keepc hb q6; have q7 := keepc hb q7; have q8 := keepc hb q8; have q9 := keepc hb q9; have q10 := keepc hb q10; have q11 := keepc hb q11; have q12 := keepc hb q12; have q13 := keepc hb q13; have q14 := keepc hb q14; have q15 := keepc hb q15; have q16 := keepc hb q16; have q17 := belk hb q17; clear hb))
            go_region_held3 (fun w' => w'.cell? ⟨V, 0, none⟩ = some (.int .u64 a) ∧ w'.cell? ⟨V, 1, none⟩ = some (.int .u64 b) ∧ w'.cell? ⟨V, 2, none⟩ = some (.int .u64 c) ∧ w'.cell? ⟨V, 3, none⟩ = some (.string p) ∧ w'.cell? ⟨V, 4, none⟩ = some (.string m) ∧ w'.cell? ⟨V, 5, none⟩ = some (.string o) ∧ w'.cell? ⟨U, 0, none⟩ = some (.int .u64 a2) ∧ w'.cell? ⟨U, 1, none⟩ = some (.int .u64 b2) ∧ w'.cell? ⟨U, 2, none⟩ = some (.int .u64 c2) ∧ w'.cell? ⟨U, 3, none⟩ = some (.string p2) ∧ w'.cell? ⟨U, 4, none⟩ = some (.string m2) ∧ w'.cell? ⟨U, 5, none⟩ = some (.string o2) ∧ w'.cell? ⟨C, 0, none⟩ = some (.pointer (some ⟨U, 0, none⟩)) ∧ w'.cell? ⟨C, 2, none⟩ = some (.string op) ∧ w'.cell? ⟨C, 3, none⟩ = some (.bool false) ∧ w'.cell? ⟨C, 4, none⟩ = some (.bool d) ∧ w'.cell? ⟨C, 5, none⟩ = some (.bool pd) ∧ Below w.heap.size w w') (first | exact ⟨by assumption, by assumption, by assumption, by assumption, by assumption, by assumption, by assumption, by assumption, by assumption, by assumption, by assumption, by assumption, by assumption, by assumption, by assumption, by assumption, by assumption, by assumption⟩ | exact ⟨by first | assumption | (rw [World.cell?_drew]; assumption), by first | assumption | (rw [World.cell?_drew]; assumption), by first | assumption | (rw [World.cell?_drew]; assumption), by first | assumption | (rw [World.cell?_drew]; assumption), by first | assumption | (rw [World.cell?_drew]; assumption), by first | assumption | (rw [World.cell?_drew]; assumption), by first | assumption | (rw [World.cell?_drew]; assumption), by first | assumption | (rw [World.cell?_drew]; assumption), by first | assumption | (rw [World.cell?_drew]; assumption), by first | assumption | (rw [World.cell?_drew]; assumption), by first | assumption | (rw [World.cell?_drew]; assumption), by first | assumption | (rw [World.cell?_drew]; assumption), by first | assumption | (rw [World.cell?_drew]; assumption), by first | assumption | (rw [World.cell?_drew]; assumption), by first | assumption | (rw [World.cell?_drew]; assumption), by first | assumption | (rw [World.cell?_drew]; assumption), by first | assumption | (rw [World.cell?_drew]; assumption), by first | assumption | (refine Below.drew ?_; assumption)⟩) (first | (go_at_call 76; refine (tMinor _ _ _ _ _ _ _).mono ?_; rintro e w1 ⟨rfl, hb⟩; have HS2 : S3 w V U C a b c p m o a2 b2 c2 p2 m2 o2 op false d pd w1 := ⟨keepc hb (by first | assumption | (rw [World.cell?_drew]; assumption)), keepc hb (by first | assumption | (rw [World.cell?_drew]; assumption)), keepc hb (by first | assumption | (rw [World.cell?_drew]; assumption)), keepc hb (by first | assumption | (rw [World.cell?_drew]; assumption)), keepc hb (by first | assumption | (rw [World.cell?_drew]; assumption)), keepc hb (by first | assumption | (rw [World.cell?_drew]; assumption)), keepc hb (by first | assumption | (rw [World.cell?_drew]; assumption)), keepc hb (by first | assumption | (rw [World.cell?_drew]; assumption)), keepc hb (by first | assumption | (rw [World.cell?_drew]; assumption)), keepc hb (by first | assumption | (rw [World.cell?_drew]; assumption)), keepc hb (by first | assumption | (rw [World.cell?_drew]; assumption)), keepc hb (by first | assumption | (rw [World.cell?_drew]; assumption)), keepc hb (by first | assumption | (rw [World.cell?_drew]; assumption)), keepc hb (by first | assumption | (rw [World.cell?_drew]; assumption)), keepc hb (by first | assumption | (rw [World.cell?_drew]; assumption)), keepc hb (by first | assumption | (rw [World.cell?_drew]; assumption)), keepc hb (by first | assumption | (rw [World.cell?_drew]; assumption)), belk hb (by first | assumption | (refine Below.drew ?_; assumption))⟩; clear hb; obtain ⟨q0, q1, q2, q3, q4, q5, q6, q7, q8, q9, q10, q11, q12, q13, q14, q15, q16, q17⟩ := HS2))
            all_goals go_wp2_with (go_at_call 28; refine (tErr _ _).mono ?_; rintro e w3 ⟨t3, a3, rfl, hb⟩; have hbb := belk hb (by first | assumption | (refine Below.drew ?_; assumption)); clear hb)
            all_goals (go_ret2; refine ret_bool (r := res) ?_ (by first | assumption | (refine Below.drew ?_; assumption)); rw [← HRES.out, caretR, if_neg (by have := HN.out; omega), if_neg (by simp [x1]), if_neg x2, if_pos (.inl x3)]; all_goals first | rfl | (have e := eq_of_beq (show ((a : Int) == (a2 : Int)) = true by assumption); rw [decide_eq_true (by omega)]) | (have e := ne_of_beq_false (show ((a : Int) == (a2 : Int)) = false by assumption); rw [decide_eq_false (by omega)]) | (have e := eq_of_beq (show ((b : Int) == (b2 : Int)) = true by assumption); rw [decide_eq_true (by omega)]) | (have e := ne_of_beq_false (show ((b : Int) == (b2 : Int)) = false by assumption); rw [decide_eq_false (by omega)]) | (have e := eq_of_beq (show ((c2 : Int) == (c : Int)) = true by assumption); rw [decide_eq_true (by omega)]) | (have e := ne_of_beq_false (show ((c2 : Int) == (c : Int)) = false by assumption); rw [decide_eq_false (by omega)]))
          · have y3 : ¬ (0 : Int) < (b2 : Int) := by omega
            have z3 : ((b2 : Int) == 0) = true := by simp; omega
            cases pd
            · by_cases x4 : 0 < b
              · have y4 : (0 : Int) < (b : Int) := by omega
                go_wp2_with (first | (go_at_call 73; refine (tPrere _ _ _ _ _ _ _).mono ?_; rintro e w1 ⟨rfl, hb⟩; have q0 := keepc hb q0; have q1 := keepc hb q1; have q2 := keepc hb q2; have q3 := keepc hb q3; have q4 := keepc hb q4; have q5 := keepc hb q5; have q6 := keepc hb q6; have q7 := keepc hb q7; have q8 := keepc hb q8; have q9 := keepc hb q9; have q10 := keepc hb q10; have q11 := keepc hb q11; have q12 := keepc hb q12; have q13 := keepc hb q13; have q14 := keepc hb q14; have q15 := keepc hb q15; have q16 := keepc hb q16; have q17 := belk hb q17; clear hb) | (go_at_call 75; refine (tMajor _ _ _ _ _ _ _).mono ?_; rintro e w1 ⟨rfl, hb⟩; have q0 := keepc hb q0; have q1 := keepc hb q1; have q2 := keepc hb q2; have q3 := keepc hb q3; have q4 := keepc hb q4; have q5 := keepc hb q5; have q6 := keepc hb q6; have q7 := keepc hb q7; have q8 := keepc hb q8; have q9 := keepc hb q9; have q10 := keepc hb q10; have q11 := keepc hb q11; have q12 := keepc hb q12; have q13 := keepc hb q13; have q14 := keepc hb q14; have q15 := keepc hb q15; have q16 := keepc hb q16; have q17 := belk hb q17; clear hb) | (go_at_call 76; refine (tMinor _ _ _ _ _ _ _).mono ?_; rintro e w1 ⟨rfl, hb⟩; have q0 := keepc hb q0; have q1 := keepc hb q1; have q2 := keepc hb q2; have q3 := keepc hb q3; have q4 := keepc hb q4; have q5 := keepc hb q5; have q6 := keepc hb q6; have q7 := keepc hb q7; have q8 := keepc hb q8; have q9 := keepc hb q9; have q10 := keepc hb q10; have q11 := keepc hb q11; have q12 := keepc hb q12; have q13 := keepc hb q13; have q14 := keepc hb q14; have q15 := keepc hb q15; have q16 := keepc hb q16; have q17 := belk hb q17; clear hb) | (go_at_call 77; refine (tPatch _ _ _ _ _ _ _).mono ?_; rintro e w1 ⟨rfl, hb⟩; have q0 := keepc hb q0; have q1 := keepc hb q1; have q2 := keepc hb q2; have q3 := keepc hb q3; have q4 := keepc hb q4; have q5 := keepc hb q5; have q6 := keepc hb q6; have q7 := keepc hb q7; have q8 := keepc hb q8; have q9 := keepc hb q9; have q10 := keepc hb q10; have q11 := keepc hb q11; have q12 := keepc hb q12; have q13 := keepc hb q13; have q14 := keepc hb q14; have q15 := keepc hb q15; have q16 := keepc hb q16; have q17 := belk hb q17; clear hb) | (go_at_call 80; refine (tLess _ V U a b c p m o a2 b2 c2 p2 m2 o2 ⟨q0, q1, q2, q3, q4, q5, q6, q7, q8, q9, q10, q11, Below.refl _ _⟩ hp rel hr).mono ?_; rintro e w2 ⟨rfl, hb⟩; rw [hlt]; have q0 := keepc hb q0; have q1 := keepc hb q1; have q2 := keepc hb q2; have q3 := keepc hb q3; have q4 := keepc hb q4; have q5 := keepc hb q5; have q6 := keepc hb q6; have q7 := keepc hb q7; have q8 := keepc hb q8; have q9 := keepc hb q9; have q10 := keepc hb q10; have q11 := keepc hb q11; have q12 := keepc hb q12; have q13 := keepc hb q13; have q14 := keepc hb q14; have q15 := keepc hb q15; have q16 := keepc hb q16; have q17 := belk hb q17; clear hb) | (go_at_call 28; refine (tErr _ _).mono ?_; rintro e w3 ⟨t3, a3, rfl, hb⟩; have q0 := keepc hb q0; have q1 := keepc hb q1; have q2 := keepc hb q2; have q3 := keepc hb q3; have q4 := keepc hb q4; have q5 := keepc hb q5; have q6 := keepc hb q6; have q7 := keepc hb q7; have q8 := keepc hb q8; have q9 := keepc hb q9; have q10 := keepc hb q10; have q11 := keepc hb q11; have q12 := keepc hb q12; have q13 := keepc hb q13; have q14 := keepc hb q14; have q15 := keepc hb q15; have q16 := keepc hb q16; have q17 := belk hb q17; clear hb))
                (go_ret2; refine ret_bool (r := res) ?_ (by first | assumption | (refine Below.drew ?_; assumption)); rw [← HRES.out, caretR, if_neg (by have := HN.out; omega), if_neg (by simp [x1]), if_neg x2, if_neg (by simp [x3]), if_pos x4]; all_goals first | rfl | (have e := eq_of_beq (show ((a : Int) == (a2 : Int)) = true by assumption); rw [decide_eq_true (by omega)]) | (have e := ne_of_beq_false (show ((a : Int) == (a2 : Int)) = false by assumption); rw [decide_eq_false (by omega)]) | (have e := eq_of_beq (show ((b : Int) == (b2 : Int)) = true by assumption); rw [decide_eq_true (by omega)]) | (have e := ne_of_beq_false (show ((b : Int) == (b2 : Int)) = false by assumption); rw [decide_eq_false (by omega)]) | (have e := eq_of_beq (show ((c2 : Int) == (c : Int)) = true by assumption); rw [decide_eq_true (by omega)]) | (have e := ne_of_beq_false (show ((c2 : Int) == (c : Int)) = false by assumption); rw [decide_eq_false (by omega)]))
              · have y4 : ¬ (0 : Int) < (b : Int) := by omega
                have z4 : ((b : Int) == 0) = true := by simp; omega
                go_upto_region 20 with (first | (go_at_call 73; refine (tPrere _ _ _ _ _ _ _).mono ?_; rintro e w1 ⟨rfl, hb⟩; have q0 := keepc hb q0; have q1 := keepc hb q1; have q2 := keepc hb q2; have q3 := keepc hb q3; have q4 := keepc hb q4; have q5 := keepc hb q5; have q6 := keepc hb q6; have q7 := keepc hb q7; have q8 := keepc hb q8; have q9 := keepc hb q9; have q10 := keepc hb q10; have q11 := keepc hb q11; have q12 := keepc hb q12; have q13 := keepc hb q13; have q14 := keepc hb q14; have q15 := keepc hb q15; have q16 := keepc hb q16; have q17 := belk hb q17; clear hb) | (go_at_call 75; refine (tMajor _ _ _ _ _ _ _).mono ?_; rintro e w1 ⟨rfl, hb⟩; have q0 := keepc hb q0; have q1 := keepc hb q1; have q2 := keepc hb q2; have q3 := keepc hb q3; have q4 := keepc hb q4; have q5 := keepc hb q5; have q6 := keepc hb q6; have q7 := keepc hb q7; have q8 := keepc hb q8; have q9 := keepc hb q9; have q10 := keepc hb q10; have q11 := keepc hb q11; have q12 := keepc hb q12; have q13 := keepc hb q13; have q14 := keepc hb q14; have q15 := keepc hb q15; have q16 := keepc hb q16; have q17 := belk hb q17; clear hb) | (go_at_call 76; refine (tMinor _ _ _ _ _ _ _).mono ?_; rintro e w1 ⟨rfl, hb⟩; have q0 := keepc hb q0; have q1 := keepc hb q1; have q2 := keepc hb q2; have q3 := keepc hb q3; have q4 := keepc hb q4; have q5 := keepc hb q5; have q6 := keepc hb q6; have q7 := keepc hb q7; have q8 := keepc hb q8; have q9 := keepc hb q9; have q10 := keepc hb q10; have q11 := keepc hb q11; have q12 := keepc hb q12; have q13 := keepc hb q13; have q14 := keepc hb q14; have q15 := keepc hb q15; have q16 := keepc hb q16; have q17 := belk hb q17; clear hb) | (go_at_call 77; refine (tPatch _ _ _ _ _ _ _).mono ?_; rintro e w1 ⟨rfl, hb⟩; have q0 := keepc hb q0; have q1 := keepc hb q1; have q2 := keepc hb q2; have q3 := keepc hb q3; have q4 := keepc hb q4; have q5 := keepc hb q5; have q6 := keepc hb q6; have q7 := keepc hb q7; have q8 := keepc hb q8; have q9 := keepc hb q9; have q10 := keepc hb q10; have q11 := keepc hb q11; have q12 := keepc hb q12; have q13 := keepc hb q13; have q14 := keepc hb q14; have q15 := keepc hb q15; have q16 := keepc hb q16; have q17 := belk hb q17; clear hb) | (go_at_call 80; refine (tLess _ V U a b c p m o a2 b2 c2 p2 m2 o2 ⟨q0, q1, q2, q3, q4, q5, q6, q7, q8, q9, q10, q11, Below.refl _ _⟩ hp rel hr).mono ?_; rintro e w2 ⟨rfl, hb⟩; rw [hlt]; have q0 := keepc hb q0; have q1 := keepc hb q1; have q2 := keepc hb q2; have q3 := keepc hb q3; have q4 := keepc hb q4; have q5 := keepc hb q5; have q6 := keepc hb q6; have q7 := keepc hb q7; have q8 := keepc hb q8; have q9 := keepc hb q9; have q10 := keepc hb q10; have q11 := keepc hb q11; have q12 := keepc hb q12; have q13 := keepc hb q13; have q14 := keepc hb q14; have q15 := keepc hb q15; have q16 := keepc hb q16; have q17 := belk hb q17; clear hb) | (go_at_call 28; refine (tErr _ _).mono ?_; rintro e w3 ⟨t3, a3, rfl, hb⟩; have q0 := keepc hb q0; have q1 := keepc hb q1; have q2 := keepc hb q2; have q3 := keepc hb q3; have q4 := keepc hb q4; have q5 := keepc hb q5; have q6 := keepc hb q6; have q7 := keepc hb q7; have q8 := keepc hb q8; have q9 := keepc hb q9; have q10 := keepc hb q10; have q11 := keepc hb q11; have q12 := keepc hb q12; have q13 := keepc hb q13; have q14 := keepc hb q14; have q15 := keepc hb q15; have q16 := keepc hb q16; have q17 := belk hb q17; clear hb))
                go_region_held3 (fun w' => w'.cell? ⟨V, 0, none⟩ = some (.int .u64 a) ∧ w'.cell? ⟨V, 1, none⟩ = some (.int .u64 b) ∧ w'.cell? ⟨V, 2, none⟩ = some (.int .u64 c) ∧ w'.cell? ⟨V, 3, none⟩ = some (.string p) ∧ w'.cell? ⟨V, 4, none⟩ = some (.string m) ∧ w'.cell? ⟨V, 5, none⟩ = some (.string o) ∧ w'.cell? ⟨U, 0, none⟩ = some (.int .u64 a2) ∧ w'.cell? ⟨U, 1, none⟩ = some (.int .u64 b2) ∧ w'.cell? ⟨U, 2, none⟩ = some (.int .u64 c2) ∧ w'.cell? ⟨U, 3, none⟩ = some (.string p2) ∧ w'.cell? ⟨U, 4, none⟩ = some (.string m2) ∧ w'.cell? ⟨U, 5, none⟩ = some (.string o2) ∧ w'.cell? ⟨C, 0, none⟩ = some (.pointer (some ⟨U, 0, none⟩)) ∧ w'.cell? ⟨C, 2, none⟩ = some (.string op) ∧ w'.cell? ⟨C, 3, none⟩ = some (.bool false) ∧ w'.cell? ⟨C, 4, none⟩ = some (.bool d) ∧ w'.cell? ⟨C, 5, none⟩ = some (.bool false) ∧ Below w.heap.size w w') (first | exact ⟨by assumption, by assumption, by assumption, by assumption, by assumption, by assumption, by assumption, by assumption, by assumption, by assumption, by assumption, by assumption, by assumption, by assumption, by assumption, by assumption, by assumption, by assumption⟩ | exact ⟨by first | assumption | (rw [World.cell?_drew]; assumption), by first | assumption | (rw [World.cell?_drew]; assumption), by first | assumption | (rw [World.cell?_drew]; assumption), by first | assumption | (rw [World.cell?_drew]; assumption), by first | assumption | (rw [World.cell?_drew]; assumption), by first | assumption | (rw [World.cell?_drew]; assumption), by first | assumption | (rw [World.cell?_drew]; assumption), by first | assumption | (rw [World.cell?_drew]; assumption), by first | assumption | (rw [World.cell?_drew]; assumption), by first | assumption | (rw [World.cell?_drew]; assumption), by first | assumption | (rw [World.cell?_drew]; assumption), by first | assumption | (rw [World.cell?_drew]; assumption), by first | assumption | (rw [World.cell?_drew]; assumption), by first | assumption | (rw [World.cell?_drew]; assumption), by first | assumption | (rw [World.cell?_drew]; assumption), by first | assumption | (rw [World.cell?_drew]; assumption), by first | assumption | (rw [World.cell?_drew]; assumption), by first | assumption | (refine Below.drew ?_; assumption)⟩) (first | (go_at_call 77; refine (tPatch _ _ _ _ _ _ _).mono ?_; rintro e w1 ⟨rfl, hb⟩; have HS2 : S3 w V U C a b c p m o a2 b2 c2 p2 m2 o2 op false d false w1 := ⟨keepc hb (by first | assumption | (rw [World.cell?_drew]; assumption)), keepc hb (by first | assumption | (rw [World.cell?_drew]; assumption)), keepc hb (by first | assumption | (rw [World.cell?_drew]; assumption)), keepc hb (by first | assumption | (rw [World.cell?_drew]; assumption)), keepc hb (by first | assumption | (rw [World.cell?_drew]; assumption)), keepc hb (by first | assumption | (rw [World.cell?_drew]; assumption)), keepc hb (by first | assumption | (rw [World.cell?_drew]; assumption)), keepc hb (by first | assumption | (rw [World.cell?_drew]; assumption)), keepc hb (by first | assumption | (rw [World.cell?_drew]; assumption)), keepc hb (by first | assumption | (rw [World.cell?_drew]; assumption)), keepc hb (by first | assumption | (rw [World.cell?_drew]; assumption)), keepc hb (by first | assumption | (rw [World.cell?_drew]; assumption)), keepc hb (by first | assumption | (rw [World.cell?_drew]; assumption)), keepc hb (by first | assumption | (rw [World.cell?_drew]; assumption)), keepc hb (by first | assumption | (rw [World.cell?_drew]; assumption)), keepc hb (by first | assumption | (rw [World.cell?_drew]; assumption)), keepc hb (by first | assumption | (rw [World.cell?_drew]; assumption)), belk hb (by first | assumption | (refine Below.drew ?_; assumption))⟩; clear hb; obtain ⟨q0, q1, q2, q3, q4, q5, q6, q7, q8, q9, q10, q11, q12, q13, q14, q15, q16, q17⟩ := HS2))
                all_goals go_wp2_with (go_at_call 28; refine (tErr _ _).mono ?_; rintro e w3 ⟨t3, a3, rfl, hb⟩; have hbb := belk hb (by first | assumption | (refine Below.drew ?_; assumption)); clear hb)
                all_goals (go_ret2; refine ret_bool (r := res) ?_ (by first | assumption | (refine Below.drew ?_; assumption)); rw [← HRES.out, caretR, if_neg (by have := HN.out; omega), if_neg (by simp [x1]), if_neg x2, if_neg (by simp [x3]), if_neg x4]; all_goals first | rfl | (have e := eq_of_beq (show ((a : Int) == (a2 : Int)) = true by assumption); rw [decide_eq_true (by omega)]) | (have e := ne_of_beq_false (show ((a : Int) == (a2 : Int)) = false by assumption); rw [decide_eq_false (by omega)]) | (have e := eq_of_beq (show ((b : Int) == (b2 : Int)) = true by assumption); rw [decide_eq_true (by omega)]) | (have e := ne_of_beq_false (show ((b : Int) == (b2 : Int)) = false by assumption); rw [decide_eq_false (by omega)]) | (have e := eq_of_beq (show ((c2 : Int) == (c : Int)) = true by assumption); rw [decide_eq_true (by omega)]) | (have e := ne_of_beq_false (show ((c2 : Int) == (c : Int)) = false by assumption); rw [decide_eq_false (by omega)]))
            · skip
              go_upto_region 14 with (first | (go_at_call 73; refine (tPrere _ _ _ _ _ _ _).mono ?_; rintro e w1 ⟨rfl, hb⟩; have q0 := keepc hb q0; have q1 := keepc hb q1; have q2 := keepc hb q2; have q3 := keepc hb q3; have q4 := keepc hb q4; have q5 := keepc hb q5; have q6 := keepc hb q6; have q7 := keepc hb q7; have q8 := keepc hb q8; have q9 := keepc hb q9; have q10 := keepc hb q10; have q11 := keepc hb q11; have q12 := keepc hb q12; have q13 := keepc hb q13; have q14 := keepc hb q14; have q15 := keepc hb q15; have q16 := keepc hb q16; have q17 := belk hb q17; clear hb) | (go_at_call 75; refine (tMajor _ _ _ _ _ _ _).mono ?_; rintro e w1 ⟨rfl, hb⟩; have q0 := keepc hb q0; have q1 := keepc hb q1; have q2 := keepc hb q2; have q3 := keepc hb q3; have q4 := keepc hb q4; have q5 := keepc hb q5; have q6 := keepc hb q6; have q7 := keepc hb q7; have q8 := keepc hb q8; have q9 := keepc hb q9; have q10 := keepc hb q10; have q11 := keepc hb q11; have q12 := keepc hb q12; have q13 := keepc hb q13; have q14 := keepc hb q14; have q15 := keepc hb q15; have q16 := keepc hb q16; have q17 := belk hb q17; clear hb) | (go_at_call 76; refine (tMinor _ _ _ _ _ _ _).mono ?_; rintro e w1 ⟨rfl, hb⟩; have q0 := keepc hb q0; have q1 := keepc hb q1; have q2 := keepc hb q2; have q3 := keepc hb q3; have q4 := keepc hb q4; have q5 := keepc hb q5; have q6 := keepc hb q6; have q7 := keepc hb q7; have q8 := keepc hb q8; have q9 := keepc hb q9; have q10 := keepc hb q10; have q11 := keepc hb q11; have q12 := keepc hb q12; have q13 := keepc hb q13; have q14 := keepc hb q14; have q15 := keepc hb q15; have q16 := keepc hb q16; have q17 := belk hb q17; clear hb) | (go_at_call 77; refine (tPatch _ _ _ _ _ _ _).mono ?_; rintro e w1 ⟨rfl, hb⟩; have q0 := keepc hb q0; have q1 := keepc hb q1; have q2 := keepc hb q2; have q3 := keepc hb q3; have q4 := keepc hb q4; have q5 := keepc hb q5; have q6 := keepc hb q6; have q7 := keepc hb q7; have q8 := keepc hb q8; have q9 := keepc hb q9; have q10 := keepc hb q10; have q11 := keepc hb q11; have q12 := keepc hb q12; have q13 := keepc hb q13; have q14 := keepc hb q14; have q15 := keepc hb q15; have q16 := keepc hb q16; have q17 := belk hb q17; clear hb) | (go_at_call 80; refine (tLess _ V U a b c p m o a2 b2 c2 p2 m2 o2 ⟨q0, q1, q2, q3, q4, q5, q6, q7, q8, q9, q10, q11, Below.refl _ _⟩ hp rel hr).mono ?_; rintro e w2 ⟨rfl, hb⟩; rw [hlt]; have q0 := keepc hb q0; have q1 := keepc hb q1; have q2 := keepc hb q2; have q3 := keepc hb q3; have q4 := keepc hb q4; have q5 := keepc hb q5; have q6 := keepc hb q6; have q7 := keepc hb q7; have q8 := keepc hb q8; have q9 := keepc hb q9; have q10 := keepc hb q10; have q11 := keepc hb q11; have q12 := keepc hb q12; have q13 := keepc hb q13; have q14 := keepc hb q14; have q15 := keepc hb q15; have q16 := keepc hb q16; have q17 := belk hb q17; clear hb) | (go_at_call 28; refine (tErr _ _).mono ?_; rintro e w3 ⟨t3, a3, rfl, hb⟩; have q0 := keepc hb q0; have q1 := keepc hb q1; have q2 := keepc hb q2; have q3 := keepc hb q3; have q4 := keepc hb q4; have q5 := keepc hb q5; have q6 := keepc hb q6; have q7 := keepc hb q7; have q8 := keepc hb q8; have q9 := keepc hb q9; have q10 := keepc hb q10; have q11 := keepc hb q11; have q12 := keepc hb q12; have q13 := keepc hb q13; have q14 := keepc hb q14; have q15 := keepc hb q15; have q16 := keepc hb q16; have q17 := belk hb q17; clear hb))
              go_region_held3 (fun w' => w'.cell? ⟨V, 0, none⟩ = some (.int .u64 a) ∧ w'.cell? ⟨V, 1, none⟩ = some (.int .u64 b) ∧ w'.cell? ⟨V, 2, none⟩ = some (.int .u64 c) ∧ w'.cell? ⟨V, 3, none⟩ = some (.string p) ∧ w'.cell? ⟨V, 4, none⟩ = some (.string m) ∧ w'.cell? ⟨V, 5, none⟩ = some (.string o) ∧ w'.cell? ⟨U, 0, none⟩ = some (.int .u64 a2) ∧ w'.cell? ⟨U, 1, none⟩ = some (.int .u64 b2) ∧ w'.cell? ⟨U, 2, none⟩ = some (.int .u64 c2) ∧ w'.cell? ⟨U, 3, none⟩ = some (.string p2) ∧ w'.cell? ⟨U, 4, none⟩ = some (.string m2) ∧ w'.cell? ⟨U, 5, none⟩ = some (.string o2) ∧ w'.cell? ⟨C, 0, none⟩ = some (.pointer (some ⟨U, 0, none⟩)) ∧ w'.cell? ⟨C, 2, none⟩ = some (.string op) ∧ w'.cell? ⟨C, 3, none⟩ = some (.bool false) ∧ w'.cell? ⟨C, 4, none⟩ = some (.bool d) ∧ w'.cell? ⟨C, 5, none⟩ = some (.bool true) ∧ Below w.heap.size w w') (first | exact ⟨by assumption, by assumption, by assumption, by assumption, by assumption, by assumption, by assumption, by assumption, by assumption, by assumption, by assumption, by assumption, by assumption, by assumption, by assumption, by assumption, by assumption, by assumption⟩ | exact ⟨by first | assumption | (rw [World.cell?_drew]; assumption), by first | assumption | (rw [World.cell?_drew]; assumption), by first | assumption | (rw [World.cell?_drew]; assumption), by first | assumption | (rw [World.cell?_drew]; assumption), by first | assumption | (rw [World.cell?_drew]; assumption), by first | assumption | (rw [World.cell?_drew]; assumption), by first | assumption | (rw [World.cell?_drew]; assumption), by first | assumption | (rw [World.cell?_drew]; assumption), by first | assumption | (rw [World.cell?_drew]; assumption), by first | assumption | (rw [World.cell?_drew]; assumption), by first | assumption | (rw [World.cell?_drew]; assumption), by first | assumption | (rw [World.cell?_drew]; assumption), by first | assumption | (rw [World.cell?_drew]; assumption), by first | assumption | (rw [World.cell?_drew]; assumption), by first | assumption | (rw [World.cell?_drew]; assumption), by first | assumption | (rw [World.cell?_drew]; assumption), by first | assumption | (rw [World.cell?_drew]; assumption), by first | assumption | (refine Below.drew ?_; assumption)⟩) (first | (go_at_call 76; refine (tMinor _ _ _ _ _ _ _).mono ?_; rintro e w1 ⟨rfl, hb⟩; have HS2 : S3 w V U C a b c p m o a2 b2 c2 p2 m2 o2 op false d true w1 := ⟨keepc hb (by first | assumption | (rw [World.cell?_drew]; assumption)), keepc hb (by first | assumption | (rw [World.cell?_drew]; assumption)), keepc hb (by first | assumption | (rw [World.cell?_drew]; assumption)), keepc hb (by first | assumption | (rw [World.cell?_drew]; assumption)), keepc hb (by first | assumption | (rw [World.cell?_drew]; assumption)), keepc hb (by first | assumption | (rw [World.cell?_drew]; assumption)), keepc hb (by first | assumption | (rw [World.cell?_drew]; assumption)), keepc hb (by first | assumption | (rw [World.cell?_drew]; assumption)), keepc hb (by first | assumption | (rw [World.cell?_drew]; assumption)), keepc hb (by first | assumption | (rw [World.cell?_drew]; assumption)), keepc hb (by first | assumption | (rw [World.cell?_drew]; assumption)), keepc hb (by first | assumption | (rw [World.cell?_drew]; assumption)), keepc hb (by first | assumption | (rw [World.cell?_drew]; assumption)), keepc hb (by first | assumption | (rw [World.cell?_drew]; assumption)), keepc hb (by first | assumption | (rw [World.cell?_drew]; assumption)), keepc hb (by first | assumption | (rw [World.cell?_drew]; assumption)), keepc hb (by first | assumption | (rw [World.cell?_drew]; assumption)), belk hb (by first | assumption | (refine Below.drew ?_; assumption))⟩; clear hb; obtain ⟨q0, q1, q2, q3, q4, q5, q6, q7, q8, q9, q10, q11, q12, q13, q14, q15, q16, q17⟩ := HS2))
              all_goals go_wp2_with (go_at_call 28; refine (tErr _ _).mono ?_; rintro e w3 ⟨t3, a3, rfl, hb⟩; have hbb := belk hb (by first | assumption | (refine Below.drew ?_; assumption)); clear hb)
              all_goals (go_ret2; refine ret_bool (r := res) ?_ (by first | assumption | (refine Below.drew ?_; assumption)); rw [← HRES.out, caretR, if_neg (by have := HN.out; omega), if_neg (by simp [x1]), if_neg x2, if_pos (.inr rfl)]; all_goals first | rfl | (have e := eq_of_beq (show ((a : Int) == (a2 : Int)) = true by assumption); rw [decide_eq_true (by omega)]) | (have e := ne_of_beq_false (show ((a : Int) == (a2 : Int)) = false by assumption); rw [decide_eq_false (by omega)]) | (have e := eq_of_beq (show ((b : Int) == (b2 : Int)) = true by assumption); rw [decide_eq_true (by omega)]) | (have e := ne_of_beq_false (show ((b : Int) == (b2 : Int)) = false by assumption); rw [decide_eq_false (by omega)]) | (have e := eq_of_beq (show ((c2 : Int) == (c : Int)) = true by assumption); rw [decide_eq_true (by omega)]) | (have e := ne_of_beq_false (show ((c2 : Int) == (c : Int)) = false by assumption); rw [decide_eq_false (by omega)]))
      · skip
        go_upto_region 7 with (first | (go_at_call 73; refine (tPrere _ _ _ _ _ _ _).mono ?_; rintro e w1 ⟨rfl, hb⟩; have q0 := keepc hb q0; have q1 := keepc hb q1; have q2 := keepc hb q2; have q3 := keepc hb q3; have q4 := keepc hb q4; have q5 := keepc hb q5; have q6 := keepc hb q6; have q7 := keepc hb q7; have q8 := keepc hb q8; have q9 := keepc hb q9; have q10 := keepc hb q10; have q11 := keepc hb q11; have q12 := keepc hb q12; have q13 := keepc hb q13; have q14 := keepc hb q14; have q15 := keepc hb q15; have q16 := keepc hb q16; have q17 := belk hb q17; clear hb) | (go_at_call 75; refine (tMajor _ _ _ _ _ _ _).mono ?_; rintro e w1 ⟨rfl, hb⟩; have q0 := keepc hb q0; have q1 := keepc hb q1; have q2 := keepc hb q2; have q3 := keepc hb q3; have q4 := keepc hb q4; have q5 := keepc hb q5; have q6 := keepc hb q6; have q7 := keepc hb q7; have q8 := keepc hb q8; have q9 := keepc hb q9; have q10 := keepc hb q10; have q11 := keepc hb q11; have q12 := keepc hb q12; have q13 := keepc hb q13; have q14 := keepc hb q14; have q15 := keepc hb q15; have q16 := keepc hb q16; have q17 := belk hb q17; clear hb) | (go_at_call 76; refine (tMinor _ _ _ _ _ _ _).mono ?_; rintro e w1 ⟨rfl, hb⟩; have q0 := keepc hb q0; have q1 := keepc hb q1; have q2 := keepc hb q2; have q3 := keepc hb q3; have q4 := keepc hb q4; have q5 := keepc hb q5; have q6 := keepc hb q6; have q7 := keepc hb q7; have q8 := keepc hb q8; have q9 := keepc hb q9; have q10 := keepc hb q10; have q11 := keepc hb q11; have q12 := keepc hb q12; have q13 := keepc hb q13; have q14 := keepc hb q14; have q15 := keepc hb q15; have q16 := keepc hb q16; have q17 := belk hb q17; clear hb) | (go_at_call 77; refine (tPatch _ _ _ _ _ _ _).mono ?_; rintro e w1 ⟨rfl, hb⟩; have q0 := keepc hb q0; have q1 := keepc hb q1; have q2 := keepc hb q2; have q3 := keepc hb q3; have q4 := keepc hb q4; have q5 := keepc hb q5; have q6 := keepc hb q6; have q7 := keepc hb q7; have q8 := keepc hb q8; have q9 := keepc hb q9; have q10 := keepc hb q10; have q11 := keepc hb q11; have q12 := keepc hb q12; have q13 := keepc hb q13; have q14 := keepc hb q14; have q15 := keepc hb q15; have q16 := keepc hb q16; have q17 := belk hb q17; clear hb) | (go_at_call 80; refine (tLess _ V U a b c p m o a2 b2 c2 p2 m2 o2 ⟨q0, q1, q2, q3, q4, q5, q6, q7, q8, q9, q10, q11, Below.refl _ _⟩ hp rel hr).mono ?_; rintro e w2 ⟨rfl, hb⟩; rw [hlt]; have q0 := keepc hb q0; have q1 := keepc hb q1; have q2 := keepc hb q2; have q3 := keepc hb q3; have q4 := keepc hb q4; have q5 := keepc hb q5; have q6 := keepc hb q6; have q7 := keepc hb q7; have q8 := keepc hb q8; have q9 := keepc hb q9; have q10 := keepc hb q10; have q11 := keepc hb q11; have q12 := keepc hb q12; have q13 := keepc hb q13; have q14 := keepc hb q14; have q15 := keepc hb q15; have q16 := keepc hb q16; have q17 := belk hb q17; clear hb) | (go_at_call 28; refine (tErr _ _).mono ?_; rintro e w3 ⟨t3, a3, rfl, hb⟩; have q0 := keepc hb q0; have q1 := keepc hb q1; have q2 := keepc hb q2; have q3 := keepc hb q3; have q4 := keepc hb q4; have q5 := keepc hb q5; have q6 := keepc hb q6; have q7 := keepc hb q7; have q8 := keepc hb q8; have q9 := keepc hb q9; have q10 := keepc hb q10; have q11 := keepc hb q11; have q12 := keepc hb q12; have q13 := keepc hb q13; have q14 := keepc hb q14; have q15 := keepc hb q15; have q16 := keepc hb q16; have q17 := belk hb q17; clear hb))
        go_region_held3 (fun w' => w'.cell? ⟨V, 0, none⟩ = some (.int .u64 a) ∧ w'.cell? ⟨V, 1, none⟩ = some (.int .u64 b) ∧ w'.cell? ⟨V, 2, none⟩ = some (.int .u64 c) ∧ w'.cell? ⟨V, 3, none⟩ = some (.string p) ∧ w'.cell? ⟨V, 4, none⟩ = some (.string m) ∧ w'.cell? ⟨V, 5, none⟩ = some (.string o) ∧ w'.cell? ⟨U, 0, none⟩ = some (.int .u64 a2) ∧ w'.cell? ⟨U, 1, none⟩ = some (.int .u64 b2) ∧ w'.cell? ⟨U, 2, none⟩ = some (.int .u64 c2) ∧ w'.cell? ⟨U, 3, none⟩ = some (.string p2) ∧ w'.cell? ⟨U, 4, none⟩ = some (.string m2) ∧ w'.cell? ⟨U, 5, none⟩ = some (.string o2) ∧ w'.cell? ⟨C, 0, none⟩ = some (.pointer (some ⟨U, 0, none⟩)) ∧ w'.cell? ⟨C, 2, none⟩ = some (.string op) ∧ w'.cell? ⟨C, 3, none⟩ = some (.bool true) ∧ w'.cell? ⟨C, 4, none⟩ = some (.bool d) ∧ w'.cell? ⟨C, 5, none⟩ = some (.bool pd) ∧ Below w.heap.size w w') (first | exact ⟨by assumption, by assumption, by assumption, by assumption, by assumption, by assumption, by assumption, by assumption, by assumption, by assumption, by assumption, by assumption, by assumption, by assumption, by assumption, by assumption, by assumption, by assumption⟩ | exact ⟨by first | assumption | (rw [World.cell?_drew]; assumption), by first | assumption | (rw [World.cell?_drew]; assumption), by first | assumption | (rw [World.cell?_drew]; assumption), by first | assumption | (rw [World.cell?_drew]; assumption), by first | assumption | (rw [World.cell?_drew]; assumption), by first | assumption | (rw [World.cell?_drew]; assumption), by first | assumption | (rw [World.cell?_drew]; assumption), by first | assumption | (rw [World.cell?_drew]; assumption), by first | assumption | (rw [World.cell?_drew]; assumption), by first | assumption | (rw [World.cell?_drew]; assumption), by first | assumption | (rw [World.cell?_drew]; assumption), by first | assumption | (rw [World.cell?_drew]; assumption), by first | assumption | (rw [World.cell?_drew]; assumption), by first | assumption | (rw [World.cell?_drew]; assumption), by first | assumption | (rw [World.cell?_drew]; assumption), by first | assumption | (rw [World.cell?_drew]; assumption), by first | assumption | (rw [World.cell?_drew]; assumption), by first | assumption | (refine Below.drew ?_; assumption)⟩) (first | (go_at_call 75; refine (tMajor _ _ _ _ _ _ _).mono ?_; rintro e w1 ⟨rfl, hb⟩; have HS2 : S3 w V U C a b c p m o a2 b2 c2 p2 m2 o2 op true d pd w1 := ⟨keepc hb (by first | assumption | (rw [World.cell?_drew]; assumption)), keepc hb (by first | assumption | (rw [World.cell?_drew]; assumption)), keepc hb (by first | assumption | (rw [World.cell?_drew]; assumption)), keepc hb (by first | assumption | (rw [World.cell?_drew]; assumption)), keepc hb (by first | assumption | (rw [World.cell?_drew]; assumption)), keepc hb (by first | assumption | (rw [World.cell?_drew]; assumption)), keepc hb (by first | assumption | (rw [World.cell?_drew]; assumption)), keepc hb (by first | assumption | (rw [World.cell?_drew]; assumption)), keepc hb (by first | assumption | (rw [World.cell?_drew]; assumption)), keepc hb (by first | assumption | (rw [World.cell?_drew]; assumption)), keepc hb (by first | assumption | (rw [World.cell?_drew]; assumption)), keepc hb (by first | assumption | (rw [World.cell?_drew]; assumption)), keepc hb (by first | assumption | (rw [World.cell?_drew]; assumption)), keepc hb (by first | assumption | (rw [World.cell?_drew]; assumption)), keepc hb (by first | assumption | (rw [World.cell?_drew]; assumption)), keepc hb (by first | assumption | (rw [World.cell?_drew]; assumption)), keepc hb (by first | assumption | (rw [World.cell?_drew]; assumption)), belk hb (by first | assumption | (refine Below.drew ?_; assumption))⟩; clear hb; obtain ⟨q0, q1, q2, q3, q4, q5, q6, q7, q8, q9, q10, q11, q12, q13, q14, q15, q16, q17⟩ := HS2))
        all_goals go_wp2_with (go_at_call 28; refine (tErr _ _).mono ?_; rintro e w3 ⟨t3, a3, rfl, hb⟩; have hbb := belk hb (by first | assumption | (refine Below.drew ?_; assumption)); clear hb)
        all_goals (go_ret2; refine ret_bool (r := res) ?_ (by first | assumption | (refine Below.drew ?_; assumption)); rw [← HRES.out, caretR, if_neg (by have := HN.out; omega), if_pos (.inr rfl)]; all_goals first | rfl | (have e := eq_of_beq (show ((a : Int) == (a2 : Int)) = true by assumption); rw [decide_eq_true (by omega)]) | (have e := ne_of_beq_false (show ((a : Int) == (a2 : Int)) = false by assumption); rw [decide_eq_false (by omega)]) | (have e := eq_of_beq (show ((b : Int) == (b2 : Int)) = true by assumption); rw [decide_eq_true (by omega)]) | (have e := ne_of_beq_false (show ((b : Int) == (b2 : Int)) = false by assumption); rw [decide_eq_false (by omega)]) | (have e := eq_of_beq (show ((c2 : Int) == (c : Int)) = true by assumption); rw [decide_eq_true (by omega)]) | (have e := ne_of_beq_false (show ((c2 : Int) == (c : Int)) = false by assumption); rw [decide_eq_false (by omega)]))
  · go_wp2_with (first | (go_at_call 73; refine (tPrere _ _ _ _ _ _ _).mono ?_; rintro e w1 ⟨rfl, hb⟩; have q0 := keepc hb q0; have q1 := keepc hb q1; have q2 := keepc hb q2; have q3 := keepc hb q3; have q4 := keepc hb q4; have q5 := keepc hb q5; have q6 := keepc hb q6; have q7 := keepc hb q7; have q8 := keepc hb q8; have q9 := keepc hb q9; have q10 := keepc hb q10; have q11 := keepc hb q11; have q12 := keepc hb q12; have q13 := keepc hb q13; have q14 := keepc hb q14; have q15 := keepc hb q15; have q16 := keepc hb q16; have q17 := belk hb q17; clear hb) | (go_at_call 75; refine (tMajor _ _ _ _ _ _ _).mono ?_; rintro e w1 ⟨rfl, hb⟩; have q0 := keepc hb q0; have q1 := keepc hb q1; have q2 := keepc hb q2; have q3 := keepc hb q3; have q4 := keepc hb q4; have q5 := keepc hb q5; have q6 := keepc hb q6; have q7 := keepc hb q7; have q8 := keepc hb q8; have q9 := keepc hb q9; have q10 := keepc hb q10; have q11 := keepc hb q11; have q12 := keepc hb q12; have q13 := keepc hb q13; have q14 := keepc hb q14; have q15 := keepc hb q15; have q16 := keepc hb q16; have q17 := belk hb q17; clear hb) | (go_at_call 76; refine (tMinor _ _ _ _ _ _ _).mono ?_; rintro e w1 ⟨rfl, hb⟩; have q0 := keepc hb q0; have q1 := keepc hb q1; have q2 := keepc hb q2; have q3 := keepc hb q3; have q4 := keepc hb q4; have q5 := keepc hb q5; have q6 := keepc hb q6; have q7 := keepc hb q7; have q8 := keepc hb q8; have q9 := keepc hb q9; have q10 := keepc hb q10; have q11 := keepc hb q11; have q12 := keepc hb q12; have q13 := keepc hb q13; have q14 := keepc hb q14; have q15 := keepc hb q15; have q16 := keepc hb q16; have q17 := belk hb q17; clear hb) | (go_at_call 77; refine (tPatch _ _ _ _ _ _ _).mono ?_; rintro e w1 ⟨rfl, hb⟩; have q0 := keepc hb q0; have q1 := keepc hb q1; have q2 := keepc hb q2; have q3 := keepc hb q3; have q4 := keepc hb q4; have q5 := keepc hb q5; have q6 := keepc hb q6; have q7 := keepc hb q7; have q8 := keepc hb q8; have q9 := keepc hb q9; have q10 := keepc hb q10; have q11 := keepc hb q11; have q12 := keepc hb q12; have q13 := keepc hb q13; have q14 := keepc hb q14; have q15 := keepc hb q15; have q16 := keepc hb q16; have q17 := belk hb q17; clear hb) | (go_at_call 80; refine (tLess _ V U a b c p m o a2 b2 c2 p2 m2 o2 ⟨q0, q1, q2, q3, q4, q5, q6, q7, q8, q9, q10, q11, Below.refl _ _⟩ hp rel hr).mono ?_; rintro e w2 ⟨rfl, hb⟩; rw [hlt]; have q0 := keepc hb q0; have q1 := keepc hb q1; have q2 := keepc hb q2; have q3 := keepc hb q3; have q4 := keepc hb q4; have q5 := keepc hb q5; have q6 := keepc hb q6; have q7 := keepc hb q7; have q8 := keepc hb q8; have q9 := keepc hb q9; have q10 := keepc hb q10; have q11 := keepc hb q11; have q12 := keepc hb q12; have q13 := keepc hb q13; have q14 := keepc hb q14; have q15 := keepc hb q15; have q16 := keepc hb q16; have q17 := belk hb q17; clear hb) | (go_at_call 28; refine (tErr _ _).mono ?_; rintro e w3 ⟨t3, a3, rfl, hb⟩; have q0 := keepc hb q0; have q1 := keepc hb q1; have q2 := keepc hb q2; have q3 := keepc hb q3; have q4 := keepc hb q4; have q5 := keepc hb q5; have q6 := keepc hb q6; have q7 := keepc hb q7; have q8 := keepc hb q8; have q9 := keepc hb q9; have q10 := keepc hb q10; have q11 := keepc hb q11; have q12 := keepc hb q12; have q13 := keepc hb q13; have q14 := keepc hb q14; have q15 := keepc hb q15; have q16 := keepc hb q16; have q17 := belk hb q17; clear hb))
    go_ret2
    refine ret_bool (r := res) ?_ (by assumption)
    rw [← HRES.out, caretR, if_pos (of_decide_eq_true HLT.out)]
end Go.Proofs.YtpbmbaffncnglaaGreatDoor.Sv
end
section
set_option linter.unusedVariables false
set_option linter.unusedSimpArgs false
/- the plain law: the next versions against the operators -/
namespace Go.Proofs.YtpbmbaffncnglaaGreatDoor.Sv
open Go Go.RowKit Rx
def tildeR (a b c a2 b2 c2 : Nat) (rel md pd : Bool) : Bool := if cmpRel a b c a2 b2 c2 rel < 0 then false else if a2 = 0 ∧ b2 = 0 ∧ c2 = 0 ∧ md = false ∧ pd = false then true else if a ≠ a2 then false else if b ≠ b2 ∧ md = false then false else true
theorem seg_lt {x y : Nat} (h : x < y) : seg x y = -1 := if_pos h
theorem seg_gt {x y : Nat} (h : y < x) : seg x y = 1 := by unfold seg; rw [if_neg (by omega), if_pos h]
theorem seg_eq (x : Nat) : seg x x = 0 := by unfold seg; rw [if_neg (by omega), if_neg (by omega)]
theorem cmp_patch (a b c : Nat) : cmpRel a b (c + 1) a b c true = 1 := by simp [cmpRel, seg_eq, seg_gt (Nat.lt_succ_self c)]
theorem cmp_minor (a b c : Nat) : cmpRel a (b + 1) 0 a b c true = 1 := by simp [cmpRel, seg_eq, seg_gt (Nat.lt_succ_self b)]
theorem cmp_major (a b c : Nat) : cmpRel (a + 1) 0 0 a b c true = 1 := by simp [cmpRel, seg_eq, seg_gt (Nat.lt_succ_self a)]
theorem tilde_patch (a b c : Nat) : tildeR a b (c + 1) a b c true false false = true := by simp [tildeR, cmp_patch]
theorem tilde_minor (a b c : Nat) (h : ¬ (a = 0 ∧ b = 0 ∧ c = 0)) : tildeR a (b + 1) 0 a b c true false false = false := by
  unfold tildeR
  rw [cmp_minor, if_neg (by decide), if_neg (by rintro ⟨h1, h2, h3, -⟩; exact h ⟨h1, h2, h3⟩), if_neg (by simp), if_pos ⟨by omega, rfl⟩]
theorem tilde_major (a b c : Nat) (h : ¬ (a = 0 ∧ b = 0 ∧ c = 0)) : tildeR (a + 1) 0 0 a b c true false false = false := by
  unfold tildeR
  rw [cmp_major, if_neg (by decide), if_neg (by rintro ⟨h1, h2, h3, -⟩; exact h ⟨h1, h2, h3⟩), if_pos (by omega)]
theorem caret_patch (a b c : Nat) : caretR a b (c + 1) a b c true false false = (decide (0 < a) || decide (0 < b)) := by
  unfold caretR
  rw [cmp_patch, if_neg (by decide)]
  by_cases ha : 0 < a
  · rw [if_pos (.inl ha)]; simp [ha]
  · rw [if_neg (by simp [ha]), if_neg ha]
    by_cases hb : 0 < b
    · rw [if_pos (.inl hb)]; simp [ha, hb]
    · rw [if_neg (by simp [hb]), if_neg hb]; simp [ha, hb]
theorem caret_minor (a b c : Nat) : caretR a (b + 1) 0 a b c true false false = decide (0 < a) := by
  unfold caretR
  rw [cmp_minor, if_neg (by decide)]
  by_cases ha : 0 < a
  · rw [if_pos (.inl ha)]; simp [ha]
  · rw [if_neg (by simp [ha]), if_neg ha]
    by_cases hb : 0 < b
    · rw [if_pos (.inl hb)]; simp [ha]
    · rw [if_neg (by simp [hb]), if_pos (by omega)]; simp [ha]
theorem caret_major (a b c : Nat) : caretR (a + 1) 0 0 a b c true false false = false := by
  unfold caretR
  rw [cmp_major, if_neg (by decide)]
  by_cases ha : 0 < a
  · rw [if_pos (.inl ha)]; simp
  · rw [if_neg (by simp [ha]), if_pos (by omega)]
end Go.Proofs.YtpbmbaffncnglaaGreatDoor.Sv
end
