/- a part of the proof: FnSemverDeMorgan: for every list of terms, every style and every version the law's function returns true and leaves its arguments as they were. No condition is added: the statement is the given one, the tied card. -/
import Derived.Test.YtnamjojceadgdaaGreatDoorNF
import Derived.Test.YtnamjojceadgdaaGreatDoorNC
section
set_option linter.unusedVariables false
set_option linter.unusedSimpArgs false
/- one term is read -/
namespace Go.Proofs.YtnamjojceadgdaaGreatDoor.Sv
open Go Go.RowKit Rx
set_option maxRecDepth 100000
structure CAt (w : World) (V bp : Nat) (cs ps : Array Value) (W : World) : Prop where
  v : W.heap[V]? = some (.cells cs 73 (0, 0))
  p : W.heap[bp]? = some (.cells ps 9 (0, 0))
  b : Below w.heap.size w W
  h : w.heap.size ≤ V
theorem CAt.keep {w W W' : World} {V bp : Nat} {cs ps : Array Value} (h : CAt w V bp cs ps W) (hb : Below W.heap.size W W') : CAt w V bp cs ps W' :=
  ⟨(hb.block V (Array.getElem?_eq_some_iff.1 h.v).1).trans h.v, (hb.block bp (Array.getElem?_eq_some_iff.1 h.p).1).trans h.p, h.b.trans (hb.mono h.b.size), h.h⟩
theorem CAt.store {w W : World} {V bp : Nat} {cs ps : Array Value} (h : CAt w V bp cs ps W) (i : Nat) (v : Value) : CAt w V bp (cs.setIfInBounds i v) ps (W.setCell ⟨V, i, none⟩ v) :=
  ⟨heap_setCell_same W V i cs 73 v h.v, (heap_setCell_other _ _ _ _ (typ_ne h.p h.v (by decide))).trans h.p, h.b.setCell (p := ⟨V, i, none⟩) h.h _, h.h⟩
theorem CAt.cell {w W : World} {V bp : Nat} {cs ps : Array Value} (h : CAt w V bp cs ps W) (i : Nat) (v : Value) (hv : cs[i]? = some v) : W.cell? ⟨V, i, none⟩ = some v := by rw [cell_of_row _ _ _ _ _ _ h.v, hv]
theorem CAt.piece {w W : World} {V bp : Nat} {cs ps : Array Value} (h : CAt w V bp cs ps W) (i : Nat) (v : Value) (hv : ps[i]? = some v) : W.cell? ⟨bp, i, none⟩ = some v := by rw [cell_of_row _ _ _ _ _ _ h.p, hv]
theorem CAt.fz {w W : World} {V bp : Nat} {cs ps : Array Value} (h : CAt w V bp cs ps W) (i : Nat) : W.frozen? ⟨V, i, none⟩ = false := frozen_of_row _ _ _ _ _ h.v
def isXb (t : Bs) : Bool := t == [120] || t == [42] || t == [88]
/-- a term that was read -/
def ConAt (W : World) (C : Nat) (V : Nat) (orig op : Bs) (md d pd : Bool) : Prop := W.heap[C]? = some (.cells #[.pointer (some ⟨V, 0, none⟩), .string (bytesOf orig), .string (bytesOf op), .bool md, .bool d, .bool pd] 73 (0, 0))
theorem tIsXb (t : Bs) (w : World) : Calls Tryz.prog 51 #[.string (bytesOf t)] w fun e w' => e = .returned (.bool (isXb t)) ∧ w' = w := by
  have := tIsX (bytesOf t) w
  rw [bytesOf_toList] at this
  exact this
/-- what reading a version's text does, with its digits -/
def Reads (yt : Bs) (a b c : Nat) (pre me : Bs) : Prop := ∀ w, Lib.Utf8Tabs 11 12 w → Calls Tryz.prog 53 #[.string (bytesOf yt)] w fun e w' => ∃ V, e = .returned (.tuple #[.pointer (some ⟨V, 0, none⟩), .nilIface]) ∧ w.heap.size ≤ V ∧ VerAt w' V a b c pre me yt ∧ Below w.heap.size w w'
set_option maxHeartbeats 4000000 in
theorem t44full (x : Tm) {L RR : Bs} {s : ByteArray} (hs : s.size ≤ 1000) (hx : x.Ok) (ht : s.data.toList = L ++ (x.text ++ RR)) (hL : ∀ y ∈ L, ws y = true) (hR : ∀ y ∈ RR, ws y = true) (h0 : x.op = [] → x.blank = [])
    (r2 r3 : Bs) (h2 : x.ver.p2 = some r2) (h3 : x.ver.p3 = some r3) (x1 : isXb x.ver.p1 = false) (x2 : isXb r2 = false) (x3 : isXb r3 = false) (a b c : Nat) (pre me : Bs) (hv : Reads x.ver.text a b c pre me) (w : World) (hT : Lib.Utf8Tabs 11 12 w) :
    Calls Tryz.prog 31 #[.string s] w fun e w' => ∃ C V, e = .returned (.tuple #[.pointer (some ⟨C, 0, none⟩), .nilIface]) ∧ w.heap.size ≤ C ∧ w.heap.size ≤ V ∧ ConAt w' C V x.ver.text x.op false false false ∧ VerAt w' V a b c pre me x.ver.text ∧ Below w.heap.size w w' := by
  have hsz : L.length + (x.text.length + RR.length) = s.size := by rw [← list_size, ht]; simp
  have hxp := tm_pos hx
  have hlen : x.ver.p1.length + (r2.length + 1 + (r3.length + 1)) ≤ x.text.length := by
    rw [Tm.text, Ver.text, h2, h3]; simp [ptext]; omega
  have hp1 : (bytesOf x.ver.p1).toList.isEmpty = false := by
    rw [bytesOf_toList]
    have := hx.ver.p1.1
    cases h : x.ver.p1 with
    | nil => exact absurd h this
    | cons y l => rfl
  have k0 : (0 : Int) < (s.size : Int) := by omega
  have H61 := Lib.hid (fun (w : World) (R PB IB icap : Nat) (hp : PG w R PB IB icap conT) (hr : RH w R PB 4 1 24 1 11) (hT : Lib.Utf8Tabs 11 12 w) => conM (s := s) hp hr hT hs hx ht hL hR h0)
  have HT := Lib.hid hT
  have HTa := Lib.hid (fun w => tTrimDot (46 :: r2) (.inr ⟨_, rfl⟩) (by simp; omega) w)
  have HTb := Lib.hid (fun w => tTrimDot (46 :: r3) (.inr ⟨_, rfl⟩) (by simp; omega) w)
  have HX1 := Lib.hid (fun w => tIsXb x.ver.p1 w)
  have HX2 := Lib.hid (fun w => tIsXb r2 w)
  have HX3 := Lib.hid (fun w => tIsXb r3 w)
  have HV := Lib.hid hv
  have q := q52
  have n2 := bytesOf_toList (46 :: r2)
  have n3 := bytesOf_toList (46 :: r3)
  rw [h2, h3] at H61
  rw [x1] at HX1
  rw [x2] at HX2
  rw [x3] at HX3
  clear hx ht hL hR h0 h2 h3 x1 x2 x3 hv hT hsz hxp hlen hs
  simp only [ptext] at H61
  generalize x.ver.text = yt at *
  generalize x.ver.p1 = r1 at *
  generalize x.op = op at *
  generalize gtext 45 x.ver.pre = g6 at *
  go_enter Tryz.func31, Tryz.ntmps31
  go_wp2_with (first
    | (go_at_call 49; refine (t60 w).mono ?_; rintro e w1 ⟨R, PB, IB, icap, rfl, hp, hr, hb⟩; have HP := Lib.hid (And.intro hp (And.intro hr (And.intro (Utf8Tabs_below HT.out hb) hb))); clear hp hr hb)
    | (go_at_call 50; refine (H61.out _ _ _ _ _ HP.out.1 HP.out.2.1 HP.out.2.2.1).mono ?_; rintro e w2 ⟨hb2, f, ⟨bp, rfl, h1, h2⟩, e1, e2, e3, e4, e5, e6⟩; have c1 := piece_cell h2 1 (by decide); have c2 := piece_cell h2 2 (by decide); have c3 := piece_cell h2 3 (by decide); have c4 := piece_cell h2 4 (by decide); have c5 := piece_cell h2 5 (by decide); have c6 := piece_cell h2 6 (by decide); rw [e1] at c1; rw [e2] at c2; rw [e3] at c3; rw [e4] at c4; rw [e5] at c5; rw [e6] at c6; have HB2 := Lib.hid (And.intro h1 (And.intro h2 (HP.out.2.2.2.trans (hb2.mono HP.out.2.2.2.size)))); clear hb2 h1 h2 e1 e2 e3 e4 e5 e6))
  go_region
  have hst : CAt w w2.heap.size bp #[.pointer none, .string (bytesOf yt), .string (bytesOf op), .bool false, .bool false, .bool false] (strs ((List.range 12).map f)) ((w2.alloc (.cells #[.pointer none, .string (bytesOf yt), .string (bytesOf op), .bool false, .bool false, .bool false] 73)).drew) := by
    obtain ⟨k1, k2, k3⟩ := HB2.out
    exact ⟨heap_alloc_new w2 _, (Below.heap_alloc w2 _ bp (Array.getElem?_eq_some_iff.1 k2).1).trans k2, (k3.alloc k3.size _).drew, k3.size⟩
  have e2 : (strs ((List.range 12).map f))[2]? = some (.string (bytesOf yt)) := by rw [← c2, cell_of_row _ _ _ _ _ _ HB2.out.2.1]
  have e3 : (strs ((List.range 12).map f))[3]? = some (.string (bytesOf r1)) := by rw [← c3, cell_of_row _ _ _ _ _ _ HB2.out.2.1]
  have e4 : (strs ((List.range 12).map f))[4]? = some (.string (bytesOf (46 :: r2))) := by rw [← c4, cell_of_row _ _ _ _ _ _ HB2.out.2.1]
  have e5 : (strs ((List.range 12).map f))[5]? = some (.string (bytesOf (46 :: r3))) := by rw [← c5, cell_of_row _ _ _ _ _ _ HB2.out.2.1]
  clear c1 c2 c3 c4 c5 c6
  generalize (w2.alloc (.cells #[.pointer none, .string (bytesOf yt), .string (bytesOf op), .bool false, .bool false, .bool false] 73)).drew = W3 at *
  generalize strs ((List.range 12).map f) = ps at *
  generalize w2.heap.size = C at *
  have HS := Lib.hid hst
  have c2 := hst.piece 2 _ e2
  have c3 := hst.piece 3 _ e3
  have c4 := hst.piece 4 _ e4
  have c5 := hst.piece 5 _ e5
  clear hst e2 e3 e4 e5
  go_upto_region 21 with (first
    | (go_at_call 51; first | (refine (HX1.out _).mono ?_; rintro e w6 ⟨rfl, hw⟩; subst hw) | (refine (HX2.out _).mono ?_; rintro e w6 ⟨rfl, hw⟩; subst hw) | (refine (HX3.out _).mono ?_; rintro e w6 ⟨rfl, hw⟩; subst hw))
    | (go_at_call 52; first | (refine (HTa.out _).mono ?_; rintro e w6 ⟨rfl, hw⟩; subst hw; rw [show (46 :: r2 : Bs).tail = r2 from rfl]) | (refine (HTb.out _).mono ?_; rintro e w6 ⟨rfl, hw⟩; subst hw; rw [show (46 :: r3 : Bs).tail = r3 from rfl]))
    | go_in)
  clear c2 c3 c4 c5 n2 n3 k0
  have HU := Lib.hid (Utf8Tabs_below HT.out HS.out.b)
  go_wp2_with (go_at_call 53; refine (HV.out _ HU.out).mono ?_; rintro e w7 ⟨V, rfl, hVs, hVa, hb7⟩; have hst4 := HS.out.keep hb7; have HS4 := Lib.hid hst4; have HW := Lib.hid (And.intro hVs hVa); have v0 := hst4.cell 0 _ rfl; have v3 := hst4.cell 3 _ rfl; have v4 := hst4.cell 4 _ rfl; have v5 := hst4.cell 5 _ rfl; have z0 := hst4.fz 0; have z3 := hst4.fz 3; have z4 := hst4.fz 4; have z5 := hst4.fz 5; clear hb7 hst4 hVs hVa)
  go_ret2
  have hfin := (((HS4.out.store 0 (.pointer (some ⟨V, 0, none⟩))).store 3 (.bool false)).store 5 (.bool false)).store 4 (.bool false)
  have hne : V ≠ C := typ_ne HW.out.2 HS4.out.v (by decide)
  refine ⟨C, V, rfl, hfin.h, Nat.le_trans HS.out.b.size HW.out.1, hfin.v, ?_, hfin.b⟩
  unfold VerAt
  rw [heap_setCell_other _ _ _ _ hne, heap_setCell_other _ _ _ _ hne, heap_setCell_other _ _ _ _ hne, heap_setCell_other _ _ _ _ hne]
  exact HW.out.2
end Go.Proofs.YtnamjojceadgdaaGreatDoor.Sv
end
section
set_option linter.unusedVariables false
set_option linter.unusedSimpArgs false
/- terms, lists of terms, in memory -/
namespace Go.Proofs.YtnamjojceadgdaaGreatDoor.Sv
open Go Go.RowKit Rx
set_option maxRecDepth 100000
structure TD where
  op : Bs
  orig : Bs
  md : Bool
  d : Bool
  pd : Bool
  a : Nat
  b : Nat
  c : Nat
  pre : Bs
  me : Bs
  vt : Bs
def TDAt (W : World) (C : Nat) (t : TD) : Prop := ∃ V, ConAt W C V t.orig t.op t.md t.d t.pd ∧ VerAt W V t.a t.b t.c t.pre t.me t.vt
/-- all but one block is as it was -/
def Kp (X : Nat) (W W' : World) : Prop := ∀ k, k < W.heap.size → k ≠ X → W'.heap[k]? = W.heap[k]?
theorem Kp.setCell (X i : Nat) (W : World) (v : Value) : Kp X W (W.setCell ⟨X, i, none⟩ v) := fun k _ hn => heap_setCell_other _ _ _ _ hn
/-- the block that may turn holds neither a term nor a version -/
def Free (X : Nat) (W : World) : Prop := ∀ cs t f, W.heap[X]? = some (.cells cs t f) → t ≠ 73 ∧ t ≠ 71
theorem TDAt.kp {W W' : World} {C X : Nat} {t : TD} (h : TDAt W C t) (hk : Kp X W W') (hf : Free X W) : TDAt W' C t := by
  obtain ⟨V, h1, h2⟩ := h
  have n1 : C ≠ X := fun e => by subst e; exact (hf _ _ _ h1).1 rfl
  have n2 : V ≠ X := fun e => by subst e; exact (hf _ _ _ h2).2 rfl
  exact ⟨V, (hk C (Array.getElem?_eq_some_iff.1 h1).1 n1).trans h1, (hk V (Array.getElem?_eq_some_iff.1 h2).1 n2).trans h2⟩
theorem TDAt.keep {W W' : World} {C : Nat} {t : TD} (h : TDAt W C t) (hb : Below W.heap.size W W') : TDAt W' C t := by
  obtain ⟨V, h1, h2⟩ := h
  exact ⟨V, (hb.block C (Array.getElem?_eq_some_iff.1 h1).1).trans h1, (hb.block V (Array.getElem?_eq_some_iff.1 h2).1).trans h2⟩
def ptr (C : Nat) : Value := .pointer (some ⟨C, 0, none⟩)
/-- the terms stand at these places -/
def TDs (W : World) : List Nat → List TD → Prop
  | [], [] => True
  | C :: Cs, t :: ts => TDAt W C t ∧ TDs W Cs ts
  | _, _ => False
theorem TDs.length {W : World} : ∀ {Cs : List Nat} {ts : List TD}, TDs W Cs ts → Cs.length = ts.length
  | [], [], _ => rfl
  | C :: Cs, t :: ts, h => by simp [TDs.length h.2]
  | [], _ :: _, h => h.elim
  | _ :: _, [], h => h.elim
theorem TDs.kp {W W' : World} {X : Nat} (hk : Kp X W W') (hf : Free X W) : ∀ {Cs : List Nat} {ts : List TD}, TDs W Cs ts → TDs W' Cs ts
  | [], [], _ => trivial
  | C :: Cs, t :: ts, h => ⟨h.1.kp hk hf, TDs.kp hk hf h.2⟩
  | [], _ :: _, h => h.elim
  | _ :: _, [], h => h.elim
theorem TDs.keep {W W' : World} (hb : Below W.heap.size W W') : ∀ {Cs : List Nat} {ts : List TD}, TDs W Cs ts → TDs W' Cs ts
  | [], [], _ => trivial
  | C :: Cs, t :: ts, h => ⟨h.1.keep hb, TDs.keep hb h.2⟩
  | [], _ :: _, h => h.elim
  | _ :: _, [], h => h.elim
theorem TDs.snoc {W : World} {C : Nat} {t : TD} (h : TDAt W C t) : ∀ {Cs : List Nat} {ts : List TD}, TDs W Cs ts → TDs W (Cs ++ [C]) (ts ++ [t])
  | [], [], _ => ⟨h, trivial⟩
  | D :: Cs, u :: ts, g => ⟨g.1, TDs.snoc h g.2⟩
  | [], _ :: _, g => g.elim
  | _ :: _, [], g => g.elim
theorem TDs.get {W : World} : ∀ {Cs : List Nat} {ts : List TD} {i : Nat} {t : TD}, TDs W Cs ts → ts[i]? = some t → ∃ C, Cs[i]? = some C ∧ TDAt W C t
  | [], [], i, t, _, h => by simp at h
  | C :: Cs, u :: ts, 0, t, g, h => by simp at h; subst h; exact ⟨C, rfl, g.1⟩
  | C :: Cs, u :: ts, i + 1, t, g, h => by simpa using TDs.get g.2 (by simpa using h)
  | [], _ :: _, _, _, g, _ => g.elim
  | _ :: _, [], _, _, g, _ => g.elim
/-- a row of pointers, the rest of it nil -/
def ptrRow (Cs : List Nat) (n : Nat) : Array Value := (Cs.map ptr ++ List.replicate (n - Cs.length) (Value.pointer none)).toArray
/-- a row that grows from the left: a cell is written -/
theorem fill_step (l : List Value) (n : Nat) (v z : Value) (h : l.length < n) : ((l ++ List.replicate (n - l.length) z).toArray.setIfInBounds l.length v) = ((l ++ [v]) ++ List.replicate (n - (l ++ [v]).length) z).toArray := by
  obtain ⟨m, hm⟩ : ∃ m, n - l.length = m + 1 := ⟨n - l.length - 1, by omega⟩
  have e : n - (l ++ [v]).length = m := by simp; omega
  rw [hm, e, List.replicate_succ]
  apply Array.toList_inj.1
  simp
theorem ptrRow_step (Cs : List Nat) (n C : Nat) (h : Cs.length < n) : (ptrRow Cs n).setIfInBounds Cs.length (ptr C) = ptrRow (Cs ++ [C]) n := by
  have := fill_step (Cs.map ptr) n (ptr C) (.pointer none) (by simpa using h)
  simpa [ptrRow] using this
/-- a list of terms in memory -/
def RowAt (W : World) (X : Nat) (ts : List TD) : Prop := ∃ Cs, W.heap[X]? = some (.cells (ptrRow Cs ts.length) 67 (0, 0)) ∧ TDs W Cs ts
theorem RowAt.kp {W W' : World} {R X : Nat} {ts : List TD} (h : RowAt W R ts) (hk : Kp X W W') (hf : Free X W) (hn : R ≠ X) : RowAt W' R ts := by
  obtain ⟨Cs, h1, h2⟩ := h
  exact ⟨Cs, (hk R (Array.getElem?_eq_some_iff.1 h1).1 hn).trans h1, h2.kp hk hf⟩
theorem RowAt.keep {W W' : World} {R : Nat} {ts : List TD} (h : RowAt W R ts) (hb : Below W.heap.size W W') : RowAt W' R ts := by
  obtain ⟨Cs, h1, h2⟩ := h
  exact ⟨Cs, (hb.block R (Array.getElem?_eq_some_iff.1 h1).1).trans h1, h2.keep hb⟩
def Rows (W : World) : List Nat → List (List TD) → Prop
  | [], [] => True
  | X :: Xs, ts :: gs => RowAt W X ts ∧ Rows W Xs gs
  | _, _ => False
theorem Rows.length {W : World} : ∀ {Xs : List Nat} {gs : List (List TD)}, Rows W Xs gs → Xs.length = gs.length
  | [], [], _ => rfl
  | _ :: Xs, _ :: gs, h => by simp [Rows.length h.2]
  | [], _ :: _, h => h.elim
  | _ :: _, [], h => h.elim
theorem Rows.kp {W W' : World} {X : Nat} (hk : Kp X W W') (hf : Free X W) : ∀ {Xs : List Nat} {gs : List (List TD)}, Rows W Xs gs → X ∉ Xs → Rows W' Xs gs
  | [], [], _, _ => trivial
  | R :: Xs, t :: gs, h, hn => ⟨h.1.kp hk hf (fun e => hn (by simp [e])), Rows.kp hk hf h.2 (fun e => hn (by simp [e]))⟩
  | [], _ :: _, h, _ => h.elim
  | _ :: _, [], h, _ => h.elim
theorem Rows.keep {W W' : World} (hb : Below W.heap.size W W') : ∀ {Xs : List Nat} {gs : List (List TD)}, Rows W Xs gs → Rows W' Xs gs
  | [], [], _ => trivial
  | R :: Xs, t :: gs, h => ⟨h.1.keep hb, Rows.keep hb h.2⟩
  | [], _ :: _, h => h.elim
  | _ :: _, [], h => h.elim
theorem Rows.snoc {W : World} {X : Nat} {ts : List TD} (h : RowAt W X ts) : ∀ {Xs : List Nat} {gs : List (List TD)}, Rows W Xs gs → Rows W (Xs ++ [X]) (gs ++ [ts])
  | [], [], _ => ⟨h, trivial⟩
  | _ :: Xs, _ :: gs, g => ⟨g.1, Rows.snoc h g.2⟩
  | [], _ :: _, g => g.elim
  | _ :: _, [], g => g.elim
theorem Rows.get {W : World} : ∀ {Xs : List Nat} {gs : List (List TD)} {i : Nat} {ts : List TD}, Rows W Xs gs → gs[i]? = some ts → ∃ X, Xs[i]? = some X ∧ RowAt W X ts
  | [], [], i, t, _, h => by simp at h
  | X :: Xs, u :: gs, 0, t, g, h => by simp at h; subst h; exact ⟨X, rfl, g.1⟩
  | X :: Xs, u :: gs, i + 1, t, g, h => by simpa using Rows.get g.2 (by simpa using h)
  | [], _ :: _, _, _, g, _ => g.elim
  | _ :: _, [], _, _, g, _ => g.elim
theorem Rows.mem_lt {W : World} : ∀ {Xs : List Nat} {gs : List (List TD)}, Rows W Xs gs → ∀ X ∈ Xs, ∃ cs, W.heap[X]? = some (.cells cs 67 (0, 0))
  | [], [], _, X, h => by cases h
  | X :: Xs, u :: gs, g, Y, h => by
    rcases List.mem_cons.1 h with rfl | h
    · obtain ⟨Cs, h1, _⟩ := g.1; exact ⟨_, h1⟩
    · exact Rows.mem_lt g.2 Y h
  | [], _ :: _, g, _, _ => g.elim
  | _ :: _, [], g, _, _ => g.elim
def rowVal (X : Nat) (ts : List TD) : Value := .slice (some ⟨X, 0, none⟩) ts.length ts.length
def rowVals : List Nat → List (List TD) → List Value
  | X :: Xs, ts :: gs => rowVal X ts :: rowVals Xs gs
  | _, _ => []
theorem rowVals_length : ∀ {Xs : List Nat} {gs : List (List TD)}, Xs.length = gs.length → (rowVals Xs gs).length = gs.length
  | [], [], _ => rfl
  | _ :: Xs, _ :: gs, h => by simp [rowVals, rowVals_length (Xs := Xs) (gs := gs) (by simpa using h)]
  | [], _ :: _, h => by simp at h
  | _ :: _, [], h => by simp at h
theorem rowVals_snoc {X : Nat} {ts : List TD} : ∀ {Xs : List Nat} {gs : List (List TD)}, Xs.length = gs.length → rowVals (Xs ++ [X]) (gs ++ [ts]) = rowVals Xs gs ++ [rowVal X ts]
  | [], [], _ => rfl
  | _ :: Xs, _ :: gs, h => by simp [rowVals, rowVals_snoc (Xs := Xs) (gs := gs) (by simpa using h)]
  | [], _ :: _, h => by simp at h
  | _ :: _, [], h => by simp at h
theorem rowVals_get : ∀ {Xs : List Nat} {gs : List (List TD)} {i : Nat} {X : Nat} {ts : List TD}, Xs[i]? = some X → gs[i]? = some ts → (rowVals Xs gs)[i]? = some (rowVal X ts)
  | X :: Xs, t :: gs, 0, Y, ts, h, g => by simp at h g; subst h g; rfl
  | X :: Xs, t :: gs, i + 1, Y, ts, h, g => by simpa [rowVals] using rowVals_get (Xs := Xs) (gs := gs) (by simpa using h) (by simpa using g)
  | [], _, _, _, _, h, _ => by simp at h
  | _ :: _, [], _, _, _, _, g => by simp at g
/-- a prerelease stands in the list -/
def anyPre (ts : List TD) : Bool := ts.any fun t => !t.pre.isEmpty
/-- the constraints of a text, in memory -/
def ConsAt (W : World) (O : Nat) (gs : List (List TD)) (inc : Bool) : Prop := ∃ OR HP Xs, W.heap[O]? = some (.cells #[.slice (some ⟨OR, 0, none⟩) gs.length gs.length, .slice (some ⟨HP, 0, none⟩) gs.length gs.length, .bool inc] 51 (0, 0)) ∧
  W.heap[OR]? = some (.cells (rowVals Xs gs).toArray 66 (0, 0)) ∧ W.heap[HP]? = some (.cells ((gs.map anyPre).map Value.bool).toArray 4 (0, 0)) ∧ Rows W Xs gs
end Go.Proofs.YtnamjojceadgdaaGreatDoor.Sv
end
section
set_option linter.unusedVariables false
set_option linter.unusedSimpArgs false
/- a constraint's text is read -/
namespace Go.Proofs.YtnamjojceadgdaaGreatDoor.Sv
open Go Go.RowKit Rx
set_option maxRecDepth 100000
theorem info60 : (Tryz.prog.info? 66).map (fun i => (i.zero, i.size, i.bytes)) = some (some (.slice none 0 0), 1, 24) := by kernel_rfl
theorem info4 : (Tryz.prog.info? 4).map (fun i => (i.zero, i.size, i.bytes)) = some (some (.bool false), 1, 1) := by kernel_rfl
theorem info61 : (Tryz.prog.info? 67).map (fun i => (i.zero, i.size, i.bytes)) = some (some (.pointer none), 1, 8) := by kernel_rfl
def reps (n : Nat) (z : Value) : Array Value := (List.replicate n z).toArray
theorem mk47 (n : Nat) (hn : n ≤ 1000) (w : World) : (Instr.makeSlice 48 (.int .i64 n) (.int .i64 n)).run Tryz.prog w = .ok (.slice (some ⟨w.heap.size, 0, none⟩) n n) (w.alloc (.cells (reps n (.slice none 0 0)) 66)) := by
  rw [run_make_row' 48 66 (.slice none 0 0) 24 Tryz.underlying48 info60 rfl .i64 .i64 n (by omega) (by omega) w]
  congr 3
  apply Array.ext'
  rw [toList_madeCells_one]
  rfl
theorem mk48 (n : Nat) (hn : n ≤ 1000) (w : World) : (Instr.makeSlice 49 (.int .i64 n) (.int .i64 n)).run Tryz.prog w = .ok (.slice (some ⟨w.heap.size, 0, none⟩) n n) (w.alloc (.cells (reps n (.bool false)) 4)) := by
  rw [run_make_row' 49 4 (.bool false) 1 Tryz.underlying49 info4 rfl .i64 .i64 n (by omega) (by omega) w]
  congr 3
  apply Array.ext'
  rw [toList_madeCells_one]
  rfl
theorem mk60 (n : Nat) (hn : n ≤ 1000) (w : World) : (Instr.makeSlice 66 (.int .i64 n) (.int .i64 n)).run Tryz.prog w = .ok (.slice (some ⟨w.heap.size, 0, none⟩) n n) (w.alloc (.cells (reps n (.pointer none)) 67)) := by
  rw [run_make_row' 66 67 (.pointer none) 8 Tryz.underlying66 info61 rfl .i64 .i64 n (by omega) (by omega) w]
  congr 3
  apply Array.ext'
  rw [toList_madeCells_one]
  rfl
theorem own_cells {W : World} {base n cap ob : Nat} {e : TypeId} {xs : List Value} (h : W.ownsRow base e 1 (.slice (some ⟨ob, 0, none⟩) n cap) n xs) (hn : 0 < n) : ∃ cur, W.heap[ob]? = some (.cells cur e (0, 0)) ∧ ∀ (j : Nat) (v : Value), xs[j]? = some v → cur[j]? = some v := by
  rcases h.2 with ⟨hv, _⟩ | ⟨g, c, cur, q1, q2, q3, q4, q5, q6, q7⟩
  · cases hv
  · cases q1
    refine ⟨cur, q3, fun j v hj => ?_⟩
    rw [← q7, List.getElem?_take] at hj
    split at hj
    · simpa using hj
    · cases hj
/-- what is known of one list's text -/
structure GSpec (v : ByteArray) (tx : List Bs) (ts : List TD) : Prop where
  valid : ∀ (w : World) (R PB IB icap : Nat), PG w R PB IB icap validT → RH w R PB 4 1 50 1 24 → Lib.Utf8Tabs 11 12 w → Calls Tryz.prog 27 #[.pointer (some ⟨R, 0, none⟩), .string v] w fun e w' => e = .returned (.bool true) ∧ Below w.heap.size w w'
  find : ∀ (w : World) (R PB IB icap : Nat), PG w R PB IB icap findT → RH w R PB 0 1 24 1 11 → Lib.Utf8Tabs 11 12 w → Calls Tryz.prog 30 #[.pointer (some ⟨R, 0, none⟩), .string v, .int .i64 (-1)] w fun e w' => ∃ u, e = .returned u ∧ w'.ownsRow w.heap.size 9 1 u tx.length (tx.map fun t => Value.string (bytesOf t)) ∧ Below w.heap.size w w'
  len : tx.length = ts.length
  pos : 0 < tx.length
  le : tx.length ≤ 1000
  each : ∀ (i : Nat) (x : Bs) (t : TD), tx[i]? = some x → ts[i]? = some t → ∀ w, Lib.Utf8Tabs 11 12 w → Calls Tryz.prog 31 #[.string (bytesOf x)] w fun e w' => ∃ C, e = .returned (.tuple #[ptr C, .nilIface]) ∧ w.heap.size ≤ C ∧ TDAt w' C t ∧ Below w.heap.size w w'
/-- between two lists -/
structure NOut (w : World) (ob OR HP : Nat) (ocur : Array Value) (gs : List (List TD)) (k : Nat) (Xs : List Nat) (W : World) : Prop where
  o : W.heap[ob]? = some (.cells ocur 9 (0, 0))
  r : W.heap[OR]? = some (.cells (rowVals Xs (gs.take k) ++ List.replicate (gs.length - k) (Value.slice none 0 0)).toArray 66 (0, 0))
  h : W.heap[HP]? = some (.cells (((gs.take k).map anyPre).map Value.bool ++ List.replicate (gs.length - k) (Value.bool false)).toArray 4 (0, 0))
  rows : Rows W Xs (gs.take k)
  b : Below w.heap.size w W
  l1 : w.heap.size ≤ OR
  l2 : w.heap.size ≤ HP
/-- within a list -/
structure NIn (w : World) (ob OR HP : Nat) (ocur : Array Value) (gs : List (List TD)) (k : Nat) (Xs : List Nat) (ts : List TD) (cb : Nat) (ccur : Array Value) (RX i : Nat) (Cs : List Nat) (pr : Bool) (W : World) : Prop where
  o : W.heap[ob]? = some (.cells ocur 9 (0, 0))
  r : W.heap[OR]? = some (.cells (rowVals Xs (gs.take k) ++ List.replicate (gs.length - k) (Value.slice none 0 0)).toArray 66 (0, 0))
  h : W.heap[HP]? = some (.cells (((gs.take k).map anyPre).map Value.bool ++ Value.bool pr :: List.replicate (gs.length - (k + 1)) (Value.bool false)).toArray 4 (0, 0))
  rows : Rows W Xs (gs.take k)
  c : W.heap[cb]? = some (.cells ccur 9 (0, 0))
  x : W.heap[RX]? = some (.cells (ptrRow Cs ts.length) 67 (0, 0))
  t : TDs W Cs (ts.take i)
  nx : RX ∉ Xs
  b : Below w.heap.size w W
  l1 : w.heap.size ≤ OR
  l2 : w.heap.size ≤ HP
  l3 : w.heap.size ≤ RX
section
variable {w : World} {ob OR HP : Nat} {ocur : Array Value} {gs : List (List TD)} {k : Nat} {Xs : List Nat} {ts : List TD} {cb : Nat} {ccur : Array Value} {RX i : Nat} {Cs : List Nat} {pr : Bool} {W W' : World}
theorem blk {W W' : World} {j : Nat} {o : Obj} (hb : Below W.heap.size W W') (h : W.heap[j]? = some o) : W'.heap[j]? = some o := (hb.block j (Array.getElem?_eq_some_iff.1 h).1).trans h
theorem NOut.keep (h : NOut w ob OR HP ocur gs k Xs W) (hb : Below W.heap.size W W') : NOut w ob OR HP ocur gs k Xs W' :=
  ⟨blk hb h.o, blk hb h.r, blk hb h.h, h.rows.keep hb, h.b.trans (hb.mono h.b.size), h.l1, h.l2⟩
theorem NIn.keep (h : NIn w ob OR HP ocur gs k Xs ts cb ccur RX i Cs pr W) (hb : Below W.heap.size W W') : NIn w ob OR HP ocur gs k Xs ts cb ccur RX i Cs pr W' :=
  ⟨blk hb h.o, blk hb h.r, blk hb h.h, h.rows.keep hb, blk hb h.c, blk hb h.x, h.t.keep hb, h.nx, h.b.trans (hb.mono h.b.size), h.l1, h.l2, h.l3⟩
theorem free_of {W : World} {X : Nat} {cs : Array Value} {t : TypeId} (h : W.heap[X]? = some (.cells cs t (0, 0))) (h1 : t ≠ 73) (h2 : t ≠ 71) : Free X W := fun cs' t' f' h' => by
  rw [h] at h'; injection h' with h'; injection h' with e1 e2 e3; subst e2; exact ⟨h1, h2⟩
theorem oth {W : World} {X j i : Nat} {v : Value} {o : Obj} (h : W.heap[j]? = some o) (hn : j ≠ X) : (W.setCell ⟨X, i, none⟩ v).heap[j]? = some o := (heap_setCell_other _ _ _ _ hn).trans h
theorem NOut.start (h : NOut w ob OR HP ocur gs k Xs W) (hk : k < gs.length) (ts : List TD) {cb : Nat} {ccur : Array Value} {RX : Nat} (hc : W.heap[cb]? = some (.cells ccur 9 (0, 0))) (hx : W.heap[RX]? = some (.cells (reps ts.length (.pointer none)) 67 (0, 0))) (hnx : RX ∉ Xs) (h3 : w.heap.size ≤ RX) :
    NIn w ob OR HP ocur gs k Xs ts cb ccur RX 0 [] false W := by
  refine ⟨h.o, h.r, ?_, h.rows, hc, by rw [hx]; simp [ptrRow, reps], by simp [TDs], hnx, h.b, h.l1, h.l2, h3⟩
  rw [h.h]
  obtain ⟨m, hm⟩ : ∃ m, gs.length - k = m + 1 := ⟨gs.length - k - 1, by omega⟩
  rw [hm, show gs.length - (k + 1) = m by omega, List.replicate_succ]
theorem set_mid (A : List Value) (x y : Value) (B : List Value) (k : Nat) (h : A.length = k) : (A ++ x :: B).toArray.setIfInBounds k y = (A ++ y :: B).toArray := by
  subst h
  apply Array.toList_inj.1
  simp
theorem NIn.pre (h : NIn w ob OR HP ocur gs k Xs ts cb ccur RX i Cs pr W) (hk : k < gs.length) : NIn w ob OR HP ocur gs k Xs ts cb ccur RX i Cs true (W.setCell ⟨HP, k, none⟩ (.bool true)) := by
  have hf := free_of h.h (by decide) (by decide)
  have hkp := Kp.setCell HP k W (.bool true)
  have hl : (((gs.take k).map anyPre).map Value.bool).length = k := by simp; omega
  have hnr : HP ∉ Xs := fun hm => by
    obtain ⟨cs, hc⟩ := h.rows.mem_lt HP hm
    exact typ_ne h.h hc (by decide) rfl
  refine ⟨oth h.o (typ_ne h.o h.h (by decide)), oth h.r (typ_ne h.r h.h (by decide)), ?_, h.rows.kp hkp hf hnr, oth h.c (typ_ne h.c h.h (by decide)), oth h.x (typ_ne h.x h.h (by decide)), h.t.kp hkp hf, h.nx, h.b.setCell (p := ⟨HP, k, none⟩) h.l2 _, h.l1, h.l2, h.l3⟩
  rw [heap_setCell_same W HP k _ 4 _ h.h]
  rw [set_mid _ _ _ _ _ hl]
theorem NIn.term (h : NIn w ob OR HP ocur gs k Xs ts cb ccur RX i Cs pr W) {C : Nat} {t : TD} (ht : ts[i]? = some t) (hi : Cs.length = i) (hC : TDAt W C t) : NIn w ob OR HP ocur gs k Xs ts cb ccur RX (i + 1) (Cs ++ [C]) pr (W.setCell ⟨RX, i, none⟩ (ptr C)) := by
  have hf := free_of h.x (by decide) (by decide)
  have hkp := Kp.setCell RX i W (ptr C)
  have hlt : i < ts.length := (List.getElem?_eq_some_iff.1 ht).1
  refine ⟨oth h.o (typ_ne h.o h.x (by decide)), oth h.r (typ_ne h.r h.x (by decide)), oth h.h (typ_ne h.h h.x (by decide)), h.rows.kp hkp hf h.nx, oth h.c (typ_ne h.c h.x (by decide)), ?_, ?_, h.nx, h.b.setCell (p := ⟨RX, i, none⟩) h.l3 _, h.l1, h.l2, h.l3⟩
  · rw [heap_setCell_same W RX i _ 67 _ h.x, ← hi, ptrRow_step Cs ts.length C (by omega)]
  · rw [List.take_add_one, ht]
    exact TDs.snoc (hC.kp hkp hf) (h.t.kp hkp hf)
theorem NIn.done (h : NIn w ob OR HP ocur gs k Xs ts cb ccur RX i Cs pr W) (hi : i = ts.length) (hg : gs[k]? = some ts) (hpr : pr = anyPre ts) (hX : Xs.length = k) : NOut w ob OR HP ocur gs (k + 1) (Xs ++ [RX]) (W.setCell ⟨OR, k, none⟩ (rowVal RX ts)) := by
  have hf := free_of h.r (by decide) (by decide)
  have hkp := Kp.setCell OR k W (rowVal RX ts)
  have hlt : k < gs.length := (List.getElem?_eq_some_iff.1 hg).1
  have htk : (gs.take k).length = k := by simp; omega
  have hrl : (rowVals Xs (gs.take k)).length = k := by rw [rowVals_length (by omega)]; exact htk
  have hnr : OR ∉ Xs := fun hm => by
    obtain ⟨cs, hc⟩ := h.rows.mem_lt OR hm
    exact typ_ne h.r hc (by decide) rfl
  have hne : RX ≠ OR := typ_ne h.x h.r (by decide)
  have hrow : RowAt W RX ts := ⟨Cs, h.x, by have := h.t; rwa [hi, List.take_length] at this⟩
  have e1 : gs.take (k + 1) = gs.take k ++ [ts] := by rw [List.take_add_one, hg]; rfl
  refine ⟨oth h.o (typ_ne h.o h.r (by decide)), ?_, ?_, ?_, h.b.setCell (p := ⟨OR, k, none⟩) h.l1 _, h.l1, h.l2⟩
  · rw [heap_setCell_same W OR k _ 66 _ h.r, e1, rowVals_snoc (by omega)]
    have := fill_step (rowVals Xs (gs.take k)) gs.length (rowVal RX ts) (.slice none 0 0) (by omega)
    rw [hrl] at this
    rw [this]
    simp [hrl]
  · rw [oth h.h (typ_ne h.h h.r (by decide)), e1, hpr]
    simp
  · rw [e1]
    exact Rows.snoc (hrow.kp hkp hf hne) (h.rows.kp hkp hf hnr)
end
set_option maxHeartbeats 4000000 in
theorem t31 (s : ByteArray) (hs : s.size ≤ 512) (hrw : noWD s.data.toList = true) (Vs : List ByteArray) (hp : Parted ⟨#[124, 124]⟩ s Vs) (hn : Vs.length ≤ 32) (Ts : List (List Bs)) (gs : List (List TD)) (hl1 : Ts.length = Vs.length) (hl2 : gs.length = Vs.length)
    (hG : ∀ (k : Nat) (v : ByteArray) (tx : List Bs) (ts : List TD), Vs[k]? = some v → Ts[k]? = some tx → gs[k]? = some ts → GSpec v tx ts) (w : World) (hT : Lib.Utf8Tabs 11 12 w) :
    Calls Tryz.prog 16 #[.string s] w fun e w' => ∃ O, e = .returned (.tuple #[ptr O, .nilIface]) ∧ w.heap.size ≤ O ∧ ConsAt w' O gs false ∧ Below w.heap.size w w' := by
  have hnz : 0 < Vs.length := List.length_pos_iff.2 hp.ne
  have k0 : ¬ (512 : Int) < (s.size : Int) := by omega
  have k1 : ¬ (32 : Int) < (Vs.length : Int) := by omega
  have HR := Lib.hid (tRewrite s w (by omega) hT hrw)
  have HP := Lib.hid (fun w => t38 s ⟨#[124, 124]⟩ Vs hp (by omega) (by decide) (by decide) w)
  have HG := Lib.hid hG
  have HL := Lib.hid (And.intro hl1 hl2)
  have HT := Lib.hid hT
  have m47 := mk47 Vs.length (by omega)
  have m48 := mk48 Vs.length (by omega)
  clear hs hrw hp hG hT hl1 hl2
  go_enter Tryz.func16, Tryz.ntmps16
  go_upto_region 10 with (first
    | (go_at_call 24; refine HR.out.mono ?_; rintro e w1 ⟨rfl, hb1⟩; have HB1 := Lib.hid hb1; clear hb1)
    | (go_at_call 25; refine (HP.out _).mono ?_; rintro e w2 ⟨v2, rfl, ho, hb2⟩; obtain ⟨ob, oc, hv2, hob⟩ := World.ownsRow.form ho hnz; subst hv2; obtain ⟨ocur, hob2, hoc⟩ := own_cells ho hnz; have HO := Lib.hid (And.intro hob2 (And.intro hoc (HB1.out.trans (hb2.mono HB1.out.size)))); clear ho hb2 hob hob2 hoc))
  have hst : NOut w ob w2.heap.size (w2.heap.size + 1) ocur gs 0 [] ((w2.alloc (.cells (reps Vs.length (.slice none 0 0)) 66)).alloc (.cells (reps Vs.length (.bool false)) 4)) := by
    obtain ⟨h1, h2, h3⟩ := HO.out
    obtain ⟨l1, l2⟩ := HL.out
    have hobs := (Array.getElem?_eq_some_iff.1 h1).1
    refine ⟨?_, ?_, ?_, by simp [Rows], (h3.alloc h3.size _).alloc (by have := h3.size; simp; omega) _, h3.size, by have := h3.size; omega⟩
    · rw [Below.heap_alloc _ _ _ (by simp; omega), Below.heap_alloc _ _ _ hobs, h1]
    · rw [Below.heap_alloc _ _ _ (by simp), heap_alloc_new w2 _, l2]; simp [rowVals, reps]
    · have := heap_alloc_new (w2.alloc (.cells (reps Vs.length (.slice none 0 0)) 66)) (.cells (reps Vs.length (.bool false)) 4 (0, 0))
      rw [World.size_alloc] at this
      rw [this, l2]; simp [reps]
  generalize ((w2.alloc (.cells (reps Vs.length (.slice none 0 0)) 66)).alloc (.cells (reps Vs.length (.bool false)) 4)) = W3 at *
  generalize w2.heap.size + 1 = HPb at *
  generalize w2.heap.size = OR at *
  have HS := Lib.hid hst
  clear hst m47 m48 k1
  go_wp2
  go_loopw [37] (fun kv W => ∃ (k : Nat) (Xs : List Nat), kv = .int .i64 k ∧ Hid (k ≤ Vs.length ∧ NOut w ob OR HPb ocur gs k Xs W)) (fun kv _ => 100 - (intOf kv).toNat)
  case atStart => exact ⟨0, [], rfl, Lib.hid ⟨Nat.zero_le _, HS.out⟩⟩
  case round =>
    obtain ⟨k, Xs, rfl, HK⟩ := hrel
    by_cases c : k < Vs.length
    · have c1 : (k : Int) < (Vs.length : Int) := by omega
      obtain ⟨v, hv⟩ : ∃ v, Vs[k]? = some v := ⟨_, List.getElem?_eq_getElem c⟩
      obtain ⟨tx, htx⟩ : ∃ tx, Ts[k]? = some tx := ⟨_, List.getElem?_eq_getElem (by have := HL.out.1; omega)⟩
      obtain ⟨ts, hts⟩ : ∃ ts, gs[k]? = some ts := ⟨_, List.getElem?_eq_getElem (by have := HL.out.2; omega)⟩
      have hg := HG.out k v tx ts hv htx hts
      have q0 : wr.cell? ⟨ob, k, none⟩ = some (.string v) := by rw [cell_of_row _ _ _ _ _ _ HK.out.2.o, HO.out.2.1 k (.string v) (by simp [hv])]
      have HGS := Lib.hid hg
      have hpos := hg.pos
      have m60 := mk60 tx.length hg.le
      have q := q52
      have HC := Lib.hid (And.intro c hts)
      clear hv htx hts hg c
      go_upto_region 19 with (first
        | (go_at_call 26; refine (t39 _).mono ?_; rintro e w4 ⟨R, PB, IB, icap, rfl, hp, hr, hb⟩; have HA := Lib.hid (And.intro hp (And.intro hr hb)); clear hp hr hb)
        | (go_at_call 27; refine (HGS.out.valid _ _ _ _ _ HA.out.1 HA.out.2.1 (Utf8Tabs_below HT.out (HK.out.2.keep HA.out.2.2).b)).mono ?_; rintro e w5 ⟨rfl, hb5⟩; have HD := Lib.hid (HA.out.2.2.trans (hb5.mono HA.out.2.2.size)); clear hb5)
        | (go_at_call 29; refine (t42 _).mono ?_; rintro e w6 ⟨R, PB, IB, icap, rfl, hp, hr, hb⟩; have HA2 := Lib.hid (And.intro hp (And.intro hr (HD.out.trans (hb.mono HD.out.size)))); clear hp hr hb)
        | (go_at_call 30; refine (HGS.out.find _ _ _ _ _ HA2.out.1 HA2.out.2.1 (Utf8Tabs_below HT.out (HK.out.2.keep HA2.out.2.2).b)).mono ?_; rintro e w7 ⟨u, rfl, ho, hb7⟩; obtain ⟨cb, cc, hvu, hcb⟩ := World.ownsRow.form ho hpos; subst hvu; obtain ⟨ccur, h1, h2⟩ := own_cells ho hpos; have HF := Lib.hid (And.intro h1 (And.intro h2 (HA2.out.2.2.trans (hb7.mono HA2.out.2.2.size)))); clear ho hb7 hcb h1 h2))
      have hkp := HK.out.2.keep HF.out.2.2
      have hin : NIn w ob OR HPb ocur gs k Xs ts cb ccur w7.heap.size 0 [] false (w7.alloc (.cells (reps tx.length (.pointer none)) 67)) := by
        refine (hkp.keep ((Below.refl _ w7).alloc (Nat.le_refl _) _)).start (by have := HC.out.1; have := HL.out.2; omega) ts ?_ ?_ ?_ hkp.b.size
        · rw [Below.heap_alloc _ _ _ (Array.getElem?_eq_some_iff.1 HF.out.1).1, HF.out.1]
        · rw [heap_alloc_new w7 _, HGS.out.len]
        · intro hm
          obtain ⟨cs, hc⟩ := hkp.rows.mem_lt _ hm
          have := (Array.getElem?_eq_some_iff.1 hc).1
          omega
      generalize w7.alloc (.cells (reps tx.length (.pointer none)) 67) = W8 at *
      generalize w7.heap.size = RX at *
      have HN := Lib.hid hin
      have HX := Lib.hid (show Xs.length = k by have := hkp.rows.length; simp at this; have h1 := HC.out.1; have h2 := HL.out.2; omega)
      clear hin hkp m60 q q0 c1
      go_wp2
      go_loopw [61] (fun iv W => ∃ (i : Nat) (Cs : List Nat), iv = .int .i64 i ∧ Hid (i ≤ tx.length ∧ Cs.length = i ∧ NIn w ob OR HPb ocur gs k Xs ts cb ccur RX i Cs (anyPre (ts.take i)) W)) (fun iv _ => 2000 - (intOf iv).toNat)
      case atStart => exact ⟨0, [], rfl, Lib.hid ⟨Nat.zero_le _, rfl, HN.out⟩⟩
      case round =>
        obtain ⟨i, Cs, rfl, HI⟩ := hrel
        by_cases c : i < tx.length
        · have c1 : (i : Int) < (tx.length : Int) := by omega
          obtain ⟨x, hx⟩ : ∃ x, tx[i]? = some x := ⟨_, List.getElem?_eq_getElem c⟩
          obtain ⟨t, ht⟩ : ∃ t, ts[i]? = some t := ⟨_, List.getElem?_eq_getElem (by rw [← HGS.out.len]; exact c)⟩
          have q0 : wr.cell? ⟨cb, i, none⟩ = some (.string (bytesOf x)) := by rw [cell_of_row _ _ _ _ _ _ HI.out.2.2.c, HF.out.2.1 i (.string (bytesOf x)) (by simp [hx])]
          have HE := Lib.hid (HGS.out.each i x t hx ht)
          have HCI := Lib.hid (And.intro c ht)
          clear hx ht c
          go_upto_region 23 with (go_at_call 31; refine (HE.out _ (Utf8Tabs_below HT.out HI.out.2.2.b)).mono ?_; rintro e w9 ⟨C, rfl, hC1, hC2, hb9⟩; have HY := Lib.hid (And.intro (HI.out.2.2.keep hb9) hC2); clear hC1 hC2 hb9)
          obtain ⟨V, hcon, hver⟩ := HY.out.2
          have p0 : w9.cell? ⟨C, 0, none⟩ = some (.pointer (some ⟨V, 0, none⟩)) := cell_of_row _ _ 0 _ _ _ hcon
          have p3 : w9.cell? ⟨V, 3, none⟩ = some (.string (bytesOf t.pre)) := cell_of_row _ _ 3 _ _ _ hver
          clear hcon hver
          simp only [ptr] at HY ⊢
          have hx1 := HY.out.1
          have r0 : ∃ z, w9.cell? ⟨RX, i, none⟩ = some z := by
            have : i < (ptrRow Cs ts.length).size := by have := HGS.out.len; have := HCI.out.1; have := HI.out.2.1; simp [ptrRow]; omega
            exact ⟨_, by rw [cell_of_row _ _ _ _ _ _ hx1.x, Array.getElem?_eq_getElem this]⟩
          obtain ⟨z, r0⟩ := r0
          have rf := frozen_of_row _ _ i _ _ hx1.x
          have hle := HGS.out.le
          have kN : (k : Int) < (Vs.length : Int) := by have := HC.out.1; omega
          have hne : HPb ≠ RX := typ_ne hx1.h hx1.x (by decide)
          have hl : i < (ts.take i).length + 1 := by have := HGS.out.len; have := HCI.out.1; simp; omega
          have hany : anyPre (ts.take (i + 1)) = (anyPre (ts.take i) || !t.pre.isEmpty) := by
            rw [List.take_add_one, HCI.out.2]; simp [anyPre]
          have HZ := Lib.hid hany
          clear hx1 hl hany
          rcases hpre : t.pre with _ | ⟨y, pr⟩
          · rw [hpre] at p3 HZ
            have n1 := bytesOf_toList []
            go_wp2
            refine ⟨⟨i + 1, Cs ++ [C], by simp, Lib.hid ⟨by have := HCI.out.1; omega, by simp [HI.out.2.1], ?_⟩⟩, by simp only [intOf]; have := HCI.out.1; omega⟩
            rw [HZ.out]
            have := HY.out.1.term HCI.out.2 HI.out.2.1 HY.out.2
            simpa [ptr] using this
          · rw [hpre] at p3 HZ
            have n1 := bytesOf_toList (y :: pr)
            have h0 : ∃ z, w9.cell? ⟨HPb, k, none⟩ = some z := by
              refine ⟨.bool (anyPre (ts.take i)), ?_⟩
              rw [cell_of_row _ _ _ _ _ _ HY.out.1.h]
              have hl : (((gs.take k).map anyPre).map Value.bool).length = k := by simp; have := HC.out.1; have := HL.out.2; omega
              simp only [List.getElem?_toArray]
              rw [List.getElem?_append_right (by omega), hl, Nat.sub_self]
              rfl
            obtain ⟨z0, h0⟩ := h0
            have hf := frozen_of_row _ _ k _ _ HY.out.1.h
            go_wp2
            refine ⟨⟨i + 1, Cs ++ [C], by simp, Lib.hid ⟨by have := HCI.out.1; omega, by simp [HI.out.2.1], ?_⟩⟩, by simp only [intOf]; have := HCI.out.1; omega⟩
            rw [HZ.out]
            have hk : k < gs.length := by have := HC.out.1; have := HL.out.2; omega
            have hfr := free_of HY.out.1.h (by decide) (by decide)
            have := (HY.out.1.pre hk).term HCI.out.2 HI.out.2.1 (HY.out.2.kp (Kp.setCell HPb k w9 (.bool true)) hfr)
            simpa [ptr] using this
        · have hit : i = tx.length := by have := HI.out.1; omega
          subst hit
          clear c
          have kN : (k : Int) < (Vs.length : Int) := by have := HC.out.1; omega
          have r0 : ∃ z, wr.cell? ⟨OR, k, none⟩ = some z := by
            have h1 := HC.out.1
            have h2 := HL.out.2
            have hx := HX.out
            have h3 : (rowVals Xs (gs.take k)).length = k := by rw [rowVals_length (by simp; omega)]; simp; omega
            have : k < (rowVals Xs (gs.take k) ++ List.replicate (gs.length - k) (Value.slice none 0 0)).toArray.size := by simp [h3]; omega
            exact ⟨_, by rw [cell_of_row _ _ _ _ _ _ HI.out.2.2.r, Array.getElem?_eq_getElem this]⟩
          obtain ⟨z, r0⟩ := r0
          have rf := frozen_of_row _ _ k _ _ HI.out.2.2.r
          go_wp2
          refine ⟨⟨k + 1, Xs ++ [RX], by simp, Lib.hid ⟨by have := HC.out.1; omega, ?_⟩⟩, by simp only [intOf]; have := HC.out.1; omega⟩
          have hlen := HGS.out.len
          have hd := HI.out.2.2.done hlen HC.out.2 (by rw [hlen, List.take_length]) HX.out
          unfold rowVal at hd
          rw [← hlen] at hd
          exact hd
    · have hkn : k = Vs.length := by have := HK.out.1; omega
      subst hkn
      clear c
      go_wp2
      go_ret2
      have hN := HK.out.2
      have hlg := HL.out.2
      have hb : Below wr.heap.size wr (wr.alloc (.cells #[.slice (some ⟨OR, 0, none⟩) Vs.length Vs.length, .slice (some ⟨HPb, 0, none⟩) Vs.length Vs.length, .bool false] 51)) := (Below.refl _ wr).alloc (Nat.le_refl _) _
      have h2 := hN.keep hb
      have et : gs.take Vs.length = gs := by rw [← hlg, List.take_length]
      have en : gs.length - Vs.length = 0 := by omega
      refine ⟨wr.heap.size, rfl, hN.b.size, ⟨OR, HPb, Xs, by rw [hlg]; exact heap_alloc_new wr _, ?_, ?_, ?_⟩, h2.b⟩
      · have := h2.r; rw [et, en] at this; simpa using this
      · have := h2.h; rw [et, en] at this; simpa using this
      · have := h2.rows; rwa [et] at this
end Go.Proofs.YtnamjojceadgdaaGreatDoor.Sv
end
section
set_option linter.unusedVariables false
set_option linter.unusedSimpArgs false
/- versions are compared -/
namespace Go.Proofs.YtnamjojceadgdaaGreatDoor.Sv
open Go Go.RowKit Rx
set_option maxRecDepth 100000
abbrev ver (a b c : Nat) (p m o : ByteArray) : Value := .agg #[.int .u64 a, .int .u64 b, .int .u64 c, .string p, .string m, .string o]
theorem tMajor (a b c : Nat) (p m o : ByteArray) (w : World) : Calls Tryz.prog 83 #[ver a b c p m o] w fun e w' => e = .returned (.int .u64 a) ∧ Below w.heap.size w w' := by
  unfold ver
  go_enter Tryz.func83, Tryz.ntmps83
  go_wp2
  go_ret
  exact ⟨rfl, (Below.refl _ w).alloc (Nat.le_refl _) _⟩
theorem tMinor (a b c : Nat) (p m o : ByteArray) (w : World) : Calls Tryz.prog 84 #[ver a b c p m o] w fun e w' => e = .returned (.int .u64 b) ∧ Below w.heap.size w w' := by
  unfold ver
  go_enter Tryz.func84, Tryz.ntmps84
  go_wp2
  go_ret
  exact ⟨rfl, (Below.refl _ w).alloc (Nat.le_refl _) _⟩
theorem tPatch (a b c : Nat) (p m o : ByteArray) (w : World) : Calls Tryz.prog 85 #[ver a b c p m o] w fun e w' => e = .returned (.int .u64 c) ∧ Below w.heap.size w w' := by
  unfold ver
  go_enter Tryz.func85, Tryz.ntmps85
  go_wp2
  go_ret
  exact ⟨rfl, (Below.refl _ w).alloc (Nat.le_refl _) _⟩
theorem tPrere (a b c : Nat) (p m o : ByteArray) (w : World) : Calls Tryz.prog 81 #[ver a b c p m o] w fun e w' => e = .returned (.string p) ∧ Below w.heap.size w w' := by
  unfold ver
  go_enter Tryz.func81, Tryz.ntmps81
  go_wp2
  go_ret
  exact ⟨rfl, (Below.refl _ w).alloc (Nat.le_refl _) _⟩
def seg (x y : Nat) : Int := if x < y then -1 else if y < x then 1 else 0
theorem tSeg (x y : Nat) (w : World) : Calls Tryz.prog 105 #[.int .u64 x, .int .u64 y] w fun e w' => e = .returned (.int .i64 (seg x y)) ∧ w' = w := by
  unfold seg
  by_cases h1 : x < y
  · have k1 : (x : Int) < y := by omega
    rw [if_pos h1]
    go_enter Tryz.func105, Tryz.ntmps105
    go_wp2
    go_ret
    exact ⟨rfl, rfl⟩
  · have k1 : ¬ (x : Int) < y := by omega
    rw [if_neg h1]
    by_cases h2 : y < x
    · have k2 : (y : Int) < x := by omega
      rw [if_pos h2]
      go_enter Tryz.func105, Tryz.ntmps105
      go_wp2
      go_ret
      exact ⟨rfl, rfl⟩
    · have k2 : ¬ (y : Int) < x := by omega
      rw [if_neg h2]
      go_enter Tryz.func105, Tryz.ntmps105
      go_wp2
      go_ret
      exact ⟨rfl, rfl⟩
end Go.Proofs.YtnamjojceadgdaaGreatDoor.Sv
end
section
set_option linter.unusedVariables false
set_option linter.unusedSimpArgs false
/- Compare -/
namespace Go.Proofs.YtnamjojceadgdaaGreatDoor.Sv
open Go Go.RowKit Rx
set_option maxRecDepth 100000
def S2 (w : World) (V U a b c : Nat) (p m o : ByteArray) (a2 b2 c2 : Nat) (p2 m2 o2 : ByteArray) (w' : World) : Prop := w'.cell? ⟨V, 0, none⟩ = some (.int .u64 a) ∧ w'.cell? ⟨V, 1, none⟩ = some (.int .u64 b) ∧ w'.cell? ⟨V, 2, none⟩ = some (.int .u64 c) ∧ w'.cell? ⟨V, 3, none⟩ = some (.string p) ∧ w'.cell? ⟨V, 4, none⟩ = some (.string m) ∧ w'.cell? ⟨V, 5, none⟩ = some (.string o) ∧ w'.cell? ⟨U, 0, none⟩ = some (.int .u64 a2) ∧ w'.cell? ⟨U, 1, none⟩ = some (.int .u64 b2) ∧ w'.cell? ⟨U, 2, none⟩ = some (.int .u64 c2) ∧ w'.cell? ⟨U, 3, none⟩ = some (.string p2) ∧ w'.cell? ⟨U, 4, none⟩ = some (.string m2) ∧ w'.cell? ⟨U, 5, none⟩ = some (.string o2) ∧ Below w.heap.size w w'
theorem belk {w w1 w2 : World} (hb : Below w1.heap.size w1 w2) (h : Below w.heap.size w w1) : Below w.heap.size w w2 := h.trans (hb.mono h.size)
/-- a release against a version -/
def cmpRel (a b c a2 b2 c2 : Nat) (rel : Bool) : Int := if seg a a2 ≠ 0 then seg a a2 else if seg b b2 ≠ 0 then seg b b2 else if seg c c2 ≠ 0 then seg c c2 else if rel then 0 else 1
set_option maxHeartbeats 8000000 in
theorem tCmp (w : World) (V U a b c : Nat) (p m o : ByteArray) (a2 b2 c2 : Nat) (p2 m2 o2 : ByteArray) (h : S2 w V U a b c p m o a2 b2 c2 p2 m2 o2 w) (hp : p.toList.isEmpty = true) (rel : Bool) (hr : p2.toList.isEmpty = rel) :
    Calls Tryz.prog 87 #[.pointer (some ⟨V, 0, none⟩), .pointer (some ⟨U, 0, none⟩)] w fun e w' => e = .returned (.int .i64 (cmpRel a b c a2 b2 c2 rel)) ∧ Below w.heap.size w w' := by
  obtain ⟨q0, q1, q2, q3, q4, q5, q6, q7, q8, q9, q10, q11, q12⟩ := h
  generalize hres : cmpRel a b c a2 b2 c2 rel = r
  have HRES := Lib.hid hres
  clear hres
  go_enter Tryz.func87, Tryz.ntmps87
  go_wp2
  go_region_held3 (fun w' => w'.cell? ⟨V, 0, none⟩ = some (.int .u64 a) ∧ w'.cell? ⟨V, 1, none⟩ = some (.int .u64 b) ∧ w'.cell? ⟨V, 2, none⟩ = some (.int .u64 c) ∧ w'.cell? ⟨V, 3, none⟩ = some (.string p) ∧ w'.cell? ⟨V, 4, none⟩ = some (.string m) ∧ w'.cell? ⟨V, 5, none⟩ = some (.string o) ∧ w'.cell? ⟨U, 0, none⟩ = some (.int .u64 a2) ∧ w'.cell? ⟨U, 1, none⟩ = some (.int .u64 b2) ∧ w'.cell? ⟨U, 2, none⟩ = some (.int .u64 c2) ∧ w'.cell? ⟨U, 3, none⟩ = some (.string p2) ∧ w'.cell? ⟨U, 4, none⟩ = some (.string m2) ∧ w'.cell? ⟨U, 5, none⟩ = some (.string o2) ∧ Below w.heap.size w w') (first | exact ⟨by assumption, by assumption, by assumption, by assumption, by assumption, by assumption, by assumption, by assumption, by assumption, by assumption, by assumption, by assumption, by assumption⟩ | exact ⟨by first | assumption | (rw [World.cell?_drew]; assumption), by first | assumption | (rw [World.cell?_drew]; assumption), by first | assumption | (rw [World.cell?_drew]; assumption), by first | assumption | (rw [World.cell?_drew]; assumption), by first | assumption | (rw [World.cell?_drew]; assumption), by first | assumption | (rw [World.cell?_drew]; assumption), by first | assumption | (rw [World.cell?_drew]; assumption), by first | assumption | (rw [World.cell?_drew]; assumption), by first | assumption | (rw [World.cell?_drew]; assumption), by first | assumption | (rw [World.cell?_drew]; assumption), by first | assumption | (rw [World.cell?_drew]; assumption), by first | assumption | (rw [World.cell?_drew]; assumption), by first | assumption | (refine Below.drew ?_; assumption)⟩) (first | (go_at_call 83; refine (tMajor _ _ _ _ _ _ _).mono ?_; rintro e w1 ⟨rfl, hb⟩; have HS2 : S2 w V U a b c p m o a2 b2 c2 p2 m2 o2 w1 := ⟨keepc hb (by first | assumption | (rw [World.cell?_drew]; assumption)), keepc hb (by first | assumption | (rw [World.cell?_drew]; assumption)), keepc hb (by first | assumption | (rw [World.cell?_drew]; assumption)), keepc hb (by first | assumption | (rw [World.cell?_drew]; assumption)), keepc hb (by first | assumption | (rw [World.cell?_drew]; assumption)), keepc hb (by first | assumption | (rw [World.cell?_drew]; assumption)), keepc hb (by first | assumption | (rw [World.cell?_drew]; assumption)), keepc hb (by first | assumption | (rw [World.cell?_drew]; assumption)), keepc hb (by first | assumption | (rw [World.cell?_drew]; assumption)), keepc hb (by first | assumption | (rw [World.cell?_drew]; assumption)), keepc hb (by first | assumption | (rw [World.cell?_drew]; assumption)), keepc hb (by first | assumption | (rw [World.cell?_drew]; assumption)), belk hb (by first | assumption | (refine Below.drew ?_; assumption))⟩; clear hb; obtain ⟨q0, q1, q2, q3, q4, q5, q6, q7, q8, q9, q10, q11, q12⟩ := HS2) | (go_at_call 105; refine (tSeg _ _ _).mono ?_; rintro e w1 ⟨rfl, rfl⟩))
  by_cases d1 : seg a a2 ≠ 0
  · have e1 : (seg a a2 == 0) = false := by simpa using d1
    go_wp2
    go_ret
    exact ⟨by rw [← HRES.out, cmpRel, if_pos d1]; rfl, by first | assumption | (refine Below.drew ?_; assumption)⟩
  · have e1 : seg a a2 = 0 := by simpa using d1
    have HD1 := Lib.hid d1
    clear d1
    rw [e1]
    clear e1
    go_wp2
    go_region_held3 (fun w' => w'.cell? ⟨V, 0, none⟩ = some (.int .u64 a) ∧ w'.cell? ⟨V, 1, none⟩ = some (.int .u64 b) ∧ w'.cell? ⟨V, 2, none⟩ = some (.int .u64 c) ∧ w'.cell? ⟨V, 3, none⟩ = some (.string p) ∧ w'.cell? ⟨V, 4, none⟩ = some (.string m) ∧ w'.cell? ⟨V, 5, none⟩ = some (.string o) ∧ w'.cell? ⟨U, 0, none⟩ = some (.int .u64 a2) ∧ w'.cell? ⟨U, 1, none⟩ = some (.int .u64 b2) ∧ w'.cell? ⟨U, 2, none⟩ = some (.int .u64 c2) ∧ w'.cell? ⟨U, 3, none⟩ = some (.string p2) ∧ w'.cell? ⟨U, 4, none⟩ = some (.string m2) ∧ w'.cell? ⟨U, 5, none⟩ = some (.string o2) ∧ Below w.heap.size w w') (first | exact ⟨by assumption, by assumption, by assumption, by assumption, by assumption, by assumption, by assumption, by assumption, by assumption, by assumption, by assumption, by assumption, by assumption⟩ | exact ⟨by first | assumption | (rw [World.cell?_drew]; assumption), by first | assumption | (rw [World.cell?_drew]; assumption), by first | assumption | (rw [World.cell?_drew]; assumption), by first | assumption | (rw [World.cell?_drew]; assumption), by first | assumption | (rw [World.cell?_drew]; assumption), by first | assumption | (rw [World.cell?_drew]; assumption), by first | assumption | (rw [World.cell?_drew]; assumption), by first | assumption | (rw [World.cell?_drew]; assumption), by first | assumption | (rw [World.cell?_drew]; assumption), by first | assumption | (rw [World.cell?_drew]; assumption), by first | assumption | (rw [World.cell?_drew]; assumption), by first | assumption | (rw [World.cell?_drew]; assumption), by first | assumption | (refine Below.drew ?_; assumption)⟩) (first | (go_at_call 84; refine (tMinor _ _ _ _ _ _ _).mono ?_; rintro e w1 ⟨rfl, hb⟩; have HS2 : S2 w V U a b c p m o a2 b2 c2 p2 m2 o2 w1 := ⟨keepc hb (by first | assumption | (rw [World.cell?_drew]; assumption)), keepc hb (by first | assumption | (rw [World.cell?_drew]; assumption)), keepc hb (by first | assumption | (rw [World.cell?_drew]; assumption)), keepc hb (by first | assumption | (rw [World.cell?_drew]; assumption)), keepc hb (by first | assumption | (rw [World.cell?_drew]; assumption)), keepc hb (by first | assumption | (rw [World.cell?_drew]; assumption)), keepc hb (by first | assumption | (rw [World.cell?_drew]; assumption)), keepc hb (by first | assumption | (rw [World.cell?_drew]; assumption)), keepc hb (by first | assumption | (rw [World.cell?_drew]; assumption)), keepc hb (by first | assumption | (rw [World.cell?_drew]; assumption)), keepc hb (by first | assumption | (rw [World.cell?_drew]; assumption)), keepc hb (by first | assumption | (rw [World.cell?_drew]; assumption)), belk hb (by first | assumption | (refine Below.drew ?_; assumption))⟩; clear hb; obtain ⟨q0, q1, q2, q3, q4, q5, q6, q7, q8, q9, q10, q11, q12⟩ := HS2) | (go_at_call 105; refine (tSeg _ _ _).mono ?_; rintro e w1 ⟨rfl, rfl⟩))
    by_cases d2 : seg b b2 ≠ 0
    · have e2 : (seg b b2 == 0) = false := by simpa using d2
      go_wp2
      go_ret
      exact ⟨by rw [← HRES.out, cmpRel, if_neg HD1.out, if_pos d2]; rfl, by first | assumption | (refine Below.drew ?_; assumption)⟩
    · have e2 : seg b b2 = 0 := by simpa using d2
      have HD2 := Lib.hid d2
      clear d2
      rw [e2]
      clear e2
      go_wp2
      go_region_held3 (fun w' => w'.cell? ⟨V, 0, none⟩ = some (.int .u64 a) ∧ w'.cell? ⟨V, 1, none⟩ = some (.int .u64 b) ∧ w'.cell? ⟨V, 2, none⟩ = some (.int .u64 c) ∧ w'.cell? ⟨V, 3, none⟩ = some (.string p) ∧ w'.cell? ⟨V, 4, none⟩ = some (.string m) ∧ w'.cell? ⟨V, 5, none⟩ = some (.string o) ∧ w'.cell? ⟨U, 0, none⟩ = some (.int .u64 a2) ∧ w'.cell? ⟨U, 1, none⟩ = some (.int .u64 b2) ∧ w'.cell? ⟨U, 2, none⟩ = some (.int .u64 c2) ∧ w'.cell? ⟨U, 3, none⟩ = some (.string p2) ∧ w'.cell? ⟨U, 4, none⟩ = some (.string m2) ∧ w'.cell? ⟨U, 5, none⟩ = some (.string o2) ∧ Below w.heap.size w w') (first | exact ⟨by assumption, by assumption, by assumption, by assumption, by assumption, by assumption, by assumption, by assumption, by assumption, by assumption, by assumption, by assumption, by assumption⟩ | exact ⟨by first | assumption | (rw [World.cell?_drew]; assumption), by first | assumption | (rw [World.cell?_drew]; assumption), by first | assumption | (rw [World.cell?_drew]; assumption), by first | assumption | (rw [World.cell?_drew]; assumption), by first | assumption | (rw [World.cell?_drew]; assumption), by first | assumption | (rw [World.cell?_drew]; assumption), by first | assumption | (rw [World.cell?_drew]; assumption), by first | assumption | (rw [World.cell?_drew]; assumption), by first | assumption | (rw [World.cell?_drew]; assumption), by first | assumption | (rw [World.cell?_drew]; assumption), by first | assumption | (rw [World.cell?_drew]; assumption), by first | assumption | (rw [World.cell?_drew]; assumption), by first | assumption | (refine Below.drew ?_; assumption)⟩) (first | (go_at_call 85; refine (tPatch _ _ _ _ _ _ _).mono ?_; rintro e w1 ⟨rfl, hb⟩; have HS2 : S2 w V U a b c p m o a2 b2 c2 p2 m2 o2 w1 := ⟨keepc hb (by first | assumption | (rw [World.cell?_drew]; assumption)), keepc hb (by first | assumption | (rw [World.cell?_drew]; assumption)), keepc hb (by first | assumption | (rw [World.cell?_drew]; assumption)), keepc hb (by first | assumption | (rw [World.cell?_drew]; assumption)), keepc hb (by first | assumption | (rw [World.cell?_drew]; assumption)), keepc hb (by first | assumption | (rw [World.cell?_drew]; assumption)), keepc hb (by first | assumption | (rw [World.cell?_drew]; assumption)), keepc hb (by first | assumption | (rw [World.cell?_drew]; assumption)), keepc hb (by first | assumption | (rw [World.cell?_drew]; assumption)), keepc hb (by first | assumption | (rw [World.cell?_drew]; assumption)), keepc hb (by first | assumption | (rw [World.cell?_drew]; assumption)), keepc hb (by first | assumption | (rw [World.cell?_drew]; assumption)), belk hb (by first | assumption | (refine Below.drew ?_; assumption))⟩; clear hb; obtain ⟨q0, q1, q2, q3, q4, q5, q6, q7, q8, q9, q10, q11, q12⟩ := HS2) | (go_at_call 105; refine (tSeg _ _ _).mono ?_; rintro e w1 ⟨rfl, rfl⟩))
      by_cases d3 : seg c c2 ≠ 0
      · have e3 : (seg c c2 == 0) = false := by simpa using d3
        go_wp2
        go_ret
        exact ⟨by rw [← HRES.out, cmpRel, if_neg HD1.out, if_neg HD2.out, if_pos d3]; rfl, by first | assumption | (refine Below.drew ?_; assumption)⟩
      · have e3 : seg c c2 = 0 := by simpa using d3
        have HD3 := Lib.hid d3
        clear d3
        rw [e3]
        clear e3
        go_wp2_with (go_at_call 81; refine (tPrere _ _ _ _ _ _ _).mono ?_; rintro e w1 ⟨rfl, hb⟩)
        all_goals go_ret
        all_goals refine ⟨?_, belk hb (by first | assumption | (refine Below.drew ?_; assumption))⟩
        all_goals rw [← HRES.out, cmpRel, if_neg HD1.out, if_neg HD2.out, if_neg HD3.out]
        all_goals simp_all
end Go.Proofs.YtnamjojceadgdaaGreatDoor.Sv
end
section
set_option linter.unusedVariables false
set_option linter.unusedSimpArgs false
/- the operators of a constraint, of a release: no number missing -/
namespace Go.Proofs.YtnamjojceadgdaaGreatDoor.Sv
open Go Go.RowKit Rx
set_option maxRecDepth 100000
theorem kp18 {w w1 w2 : World} {p0 p1 p2 p3 p4 p5 p6 p7 p8 p9 p10 p11 p12 p13 p14 p15 p16 : Addr} {v0 v1 v2 v3 v4 v5 v6 v7 v8 v9 v10 v11 v12 v13 v14 v15 v16 : Value} (hb : Below w1.heap.size w1 w2) (q0 : w1.cell? p0 = some v0) (q1 : w1.cell? p1 = some v1) (q2 : w1.cell? p2 = some v2) (q3 : w1.cell? p3 = some v3) (q4 : w1.cell? p4 = some v4) (q5 : w1.cell? p5 = some v5) (q6 : w1.cell? p6 = some v6) (q7 : w1.cell? p7 = some v7) (q8 : w1.cell? p8 = some v8) (q9 : w1.cell? p9 = some v9) (q10 : w1.cell? p10 = some v10) (q11 : w1.cell? p11 = some v11) (q12 : w1.cell? p12 = some v12) (q13 : w1.cell? p13 = some v13) (q14 : w1.cell? p14 = some v14) (q15 : w1.cell? p15 = some v15) (q16 : w1.cell? p16 = some v16) (q17 : Below w.heap.size w w1) : w2.cell? p0 = some v0 ∧ w2.cell? p1 = some v1 ∧ w2.cell? p2 = some v2 ∧ w2.cell? p3 = some v3 ∧ w2.cell? p4 = some v4 ∧ w2.cell? p5 = some v5 ∧ w2.cell? p6 = some v6 ∧ w2.cell? p7 = some v7 ∧ w2.cell? p8 = some v8 ∧ w2.cell? p9 = some v9 ∧ w2.cell? p10 = some v10 ∧ w2.cell? p11 = some v11 ∧ w2.cell? p12 = some v12 ∧ w2.cell? p13 = some v13 ∧ w2.cell? p14 = some v14 ∧ w2.cell? p15 = some v15 ∧ w2.cell? p16 = some v16 ∧ Below w.heap.size w w2 :=
  ⟨keepc hb q0, keepc hb q1, keepc hb q2, keepc hb q3, keepc hb q4, keepc hb q5, keepc hb q6, keepc hb q7, keepc hb q8, keepc hb q9, keepc hb q10, keepc hb q11, keepc hb q12, keepc hb q13, keepc hb q14, keepc hb q15, keepc hb q16, belk hb q17⟩
def S3 (w : World) (V U C a b c : Nat) (p m o : ByteArray) (a2 b2 c2 : Nat) (p2 m2 o2 op : ByteArray) (md d pd : Bool) (w' : World) : Prop := w'.cell? ⟨V, 0, none⟩ = some (.int .u64 a) ∧ w'.cell? ⟨V, 1, none⟩ = some (.int .u64 b) ∧ w'.cell? ⟨V, 2, none⟩ = some (.int .u64 c) ∧ w'.cell? ⟨V, 3, none⟩ = some (.string p) ∧ w'.cell? ⟨V, 4, none⟩ = some (.string m) ∧ w'.cell? ⟨V, 5, none⟩ = some (.string o) ∧ w'.cell? ⟨U, 0, none⟩ = some (.int .u64 a2) ∧ w'.cell? ⟨U, 1, none⟩ = some (.int .u64 b2) ∧ w'.cell? ⟨U, 2, none⟩ = some (.int .u64 c2) ∧ w'.cell? ⟨U, 3, none⟩ = some (.string p2) ∧ w'.cell? ⟨U, 4, none⟩ = some (.string m2) ∧ w'.cell? ⟨U, 5, none⟩ = some (.string o2) ∧ w'.cell? ⟨C, 0, none⟩ = some (.pointer (some ⟨U, 0, none⟩)) ∧ w'.cell? ⟨C, 2, none⟩ = some (.string op) ∧ w'.cell? ⟨C, 3, none⟩ = some (.bool md) ∧ w'.cell? ⟨C, 4, none⟩ = some (.bool d) ∧ w'.cell? ⟨C, 5, none⟩ = some (.bool pd) ∧ Below w.heap.size w w'
theorem tErr (s : ByteArray) (w : World) : Calls Tryz.prog 28 #[.string s] w fun e w' => ∃ t a, e = .returned (.iface t (.pointer (some a))) ∧ Below w.heap.size w w' := by
  go_enter Tryz.func28, Tryz.ntmps28
  go_wp2
  go_ret
  exact ⟨_, _, rfl, (Below.refl _ w).alloc (Nat.le_refl _) _⟩
theorem tLess (w : World) (V U a b c : Nat) (p m o : ByteArray) (a2 b2 c2 : Nat) (p2 m2 o2 : ByteArray) (h : S2 w V U a b c p m o a2 b2 c2 p2 m2 o2 w) (hp : p.toList.isEmpty = true) (rel : Bool) (hr : p2.toList.isEmpty = rel) :
    Calls Tryz.prog 88 #[.pointer (some ⟨V, 0, none⟩), .pointer (some ⟨U, 0, none⟩)] w fun e w' => e = .returned (.bool (decide (cmpRel a b c a2 b2 c2 rel < 0))) ∧ Below w.heap.size w w' := by
  have H := Lib.hid (tCmp w V U a b c p m o a2 b2 c2 p2 m2 o2 h hp rel hr)
  clear h hp hr
  generalize cmpRel a b c a2 b2 c2 rel = r at *
  go_enter Tryz.func88, Tryz.ntmps88
  go_wp2_with (go_at_call 87; refine H.out.mono ?_; rintro e w1 ⟨rfl, hb⟩; have HB := Lib.hid hb; clear hb)
  go_ret
  exact ⟨rfl, HB.out⟩
theorem ret_bool {x r : Bool} {ev : Value} {w w' : World} (hx : x = r) (hb : Below w.heap.size w w') : ∃ ev', Ending.returned (.tuple #[.bool x, ev]) = Ending.returned (.tuple #[.bool r, ev']) ∧ Below w.heap.size w w' := ⟨ev, by rw [hx], hb⟩
set_option maxHeartbeats 4000000 in
theorem tGt (w : World) (V U C a b c : Nat) (p m o : ByteArray) (a2 b2 c2 : Nat) (p2 m2 o2 op : ByteArray) (md d pd inc : Bool) (h : S3 w V U C a b c p m o a2 b2 c2 p2 m2 o2 op md d pd w) (hp : p.toList.isEmpty = true) (rel : Bool) (hr : p2.toList.isEmpty = rel) (hd : d = false) :
    Calls Tryz.prog 57 #[.pointer (some ⟨V, 0, none⟩), .pointer (some ⟨C, 0, none⟩), .bool inc] w fun e w' => ∃ ev, e = .returned (.tuple #[.bool (cmpRel a b c a2 b2 c2 rel == 1), ev]) ∧ Below w.heap.size w w' := by
  subst hd
  obtain ⟨q0, q1, q2, q3, q4, q5, q6, q7, q8, q9, q10, q11, q12, q13, q14, q15, q16, q17⟩ := h
  go_enter Tryz.func57, Tryz.ntmps57
  go_wp2_with (first
    | (go_at_call 81; refine (tPrere _ _ _ _ _ _ _).mono ?_; rintro e w1 ⟨rfl, hb⟩; obtain ⟨q0, q1, q2, q3, q4, q5, q6, q7, q8, q9, q10, q11, q12, q13, q14, q15, q16, q17⟩ := kp18 hb q0 q1 q2 q3 q4 q5 q6 q7 q8 q9 q10 q11 q12 q13 q14 q15 q16 q17; clear hb)
    | (go_at_call 87; refine (tCmp _ V U a b c p m o a2 b2 c2 p2 m2 o2 ⟨q0, q1, q2, q3, q4, q5, q6, q7, q8, q9, q10, q11, Below.refl _ _⟩ hp rel hr).mono ?_; rintro e w2 ⟨rfl, hb⟩; obtain ⟨q0, q1, q2, q3, q4, q5, q6, q7, q8, q9, q10, q11, q12, q13, q14, q15, q16, q17⟩ := kp18 hb q0 q1 q2 q3 q4 q5 q6 q7 q8 q9 q10 q11 q12 q13 q14 q15 q16 q17; clear hb)
    | (go_at_call 28; refine (tErr _ _).mono ?_; rintro e w3 ⟨t3, a3, rfl, hb⟩; obtain ⟨q0, q1, q2, q3, q4, q5, q6, q7, q8, q9, q10, q11, q12, q13, q14, q15, q16, q17⟩ := kp18 hb q0 q1 q2 q3 q4 q5 q6 q7 q8 q9 q10 q11 q12 q13 q14 q15 q16 q17; clear hb))
  all_goals go_ret2
  all_goals first
    | (rw [show (cmpRel a b c a2 b2 c2 rel == 1) = true by assumption]; exact ⟨_, rfl, by assumption⟩)
    | (rw [show (cmpRel a b c a2 b2 c2 rel == 1) = false by assumption]; exact ⟨_, rfl, by assumption⟩)
end Go.Proofs.YtnamjojceadgdaaGreatDoor.Sv
end
section
set_option linter.unusedVariables false
set_option linter.unusedSimpArgs false
/- a constraint of one term with three numbers -/
namespace Go.Proofs.YtnamjojceadgdaaGreatDoor.Sv
open Go Go.RowKit Rx
set_option maxRecDepth 100000
theorem dB_pB (x : UInt8) (h : dB x = true) : pB x = true := by
  have := byte_all (p := fun x => !dB x || pB x) (by decide) x
  simpa [h] using this
theorem dB_not (x : UInt8) (h : dB x = true) : x ≠ 120 ∧ x ≠ 42 ∧ x ≠ 88 ∧ x ≠ 124 ∧ ws x = false := by
  have := byte_all (p := fun x => !dB x || (x != 120 && x != 42 && x != 88 && x != 124 && !ws x)) (by decide) x
  simpa [h, and_assoc] using this
theorem dec_part (a : Nat) : okPart dB (Lib.decDigits a) := ⟨decDigits_ne a, decDigits_dB a a (Nat.le_refl _)⟩
theorem bytesOf_list (l : Bs) : (bytesOf l).data.toList = l := by simp [bytesOf]
theorem op_len {op : Bs} (h : op ∈ opTexts) : op.length ≤ 2 := by
  have : opTexts.all (fun o => decide (o.length ≤ 2)) = true := by decide
  simpa using List.all_eq_true.1 this op h
end Go.Proofs.YtnamjojceadgdaaGreatDoor.Sv
end
section
set_option linter.unusedVariables false
set_option linter.unusedSimpArgs false
/- a version's text, the next versions -/
namespace Go.Proofs.YtnamjojceadgdaaGreatDoor.Sv
open Go Go.RowKit Rx
set_option maxRecDepth 100000
theorem bytes_app (x y : Bs) : bytesOf x ++ bytesOf y = bytesOf (x ++ y) := by
  apply ByteArray.ext
  simp [bytesOf]
end Go.Proofs.YtnamjojceadgdaaGreatDoor.Sv
end
section
set_option linter.unusedVariables false
set_option linter.unusedSimpArgs false
/- the caret, of a release -/
namespace Go.Proofs.YtnamjojceadgdaaGreatDoor.Sv
open Go Go.RowKit Rx
set_option maxRecDepth 100000
def caretR (a b c a2 b2 c2 : Nat) (rel md pd : Bool) : Bool := if cmpRel a b c a2 b2 c2 rel < 0 then false else if 0 < a2 ∨ md = true then decide (a = a2) else if 0 < a then false else if 0 < b2 ∨ pd = true then decide (b = b2) else if 0 < b then false else decide (c2 = c)
set_option maxHeartbeats 8000000 in
theorem tCaret (w : World) (V U C a b c : Nat) (p m o : ByteArray) (a2 b2 c2 : Nat) (p2 m2 o2 op : ByteArray) (md d pd inc : Bool) (h : S3 w V U C a b c p m o a2 b2 c2 p2 m2 o2 op md d pd w) (hp : p.toList.isEmpty = true) (rel : Bool) (hr : p2.toList.isEmpty = rel) :
    Calls Tryz.prog 62 #[.pointer (some ⟨V, 0, none⟩), .pointer (some ⟨C, 0, none⟩), .bool inc] w fun e w' => ∃ ev, e = .returned (.tuple #[.bool (caretR a b c a2 b2 c2 rel md pd), ev]) ∧ Below w.heap.size w w' := by
  obtain ⟨q0, q1, q2, q3, q4, q5, q6, q7, q8, q9, q10, q11, q12, q13, q14, q15, q16, q17⟩ := h
  generalize hres : caretR a b c a2 b2 c2 rel md pd = res
  have HRES := Lib.hid hres
  clear hres
  generalize hlt : decide (cmpRel a b c a2 b2 c2 rel < 0) = lt
  have HLT := Lib.hid hlt
  go_enter Tryz.func62, Tryz.ntmps62
  cases lt
  · have HN := Lib.hid (of_decide_eq_false HLT.out)
    by_cases x1 : 0 < a2
    · have y1 : (0 : Int) < (a2 : Int) := by omega
      go_upto_region 7 with (first | (go_at_call 81; refine (tPrere _ _ _ _ _ _ _).mono ?_; rintro e w1 ⟨rfl, hb⟩; obtain ⟨q0, q1, q2, q3, q4, q5, q6, q7, q8, q9, q10, q11, q12, q13, q14, q15, q16, q17⟩ := kp18 hb q0 q1 q2 q3 q4 q5 q6 q7 q8 q9 q10 q11 q12 q13 q14 q15 q16 q17; clear hb) | (go_at_call 83; refine (tMajor _ _ _ _ _ _ _).mono ?_; rintro e w1 ⟨rfl, hb⟩; obtain ⟨q0, q1, q2, q3, q4, q5, q6, q7, q8, q9, q10, q11, q12, q13, q14, q15, q16, q17⟩ := kp18 hb q0 q1 q2 q3 q4 q5 q6 q7 q8 q9 q10 q11 q12 q13 q14 q15 q16 q17; clear hb) | (go_at_call 84; refine (tMinor _ _ _ _ _ _ _).mono ?_; rintro e w1 ⟨rfl, hb⟩; obtain ⟨q0, q1, q2, q3, q4, q5, q6, q7, q8, q9, q10, q11, q12, q13, q14, q15, q16, q17⟩ := kp18 hb q0 q1 q2 q3 q4 q5 q6 q7 q8 q9 q10 q11 q12 q13 q14 q15 q16 q17; clear hb) | (go_at_call 85; refine (tPatch _ _ _ _ _ _ _).mono ?_; rintro e w1 ⟨rfl, hb⟩; obtain ⟨q0, q1, q2, q3, q4, q5, q6, q7, q8, q9, q10, q11, q12, q13, q14, q15, q16, q17⟩ := kp18 hb q0 q1 q2 q3 q4 q5 q6 q7 q8 q9 q10 q11 q12 q13 q14 q15 q16 q17; clear hb) | (go_at_call 88; refine (tLess _ V U a b c p m o a2 b2 c2 p2 m2 o2 ⟨q0, q1, q2, q3, q4, q5, q6, q7, q8, q9, q10, q11, Below.refl _ _⟩ hp rel hr).mono ?_; rintro e w2 ⟨rfl, hb⟩; rw [hlt]; obtain ⟨q0, q1, q2, q3, q4, q5, q6, q7, q8, q9, q10, q11, q12, q13, q14, q15, q16, q17⟩ := kp18 hb q0 q1 q2 q3 q4 q5 q6 q7 q8 q9 q10 q11 q12 q13 q14 q15 q16 q17; clear hb) | (go_at_call 28; refine (tErr _ _).mono ?_; rintro e w3 ⟨t3, a3, rfl, hb⟩; obtain ⟨q0, q1, q2, q3, q4, q5, q6, q7, q8, q9, q10, q11, q12, q13, q14, q15, q16, q17⟩ := kp18 hb q0 q1 q2 q3 q4 q5 q6 q7 q8 q9 q10 q11 q12 q13 q14 q15 q16 q17; clear hb))
      go_region_held3 (fun w' => w'.cell? ⟨V, 0, none⟩ = some (.int .u64 a) ∧ w'.cell? ⟨V, 1, none⟩ = some (.int .u64 b) ∧ w'.cell? ⟨V, 2, none⟩ = some (.int .u64 c) ∧ w'.cell? ⟨V, 3, none⟩ = some (.string p) ∧ w'.cell? ⟨V, 4, none⟩ = some (.string m) ∧ w'.cell? ⟨V, 5, none⟩ = some (.string o) ∧ w'.cell? ⟨U, 0, none⟩ = some (.int .u64 a2) ∧ w'.cell? ⟨U, 1, none⟩ = some (.int .u64 b2) ∧ w'.cell? ⟨U, 2, none⟩ = some (.int .u64 c2) ∧ w'.cell? ⟨U, 3, none⟩ = some (.string p2) ∧ w'.cell? ⟨U, 4, none⟩ = some (.string m2) ∧ w'.cell? ⟨U, 5, none⟩ = some (.string o2) ∧ w'.cell? ⟨C, 0, none⟩ = some (.pointer (some ⟨U, 0, none⟩)) ∧ w'.cell? ⟨C, 2, none⟩ = some (.string op) ∧ w'.cell? ⟨C, 3, none⟩ = some (.bool md) ∧ w'.cell? ⟨C, 4, none⟩ = some (.bool d) ∧ w'.cell? ⟨C, 5, none⟩ = some (.bool pd) ∧ Below w.heap.size w w') (refine ⟨?_, ?_, ?_, ?_, ?_, ?_, ?_, ?_, ?_, ?_, ?_, ?_, ?_, ?_, ?_, ?_, ?_, ?_⟩ <;> first | assumption | (rw [World.cell?_drew]; assumption) | (refine Below.drew ?_; assumption)) (first | (go_at_call 83; refine (tMajor _ _ _ _ _ _ _).mono ?_; rintro e w1 ⟨rfl, hb⟩; have HS2 : S3 w V U C a b c p m o a2 b2 c2 p2 m2 o2 op md d pd w1 := (by refine ⟨?_, ?_, ?_, ?_, ?_, ?_, ?_, ?_, ?_, ?_, ?_, ?_, ?_, ?_, ?_, ?_, ?_, ?_⟩ <;> first | exact keepc hb (by first | assumption | (rw [World.cell?_drew]; assumption)) | exact belk hb (by first | assumption | (refine Below.drew ?_; assumption))); clear hb; obtain ⟨q0, q1, q2, q3, q4, q5, q6, q7, q8, q9, q10, q11, q12, q13, q14, q15, q16, q17⟩ := HS2))
      all_goals go_wp2_with (go_at_call 28; refine (tErr _ _).mono ?_; rintro e w3 ⟨t3, a3, rfl, hb⟩; have hbb := belk hb (by first | assumption | (refine Below.drew ?_; assumption)); clear hb)
      all_goals (go_ret2; refine ret_bool (r := res) ?_ (by first | assumption | (refine Below.drew ?_; assumption)); rw [← HRES.out, caretR, if_neg (by have := HN.out; omega), if_pos (.inl x1)]; all_goals first | rfl | (have e := eq_of_beq (show ((a : Int) == (a2 : Int)) = true by assumption); rw [decide_eq_true (by omega)]) | (have e := ne_of_beq_false (show ((a : Int) == (a2 : Int)) = false by assumption); rw [decide_eq_false (by omega)]) | (have e := eq_of_beq (show ((b : Int) == (b2 : Int)) = true by assumption); rw [decide_eq_true (by omega)]) | (have e := ne_of_beq_false (show ((b : Int) == (b2 : Int)) = false by assumption); rw [decide_eq_false (by omega)]) | (have e := eq_of_beq (show ((c2 : Int) == (c : Int)) = true by assumption); rw [decide_eq_true (by omega)]) | (have e := ne_of_beq_false (show ((c2 : Int) == (c : Int)) = false by assumption); rw [decide_eq_false (by omega)]))
    · have y1 : ¬ (0 : Int) < (a2 : Int) := by omega
      have z1 : ((a2 : Int) == 0) = true := by simp; omega
      cases md
      · by_cases x2 : 0 < a
        · have y2 : (0 : Int) < (a : Int) := by omega
          go_wp2_with (first | (go_at_call 81; refine (tPrere _ _ _ _ _ _ _).mono ?_; rintro e w1 ⟨rfl, hb⟩; obtain ⟨q0, q1, q2, q3, q4, q5, q6, q7, q8, q9, q10, q11, q12, q13, q14, q15, q16, q17⟩ := kp18 hb q0 q1 q2 q3 q4 q5 q6 q7 q8 q9 q10 q11 q12 q13 q14 q15 q16 q17; clear hb) | (go_at_call 83; refine (tMajor _ _ _ _ _ _ _).mono ?_; rintro e w1 ⟨rfl, hb⟩; obtain ⟨q0, q1, q2, q3, q4, q5, q6, q7, q8, q9, q10, q11, q12, q13, q14, q15, q16, q17⟩ := kp18 hb q0 q1 q2 q3 q4 q5 q6 q7 q8 q9 q10 q11 q12 q13 q14 q15 q16 q17; clear hb) | (go_at_call 84; refine (tMinor _ _ _ _ _ _ _).mono ?_; rintro e w1 ⟨rfl, hb⟩; obtain ⟨q0, q1, q2, q3, q4, q5, q6, q7, q8, q9, q10, q11, q12, q13, q14, q15, q16, q17⟩ := kp18 hb q0 q1 q2 q3 q4 q5 q6 q7 q8 q9 q10 q11 q12 q13 q14 q15 q16 q17; clear hb) | (go_at_call 85; refine (tPatch _ _ _ _ _ _ _).mono ?_; rintro e w1 ⟨rfl, hb⟩; obtain ⟨q0, q1, q2, q3, q4, q5, q6, q7, q8, q9, q10, q11, q12, q13, q14, q15, q16, q17⟩ := kp18 hb q0 q1 q2 q3 q4 q5 q6 q7 q8 q9 q10 q11 q12 q13 q14 q15 q16 q17; clear hb) | (go_at_call 88; refine (tLess _ V U a b c p m o a2 b2 c2 p2 m2 o2 ⟨q0, q1, q2, q3, q4, q5, q6, q7, q8, q9, q10, q11, Below.refl _ _⟩ hp rel hr).mono ?_; rintro e w2 ⟨rfl, hb⟩; rw [hlt]; obtain ⟨q0, q1, q2, q3, q4, q5, q6, q7, q8, q9, q10, q11, q12, q13, q14, q15, q16, q17⟩ := kp18 hb q0 q1 q2 q3 q4 q5 q6 q7 q8 q9 q10 q11 q12 q13 q14 q15 q16 q17; clear hb) | (go_at_call 28; refine (tErr _ _).mono ?_; rintro e w3 ⟨t3, a3, rfl, hb⟩; obtain ⟨q0, q1, q2, q3, q4, q5, q6, q7, q8, q9, q10, q11, q12, q13, q14, q15, q16, q17⟩ := kp18 hb q0 q1 q2 q3 q4 q5 q6 q7 q8 q9 q10 q11 q12 q13 q14 q15 q16 q17; clear hb))
          (go_ret2; refine ret_bool (r := res) ?_ (by first | assumption | (refine Below.drew ?_; assumption)); rw [← HRES.out, caretR, if_neg (by have := HN.out; omega), if_neg (by simp [x1]), if_pos x2]; all_goals first | rfl | (have e := eq_of_beq (show ((a : Int) == (a2 : Int)) = true by assumption); rw [decide_eq_true (by omega)]) | (have e := ne_of_beq_false (show ((a : Int) == (a2 : Int)) = false by assumption); rw [decide_eq_false (by omega)]) | (have e := eq_of_beq (show ((b : Int) == (b2 : Int)) = true by assumption); rw [decide_eq_true (by omega)]) | (have e := ne_of_beq_false (show ((b : Int) == (b2 : Int)) = false by assumption); rw [decide_eq_false (by omega)]) | (have e := eq_of_beq (show ((c2 : Int) == (c : Int)) = true by assumption); rw [decide_eq_true (by omega)]) | (have e := ne_of_beq_false (show ((c2 : Int) == (c : Int)) = false by assumption); rw [decide_eq_false (by omega)]))
        · have y2 : ¬ (0 : Int) < (a : Int) := by omega
          have z2 : ((a : Int) == 0) = true := by simp; omega
          by_cases x3 : 0 < b2
          · have y3 : (0 : Int) < (b2 : Int) := by omega
            go_upto_region 14 with (first | (go_at_call 81; refine (tPrere _ _ _ _ _ _ _).mono ?_; rintro e w1 ⟨rfl, hb⟩; obtain ⟨q0, q1, q2, q3, q4, q5, q6, q7, q8, q9, q10, q11, q12, q13, q14, q15, q16, q17⟩ := kp18 hb q0 q1 q2 q3 q4 q5 q6 q7 q8 q9 q10 q11 q12 q13 q14 q15 q16 q17; clear hb) | (go_at_call 83; refine (tMajor _ _ _ _ _ _ _).mono ?_; rintro e w1 ⟨rfl, hb⟩; obtain ⟨q0, q1, q2, q3, q4, q5, q6, q7, q8, q9, q10, q11, q12, q13, q14, q15, q16, q17⟩ := kp18 hb q0 q1 q2 q3 q4 q5 q6 q7 q8 q9 q10 q11 q12 q13 q14 q15 q16 q17; clear hb) | (go_at_call 84; refine (tMinor _ _ _ _ _ _ _).mono ?_; rintro e w1 ⟨rfl, hb⟩; obtain ⟨q0, q1, q2, q3, q4, q5, q6, q7, q8, q9, q10, q11, q12, q13, q14, q15, q16, q17⟩ := kp18 hb q0 q1 q2 q3 q4 q5 q6 q7 q8 q9 q10 q11 q12 q13 q14 q15 q16 q17; clear hb) | (go_at_call 85; refine (tPatch _ _ _ _ _ _ _).mono ?_; rintro e w1 ⟨rfl, hb⟩; obtain ⟨q0, q1, q2, q3, q4, q5, q6, q7, q8, q9, q10, q11, q12, q13, q14, q15, q16, q17⟩ := kp18 hb q0 q1 q2 q3 q4 q5 q6 q7 q8 q9 q10 q11 q12 q13 q14 q15 q16 q17; clear hb) | (go_at_call 88; refine (tLess _ V U a b c p m o a2 b2 c2 p2 m2 o2 ⟨q0, q1, q2, q3, q4, q5, q6, q7, q8, q9, q10, q11, Below.refl _ _⟩ hp rel hr).mono ?_; rintro e w2 ⟨rfl, hb⟩; rw [hlt]; obtain ⟨q0, q1, q2, q3, q4, q5, q6, q7, q8, q9, q10, q11, q12, q13, q14, q15, q16, q17⟩ := kp18 hb q0 q1 q2 q3 q4 q5 q6 q7 q8 q9 q10 q11 q12 q13 q14 q15 q16 q17; clear hb) | (go_at_call 28; refine (tErr _ _).mono ?_; rintro e w3 ⟨t3, a3, rfl, hb⟩; obtain ⟨q0, q1, q2, q3, q4, q5, q6, q7, q8, q9, q10, q11, q12, q13, q14, q15, q16, q17⟩ := kp18 hb q0 q1 q2 q3 q4 q5 q6 q7 q8 q9 q10 q11 q12 q13 q14 q15 q16 q17; clear hb))
            go_region_held3 (fun w' => w'.cell? ⟨V, 0, none⟩ = some (.int .u64 a) ∧ w'.cell? ⟨V, 1, none⟩ = some (.int .u64 b) ∧ w'.cell? ⟨V, 2, none⟩ = some (.int .u64 c) ∧ w'.cell? ⟨V, 3, none⟩ = some (.string p) ∧ w'.cell? ⟨V, 4, none⟩ = some (.string m) ∧ w'.cell? ⟨V, 5, none⟩ = some (.string o) ∧ w'.cell? ⟨U, 0, none⟩ = some (.int .u64 a2) ∧ w'.cell? ⟨U, 1, none⟩ = some (.int .u64 b2) ∧ w'.cell? ⟨U, 2, none⟩ = some (.int .u64 c2) ∧ w'.cell? ⟨U, 3, none⟩ = some (.string p2) ∧ w'.cell? ⟨U, 4, none⟩ = some (.string m2) ∧ w'.cell? ⟨U, 5, none⟩ = some (.string o2) ∧ w'.cell? ⟨C, 0, none⟩ = some (.pointer (some ⟨U, 0, none⟩)) ∧ w'.cell? ⟨C, 2, none⟩ = some (.string op) ∧ w'.cell? ⟨C, 3, none⟩ = some (.bool false) ∧ w'.cell? ⟨C, 4, none⟩ = some (.bool d) ∧ w'.cell? ⟨C, 5, none⟩ = some (.bool pd) ∧ Below w.heap.size w w') (refine ⟨?_, ?_, ?_, ?_, ?_, ?_, ?_, ?_, ?_, ?_, ?_, ?_, ?_, ?_, ?_, ?_, ?_, ?_⟩ <;> first | assumption | (rw [World.cell?_drew]; assumption) | (refine Below.drew ?_; assumption)) (first | (go_at_call 84; refine (tMinor _ _ _ _ _ _ _).mono ?_; rintro e w1 ⟨rfl, hb⟩; have HS2 : S3 w V U C a b c p m o a2 b2 c2 p2 m2 o2 op false d pd w1 := (by refine ⟨?_, ?_, ?_, ?_, ?_, ?_, ?_, ?_, ?_, ?_, ?_, ?_, ?_, ?_, ?_, ?_, ?_, ?_⟩ <;> first | exact keepc hb (by first | assumption | (rw [World.cell?_drew]; assumption)) | exact belk hb (by first | assumption | (refine Below.drew ?_; assumption))); clear hb; obtain ⟨q0, q1, q2, q3, q4, q5, q6, q7, q8, q9, q10, q11, q12, q13, q14, q15, q16, q17⟩ := HS2))
            all_goals go_wp2_with (go_at_call 28; refine (tErr _ _).mono ?_; rintro e w3 ⟨t3, a3, rfl, hb⟩; have hbb := belk hb (by first | assumption | (refine Below.drew ?_; assumption)); clear hb)
            all_goals (go_ret2; refine ret_bool (r := res) ?_ (by first | assumption | (refine Below.drew ?_; assumption)); rw [← HRES.out, caretR, if_neg (by have := HN.out; omega), if_neg (by simp [x1]), if_neg x2, if_pos (.inl x3)]; all_goals first | rfl | (have e := eq_of_beq (show ((a : Int) == (a2 : Int)) = true by assumption); rw [decide_eq_true (by omega)]) | (have e := ne_of_beq_false (show ((a : Int) == (a2 : Int)) = false by assumption); rw [decide_eq_false (by omega)]) | (have e := eq_of_beq (show ((b : Int) == (b2 : Int)) = true by assumption); rw [decide_eq_true (by omega)]) | (have e := ne_of_beq_false (show ((b : Int) == (b2 : Int)) = false by assumption); rw [decide_eq_false (by omega)]) | (have e := eq_of_beq (show ((c2 : Int) == (c : Int)) = true by assumption); rw [decide_eq_true (by omega)]) | (have e := ne_of_beq_false (show ((c2 : Int) == (c : Int)) = false by assumption); rw [decide_eq_false (by omega)]))
          · have y3 : ¬ (0 : Int) < (b2 : Int) := by omega
            have z3 : ((b2 : Int) == 0) = true := by simp; omega
            cases pd
            · by_cases x4 : 0 < b
              · have y4 : (0 : Int) < (b : Int) := by omega
                go_wp2_with (first | (go_at_call 81; refine (tPrere _ _ _ _ _ _ _).mono ?_; rintro e w1 ⟨rfl, hb⟩; obtain ⟨q0, q1, q2, q3, q4, q5, q6, q7, q8, q9, q10, q11, q12, q13, q14, q15, q16, q17⟩ := kp18 hb q0 q1 q2 q3 q4 q5 q6 q7 q8 q9 q10 q11 q12 q13 q14 q15 q16 q17; clear hb) | (go_at_call 83; refine (tMajor _ _ _ _ _ _ _).mono ?_; rintro e w1 ⟨rfl, hb⟩; obtain ⟨q0, q1, q2, q3, q4, q5, q6, q7, q8, q9, q10, q11, q12, q13, q14, q15, q16, q17⟩ := kp18 hb q0 q1 q2 q3 q4 q5 q6 q7 q8 q9 q10 q11 q12 q13 q14 q15 q16 q17; clear hb) | (go_at_call 84; refine (tMinor _ _ _ _ _ _ _).mono ?_; rintro e w1 ⟨rfl, hb⟩; obtain ⟨q0, q1, q2, q3, q4, q5, q6, q7, q8, q9, q10, q11, q12, q13, q14, q15, q16, q17⟩ := kp18 hb q0 q1 q2 q3 q4 q5 q6 q7 q8 q9 q10 q11 q12 q13 q14 q15 q16 q17; clear hb) | (go_at_call 85; refine (tPatch _ _ _ _ _ _ _).mono ?_; rintro e w1 ⟨rfl, hb⟩; obtain ⟨q0, q1, q2, q3, q4, q5, q6, q7, q8, q9, q10, q11, q12, q13, q14, q15, q16, q17⟩ := kp18 hb q0 q1 q2 q3 q4 q5 q6 q7 q8 q9 q10 q11 q12 q13 q14 q15 q16 q17; clear hb) | (go_at_call 88; refine (tLess _ V U a b c p m o a2 b2 c2 p2 m2 o2 ⟨q0, q1, q2, q3, q4, q5, q6, q7, q8, q9, q10, q11, Below.refl _ _⟩ hp rel hr).mono ?_; rintro e w2 ⟨rfl, hb⟩; rw [hlt]; obtain ⟨q0, q1, q2, q3, q4, q5, q6, q7, q8, q9, q10, q11, q12, q13, q14, q15, q16, q17⟩ := kp18 hb q0 q1 q2 q3 q4 q5 q6 q7 q8 q9 q10 q11 q12 q13 q14 q15 q16 q17; clear hb) | (go_at_call 28; refine (tErr _ _).mono ?_; rintro e w3 ⟨t3, a3, rfl, hb⟩; obtain ⟨q0, q1, q2, q3, q4, q5, q6, q7, q8, q9, q10, q11, q12, q13, q14, q15, q16, q17⟩ := kp18 hb q0 q1 q2 q3 q4 q5 q6 q7 q8 q9 q10 q11 q12 q13 q14 q15 q16 q17; clear hb))
                (go_ret2; refine ret_bool (r := res) ?_ (by first | assumption | (refine Below.drew ?_; assumption)); rw [← HRES.out, caretR, if_neg (by have := HN.out; omega), if_neg (by simp [x1]), if_neg x2, if_neg (by simp [x3]), if_pos x4]; all_goals first | rfl | (have e := eq_of_beq (show ((a : Int) == (a2 : Int)) = true by assumption); rw [decide_eq_true (by omega)]) | (have e := ne_of_beq_false (show ((a : Int) == (a2 : Int)) = false by assumption); rw [decide_eq_false (by omega)]) | (have e := eq_of_beq (show ((b : Int) == (b2 : Int)) = true by assumption); rw [decide_eq_true (by omega)]) | (have e := ne_of_beq_false (show ((b : Int) == (b2 : Int)) = false by assumption); rw [decide_eq_false (by omega)]) | (have e := eq_of_beq (show ((c2 : Int) == (c : Int)) = true by assumption); rw [decide_eq_true (by omega)]) | (have e := ne_of_beq_false (show ((c2 : Int) == (c : Int)) = false by assumption); rw [decide_eq_false (by omega)]))
              · have y4 : ¬ (0 : Int) < (b : Int) := by omega
                have z4 : ((b : Int) == 0) = true := by simp; omega
                go_upto_region 20 with (first | (go_at_call 81; refine (tPrere _ _ _ _ _ _ _).mono ?_; rintro e w1 ⟨rfl, hb⟩; obtain ⟨q0, q1, q2, q3, q4, q5, q6, q7, q8, q9, q10, q11, q12, q13, q14, q15, q16, q17⟩ := kp18 hb q0 q1 q2 q3 q4 q5 q6 q7 q8 q9 q10 q11 q12 q13 q14 q15 q16 q17; clear hb) | (go_at_call 83; refine (tMajor _ _ _ _ _ _ _).mono ?_; rintro e w1 ⟨rfl, hb⟩; obtain ⟨q0, q1, q2, q3, q4, q5, q6, q7, q8, q9, q10, q11, q12, q13, q14, q15, q16, q17⟩ := kp18 hb q0 q1 q2 q3 q4 q5 q6 q7 q8 q9 q10 q11 q12 q13 q14 q15 q16 q17; clear hb) | (go_at_call 84; refine (tMinor _ _ _ _ _ _ _).mono ?_; rintro e w1 ⟨rfl, hb⟩; obtain ⟨q0, q1, q2, q3, q4, q5, q6, q7, q8, q9, q10, q11, q12, q13, q14, q15, q16, q17⟩ := kp18 hb q0 q1 q2 q3 q4 q5 q6 q7 q8 q9 q10 q11 q12 q13 q14 q15 q16 q17; clear hb) | (go_at_call 85; refine (tPatch _ _ _ _ _ _ _).mono ?_; rintro e w1 ⟨rfl, hb⟩; obtain ⟨q0, q1, q2, q3, q4, q5, q6, q7, q8, q9, q10, q11, q12, q13, q14, q15, q16, q17⟩ := kp18 hb q0 q1 q2 q3 q4 q5 q6 q7 q8 q9 q10 q11 q12 q13 q14 q15 q16 q17; clear hb) | (go_at_call 88; refine (tLess _ V U a b c p m o a2 b2 c2 p2 m2 o2 ⟨q0, q1, q2, q3, q4, q5, q6, q7, q8, q9, q10, q11, Below.refl _ _⟩ hp rel hr).mono ?_; rintro e w2 ⟨rfl, hb⟩; rw [hlt]; obtain ⟨q0, q1, q2, q3, q4, q5, q6, q7, q8, q9, q10, q11, q12, q13, q14, q15, q16, q17⟩ := kp18 hb q0 q1 q2 q3 q4 q5 q6 q7 q8 q9 q10 q11 q12 q13 q14 q15 q16 q17; clear hb) | (go_at_call 28; refine (tErr _ _).mono ?_; rintro e w3 ⟨t3, a3, rfl, hb⟩; obtain ⟨q0, q1, q2, q3, q4, q5, q6, q7, q8, q9, q10, q11, q12, q13, q14, q15, q16, q17⟩ := kp18 hb q0 q1 q2 q3 q4 q5 q6 q7 q8 q9 q10 q11 q12 q13 q14 q15 q16 q17; clear hb))
                go_region_held3 (fun w' => w'.cell? ⟨V, 0, none⟩ = some (.int .u64 a) ∧ w'.cell? ⟨V, 1, none⟩ = some (.int .u64 b) ∧ w'.cell? ⟨V, 2, none⟩ = some (.int .u64 c) ∧ w'.cell? ⟨V, 3, none⟩ = some (.string p) ∧ w'.cell? ⟨V, 4, none⟩ = some (.string m) ∧ w'.cell? ⟨V, 5, none⟩ = some (.string o) ∧ w'.cell? ⟨U, 0, none⟩ = some (.int .u64 a2) ∧ w'.cell? ⟨U, 1, none⟩ = some (.int .u64 b2) ∧ w'.cell? ⟨U, 2, none⟩ = some (.int .u64 c2) ∧ w'.cell? ⟨U, 3, none⟩ = some (.string p2) ∧ w'.cell? ⟨U, 4, none⟩ = some (.string m2) ∧ w'.cell? ⟨U, 5, none⟩ = some (.string o2) ∧ w'.cell? ⟨C, 0, none⟩ = some (.pointer (some ⟨U, 0, none⟩)) ∧ w'.cell? ⟨C, 2, none⟩ = some (.string op) ∧ w'.cell? ⟨C, 3, none⟩ = some (.bool false) ∧ w'.cell? ⟨C, 4, none⟩ = some (.bool d) ∧ w'.cell? ⟨C, 5, none⟩ = some (.bool false) ∧ Below w.heap.size w w') (refine ⟨?_, ?_, ?_, ?_, ?_, ?_, ?_, ?_, ?_, ?_, ?_, ?_, ?_, ?_, ?_, ?_, ?_, ?_⟩ <;> first | assumption | (rw [World.cell?_drew]; assumption) | (refine Below.drew ?_; assumption)) (first | (go_at_call 85; refine (tPatch _ _ _ _ _ _ _).mono ?_; rintro e w1 ⟨rfl, hb⟩; have HS2 : S3 w V U C a b c p m o a2 b2 c2 p2 m2 o2 op false d false w1 := (by refine ⟨?_, ?_, ?_, ?_, ?_, ?_, ?_, ?_, ?_, ?_, ?_, ?_, ?_, ?_, ?_, ?_, ?_, ?_⟩ <;> first | exact keepc hb (by first | assumption | (rw [World.cell?_drew]; assumption)) | exact belk hb (by first | assumption | (refine Below.drew ?_; assumption))); clear hb; obtain ⟨q0, q1, q2, q3, q4, q5, q6, q7, q8, q9, q10, q11, q12, q13, q14, q15, q16, q17⟩ := HS2))
                all_goals go_wp2_with (go_at_call 28; refine (tErr _ _).mono ?_; rintro e w3 ⟨t3, a3, rfl, hb⟩; have hbb := belk hb (by first | assumption | (refine Below.drew ?_; assumption)); clear hb)
                all_goals (go_ret2; refine ret_bool (r := res) ?_ (by first | assumption | (refine Below.drew ?_; assumption)); rw [← HRES.out, caretR, if_neg (by have := HN.out; omega), if_neg (by simp [x1]), if_neg x2, if_neg (by simp [x3]), if_neg x4]; all_goals first | rfl | (have e := eq_of_beq (show ((a : Int) == (a2 : Int)) = true by assumption); rw [decide_eq_true (by omega)]) | (have e := ne_of_beq_false (show ((a : Int) == (a2 : Int)) = false by assumption); rw [decide_eq_false (by omega)]) | (have e := eq_of_beq (show ((b : Int) == (b2 : Int)) = true by assumption); rw [decide_eq_true (by omega)]) | (have e := ne_of_beq_false (show ((b : Int) == (b2 : Int)) = false by assumption); rw [decide_eq_false (by omega)]) | (have e := eq_of_beq (show ((c2 : Int) == (c : Int)) = true by assumption); rw [decide_eq_true (by omega)]) | (have e := ne_of_beq_false (show ((c2 : Int) == (c : Int)) = false by assumption); rw [decide_eq_false (by omega)]))
            · skip
              go_upto_region 14 with (first | (go_at_call 81; refine (tPrere _ _ _ _ _ _ _).mono ?_; rintro e w1 ⟨rfl, hb⟩; obtain ⟨q0, q1, q2, q3, q4, q5, q6, q7, q8, q9, q10, q11, q12, q13, q14, q15, q16, q17⟩ := kp18 hb q0 q1 q2 q3 q4 q5 q6 q7 q8 q9 q10 q11 q12 q13 q14 q15 q16 q17; clear hb) | (go_at_call 83; refine (tMajor _ _ _ _ _ _ _).mono ?_; rintro e w1 ⟨rfl, hb⟩; obtain ⟨q0, q1, q2, q3, q4, q5, q6, q7, q8, q9, q10, q11, q12, q13, q14, q15, q16, q17⟩ := kp18 hb q0 q1 q2 q3 q4 q5 q6 q7 q8 q9 q10 q11 q12 q13 q14 q15 q16 q17; clear hb) | (go_at_call 84; refine (tMinor _ _ _ _ _ _ _).mono ?_; rintro e w1 ⟨rfl, hb⟩; obtain ⟨q0, q1, q2, q3, q4, q5, q6, q7, q8, q9, q10, q11, q12, q13, q14, q15, q16, q17⟩ := kp18 hb q0 q1 q2 q3 q4 q5 q6 q7 q8 q9 q10 q11 q12 q13 q14 q15 q16 q17; clear hb) | (go_at_call 85; refine (tPatch _ _ _ _ _ _ _).mono ?_; rintro e w1 ⟨rfl, hb⟩; obtain ⟨q0, q1, q2, q3, q4, q5, q6, q7, q8, q9, q10, q11, q12, q13, q14, q15, q16, q17⟩ := kp18 hb q0 q1 q2 q3 q4 q5 q6 q7 q8 q9 q10 q11 q12 q13 q14 q15 q16 q17; clear hb) | (go_at_call 88; refine (tLess _ V U a b c p m o a2 b2 c2 p2 m2 o2 ⟨q0, q1, q2, q3, q4, q5, q6, q7, q8, q9, q10, q11, Below.refl _ _⟩ hp rel hr).mono ?_; rintro e w2 ⟨rfl, hb⟩; rw [hlt]; obtain ⟨q0, q1, q2, q3, q4, q5, q6, q7, q8, q9, q10, q11, q12, q13, q14, q15, q16, q17⟩ := kp18 hb q0 q1 q2 q3 q4 q5 q6 q7 q8 q9 q10 q11 q12 q13 q14 q15 q16 q17; clear hb) | (go_at_call 28; refine (tErr _ _).mono ?_; rintro e w3 ⟨t3, a3, rfl, hb⟩; obtain ⟨q0, q1, q2, q3, q4, q5, q6, q7, q8, q9, q10, q11, q12, q13, q14, q15, q16, q17⟩ := kp18 hb q0 q1 q2 q3 q4 q5 q6 q7 q8 q9 q10 q11 q12 q13 q14 q15 q16 q17; clear hb))
              go_region_held3 (fun w' => w'.cell? ⟨V, 0, none⟩ = some (.int .u64 a) ∧ w'.cell? ⟨V, 1, none⟩ = some (.int .u64 b) ∧ w'.cell? ⟨V, 2, none⟩ = some (.int .u64 c) ∧ w'.cell? ⟨V, 3, none⟩ = some (.string p) ∧ w'.cell? ⟨V, 4, none⟩ = some (.string m) ∧ w'.cell? ⟨V, 5, none⟩ = some (.string o) ∧ w'.cell? ⟨U, 0, none⟩ = some (.int .u64 a2) ∧ w'.cell? ⟨U, 1, none⟩ = some (.int .u64 b2) ∧ w'.cell? ⟨U, 2, none⟩ = some (.int .u64 c2) ∧ w'.cell? ⟨U, 3, none⟩ = some (.string p2) ∧ w'.cell? ⟨U, 4, none⟩ = some (.string m2) ∧ w'.cell? ⟨U, 5, none⟩ = some (.string o2) ∧ w'.cell? ⟨C, 0, none⟩ = some (.pointer (some ⟨U, 0, none⟩)) ∧ w'.cell? ⟨C, 2, none⟩ = some (.string op) ∧ w'.cell? ⟨C, 3, none⟩ = some (.bool false) ∧ w'.cell? ⟨C, 4, none⟩ = some (.bool d) ∧ w'.cell? ⟨C, 5, none⟩ = some (.bool true) ∧ Below w.heap.size w w') (refine ⟨?_, ?_, ?_, ?_, ?_, ?_, ?_, ?_, ?_, ?_, ?_, ?_, ?_, ?_, ?_, ?_, ?_, ?_⟩ <;> first | assumption | (rw [World.cell?_drew]; assumption) | (refine Below.drew ?_; assumption)) (first | (go_at_call 84; refine (tMinor _ _ _ _ _ _ _).mono ?_; rintro e w1 ⟨rfl, hb⟩; have HS2 : S3 w V U C a b c p m o a2 b2 c2 p2 m2 o2 op false d true w1 := (by refine ⟨?_, ?_, ?_, ?_, ?_, ?_, ?_, ?_, ?_, ?_, ?_, ?_, ?_, ?_, ?_, ?_, ?_, ?_⟩ <;> first | exact keepc hb (by first | assumption | (rw [World.cell?_drew]; assumption)) | exact belk hb (by first | assumption | (refine Below.drew ?_; assumption))); clear hb; obtain ⟨q0, q1, q2, q3, q4, q5, q6, q7, q8, q9, q10, q11, q12, q13, q14, q15, q16, q17⟩ := HS2))
              all_goals go_wp2_with (go_at_call 28; refine (tErr _ _).mono ?_; rintro e w3 ⟨t3, a3, rfl, hb⟩; have hbb := belk hb (by first | assumption | (refine Below.drew ?_; assumption)); clear hb)
              all_goals (go_ret2; refine ret_bool (r := res) ?_ (by first | assumption | (refine Below.drew ?_; assumption)); rw [← HRES.out, caretR, if_neg (by have := HN.out; omega), if_neg (by simp [x1]), if_neg x2, if_pos (.inr rfl)]; all_goals first | rfl | (have e := eq_of_beq (show ((a : Int) == (a2 : Int)) = true by assumption); rw [decide_eq_true (by omega)]) | (have e := ne_of_beq_false (show ((a : Int) == (a2 : Int)) = false by assumption); rw [decide_eq_false (by omega)]) | (have e := eq_of_beq (show ((b : Int) == (b2 : Int)) = true by assumption); rw [decide_eq_true (by omega)]) | (have e := ne_of_beq_false (show ((b : Int) == (b2 : Int)) = false by assumption); rw [decide_eq_false (by omega)]) | (have e := eq_of_beq (show ((c2 : Int) == (c : Int)) = true by assumption); rw [decide_eq_true (by omega)]) | (have e := ne_of_beq_false (show ((c2 : Int) == (c : Int)) = false by assumption); rw [decide_eq_false (by omega)]))
      · skip
        go_upto_region 7 with (first | (go_at_call 81; refine (tPrere _ _ _ _ _ _ _).mono ?_; rintro e w1 ⟨rfl, hb⟩; obtain ⟨q0, q1, q2, q3, q4, q5, q6, q7, q8, q9, q10, q11, q12, q13, q14, q15, q16, q17⟩ := kp18 hb q0 q1 q2 q3 q4 q5 q6 q7 q8 q9 q10 q11 q12 q13 q14 q15 q16 q17; clear hb) | (go_at_call 83; refine (tMajor _ _ _ _ _ _ _).mono ?_; rintro e w1 ⟨rfl, hb⟩; obtain ⟨q0, q1, q2, q3, q4, q5, q6, q7, q8, q9, q10, q11, q12, q13, q14, q15, q16, q17⟩ := kp18 hb q0 q1 q2 q3 q4 q5 q6 q7 q8 q9 q10 q11 q12 q13 q14 q15 q16 q17; clear hb) | (go_at_call 84; refine (tMinor _ _ _ _ _ _ _).mono ?_; rintro e w1 ⟨rfl, hb⟩; obtain ⟨q0, q1, q2, q3, q4, q5, q6, q7, q8, q9, q10, q11, q12, q13, q14, q15, q16, q17⟩ := kp18 hb q0 q1 q2 q3 q4 q5 q6 q7 q8 q9 q10 q11 q12 q13 q14 q15 q16 q17; clear hb) | (go_at_call 85; refine (tPatch _ _ _ _ _ _ _).mono ?_; rintro e w1 ⟨rfl, hb⟩; obtain ⟨q0, q1, q2, q3, q4, q5, q6, q7, q8, q9, q10, q11, q12, q13, q14, q15, q16, q17⟩ := kp18 hb q0 q1 q2 q3 q4 q5 q6 q7 q8 q9 q10 q11 q12 q13 q14 q15 q16 q17; clear hb) | (go_at_call 88; refine (tLess _ V U a b c p m o a2 b2 c2 p2 m2 o2 ⟨q0, q1, q2, q3, q4, q5, q6, q7, q8, q9, q10, q11, Below.refl _ _⟩ hp rel hr).mono ?_; rintro e w2 ⟨rfl, hb⟩; rw [hlt]; obtain ⟨q0, q1, q2, q3, q4, q5, q6, q7, q8, q9, q10, q11, q12, q13, q14, q15, q16, q17⟩ := kp18 hb q0 q1 q2 q3 q4 q5 q6 q7 q8 q9 q10 q11 q12 q13 q14 q15 q16 q17; clear hb) | (go_at_call 28; refine (tErr _ _).mono ?_; rintro e w3 ⟨t3, a3, rfl, hb⟩; obtain ⟨q0, q1, q2, q3, q4, q5, q6, q7, q8, q9, q10, q11, q12, q13, q14, q15, q16, q17⟩ := kp18 hb q0 q1 q2 q3 q4 q5 q6 q7 q8 q9 q10 q11 q12 q13 q14 q15 q16 q17; clear hb))
        go_region_held3 (fun w' => w'.cell? ⟨V, 0, none⟩ = some (.int .u64 a) ∧ w'.cell? ⟨V, 1, none⟩ = some (.int .u64 b) ∧ w'.cell? ⟨V, 2, none⟩ = some (.int .u64 c) ∧ w'.cell? ⟨V, 3, none⟩ = some (.string p) ∧ w'.cell? ⟨V, 4, none⟩ = some (.string m) ∧ w'.cell? ⟨V, 5, none⟩ = some (.string o) ∧ w'.cell? ⟨U, 0, none⟩ = some (.int .u64 a2) ∧ w'.cell? ⟨U, 1, none⟩ = some (.int .u64 b2) ∧ w'.cell? ⟨U, 2, none⟩ = some (.int .u64 c2) ∧ w'.cell? ⟨U, 3, none⟩ = some (.string p2) ∧ w'.cell? ⟨U, 4, none⟩ = some (.string m2) ∧ w'.cell? ⟨U, 5, none⟩ = some (.string o2) ∧ w'.cell? ⟨C, 0, none⟩ = some (.pointer (some ⟨U, 0, none⟩)) ∧ w'.cell? ⟨C, 2, none⟩ = some (.string op) ∧ w'.cell? ⟨C, 3, none⟩ = some (.bool true) ∧ w'.cell? ⟨C, 4, none⟩ = some (.bool d) ∧ w'.cell? ⟨C, 5, none⟩ = some (.bool pd) ∧ Below w.heap.size w w') (refine ⟨?_, ?_, ?_, ?_, ?_, ?_, ?_, ?_, ?_, ?_, ?_, ?_, ?_, ?_, ?_, ?_, ?_, ?_⟩ <;> first | assumption | (rw [World.cell?_drew]; assumption) | (refine Below.drew ?_; assumption)) (first | (go_at_call 83; refine (tMajor _ _ _ _ _ _ _).mono ?_; rintro e w1 ⟨rfl, hb⟩; have HS2 : S3 w V U C a b c p m o a2 b2 c2 p2 m2 o2 op true d pd w1 := (by refine ⟨?_, ?_, ?_, ?_, ?_, ?_, ?_, ?_, ?_, ?_, ?_, ?_, ?_, ?_, ?_, ?_, ?_, ?_⟩ <;> first | exact keepc hb (by first | assumption | (rw [World.cell?_drew]; assumption)) | exact belk hb (by first | assumption | (refine Below.drew ?_; assumption))); clear hb; obtain ⟨q0, q1, q2, q3, q4, q5, q6, q7, q8, q9, q10, q11, q12, q13, q14, q15, q16, q17⟩ := HS2))
        all_goals go_wp2_with (go_at_call 28; refine (tErr _ _).mono ?_; rintro e w3 ⟨t3, a3, rfl, hb⟩; have hbb := belk hb (by first | assumption | (refine Below.drew ?_; assumption)); clear hb)
        all_goals (go_ret2; refine ret_bool (r := res) ?_ (by first | assumption | (refine Below.drew ?_; assumption)); rw [← HRES.out, caretR, if_neg (by have := HN.out; omega), if_pos (.inr rfl)]; all_goals first | rfl | (have e := eq_of_beq (show ((a : Int) == (a2 : Int)) = true by assumption); rw [decide_eq_true (by omega)]) | (have e := ne_of_beq_false (show ((a : Int) == (a2 : Int)) = false by assumption); rw [decide_eq_false (by omega)]) | (have e := eq_of_beq (show ((b : Int) == (b2 : Int)) = true by assumption); rw [decide_eq_true (by omega)]) | (have e := ne_of_beq_false (show ((b : Int) == (b2 : Int)) = false by assumption); rw [decide_eq_false (by omega)]) | (have e := eq_of_beq (show ((c2 : Int) == (c : Int)) = true by assumption); rw [decide_eq_true (by omega)]) | (have e := ne_of_beq_false (show ((c2 : Int) == (c : Int)) = false by assumption); rw [decide_eq_false (by omega)]))
  · go_wp2_with (first | (go_at_call 81; refine (tPrere _ _ _ _ _ _ _).mono ?_; rintro e w1 ⟨rfl, hb⟩; obtain ⟨q0, q1, q2, q3, q4, q5, q6, q7, q8, q9, q10, q11, q12, q13, q14, q15, q16, q17⟩ := kp18 hb q0 q1 q2 q3 q4 q5 q6 q7 q8 q9 q10 q11 q12 q13 q14 q15 q16 q17; clear hb) | (go_at_call 83; refine (tMajor _ _ _ _ _ _ _).mono ?_; rintro e w1 ⟨rfl, hb⟩; obtain ⟨q0, q1, q2, q3, q4, q5, q6, q7, q8, q9, q10, q11, q12, q13, q14, q15, q16, q17⟩ := kp18 hb q0 q1 q2 q3 q4 q5 q6 q7 q8 q9 q10 q11 q12 q13 q14 q15 q16 q17; clear hb) | (go_at_call 84; refine (tMinor _ _ _ _ _ _ _).mono ?_; rintro e w1 ⟨rfl, hb⟩; obtain ⟨q0, q1, q2, q3, q4, q5, q6, q7, q8, q9, q10, q11, q12, q13, q14, q15, q16, q17⟩ := kp18 hb q0 q1 q2 q3 q4 q5 q6 q7 q8 q9 q10 q11 q12 q13 q14 q15 q16 q17; clear hb) | (go_at_call 85; refine (tPatch _ _ _ _ _ _ _).mono ?_; rintro e w1 ⟨rfl, hb⟩; obtain ⟨q0, q1, q2, q3, q4, q5, q6, q7, q8, q9, q10, q11, q12, q13, q14, q15, q16, q17⟩ := kp18 hb q0 q1 q2 q3 q4 q5 q6 q7 q8 q9 q10 q11 q12 q13 q14 q15 q16 q17; clear hb) | (go_at_call 88; refine (tLess _ V U a b c p m o a2 b2 c2 p2 m2 o2 ⟨q0, q1, q2, q3, q4, q5, q6, q7, q8, q9, q10, q11, Below.refl _ _⟩ hp rel hr).mono ?_; rintro e w2 ⟨rfl, hb⟩; rw [hlt]; obtain ⟨q0, q1, q2, q3, q4, q5, q6, q7, q8, q9, q10, q11, q12, q13, q14, q15, q16, q17⟩ := kp18 hb q0 q1 q2 q3 q4 q5 q6 q7 q8 q9 q10 q11 q12 q13 q14 q15 q16 q17; clear hb) | (go_at_call 28; refine (tErr _ _).mono ?_; rintro e w3 ⟨t3, a3, rfl, hb⟩; obtain ⟨q0, q1, q2, q3, q4, q5, q6, q7, q8, q9, q10, q11, q12, q13, q14, q15, q16, q17⟩ := kp18 hb q0 q1 q2 q3 q4 q5 q6 q7 q8 q9 q10 q11 q12 q13 q14 q15 q16 q17; clear hb))
    go_ret2
    refine ret_bool (r := res) ?_ (by assumption)
    rw [← HRES.out, caretR, if_pos (of_decide_eq_true HLT.out)]
end Go.Proofs.YtnamjojceadgdaaGreatDoor.Sv
end
section
set_option linter.unusedVariables false
set_option linter.unusedSimpArgs false
/- the plain law: the next versions against the operators -/
namespace Go.Proofs.YtnamjojceadgdaaGreatDoor.Sv
open Go Go.RowKit Rx
def tildeR (a b c a2 b2 c2 : Nat) (rel md pd : Bool) : Bool := if cmpRel a b c a2 b2 c2 rel < 0 then false else if a2 = 0 ∧ b2 = 0 ∧ c2 = 0 ∧ md = false ∧ pd = false then true else if a ≠ a2 then false else if b ≠ b2 ∧ md = false then false else true
theorem seg_eq (x : Nat) : seg x x = 0 := by unfold seg; rw [if_neg (by omega), if_neg (by omega)]
end Go.Proofs.YtnamjojceadgdaaGreatDoor.Sv
end
