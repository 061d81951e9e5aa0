/- a part of the proof: FnSemverBroken: for every list of lists of terms, every style and every byte the law's function returns true and leaves its arguments as they were. No condition is added: the statement is the given one, the tied card. -/
import Derived.Test.YthejepmnnpmdmaaGreatDoorNG
import Derived.Deep.QuietTactic
import Derived.Test.YthejepmnnpmdmaaGreatDoorNF
import Derived.Test.YthejepmnnpmdmaaGreatDoorNB
import Derived.Deep.CutRange
section
set_option linter.unusedVariables false
set_option linter.unusedSimpArgs false
/- parseConstraint where numbers are missing or wildcards -/
namespace Go.Proofs.YthejepmnnpmdmaaGreatDoor.Sv
open Go Go.RowKit Rx
set_option maxRecDepth 100000
theorem bdN (w : World) (n : Nat) : Below w.heap.size w (w.drewN n) := ⟨rfl, rfl, rfl, Nat.le_refl _, fun _ _ => rfl⟩
set_option maxHeartbeats 4000000 in
theorem t44a (x : Tm) {L RR : Bs} {s : ByteArray} (hs : s.size ≤ 1000) (hx : x.Ok) (ht : s.data.toList = L ++ (x.text ++ RR)) (hL : ∀ y ∈ L, ws y = true) (hR : ∀ y ∈ RR, ws y = true) (h0 : x.op = [] → x.blank = [])
    (x1 : isXb x.ver.p1 = true) (a b c : Nat) (pre me : Bs) (hv : Reads ([48, 46, 48, 46, 48] ++ gtext 45 x.ver.pre) a b c pre me) (w : World) (hT : Lib.Utf8Tabs 11 12 w) :
    Calls Tryz.prog 31 #[.string s] w fun e w' => ∃ C V, e = .returned (.tuple #[.pointer (some ⟨C, 0, none⟩), .nilIface]) ∧ w.heap.size ≤ C ∧ w.heap.size ≤ V ∧ ConAt w' C V x.ver.text x.op false true false ∧ VerAt w' V a b c pre me ([48, 46, 48, 46, 48] ++ gtext 45 x.ver.pre) ∧ Below w.heap.size w w' := by
  have hsz : L.length + (x.text.length + RR.length) = s.size := by rw [← list_size, ht]; simp
  have hxp := tm_pos hx
  have hlen : x.ver.p1.length + ((ptext x.ver.p2).length + ((ptext x.ver.p3).length + (gtext 45 x.ver.pre).length)) ≤ x.text.length := by
    rw [Tm.text, Ver.text]; simp; omega
  have hp1 : (bytesOf x.ver.p1).toList.isEmpty = false := by
    rw [bytesOf_toList]
    have := hx.ver.p1.1
    cases h : x.ver.p1 with
    | nil => exact absurd h this
    | cons y l => rfl
  have k0 : (0 : Int) < (s.size : Int) := by omega
  have H61 := Lib.hid (fun (w : World) (R PB IB icap : Nat) (hp : PG w R PB IB icap conT) (hr : RH w R PB 4 1 24 1 11) (hT : Lib.Utf8Tabs 11 12 w) => conM (s := s) hp hr hT hs hx ht hL hR h0)
  have HT := Lib.hid hT
  have sz1 : (bytesOf x.ver.p1).size < 2000 := by rw [bytesOf_size]; omega
  have sz6 : (bytesOf (gtext 45 x.ver.pre)).size < 2000 := by rw [bytesOf_size]; omega
  have HX1 := Lib.hid (fun w => tIsXb x.ver.p1 w)
  rw [x1] at HX1
  have hst : ⟨#[48, 46, 48, 46, 48]⟩ ++ bytesOf (gtext 45 x.ver.pre) = bytesOf ([48, 46, 48, 46, 48] ++ gtext 45 x.ver.pre) := by
    rw [show (⟨#[48, 46, 48, 46, 48]⟩ : ByteArray) = bytesOf [48, 46, 48, 46, 48] from rfl]
    simp only [bytes_app]
  have HST := Lib.hid hst
  have HV := Lib.hid hv
  have q := q52
  clear hx ht hL hR h0 x1 hv hT hsz hxp hlen hs hst
  generalize hp2 : ptext x.ver.p2 = y2 at *
  generalize hp3 : ptext x.ver.p3 = y3 at *
  clear hp2 hp3
  generalize ([48, 46, 48, 46, 48] ++ gtext 45 x.ver.pre) = vt at *
  generalize x.ver.text = yt at *
  generalize x.ver.p1 = r1 at *
  generalize x.op = op at *
  generalize gtext 45 x.ver.pre = g6 at *
  go_enter Tryz.func31, Tryz.ntmps31
  go_wp2_with (first
    | (go_at_call 44; refine (t60 w).mono ?_; rintro e w1 ⟨R, PB, IB, icap, rfl, hp, hr, hb⟩; have HP := Lib.hid (And.intro hp (And.intro hr (And.intro (Utf8Tabs_below HT.out hb) hb))); clear hp hr hb)
    | (go_at_call 45; refine (H61.out _ _ _ _ _ HP.out.1 HP.out.2.1 HP.out.2.2.1).mono ?_; rintro e w2 ⟨hb2, f, ⟨bp, rfl, h1, h2⟩, e1, e2, e3, e4, e5, e6⟩; have c1 := piece_cell h2 1 (by decide); have c2 := piece_cell h2 2 (by decide); have c3 := piece_cell h2 3 (by decide); have c4 := piece_cell h2 4 (by decide); have c5 := piece_cell h2 5 (by decide); have c6 := piece_cell h2 6 (by decide); rw [e1] at c1; rw [e2] at c2; rw [e3] at c3; rw [e4] at c4; rw [e5] at c5; rw [e6] at c6; have HB2 := Lib.hid (And.intro h1 (And.intro h2 (HP.out.2.2.2.trans (hb2.mono HP.out.2.2.2.size)))); clear hb2 h1 h2 e1 e2 e3 e4 e5 e6))
  go_region
  have hst : CAt w w2.heap.size bp #[.pointer none, .string (bytesOf yt), .string (bytesOf op), .bool false, .bool false, .bool false] (strs ((List.range 12).map f)) ((w2.alloc (.cells #[.pointer none, .string (bytesOf yt), .string (bytesOf op), .bool false, .bool false, .bool false] 68)).drew) := by
    obtain ⟨k1, k2, k3⟩ := HB2.out
    exact ⟨heap_alloc_new w2 _, (Below.heap_alloc w2 _ bp (Array.getElem?_eq_some_iff.1 k2).1).trans k2, (k3.alloc k3.size _).drew, k3.size⟩
  have e2 : (strs ((List.range 12).map f))[2]? = some (.string (bytesOf yt)) := by rw [← c2, cell_of_row _ _ _ _ _ _ HB2.out.2.1]
  have e3 : (strs ((List.range 12).map f))[3]? = some (.string (bytesOf r1)) := by rw [← c3, cell_of_row _ _ _ _ _ _ HB2.out.2.1]
  have e4 : (strs ((List.range 12).map f))[4]? = some (.string (bytesOf y2)) := by rw [← c4, cell_of_row _ _ _ _ _ _ HB2.out.2.1]
  have e5 : (strs ((List.range 12).map f))[5]? = some (.string (bytesOf y3)) := by rw [← c5, cell_of_row _ _ _ _ _ _ HB2.out.2.1]
  have e6 : (strs ((List.range 12).map f))[6]? = some (.string (bytesOf g6)) := by rw [← c6, cell_of_row _ _ _ _ _ _ HB2.out.2.1]
  clear c1 c2 c3 c4 c5 c6
  generalize (w2.alloc (.cells #[.pointer none, .string (bytesOf yt), .string (bytesOf op), .bool false, .bool false, .bool false] 68)).drew = W3 at *
  generalize strs ((List.range 12).map f) = ps at *
  generalize w2.heap.size = C at *
  have HS := Lib.hid hst
  have c2 := hst.piece 2 _ e2
  have c3 := hst.piece 3 _ e3
  have c4 := hst.piece 4 _ e4
  have c5 := hst.piece 5 _ e5
  have c6 := hst.piece 6 _ e6
  clear hst e2 e3 e4 e5 e6
  go_upto_region 21 with (first
    | (go_at_call 46; first | ((with_reducible refine (HX1.out _).mono ?_); rintro e w6 ⟨rfl, hw⟩; subst hw))
    | go_in)
  rw [HST.out]
  clear c2 c3 c4 c5 c6  k0
  have HU := Lib.hid (Utf8Tabs_below HT.out HS.out.b)
  go_wp2_with (go_at_call 48; refine (HV.out _ HU.out).mono ?_; rintro e w7 ⟨V, rfl, hVs, hVa, hb7⟩; have hst4 := HS.out.keep hb7; have HS4 := Lib.hid hst4; have HW := Lib.hid (And.intro hVs hVa); have v0 := hst4.cell 0 _ rfl; have v3 := hst4.cell 3 _ rfl; have v4 := hst4.cell 4 _ rfl; have v5 := hst4.cell 5 _ rfl; have z0 := hst4.fz 0; have z3 := hst4.fz 3; have z4 := hst4.fz 4; have z5 := hst4.fz 5; clear hb7 hst4 hVs hVa)
  go_ret2
  have hfin := (((HS4.out.store 0 (.pointer (some ⟨V, 0, none⟩))).store 3 (.bool false)).store 5 (.bool false)).store 4 (.bool true)
  have hne : V ≠ C := typ_ne HW.out.2 HS4.out.v (by decide)
  refine ⟨C, V, rfl, hfin.h, Nat.le_trans HS.out.b.size HW.out.1, hfin.v, ?_, hfin.b⟩
  unfold VerAt
  rw [heap_setCell_other _ _ _ _ hne, heap_setCell_other _ _ _ _ hne, heap_setCell_other _ _ _ _ hne, heap_setCell_other _ _ _ _ hne]
  exact HW.out.2
set_option maxHeartbeats 4000000 in
theorem t44b0 (x : Tm) {L RR : Bs} {s : ByteArray} (hs : s.size ≤ 1000) (hx : x.Ok) (ht : s.data.toList = L ++ (x.text ++ RR)) (hL : ∀ y ∈ L, ws y = true) (hR : ∀ y ∈ RR, ws y = true) (h0 : x.op = [] → x.blank = [])
    (h2 : x.ver.p2 = none) (h3 : x.ver.p3 = none) (x1 : isXb x.ver.p1 = false) (a b c : Nat) (pre me : Bs) (hv : Reads (x.ver.p1 ++ [46, 48, 46, 48] ++ gtext 45 x.ver.pre) a b c pre me) (w : World) (hT : Lib.Utf8Tabs 11 12 w) :
    Calls Tryz.prog 31 #[.string s] w fun e w' => ∃ C V, e = .returned (.tuple #[.pointer (some ⟨C, 0, none⟩), .nilIface]) ∧ w.heap.size ≤ C ∧ w.heap.size ≤ V ∧ ConAt w' C V x.ver.text x.op true true false ∧ VerAt w' V a b c pre me (x.ver.p1 ++ [46, 48, 46, 48] ++ gtext 45 x.ver.pre) ∧ Below w.heap.size w w' := by
  have hsz : L.length + (x.text.length + RR.length) = s.size := by rw [← list_size, ht]; simp
  have hxp := tm_pos hx
  have hlen : x.ver.p1.length + ((ptext x.ver.p2).length + ((ptext x.ver.p3).length + (gtext 45 x.ver.pre).length)) ≤ x.text.length := by
    rw [Tm.text, Ver.text]; simp; omega
  have hp1 : (bytesOf x.ver.p1).toList.isEmpty = false := by
    rw [bytesOf_toList]
    have := hx.ver.p1.1
    cases h : x.ver.p1 with
    | nil => exact absurd h this
    | cons y l => rfl
  have k0 : (0 : Int) < (s.size : Int) := by omega
  have H61 := Lib.hid (fun (w : World) (R PB IB icap : Nat) (hp : PG w R PB IB icap conT) (hr : RH w R PB 4 1 24 1 11) (hT : Lib.Utf8Tabs 11 12 w) => conM (s := s) hp hr hT hs hx ht hL hR h0)
  have HT := Lib.hid hT
  have sz1 : (bytesOf x.ver.p1).size < 2000 := by rw [bytesOf_size]; omega
  have sz6 : (bytesOf (gtext 45 x.ver.pre)).size < 2000 := by rw [bytesOf_size]; omega
  have HX1 := Lib.hid (fun w => tIsXb x.ver.p1 w)
  rw [x1] at HX1
  have sz2 : (bytesOf (ptext x.ver.p2)).size < 2000 := by rw [bytesOf_size]; omega
  rw [h2, h3] at H61
  rw [h2] at sz2
  have HTa := Lib.hid (fun w => tTrimDot [] (.inl rfl) (by simp) w)
  have HX2 := Lib.hid (fun w => tIsXb [] w)
  rw [show isXb [] = false from rfl] at HX2
  have hst : (bytesOf x.ver.p1 ++ ⟨#[46, 48, 46, 48]⟩) ++ bytesOf (gtext 45 x.ver.pre) = bytesOf (x.ver.p1 ++ [46, 48, 46, 48] ++ gtext 45 x.ver.pre) := by
    rw [show (⟨#[46, 48, 46, 48]⟩ : ByteArray) = bytesOf [46, 48, 46, 48] from rfl]
    simp only [bytes_app]
  have HST := Lib.hid hst
  have HV := Lib.hid hv
  have q := q52
  clear hx ht hL hR h0 h2 h3 x1 hv hT hsz hxp hlen hs hst
  simp only [ptext] at H61 sz2
  generalize (x.ver.p1 ++ [46, 48, 46, 48] ++ gtext 45 x.ver.pre) = vt at *
  generalize x.ver.text = yt at *
  generalize x.ver.p1 = r1 at *
  generalize x.op = op at *
  generalize gtext 45 x.ver.pre = g6 at *
  go_enter Tryz.func31, Tryz.ntmps31
  go_wp2_with (first
    | (go_at_call 44; refine (t60 w).mono ?_; rintro e w1 ⟨R, PB, IB, icap, rfl, hp, hr, hb⟩; have HP := Lib.hid (And.intro hp (And.intro hr (And.intro (Utf8Tabs_below HT.out hb) hb))); clear hp hr hb)
    | (go_at_call 45; refine (H61.out _ _ _ _ _ HP.out.1 HP.out.2.1 HP.out.2.2.1).mono ?_; rintro e w2 ⟨hb2, f, ⟨bp, rfl, h1, h2⟩, e1, e2, e3, e4, e5, e6⟩; have c1 := piece_cell h2 1 (by decide); have c2 := piece_cell h2 2 (by decide); have c3 := piece_cell h2 3 (by decide); have c4 := piece_cell h2 4 (by decide); have c5 := piece_cell h2 5 (by decide); have c6 := piece_cell h2 6 (by decide); rw [e1] at c1; rw [e2] at c2; rw [e3] at c3; rw [e4] at c4; rw [e5] at c5; rw [e6] at c6; have HB2 := Lib.hid (And.intro h1 (And.intro h2 (HP.out.2.2.2.trans (hb2.mono HP.out.2.2.2.size)))); clear hb2 h1 h2 e1 e2 e3 e4 e5 e6))
  go_region
  have hst : CAt w w2.heap.size bp #[.pointer none, .string (bytesOf yt), .string (bytesOf op), .bool false, .bool false, .bool false] (strs ((List.range 12).map f)) ((w2.alloc (.cells #[.pointer none, .string (bytesOf yt), .string (bytesOf op), .bool false, .bool false, .bool false] 68)).drew) := by
    obtain ⟨k1, k2, k3⟩ := HB2.out
    exact ⟨heap_alloc_new w2 _, (Below.heap_alloc w2 _ bp (Array.getElem?_eq_some_iff.1 k2).1).trans k2, (k3.alloc k3.size _).drew, k3.size⟩
  have e2 : (strs ((List.range 12).map f))[2]? = some (.string (bytesOf yt)) := by rw [← c2, cell_of_row _ _ _ _ _ _ HB2.out.2.1]
  have e3 : (strs ((List.range 12).map f))[3]? = some (.string (bytesOf r1)) := by rw [← c3, cell_of_row _ _ _ _ _ _ HB2.out.2.1]
  have e4 : (strs ((List.range 12).map f))[4]? = some (.string (bytesOf [])) := by rw [← c4, cell_of_row _ _ _ _ _ _ HB2.out.2.1]
  have e5 : (strs ((List.range 12).map f))[5]? = some (.string (bytesOf [])) := by rw [← c5, cell_of_row _ _ _ _ _ _ HB2.out.2.1]
  have e6 : (strs ((List.range 12).map f))[6]? = some (.string (bytesOf g6)) := by rw [← c6, cell_of_row _ _ _ _ _ _ HB2.out.2.1]
  clear c1 c2 c3 c4 c5 c6
  generalize (w2.alloc (.cells #[.pointer none, .string (bytesOf yt), .string (bytesOf op), .bool false, .bool false, .bool false] 68)).drew = W3 at *
  generalize strs ((List.range 12).map f) = ps at *
  generalize w2.heap.size = C at *
  have HS := Lib.hid hst
  have c2 := hst.piece 2 _ e2
  have c3 := hst.piece 3 _ e3
  have c4 := hst.piece 4 _ e4
  have c5 := hst.piece 5 _ e5
  have c6 := hst.piece 6 _ e6
  clear hst e2 e3 e4 e5 e6
  have n2 := bytesOf_toList []
  go_upto_region 16 with (first
    | (go_at_call 46; first | ((with_reducible refine (HX1.out _).mono ?_); rintro e w6 ⟨rfl, hw⟩; subst hw) | ((with_reducible refine (HX2.out _).mono ?_); rintro e w6 ⟨rfl, hw⟩; subst hw))
    | (go_at_call 47; first | ((with_reducible refine (HTa.out _).mono ?_); rintro e w6 ⟨rfl, hw⟩; subst hw; rw [show ([] : Bs).tail = [] from rfl]))
    | go_in)
  go_quiet (fail)
  have hq := HS.out.keep (bdN _ nq)
  have HS := Lib.hid hq
  clear hq
  go_upto_region 21 with fail
  rw [HST.out]
  clear c2 c3 c4 c5 c6 n2 k0
  have HU := Lib.hid (Utf8Tabs_below HT.out HS.out.b)
  go_wp2_with (go_at_call 48; refine (HV.out _ HU.out).mono ?_; rintro e w7 ⟨V, rfl, hVs, hVa, hb7⟩; have hst4 := HS.out.keep hb7; have HS4 := Lib.hid hst4; have HW := Lib.hid (And.intro hVs hVa); have v0 := hst4.cell 0 _ rfl; have v3 := hst4.cell 3 _ rfl; have v4 := hst4.cell 4 _ rfl; have v5 := hst4.cell 5 _ rfl; have z0 := hst4.fz 0; have z3 := hst4.fz 3; have z4 := hst4.fz 4; have z5 := hst4.fz 5; clear hb7 hst4 hVs hVa)
  go_ret2
  have hfin := (((HS4.out.store 0 (.pointer (some ⟨V, 0, none⟩))).store 3 (.bool true)).store 5 (.bool false)).store 4 (.bool true)
  have hne : V ≠ C := typ_ne HW.out.2 HS4.out.v (by decide)
  refine ⟨C, V, rfl, hfin.h, Nat.le_trans HS.out.b.size HW.out.1, hfin.v, ?_, hfin.b⟩
  unfold VerAt
  rw [heap_setCell_other _ _ _ _ hne, heap_setCell_other _ _ _ _ hne, heap_setCell_other _ _ _ _ hne, heap_setCell_other _ _ _ _ hne]
  exact HW.out.2
set_option maxHeartbeats 4000000 in
theorem t44b1 (x : Tm) {L RR : Bs} {s : ByteArray} (hs : s.size ≤ 1000) (hx : x.Ok) (ht : s.data.toList = L ++ (x.text ++ RR)) (hL : ∀ y ∈ L, ws y = true) (hR : ∀ y ∈ RR, ws y = true) (h0 : x.op = [] → x.blank = [])
    (r2 : Bs) (h2 : x.ver.p2 = some r2) (x1 : isXb x.ver.p1 = false) (x2 : isXb r2 = true) (a b c : Nat) (pre me : Bs) (hv : Reads (x.ver.p1 ++ [46, 48, 46, 48] ++ gtext 45 x.ver.pre) a b c pre me) (w : World) (hT : Lib.Utf8Tabs 11 12 w) :
    Calls Tryz.prog 31 #[.string s] w fun e w' => ∃ C V, e = .returned (.tuple #[.pointer (some ⟨C, 0, none⟩), .nilIface]) ∧ w.heap.size ≤ C ∧ w.heap.size ≤ V ∧ ConAt w' C V x.ver.text x.op true true false ∧ VerAt w' V a b c pre me (x.ver.p1 ++ [46, 48, 46, 48] ++ gtext 45 x.ver.pre) ∧ Below w.heap.size w w' := by
  have hsz : L.length + (x.text.length + RR.length) = s.size := by rw [← list_size, ht]; simp
  have hxp := tm_pos hx
  have hlen : x.ver.p1.length + ((ptext x.ver.p2).length + ((ptext x.ver.p3).length + (gtext 45 x.ver.pre).length)) ≤ x.text.length := by
    rw [Tm.text, Ver.text]; simp; omega
  have hp1 : (bytesOf x.ver.p1).toList.isEmpty = false := by
    rw [bytesOf_toList]
    have := hx.ver.p1.1
    cases h : x.ver.p1 with
    | nil => exact absurd h this
    | cons y l => rfl
  have k0 : (0 : Int) < (s.size : Int) := by omega
  have H61 := Lib.hid (fun (w : World) (R PB IB icap : Nat) (hp : PG w R PB IB icap conT) (hr : RH w R PB 4 1 24 1 11) (hT : Lib.Utf8Tabs 11 12 w) => conM (s := s) hp hr hT hs hx ht hL hR h0)
  have HT := Lib.hid hT
  have sz1 : (bytesOf x.ver.p1).size < 2000 := by rw [bytesOf_size]; omega
  have sz6 : (bytesOf (gtext 45 x.ver.pre)).size < 2000 := by rw [bytesOf_size]; omega
  have HX1 := Lib.hid (fun w => tIsXb x.ver.p1 w)
  rw [x1] at HX1
  have sz2 : (bytesOf (ptext x.ver.p2)).size < 2000 := by rw [bytesOf_size]; omega
  rw [h2] at H61
  rw [h2] at sz2
  have hl2 : r2.length < 1000 := by rw [h2] at hlen; simp [ptext] at hlen; omega
  have HTa := Lib.hid (fun w => tTrimDot (46 :: r2) (.inr ⟨_, rfl⟩) (by simp; omega) w)
  have HX2 := Lib.hid (fun w => tIsXb r2 w)
  rw [x2] at HX2
  clear hl2
  have hst : (bytesOf x.ver.p1 ++ ⟨#[46, 48, 46, 48]⟩) ++ bytesOf (gtext 45 x.ver.pre) = bytesOf (x.ver.p1 ++ [46, 48, 46, 48] ++ gtext 45 x.ver.pre) := by
    rw [show (⟨#[46, 48, 46, 48]⟩ : ByteArray) = bytesOf [46, 48, 46, 48] from rfl]
    simp only [bytes_app]
  have HST := Lib.hid hst
  have HV := Lib.hid hv
  have q := q52
  clear hx ht hL hR h0 h2 x1 x2 hv hT hsz hxp hlen hs hst
  generalize hp3 : ptext x.ver.p3 = y3 at *
  clear hp3
  simp only [ptext] at H61 sz2
  generalize (x.ver.p1 ++ [46, 48, 46, 48] ++ gtext 45 x.ver.pre) = vt at *
  generalize x.ver.text = yt at *
  generalize x.ver.p1 = r1 at *
  generalize x.op = op at *
  generalize gtext 45 x.ver.pre = g6 at *
  go_enter Tryz.func31, Tryz.ntmps31
  go_wp2_with (first
    | (go_at_call 44; refine (t60 w).mono ?_; rintro e w1 ⟨R, PB, IB, icap, rfl, hp, hr, hb⟩; have HP := Lib.hid (And.intro hp (And.intro hr (And.intro (Utf8Tabs_below HT.out hb) hb))); clear hp hr hb)
    | (go_at_call 45; refine (H61.out _ _ _ _ _ HP.out.1 HP.out.2.1 HP.out.2.2.1).mono ?_; rintro e w2 ⟨hb2, f, ⟨bp, rfl, h1, h2⟩, e1, e2, e3, e4, e5, e6⟩; have c1 := piece_cell h2 1 (by decide); have c2 := piece_cell h2 2 (by decide); have c3 := piece_cell h2 3 (by decide); have c4 := piece_cell h2 4 (by decide); have c5 := piece_cell h2 5 (by decide); have c6 := piece_cell h2 6 (by decide); rw [e1] at c1; rw [e2] at c2; rw [e3] at c3; rw [e4] at c4; rw [e5] at c5; rw [e6] at c6; have HB2 := Lib.hid (And.intro h1 (And.intro h2 (HP.out.2.2.2.trans (hb2.mono HP.out.2.2.2.size)))); clear hb2 h1 h2 e1 e2 e3 e4 e5 e6))
  go_region
  have hst : CAt w w2.heap.size bp #[.pointer none, .string (bytesOf yt), .string (bytesOf op), .bool false, .bool false, .bool false] (strs ((List.range 12).map f)) ((w2.alloc (.cells #[.pointer none, .string (bytesOf yt), .string (bytesOf op), .bool false, .bool false, .bool false] 68)).drew) := by
    obtain ⟨k1, k2, k3⟩ := HB2.out
    exact ⟨heap_alloc_new w2 _, (Below.heap_alloc w2 _ bp (Array.getElem?_eq_some_iff.1 k2).1).trans k2, (k3.alloc k3.size _).drew, k3.size⟩
  have e2 : (strs ((List.range 12).map f))[2]? = some (.string (bytesOf yt)) := by rw [← c2, cell_of_row _ _ _ _ _ _ HB2.out.2.1]
  have e3 : (strs ((List.range 12).map f))[3]? = some (.string (bytesOf r1)) := by rw [← c3, cell_of_row _ _ _ _ _ _ HB2.out.2.1]
  have e4 : (strs ((List.range 12).map f))[4]? = some (.string (bytesOf (46 :: r2))) := by rw [← c4, cell_of_row _ _ _ _ _ _ HB2.out.2.1]
  have e5 : (strs ((List.range 12).map f))[5]? = some (.string (bytesOf y3)) := by rw [← c5, cell_of_row _ _ _ _ _ _ HB2.out.2.1]
  have e6 : (strs ((List.range 12).map f))[6]? = some (.string (bytesOf g6)) := by rw [← c6, cell_of_row _ _ _ _ _ _ HB2.out.2.1]
  clear c1 c2 c3 c4 c5 c6
  generalize (w2.alloc (.cells #[.pointer none, .string (bytesOf yt), .string (bytesOf op), .bool false, .bool false, .bool false] 68)).drew = W3 at *
  generalize strs ((List.range 12).map f) = ps at *
  generalize w2.heap.size = C at *
  have HS := Lib.hid hst
  have c2 := hst.piece 2 _ e2
  have c3 := hst.piece 3 _ e3
  have c4 := hst.piece 4 _ e4
  have c5 := hst.piece 5 _ e5
  have c6 := hst.piece 6 _ e6
  clear hst e2 e3 e4 e5 e6
  have n2 := bytesOf_toList (46 :: r2)
  go_upto_region 16 with (first
    | (go_at_call 46; first | ((with_reducible refine (HX1.out _).mono ?_); rintro e w6 ⟨rfl, hw⟩; subst hw) | ((with_reducible refine (HX2.out _).mono ?_); rintro e w6 ⟨rfl, hw⟩; subst hw))
    | (go_at_call 47; first | ((with_reducible refine (HTa.out _).mono ?_); rintro e w6 ⟨rfl, hw⟩; subst hw; rw [show ((46 :: r2) : Bs).tail = r2 from rfl]))
    | go_in)
  go_quiet (fail)
  have hq := HS.out.keep (bdN _ nq)
  have HS := Lib.hid hq
  clear hq
  go_upto_region 21 with fail
  rw [HST.out]
  clear c2 c3 c4 c5 c6 n2 k0
  have HU := Lib.hid (Utf8Tabs_below HT.out HS.out.b)
  go_wp2_with (go_at_call 48; refine (HV.out _ HU.out).mono ?_; rintro e w7 ⟨V, rfl, hVs, hVa, hb7⟩; have hst4 := HS.out.keep hb7; have HS4 := Lib.hid hst4; have HW := Lib.hid (And.intro hVs hVa); have v0 := hst4.cell 0 _ rfl; have v3 := hst4.cell 3 _ rfl; have v4 := hst4.cell 4 _ rfl; have v5 := hst4.cell 5 _ rfl; have z0 := hst4.fz 0; have z3 := hst4.fz 3; have z4 := hst4.fz 4; have z5 := hst4.fz 5; clear hb7 hst4 hVs hVa)
  go_ret2
  have hfin := (((HS4.out.store 0 (.pointer (some ⟨V, 0, none⟩))).store 3 (.bool true)).store 5 (.bool false)).store 4 (.bool true)
  have hne : V ≠ C := typ_ne HW.out.2 HS4.out.v (by decide)
  refine ⟨C, V, rfl, hfin.h, Nat.le_trans HS.out.b.size HW.out.1, hfin.v, ?_, hfin.b⟩
  unfold VerAt
  rw [heap_setCell_other _ _ _ _ hne, heap_setCell_other _ _ _ _ hne, heap_setCell_other _ _ _ _ hne, heap_setCell_other _ _ _ _ hne]
  exact HW.out.2
set_option maxHeartbeats 4000000 in
theorem t44c0 (x : Tm) {L RR : Bs} {s : ByteArray} (hs : s.size ≤ 1000) (hx : x.Ok) (ht : s.data.toList = L ++ (x.text ++ RR)) (hL : ∀ y ∈ L, ws y = true) (hR : ∀ y ∈ RR, ws y = true) (h0 : x.op = [] → x.blank = [])
    (r2 : Bs) (h2 : x.ver.p2 = some r2) (h3 : x.ver.p3 = none) (x1 : isXb x.ver.p1 = false) (x2 : isXb r2 = false) (a b c : Nat) (pre me : Bs) (hv : Reads (x.ver.p1 ++ 46 :: r2 ++ [46, 48] ++ gtext 45 x.ver.pre) a b c pre me) (w : World) (hT : Lib.Utf8Tabs 11 12 w) :
    Calls Tryz.prog 31 #[.string s] w fun e w' => ∃ C V, e = .returned (.tuple #[.pointer (some ⟨C, 0, none⟩), .nilIface]) ∧ w.heap.size ≤ C ∧ w.heap.size ≤ V ∧ ConAt w' C V x.ver.text x.op false true true ∧ VerAt w' V a b c pre me (x.ver.p1 ++ 46 :: r2 ++ [46, 48] ++ gtext 45 x.ver.pre) ∧ Below w.heap.size w w' := by
  have hsz : L.length + (x.text.length + RR.length) = s.size := by rw [← list_size, ht]; simp
  have hxp := tm_pos hx
  have hlen : x.ver.p1.length + ((ptext x.ver.p2).length + ((ptext x.ver.p3).length + (gtext 45 x.ver.pre).length)) ≤ x.text.length := by
    rw [Tm.text, Ver.text]; simp; omega
  have hp1 : (bytesOf x.ver.p1).toList.isEmpty = false := by
    rw [bytesOf_toList]
    have := hx.ver.p1.1
    cases h : x.ver.p1 with
    | nil => exact absurd h this
    | cons y l => rfl
  have k0 : (0 : Int) < (s.size : Int) := by omega
  have H61 := Lib.hid (fun (w : World) (R PB IB icap : Nat) (hp : PG w R PB IB icap conT) (hr : RH w R PB 4 1 24 1 11) (hT : Lib.Utf8Tabs 11 12 w) => conM (s := s) hp hr hT hs hx ht hL hR h0)
  have HT := Lib.hid hT
  have sz1 : (bytesOf x.ver.p1).size < 2000 := by rw [bytesOf_size]; omega
  have sz6 : (bytesOf (gtext 45 x.ver.pre)).size < 2000 := by rw [bytesOf_size]; omega
  have HX1 := Lib.hid (fun w => tIsXb x.ver.p1 w)
  rw [x1] at HX1
  have sz2 : (bytesOf (ptext x.ver.p2)).size < 2000 := by rw [bytesOf_size]; omega
  rw [h2, h3] at H61
  rw [h2] at sz2
  have hl2 : r2.length < 1000 := by rw [h2] at hlen; simp [ptext] at hlen; omega
  have HTa := Lib.hid (fun w => tTrimDot (46 :: r2) (.inr ⟨_, rfl⟩) (by simp; omega) w)
  have HX2 := Lib.hid (fun w => tIsXb r2 w)
  rw [x2] at HX2
  clear hl2
  have HTb := Lib.hid (fun w => tTrimDot [] (.inl rfl) (by simp) w)
  have HX3 := Lib.hid (fun w => tIsXb [] w)
  rw [show isXb [] = false from rfl] at HX3
  have hst : ((bytesOf x.ver.p1 ++ bytesOf (46 :: r2)) ++ ⟨#[46, 48]⟩) ++ bytesOf (gtext 45 x.ver.pre) = bytesOf (x.ver.p1 ++ 46 :: r2 ++ [46, 48] ++ gtext 45 x.ver.pre) := by
    rw [show (⟨#[46, 48]⟩ : ByteArray) = bytesOf [46, 48] from rfl]
    simp only [bytes_app]
  have HST := Lib.hid hst
  have HV := Lib.hid hv
  have q := q52
  clear hx ht hL hR h0 h2 h3 x1 x2 hv hT hsz hxp hlen hs hst
  simp only [ptext] at H61 sz2
  generalize (x.ver.p1 ++ 46 :: r2 ++ [46, 48] ++ gtext 45 x.ver.pre) = vt at *
  generalize x.ver.text = yt at *
  generalize x.ver.p1 = r1 at *
  generalize x.op = op at *
  generalize gtext 45 x.ver.pre = g6 at *
  go_enter Tryz.func31, Tryz.ntmps31
  go_wp2_with (first
    | (go_at_call 44; refine (t60 w).mono ?_; rintro e w1 ⟨R, PB, IB, icap, rfl, hp, hr, hb⟩; have HP := Lib.hid (And.intro hp (And.intro hr (And.intro (Utf8Tabs_below HT.out hb) hb))); clear hp hr hb)
    | (go_at_call 45; refine (H61.out _ _ _ _ _ HP.out.1 HP.out.2.1 HP.out.2.2.1).mono ?_; rintro e w2 ⟨hb2, f, ⟨bp, rfl, h1, h2⟩, e1, e2, e3, e4, e5, e6⟩; have c1 := piece_cell h2 1 (by decide); have c2 := piece_cell h2 2 (by decide); have c3 := piece_cell h2 3 (by decide); have c4 := piece_cell h2 4 (by decide); have c5 := piece_cell h2 5 (by decide); have c6 := piece_cell h2 6 (by decide); rw [e1] at c1; rw [e2] at c2; rw [e3] at c3; rw [e4] at c4; rw [e5] at c5; rw [e6] at c6; have HB2 := Lib.hid (And.intro h1 (And.intro h2 (HP.out.2.2.2.trans (hb2.mono HP.out.2.2.2.size)))); clear hb2 h1 h2 e1 e2 e3 e4 e5 e6))
  go_region
  have hst : CAt w w2.heap.size bp #[.pointer none, .string (bytesOf yt), .string (bytesOf op), .bool false, .bool false, .bool false] (strs ((List.range 12).map f)) ((w2.alloc (.cells #[.pointer none, .string (bytesOf yt), .string (bytesOf op), .bool false, .bool false, .bool false] 68)).drew) := by
    obtain ⟨k1, k2, k3⟩ := HB2.out
    exact ⟨heap_alloc_new w2 _, (Below.heap_alloc w2 _ bp (Array.getElem?_eq_some_iff.1 k2).1).trans k2, (k3.alloc k3.size _).drew, k3.size⟩
  have e2 : (strs ((List.range 12).map f))[2]? = some (.string (bytesOf yt)) := by rw [← c2, cell_of_row _ _ _ _ _ _ HB2.out.2.1]
  have e3 : (strs ((List.range 12).map f))[3]? = some (.string (bytesOf r1)) := by rw [← c3, cell_of_row _ _ _ _ _ _ HB2.out.2.1]
  have e4 : (strs ((List.range 12).map f))[4]? = some (.string (bytesOf (46 :: r2))) := by rw [← c4, cell_of_row _ _ _ _ _ _ HB2.out.2.1]
  have e5 : (strs ((List.range 12).map f))[5]? = some (.string (bytesOf [])) := by rw [← c5, cell_of_row _ _ _ _ _ _ HB2.out.2.1]
  have e6 : (strs ((List.range 12).map f))[6]? = some (.string (bytesOf g6)) := by rw [← c6, cell_of_row _ _ _ _ _ _ HB2.out.2.1]
  clear c1 c2 c3 c4 c5 c6
  generalize (w2.alloc (.cells #[.pointer none, .string (bytesOf yt), .string (bytesOf op), .bool false, .bool false, .bool false] 68)).drew = W3 at *
  generalize strs ((List.range 12).map f) = ps at *
  generalize w2.heap.size = C at *
  have HS := Lib.hid hst
  have c2 := hst.piece 2 _ e2
  have c3 := hst.piece 3 _ e3
  have c4 := hst.piece 4 _ e4
  have c5 := hst.piece 5 _ e5
  have c6 := hst.piece 6 _ e6
  clear hst e2 e3 e4 e5 e6
  have n2 := bytesOf_toList (46 :: r2)
  have n3 := bytesOf_toList []
  go_upto_region 20 with (first
    | (go_at_call 46; first | ((with_reducible refine (HX1.out _).mono ?_); rintro e w6 ⟨rfl, hw⟩; subst hw) | ((with_reducible refine (HX2.out _).mono ?_); rintro e w6 ⟨rfl, hw⟩; subst hw) | ((with_reducible refine (HX3.out _).mono ?_); rintro e w6 ⟨rfl, hw⟩; subst hw))
    | (go_at_call 47; first | ((with_reducible refine (HTa.out _).mono ?_); rintro e w6 ⟨rfl, hw⟩; subst hw; rw [show ((46 :: r2) : Bs).tail = r2 from rfl]) | ((with_reducible refine (HTb.out _).mono ?_); rintro e w6 ⟨rfl, hw⟩; subst hw; rw [show ([] : Bs).tail = [] from rfl]))
    | go_in)
  go_quiet (fail)
  have hq := HS.out.keep (bdN _ nq)
  have HS := Lib.hid hq
  clear hq
  go_upto_region 21 with fail
  rw [HST.out]
  clear c2 c3 c4 c5 c6 n2 n3 k0
  have HU := Lib.hid (Utf8Tabs_below HT.out HS.out.b)
  go_wp2_with (go_at_call 48; refine (HV.out _ HU.out).mono ?_; rintro e w7 ⟨V, rfl, hVs, hVa, hb7⟩; have hst4 := HS.out.keep hb7; have HS4 := Lib.hid hst4; have HW := Lib.hid (And.intro hVs hVa); have v0 := hst4.cell 0 _ rfl; have v3 := hst4.cell 3 _ rfl; have v4 := hst4.cell 4 _ rfl; have v5 := hst4.cell 5 _ rfl; have z0 := hst4.fz 0; have z3 := hst4.fz 3; have z4 := hst4.fz 4; have z5 := hst4.fz 5; clear hb7 hst4 hVs hVa)
  go_ret2
  have hfin := (((HS4.out.store 0 (.pointer (some ⟨V, 0, none⟩))).store 3 (.bool false)).store 5 (.bool true)).store 4 (.bool true)
  have hne : V ≠ C := typ_ne HW.out.2 HS4.out.v (by decide)
  refine ⟨C, V, rfl, hfin.h, Nat.le_trans HS.out.b.size HW.out.1, hfin.v, ?_, hfin.b⟩
  unfold VerAt
  rw [heap_setCell_other _ _ _ _ hne, heap_setCell_other _ _ _ _ hne, heap_setCell_other _ _ _ _ hne, heap_setCell_other _ _ _ _ hne]
  exact HW.out.2
set_option maxHeartbeats 4000000 in
theorem t44c1 (x : Tm) {L RR : Bs} {s : ByteArray} (hs : s.size ≤ 1000) (hx : x.Ok) (ht : s.data.toList = L ++ (x.text ++ RR)) (hL : ∀ y ∈ L, ws y = true) (hR : ∀ y ∈ RR, ws y = true) (h0 : x.op = [] → x.blank = [])
    (r2 r3 : Bs) (h2 : x.ver.p2 = some r2) (h3 : x.ver.p3 = some r3) (x1 : isXb x.ver.p1 = false) (x2 : isXb r2 = false) (x3 : isXb r3 = true) (a b c : Nat) (pre me : Bs) (hv : Reads (x.ver.p1 ++ 46 :: r2 ++ [46, 48] ++ gtext 45 x.ver.pre) a b c pre me) (w : World) (hT : Lib.Utf8Tabs 11 12 w) :
    Calls Tryz.prog 31 #[.string s] w fun e w' => ∃ C V, e = .returned (.tuple #[.pointer (some ⟨C, 0, none⟩), .nilIface]) ∧ w.heap.size ≤ C ∧ w.heap.size ≤ V ∧ ConAt w' C V x.ver.text x.op false true true ∧ VerAt w' V a b c pre me (x.ver.p1 ++ 46 :: r2 ++ [46, 48] ++ gtext 45 x.ver.pre) ∧ Below w.heap.size w w' := by
  have hsz : L.length + (x.text.length + RR.length) = s.size := by rw [← list_size, ht]; simp
  have hxp := tm_pos hx
  have hlen : x.ver.p1.length + ((ptext x.ver.p2).length + ((ptext x.ver.p3).length + (gtext 45 x.ver.pre).length)) ≤ x.text.length := by
    rw [Tm.text, Ver.text]; simp; omega
  have hp1 : (bytesOf x.ver.p1).toList.isEmpty = false := by
    rw [bytesOf_toList]
    have := hx.ver.p1.1
    cases h : x.ver.p1 with
    | nil => exact absurd h this
    | cons y l => rfl
  have k0 : (0 : Int) < (s.size : Int) := by omega
  have H61 := Lib.hid (fun (w : World) (R PB IB icap : Nat) (hp : PG w R PB IB icap conT) (hr : RH w R PB 4 1 24 1 11) (hT : Lib.Utf8Tabs 11 12 w) => conM (s := s) hp hr hT hs hx ht hL hR h0)
  have HT := Lib.hid hT
  have sz1 : (bytesOf x.ver.p1).size < 2000 := by rw [bytesOf_size]; omega
  have sz6 : (bytesOf (gtext 45 x.ver.pre)).size < 2000 := by rw [bytesOf_size]; omega
  have HX1 := Lib.hid (fun w => tIsXb x.ver.p1 w)
  rw [x1] at HX1
  have sz2 : (bytesOf (ptext x.ver.p2)).size < 2000 := by rw [bytesOf_size]; omega
  rw [h2, h3] at H61
  rw [h2] at sz2
  have hl2 : r2.length < 1000 := by rw [h2] at hlen; simp [ptext] at hlen; omega
  have HTa := Lib.hid (fun w => tTrimDot (46 :: r2) (.inr ⟨_, rfl⟩) (by simp; omega) w)
  have HX2 := Lib.hid (fun w => tIsXb r2 w)
  rw [x2] at HX2
  clear hl2
  have hl3 : r3.length < 1000 := by rw [h3] at hlen; simp [ptext] at hlen; omega
  have HTb := Lib.hid (fun w => tTrimDot (46 :: r3) (.inr ⟨_, rfl⟩) (by simp; omega) w)
  have HX3 := Lib.hid (fun w => tIsXb r3 w)
  rw [x3] at HX3
  clear hl3
  have hst : ((bytesOf x.ver.p1 ++ bytesOf (46 :: r2)) ++ ⟨#[46, 48]⟩) ++ bytesOf (gtext 45 x.ver.pre) = bytesOf (x.ver.p1 ++ 46 :: r2 ++ [46, 48] ++ gtext 45 x.ver.pre) := by
    rw [show (⟨#[46, 48]⟩ : ByteArray) = bytesOf [46, 48] from rfl]
    simp only [bytes_app]
  have HST := Lib.hid hst
  have HV := Lib.hid hv
  have q := q52
  clear hx ht hL hR h0 h2 h3 x1 x2 x3 hv hT hsz hxp hlen hs hst
  simp only [ptext] at H61 sz2
  generalize (x.ver.p1 ++ 46 :: r2 ++ [46, 48] ++ gtext 45 x.ver.pre) = vt at *
  generalize x.ver.text = yt at *
  generalize x.ver.p1 = r1 at *
  generalize x.op = op at *
  generalize gtext 45 x.ver.pre = g6 at *
  go_enter Tryz.func31, Tryz.ntmps31
  go_wp2_with (first
    | (go_at_call 44; refine (t60 w).mono ?_; rintro e w1 ⟨R, PB, IB, icap, rfl, hp, hr, hb⟩; have HP := Lib.hid (And.intro hp (And.intro hr (And.intro (Utf8Tabs_below HT.out hb) hb))); clear hp hr hb)
    | (go_at_call 45; refine (H61.out _ _ _ _ _ HP.out.1 HP.out.2.1 HP.out.2.2.1).mono ?_; rintro e w2 ⟨hb2, f, ⟨bp, rfl, h1, h2⟩, e1, e2, e3, e4, e5, e6⟩; have c1 := piece_cell h2 1 (by decide); have c2 := piece_cell h2 2 (by decide); have c3 := piece_cell h2 3 (by decide); have c4 := piece_cell h2 4 (by decide); have c5 := piece_cell h2 5 (by decide); have c6 := piece_cell h2 6 (by decide); rw [e1] at c1; rw [e2] at c2; rw [e3] at c3; rw [e4] at c4; rw [e5] at c5; rw [e6] at c6; have HB2 := Lib.hid (And.intro h1 (And.intro h2 (HP.out.2.2.2.trans (hb2.mono HP.out.2.2.2.size)))); clear hb2 h1 h2 e1 e2 e3 e4 e5 e6))
  go_region
  have hst : CAt w w2.heap.size bp #[.pointer none, .string (bytesOf yt), .string (bytesOf op), .bool false, .bool false, .bool false] (strs ((List.range 12).map f)) ((w2.alloc (.cells #[.pointer none, .string (bytesOf yt), .string (bytesOf op), .bool false, .bool false, .bool false] 68)).drew) := by
    obtain ⟨k1, k2, k3⟩ := HB2.out
    exact ⟨heap_alloc_new w2 _, (Below.heap_alloc w2 _ bp (Array.getElem?_eq_some_iff.1 k2).1).trans k2, (k3.alloc k3.size _).drew, k3.size⟩
  have e2 : (strs ((List.range 12).map f))[2]? = some (.string (bytesOf yt)) := by rw [← c2, cell_of_row _ _ _ _ _ _ HB2.out.2.1]
  have e3 : (strs ((List.range 12).map f))[3]? = some (.string (bytesOf r1)) := by rw [← c3, cell_of_row _ _ _ _ _ _ HB2.out.2.1]
  have e4 : (strs ((List.range 12).map f))[4]? = some (.string (bytesOf (46 :: r2))) := by rw [← c4, cell_of_row _ _ _ _ _ _ HB2.out.2.1]
  have e5 : (strs ((List.range 12).map f))[5]? = some (.string (bytesOf (46 :: r3))) := by rw [← c5, cell_of_row _ _ _ _ _ _ HB2.out.2.1]
  have e6 : (strs ((List.range 12).map f))[6]? = some (.string (bytesOf g6)) := by rw [← c6, cell_of_row _ _ _ _ _ _ HB2.out.2.1]
  clear c1 c2 c3 c4 c5 c6
  generalize (w2.alloc (.cells #[.pointer none, .string (bytesOf yt), .string (bytesOf op), .bool false, .bool false, .bool false] 68)).drew = W3 at *
  generalize strs ((List.range 12).map f) = ps at *
  generalize w2.heap.size = C at *
  have HS := Lib.hid hst
  have c2 := hst.piece 2 _ e2
  have c3 := hst.piece 3 _ e3
  have c4 := hst.piece 4 _ e4
  have c5 := hst.piece 5 _ e5
  have c6 := hst.piece 6 _ e6
  clear hst e2 e3 e4 e5 e6
  have n2 := bytesOf_toList (46 :: r2)
  have n3 := bytesOf_toList (46 :: r3)
  go_upto_region 20 with (first
    | (go_at_call 46; first | ((with_reducible refine (HX1.out _).mono ?_); rintro e w6 ⟨rfl, hw⟩; subst hw) | ((with_reducible refine (HX2.out _).mono ?_); rintro e w6 ⟨rfl, hw⟩; subst hw) | ((with_reducible refine (HX3.out _).mono ?_); rintro e w6 ⟨rfl, hw⟩; subst hw))
    | (go_at_call 47; first | ((with_reducible refine (HTa.out _).mono ?_); rintro e w6 ⟨rfl, hw⟩; subst hw; rw [show ((46 :: r2) : Bs).tail = r2 from rfl]) | ((with_reducible refine (HTb.out _).mono ?_); rintro e w6 ⟨rfl, hw⟩; subst hw; rw [show ((46 :: r3) : Bs).tail = r3 from rfl]))
    | go_in)
  go_quiet (fail)
  have hq := HS.out.keep (bdN _ nq)
  have HS := Lib.hid hq
  clear hq
  go_upto_region 21 with fail
  rw [HST.out]
  clear c2 c3 c4 c5 c6 n2 n3 k0
  have HU := Lib.hid (Utf8Tabs_below HT.out HS.out.b)
  go_wp2_with (go_at_call 48; refine (HV.out _ HU.out).mono ?_; rintro e w7 ⟨V, rfl, hVs, hVa, hb7⟩; have hst4 := HS.out.keep hb7; have HS4 := Lib.hid hst4; have HW := Lib.hid (And.intro hVs hVa); have v0 := hst4.cell 0 _ rfl; have v3 := hst4.cell 3 _ rfl; have v4 := hst4.cell 4 _ rfl; have v5 := hst4.cell 5 _ rfl; have z0 := hst4.fz 0; have z3 := hst4.fz 3; have z4 := hst4.fz 4; have z5 := hst4.fz 5; clear hb7 hst4 hVs hVa)
  go_ret2
  have hfin := (((HS4.out.store 0 (.pointer (some ⟨V, 0, none⟩))).store 3 (.bool false)).store 5 (.bool true)).store 4 (.bool true)
  have hne : V ≠ C := typ_ne HW.out.2 HS4.out.v (by decide)
  refine ⟨C, V, rfl, hfin.h, Nat.le_trans HS.out.b.size HW.out.1, hfin.v, ?_, hfin.b⟩
  unfold VerAt
  rw [heap_setCell_other _ _ _ _ hne, heap_setCell_other _ _ _ _ hne, heap_setCell_other _ _ _ _ hne, heap_setCell_other _ _ _ _ hne]
  exact HW.out.2
end Go.Proofs.YthejepmnnpmdmaaGreatDoor.Sv
end
section
set_option linter.unusedVariables false
set_option linter.unusedSimpArgs false
/- terms in any of their ways -/
namespace Go.Proofs.YthejepmnnpmdmaaGreatDoor.Sv
open Go Go.RowKit Rx
set_option maxRecDepth 100000
structure GT where
  op : Bs
  blank : Bs
  g : Nat
  v : Bool
  z1 : Bool
  z2 : Bool
  z3 : Bool
  w1 : Bs
  w2 : Option Bs
  w3 : Option Bs
  a : Nat
  b : Nat
  c : Nat
  pre : Bs
  mt : Bool
def num (z : Bool) (a : Nat) : Bs := (if z then [48] else []) ++ Lib.decDigits a
def pgrp (p : Bs) : Option (Bs × List Bs) := if p = [] then none else match idents p with
  | [] => none
  | x :: r => some (x, r)
def mgrp (m : Bool) : Option (Bs × List Bs) := if m then some ([98], [[48, 49]]) else none
def GT.ver (t : GT) : Ver := match t.g with
  | 0 => ⟨t.v, t.w1, t.w2, t.w3, none, none⟩
  | 1 => ⟨t.v, num t.z1 t.a, t.w2, t.w3, none, none⟩
  | 2 => ⟨t.v, num t.z1 t.a, some (num t.z2 t.b), t.w3, none, none⟩
  | _ => ⟨t.v, num t.z1 t.a, some (num t.z2 t.b), some (num t.z3 t.c), pgrp t.pre, mgrp t.mt⟩
def GT.tm (t : GT) : Tm := ⟨t.op, t.blank, t.ver⟩
def GT.td (t : GT) : TD := match t.g with
  | 0 => ⟨t.op, t.ver.text, false, true, false, 0, 0, 0, [], [], [48, 46, 48, 46, 48]⟩
  | 1 => ⟨t.op, t.ver.text, true, true, false, t.a, 0, 0, [], [], num t.z1 t.a ++ [46, 48, 46, 48]⟩
  | 2 => ⟨t.op, t.ver.text, false, true, true, t.a, t.b, 0, [], [], num t.z1 t.a ++ 46 :: num t.z2 t.b ++ [46, 48]⟩
  | _ => ⟨t.op, t.ver.text, false, false, false, t.a, t.b, t.c, t.pre, gpre (mgrp t.mt), t.ver.text⟩
def wildB (w : Bs) : Prop := w = [120] ∨ w = [88] ∨ w = [42]
structure GT.Ok (t : GT) : Prop where
  op : t.op ∈ opTexts
  blank : ∀ y ∈ t.blank, ws y = true
  ob : t.op = [] → t.blank = []
  bl : t.blank.length ≤ 2
  a : t.a < 18446744073709551616
  b : t.b < 18446744073709551616
  c : t.c < 18446744073709551616
  w1 : wildB t.w1
  w2 : ∀ y, t.w2 = some y → wildB y
  w3 : ∀ y, t.w3 = some y → wildB y
  w23 : t.g ≤ 1 → t.w2 = none → t.w3 = none
  pre : t.pre = [] ∨ PreOk t.pre
  pl : t.pre.length ≤ 64
theorem num_part (z : Bool) (a : Nat) : okPart dB (num z a) := by
  have h := dec_part a
  cases z
  · simpa [num] using h
  · refine ⟨by simp [num], fun y hy => ?_⟩
    have : y = 48 ∨ y ∈ Lib.decDigits a := by simpa [num] using hy
    rcases this with rfl | h2
    · decide
    · exact h.2 y h2
theorem dB_noX {w : Bs} (h : okPart dB w) : isXb w = false := by
  obtain ⟨h1, h2⟩ := h
  match w, h1 with
  | [y], _ =>
    have h3 := (dB_not y (h2 y (by simp)))
    simp [isXb, h3.1, h3.2.1, h3.2.2.1]
  | x :: y :: l, _ => simp [isXb]
theorem num_noX (z : Bool) (a : Nat) : isXb (num z a) = false := dB_noX (num_part z a)
theorem num_parse (z : Bool) (a : Nat) (ha : a < 18446744073709551616) : Lib.parseUintB 64 (num z a) = .ok a := by
  cases z
  · exact parse_dec64 a ha
  · exact parse_zero a ha
theorem num_len (z : Bool) (a : Nat) (ha : a < 18446744073709551616) : (num z a).length ≤ 21 := by
  have := nDigits_le a ha
  cases z <;> simp [num] <;> omega
theorem wild_X {w : Bs} (h : wildB w) : isXb w = true ∧ okPart pB w ∧ w.length = 1 := by
  rcases h with rfl | rfl | rfl
  · exact ⟨by decide, ⟨by simp, by decide⟩, rfl⟩
  · exact ⟨by decide, ⟨by simp, by decide⟩, rfl⟩
  · exact ⟨by decide, ⟨by simp, by decide⟩, rfl⟩
theorem gpre_pgrp (p : Bs) : gpre (pgrp p) = p := by
  unfold pgrp
  split
  · rename_i h; subst h; rfl
  · obtain ⟨x, r, e1, e2⟩ := idents_join p.length p (Nat.le_refl _)
    rw [e1]
    exact e2.symm
theorem okGrp_pgrp {p : Bs} (h : p = [] ∨ PreOk p) : okGrp iB (pgrp p) := by
  unfold pgrp
  split
  · trivial
  · rcases h with h | h
    · contradiction
    · obtain ⟨x, r, e1, e2, e3⟩ := h.grp
      rw [e1]; exact e3
theorem okGrp_mgrp (m : Bool) : okGrp iB (mgrp m) := by
  cases m
  · trivial
  · refine ⟨⟨by simp, by decide⟩, fun y hy => ?_⟩
    have : y = [48, 49] := by simpa using hy
    subst this
    exact ⟨by simp, by decide⟩
theorem part_pB {w : Bs} (h : okPart dB w) : okPart pB w := ⟨h.1, fun y hy => dB_pB y (h.2 y hy)⟩
theorem GT.Ok.ver {t : GT} (h : t.Ok) : t.ver.Ok pB iB := by
  unfold GT.ver
  split
  · rename_i hg
    exact ⟨(wild_X h.w1).2.1, fun y hy => (wild_X (h.w2 y hy)).2.1, fun y hy => ⟨(wild_X (h.w3 y hy)).2.1, fun e => by have := h.w23 (by omega) e; simp only at hy; rw [this] at hy; cases hy⟩, trivial, trivial⟩
  · rename_i hg
    exact ⟨part_pB (num_part _ _), fun y hy => (wild_X (h.w2 y hy)).2.1, fun y hy => ⟨(wild_X (h.w3 y hy)).2.1, fun e => by have := h.w23 (by omega) e; simp only at hy; rw [this] at hy; cases hy⟩, trivial, trivial⟩
  · refine ⟨part_pB (num_part _ _), fun y hy => ?_, fun y hy => ⟨(wild_X (h.w3 y hy)).2.1, by simp⟩, trivial, trivial⟩
    obtain rfl : num t.z2 t.b = y := by simpa using hy
    exact part_pB (num_part _ _)
  · refine ⟨part_pB (num_part _ _), fun y hy => ?_, fun y hy => ⟨?_, by simp⟩, okGrp_pgrp h.pre, okGrp_mgrp _⟩
    · obtain rfl : num t.z2 t.b = y := by simpa using hy
      exact part_pB (num_part _ _)
    · obtain rfl : num t.z3 t.c = y := by simpa using hy
      exact part_pB (num_part _ _)
theorem GT.Ok.tm {t : GT} (h : t.Ok) : t.tm.Ok := ⟨h.op, h.blank, h.ver⟩
theorem gtext_len (y : UInt8) (g : Option (Bs × List Bs)) : (gtext y g).length ≤ (gpre g).length + 1 := by
  cases g with
  | none => simp [gtext]
  | some x => obtain ⟨x, l⟩ := x; simp [gtext, gpre]
theorem GT.Ok.len {t : GT} (h : t.Ok) : t.ver.text.length ≤ 140 := by
  have h1 := num_len t.z1 t.a h.a
  have h2 := num_len t.z2 t.b h.b
  have h3 := num_len t.z3 t.c h.c
  have hv : (if t.v then [118] else [] : Bs).length ≤ 1 := by split <;> simp
  have hw1 := (wild_X h.w1).2.2
  have hw2 : (ptext t.w2).length ≤ 2 := by
    cases e : t.w2 with
    | none => simp [ptext]
    | some y => have := (wild_X (h.w2 y e)).2.2; simp [ptext]; omega
  have hw3 : (ptext t.w3).length ≤ 2 := by
    cases e : t.w3 with
    | none => simp [ptext]
    | some y => have := (wild_X (h.w3 y e)).2.2; simp [ptext]; omega
  have hp := gtext_len 45 (pgrp t.pre)
  rw [gpre_pgrp] at hp
  have hpl := h.pl
  have hm : (gtext 43 (mgrp t.mt)).length ≤ 6 := by cases t.mt <;> simp [mgrp, gtext, dots]
  unfold GT.ver
  split <;> simp only [Ver.text, List.length_append, ptext, gtext, List.length_cons, List.length_nil] at * <;> omega
end Go.Proofs.YthejepmnnpmdmaaGreatDoor.Sv
end
section
set_option linter.unusedVariables false
set_option linter.unusedSimpArgs false
/- a list of terms with blanks ahead of it and behind it: it is taken, its terms are found -/
namespace Go.Proofs.YthejepmnnpmdmaaGreatDoor.Sv
open Go Go.RowKit Rx
set_option maxRecDepth 100000
/-- a list of terms is taken by the whole check -/
theorem validMR {w : World} {R PB IB icap : Nat} {s : ByteArray} (hp : PG w R PB IB icap validT) (hr : RH w R PB 4 1 50 1 24) (hT : Lib.Utf8Tabs 11 12 w) (hs : s.size ≤ 1000)
    {B R' : Bs} {x : Tm} {l : List (Sep × Tm)} (hB : ∀ y ∈ B, ws y = true) (hR : ∀ y ∈ R', ws y = true) (hx : x.Ok) (hl : LOk l) (ht : s.data.toList = B ++ (ltext x l ++ R')) :
    Calls Tryz.prog 27 #[.pointer (some ⟨R, 0, none⟩), .string s] w fun e w' => e = .returned (.bool true) ∧ Below w.heap.size w w' := by
  obtain ⟨n, hM⟩ := valid_M (txt_env validT s) rfl 0 (Nat.zero_le _)
  have hv := valid_evalR hB hR hx hl _ ht
  have h0 : ¬ s.size < 1 := by
    intro h
    have : s.data.toList.length = 0 := by rw [list_size]; omega
    rw [ht] at this
    obtain ⟨y, r, hy, _⟩ := ver_head hx.ver
    simp [ltext, Tm.text, hy] at this
  refine (tMatchString (sur_of hp hT validT_ok (by decide) hs) hr (by omega) (.emp 2 4) rfl (by decide) hM (fun h => absurd h h0)).mono ?_
  rintro e w' ⟨rfl, hb⟩
  exact ⟨by rw [hv], hb⟩
theorem msT_stepR {E : Env} {s R : Bs} (T : Txt E s) (hR : ∀ y ∈ R, ws y = true) {y : Sep × Tm} {l : List (Sep × Tm)} {p : Nat} (h : s.drop p = ltail (y :: l) ++ R) (hp : p ≤ s.length) (h1 : SepW y.1) (h2 : y.2.Ok) (h0 : y.2.op = [] → y.2.blank = []) (hl : LOk l)
    (ih : ∀ p, s.drop p = ltail l ++ R → p ≤ s.length → MsOk E s.length (findS s) p (msT p l)) : MsOk E s.length (findS s) p (msT p (y :: l)) := by
  have hlen := text_len h0
  have h3 : s.drop p = (y.1.text ++ y.2.text) ++ (ltail l ++ R) := by rw [h]; simp [ltail]
  have h4 := drop_add h3
  rw [hlen] at h4
  have hN := congrArg List.length h3
  rw [List.length_drop, List.length_append, hlen] at hN
  have hpos := tm_pos (found_okW h1 h2)
  refine ⟨fun k hk => ?_, p + skip y + (found y).text.length, (mAt_slots _ _).1, ⟨(mAt_slots _ _).2, by show p + skip y ≤ _; omega⟩, by omega, by omega, ?_⟩
  · have := find_nextR (n := k - (skip y + 1)) T hR h h1 h2 h0 hl
    rwa [show k - (skip y + 1) + skip y + 1 = k by omega] at this
  · exact ih _ (by rw [← h4]; congr 1; omega) (by omega)
theorem msT_okR {E : Env} {s R : Bs} (T : Txt E s) (hR : ∀ y ∈ R, ws y = true) : ∀ (l : List (Sep × Tm)) (p : Nat), s.drop p = ltail l ++ R → p ≤ s.length → LOk l → MsOk E s.length (findS s) p (msT p l)
  | [], p, h, hp, _ => fun k _ => find_endR T hR (by rw [h]; simp [ltail]) hp
  | y :: l, p, h, hp, hl => by
    obtain ⟨h1, h2, h0⟩ := hl y (by simp)
    exact msT_stepR T hR h hp h1.weak h2 h0 (fun z hz => hl z (by simp [hz])) fun p h hp => msT_okR T hR l p h hp (fun z hz => hl z (by simp [hz]))
theorem msT_textR {s : ByteArray} {R : Bs} : ∀ (l : List (Sep × Tm)) (p : Nat), s.data.toList.drop p = ltail l ++ R → p ≤ s.size → (∀ y ∈ l, y.2.op = [] → y.2.blank = []) → (msT p l).map (mtext s) = l.map (fun y => ⟨(found y).text.toArray⟩)
  | [], p, h, hp, _ => rfl
  | y :: l, p, h, hp, hl => by
    have h0 := hl y (by simp)
    have hlen := text_len h0
    have h3 : s.data.toList.drop p = gap y ++ ((found y).text ++ (ltail l ++ R)) := by
      rw [h, ← List.append_assoc, ← text_found h0]; simp [ltail]
    have hN := congrArg List.length h3
    rw [List.length_drop, List.length_append, List.length_append, list_size] at hN
    have hsk : skip y = (gap y).length := rfl
    have h4 := drop_add h3
    have h5 := drop_add h4
    simp only [msT, List.map_cons]
    congr 1
    · unfold mtext
      rw [(mAt_slots _ _).1]
      obtain ⟨e1, e2⟩ := drop_split h4 (by rw [list_size]; omega)
      refine extract_eq e1 (by rw [e2]; rfl) rfl
    · exact msT_textR l _ h5 (by omega) (fun z hz => hl z (by simp [hz]))
theorem findMR {w : World} {RX PB IB icap : Nat} {s : ByteArray} (hp : PG w RX PB IB icap findT) (hr : RH w RX PB 0 1 24 1 11) (hT : Lib.Utf8Tabs 11 12 w) (hs : s.size ≤ 1000) {R : Bs} (hR : ∀ y ∈ R, ws y = true)
    {y : Sep × Tm} {l : List (Sep × Tm)} (h1 : SepW y.1) (h2 : y.2.Ok) (h0 : y.2.op = [] → y.2.blank = []) (hl : LOk l) (ht : s.data.toList = ltail (y :: l) ++ R) :
    Calls Tryz.prog 30 #[.pointer (some ⟨RX, 0, none⟩), .string s, .int .i64 (-1)] w fun e w' => ∃ v, e = .returned v ∧ w'.ownsRow w.heap.size 9 1 v (l.length + 1) (((found y).text :: l.map fun y => (found y).text).map fun t => Value.string ⟨t.toArray⟩) ∧ Below w.heap.size w w' := by
  have T := txt_env findT s
  have hd : s.data.toList.drop 0 = ltail (y :: l) ++ R := ht
  have hll : l.length < 1001 := by
    have : ∀ (l : List (Sep × Tm)), LOk l → l.length ≤ (ltail l).length := by
      intro l
      induction l with
      | nil => intro _; simp
      | cons y l ih =>
        intro hl
        have h1 := ih (fun z hz => hl z (by simp [hz]))
        have h2 := tm_pos (hl y (by simp)).2.1
        simp [ltail] at h1 ⊢
        omega
    have h3 := this l hl
    have h4 : (ltail l).length ≤ s.size := by rw [← list_size, ht]; simp [ltail]; omega
    omega
  have hpos : 0 < s.size := by
    have h3 := tm_pos h2
    rw [← list_size, ht]; simp [ltail]; omega
  have hms : MsOk (envOf findT s) s.size (findS s.data.toList) 0 (msT 0 (y :: l)) := by
    rw [← list_size s]
    exact msT_stepR T hR hd (Nat.zero_le _) h1 h2 h0 hl fun p h hp => msT_okR T hR l p h hp hl
  have h := tFindAll (sur_of hp hT findT_ok (by decide) hs) hr (by omega) _ (show findT[1]? = some findT[1] from rfl) (by decide) (by omega) (findS s.data.toList) (fun p hp => find_M T rfl p (by rw [list_size]; exact hp)) _ hms (fun h => by omega) (by simp [msT_length]; omega)
  refine h.mono ?_
  rintro e w' ⟨v, rfl, h1', h2', h3'⟩
  refine ⟨v, rfl, ?_, h3'⟩
  have e1 : (msT 0 (y :: l)).map (mtext s) = ((found y).text :: l.map fun y => (found y).text).map fun t => (⟨t.toArray⟩ : ByteArray) := by
    rw [msT_textR (y :: l) 0 hd (Nat.zero_le _) (fun z hz => by
      rcases List.mem_cons.1 hz with rfl | hz
      · exact h0
      · exact (hl z hz).2.2)]
    simp
  rw [e1] at h1'
  simpa [msT_length, Function.comp_def] using h1'
end Go.Proofs.YthejepmnnpmdmaaGreatDoor.Sv
end
section
set_option linter.unusedVariables false
set_option linter.unusedSimpArgs false
/- what is read of a term in any of its ways; lists of such -/
namespace Go.Proofs.YthejepmnnpmdmaaGreatDoor.Sv
open Go Go.RowKit Rx
set_option maxRecDepth 100000
def zver (x y : Bs) : Ver := ⟨false, x, some y, some [48], none, none⟩
theorem zpart : okPart dB [48] := ⟨by simp, by decide⟩
theorem zparse : Lib.parseUintB 64 [48] = .ok 0 := by
  have := parse_dec64 0 (by decide)
  rwa [show Lib.decDigits 0 = [48] from Lib.decDigits_one (by omega)] at this
theorem zver_text (x y : Bs) : (zver x y).text = x ++ 46 :: y ++ [46, 48] := by simp [zver, Ver.text, ptext, gtext]
theorem reads_z {x y : Bs} (hx : okPart dB x) (hy : okPart dB y) (a b : Nat) (ha : Lib.parseUintB 64 x = .ok a) (hb : Lib.parseUintB 64 y = .ok b) (hl : x.length + y.length ≤ 100) : Reads (x ++ 46 :: y ++ [46, 48]) a b 0 [] [] := by
  rw [← zver_text]
  refine tNewVerG (zver x y) ⟨hx, fun z h => ?_, fun z h => ⟨?_, by simp [zver]⟩, trivial, trivial⟩ y [48] rfl rfl (.inl rfl) (.inl rfl) a b 0 ha hb zparse (by rw [zver_text]; simp; omega)
  · obtain rfl : y = z := by simpa [zver] using h
    exact hy
  · obtain rfl : [48] = z := by simpa [zver] using h
    exact zpart
theorem read_g (t : GT) (h : t.Ok) (L : Bs) (hL : ∀ y ∈ L, ws y = true) (hl : L.length ≤ 600) (w : World) (hT : Lib.Utf8Tabs 11 12 w) :
    Calls Tryz.prog 31 #[.string (bytesOf (L ++ t.tm.text))] w fun e w' => ∃ C, e = .returned (.tuple #[ptr C, .nilIface]) ∧ w.heap.size ≤ C ∧ TDAt w' C t.td ∧ Below w.heap.size w w' := by
  have hlen := h.len
  have ho := op_len h.op
  have hok := h.tm
  have hob := h.ob
  have hbl := h.bl
  have hs : (bytesOf (L ++ t.tm.text)).size ≤ 1000 := by rw [bytesOf_size]; simp [GT.tm, Tm.text]; omega
  have ht : (bytesOf (L ++ t.tm.text)).data.toList = L ++ (t.tm.text ++ []) := by rw [bytesOf_list]; simp
  have n1 := num_part t.z1 t.a
  have n2 := num_part t.z2 t.b
  have n3 := num_part t.z3 t.c
  have p1 := num_parse t.z1 t.a h.a
  have p2 := num_parse t.z2 t.b h.b
  have p3 := num_parse t.z3 t.c h.c
  have l1 := num_len t.z1 t.a h.a
  have l2 := num_len t.z2 t.b h.b
  have x1 := num_noX t.z1 t.a
  have x2 := num_noX t.z2 t.b
  have x3 := num_noX t.z3 t.c
  have r1 : Reads (num t.z1 t.a ++ [46, 48, 46, 48]) t.a 0 0 [] [] := by
    have := reads_z n1 zpart t.a 0 p1 zparse (by simp; omega)
    simpa using this
  have r2 := reads_z n1 n2 t.a t.b p1 p2 (by omega)
  obtain ⟨op, blank, g, v, z1, z2, z3, w1, w2, w3, a, b, c, pre, mt⟩ := t
  simp only at *
  match g with
  | 0 =>
    have hr : Reads ([48, 46, 48, 46, 48] ++ gtext 45 none) 0 0 0 [] [] := by
      have := reads_z zpart zpart 0 0 zparse zparse (by simp)
      simpa [gtext] using this
    refine (t44a (GT.tm ⟨op, blank, 0, v, z1, z2, z3, w1, w2, w3, a, b, c, pre, mt⟩) (L := L) (RR := []) hs hok ht hL (by simp) hob (wild_X h.w1).1 0 0 0 [] [] hr w hT).mono ?_
    rintro e w' ⟨C, V, rfl, h1, h2, h3, h4, h5⟩
    exact ⟨C, rfl, h1, ⟨V, h3, h4⟩, h5⟩
  | 1 =>
    have e0 : num z1 a ++ [46, 48, 46, 48] ++ gtext 45 none = num z1 a ++ [46, 48, 46, 48] := by simp [gtext]
    rw [← e0] at r1
    cases w2 with
    | none =>
      obtain rfl : w3 = none := h.w23 (by simp) rfl
      refine (t44b0 (GT.tm ⟨op, blank, 1, v, z1, z2, z3, w1, none, none, a, b, c, pre, mt⟩) (L := L) (RR := []) hs hok ht hL (by simp) hob rfl rfl x1 a 0 0 [] [] r1 w hT).mono ?_
      rintro e w' ⟨C, V, rfl, h1, h2, h3, h4, h5⟩
      exact ⟨C, rfl, h1, ⟨V, h3, by rw [show (GT.tm ⟨op, blank, 1, v, z1, z2, z3, w1, none, none, a, b, c, pre, mt⟩).ver.p1 ++ [46, 48, 46, 48] ++ gtext 45 (GT.tm ⟨op, blank, 1, v, z1, z2, z3, w1, none, none, a, b, c, pre, mt⟩).ver.pre = num z1 a ++ [46, 48, 46, 48] from e0] at h4; exact h4⟩, h5⟩
    | some y2 =>
      refine (t44b1 (GT.tm ⟨op, blank, 1, v, z1, z2, z3, w1, some y2, w3, a, b, c, pre, mt⟩) (L := L) (RR := []) hs hok ht hL (by simp) hob y2 rfl x1 (wild_X (h.w2 y2 rfl)).1 a 0 0 [] [] r1 w hT).mono ?_
      rintro e w' ⟨C, V, rfl, h1, h2, h3, h4, h5⟩
      exact ⟨C, rfl, h1, ⟨V, h3, by rw [show (GT.tm ⟨op, blank, 1, v, z1, z2, z3, w1, some y2, w3, a, b, c, pre, mt⟩).ver.p1 ++ [46, 48, 46, 48] ++ gtext 45 (GT.tm ⟨op, blank, 1, v, z1, z2, z3, w1, some y2, w3, a, b, c, pre, mt⟩).ver.pre = num z1 a ++ [46, 48, 46, 48] from e0] at h4; exact h4⟩, h5⟩
  | 2 =>
    have e0 : num z1 a ++ 46 :: num z2 b ++ [46, 48] ++ gtext 45 none = num z1 a ++ 46 :: num z2 b ++ [46, 48] := by simp [gtext]
    rw [← e0] at r2
    cases w3 with
    | none =>
      refine (t44c0 (GT.tm ⟨op, blank, 2, v, z1, z2, z3, w1, w2, none, a, b, c, pre, mt⟩) (L := L) (RR := []) hs hok ht hL (by simp) hob (num z2 b) rfl rfl x1 x2 a b 0 [] [] r2 w hT).mono ?_
      rintro e w' ⟨C, V, rfl, h1, h2, h3, h4, h5⟩
      exact ⟨C, rfl, h1, ⟨V, h3, by rw [show (GT.tm ⟨op, blank, 2, v, z1, z2, z3, w1, w2, none, a, b, c, pre, mt⟩).ver.p1 ++ 46 :: num z2 b ++ [46, 48] ++ gtext 45 (GT.tm ⟨op, blank, 2, v, z1, z2, z3, w1, w2, none, a, b, c, pre, mt⟩).ver.pre = num z1 a ++ 46 :: num z2 b ++ [46, 48] from e0] at h4; exact h4⟩, h5⟩
    | some y3 =>
      refine (t44c1 (GT.tm ⟨op, blank, 2, v, z1, z2, z3, w1, w2, some y3, a, b, c, pre, mt⟩) (L := L) (RR := []) hs hok ht hL (by simp) hob (num z2 b) y3 rfl rfl x1 x2 (wild_X (h.w3 y3 rfl)).1 a b 0 [] [] r2 w hT).mono ?_
      rintro e w' ⟨C, V, rfl, h1, h2, h3, h4, h5⟩
      exact ⟨C, rfl, h1, ⟨V, h3, by rw [show (GT.tm ⟨op, blank, 2, v, z1, z2, z3, w1, w2, some y3, a, b, c, pre, mt⟩).ver.p1 ++ 46 :: num z2 b ++ [46, 48] ++ gtext 45 (GT.tm ⟨op, blank, 2, v, z1, z2, z3, w1, w2, some y3, a, b, c, pre, mt⟩).ver.pre = num z1 a ++ 46 :: num z2 b ++ [46, 48] from e0] at h4; exact h4⟩, h5⟩
  | g + 3 =>
    have hv : (GT.ver ⟨op, blank, g + 3, v, z1, z2, z3, w1, w2, w3, a, b, c, pre, mt⟩).Ok dB iB := by
      refine ⟨n1, fun y hy => ?_, fun y hy => ⟨?_, by simp [GT.ver]⟩, okGrp_pgrp h.pre, okGrp_mgrp _⟩
      · obtain rfl : num z2 b = y := by simpa [GT.ver] using hy
        exact n2
      · obtain rfl : num z3 c = y := by simpa [GT.ver] using hy
        exact n3
    have hr : Reads (GT.ver ⟨op, blank, g + 3, v, z1, z2, z3, w1, w2, w3, a, b, c, pre, mt⟩).text a b c (gpre (pgrp pre)) (gpre (mgrp mt)) :=
      tNewVerG _ hv (num z2 b) (num z3 c) rfl rfl (by
        show gpre (pgrp pre) = [] ∨ PreOk (gpre (pgrp pre))
        rw [gpre_pgrp]; exact h.pre) (by
        show gpre (mgrp mt) = [] ∨ _
        cases mt
        · exact .inl rfl
        · refine .inr fun i hi => ?_
          have : i = [98] ∨ i = [48, 49] := by simpa [gpre, mgrp, GT.ver, dots, idents] using hi
          rcases this with rfl | rfl
          · exact ⟨by simp, by decide⟩
          · exact ⟨by simp, by decide⟩) a b c p1 p2 p3 (by omega)
    rw [gpre_pgrp] at hr
    refine (t44full (GT.tm ⟨op, blank, g + 3, v, z1, z2, z3, w1, w2, w3, a, b, c, pre, mt⟩) (L := L) (RR := []) hs hok ht hL (by simp) hob (num z2 b) (num z3 c) rfl rfl x1 x2 x3 a b c _ _ hr w hT).mono ?_
    rintro e w' ⟨C, V, rfl, h1, h2, h3, h4, h5⟩
    exact ⟨C, rfl, h1, ⟨V, h3, h4⟩, h5⟩
end Go.Proofs.YthejepmnnpmdmaaGreatDoor.Sv
end
section
set_option linter.unusedVariables false
set_option linter.unusedSimpArgs false
/- lists of terms in any of their ways, and constraints of such -/
namespace Go.Proofs.YthejepmnnpmdmaaGreatDoor.Sv
open Go Go.RowKit Rx
set_option maxRecDepth 100000
structure GL where
  B : Bs
  t : GT
  l : List (Sep × GT)
  R : Bs
def GL.rest (g : GL) : List (Sep × Tm) := g.l.map fun y => (y.1, y.2.tm)
def GL.hd (g : GL) : Sep × Tm := (⟨g.B, none⟩, g.t.tm)
def GL.text (g : GL) : Bs := ltail (g.hd :: g.rest) ++ g.R
structure GL.Ok (g : GL) : Prop where
  B : ∀ y ∈ g.B, ws y = true
  bl : g.B.length ≤ 10
  t : g.t.Ok
  l : ∀ y ∈ g.l, y.1.Ok ∧ (lead y.1).length ≤ 10 ∧ y.2.Ok
  R : ∀ y ∈ g.R, ws y = true
def GL.tds (g : GL) : List TD := g.t.td :: g.l.map fun y => y.2.td
def GL.txs (g : GL) : List Bs := (found g.hd).text :: g.rest.map fun y => (found y).text
theorem GL.Ok.lok {g : GL} (h : g.Ok) : LOk g.rest := fun x hx => by
  obtain ⟨y, hy, rfl⟩ := List.mem_map.1 hx
  have h1 := h.l y hy
  exact ⟨h1.1, h1.2.2.tm, h1.2.2.ob⟩
theorem found_lead {x : Sep × GT} (h : x.2.Ok) (hw : SepW x.1) (hl : (lead x.1).length ≤ 10) : ∃ L : Bs, (∀ y ∈ L, ws y = true) ∧ L.length ≤ 600 ∧ (found (x.1, x.2.tm)).text = L ++ x.2.tm.text := by
  by_cases ho : x.2.op = []
  · refine ⟨lead x.1, fun y hy => ?_, by omega, ?_⟩
    · unfold lead at hy
      cases hb : x.1.b2 with
      | none => rw [hb] at hy; exact hw.b1 y hy
      | some z => rw [hb] at hy; exact hw.b2 z hb y hy
    · have hb := h.ob ho
      simp [found, GT.tm, ho, hb, Tm.text]
  · exact ⟨[], by simp, by simp, by simp [found, GT.tm, ho]⟩
theorem gspecGL (g : GL) (h : g.Ok) (hs : g.text.length ≤ 1000) (hn : g.l.length < 1000) : GSpec (bytesOf g.text) g.txs g.tds := by
  have hs' : (bytesOf g.text).size ≤ 1000 := by rw [bytesOf_size]; exact hs
  have hb := bytesOf_list g.text
  have hwB : SepW g.hd.1 := ⟨h.B, fun z hz => by cases hz⟩
  refine ⟨fun w R PB IB icap hp hr hT => ?_, fun w R PB IB icap hp hr hT => ?_, by simp [GL.txs, GL.tds, GL.rest], by simp [GL.txs], by simp [GL.txs, GL.rest]; omega, fun i x td hx htd w hT => ?_⟩
  · exact validMR hp hr hT hs' h.B h.R h.t.tm h.lok (by rw [hb]; simp [GL.text, GL.hd, ltail, Sep.text, ctext, ltext])
  · have e := findMR hp hr hT hs' h.R (y := g.hd) (l := g.rest) hwB h.t.tm h.t.ob h.lok (by rw [hb]; rfl)
    have e2 : g.txs.length = g.rest.length + 1 := by simp [GL.txs]
    rw [e2]
    exact e
  · have key : ∀ (x : Sep × GT), x.2.Ok → SepW x.1 → (lead x.1).length ≤ 10 → Calls Tryz.prog 31 #[.string (bytesOf (found (x.1, x.2.tm)).text)] w fun e w' => ∃ C, e = .returned (.tuple #[ptr C, .nilIface]) ∧ w.heap.size ≤ C ∧ TDAt w' C x.2.td ∧ Below w.heap.size w w' := fun x h1 h2 h3 => by
      obtain ⟨L, a1, a2, a3⟩ := found_lead h1 h2 h3
      rw [a3]
      exact read_g x.2 h1 L a1 a2 w hT
    cases i with
    | zero =>
      obtain rfl : (found g.hd).text = x := by simpa [GL.txs] using hx
      obtain rfl : g.t.td = td := by simpa [GL.tds] using htd
      exact key (⟨g.B, none⟩, g.t) h.t hwB h.bl
    | succ i =>
      simp only [GL.txs, GL.tds, GL.rest, List.getElem?_cons_succ, List.getElem?_map, Option.map_eq_some_iff] at hx htd
      obtain ⟨y, ⟨y', h1, rfl⟩, rfl⟩ := hx
      obtain ⟨z, h2, rfl⟩ := htd
      rw [h1] at h2
      obtain rfl := Option.some.inj h2
      have h3 := h.l y' (List.mem_of_getElem? h1)
      exact key y' h3.2.2 h3.1.weak h3.2.1
/-! no blank ahead of a hyphen; no bar -/
def Seg (l : Bs) : Prop := noWD l = true ∧ (∀ y, l.head? = some y → y ≠ 45) ∧ ∀ y ∈ l, y ≠ 124
theorem noWD_app : ∀ {a b : Bs}, noWD a = true → noWD b = true → (∀ y, b.head? = some y → y ≠ 45) → noWD (a ++ b) = true
  | [], b, _, hb, _ => hb
  | [x], [], _, _, _ => rfl
  | [x], y :: b, _, hb, hh => by
    have h1 : (y == 45) = false := by simpa using hh y rfl
    simp only [List.singleton_append, Rx.noWD, h1, Bool.and_false, Bool.not_false, Bool.true_and]
    exact hb
  | x :: y :: a, b, ha, hb, hh => by
    simp only [Rx.noWD, Bool.and_eq_true] at ha
    have := noWD_app ha.2 hb hh
    simp only [List.cons_append, Rx.noWD, Bool.and_eq_true]
    exact ⟨ha.1, this⟩
theorem Seg.nil : Seg [] := ⟨rfl, by simp, by simp⟩
theorem Seg.app {a b : Bs} (ha : Seg a) (hb : Seg b) : Seg (a ++ b) := by
  refine ⟨noWD_app ha.1 hb.1 hb.2.1, fun y hy => ?_, fun y hy => ?_⟩
  · cases a with
    | nil => exact hb.2.1 y hy
    | cons x a => exact ha.2.1 y (by simpa using hy)
  · rcases List.mem_append.1 hy with h | h
    · exact ha.2.2 y h
    · exact hb.2.2 y h
theorem noWD_of {l : Bs} : (∀ y ∈ l, y ≠ 45) → noWD l = true := fun h => by
  have : ∀ l : Bs, (∀ y ∈ l, y ≠ 45) → noWD l = true := by
    intro l
    induction l with
    | nil => intro _; rfl
    | cons x l ih =>
      intro h
      cases l with
      | nil => rfl
      | cons y l =>
        have h1 : (y == 45) = false := by simpa using h y (by simp)
        have h2 := ih fun z hz => h z (List.mem_cons_of_mem _ hz)
        simp [Rx.noWD, h1, h2]
  exact this l h
theorem noWD_ws {l : Bs} : (∀ y ∈ l, ws y = false) → noWD l = true := fun h => by
  have : ∀ l : Bs, (∀ y ∈ l, ws y = false) → noWD l = true := by
    intro l
    induction l with
    | nil => intro _; rfl
    | cons x l ih =>
      intro h
      cases l with
      | nil => rfl
      | cons y l =>
        have h1 := h x (by simp)
        have h2 := ih fun z hz => h z (List.mem_cons_of_mem _ hz)
        simp [Rx.noWD, h1, h2]
  exact this l h
theorem Seg.of {l : Bs} (h : ∀ y ∈ l, y ≠ 45 ∧ y ≠ 124) : Seg l := ⟨noWD_of fun y hy => (h y hy).1, fun y hy => (h y (List.mem_of_mem_head? hy)).1, fun y hy => (h y hy).2⟩
theorem ws_out (y : UInt8) (h : ws y = true) : y ≠ 45 ∧ y ≠ 124 := by
  have := byte_all (p := fun x => !ws x || (!(x == 45) && !(x == 124))) (by decide +kernel) y
  simpa [h] using this
theorem iB_out (y : UInt8) (h : iB y = true) : ws y = false ∧ y ≠ 124 := by
  have := byte_all (p := fun x => !iB x || (!ws x && !(x == 124))) (by decide +kernel) y
  simpa [h] using this
theorem dB_out (y : UInt8) (h : dB y = true) : ws y = false ∧ y ≠ 124 ∧ y ≠ 45 := by
  have := byte_all (p := fun x => !dB x || (!ws x && (!(x == 124) && !(x == 45)))) (by decide +kernel) y
  simpa [h] using this
/-- a byte of a version's text -/
def vByte (y : UInt8) : Prop := ws y = false ∧ y ≠ 124
theorem num_v {z : Bool} {a : Nat} : ∀ y ∈ num z a, vByte y := fun y hy => by
  have := dB_out y ((num_part z a).2 y hy)
  exact ⟨this.1, this.2.1⟩
theorem wild_v {w : Bs} (h : wildB w) : ∀ y ∈ w, vByte y := fun y hy => by
  rcases h with rfl | rfl | rfl <;> (obtain rfl := List.mem_singleton.1 hy; exact ⟨by decide, by decide⟩)
theorem ptext_v {o : Option Bs} (h : ∀ r, o = some r → ∀ y ∈ r, vByte y) : ∀ y ∈ ptext o, vByte y := fun y hy => by
  cases o with
  | none => cases hy
  | some r =>
    rcases List.mem_cons.1 hy with rfl | hy
    · exact ⟨by decide, by decide⟩
    · exact h r rfl y hy
theorem gtext_v {lead : UInt8} (hl : vByte lead) {g : Option (Bs × List Bs)} (h : okGrp iB g) : ∀ y ∈ gtext lead g, vByte y := fun y hy => by
  cases g with
  | none => cases hy
  | some x =>
    obtain ⟨x, l⟩ := x
    rcases List.mem_cons.1 hy with rfl | hy
    · exact hl
    · rcases List.mem_append.1 hy with hy | hy
      · exact iB_out y (h.1.2 y hy)
      · obtain ⟨r, hr, hy⟩ := List.mem_flatMap.1 hy
        rcases List.mem_cons.1 hy with rfl | hy
        · exact ⟨by decide, by decide⟩
        · exact iB_out y ((h.2 r hr).2 y hy)
theorem GT.Ok.bytes {t : GT} (h : t.Ok) : ∀ y ∈ t.ver.text, vByte y := fun y hy => by
  have hv : ∀ y ∈ (if t.v then [118] else [] : Bs), vByte y := fun y hy => by
    split at hy
    · obtain rfl := List.mem_singleton.1 hy; exact ⟨by decide, by decide⟩
    · cases hy
  have hw2 := ptext_v (o := t.w2) fun r hr => wild_v (h.w2 r hr)
  have hw3 := ptext_v (o := t.w3) fun r hr => wild_v (h.w3 r hr)
  have hn2 := ptext_v (o := some (num t.z2 t.b)) fun r hr => by obtain rfl := Option.some.inj hr; exact num_v
  have hn3 := ptext_v (o := some (num t.z3 t.c)) fun r hr => by obtain rfl := Option.some.inj hr; exact num_v
  have hp := gtext_v (lead := 45) ⟨by decide, by decide⟩ (okGrp_pgrp h.pre)
  have hm := gtext_v (lead := 43) ⟨by decide, by decide⟩ (okGrp_mgrp t.mt)
  unfold GT.ver at hy
  split at hy <;> simp only [Ver.text, List.mem_append] at hy
  · rcases hy with hy | hy | hy | hy | hy | hy
    · exact hv y hy
    · exact wild_v h.w1 y hy
    · exact hw2 y hy
    · exact hw3 y hy
    · cases hy
    · cases hy
  · rcases hy with hy | hy | hy | hy | hy | hy
    · exact hv y hy
    · exact num_v y hy
    · exact hw2 y hy
    · exact hw3 y hy
    · cases hy
    · cases hy
  · rcases hy with hy | hy | hy | hy | hy | hy
    · exact hv y hy
    · exact num_v y hy
    · exact hn2 y hy
    · exact hw3 y hy
    · cases hy
    · cases hy
  · rcases hy with hy | hy | hy | hy | hy | hy
    · exact hv y hy
    · exact num_v y hy
    · exact hn2 y hy
    · exact hn3 y hy
    · exact hp y hy
    · exact hm y hy
theorem GT.Ok.seg {t : GT} (h : t.Ok) : Seg t.tm.text := by
  have h1 : Seg t.op := Seg.of fun y hy => by
    have ho := h.op
    simp only [opTexts, List.mem_cons, List.not_mem_nil, or_false] at ho
    rcases ho with e | e | e | e | e | e | e | e | e | e | e | e <;> rw [e] at hy <;> revert y <;> decide
  have h2 : Seg t.blank := Seg.of fun y hy => ws_out y (h.blank y hy)
  have h3 : Seg t.ver.text := by
    have hb := h.bytes
    refine ⟨noWD_ws fun y hy => (hb y hy).1, fun y hy => ?_, fun y hy => (hb y hy).2⟩
    obtain ⟨z, l, hz, hz2⟩ := ver_head h.ver
    rw [hz] at hy
    obtain rfl : z = y := by simpa using hy
    rcases hz2 with rfl | hz2
    · decide
    · exact (pB_op z hz2).2.2.2
  exact h1.app (h2.app h3)
theorem sep_seg {x : Sep} (h : x.Ok) : Seg x.text := Seg.of fun y hy => by
  rcases List.mem_append.1 hy with hy | hy
  · exact ws_out y (h.b1 y hy)
  · unfold ctext at hy
    split at hy
    · cases hy
    · rename_i z hz
      rcases List.mem_cons.1 hy with rfl | hy
      · decide
      · exact ws_out y (h.b2 z hz y hy)
theorem GL.Ok.seg {g : GL} (h : g.Ok) : Seg g.text := by
  have h1 : ∀ l : List (Sep × GT), (∀ y ∈ l, y.1.Ok ∧ (lead y.1).length ≤ 10 ∧ y.2.Ok) → Seg (ltail (l.map fun y => (y.1, y.2.tm))) := by
    intro l
    induction l with
    | nil => intro _; exact Seg.nil
    | cons y l ih =>
      intro hl
      have h2 := hl y (by simp)
      have h3 := ih fun z hz => hl z (List.mem_cons_of_mem _ hz)
      have e : ltail ((y :: l).map fun y => (y.1, y.2.tm)) = (y.1.text ++ y.2.tm.text) ++ ltail (l.map fun y => (y.1, y.2.tm)) := rfl
      rw [e]
      exact ((sep_seg h2.1).app h2.2.2.seg).app h3
  have e : g.text = (g.B ++ (g.t.tm.text ++ ltail g.rest)) ++ g.R := by simp [GL.text, GL.hd, ltail, Sep.text, ctext]
  rw [e]
  exact ((Seg.of fun y hy => ws_out y (h.B y hy)).app (h.t.seg.app (h1 g.l h.l))).app (Seg.of fun y hy => ws_out y (h.R y hy))
/-! lists with two bars between -/
def barred : List Bs → Bs
  | [] => []
  | [x] => x
  | x :: y :: l => x ++ (124 :: 124 :: barred (y :: l))
theorem bars2 : (⟨#[124, 124]⟩ : ByteArray).size = 2 ∧ (⟨#[124, 124]⟩ : ByteArray).toList = [124, 124] := ⟨rfl, ByteArray.toList_mk [124, 124]⟩
theorem ext2 {s : Bs} {i : Nat} (h : i + 2 ≤ s.length) : ∃ y z, ((bytesOf s).extract i (i + 2)).toList = [y, z] ∧ s.drop i = y :: z :: s.drop (i + 2) := by
  have h1 : s.drop i = s[i] :: s.drop (i + 1) := List.drop_eq_getElem_cons (by omega)
  have h2 : s.drop (i + 1) = s[i + 1] :: s.drop (i + 2) := List.drop_eq_getElem_cons (by omega)
  refine ⟨s[i], s[i + 1], ?_, by rw [h1, h2]⟩
  rw [extract_eq (A := s.take i) (B := [s[i], s[i + 1]]) (C := s.drop (i + 2)) (by
    show s.toArray.toList = _
    rw [List.toList_toArray]
    conv => lhs; rw [← List.take_append_drop i s, h1, h2]
    rfl) (by simp; omega) (by simp)]
  exact ByteArray.toList_mk _
theorem parted_bars : ∀ (l : List Bs), l ≠ [] → (∀ x ∈ l, ∀ y ∈ x, y ≠ 124) → Parted ⟨#[124, 124]⟩ (bytesOf (barred l)) (l.map bytesOf)
  | [], h, _ => absurd rfl h
  | [x], _, h => by
    have hx := h x (by simp)
    refine .last _ ?_
    unfold First
    rw [bars2.1, bars2.2]
    intro i hi
    rw [bytesOf_size] at hi
    obtain ⟨y, z, e1, e2⟩ := ext2 (s := barred [x]) (i := i) hi
    rw [e1]
    have hy : y ∈ x := List.mem_of_mem_drop (i := i) (by rw [show x.drop i = _ from e2]; simp)
    have := hx y hy
    simp [this]
  | x :: y :: l, _, h => by
    have hx := h x (by simp)
    have ih := parted_bars (y :: l) (by simp) fun z hz => h z (List.mem_cons_of_mem _ hz)
    have e0 : (bytesOf (barred (x :: y :: l))).extract 0 x.length = bytesOf x := extract_eq (A := []) (B := x) (C := 124 :: 124 :: barred (y :: l)) (by show (barred (x :: y :: l)).toArray.toList = _; simp [barred]) (by simp) (by simp)
    have e1 : (bytesOf (barred (x :: y :: l))).extract (x.length + (⟨#[124, 124]⟩ : ByteArray).size) (bytesOf (barred (x :: y :: l))).size = bytesOf (barred (y :: l)) := extract_eq (A := x ++ [124, 124]) (B := barred (y :: l)) (C := []) (by show (barred (x :: y :: l)).toArray.toList = _; simp [barred]) (by rw [bars2.1]; simp) (by rw [bars2.1, bytesOf_size]; simp [barred]; omega)
    rw [← e1] at ih
    have hf : First (bytesOf (barred (x :: y :: l))) ⟨#[124, 124]⟩ (some x.length) := by
      unfold First
      rw [bars2.1, bars2.2]
      refine ⟨by rw [bytesOf_size]; simp [barred], ?_, fun i hi => ?_⟩
      · obtain ⟨a, b, e1, e2⟩ := ext2 (s := barred (x :: y :: l)) (i := x.length) (by simp [barred])
        have e3 : (barred (x :: y :: l)).drop x.length = 124 :: 124 :: barred (y :: l) := by simp [barred]
        rw [e3] at e2
        simp only [List.cons.injEq] at e2
        rw [e1, ← e2.1, ← e2.2.1]
        rfl
      · obtain ⟨a, b, e1, e2⟩ := ext2 (s := barred (x :: y :: l)) (i := i) (by simp [barred]; omega)
        have e3 : (barred (x :: y :: l)).drop i = x.drop i ++ (124 :: 124 :: barred (y :: l)) := by
          rw [barred, List.drop_append_of_le_length (Nat.le_of_lt hi)]
        rw [e3, List.drop_eq_getElem_cons hi] at e2
        simp only [List.cons_append, List.cons.injEq] at e2
        have := hx a (by rw [← e2.1]; exact List.getElem_mem hi)
        rw [e1]
        simp [this]
    have := Parted.more _ x.length _ hf ih
    rw [e0] at this
    exact this
/-- the text of a constraint of lists -/
def ctextOf (G : List GL) : Bs := barred (G.map GL.text)
theorem barred_seg : ∀ (l : List Bs), (∀ x ∈ l, Seg x) → noWD (barred l) = true ∧ ∀ y, (barred l).head? = some y → y ≠ 45
  | [], _ => ⟨rfl, by simp [barred]⟩
  | [x], h => ⟨(h x (by simp)).1, (h x (by simp)).2.1⟩
  | x :: y :: l, h => by
    have ih := barred_seg (y :: l) fun z hz => h z (List.mem_cons_of_mem _ hz)
    have hx := h x (by simp)
    have e : barred (x :: y :: l) = x ++ ([124, 124] ++ barred (y :: l)) := rfl
    have h2 : noWD ([124, 124] ++ barred (y :: l)) = true := noWD_app (by decide) ih.1 ih.2
    rw [e]
    refine ⟨noWD_app hx.1 h2 (by simp), fun z hz => ?_⟩
    cases x with
    | nil => obtain rfl : 124 = z := by simpa using hz
             decide
    | cons a x => exact hx.2.1 z (by simpa using hz)
/-- NewConstraint of any constraint that is written out of good terms -/
theorem t31GL (G : List GL) (hne : G ≠ []) (hok : ∀ g ∈ G, g.Ok) (hs : (ctextOf G).length ≤ 512) (hn : G.length ≤ 32) (hl : ∀ g ∈ G, g.text.length ≤ 1000 ∧ g.l.length < 1000) (w : World) (hT : Lib.Utf8Tabs 11 12 w) :
    Calls Tryz.prog 15 #[.string (bytesOf (ctextOf G))] w fun e w' => ∃ O, e = .returned (.tuple #[ptr O, .nilIface]) ∧ w.heap.size ≤ O ∧ ConsAt w' O (G.map GL.tds) false ∧ Below w.heap.size w w' := by
  have hseg : ∀ x ∈ G.map GL.text, Seg x := fun x hx => by
    obtain ⟨g, hg, rfl⟩ := List.mem_map.1 hx
    exact (hok g hg).seg
  have hp := parted_bars (G.map GL.text) (by simpa using hne) fun x hx => (hseg x hx).2.2
  refine t31 (bytesOf (ctextOf G)) (by rw [bytesOf_size]; exact hs) (by rw [bytesOf_list]; exact (barred_seg _ hseg).1) _ hp (by simpa using hn) (G.map GL.txs) (G.map GL.tds) (by simp) (by simp) (fun k v tx ts h1 h2 h3 => ?_) w hT
  simp only [List.getElem?_map, Option.map_eq_some_iff] at h1 h2 h3
  obtain ⟨x, ⟨g, hg, rfl⟩, rfl⟩ := h1
  obtain ⟨g2, hg2, rfl⟩ := h2
  obtain ⟨g3, hg3, rfl⟩ := h3
  rw [hg] at hg2 hg3
  obtain rfl := Option.some.inj hg2
  obtain rfl := Option.some.inj hg3
  have hm := List.mem_of_getElem? hg
  exact gspecGL g (hok g hm) (hl g hm).1 (hl g hm).2
end Go.Proofs.YthejepmnnpmdmaaGreatDoor.Sv
end
section
set_option linter.unusedVariables false
set_option linter.unusedSimpArgs false
/- NewConstraint where a list's text is not valid -/
namespace Go.Proofs.YthejepmnnpmdmaaGreatDoor.Sv
open Go Go.RowKit Rx
set_option maxRecDepth 100000
theorem m23 (s : ByteArray) (w : World) : Calls Tryz.prog 28 #[.string s] w fun e w' => e = .returned (.iface 98 (.pointer (some ⟨w.heap.size, 0, none⟩))) ∧ w' = w.alloc (.cells #[.string s] 100) := by
  go_enter Tryz.func28, Tryz.ntmps28
  go_wp2
  go_ret
  exact ⟨rfl, rfl⟩
set_option maxHeartbeats 4000000 in
theorem t31bad (s : ByteArray) (hs : s.size ≤ 512) (hrw : noWD s.data.toList = true) (Vs : List ByteArray) (hp : Parted ⟨#[124, 124]⟩ s Vs) (hn : Vs.length ≤ 32) (Ts : List (List Bs)) (gs : List (List TD)) (hl1 : Ts.length = Vs.length) (hl2 : gs.length = Vs.length) (kz : Nat) (hk0 : kz < Vs.length)
    (hG : ∀ (k : Nat) (v : ByteArray) (tx : List Bs) (ts : List TD), k < kz → Vs[k]? = some v → Ts[k]? = some tx → gs[k]? = some ts → GSpec v tx ts)
    (hbad : ∀ v, Vs[kz]? = some v → ∀ (w : World) (R PB IB icap : Nat), PG w R PB IB icap validT → RH w R PB 4 1 50 1 24 → Lib.Utf8Tabs 11 12 w → Calls Tryz.prog 27 #[.pointer (some ⟨R, 0, none⟩), .string v] w fun e w' => e = .returned (.bool false) ∧ Below w.heap.size w w') (w : World) (hT : Lib.Utf8Tabs 11 12 w) :
    Calls Tryz.prog 15 #[.string s] w fun e w' => ∃ (n : Nat) (c : Array Value) (t : TypeId), e = .returned (.tuple #[.pointer none, .iface 98 (.pointer (some ⟨n, 0, none⟩))]) ∧ w.heap.size ≤ n ∧ w'.heap[n]? = some (.cells c t (0, 0)) ∧ Below w.heap.size w w' := by
  have hnz : 0 < Vs.length := List.length_pos_iff.2 hp.ne
  have k0 : ¬ (512 : Int) < (s.size : Int) := by omega
  have k1 : ¬ (32 : Int) < (Vs.length : Int) := by omega
  have HR := Lib.hid (tRewrite s w (by omega) hT hrw)
  have HP := Lib.hid (fun w => t38 s ⟨#[124, 124]⟩ Vs hp (by omega) (by decide) (by decide) w)
  have HG := Lib.hid hG
  have HL := Lib.hid (And.intro hl1 hl2)
  have HBAD := Lib.hid hbad
  have HK0 := Lib.hid hk0
  have HT := Lib.hid hT
  have m47 := mk47 Vs.length (by omega)
  have m48 := mk48 Vs.length (by omega)
  clear hs hrw hp hG hT hl1 hl2 hbad hk0
  go_enter Tryz.func15, Tryz.ntmps15
  go_upto_region 10 with (first
    | (go_at_call 24; refine HR.out.mono ?_; rintro e w1 ⟨rfl, hb1⟩; have HB1 := Lib.hid hb1; clear hb1)
    | (go_at_call 25; refine (HP.out _).mono ?_; rintro e w2 ⟨v2, rfl, ho, hb2⟩; obtain ⟨ob, oc, hv2, hob⟩ := World.ownsRow.form ho hnz; subst hv2; obtain ⟨ocur, hob2, hoc⟩ := own_cells ho hnz; have HO := Lib.hid (And.intro hob2 (And.intro hoc (HB1.out.trans (hb2.mono HB1.out.size)))); clear ho hb2 hob hob2 hoc))
  have hst : NOut w ob w2.heap.size (w2.heap.size + 1) ocur gs 0 [] ((w2.alloc (.cells (reps Vs.length (.slice none 0 0)) 60)).alloc (.cells (reps Vs.length (.bool false)) 4)) := by
    obtain ⟨h1, h2, h3⟩ := HO.out
    obtain ⟨l1, l2⟩ := HL.out
    have hobs := (Array.getElem?_eq_some_iff.1 h1).1
    refine ⟨?_, ?_, ?_, by simp [Rows], (h3.alloc h3.size _).alloc (by have := h3.size; simp; omega) _, h3.size, by have := h3.size; omega⟩
    · rw [Below.heap_alloc _ _ _ (by simp; omega), Below.heap_alloc _ _ _ hobs, h1]
    · rw [Below.heap_alloc _ _ _ (by simp), heap_alloc_new w2 _, l2]; simp [rowVals, reps]
    · have := heap_alloc_new (w2.alloc (.cells (reps Vs.length (.slice none 0 0)) 60)) (.cells (reps Vs.length (.bool false)) 4 (0, 0))
      rw [World.size_alloc] at this
      rw [this, l2]; simp [reps]
  generalize ((w2.alloc (.cells (reps Vs.length (.slice none 0 0)) 60)).alloc (.cells (reps Vs.length (.bool false)) 4)) = W3 at *
  generalize w2.heap.size + 1 = HPb at *
  generalize w2.heap.size = OR at *
  have HS := Lib.hid hst
  clear hst m47 m48 k1
  go_wp2
  go_loopw [37] (fun kv W => ∃ (k : Nat) (Xs : List Nat), kv = .int .i64 k ∧ Hid (k ≤ kz ∧ NOut w ob OR HPb ocur gs k Xs W)) (fun kv _ => 100 - (intOf kv).toNat)
  case atStart => exact ⟨0, [], rfl, Lib.hid ⟨Nat.zero_le _, HS.out⟩⟩
  case round =>
    obtain ⟨k, Xs, rfl, HK⟩ := hrel
    by_cases cc : k < kz
    · have c : k < Vs.length := by have := HK0.out; omega
      have HKK := Lib.hid cc
      have c1 : (k : Int) < (Vs.length : Int) := by omega
      obtain ⟨v, hv⟩ : ∃ v, Vs[k]? = some v := ⟨_, List.getElem?_eq_getElem c⟩
      obtain ⟨tx, htx⟩ : ∃ tx, Ts[k]? = some tx := ⟨_, List.getElem?_eq_getElem (by have := HL.out.1; omega)⟩
      obtain ⟨ts, hts⟩ : ∃ ts, gs[k]? = some ts := ⟨_, List.getElem?_eq_getElem (by have := HL.out.2; omega)⟩
      have hg := HG.out k v tx ts cc hv htx hts
      have q0 : wr.cell? ⟨ob, k, none⟩ = some (.string v) := by rw [cell_of_row _ _ _ _ _ _ HK.out.2.o, HO.out.2.1 k (.string v) (by simp [hv])]
      have HGS := Lib.hid hg
      have hpos := hg.pos
      have m60 := mk60 tx.length hg.le
      have q := q52
      have HC := Lib.hid (And.intro c hts)
      clear hv htx hts hg c cc
      go_upto_region 19 with (first
        | (go_at_call 26; refine (t39 _).mono ?_; rintro e w4 ⟨R, PB, IB, icap, rfl, hp, hr, hb⟩; have HA := Lib.hid (And.intro hp (And.intro hr hb)); clear hp hr hb)
        | (go_at_call 27; refine (HGS.out.valid _ _ _ _ _ HA.out.1 HA.out.2.1 (Utf8Tabs_below HT.out (HK.out.2.keep HA.out.2.2).b)).mono ?_; rintro e w5 ⟨rfl, hb5⟩; have HD := Lib.hid (HA.out.2.2.trans (hb5.mono HA.out.2.2.size)); clear hb5)
        | (go_at_call 29; refine (t42 _).mono ?_; rintro e w6 ⟨R, PB, IB, icap, rfl, hp, hr, hb⟩; have HA2 := Lib.hid (And.intro hp (And.intro hr (HD.out.trans (hb.mono HD.out.size)))); clear hp hr hb)
        | (go_at_call 30; refine (HGS.out.find _ _ _ _ _ HA2.out.1 HA2.out.2.1 (Utf8Tabs_below HT.out (HK.out.2.keep HA2.out.2.2).b)).mono ?_; rintro e w7 ⟨u, rfl, ho, hb7⟩; obtain ⟨cb, cc, hvu, hcb⟩ := World.ownsRow.form ho hpos; subst hvu; obtain ⟨ccur, h1, h2⟩ := own_cells ho hpos; have HF := Lib.hid (And.intro h1 (And.intro h2 (HA2.out.2.2.trans (hb7.mono HA2.out.2.2.size)))); clear ho hb7 hcb h1 h2))
      have hkp := HK.out.2.keep HF.out.2.2
      have hin : NIn w ob OR HPb ocur gs k Xs ts cb ccur w7.heap.size 0 [] false (w7.alloc (.cells (reps tx.length (.pointer none)) 61)) := by
        refine (hkp.keep ((Below.refl _ w7).alloc (Nat.le_refl _) _)).start (by have := HC.out.1; have := HL.out.2; omega) ts ?_ ?_ ?_ hkp.b.size
        · rw [Below.heap_alloc _ _ _ (Array.getElem?_eq_some_iff.1 HF.out.1).1, HF.out.1]
        · rw [heap_alloc_new w7 _, HGS.out.len]
        · intro hm
          obtain ⟨cs, hc⟩ := hkp.rows.mem_lt _ hm
          have := (Array.getElem?_eq_some_iff.1 hc).1
          omega
      generalize w7.alloc (.cells (reps tx.length (.pointer none)) 61) = W8 at *
      generalize w7.heap.size = RX at *
      have HN := Lib.hid hin
      have HX := Lib.hid (show Xs.length = k by have := hkp.rows.length; simp at this; have h1 := HC.out.1; have h2 := HL.out.2; omega)
      clear hin hkp m60 q q0 c1
      go_wp2
      go_loopw [61] (fun iv W => ∃ (i : Nat) (Cs : List Nat), iv = .int .i64 i ∧ Hid (i ≤ tx.length ∧ Cs.length = i ∧ NIn w ob OR HPb ocur gs k Xs ts cb ccur RX i Cs (anyPre (ts.take i)) W)) (fun iv _ => 2000 - (intOf iv).toNat)
      case atStart => exact ⟨0, [], rfl, Lib.hid ⟨Nat.zero_le _, rfl, HN.out⟩⟩
      case round =>
        obtain ⟨i, Cs, rfl, HI⟩ := hrel
        by_cases c : i < tx.length
        · have c1 : (i : Int) < (tx.length : Int) := by omega
          obtain ⟨x, hx⟩ : ∃ x, tx[i]? = some x := ⟨_, List.getElem?_eq_getElem c⟩
          obtain ⟨t, ht⟩ : ∃ t, ts[i]? = some t := ⟨_, List.getElem?_eq_getElem (by rw [← HGS.out.len]; exact c)⟩
          have q0 : wr.cell? ⟨cb, i, none⟩ = some (.string (bytesOf x)) := by rw [cell_of_row _ _ _ _ _ _ HI.out.2.2.c, HF.out.2.1 i (.string (bytesOf x)) (by simp [hx])]
          have HE := Lib.hid (HGS.out.each i x t hx ht)
          have HCI := Lib.hid (And.intro c ht)
          clear hx ht c
          go_upto_region 23 with (go_at_call 31; refine (HE.out _ (Utf8Tabs_below HT.out HI.out.2.2.b)).mono ?_; rintro e w9 ⟨C, rfl, hC1, hC2, hb9⟩; have HY := Lib.hid (And.intro (HI.out.2.2.keep hb9) hC2); clear hC1 hC2 hb9)
          obtain ⟨V, hcon, hver⟩ := HY.out.2
          have p0 : w9.cell? ⟨C, 0, none⟩ = some (.pointer (some ⟨V, 0, none⟩)) := cell_of_row _ _ 0 _ _ _ hcon
          have p3 : w9.cell? ⟨V, 3, none⟩ = some (.string (bytesOf t.pre)) := cell_of_row _ _ 3 _ _ _ hver
          clear hcon hver
          simp only [ptr] at HY ⊢
          have hx1 := HY.out.1
          have r0 : ∃ z, w9.cell? ⟨RX, i, none⟩ = some z := by
            have : i < (ptrRow Cs ts.length).size := by have := HGS.out.len; have := HCI.out.1; have := HI.out.2.1; simp [ptrRow]; omega
            exact ⟨_, by rw [cell_of_row _ _ _ _ _ _ hx1.x, Array.getElem?_eq_getElem this]⟩
          obtain ⟨z, r0⟩ := r0
          have rf := frozen_of_row _ _ i _ _ hx1.x
          have hle := HGS.out.le
          have kN : (k : Int) < (Vs.length : Int) := by have := HC.out.1; omega
          have hne : HPb ≠ RX := typ_ne hx1.h hx1.x (by decide)
          have hl : i < (ts.take i).length + 1 := by have := HGS.out.len; have := HCI.out.1; simp; omega
          have hany : anyPre (ts.take (i + 1)) = (anyPre (ts.take i) || !t.pre.isEmpty) := by
            rw [List.take_add_one, HCI.out.2]; simp [anyPre]
          have HZ := Lib.hid hany
          clear hx1 hl hany
          rcases hpre : t.pre with _ | ⟨y, pr⟩
          · rw [hpre] at p3 HZ
            have n1 := bytesOf_toList []
            go_wp2
            refine ⟨⟨i + 1, Cs ++ [C], by simp, Lib.hid ⟨by have := HCI.out.1; omega, by simp [HI.out.2.1], ?_⟩⟩, by simp only [intOf]; have := HCI.out.1; omega⟩
            rw [HZ.out]
            have := HY.out.1.term HCI.out.2 HI.out.2.1 HY.out.2
            simpa [ptr] using this
          · rw [hpre] at p3 HZ
            have n1 := bytesOf_toList (y :: pr)
            have h0 : ∃ z, w9.cell? ⟨HPb, k, none⟩ = some z := by
              refine ⟨.bool (anyPre (ts.take i)), ?_⟩
              rw [cell_of_row _ _ _ _ _ _ HY.out.1.h]
              have hl : (((gs.take k).map anyPre).map Value.bool).length = k := by simp; have := HC.out.1; have := HL.out.2; omega
              simp only [List.getElem?_toArray]
              rw [List.getElem?_append_right (by omega), hl, Nat.sub_self]
              rfl
            obtain ⟨z0, h0⟩ := h0
            have hf := frozen_of_row _ _ k _ _ HY.out.1.h
            go_wp2
            refine ⟨⟨i + 1, Cs ++ [C], by simp, Lib.hid ⟨by have := HCI.out.1; omega, by simp [HI.out.2.1], ?_⟩⟩, by simp only [intOf]; have := HCI.out.1; omega⟩
            rw [HZ.out]
            have hk : k < gs.length := by have := HC.out.1; have := HL.out.2; omega
            have hfr := free_of HY.out.1.h (by decide) (by decide)
            have := (HY.out.1.pre hk).term HCI.out.2 HI.out.2.1 (HY.out.2.kp (Kp.setCell HPb k w9 (.bool true)) hfr)
            simpa [ptr] using this
        · have hit : i = tx.length := by have := HI.out.1; omega
          subst hit
          clear c
          have kN : (k : Int) < (Vs.length : Int) := by have := HC.out.1; omega
          have r0 : ∃ z, wr.cell? ⟨OR, k, none⟩ = some z := by
            have h1 := HC.out.1
            have h2 := HL.out.2
            have hx := HX.out
            have h3 : (rowVals Xs (gs.take k)).length = k := by rw [rowVals_length (by simp; omega)]; simp; omega
            have : k < (rowVals Xs (gs.take k) ++ List.replicate (gs.length - k) (Value.slice none 0 0)).toArray.size := by simp [h3]; omega
            exact ⟨_, by rw [cell_of_row _ _ _ _ _ _ HI.out.2.2.r, Array.getElem?_eq_getElem this]⟩
          obtain ⟨z, r0⟩ := r0
          have rf := frozen_of_row _ _ k _ _ HI.out.2.2.r
          go_wp2
          refine ⟨⟨k + 1, Xs ++ [RX], by simp, Lib.hid ⟨by have := HKK.out; omega, ?_⟩⟩, by simp only [intOf]; have := HC.out.1; omega⟩
          have hlen := HGS.out.len
          have hd := HI.out.2.2.done hlen HC.out.2 (by rw [hlen, List.take_length]) HX.out
          unfold rowVal at hd
          rw [← hlen] at hd
          exact hd
    · have hkn : k = kz := by have := HK.out.1; omega
      have hkl : k < Vs.length := by have := HK0.out; omega
      have c1 : (k : Int) < (Vs.length : Int) := by omega
      obtain ⟨v, hv⟩ : ∃ v, Vs[k]? = some v := ⟨_, List.getElem?_eq_getElem hkl⟩
      have q0 : wr.cell? ⟨ob, k, none⟩ = some (.string v) := by rw [cell_of_row _ _ _ _ _ _ HK.out.2.o, HO.out.2.1 k (.string v) (by simp [hv])]
      have HB := Lib.hid (HBAD.out v (by rw [← hkn]; exact hv))
      clear hv hkn cc
      go_wp2_with (first
        | (go_at_call 26; refine (t39 _).mono ?_; rintro e w4 ⟨R, PB, IB, icap, rfl, hp, hr, hb⟩; have HA := Lib.hid (And.intro hp (And.intro hr hb)); clear hp hr hb)
        | (go_at_call 27; refine (HB.out _ _ _ _ _ HA.out.1 HA.out.2.1 (Utf8Tabs_below HT.out (HK.out.2.keep HA.out.2.2).b)).mono ?_; rintro e w5 ⟨rfl, hb5⟩; have HD := Lib.hid ((HK.out.2.keep HA.out.2.2).b.trans (hb5.mono (HK.out.2.keep HA.out.2.2).b.size)); clear hb5)
        | (go_at_call 28; refine (m23 _ _).mono ?_; rintro e w6 ⟨rfl, hw6⟩; have HE := Lib.hid hw6; clear hw6))
      go_ret2
      have hs := heap_alloc_new w5 (.cells #[.string ⟨#[105, 109, 112, 114, 111, 112, 101, 114, 32, 99, 111, 110, 115, 116, 114, 97, 105, 110, 116, 58, 32, 46, 46]⟩] 100 (0, 0))
      refine ⟨_, _, _, rfl, HD.out.size, by rw [HE.out]; exact hs, ?_⟩
      rw [HE.out]
      exact HD.out.alloc HD.out.size _
end Go.Proofs.YthejepmnnpmdmaaGreatDoor.Sv
end
section
set_option linter.unusedVariables false
set_option linter.unusedSimpArgs false
/- the reference's tests of a prerelease -/
namespace Go.Proofs.YthejepmnnpmdmaaGreatDoor.Sv
open Go Go.RowKit Rx
set_option maxRecDepth 100000
theorem dB_int (c : UInt8) : dB c = (decide ((48 : Int) ≤ (c.toNat : Int)) && decide ((c.toNat : Int) ≤ 57)) := by
  have := byte_all (p := fun c => dB c == (decide ((48 : Int) ≤ (c.toNat : Int)) && decide ((c.toNat : Int) ≤ 57))) (by decide +kernel) c
  simpa using this
theorem iB_int (c : UInt8) : iB c = (dB c || ((decide ((65 : Int) ≤ (c.toNat : Int)) && decide ((c.toNat : Int) ≤ 90)) || ((decide ((97 : Int) ≤ (c.toNat : Int)) && decide ((c.toNat : Int) ≤ 122)) || ((c.toNat : Int) == 45)))) := by
  have := byte_all (p := fun c => iB c == (dB c || ((decide ((65 : Int) ≤ (c.toNat : Int)) && decide ((c.toNat : Int) ≤ 90)) || ((decide ((97 : Int) ≤ (c.toNat : Int)) && decide ((c.toNat : Int) ≤ 122)) || ((c.toNat : Int) == 45))))) (by decide +kernel) c
  simpa using this
theorem m49 (c : UInt8) (w : World) : Calls Tryz.prog 23 #[.int .u8 (c.toNat : Nat)] w fun e w' => e = .returned (.bool (dB c)) ∧ w' = w := by
  rw [dB_int]
  generalize (c.toNat : Int) = n
  generalize h1 : decide ((48 : Int) ≤ n) = r1
  generalize h2 : decide (n ≤ 57) = r2
  go_enter Tryz.func23, Tryz.ntmps23
  cases r1 <;> cases r2 <;> go_wp2 <;> go_ret <;> exact ⟨rfl, rfl⟩
theorem m48 (c : UInt8) (w : World) : Calls Tryz.prog 14 #[.int .u8 (c.toNat : Nat)] w fun e w' => e = .returned (.bool (iB c)) ∧ w' = w := by
  have H := Lib.hid (m49 c w)
  rw [iB_int]
  generalize dB c = r at *
  generalize (c.toNat : Int) = n at *
  generalize h1 : decide ((65 : Int) ≤ n) = r1
  generalize h2 : decide (n ≤ 90) = r2
  generalize h3 : decide ((97 : Int) ≤ n) = r3
  generalize h4 : decide (n ≤ 122) = r4
  generalize h5 : (n == 45) = r5
  go_enter Tryz.func14, Tryz.ntmps14
  cases r <;> cases r1 <;> cases r2 <;> cases r3 <;> cases r4 <;> (go_wp2_with (go_at_call 23; refine H.out.mono ?_; rintro e w1 ⟨rfl, hw⟩; subst hw)) <;> go_ret <;> exact ⟨rfl, rfl⟩
theorem get_bytes {s : Bs} {i : Nat} (h : i < (bytesOf s).size) (h' : i < s.length) : (bytesOf s)[i]'h = s[i]'h' := by simp [bytesOf]; rfl
set_option maxHeartbeats 1000000 in
theorem m29 (s : Bs) (hs : s.length ≤ 9000000000000000000) (w : World) : Calls Tryz.prog 7 #[.string (bytesOf s)] w fun e w' => e = .returned (.bool (s.all iB && !s.isEmpty)) ∧ w' = w := by
  have H := Lib.hid (fun c => m48 c w)
  have hsI : (s.length : Int) ≤ 9000000000000000000 := by omega
  have hsz := bytesOf_size s
  have e1 := bytesOf_toList s
  go_enter Tryz.func7, Tryz.ntmps7
  go_wp2
  go_loop [3] (fun iv => ∃ i : Nat, i ≤ s.length ∧ iv = .int .i64 i ∧ ∀ j (h : j < s.length), j < i → iB (s[j]'h) = true) (fun iv => s.length - (intOf iv).toNat)
  case atStart => exact ⟨0, Nat.zero_le _, rfl, fun j h h' => by omega⟩
  case round =>
    obtain ⟨i, hi, rfl, hall⟩ := hrel
    have HA := Lib.hid hall
    clear hall
    by_cases hlt : i < s.length
    · obtain ⟨c, hc⟩ : ∃ c, s[i]'hlt = c := ⟨_, rfl⟩
      have hg := get_bytes (s := s) (i := i) (by omega) hlt
      rw [hc] at hg
      have H1 := Lib.hid (H.out c)
      obtain ⟨r, hr⟩ : ∃ r, iB c = r := ⟨_, rfl⟩
      rw [hr] at H1
      have HR := Lib.hid (And.intro hc hr)
      clear hc hr
      cases r
      · go_wp2_with (go_at_call 14; refine H1.out.mono ?_; rintro e w1 ⟨rfl, hw⟩; subst hw)
        go_ret
        refine ⟨?_, rfl⟩
        have : s.all iB = false := by
          rw [List.all_eq_false]
          exact ⟨c, by rw [← HR.out.1]; exact List.getElem_mem hlt, by rw [HR.out.2]; simp⟩
        rw [this]; rfl
      · go_wp2_with (go_at_call 14; refine H1.out.mono ?_; rintro e w1 ⟨rfl, hw⟩; subst hw)
        go_round
        case rel =>
          refine ⟨i + 1, by omega, by go_num, fun j h h' => ?_⟩
          by_cases hj : j = i
          · subst hj; rw [HR.out.1]; exact HR.out.2
          · exact HA.out j h (by omega)
        case measure => simp [intOf]; omega
    · have he : s.all iB = true := List.all_eq_true.2 fun y hy => by
        obtain ⟨j, hj, rfl⟩ := List.getElem_of_mem hy
        exact HA.out j hj (by omega)
      have HE := Lib.hid he
      clear he
      go_wp2
      go_ret
      refine ⟨?_, rfl⟩
      rw [HE.out]
      cases s with
      | nil => rfl
      | cons y l => rfl
set_option maxHeartbeats 1000000 in
theorem m30 (s : Bs) (hs : s.length ≤ 9000000000000000000) (w : World) : Calls Tryz.prog 51 #[.string (bytesOf s)] w fun e w' => e = .returned (.bool (s.all dB && !s.isEmpty)) ∧ w' = w := by
  have H := Lib.hid (fun c => m49 c w)
  have hsI : (s.length : Int) ≤ 9000000000000000000 := by omega
  have hsz := bytesOf_size s
  have e1 := bytesOf_toList s
  go_enter Tryz.func51, Tryz.ntmps51
  go_wp2
  go_loop [3] (fun iv => ∃ i : Nat, i ≤ s.length ∧ iv = .int .i64 i ∧ ∀ j (h : j < s.length), j < i → dB (s[j]'h) = true) (fun iv => s.length - (intOf iv).toNat)
  case atStart => exact ⟨0, Nat.zero_le _, rfl, fun j h h' => by omega⟩
  case round =>
    obtain ⟨i, hi, rfl, hall⟩ := hrel
    have HA := Lib.hid hall
    clear hall
    by_cases hlt : i < s.length
    · obtain ⟨c, hc⟩ : ∃ c, s[i]'hlt = c := ⟨_, rfl⟩
      have hg := get_bytes (s := s) (i := i) (by omega) hlt
      rw [hc] at hg
      have H1 := Lib.hid (H.out c)
      obtain ⟨r, hr⟩ : ∃ r, dB c = r := ⟨_, rfl⟩
      rw [hr] at H1
      have HR := Lib.hid (And.intro hc hr)
      clear hc hr
      cases r
      · go_wp2_with (go_at_call 23; refine H1.out.mono ?_; rintro e w1 ⟨rfl, hw⟩; subst hw)
        go_ret
        refine ⟨?_, rfl⟩
        have : s.all dB = false := by
          rw [List.all_eq_false]
          exact ⟨c, by rw [← HR.out.1]; exact List.getElem_mem hlt, by rw [HR.out.2]; simp⟩
        rw [this]; rfl
      · go_wp2_with (go_at_call 23; refine H1.out.mono ?_; rintro e w1 ⟨rfl, hw⟩; subst hw)
        go_round
        case rel =>
          refine ⟨i + 1, by omega, by go_num, fun j h h' => ?_⟩
          by_cases hj : j = i
          · subst hj; rw [HR.out.1]; exact HR.out.2
          · exact HA.out j h (by omega)
        case measure => simp [intOf]; omega
    · have he : s.all dB = true := List.all_eq_true.2 fun y hy => by
        obtain ⟨j, hj, rfl⟩ := List.getElem_of_mem hy
        exact HA.out j hj (by omega)
      have HE := Lib.hid he
      clear he
      go_wp2
      go_ret
      refine ⟨?_, rfl⟩
      rw [HE.out]
      cases s with
      | nil => rfl
      | cons y l => rfl
end Go.Proofs.YthejepmnnpmdmaaGreatDoor.Sv
end
section
set_option linter.unusedVariables false
set_option linter.unusedSimpArgs false
/- the reference's identifiers; what it takes as a prerelease is good -/
namespace Go.Proofs.YthejepmnnpmdmaaGreatDoor.Sv
open Go Go.RowKit Rx
set_option maxRecDepth 100000
theorem seg_extract {u : Bs} {fr i : Nat} (h : fr ≤ i) (hi : i ≤ u.length) : (bytesOf u).extract fr i = bytesOf ((u.drop fr).take (i - fr)) := by
  refine extract_eq (A := u.take fr) (B := (u.drop fr).take (i - fr)) (C := u.drop i) ?_ (by simp; omega) (by simp; omega)
  show u.toArray.toList = _
  rw [List.toList_toArray]
  conv => lhs; rw [← List.take_append_drop fr u, ← List.take_append_drop (i - fr) (u.drop fr), List.drop_drop]
  congr 3
  omega
theorem seg_dot {u : Bs} {fr i : Nat} (h : fr ≤ i) (hi : i < u.length) (hd : u[i]'hi = 46) (hn : ∀ j (hj : j < u.length), fr ≤ j → j < i → u[j]'hj ≠ 46) : idents (u.drop fr) = (u.drop fr).take (i - fr) :: idents (u.drop (i + 1)) := by
  have e : u.drop fr = (u.drop fr).take (i - fr) ++ 46 :: u.drop (i + 1) := by
    conv => lhs; rw [← List.take_append_drop (i - fr) (u.drop fr), List.drop_drop]
    rw [show fr + (i - fr) = i by omega, List.drop_eq_getElem_cons hi, hd]
  conv => lhs; rw [e]
  refine idents_at fun y hy => ?_
  obtain ⟨j, hj, rfl⟩ := List.getElem_of_mem hy
  have hj2 : j < i - fr := by simp at hj; omega
  rw [List.getElem_take, List.getElem_drop]
  exact hn (fr + j) (by omega) (by omega) (by omega)
theorem seg_end {u : Bs} {fr : Nat} (h : fr ≤ u.length) (hn : ∀ j (hj : j < u.length), fr ≤ j → u[j]'hj ≠ 46) : idents (u.drop fr) = [u.drop fr] := by
  refine idents_none fun y hy => ?_
  obtain ⟨j, hj, rfl⟩ := List.getElem_of_mem hy
  rw [List.getElem_drop]
  exact hn (fr + j) (by simp at hj; omega) (by omega)
set_option maxHeartbeats 4000000 in
theorem m28 (u : Bs) (hu : u.length ≤ 2147483647) (w : World) : Calls Tryz.prog 50 #[.string (bytesOf u)] w fun e w' => ∃ v : Value, e = .returned v ∧ w'.ownsRow w.heap.size 9 1 v (idents u).length ((idents u).map fun d => Value.string (bytesOf d)) ∧ Below w.heap.size w w' := by
  obtain ⟨i0, hi, hz0, hz1, hz2⟩ := info_parts info9
  have HI := Lib.hid (And.intro hi (And.intro hz0 (And.intro hz1 hz2)))
  have HSZ := Lib.hid hu
  have hsz := bytesOf_size u
  have k9 : (u.length : Int) ≤ 2147483647 := by omega
  clear hi hz0 hz1 hz2
  go_enter Tryz.func50, Tryz.ntmps50
  go_wp2
  go_loopw [3, 4, 5] (fun lv fv iv wr => ∃ i fr : Nat, iv = .int .i64 i ∧ fv = .int .i64 fr ∧ i ≤ u.length ∧ fr ≤ i ∧ ∃ D : List Bs, Hid (D.length ≤ fr ∧ D ++ idents (u.drop fr) = idents u ∧ (∀ j (hj : j < u.length), fr ≤ j → j < i → u[j]'hj ≠ 46) ∧ wr.ownsRow w.heap.size 9 1 lv D.length (D.map fun d => Value.string (bytesOf d)) ∧ Below w.heap.size w wr)) (fun _ _ iv _ => 3000000000 - (intOf iv).toNat)
  case atStart => exact ⟨0, 0, rfl, rfl, Nat.zero_le _, Nat.zero_le _, [], Lib.hid ⟨by simp, by simp, fun j hj h1 h2 => by omega, World.ownsRow_nil w w.heap.size 9 1, Below.refl _ _⟩⟩
  case round =>
    obtain ⟨i, fr, rfl, rfl, hi, hf, D, HR⟩ := hrel
    have k1 : (fr : Int) ≤ (i : Int) := by omega
    have k2 : (i : Int) ≤ (u.length : Int) := by omega
    have k3 : (fr : Int) ≤ (u.length : Int) := by omega
    by_cases c : i < u.length
    · have c1 : (i : Int) < (u.length : Int) := by omega
      obtain ⟨y, hy⟩ : ∃ y, u[i]'c = y := ⟨_, rfl⟩
      have hg := get_bytes (s := u) (i := i) (by omega) c
      rw [hy] at hg
      have HY := Lib.hid hy
      clear hy
      by_cases hd : y = 46
      · have HD := Lib.hid hd
        have z0 : ((y.toNat : Int) == 46) = true := by subst hd; rfl
        clear hd
        go_wp2_with ((with_reducible refine wpList_append_own (o := ⟨some 22, _, _, _, _, _⟩) _ ?h1 (.tmp 16) (.tmp 21) 29 ?h2 w.heap.size 9 i0 (.string ⟨#[]⟩) 1 16 Tryz.underlying29 HI.out.1 HI.out.2.1 HI.out.2.2.1 HI.out.2.2.2 rfl (by decide) _ D.length _ ?h3 (HR.out.2.2.2.1.alloc _) ⟨wr.heap.size, 0, none⟩ 1 1 [.string ((bytesOf u).extract fr i)] ?h4 rfl ?h5 ?h6 ?h7 ?h8 ?h9 ?_); (case h1 => rfl); (case h2 => rfl); (case h3 => rfl); (case h4 => rfl); (case h5 => exact cell_one_new _ _ _); (case h6 => simp [Value.oneCell']); (case h7 => (have := HR.out.1; have := HSZ.out; unfold maxLen; omega)); (case h8 => (have := HR.out.1; have := HSZ.out; omega)); (case h9 => (have := HR.out.2.2.2.2.size; simp; omega)); intro v' w2 ho' hg' _; have HN := Lib.hid (And.intro ho' (own_fin HR.out.2.2.2.1 HR.out.2.2.2.2 hg')); clear ho' hg')
        obtain ⟨n1, n2⟩ := HN.out
        obtain ⟨r1, r2, r3, r4, r5⟩ := HR.out
        have e1 := seg_dot hf c (HY.out.trans HD.out) r3
        rw [seg_extract hf hi] at n1
        refine ⟨⟨i + 1, i + 1, rfl, rfl, by omega, Nat.le_refl _, D ++ [(u.drop fr).take (i - fr)], Lib.hid ⟨by simp; omega, by rw [← r2, e1]; simp, fun j hj h1 h2 => by omega, by simpa using n1, n2⟩⟩, by simp [intOf]; omega⟩
      · have HD := Lib.hid hd
        have z0 : ((y.toNat : Int) == 46) = false := by
          cases h : ((y.toNat : Int) == 46) with
          | false => rfl
          | true => exact absurd (UInt8.toNat_inj.1 (show y.toNat = (46 : UInt8).toNat by simp at h; rw [show (46 : UInt8).toNat = 46 from rfl]; omega)) hd
        clear hd
        go_wp2
        obtain ⟨r1, r2, r3, r4, r5⟩ := HR.out
        refine ⟨⟨i + 1, fr, rfl, rfl, by omega, by omega, D, Lib.hid ⟨r1, r2, fun j hj h1 h2 => ?_, r4, r5⟩⟩, by simp [intOf]; omega⟩
        by_cases hj2 : j = i
        · subst hj2; rw [HY.out]; exact HD.out
        · exact r3 j hj h1 (by omega)
    · have c1 : ¬ (i : Int) < (u.length : Int) := by omega
      go_wp2_with ((with_reducible refine wpList_append_own (o := ⟨some 30, _, _, _, _, _⟩) _ ?h1 (.tmp 25) (.tmp 29) 29 ?h2 w.heap.size 9 i0 (.string ⟨#[]⟩) 1 16 Tryz.underlying29 HI.out.1 HI.out.2.1 HI.out.2.2.1 HI.out.2.2.2 rfl (by decide) _ D.length _ ?h3 (HR.out.2.2.2.1.alloc _) ⟨wr.heap.size, 0, none⟩ 1 1 [.string ((bytesOf u).extract fr u.length)] ?h4 rfl ?h5 ?h6 ?h7 ?h8 ?h9 ?_); (case h1 => rfl); (case h2 => rfl); (case h3 => rfl); (case h4 => rfl); (case h5 => exact cell_one_new _ _ _); (case h6 => simp [Value.oneCell']); (case h7 => (have := HR.out.1; have := HSZ.out; unfold maxLen; omega)); (case h8 => (have := HR.out.1; have := HSZ.out; omega)); (case h9 => (have := HR.out.2.2.2.2.size; simp; omega)); intro v' w2 ho' hg' _; have HN := Lib.hid (And.intro ho' (own_fin HR.out.2.2.2.1 HR.out.2.2.2.2 hg')); clear ho' hg')
      go_ret
      obtain ⟨n1, n2⟩ := HN.out
      obtain ⟨r1, r2, r3, r4, r5⟩ := HR.out
      have e1 := seg_end (by omega) fun j hj h1 => r3 j hj h1 (by omega)
      rw [seg_extract (by omega) (Nat.le_refl _), List.take_of_length_le (by simp)] at n1
      refine ⟨_, rfl, ?_, n2⟩
      rw [← r2, e1]
      simpa using n1
end Go.Proofs.YthejepmnnpmdmaaGreatDoor.Sv
end
section
set_option linter.unusedVariables false
set_option linter.unusedSimpArgs false
/- what the reference takes as a prerelease is good -/
namespace Go.Proofs.YthejepmnnpmdmaaGreatDoor.Sv
open Go Go.RowKit Rx
set_option maxRecDepth 100000
theorem idents_le : ∀ (u : Bs), ∀ d ∈ idents u, d.length ≤ u.length
  | [], d, h => by simp [idents] at h; subst h; simp
  | x :: l, d, h => by
    have ih := idents_le l
    unfold idents at h
    split at h
    · rcases List.mem_cons.1 h with rfl | h
      · simp
      · have := ih d h; simp; omega
    · split at h
      · rcases List.mem_cons.1 h with rfl | h
        · simp
        · cases h
      · rename_i y r e
        rcases List.mem_cons.1 h with rfl | h
        · have := ih y (by rw [e]; simp)
          simp; omega
        · have := ih d (by rw [e]; exact List.mem_cons_of_mem _ h)
          simp; omega
/-- a round's start: the identifier at hand -/
theorem id_cell {wr w1 : World} {ob k : Nat} {ocur : Array Value} {L : List Bs} {d : Bs} (h1 : w1.heap[ob]? = some (.cells ocur 9 (0, 0))) (h2 : ∀ (j : Nat) (v : Value), (L.map fun d => Value.string (bytesOf d))[j]? = some v → ocur[j]? = some v) (hw : Below w1.heap.size w1 wr) (hd : L[k]? = some d) : wr.cell? ⟨ob, k, none⟩ = some (.string (bytesOf d)) := by
  rw [hw.cell (p := ⟨ob, k, none⟩) (Array.getElem?_eq_some_iff.1 h1).1, cell_of_row _ _ _ _ _ _ h1, h2 k (.string (bytesOf d)) (by simp [hd])]
/-- some bool; true only where P holds -/
def OkB (e : Ending) (P : Prop) : Prop := ∃ r : Bool, e = .returned (.bool r) ∧ (r = true → P)
set_option maxHeartbeats 4000000 in
theorem m14 (u : Bs) (hu : u.length ≤ 2147483647) (w : World) : Calls Tryz.prog 33 #[.string (bytesOf u)] w fun e w' => OkB e (PreOk u) ∧ Below w.heap.size w w' := by
  have H := Lib.hid (m28 u hu w)
  have hlen := idents_len u
  have hle := idents_le u
  have hne := idents_ne u
  obtain ⟨L, hL⟩ : ∃ L, idents u = L := ⟨_, rfl⟩
  have e0 : PreOk u ↔ ∀ i ∈ L, idOk i := by unfold PreOk; rw [hL]
  rw [hL] at H hlen hle hne
  have hnz : 0 < L.length := List.length_pos_iff.2 hne
  have hln : (L.length : Int) ≤ 2147483648 := by omega
  have HE := Lib.hid (And.intro e0 (And.intro hle hu))
  clear hL hlen hle hne e0
  go_enter Tryz.func33, Tryz.ntmps33
  go_upto_region 2 with (go_at_call 50; refine H.out.mono ?_; rintro e w1 ⟨v, rfl, ho, hb⟩; obtain ⟨ob, oc, hv2, hob⟩ := World.ownsRow.form ho hnz; subst hv2; obtain ⟨ocur, hob2, hoc⟩ := own_cells ho hnz; have HO := Lib.hid (And.intro hob2 (And.intro hoc hb)); clear ho hb hob hob2 hoc)
  go_wp2
  go_loopw [8] (fun kv W => ∃ k : Nat, kv = .int .i64 k ∧ k ≤ L.length ∧ Hid (Below w1.heap.size w1 W ∧ ∀ j (h : j < L.length), j < k → idOk (L[j]'h))) (fun kv _ => 3000000000 - (intOf kv).toNat)
  case atStart => exact ⟨0, rfl, Nat.zero_le _, Lib.hid ⟨Below.refl _ _, fun j h h' => by omega⟩⟩
  case round =>
    obtain ⟨k, rfl, hk, HW⟩ := hrel
    by_cases c : k < L.length
    · have c1 : (k : Int) < (L.length : Int) := by omega
      obtain ⟨d, hd⟩ : ∃ d, L[k]? = some d := ⟨_, List.getElem?_eq_getElem c⟩
      have q0 := id_cell HO.out.1 HO.out.2.1 HW.out.1 hd
      have hdl : d.length ≤ 2147483647 := by have := HE.out.2.1 d (List.mem_of_getElem? hd); have := HE.out.2.2; omega
      have Ha := Lib.hid (m29 d (by omega) wr)
      have Hb := Lib.hid (m30 d (by omega) wr)
      have HK : Hid (L[k]'c = d) := Lib.hid (by rw [List.getElem?_eq_getElem c] at hd; exact Option.some.inj hd)
      have hsz := bytesOf_size d
      have hnext : idOk d → ∀ j (h : j < L.length), j < k + 1 → idOk (L[j]'h) := fun hi j h h' => by
        by_cases hj : j = k
        · subst hj; rw [HK.out]; exact hi
        · exact HW.out.2 j h (by omega)
      have HN := Lib.hid hnext
      obtain ⟨b1, hb1⟩ : ∃ b, (d.all iB && !d.isEmpty) = b := ⟨_, rfl⟩
      obtain ⟨b2, hb2⟩ : ∃ b, (d.all dB && !d.isEmpty) = b := ⟨_, rfl⟩
      rw [hb1] at Ha
      rw [hb2] at Hb
      have HB := Lib.hid (And.intro hb1 hb2)
      clear hd hb1 hb2 hnext
      cases b1
      · go_wp2_with (go_at_call 7; refine Ha.out.mono ?_; rintro e w2 ⟨rfl, hw⟩; subst hw)
        go_ret
        exact ⟨⟨_, rfl, fun h => by cases h⟩, HO.out.2.2.trans (HW.out.1.mono HO.out.2.2.size)⟩
      · have hok : okPart iB d := by
          have h := HB.out.1
          simp only [Bool.and_eq_true] at h
          exact ⟨fun e => by subst e; simp at h, fun y hy => List.all_eq_true.1 h.1 y hy⟩
        have HOK := Lib.hid hok
        clear hok
        cases b2
        · go_wp2_with (first
            | (go_at_call 7; refine Ha.out.mono ?_; rintro e w2 ⟨rfl, hw⟩; subst hw)
            | (go_at_call 51; refine Hb.out.mono ?_; rintro e w2 ⟨rfl, hw⟩; subst hw))
          refine ⟨⟨k + 1, rfl, by omega, Lib.hid ⟨HW.out.1, HN.out ⟨HOK.out, fun h => ?_⟩⟩⟩, by simp [intOf]; omega⟩
          have h2 := HB.out.2
          have h3 : d.all dB = true := List.all_eq_true.2 h.1
          have h4 : d.isEmpty = false := by cases d with | nil => exact absurd rfl HOK.out.1 | cons y l => rfl
          rw [h3, h4] at h2; cases h2
        · by_cases h1 : 1 < d.length
          · have h1' : (1 : Int) < (d.length : Int) := by omega
            have hz : 0 < (bytesOf d).size := by omega
            obtain ⟨y, hy⟩ : ∃ y, d[0]'(by omega) = y := ⟨_, rfl⟩
            have hg : (bytesOf d)[0]'hz = y := (get_bytes hz (by omega)).trans hy
            have HY := Lib.hid hy
            clear hy
            obtain ⟨r, hr⟩ : ∃ r, ((y.toNat : Int) == 48) = r := ⟨_, rfl⟩
            cases r
            · go_wp2_with (first
                | (go_at_call 7; refine Ha.out.mono ?_; rintro e w2 ⟨rfl, hw⟩; subst hw)
                | (go_at_call 51; refine Hb.out.mono ?_; rintro e w2 ⟨rfl, hw⟩; subst hw))
              refine ⟨⟨k + 1, rfl, by omega, Lib.hid ⟨HW.out.1, HN.out ⟨HOK.out, fun h => ?_⟩⟩⟩, by simp [intOf]; omega⟩
              have h3 := h.2.2
              rw [List.head?_eq_getElem?, List.getElem?_eq_getElem (by omega)] at h3
              have h4 : y = 48 := by rw [← HY.out]; exact Option.some.inj h3
              subst h4
              simp at hr
            · go_wp2_with (first
                | (go_at_call 7; refine Ha.out.mono ?_; rintro e w2 ⟨rfl, hw⟩; subst hw)
                | (go_at_call 51; refine Hb.out.mono ?_; rintro e w2 ⟨rfl, hw⟩; subst hw))
              go_ret
              exact ⟨⟨_, rfl, fun h => by cases h⟩, HO.out.2.2.trans (HW.out.1.mono HO.out.2.2.size)⟩
          · have h1' : ¬ (1 : Int) < (d.length : Int) := by omega
            go_wp2_with (first
              | (go_at_call 7; refine Ha.out.mono ?_; rintro e w2 ⟨rfl, hw⟩; subst hw)
              | (go_at_call 51; refine Hb.out.mono ?_; rintro e w2 ⟨rfl, hw⟩; subst hw))
            exact ⟨⟨k + 1, rfl, by omega, Lib.hid ⟨HW.out.1, HN.out ⟨HOK.out, fun h => h1 h.2.1⟩⟩⟩, by simp [intOf]; omega⟩
    · have c1 : ¬ (k : Int) < (L.length : Int) := by omega
      go_wp2
      go_ret
      refine ⟨⟨_, rfl, fun _ => HE.out.1.2 fun i hi => ?_⟩, HO.out.2.2.trans (HW.out.1.mono HO.out.2.2.size)⟩
      obtain ⟨j, hj, rfl⟩ := List.getElem_of_mem hi
      exact HW.out.2 j hj (by omega)
set_option maxHeartbeats 4000000 in
theorem m15 (u : Bs) (hu : u.length ≤ 2147483647) (w : World) : Calls Tryz.prog 34 #[.string (bytesOf u)] w fun e w' => SomeB e ∧ Below w.heap.size w w' := by
  have H := Lib.hid (m28 u hu w)
  have hlen := idents_len u
  have hle := idents_le u
  have hne := idents_ne u
  obtain ⟨L, hL⟩ : ∃ L, idents u = L := ⟨_, rfl⟩
  rw [hL] at H hlen hle hne
  have hnz : 0 < L.length := List.length_pos_iff.2 hne
  have hln : (L.length : Int) ≤ 2147483648 := by omega
  have HE := Lib.hid (And.intro hle hu)
  clear hL hlen hle hne
  go_enter Tryz.func34, Tryz.ntmps34
  go_upto_region 2 with (go_at_call 50; refine H.out.mono ?_; rintro e w1 ⟨v, rfl, ho, hb⟩; obtain ⟨ob, oc, hv2, hob⟩ := World.ownsRow.form ho hnz; subst hv2; obtain ⟨ocur, hob2, hoc⟩ := own_cells ho hnz; have HO := Lib.hid (And.intro hob2 (And.intro hoc hb)); clear ho hb hob hob2 hoc)
  go_wp2
  go_loopw [8] (fun kv W => ∃ k : Nat, kv = .int .i64 k ∧ k ≤ L.length ∧ Hid (Below w1.heap.size w1 W)) (fun kv _ => 3000000000 - (intOf kv).toNat)
  case atStart => exact ⟨0, rfl, Nat.zero_le _, Lib.hid (Below.refl _ _)⟩
  case round =>
    obtain ⟨k, rfl, hk, HW⟩ := hrel
    by_cases c : k < L.length
    · have c1 : (k : Int) < (L.length : Int) := by omega
      obtain ⟨d, hd⟩ : ∃ d, L[k]? = some d := ⟨_, List.getElem?_eq_getElem c⟩
      have q0 := id_cell HO.out.1 HO.out.2.1 HW.out hd
      have hdl : d.length ≤ 2147483647 := by have := HE.out.1 d (List.mem_of_getElem? hd); have := HE.out.2; omega
      have Hb := Lib.hid (m30 d (by omega) wr)
      have hsz := bytesOf_size d
      generalize (d.all dB && !d.isEmpty) = r at *
      obtain ⟨r2, hr2⟩ : ∃ r, decide ((19 : Int) < (d.length : Int)) = r := ⟨_, rfl⟩
      clear hd
      cases r <;> cases r2
      all_goals go_wp2_with (go_at_call 51; refine Hb.out.mono ?_; rintro e w2 ⟨rfl, hw⟩; subst hw)
      all_goals first
        | exact ⟨⟨k + 1, rfl, by omega, HW⟩, by simp [intOf]; omega⟩
        | (go_ret; exact ⟨⟨_, rfl⟩, HO.out.2.2.trans (HW.out.mono HO.out.2.2.size)⟩)
    · have c1 : ¬ (k : Int) < (L.length : Int) := by omega
      go_wp2
      go_ret
      exact ⟨⟨_, rfl⟩, HO.out.2.2.trans (HW.out.mono HO.out.2.2.size)⟩
end Go.Proofs.YthejepmnnpmdmaaGreatDoor.Sv
end
section
set_option linter.unusedVariables false
set_option linter.unusedSimpArgs false
/- a good term, good terms -/
namespace Go.Proofs.YthejepmnnpmdmaaGreatDoor.Sv
open Go Go.RowKit Rx
set_option maxRecDepth 100000
/-- a term as it comes -/
structure TV where
  op : Int
  g : Int
  a : Nat
  b : Nat
  c : Nat
  pre : Bs
def TV.cells (t : TV) : List Value := [.int .i64 t.op, .int .i64 t.g, .int .u64 t.a, .int .u64 t.b, .int .u64 t.c, .string (bytesOf t.pre)]
def TV.val (t : TV) : Value := .agg #[.int .i64 t.op, .int .i64 t.g, .int .u64 t.a, .int .u64 t.b, .int .u64 t.c, .string (bytesOf t.pre)]
structure TV.Good (t : TV) : Prop where
  op : 0 ≤ t.op ∧ t.op < 8
  g : 0 ≤ t.g ∧ t.g ≤ 3
  c : t.g < 3 → t.c = 0 ∧ t.pre = []
  b : t.g < 2 → t.b = 0
  a : t.g < 1 → t.a = 0
  pre : t.pre = [] ∨ PreOk t.pre
set_option maxHeartbeats 8000000 in
theorem m9 (t : TV) (hu : t.pre.length ≤ 2147483647) (w : World) : Calls Tryz.prog 19 #[t.val] w fun e w' => OkB e t.Good ∧ Below w.heap.size w w' := by
  obtain ⟨op, g, a, b, c, pre⟩ := t
  unfold TV.val
  simp only at *
  have H0 : Below w.heap.size w (w.alloc (.cells #[.int .i64 op, .int .i64 g, .int .u64 a, .int .u64 b, .int .u64 c, .string (bytesOf pre)] 36)) := (Below.refl _ w).alloc (Nat.le_refl _) _
  have H14 := Lib.hid (fun w => m14 pre hu w)
  have H15 := Lib.hid (fun w => m15 pre hu w)
  have hcs := heap_alloc_new w (.cells #[.int .i64 op, .int .i64 g, .int .u64 a, .int .u64 b, .int .u64 c, .string (bytesOf pre)] 36 (0, 0))
  have e1 := bytesOf_toList pre
  obtain ⟨ra, hra⟩ : ∃ r, ((a : Int) == 0) = r := ⟨_, rfl⟩
  obtain ⟨rb, hrb⟩ : ∃ r, ((b : Int) == 0) = r := ⟨_, rfl⟩
  obtain ⟨rc, hrc⟩ : ∃ r, ((c : Int) == 0) = r := ⟨_, rfl⟩
  have hna : ((a : Int) != 0) = !ra := by rw [← hra]; rfl
  have hnb : ((b : Int) != 0) = !rb := by rw [← hrb]; rfl
  have hnc : ((c : Int) != 0) = !rc := by rw [← hrc]; rfl
  obtain ⟨g0, hg0⟩ : ∃ r, (g == 0) = r := ⟨_, rfl⟩
  obtain ⟨g3, hg3⟩ : ∃ r, (g == 3) = r := ⟨_, rfl⟩
  obtain ⟨o0, ho0⟩ : ∃ r, (op != 0) = r := ⟨_, rfl⟩
  obtain ⟨o4, ho4⟩ : ∃ r, (op != 4) = r := ⟨_, rfl⟩
  obtain ⟨o6, ho6⟩ : ∃ r, (op != 6) = r := ⟨_, rfl⟩
  obtain ⟨o7, ho7⟩ : ∃ r, (op == 6) = r := ⟨_, rfl⟩
  obtain ⟨rp, hrp⟩ : ∃ r, (pre == ([] : Bs)) = r := ⟨_, rfl⟩
  have hnp : (pre != ([] : Bs)) = !rp := by rw [← hrp]; rfl
  have HZ := Lib.hid (And.intro hra (And.intro hrb (And.intro hrc hrp)))
  go_enter Tryz.func19, Tryz.ntmps19
  go_upto_region 1 with fail
  generalize w.alloc (.cells #[.int .i64 op, .int .i64 g, .int .u64 a, .int .u64 b, .int .u64 c, .string (bytesOf pre)] 36) = w0 at *
  generalize w.heap.size = T at hcs ⊢
  have q0 : w0.cell? ⟨T, 0, none⟩ = some (.int .i64 op) := cell_of_row _ _ 0 _ _ _ hcs
  have q1 : w0.cell? ⟨T, 1, none⟩ = some (.int .i64 g) := cell_of_row _ _ 1 _ _ _ hcs
  have q2 : w0.cell? ⟨T, 2, none⟩ = some (.int .u64 a) := cell_of_row _ _ 2 _ _ _ hcs
  have q3 : w0.cell? ⟨T, 3, none⟩ = some (.int .u64 b) := cell_of_row _ _ 3 _ _ _ hcs
  have q4 : w0.cell? ⟨T, 4, none⟩ = some (.int .u64 c) := cell_of_row _ _ 4 _ _ _ hcs
  have q5 : w0.cell? ⟨T, 5, none⟩ = some (.string (bytesOf pre)) := cell_of_row _ _ 5 _ _ _ hcs
  have hTl : T < w0.heap.size := (Array.getElem?_eq_some_iff.1 hcs).1
  clear hcs
  go_cut [3] from 4 to 17 (fun s3 wc => ∃ r : Bool, s3 = .bool r ∧ wc = w0)
  case first =>
    go_wp2
    all_goals go_meet
    all_goals exact ⟨_, rfl, rfl⟩
  case rest =>
    obtain ⟨z, rfl, hw⟩ := hcut
    obtain rfl := hw.symm
    go_upto_region 2 with fail
    go_cut [17] from 18 to 49 (fun s17 wc => ∃ r : Bool, s17 = .bool r ∧ wc = w0)
    case first =>
      go_wp2
      all_goals go_meet
      all_goals exact ⟨_, rfl, rfl⟩
    case rest =>
      obtain ⟨z2, rfl, hw⟩ := hcut
      obtain rfl := hw.symm
      cases z2
      · go_upto_region 4 with fail
        go_cut [49] from 50 to 68 (fun s49 wc => ∃ r : Bool, s49 = .bool r ∧ wc = w0 ∧ (r = false → (0 ≤ op ∧ op < 8) ∧ 0 ≤ g ∧ g ≤ 3))
        case first =>
          go_wp2
          all_goals go_meet
          all_goals first
            | (refine ⟨_, rfl, rfl, fun h => ?_⟩; cases h; done)
            | (refine ⟨_, rfl, rfl, fun h => ?_⟩; simp at h; omega)
        case rest =>
          obtain ⟨z3, rfl, hw, h3⟩ := hcut
          obtain rfl := hw.symm
          cases z3
          · have H3 := Lib.hid (h3 rfl)
            clear h3
            go_upto_region 6 with fail
            go_cut [68] from 69 to 102 (fun s68 wc => ∃ r : Bool, s68 = .bool r ∧ wc = w0 ∧ (r = false → (g < 3 → rc = true ∧ rp = true) ∧ (g < 2 → rb = true) ∧ (g < 1 → ra = true)))
            case first =>
              go_wp2
              all_goals go_meet
              all_goals first
                | (refine ⟨_, rfl, rfl, fun h => ?_⟩; cases h; done)
                | (refine ⟨_, rfl, rfl, fun h => ⟨fun _ => ⟨?_, ?_⟩, fun _ => ?_, fun _ => ?_⟩⟩ <;> first | rfl | omega | (simp_all; done) | (simp at *; omega))
            case rest =>
              obtain ⟨z4, rfl, hw, h4⟩ := hcut
              obtain rfl := hw.symm
              cases z4
              · have H4 := Lib.hid (h4 rfl)
                clear h4
                go_upto_region 8 with fail
                cases rp
                · go_wp2_with (first
                    | (go_at_call 33; refine (H14.out _).mono ?_; rintro e w5 ⟨⟨r5, rfl, hr5⟩, hb⟩; have H5 := H0.trans (hb.mono H0.size); have q5 : w5.cell? ⟨T, 5, none⟩ = some (.string (bytesOf pre)) := (hb.cell (p := ⟨T, 5, none⟩) hTl).trans q5; have HR := Lib.hid hr5; clear hb hr5)
                    | (go_at_call 34; refine (H15.out _).mono ?_; rintro e w6 ⟨⟨r6, rfl⟩, hb⟩; have H6 := H5.trans (hb.mono H5.size); clear hb))
                  · go_ret
                    refine ⟨⟨_, rfl, fun _ => ⟨H3.out.1, H3.out.2, fun h => ?_, fun h => ?_, fun h => ?_, .inr (HR.out (by assumption))⟩⟩, H6⟩
                    · have h1 := H4.out.1 h
                      exact absurd h1.2 (by simp)
                    · have h1 := H4.out.2.1 h
                      have h2 := HZ.out.2.1
                      rw [h1] at h2
                      simp at h2; exact h2
                    · have h1 := H4.out.2.2 h
                      have h2 := HZ.out.1
                      rw [h1] at h2
                      simp at h2; exact h2
                  · go_ret
                    exact ⟨⟨_, rfl, fun h => by cases h⟩, H5⟩
                · go_wp2
                  go_ret
                  have hpre : pre = [] := by
                    have h2 := HZ.out.2.2.2
                    simpa using h2
                  refine ⟨⟨_, rfl, fun _ => ⟨H3.out.1, H3.out.2, fun h => ⟨?_, hpre⟩, fun h => ?_, fun h => ?_, .inl hpre⟩⟩, H0⟩
                  · have h1 := (H4.out.1 h).1
                    have h2 := HZ.out.2.2.1
                    rw [h1] at h2
                    simp at h2; exact h2
                  · have h1 := H4.out.2.1 h
                    have h2 := HZ.out.2.1
                    rw [h1] at h2
                    simp at h2; exact h2
                  · have h1 := H4.out.2.2 h
                    have h2 := HZ.out.1
                    rw [h1] at h2
                    simp at h2; exact h2
              · go_wp2
                go_ret
                exact ⟨⟨_, rfl, fun h => by cases h⟩, H0⟩
          · go_wp2
            go_ret
            exact ⟨⟨_, rfl, fun h => by cases h⟩, H0⟩
      · go_wp2
        go_ret
        exact ⟨⟨_, rfl, fun h => by cases h⟩, H0⟩
end Go.Proofs.YthejepmnnpmdmaaGreatDoor.Sv
end
