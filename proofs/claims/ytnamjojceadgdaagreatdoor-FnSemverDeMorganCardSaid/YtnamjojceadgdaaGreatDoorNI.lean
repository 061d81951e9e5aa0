/- a part of the proof: FnSemverDeMorgan: for every list of terms, every style and every version the law's function returns true and leaves its arguments as they were. No condition is added: the statement is the given one, the tied card. -/
import Derived.Test.YtnamjojceadgdaaGreatDoorNG
import Derived.Deep.QuietTactic
import Derived.Test.YtnamjojceadgdaaGreatDoorNH
import Derived.Deep.CutRange
import Derived.LaidEqlPtr
section
set_option linter.unusedVariables false
set_option linter.unusedSimpArgs false
/- parseConstraint where numbers are missing or wildcards -/
namespace Go.Proofs.YtnamjojceadgdaaGreatDoor.Sv
open Go Go.RowKit Rx
set_option maxRecDepth 100000
theorem bdN (w : World) (n : Nat) : Below w.heap.size w (w.drewN n) := ⟨rfl, rfl, rfl, Nat.le_refl _, fun _ _ => rfl⟩
set_option maxHeartbeats 4000000 in
theorem t44a (x : Tm) {L RR : Bs} {s : ByteArray} (hs : s.size ≤ 1000) (hx : x.Ok) (ht : s.data.toList = L ++ (x.text ++ RR)) (hL : ∀ y ∈ L, ws y = true) (hR : ∀ y ∈ RR, ws y = true) (h0 : x.op = [] → x.blank = [])
    (x1 : isXb x.ver.p1 = true) (a b c : Nat) (pre me : Bs) (hv : Reads ([48, 46, 48, 46, 48] ++ gtext 45 x.ver.pre) a b c pre me) (w : World) (hT : Lib.Utf8Tabs 11 12 w) :
    Calls Tryz.prog 31 #[.string s] w fun e w' => ∃ C V, e = .returned (.tuple #[.pointer (some ⟨C, 0, none⟩), .nilIface]) ∧ w.heap.size ≤ C ∧ w.heap.size ≤ V ∧ ConAt w' C V x.ver.text x.op false true false ∧ VerAt w' V a b c pre me ([48, 46, 48, 46, 48] ++ gtext 45 x.ver.pre) ∧ Below w.heap.size w w' := by
  have hsz : L.length + (x.text.length + RR.length) = s.size := by rw [← list_size, ht]; simp
  have hxp := tm_pos hx
  have hlen : x.ver.p1.length + ((ptext x.ver.p2).length + ((ptext x.ver.p3).length + (gtext 45 x.ver.pre).length)) ≤ x.text.length := by
    rw [Tm.text, Ver.text]; simp; omega
  have hp1 : (bytesOf x.ver.p1).toList.isEmpty = false := by
    rw [bytesOf_toList]
    have := hx.ver.p1.1
    cases h : x.ver.p1 with
    | nil => exact absurd h this
    | cons y l => rfl
  have k0 : (0 : Int) < (s.size : Int) := by omega
  have H61 := Lib.hid (fun (w : World) (R PB IB icap : Nat) (hp : PG w R PB IB icap conT) (hr : RH w R PB 4 1 24 1 11) (hT : Lib.Utf8Tabs 11 12 w) => conM (s := s) hp hr hT hs hx ht hL hR h0)
  have HT := Lib.hid hT
  have sz1 : (bytesOf x.ver.p1).size < 2000 := by rw [bytesOf_size]; omega
  have sz6 : (bytesOf (gtext 45 x.ver.pre)).size < 2000 := by rw [bytesOf_size]; omega
  have HX1 := Lib.hid (fun w => tIsXb x.ver.p1 w)
  rw [x1] at HX1
  have hst : ⟨#[48, 46, 48, 46, 48]⟩ ++ bytesOf (gtext 45 x.ver.pre) = bytesOf ([48, 46, 48, 46, 48] ++ gtext 45 x.ver.pre) := by
    rw [show (⟨#[48, 46, 48, 46, 48]⟩ : ByteArray) = bytesOf [48, 46, 48, 46, 48] from rfl]
    simp only [bytes_app]
  have HST := Lib.hid hst
  have HV := Lib.hid hv
  have q := q52
  clear hx ht hL hR h0 x1 hv hT hsz hxp hlen hs hst
  generalize hp2 : ptext x.ver.p2 = y2 at *
  generalize hp3 : ptext x.ver.p3 = y3 at *
  clear hp2 hp3
  generalize ([48, 46, 48, 46, 48] ++ gtext 45 x.ver.pre) = vt at *
  generalize x.ver.text = yt at *
  generalize x.ver.p1 = r1 at *
  generalize x.op = op at *
  generalize gtext 45 x.ver.pre = g6 at *
  go_enter Tryz.func31, Tryz.ntmps31
  go_wp2_with (first
    | (go_at_call 49; refine (t60 w).mono ?_; rintro e w1 ⟨R, PB, IB, icap, rfl, hp, hr, hb⟩; have HP := Lib.hid (And.intro hp (And.intro hr (And.intro (Utf8Tabs_below HT.out hb) hb))); clear hp hr hb)
    | (go_at_call 50; refine (H61.out _ _ _ _ _ HP.out.1 HP.out.2.1 HP.out.2.2.1).mono ?_; rintro e w2 ⟨hb2, f, ⟨bp, rfl, h1, h2⟩, e1, e2, e3, e4, e5, e6⟩; have c1 := piece_cell h2 1 (by decide); have c2 := piece_cell h2 2 (by decide); have c3 := piece_cell h2 3 (by decide); have c4 := piece_cell h2 4 (by decide); have c5 := piece_cell h2 5 (by decide); have c6 := piece_cell h2 6 (by decide); rw [e1] at c1; rw [e2] at c2; rw [e3] at c3; rw [e4] at c4; rw [e5] at c5; rw [e6] at c6; have HB2 := Lib.hid (And.intro h1 (And.intro h2 (HP.out.2.2.2.trans (hb2.mono HP.out.2.2.2.size)))); clear hb2 h1 h2 e1 e2 e3 e4 e5 e6))
  go_region
  have hst : CAt w w2.heap.size bp #[.pointer none, .string (bytesOf yt), .string (bytesOf op), .bool false, .bool false, .bool false] (strs ((List.range 12).map f)) ((w2.alloc (.cells #[.pointer none, .string (bytesOf yt), .string (bytesOf op), .bool false, .bool false, .bool false] 73)).drew) := by
    obtain ⟨k1, k2, k3⟩ := HB2.out
    exact ⟨heap_alloc_new w2 _, (Below.heap_alloc w2 _ bp (Array.getElem?_eq_some_iff.1 k2).1).trans k2, (k3.alloc k3.size _).drew, k3.size⟩
  have e2 : (strs ((List.range 12).map f))[2]? = some (.string (bytesOf yt)) := by rw [← c2, cell_of_row _ _ _ _ _ _ HB2.out.2.1]
  have e3 : (strs ((List.range 12).map f))[3]? = some (.string (bytesOf r1)) := by rw [← c3, cell_of_row _ _ _ _ _ _ HB2.out.2.1]
  have e4 : (strs ((List.range 12).map f))[4]? = some (.string (bytesOf y2)) := by rw [← c4, cell_of_row _ _ _ _ _ _ HB2.out.2.1]
  have e5 : (strs ((List.range 12).map f))[5]? = some (.string (bytesOf y3)) := by rw [← c5, cell_of_row _ _ _ _ _ _ HB2.out.2.1]
  have e6 : (strs ((List.range 12).map f))[6]? = some (.string (bytesOf g6)) := by rw [← c6, cell_of_row _ _ _ _ _ _ HB2.out.2.1]
  clear c1 c2 c3 c4 c5 c6
  generalize (w2.alloc (.cells #[.pointer none, .string (bytesOf yt), .string (bytesOf op), .bool false, .bool false, .bool false] 73)).drew = W3 at *
  generalize strs ((List.range 12).map f) = ps at *
  generalize w2.heap.size = C at *
  have HS := Lib.hid hst
  have c2 := hst.piece 2 _ e2
  have c3 := hst.piece 3 _ e3
  have c4 := hst.piece 4 _ e4
  have c5 := hst.piece 5 _ e5
  have c6 := hst.piece 6 _ e6
  clear hst e2 e3 e4 e5 e6
  go_upto_region 21 with (first
    | (go_at_call 51; first | ((with_reducible refine (HX1.out _).mono ?_); rintro e w6 ⟨rfl, hw⟩; subst hw))
    | go_in)
  rw [HST.out]
  clear c2 c3 c4 c5 c6  k0
  have HU := Lib.hid (Utf8Tabs_below HT.out HS.out.b)
  go_wp2_with (go_at_call 53; refine (HV.out _ HU.out).mono ?_; rintro e w7 ⟨V, rfl, hVs, hVa, hb7⟩; have hst4 := HS.out.keep hb7; have HS4 := Lib.hid hst4; have HW := Lib.hid (And.intro hVs hVa); have v0 := hst4.cell 0 _ rfl; have v3 := hst4.cell 3 _ rfl; have v4 := hst4.cell 4 _ rfl; have v5 := hst4.cell 5 _ rfl; have z0 := hst4.fz 0; have z3 := hst4.fz 3; have z4 := hst4.fz 4; have z5 := hst4.fz 5; clear hb7 hst4 hVs hVa)
  go_ret2
  have hfin := (((HS4.out.store 0 (.pointer (some ⟨V, 0, none⟩))).store 3 (.bool false)).store 5 (.bool false)).store 4 (.bool true)
  have hne : V ≠ C := typ_ne HW.out.2 HS4.out.v (by decide)
  refine ⟨C, V, rfl, hfin.h, Nat.le_trans HS.out.b.size HW.out.1, hfin.v, ?_, hfin.b⟩
  unfold VerAt
  rw [heap_setCell_other _ _ _ _ hne, heap_setCell_other _ _ _ _ hne, heap_setCell_other _ _ _ _ hne, heap_setCell_other _ _ _ _ hne]
  exact HW.out.2
set_option maxHeartbeats 4000000 in
theorem t44b0 (x : Tm) {L RR : Bs} {s : ByteArray} (hs : s.size ≤ 1000) (hx : x.Ok) (ht : s.data.toList = L ++ (x.text ++ RR)) (hL : ∀ y ∈ L, ws y = true) (hR : ∀ y ∈ RR, ws y = true) (h0 : x.op = [] → x.blank = [])
    (h2 : x.ver.p2 = none) (h3 : x.ver.p3 = none) (x1 : isXb x.ver.p1 = false) (a b c : Nat) (pre me : Bs) (hv : Reads (x.ver.p1 ++ [46, 48, 46, 48] ++ gtext 45 x.ver.pre) a b c pre me) (w : World) (hT : Lib.Utf8Tabs 11 12 w) :
    Calls Tryz.prog 31 #[.string s] w fun e w' => ∃ C V, e = .returned (.tuple #[.pointer (some ⟨C, 0, none⟩), .nilIface]) ∧ w.heap.size ≤ C ∧ w.heap.size ≤ V ∧ ConAt w' C V x.ver.text x.op true true false ∧ VerAt w' V a b c pre me (x.ver.p1 ++ [46, 48, 46, 48] ++ gtext 45 x.ver.pre) ∧ Below w.heap.size w w' := by
  have hsz : L.length + (x.text.length + RR.length) = s.size := by rw [← list_size, ht]; simp
  have hxp := tm_pos hx
  have hlen : x.ver.p1.length + ((ptext x.ver.p2).length + ((ptext x.ver.p3).length + (gtext 45 x.ver.pre).length)) ≤ x.text.length := by
    rw [Tm.text, Ver.text]; simp; omega
  have hp1 : (bytesOf x.ver.p1).toList.isEmpty = false := by
    rw [bytesOf_toList]
    have := hx.ver.p1.1
    cases h : x.ver.p1 with
    | nil => exact absurd h this
    | cons y l => rfl
  have k0 : (0 : Int) < (s.size : Int) := by omega
  have H61 := Lib.hid (fun (w : World) (R PB IB icap : Nat) (hp : PG w R PB IB icap conT) (hr : RH w R PB 4 1 24 1 11) (hT : Lib.Utf8Tabs 11 12 w) => conM (s := s) hp hr hT hs hx ht hL hR h0)
  have HT := Lib.hid hT
  have sz1 : (bytesOf x.ver.p1).size < 2000 := by rw [bytesOf_size]; omega
  have sz6 : (bytesOf (gtext 45 x.ver.pre)).size < 2000 := by rw [bytesOf_size]; omega
  have HX1 := Lib.hid (fun w => tIsXb x.ver.p1 w)
  rw [x1] at HX1
  have sz2 : (bytesOf (ptext x.ver.p2)).size < 2000 := by rw [bytesOf_size]; omega
  rw [h2, h3] at H61
  rw [h2] at sz2
  have HTa := Lib.hid (fun w => tTrimDot [] (.inl rfl) (by simp) w)
  have HX2 := Lib.hid (fun w => tIsXb [] w)
  rw [show isXb [] = false from rfl] at HX2
  have hst : (bytesOf x.ver.p1 ++ ⟨#[46, 48, 46, 48]⟩) ++ bytesOf (gtext 45 x.ver.pre) = bytesOf (x.ver.p1 ++ [46, 48, 46, 48] ++ gtext 45 x.ver.pre) := by
    rw [show (⟨#[46, 48, 46, 48]⟩ : ByteArray) = bytesOf [46, 48, 46, 48] from rfl]
    simp only [bytes_app]
  have HST := Lib.hid hst
  have HV := Lib.hid hv
  have q := q52
  clear hx ht hL hR h0 h2 h3 x1 hv hT hsz hxp hlen hs hst
  simp only [ptext] at H61 sz2
  generalize (x.ver.p1 ++ [46, 48, 46, 48] ++ gtext 45 x.ver.pre) = vt at *
  generalize x.ver.text = yt at *
  generalize x.ver.p1 = r1 at *
  generalize x.op = op at *
  generalize gtext 45 x.ver.pre = g6 at *
  go_enter Tryz.func31, Tryz.ntmps31
  go_wp2_with (first
    | (go_at_call 49; refine (t60 w).mono ?_; rintro e w1 ⟨R, PB, IB, icap, rfl, hp, hr, hb⟩; have HP := Lib.hid (And.intro hp (And.intro hr (And.intro (Utf8Tabs_below HT.out hb) hb))); clear hp hr hb)
    | (go_at_call 50; refine (H61.out _ _ _ _ _ HP.out.1 HP.out.2.1 HP.out.2.2.1).mono ?_; rintro e w2 ⟨hb2, f, ⟨bp, rfl, h1, h2⟩, e1, e2, e3, e4, e5, e6⟩; have c1 := piece_cell h2 1 (by decide); have c2 := piece_cell h2 2 (by decide); have c3 := piece_cell h2 3 (by decide); have c4 := piece_cell h2 4 (by decide); have c5 := piece_cell h2 5 (by decide); have c6 := piece_cell h2 6 (by decide); rw [e1] at c1; rw [e2] at c2; rw [e3] at c3; rw [e4] at c4; rw [e5] at c5; rw [e6] at c6; have HB2 := Lib.hid (And.intro h1 (And.intro h2 (HP.out.2.2.2.trans (hb2.mono HP.out.2.2.2.size)))); clear hb2 h1 h2 e1 e2 e3 e4 e5 e6))
  go_region
  have hst : CAt w w2.heap.size bp #[.pointer none, .string (bytesOf yt), .string (bytesOf op), .bool false, .bool false, .bool false] (strs ((List.range 12).map f)) ((w2.alloc (.cells #[.pointer none, .string (bytesOf yt), .string (bytesOf op), .bool false, .bool false, .bool false] 73)).drew) := by
    obtain ⟨k1, k2, k3⟩ := HB2.out
    exact ⟨heap_alloc_new w2 _, (Below.heap_alloc w2 _ bp (Array.getElem?_eq_some_iff.1 k2).1).trans k2, (k3.alloc k3.size _).drew, k3.size⟩
  have e2 : (strs ((List.range 12).map f))[2]? = some (.string (bytesOf yt)) := by rw [← c2, cell_of_row _ _ _ _ _ _ HB2.out.2.1]
  have e3 : (strs ((List.range 12).map f))[3]? = some (.string (bytesOf r1)) := by rw [← c3, cell_of_row _ _ _ _ _ _ HB2.out.2.1]
  have e4 : (strs ((List.range 12).map f))[4]? = some (.string (bytesOf [])) := by rw [← c4, cell_of_row _ _ _ _ _ _ HB2.out.2.1]
  have e5 : (strs ((List.range 12).map f))[5]? = some (.string (bytesOf [])) := by rw [← c5, cell_of_row _ _ _ _ _ _ HB2.out.2.1]
  have e6 : (strs ((List.range 12).map f))[6]? = some (.string (bytesOf g6)) := by rw [← c6, cell_of_row _ _ _ _ _ _ HB2.out.2.1]
  clear c1 c2 c3 c4 c5 c6
  generalize (w2.alloc (.cells #[.pointer none, .string (bytesOf yt), .string (bytesOf op), .bool false, .bool false, .bool false] 73)).drew = W3 at *
  generalize strs ((List.range 12).map f) = ps at *
  generalize w2.heap.size = C at *
  have HS := Lib.hid hst
  have c2 := hst.piece 2 _ e2
  have c3 := hst.piece 3 _ e3
  have c4 := hst.piece 4 _ e4
  have c5 := hst.piece 5 _ e5
  have c6 := hst.piece 6 _ e6
  clear hst e2 e3 e4 e5 e6
  have n2 := bytesOf_toList []
  go_upto_region 16 with (first
    | (go_at_call 51; first | ((with_reducible refine (HX1.out _).mono ?_); rintro e w6 ⟨rfl, hw⟩; subst hw) | ((with_reducible refine (HX2.out _).mono ?_); rintro e w6 ⟨rfl, hw⟩; subst hw))
    | (go_at_call 52; first | ((with_reducible refine (HTa.out _).mono ?_); rintro e w6 ⟨rfl, hw⟩; subst hw; rw [show ([] : Bs).tail = [] from rfl]))
    | go_in)
  go_quiet (fail)
  have hq := HS.out.keep (bdN _ nq)
  have HS := Lib.hid hq
  clear hq
  go_upto_region 21 with fail
  rw [HST.out]
  clear c2 c3 c4 c5 c6 n2 k0
  have HU := Lib.hid (Utf8Tabs_below HT.out HS.out.b)
  go_wp2_with (go_at_call 53; refine (HV.out _ HU.out).mono ?_; rintro e w7 ⟨V, rfl, hVs, hVa, hb7⟩; have hst4 := HS.out.keep hb7; have HS4 := Lib.hid hst4; have HW := Lib.hid (And.intro hVs hVa); have v0 := hst4.cell 0 _ rfl; have v3 := hst4.cell 3 _ rfl; have v4 := hst4.cell 4 _ rfl; have v5 := hst4.cell 5 _ rfl; have z0 := hst4.fz 0; have z3 := hst4.fz 3; have z4 := hst4.fz 4; have z5 := hst4.fz 5; clear hb7 hst4 hVs hVa)
  go_ret2
  have hfin := (((HS4.out.store 0 (.pointer (some ⟨V, 0, none⟩))).store 3 (.bool true)).store 5 (.bool false)).store 4 (.bool true)
  have hne : V ≠ C := typ_ne HW.out.2 HS4.out.v (by decide)
  refine ⟨C, V, rfl, hfin.h, Nat.le_trans HS.out.b.size HW.out.1, hfin.v, ?_, hfin.b⟩
  unfold VerAt
  rw [heap_setCell_other _ _ _ _ hne, heap_setCell_other _ _ _ _ hne, heap_setCell_other _ _ _ _ hne, heap_setCell_other _ _ _ _ hne]
  exact HW.out.2
set_option maxHeartbeats 4000000 in
theorem t44b1 (x : Tm) {L RR : Bs} {s : ByteArray} (hs : s.size ≤ 1000) (hx : x.Ok) (ht : s.data.toList = L ++ (x.text ++ RR)) (hL : ∀ y ∈ L, ws y = true) (hR : ∀ y ∈ RR, ws y = true) (h0 : x.op = [] → x.blank = [])
    (r2 : Bs) (h2 : x.ver.p2 = some r2) (x1 : isXb x.ver.p1 = false) (x2 : isXb r2 = true) (a b c : Nat) (pre me : Bs) (hv : Reads (x.ver.p1 ++ [46, 48, 46, 48] ++ gtext 45 x.ver.pre) a b c pre me) (w : World) (hT : Lib.Utf8Tabs 11 12 w) :
    Calls Tryz.prog 31 #[.string s] w fun e w' => ∃ C V, e = .returned (.tuple #[.pointer (some ⟨C, 0, none⟩), .nilIface]) ∧ w.heap.size ≤ C ∧ w.heap.size ≤ V ∧ ConAt w' C V x.ver.text x.op true true false ∧ VerAt w' V a b c pre me (x.ver.p1 ++ [46, 48, 46, 48] ++ gtext 45 x.ver.pre) ∧ Below w.heap.size w w' := by
  have hsz : L.length + (x.text.length + RR.length) = s.size := by rw [← list_size, ht]; simp
  have hxp := tm_pos hx
  have hlen : x.ver.p1.length + ((ptext x.ver.p2).length + ((ptext x.ver.p3).length + (gtext 45 x.ver.pre).length)) ≤ x.text.length := by
    rw [Tm.text, Ver.text]; simp; omega
  have hp1 : (bytesOf x.ver.p1).toList.isEmpty = false := by
    rw [bytesOf_toList]
    have := hx.ver.p1.1
    cases h : x.ver.p1 with
    | nil => exact absurd h this
    | cons y l => rfl
  have k0 : (0 : Int) < (s.size : Int) := by omega
  have H61 := Lib.hid (fun (w : World) (R PB IB icap : Nat) (hp : PG w R PB IB icap conT) (hr : RH w R PB 4 1 24 1 11) (hT : Lib.Utf8Tabs 11 12 w) => conM (s := s) hp hr hT hs hx ht hL hR h0)
  have HT := Lib.hid hT
  have sz1 : (bytesOf x.ver.p1).size < 2000 := by rw [bytesOf_size]; omega
  have sz6 : (bytesOf (gtext 45 x.ver.pre)).size < 2000 := by rw [bytesOf_size]; omega
  have HX1 := Lib.hid (fun w => tIsXb x.ver.p1 w)
  rw [x1] at HX1
  have sz2 : (bytesOf (ptext x.ver.p2)).size < 2000 := by rw [bytesOf_size]; omega
  rw [h2] at H61
  rw [h2] at sz2
  have hl2 : r2.length < 1000 := by rw [h2] at hlen; simp [ptext] at hlen; omega
  have HTa := Lib.hid (fun w => tTrimDot (46 :: r2) (.inr ⟨_, rfl⟩) (by simp; omega) w)
  have HX2 := Lib.hid (fun w => tIsXb r2 w)
  rw [x2] at HX2
  clear hl2
  have hst : (bytesOf x.ver.p1 ++ ⟨#[46, 48, 46, 48]⟩) ++ bytesOf (gtext 45 x.ver.pre) = bytesOf (x.ver.p1 ++ [46, 48, 46, 48] ++ gtext 45 x.ver.pre) := by
    rw [show (⟨#[46, 48, 46, 48]⟩ : ByteArray) = bytesOf [46, 48, 46, 48] from rfl]
    simp only [bytes_app]
  have HST := Lib.hid hst
  have HV := Lib.hid hv
  have q := q52
  clear hx ht hL hR h0 h2 x1 x2 hv hT hsz hxp hlen hs hst
  generalize hp3 : ptext x.ver.p3 = y3 at *
  clear hp3
  simp only [ptext] at H61 sz2
  generalize (x.ver.p1 ++ [46, 48, 46, 48] ++ gtext 45 x.ver.pre) = vt at *
  generalize x.ver.text = yt at *
  generalize x.ver.p1 = r1 at *
  generalize x.op = op at *
  generalize gtext 45 x.ver.pre = g6 at *
  go_enter Tryz.func31, Tryz.ntmps31
  go_wp2_with (first
    | (go_at_call 49; refine (t60 w).mono ?_; rintro e w1 ⟨R, PB, IB, icap, rfl, hp, hr, hb⟩; have HP := Lib.hid (And.intro hp (And.intro hr (And.intro (Utf8Tabs_below HT.out hb) hb))); clear hp hr hb)
    | (go_at_call 50; refine (H61.out _ _ _ _ _ HP.out.1 HP.out.2.1 HP.out.2.2.1).mono ?_; rintro e w2 ⟨hb2, f, ⟨bp, rfl, h1, h2⟩, e1, e2, e3, e4, e5, e6⟩; have c1 := piece_cell h2 1 (by decide); have c2 := piece_cell h2 2 (by decide); have c3 := piece_cell h2 3 (by decide); have c4 := piece_cell h2 4 (by decide); have c5 := piece_cell h2 5 (by decide); have c6 := piece_cell h2 6 (by decide); rw [e1] at c1; rw [e2] at c2; rw [e3] at c3; rw [e4] at c4; rw [e5] at c5; rw [e6] at c6; have HB2 := Lib.hid (And.intro h1 (And.intro h2 (HP.out.2.2.2.trans (hb2.mono HP.out.2.2.2.size)))); clear hb2 h1 h2 e1 e2 e3 e4 e5 e6))
  go_region
  have hst : CAt w w2.heap.size bp #[.pointer none, .string (bytesOf yt), .string (bytesOf op), .bool false, .bool false, .bool false] (strs ((List.range 12).map f)) ((w2.alloc (.cells #[.pointer none, .string (bytesOf yt), .string (bytesOf op), .bool false, .bool false, .bool false] 73)).drew) := by
    obtain ⟨k1, k2, k3⟩ := HB2.out
    exact ⟨heap_alloc_new w2 _, (Below.heap_alloc w2 _ bp (Array.getElem?_eq_some_iff.1 k2).1).trans k2, (k3.alloc k3.size _).drew, k3.size⟩
  have e2 : (strs ((List.range 12).map f))[2]? = some (.string (bytesOf yt)) := by rw [← c2, cell_of_row _ _ _ _ _ _ HB2.out.2.1]
  have e3 : (strs ((List.range 12).map f))[3]? = some (.string (bytesOf r1)) := by rw [← c3, cell_of_row _ _ _ _ _ _ HB2.out.2.1]
  have e4 : (strs ((List.range 12).map f))[4]? = some (.string (bytesOf (46 :: r2))) := by rw [← c4, cell_of_row _ _ _ _ _ _ HB2.out.2.1]
  have e5 : (strs ((List.range 12).map f))[5]? = some (.string (bytesOf y3)) := by rw [← c5, cell_of_row _ _ _ _ _ _ HB2.out.2.1]
  have e6 : (strs ((List.range 12).map f))[6]? = some (.string (bytesOf g6)) := by rw [← c6, cell_of_row _ _ _ _ _ _ HB2.out.2.1]
  clear c1 c2 c3 c4 c5 c6
  generalize (w2.alloc (.cells #[.pointer none, .string (bytesOf yt), .string (bytesOf op), .bool false, .bool false, .bool false] 73)).drew = W3 at *
  generalize strs ((List.range 12).map f) = ps at *
  generalize w2.heap.size = C at *
  have HS := Lib.hid hst
  have c2 := hst.piece 2 _ e2
  have c3 := hst.piece 3 _ e3
  have c4 := hst.piece 4 _ e4
  have c5 := hst.piece 5 _ e5
  have c6 := hst.piece 6 _ e6
  clear hst e2 e3 e4 e5 e6
  have n2 := bytesOf_toList (46 :: r2)
  go_upto_region 16 with (first
    | (go_at_call 51; first | ((with_reducible refine (HX1.out _).mono ?_); rintro e w6 ⟨rfl, hw⟩; subst hw) | ((with_reducible refine (HX2.out _).mono ?_); rintro e w6 ⟨rfl, hw⟩; subst hw))
    | (go_at_call 52; first | ((with_reducible refine (HTa.out _).mono ?_); rintro e w6 ⟨rfl, hw⟩; subst hw; rw [show ((46 :: r2) : Bs).tail = r2 from rfl]))
    | go_in)
  go_quiet (fail)
  have hq := HS.out.keep (bdN _ nq)
  have HS := Lib.hid hq
  clear hq
  go_upto_region 21 with fail
  rw [HST.out]
  clear c2 c3 c4 c5 c6 n2 k0
  have HU := Lib.hid (Utf8Tabs_below HT.out HS.out.b)
  go_wp2_with (go_at_call 53; refine (HV.out _ HU.out).mono ?_; rintro e w7 ⟨V, rfl, hVs, hVa, hb7⟩; have hst4 := HS.out.keep hb7; have HS4 := Lib.hid hst4; have HW := Lib.hid (And.intro hVs hVa); have v0 := hst4.cell 0 _ rfl; have v3 := hst4.cell 3 _ rfl; have v4 := hst4.cell 4 _ rfl; have v5 := hst4.cell 5 _ rfl; have z0 := hst4.fz 0; have z3 := hst4.fz 3; have z4 := hst4.fz 4; have z5 := hst4.fz 5; clear hb7 hst4 hVs hVa)
  go_ret2
  have hfin := (((HS4.out.store 0 (.pointer (some ⟨V, 0, none⟩))).store 3 (.bool true)).store 5 (.bool false)).store 4 (.bool true)
  have hne : V ≠ C := typ_ne HW.out.2 HS4.out.v (by decide)
  refine ⟨C, V, rfl, hfin.h, Nat.le_trans HS.out.b.size HW.out.1, hfin.v, ?_, hfin.b⟩
  unfold VerAt
  rw [heap_setCell_other _ _ _ _ hne, heap_setCell_other _ _ _ _ hne, heap_setCell_other _ _ _ _ hne, heap_setCell_other _ _ _ _ hne]
  exact HW.out.2
set_option maxHeartbeats 4000000 in
theorem t44c0 (x : Tm) {L RR : Bs} {s : ByteArray} (hs : s.size ≤ 1000) (hx : x.Ok) (ht : s.data.toList = L ++ (x.text ++ RR)) (hL : ∀ y ∈ L, ws y = true) (hR : ∀ y ∈ RR, ws y = true) (h0 : x.op = [] → x.blank = [])
    (r2 : Bs) (h2 : x.ver.p2 = some r2) (h3 : x.ver.p3 = none) (x1 : isXb x.ver.p1 = false) (x2 : isXb r2 = false) (a b c : Nat) (pre me : Bs) (hv : Reads (x.ver.p1 ++ 46 :: r2 ++ [46, 48] ++ gtext 45 x.ver.pre) a b c pre me) (w : World) (hT : Lib.Utf8Tabs 11 12 w) :
    Calls Tryz.prog 31 #[.string s] w fun e w' => ∃ C V, e = .returned (.tuple #[.pointer (some ⟨C, 0, none⟩), .nilIface]) ∧ w.heap.size ≤ C ∧ w.heap.size ≤ V ∧ ConAt w' C V x.ver.text x.op false true true ∧ VerAt w' V a b c pre me (x.ver.p1 ++ 46 :: r2 ++ [46, 48] ++ gtext 45 x.ver.pre) ∧ Below w.heap.size w w' := by
  have hsz : L.length + (x.text.length + RR.length) = s.size := by rw [← list_size, ht]; simp
  have hxp := tm_pos hx
  have hlen : x.ver.p1.length + ((ptext x.ver.p2).length + ((ptext x.ver.p3).length + (gtext 45 x.ver.pre).length)) ≤ x.text.length := by
    rw [Tm.text, Ver.text]; simp; omega
  have hp1 : (bytesOf x.ver.p1).toList.isEmpty = false := by
    rw [bytesOf_toList]
    have := hx.ver.p1.1
    cases h : x.ver.p1 with
    | nil => exact absurd h this
    | cons y l => rfl
  have k0 : (0 : Int) < (s.size : Int) := by omega
  have H61 := Lib.hid (fun (w : World) (R PB IB icap : Nat) (hp : PG w R PB IB icap conT) (hr : RH w R PB 4 1 24 1 11) (hT : Lib.Utf8Tabs 11 12 w) => conM (s := s) hp hr hT hs hx ht hL hR h0)
  have HT := Lib.hid hT
  have sz1 : (bytesOf x.ver.p1).size < 2000 := by rw [bytesOf_size]; omega
  have sz6 : (bytesOf (gtext 45 x.ver.pre)).size < 2000 := by rw [bytesOf_size]; omega
  have HX1 := Lib.hid (fun w => tIsXb x.ver.p1 w)
  rw [x1] at HX1
  have sz2 : (bytesOf (ptext x.ver.p2)).size < 2000 := by rw [bytesOf_size]; omega
  rw [h2, h3] at H61
  rw [h2] at sz2
  have hl2 : r2.length < 1000 := by rw [h2] at hlen; simp [ptext] at hlen; omega
  have HTa := Lib.hid (fun w => tTrimDot (46 :: r2) (.inr ⟨_, rfl⟩) (by simp; omega) w)
  have HX2 := Lib.hid (fun w => tIsXb r2 w)
  rw [x2] at HX2
  clear hl2
  have HTb := Lib.hid (fun w => tTrimDot [] (.inl rfl) (by simp) w)
  have HX3 := Lib.hid (fun w => tIsXb [] w)
  rw [show isXb [] = false from rfl] at HX3
  have hst : ((bytesOf x.ver.p1 ++ bytesOf (46 :: r2)) ++ ⟨#[46, 48]⟩) ++ bytesOf (gtext 45 x.ver.pre) = bytesOf (x.ver.p1 ++ 46 :: r2 ++ [46, 48] ++ gtext 45 x.ver.pre) := by
    rw [show (⟨#[46, 48]⟩ : ByteArray) = bytesOf [46, 48] from rfl]
    simp only [bytes_app]
  have HST := Lib.hid hst
  have HV := Lib.hid hv
  have q := q52
  clear hx ht hL hR h0 h2 h3 x1 x2 hv hT hsz hxp hlen hs hst
  simp only [ptext] at H61 sz2
  generalize (x.ver.p1 ++ 46 :: r2 ++ [46, 48] ++ gtext 45 x.ver.pre) = vt at *
  generalize x.ver.text = yt at *
  generalize x.ver.p1 = r1 at *
  generalize x.op = op at *
  generalize gtext 45 x.ver.pre = g6 at *
  go_enter Tryz.func31, Tryz.ntmps31
  go_wp2_with (first
    | (go_at_call 49; refine (t60 w).mono ?_; rintro e w1 ⟨R, PB, IB, icap, rfl, hp, hr, hb⟩; have HP := Lib.hid (And.intro hp (And.intro hr (And.intro (Utf8Tabs_below HT.out hb) hb))); clear hp hr hb)
    | (go_at_call 50; refine (H61.out _ _ _ _ _ HP.out.1 HP.out.2.1 HP.out.2.2.1).mono ?_; rintro e w2 ⟨hb2, f, ⟨bp, rfl, h1, h2⟩, e1, e2, e3, e4, e5, e6⟩; have c1 := piece_cell h2 1 (by decide); have c2 := piece_cell h2 2 (by decide); have c3 := piece_cell h2 3 (by decide); have c4 := piece_cell h2 4 (by decide); have c5 := piece_cell h2 5 (by decide); have c6 := piece_cell h2 6 (by decide); rw [e1] at c1; rw [e2] at c2; rw [e3] at c3; rw [e4] at c4; rw [e5] at c5; rw [e6] at c6; have HB2 := Lib.hid (And.intro h1 (And.intro h2 (HP.out.2.2.2.trans (hb2.mono HP.out.2.2.2.size)))); clear hb2 h1 h2 e1 e2 e3 e4 e5 e6))
  go_region
  have hst : CAt w w2.heap.size bp #[.pointer none, .string (bytesOf yt), .string (bytesOf op), .bool false, .bool false, .bool false] (strs ((List.range 12).map f)) ((w2.alloc (.cells #[.pointer none, .string (bytesOf yt), .string (bytesOf op), .bool false, .bool false, .bool false] 73)).drew) := by
    obtain ⟨k1, k2, k3⟩ := HB2.out
    exact ⟨heap_alloc_new w2 _, (Below.heap_alloc w2 _ bp (Array.getElem?_eq_some_iff.1 k2).1).trans k2, (k3.alloc k3.size _).drew, k3.size⟩
  have e2 : (strs ((List.range 12).map f))[2]? = some (.string (bytesOf yt)) := by rw [← c2, cell_of_row _ _ _ _ _ _ HB2.out.2.1]
  have e3 : (strs ((List.range 12).map f))[3]? = some (.string (bytesOf r1)) := by rw [← c3, cell_of_row _ _ _ _ _ _ HB2.out.2.1]
  have e4 : (strs ((List.range 12).map f))[4]? = some (.string (bytesOf (46 :: r2))) := by rw [← c4, cell_of_row _ _ _ _ _ _ HB2.out.2.1]
  have e5 : (strs ((List.range 12).map f))[5]? = some (.string (bytesOf [])) := by rw [← c5, cell_of_row _ _ _ _ _ _ HB2.out.2.1]
  have e6 : (strs ((List.range 12).map f))[6]? = some (.string (bytesOf g6)) := by rw [← c6, cell_of_row _ _ _ _ _ _ HB2.out.2.1]
  clear c1 c2 c3 c4 c5 c6
  generalize (w2.alloc (.cells #[.pointer none, .string (bytesOf yt), .string (bytesOf op), .bool false, .bool false, .bool false] 73)).drew = W3 at *
  generalize strs ((List.range 12).map f) = ps at *
  generalize w2.heap.size = C at *
  have HS := Lib.hid hst
  have c2 := hst.piece 2 _ e2
  have c3 := hst.piece 3 _ e3
  have c4 := hst.piece 4 _ e4
  have c5 := hst.piece 5 _ e5
  have c6 := hst.piece 6 _ e6
  clear hst e2 e3 e4 e5 e6
  have n2 := bytesOf_toList (46 :: r2)
  have n3 := bytesOf_toList []
  go_upto_region 20 with (first
    | (go_at_call 51; first | ((with_reducible refine (HX1.out _).mono ?_); rintro e w6 ⟨rfl, hw⟩; subst hw) | ((with_reducible refine (HX2.out _).mono ?_); rintro e w6 ⟨rfl, hw⟩; subst hw) | ((with_reducible refine (HX3.out _).mono ?_); rintro e w6 ⟨rfl, hw⟩; subst hw))
    | (go_at_call 52; first | ((with_reducible refine (HTa.out _).mono ?_); rintro e w6 ⟨rfl, hw⟩; subst hw; rw [show ((46 :: r2) : Bs).tail = r2 from rfl]) | ((with_reducible refine (HTb.out _).mono ?_); rintro e w6 ⟨rfl, hw⟩; subst hw; rw [show ([] : Bs).tail = [] from rfl]))
    | go_in)
  go_quiet (fail)
  have hq := HS.out.keep (bdN _ nq)
  have HS := Lib.hid hq
  clear hq
  go_upto_region 21 with fail
  rw [HST.out]
  clear c2 c3 c4 c5 c6 n2 n3 k0
  have HU := Lib.hid (Utf8Tabs_below HT.out HS.out.b)
  go_wp2_with (go_at_call 53; refine (HV.out _ HU.out).mono ?_; rintro e w7 ⟨V, rfl, hVs, hVa, hb7⟩; have hst4 := HS.out.keep hb7; have HS4 := Lib.hid hst4; have HW := Lib.hid (And.intro hVs hVa); have v0 := hst4.cell 0 _ rfl; have v3 := hst4.cell 3 _ rfl; have v4 := hst4.cell 4 _ rfl; have v5 := hst4.cell 5 _ rfl; have z0 := hst4.fz 0; have z3 := hst4.fz 3; have z4 := hst4.fz 4; have z5 := hst4.fz 5; clear hb7 hst4 hVs hVa)
  go_ret2
  have hfin := (((HS4.out.store 0 (.pointer (some ⟨V, 0, none⟩))).store 3 (.bool false)).store 5 (.bool true)).store 4 (.bool true)
  have hne : V ≠ C := typ_ne HW.out.2 HS4.out.v (by decide)
  refine ⟨C, V, rfl, hfin.h, Nat.le_trans HS.out.b.size HW.out.1, hfin.v, ?_, hfin.b⟩
  unfold VerAt
  rw [heap_setCell_other _ _ _ _ hne, heap_setCell_other _ _ _ _ hne, heap_setCell_other _ _ _ _ hne, heap_setCell_other _ _ _ _ hne]
  exact HW.out.2
set_option maxHeartbeats 4000000 in
theorem t44c1 (x : Tm) {L RR : Bs} {s : ByteArray} (hs : s.size ≤ 1000) (hx : x.Ok) (ht : s.data.toList = L ++ (x.text ++ RR)) (hL : ∀ y ∈ L, ws y = true) (hR : ∀ y ∈ RR, ws y = true) (h0 : x.op = [] → x.blank = [])
    (r2 r3 : Bs) (h2 : x.ver.p2 = some r2) (h3 : x.ver.p3 = some r3) (x1 : isXb x.ver.p1 = false) (x2 : isXb r2 = false) (x3 : isXb r3 = true) (a b c : Nat) (pre me : Bs) (hv : Reads (x.ver.p1 ++ 46 :: r2 ++ [46, 48] ++ gtext 45 x.ver.pre) a b c pre me) (w : World) (hT : Lib.Utf8Tabs 11 12 w) :
    Calls Tryz.prog 31 #[.string s] w fun e w' => ∃ C V, e = .returned (.tuple #[.pointer (some ⟨C, 0, none⟩), .nilIface]) ∧ w.heap.size ≤ C ∧ w.heap.size ≤ V ∧ ConAt w' C V x.ver.text x.op false true true ∧ VerAt w' V a b c pre me (x.ver.p1 ++ 46 :: r2 ++ [46, 48] ++ gtext 45 x.ver.pre) ∧ Below w.heap.size w w' := by
  have hsz : L.length + (x.text.length + RR.length) = s.size := by rw [← list_size, ht]; simp
  have hxp := tm_pos hx
  have hlen : x.ver.p1.length + ((ptext x.ver.p2).length + ((ptext x.ver.p3).length + (gtext 45 x.ver.pre).length)) ≤ x.text.length := by
    rw [Tm.text, Ver.text]; simp; omega
  have hp1 : (bytesOf x.ver.p1).toList.isEmpty = false := by
    rw [bytesOf_toList]
    have := hx.ver.p1.1
    cases h : x.ver.p1 with
    | nil => exact absurd h this
    | cons y l => rfl
  have k0 : (0 : Int) < (s.size : Int) := by omega
  have H61 := Lib.hid (fun (w : World) (R PB IB icap : Nat) (hp : PG w R PB IB icap conT) (hr : RH w R PB 4 1 24 1 11) (hT : Lib.Utf8Tabs 11 12 w) => conM (s := s) hp hr hT hs hx ht hL hR h0)
  have HT := Lib.hid hT
  have sz1 : (bytesOf x.ver.p1).size < 2000 := by rw [bytesOf_size]; omega
  have sz6 : (bytesOf (gtext 45 x.ver.pre)).size < 2000 := by rw [bytesOf_size]; omega
  have HX1 := Lib.hid (fun w => tIsXb x.ver.p1 w)
  rw [x1] at HX1
  have sz2 : (bytesOf (ptext x.ver.p2)).size < 2000 := by rw [bytesOf_size]; omega
  rw [h2, h3] at H61
  rw [h2] at sz2
  have hl2 : r2.length < 1000 := by rw [h2] at hlen; simp [ptext] at hlen; omega
  have HTa := Lib.hid (fun w => tTrimDot (46 :: r2) (.inr ⟨_, rfl⟩) (by simp; omega) w)
  have HX2 := Lib.hid (fun w => tIsXb r2 w)
  rw [x2] at HX2
  clear hl2
  have hl3 : r3.length < 1000 := by rw [h3] at hlen; simp [ptext] at hlen; omega
  have HTb := Lib.hid (fun w => tTrimDot (46 :: r3) (.inr ⟨_, rfl⟩) (by simp; omega) w)
  have HX3 := Lib.hid (fun w => tIsXb r3 w)
  rw [x3] at HX3
  clear hl3
  have hst : ((bytesOf x.ver.p1 ++ bytesOf (46 :: r2)) ++ ⟨#[46, 48]⟩) ++ bytesOf (gtext 45 x.ver.pre) = bytesOf (x.ver.p1 ++ 46 :: r2 ++ [46, 48] ++ gtext 45 x.ver.pre) := by
    rw [show (⟨#[46, 48]⟩ : ByteArray) = bytesOf [46, 48] from rfl]
    simp only [bytes_app]
  have HST := Lib.hid hst
  have HV := Lib.hid hv
  have q := q52
  clear hx ht hL hR h0 h2 h3 x1 x2 x3 hv hT hsz hxp hlen hs hst
  simp only [ptext] at H61 sz2
  generalize (x.ver.p1 ++ 46 :: r2 ++ [46, 48] ++ gtext 45 x.ver.pre) = vt at *
  generalize x.ver.text = yt at *
  generalize x.ver.p1 = r1 at *
  generalize x.op = op at *
  generalize gtext 45 x.ver.pre = g6 at *
  go_enter Tryz.func31, Tryz.ntmps31
  go_wp2_with (first
    | (go_at_call 49; refine (t60 w).mono ?_; rintro e w1 ⟨R, PB, IB, icap, rfl, hp, hr, hb⟩; have HP := Lib.hid (And.intro hp (And.intro hr (And.intro (Utf8Tabs_below HT.out hb) hb))); clear hp hr hb)
    | (go_at_call 50; refine (H61.out _ _ _ _ _ HP.out.1 HP.out.2.1 HP.out.2.2.1).mono ?_; rintro e w2 ⟨hb2, f, ⟨bp, rfl, h1, h2⟩, e1, e2, e3, e4, e5, e6⟩; have c1 := piece_cell h2 1 (by decide); have c2 := piece_cell h2 2 (by decide); have c3 := piece_cell h2 3 (by decide); have c4 := piece_cell h2 4 (by decide); have c5 := piece_cell h2 5 (by decide); have c6 := piece_cell h2 6 (by decide); rw [e1] at c1; rw [e2] at c2; rw [e3] at c3; rw [e4] at c4; rw [e5] at c5; rw [e6] at c6; have HB2 := Lib.hid (And.intro h1 (And.intro h2 (HP.out.2.2.2.trans (hb2.mono HP.out.2.2.2.size)))); clear hb2 h1 h2 e1 e2 e3 e4 e5 e6))
  go_region
  have hst : CAt w w2.heap.size bp #[.pointer none, .string (bytesOf yt), .string (bytesOf op), .bool false, .bool false, .bool false] (strs ((List.range 12).map f)) ((w2.alloc (.cells #[.pointer none, .string (bytesOf yt), .string (bytesOf op), .bool false, .bool false, .bool false] 73)).drew) := by
    obtain ⟨k1, k2, k3⟩ := HB2.out
    exact ⟨heap_alloc_new w2 _, (Below.heap_alloc w2 _ bp (Array.getElem?_eq_some_iff.1 k2).1).trans k2, (k3.alloc k3.size _).drew, k3.size⟩
  have e2 : (strs ((List.range 12).map f))[2]? = some (.string (bytesOf yt)) := by rw [← c2, cell_of_row _ _ _ _ _ _ HB2.out.2.1]
  have e3 : (strs ((List.range 12).map f))[3]? = some (.string (bytesOf r1)) := by rw [← c3, cell_of_row _ _ _ _ _ _ HB2.out.2.1]
  have e4 : (strs ((List.range 12).map f))[4]? = some (.string (bytesOf (46 :: r2))) := by rw [← c4, cell_of_row _ _ _ _ _ _ HB2.out.2.1]
  have e5 : (strs ((List.range 12).map f))[5]? = some (.string (bytesOf (46 :: r3))) := by rw [← c5, cell_of_row _ _ _ _ _ _ HB2.out.2.1]
  have e6 : (strs ((List.range 12).map f))[6]? = some (.string (bytesOf g6)) := by rw [← c6, cell_of_row _ _ _ _ _ _ HB2.out.2.1]
  clear c1 c2 c3 c4 c5 c6
  generalize (w2.alloc (.cells #[.pointer none, .string (bytesOf yt), .string (bytesOf op), .bool false, .bool false, .bool false] 73)).drew = W3 at *
  generalize strs ((List.range 12).map f) = ps at *
  generalize w2.heap.size = C at *
  have HS := Lib.hid hst
  have c2 := hst.piece 2 _ e2
  have c3 := hst.piece 3 _ e3
  have c4 := hst.piece 4 _ e4
  have c5 := hst.piece 5 _ e5
  have c6 := hst.piece 6 _ e6
  clear hst e2 e3 e4 e5 e6
  have n2 := bytesOf_toList (46 :: r2)
  have n3 := bytesOf_toList (46 :: r3)
  go_upto_region 20 with (first
    | (go_at_call 51; first | ((with_reducible refine (HX1.out _).mono ?_); rintro e w6 ⟨rfl, hw⟩; subst hw) | ((with_reducible refine (HX2.out _).mono ?_); rintro e w6 ⟨rfl, hw⟩; subst hw) | ((with_reducible refine (HX3.out _).mono ?_); rintro e w6 ⟨rfl, hw⟩; subst hw))
    | (go_at_call 52; first | ((with_reducible refine (HTa.out _).mono ?_); rintro e w6 ⟨rfl, hw⟩; subst hw; rw [show ((46 :: r2) : Bs).tail = r2 from rfl]) | ((with_reducible refine (HTb.out _).mono ?_); rintro e w6 ⟨rfl, hw⟩; subst hw; rw [show ((46 :: r3) : Bs).tail = r3 from rfl]))
    | go_in)
  go_quiet (fail)
  have hq := HS.out.keep (bdN _ nq)
  have HS := Lib.hid hq
  clear hq
  go_upto_region 21 with fail
  rw [HST.out]
  clear c2 c3 c4 c5 c6 n2 n3 k0
  have HU := Lib.hid (Utf8Tabs_below HT.out HS.out.b)
  go_wp2_with (go_at_call 53; refine (HV.out _ HU.out).mono ?_; rintro e w7 ⟨V, rfl, hVs, hVa, hb7⟩; have hst4 := HS.out.keep hb7; have HS4 := Lib.hid hst4; have HW := Lib.hid (And.intro hVs hVa); have v0 := hst4.cell 0 _ rfl; have v3 := hst4.cell 3 _ rfl; have v4 := hst4.cell 4 _ rfl; have v5 := hst4.cell 5 _ rfl; have z0 := hst4.fz 0; have z3 := hst4.fz 3; have z4 := hst4.fz 4; have z5 := hst4.fz 5; clear hb7 hst4 hVs hVa)
  go_ret2
  have hfin := (((HS4.out.store 0 (.pointer (some ⟨V, 0, none⟩))).store 3 (.bool false)).store 5 (.bool true)).store 4 (.bool true)
  have hne : V ≠ C := typ_ne HW.out.2 HS4.out.v (by decide)
  refine ⟨C, V, rfl, hfin.h, Nat.le_trans HS.out.b.size HW.out.1, hfin.v, ?_, hfin.b⟩
  unfold VerAt
  rw [heap_setCell_other _ _ _ _ hne, heap_setCell_other _ _ _ _ hne, heap_setCell_other _ _ _ _ hne, heap_setCell_other _ _ _ _ hne]
  exact HW.out.2
end Go.Proofs.YtnamjojceadgdaaGreatDoor.Sv
end
section
set_option linter.unusedVariables false
set_option linter.unusedSimpArgs false
/- the operators < and >=, of a release -/
namespace Go.Proofs.YtnamjojceadgdaaGreatDoor.Sv
open Go Go.RowKit Rx
set_option maxRecDepth 100000
set_option maxHeartbeats 4000000 in
theorem tLt (w : World) (V U C a b c : Nat) (p m o : ByteArray) (a2 b2 c2 : Nat) (p2 m2 o2 op : ByteArray) (md d pd inc : Bool) (h : S3 w V U C a b c p m o a2 b2 c2 p2 m2 o2 op md d pd w) (hp : p.toList.isEmpty = true) (rel : Bool) (hr : p2.toList.isEmpty = rel) :
    Calls Tryz.prog 58 #[.pointer (some ⟨V, 0, none⟩), .pointer (some ⟨C, 0, none⟩), .bool inc] w fun e w' => ∃ ev, e = .returned (.tuple #[.bool (decide (cmpRel a b c a2 b2 c2 rel < 0)), ev]) ∧ Below w.heap.size w w' := by
  obtain ⟨q0, q1, q2, q3, q4, q5, q6, q7, q8, q9, q10, q11, q12, q13, q14, q15, q16, q17⟩ := h
  go_enter Tryz.func58, Tryz.ntmps58
  go_wp2_with (first
    | (go_at_call 81; refine (tPrere _ _ _ _ _ _ _).mono ?_; rintro e w1 ⟨rfl, hb⟩; obtain ⟨q0, q1, q2, q3, q4, q5, q6, q7, q8, q9, q10, q11, q12, q13, q14, q15, q16, q17⟩ := kp18 hb q0 q1 q2 q3 q4 q5 q6 q7 q8 q9 q10 q11 q12 q13 q14 q15 q16 q17; clear hb)
    | (go_at_call 87; refine (tCmp _ V U a b c p m o a2 b2 c2 p2 m2 o2 ⟨q0, q1, q2, q3, q4, q5, q6, q7, q8, q9, q10, q11, Below.refl _ _⟩ hp rel hr).mono ?_; rintro e w2 ⟨rfl, hb⟩; obtain ⟨q0, q1, q2, q3, q4, q5, q6, q7, q8, q9, q10, q11, q12, q13, q14, q15, q16, q17⟩ := kp18 hb q0 q1 q2 q3 q4 q5 q6 q7 q8 q9 q10 q11 q12 q13 q14 q15 q16 q17; clear hb)
    | (go_at_call 28; refine (tErr _ _).mono ?_; rintro e w3 ⟨t3, a3, rfl, hb⟩; obtain ⟨q0, q1, q2, q3, q4, q5, q6, q7, q8, q9, q10, q11, q12, q13, q14, q15, q16, q17⟩ := kp18 hb q0 q1 q2 q3 q4 q5 q6 q7 q8 q9 q10 q11 q12 q13 q14 q15 q16 q17; clear hb))
  all_goals go_ret2
  all_goals first
    | (rw [decide_eq_true (show cmpRel a b c a2 b2 c2 rel < 0 by first | assumption | omega)]; exact ⟨_, rfl, by assumption⟩)
    | (rw [decide_eq_false (show ¬ (cmpRel a b c a2 b2 c2 rel < 0) by first | assumption | omega)]; exact ⟨_, rfl, by assumption⟩)
set_option maxHeartbeats 4000000 in
theorem tGe (w : World) (V U C a b c : Nat) (p m o : ByteArray) (a2 b2 c2 : Nat) (p2 m2 o2 op : ByteArray) (md d pd inc : Bool) (h : S3 w V U C a b c p m o a2 b2 c2 p2 m2 o2 op md d pd w) (hp : p.toList.isEmpty = true) (rel : Bool) (hr : p2.toList.isEmpty = rel) :
    Calls Tryz.prog 59 #[.pointer (some ⟨V, 0, none⟩), .pointer (some ⟨C, 0, none⟩), .bool inc] w fun e w' => ∃ ev, e = .returned (.tuple #[.bool (decide (0 ≤ cmpRel a b c a2 b2 c2 rel)), ev]) ∧ Below w.heap.size w w' := by
  obtain ⟨q0, q1, q2, q3, q4, q5, q6, q7, q8, q9, q10, q11, q12, q13, q14, q15, q16, q17⟩ := h
  go_enter Tryz.func59, Tryz.ntmps59
  go_wp2_with (first
    | (go_at_call 81; refine (tPrere _ _ _ _ _ _ _).mono ?_; rintro e w1 ⟨rfl, hb⟩; obtain ⟨q0, q1, q2, q3, q4, q5, q6, q7, q8, q9, q10, q11, q12, q13, q14, q15, q16, q17⟩ := kp18 hb q0 q1 q2 q3 q4 q5 q6 q7 q8 q9 q10 q11 q12 q13 q14 q15 q16 q17; clear hb)
    | (go_at_call 87; refine (tCmp _ V U a b c p m o a2 b2 c2 p2 m2 o2 ⟨q0, q1, q2, q3, q4, q5, q6, q7, q8, q9, q10, q11, Below.refl _ _⟩ hp rel hr).mono ?_; rintro e w2 ⟨rfl, hb⟩; obtain ⟨q0, q1, q2, q3, q4, q5, q6, q7, q8, q9, q10, q11, q12, q13, q14, q15, q16, q17⟩ := kp18 hb q0 q1 q2 q3 q4 q5 q6 q7 q8 q9 q10 q11 q12 q13 q14 q15 q16 q17; clear hb)
    | (go_at_call 28; refine (tErr _ _).mono ?_; rintro e w3 ⟨t3, a3, rfl, hb⟩; obtain ⟨q0, q1, q2, q3, q4, q5, q6, q7, q8, q9, q10, q11, q12, q13, q14, q15, q16, q17⟩ := kp18 hb q0 q1 q2 q3 q4 q5 q6 q7 q8 q9 q10 q11 q12 q13 q14 q15 q16 q17; clear hb))
  all_goals go_ret2
  all_goals first
    | (rw [decide_eq_true (show 0 ≤ cmpRel a b c a2 b2 c2 rel by first | assumption | omega)]; exact ⟨_, rfl, by assumption⟩)
    | (rw [decide_eq_false (show ¬ (0 ≤ cmpRel a b c a2 b2 c2 rel) by first | assumption | omega)]; exact ⟨_, rfl, by assumption⟩)
end Go.Proofs.YtnamjojceadgdaaGreatDoor.Sv
end
section
set_option linter.unusedVariables false
set_option linter.unusedSimpArgs false
/- the operators = != > <=, of a release, with numbers missing or not -/
namespace Go.Proofs.YtnamjojceadgdaaGreatDoor.Sv
open Go Go.RowKit Rx
set_option maxRecDepth 100000
def gtR (a b c a2 b2 c2 : Nat) (rel md d pd : Bool) : Bool := if d = false then cmpRel a b c a2 b2 c2 rel == 1 else if a2 < a then true else if a < a2 then false else if md = true then false else if pd = true then decide (b2 < b) else cmpRel a b c a2 b2 c2 rel == 1
set_option maxHeartbeats 8000000 in
theorem tGtW (w : World) (V U C a b c : Nat) (p m o : ByteArray) (a2 b2 c2 : Nat) (p2 m2 o2 op : ByteArray) (md d pd inc : Bool) (h : S3 w V U C a b c p m o a2 b2 c2 p2 m2 o2 op md d pd w) (hp : p.toList.isEmpty = true) (rel : Bool) (hr : p2.toList.isEmpty = rel) :
    Calls Tryz.prog 57 #[.pointer (some ⟨V, 0, none⟩), .pointer (some ⟨C, 0, none⟩), .bool inc] w fun e w' => ∃ ev, e = .returned (.tuple #[.bool (gtR a b c a2 b2 c2 rel md d pd), ev]) ∧ Below w.heap.size w w' := by
  cases d
  · exact tGt w V U C a b c p m o a2 b2 c2 p2 m2 o2 op md false pd inc h hp rel hr rfl
  obtain ⟨q0, q1, q2, q3, q4, q5, q6, q7, q8, q9, q10, q11, q12, q13, q14, q15, q16, q17⟩ := h
  generalize hres : gtR a b c a2 b2 c2 rel md true pd = res
  have HRES := Lib.hid hres
  clear hres
  go_enter Tryz.func57, Tryz.ntmps57
  by_cases x1 : a2 < a
  · have y1 : (a2 : Int) < (a : Int) := by omega
    go_upto_region 9 with (first | (go_at_call 81; refine (tPrere _ _ _ _ _ _ _).mono ?_; rintro e w1 ⟨rfl, hb⟩; obtain ⟨q0, q1, q2, q3, q4, q5, q6, q7, q8, q9, q10, q11, q12, q13, q14, q15, q16, q17⟩ := kp18 hb q0 q1 q2 q3 q4 q5 q6 q7 q8 q9 q10 q11 q12 q13 q14 q15 q16 q17; clear hb) | (go_at_call 83; refine (tMajor _ _ _ _ _ _ _).mono ?_; rintro e w1 ⟨rfl, hb⟩; obtain ⟨q0, q1, q2, q3, q4, q5, q6, q7, q8, q9, q10, q11, q12, q13, q14, q15, q16, q17⟩ := kp18 hb q0 q1 q2 q3 q4 q5 q6 q7 q8 q9 q10 q11 q12 q13 q14 q15 q16 q17; clear hb) | (go_at_call 84; refine (tMinor _ _ _ _ _ _ _).mono ?_; rintro e w1 ⟨rfl, hb⟩; obtain ⟨q0, q1, q2, q3, q4, q5, q6, q7, q8, q9, q10, q11, q12, q13, q14, q15, q16, q17⟩ := kp18 hb q0 q1 q2 q3 q4 q5 q6 q7 q8 q9 q10 q11 q12 q13 q14 q15 q16 q17; clear hb) | (go_at_call 85; refine (tPatch _ _ _ _ _ _ _).mono ?_; rintro e w1 ⟨rfl, hb⟩; obtain ⟨q0, q1, q2, q3, q4, q5, q6, q7, q8, q9, q10, q11, q12, q13, q14, q15, q16, q17⟩ := kp18 hb q0 q1 q2 q3 q4 q5 q6 q7 q8 q9 q10 q11 q12 q13 q14 q15 q16 q17; clear hb) | (go_at_call 87; refine (tCmp _ V U a b c p m o a2 b2 c2 p2 m2 o2 ⟨(by first | assumption | (rw [World.cell?_drew]; assumption)), (by first | assumption | (rw [World.cell?_drew]; assumption)), (by first | assumption | (rw [World.cell?_drew]; assumption)), (by first | assumption | (rw [World.cell?_drew]; assumption)), (by first | assumption | (rw [World.cell?_drew]; assumption)), (by first | assumption | (rw [World.cell?_drew]; assumption)), (by first | assumption | (rw [World.cell?_drew]; assumption)), (by first | assumption | (rw [World.cell?_drew]; assumption)), (by first | assumption | (rw [World.cell?_drew]; assumption)), (by first | assumption | (rw [World.cell?_drew]; assumption)), (by first | assumption | (rw [World.cell?_drew]; assumption)), (by first | assumption | (rw [World.cell?_drew]; assumption)), Below.refl _ _⟩ hp rel hr).mono ?_; rintro e w2 ⟨rfl, hb⟩; obtain ⟨q0, q1, q2, q3, q4, q5, q6, q7, q8, q9, q10, q11, q12, q13, q14, q15, q16, q17⟩ := kp18 hb q0 q1 q2 q3 q4 q5 q6 q7 q8 q9 q10 q11 q12 q13 q14 q15 q16 q17; clear hb) | (go_at_call 28; refine (tErr _ _).mono ?_; rintro e w3 ⟨t3, a3, rfl, hb⟩; obtain ⟨q0, q1, q2, q3, q4, q5, q6, q7, q8, q9, q10, q11, q12, q13, q14, q15, q16, q17⟩ := kp18 hb q0 q1 q2 q3 q4 q5 q6 q7 q8 q9 q10 q11 q12 q13 q14 q15 q16 q17; clear hb))
    go_region_held3 (fun w' => w'.cell? ⟨V, 0, none⟩ = some (.int .u64 a) ∧ w'.cell? ⟨V, 1, none⟩ = some (.int .u64 b) ∧ w'.cell? ⟨V, 2, none⟩ = some (.int .u64 c) ∧ w'.cell? ⟨V, 3, none⟩ = some (.string p) ∧ w'.cell? ⟨V, 4, none⟩ = some (.string m) ∧ w'.cell? ⟨V, 5, none⟩ = some (.string o) ∧ w'.cell? ⟨U, 0, none⟩ = some (.int .u64 a2) ∧ w'.cell? ⟨U, 1, none⟩ = some (.int .u64 b2) ∧ w'.cell? ⟨U, 2, none⟩ = some (.int .u64 c2) ∧ w'.cell? ⟨U, 3, none⟩ = some (.string p2) ∧ w'.cell? ⟨U, 4, none⟩ = some (.string m2) ∧ w'.cell? ⟨U, 5, none⟩ = some (.string o2) ∧ w'.cell? ⟨C, 0, none⟩ = some (.pointer (some ⟨U, 0, none⟩)) ∧ w'.cell? ⟨C, 2, none⟩ = some (.string op) ∧ w'.cell? ⟨C, 3, none⟩ = some (.bool md) ∧ w'.cell? ⟨C, 4, none⟩ = some (.bool true) ∧ w'.cell? ⟨C, 5, none⟩ = some (.bool pd) ∧ Below w.heap.size w w') (refine ⟨?_, ?_, ?_, ?_, ?_, ?_, ?_, ?_, ?_, ?_, ?_, ?_, ?_, ?_, ?_, ?_, ?_, ?_⟩ <;> first | assumption | (rw [World.cell?_drew]; assumption) | (refine Below.drew ?_; assumption)) (first | (go_at_call 83; refine (tMajor _ _ _ _ _ _ _).mono ?_; rintro e w1 ⟨rfl, hb⟩; have HS2 : S3 w V U C a b c p m o a2 b2 c2 p2 m2 o2 op md true pd w1 := (by refine ⟨?_, ?_, ?_, ?_, ?_, ?_, ?_, ?_, ?_, ?_, ?_, ?_, ?_, ?_, ?_, ?_, ?_, ?_⟩ <;> first | exact keepc hb (by first | assumption | (rw [World.cell?_drew]; assumption)) | exact belk hb (by first | assumption | (refine Below.drew ?_; assumption))); clear hb; obtain ⟨q0, q1, q2, q3, q4, q5, q6, q7, q8, q9, q10, q11, q12, q13, q14, q15, q16, q17⟩ := HS2))
    all_goals go_wp2
    all_goals (go_ret2; refine ret_bool (r := res) ?_ (by first | assumption | (refine Below.drew ?_; assumption)); rw [← HRES.out, gtR, if_neg (by simp), if_pos x1])
  · have y1 : ¬ (a2 : Int) < (a : Int) := by omega
    by_cases x2 : a < a2
    · have y2 : (a : Int) < (a2 : Int) := by omega
      go_upto_region 9 with (first | (go_at_call 81; refine (tPrere _ _ _ _ _ _ _).mono ?_; rintro e w1 ⟨rfl, hb⟩; obtain ⟨q0, q1, q2, q3, q4, q5, q6, q7, q8, q9, q10, q11, q12, q13, q14, q15, q16, q17⟩ := kp18 hb q0 q1 q2 q3 q4 q5 q6 q7 q8 q9 q10 q11 q12 q13 q14 q15 q16 q17; clear hb) | (go_at_call 83; refine (tMajor _ _ _ _ _ _ _).mono ?_; rintro e w1 ⟨rfl, hb⟩; obtain ⟨q0, q1, q2, q3, q4, q5, q6, q7, q8, q9, q10, q11, q12, q13, q14, q15, q16, q17⟩ := kp18 hb q0 q1 q2 q3 q4 q5 q6 q7 q8 q9 q10 q11 q12 q13 q14 q15 q16 q17; clear hb) | (go_at_call 84; refine (tMinor _ _ _ _ _ _ _).mono ?_; rintro e w1 ⟨rfl, hb⟩; obtain ⟨q0, q1, q2, q3, q4, q5, q6, q7, q8, q9, q10, q11, q12, q13, q14, q15, q16, q17⟩ := kp18 hb q0 q1 q2 q3 q4 q5 q6 q7 q8 q9 q10 q11 q12 q13 q14 q15 q16 q17; clear hb) | (go_at_call 85; refine (tPatch _ _ _ _ _ _ _).mono ?_; rintro e w1 ⟨rfl, hb⟩; obtain ⟨q0, q1, q2, q3, q4, q5, q6, q7, q8, q9, q10, q11, q12, q13, q14, q15, q16, q17⟩ := kp18 hb q0 q1 q2 q3 q4 q5 q6 q7 q8 q9 q10 q11 q12 q13 q14 q15 q16 q17; clear hb) | (go_at_call 87; refine (tCmp _ V U a b c p m o a2 b2 c2 p2 m2 o2 ⟨(by first | assumption | (rw [World.cell?_drew]; assumption)), (by first | assumption | (rw [World.cell?_drew]; assumption)), (by first | assumption | (rw [World.cell?_drew]; assumption)), (by first | assumption | (rw [World.cell?_drew]; assumption)), (by first | assumption | (rw [World.cell?_drew]; assumption)), (by first | assumption | (rw [World.cell?_drew]; assumption)), (by first | assumption | (rw [World.cell?_drew]; assumption)), (by first | assumption | (rw [World.cell?_drew]; assumption)), (by first | assumption | (rw [World.cell?_drew]; assumption)), (by first | assumption | (rw [World.cell?_drew]; assumption)), (by first | assumption | (rw [World.cell?_drew]; assumption)), (by first | assumption | (rw [World.cell?_drew]; assumption)), Below.refl _ _⟩ hp rel hr).mono ?_; rintro e w2 ⟨rfl, hb⟩; obtain ⟨q0, q1, q2, q3, q4, q5, q6, q7, q8, q9, q10, q11, q12, q13, q14, q15, q16, q17⟩ := kp18 hb q0 q1 q2 q3 q4 q5 q6 q7 q8 q9 q10 q11 q12 q13 q14 q15 q16 q17; clear hb) | (go_at_call 28; refine (tErr _ _).mono ?_; rintro e w3 ⟨t3, a3, rfl, hb⟩; obtain ⟨q0, q1, q2, q3, q4, q5, q6, q7, q8, q9, q10, q11, q12, q13, q14, q15, q16, q17⟩ := kp18 hb q0 q1 q2 q3 q4 q5 q6 q7 q8 q9 q10 q11 q12 q13 q14 q15 q16 q17; clear hb))
      go_region_held3 (fun w' => w'.cell? ⟨V, 0, none⟩ = some (.int .u64 a) ∧ w'.cell? ⟨V, 1, none⟩ = some (.int .u64 b) ∧ w'.cell? ⟨V, 2, none⟩ = some (.int .u64 c) ∧ w'.cell? ⟨V, 3, none⟩ = some (.string p) ∧ w'.cell? ⟨V, 4, none⟩ = some (.string m) ∧ w'.cell? ⟨V, 5, none⟩ = some (.string o) ∧ w'.cell? ⟨U, 0, none⟩ = some (.int .u64 a2) ∧ w'.cell? ⟨U, 1, none⟩ = some (.int .u64 b2) ∧ w'.cell? ⟨U, 2, none⟩ = some (.int .u64 c2) ∧ w'.cell? ⟨U, 3, none⟩ = some (.string p2) ∧ w'.cell? ⟨U, 4, none⟩ = some (.string m2) ∧ w'.cell? ⟨U, 5, none⟩ = some (.string o2) ∧ w'.cell? ⟨C, 0, none⟩ = some (.pointer (some ⟨U, 0, none⟩)) ∧ w'.cell? ⟨C, 2, none⟩ = some (.string op) ∧ w'.cell? ⟨C, 3, none⟩ = some (.bool md) ∧ w'.cell? ⟨C, 4, none⟩ = some (.bool true) ∧ w'.cell? ⟨C, 5, none⟩ = some (.bool pd) ∧ Below w.heap.size w w') (refine ⟨?_, ?_, ?_, ?_, ?_, ?_, ?_, ?_, ?_, ?_, ?_, ?_, ?_, ?_, ?_, ?_, ?_, ?_⟩ <;> first | assumption | (rw [World.cell?_drew]; assumption) | (refine Below.drew ?_; assumption)) (first | (go_at_call 83; refine (tMajor _ _ _ _ _ _ _).mono ?_; rintro e w1 ⟨rfl, hb⟩; have HS2 : S3 w V U C a b c p m o a2 b2 c2 p2 m2 o2 op md true pd w1 := (by refine ⟨?_, ?_, ?_, ?_, ?_, ?_, ?_, ?_, ?_, ?_, ?_, ?_, ?_, ?_, ?_, ?_, ?_, ?_⟩ <;> first | exact keepc hb (by first | assumption | (rw [World.cell?_drew]; assumption)) | exact belk hb (by first | assumption | (refine Below.drew ?_; assumption))); clear hb; obtain ⟨q0, q1, q2, q3, q4, q5, q6, q7, q8, q9, q10, q11, q12, q13, q14, q15, q16, q17⟩ := HS2))
      go_upto_region 11 with fail
      go_region_held3 (fun w' => w'.cell? ⟨V, 0, none⟩ = some (.int .u64 a) ∧ w'.cell? ⟨V, 1, none⟩ = some (.int .u64 b) ∧ w'.cell? ⟨V, 2, none⟩ = some (.int .u64 c) ∧ w'.cell? ⟨V, 3, none⟩ = some (.string p) ∧ w'.cell? ⟨V, 4, none⟩ = some (.string m) ∧ w'.cell? ⟨V, 5, none⟩ = some (.string o) ∧ w'.cell? ⟨U, 0, none⟩ = some (.int .u64 a2) ∧ w'.cell? ⟨U, 1, none⟩ = some (.int .u64 b2) ∧ w'.cell? ⟨U, 2, none⟩ = some (.int .u64 c2) ∧ w'.cell? ⟨U, 3, none⟩ = some (.string p2) ∧ w'.cell? ⟨U, 4, none⟩ = some (.string m2) ∧ w'.cell? ⟨U, 5, none⟩ = some (.string o2) ∧ w'.cell? ⟨C, 0, none⟩ = some (.pointer (some ⟨U, 0, none⟩)) ∧ w'.cell? ⟨C, 2, none⟩ = some (.string op) ∧ w'.cell? ⟨C, 3, none⟩ = some (.bool md) ∧ w'.cell? ⟨C, 4, none⟩ = some (.bool true) ∧ w'.cell? ⟨C, 5, none⟩ = some (.bool pd) ∧ Below w.heap.size w w') (refine ⟨?_, ?_, ?_, ?_, ?_, ?_, ?_, ?_, ?_, ?_, ?_, ?_, ?_, ?_, ?_, ?_, ?_, ?_⟩ <;> first | assumption | (rw [World.cell?_drew]; assumption) | (refine Below.drew ?_; assumption)) (first | (go_at_call 83; refine (tMajor _ _ _ _ _ _ _).mono ?_; rintro e w1 ⟨rfl, hb⟩; have HS2 : S3 w V U C a b c p m o a2 b2 c2 p2 m2 o2 op md true pd w1 := (by refine ⟨?_, ?_, ?_, ?_, ?_, ?_, ?_, ?_, ?_, ?_, ?_, ?_, ?_, ?_, ?_, ?_, ?_, ?_⟩ <;> first | exact keepc hb (by first | assumption | (rw [World.cell?_drew]; assumption)) | exact belk hb (by first | assumption | (refine Below.drew ?_; assumption))); clear hb; obtain ⟨q0, q1, q2, q3, q4, q5, q6, q7, q8, q9, q10, q11, q12, q13, q14, q15, q16, q17⟩ := HS2))
      all_goals go_wp2_with (go_at_call 28; refine (tErr _ _).mono ?_; rintro e w3 ⟨t3, a3, rfl, hb⟩; have hbb := belk hb (by first | assumption | (refine Below.drew ?_; assumption)); clear hb)
      all_goals (go_ret2; refine ret_bool (r := res) ?_ (by first | assumption | (refine Below.drew ?_; assumption)); rw [← HRES.out, gtR, if_neg (by simp), if_neg x1, if_pos x2])
    · have y2 : ¬ (a : Int) < (a2 : Int) := by omega
      go_upto_region 9 with (first | (go_at_call 81; refine (tPrere _ _ _ _ _ _ _).mono ?_; rintro e w1 ⟨rfl, hb⟩; obtain ⟨q0, q1, q2, q3, q4, q5, q6, q7, q8, q9, q10, q11, q12, q13, q14, q15, q16, q17⟩ := kp18 hb q0 q1 q2 q3 q4 q5 q6 q7 q8 q9 q10 q11 q12 q13 q14 q15 q16 q17; clear hb) | (go_at_call 83; refine (tMajor _ _ _ _ _ _ _).mono ?_; rintro e w1 ⟨rfl, hb⟩; obtain ⟨q0, q1, q2, q3, q4, q5, q6, q7, q8, q9, q10, q11, q12, q13, q14, q15, q16, q17⟩ := kp18 hb q0 q1 q2 q3 q4 q5 q6 q7 q8 q9 q10 q11 q12 q13 q14 q15 q16 q17; clear hb) | (go_at_call 84; refine (tMinor _ _ _ _ _ _ _).mono ?_; rintro e w1 ⟨rfl, hb⟩; obtain ⟨q0, q1, q2, q3, q4, q5, q6, q7, q8, q9, q10, q11, q12, q13, q14, q15, q16, q17⟩ := kp18 hb q0 q1 q2 q3 q4 q5 q6 q7 q8 q9 q10 q11 q12 q13 q14 q15 q16 q17; clear hb) | (go_at_call 85; refine (tPatch _ _ _ _ _ _ _).mono ?_; rintro e w1 ⟨rfl, hb⟩; obtain ⟨q0, q1, q2, q3, q4, q5, q6, q7, q8, q9, q10, q11, q12, q13, q14, q15, q16, q17⟩ := kp18 hb q0 q1 q2 q3 q4 q5 q6 q7 q8 q9 q10 q11 q12 q13 q14 q15 q16 q17; clear hb) | (go_at_call 87; refine (tCmp _ V U a b c p m o a2 b2 c2 p2 m2 o2 ⟨(by first | assumption | (rw [World.cell?_drew]; assumption)), (by first | assumption | (rw [World.cell?_drew]; assumption)), (by first | assumption | (rw [World.cell?_drew]; assumption)), (by first | assumption | (rw [World.cell?_drew]; assumption)), (by first | assumption | (rw [World.cell?_drew]; assumption)), (by first | assumption | (rw [World.cell?_drew]; assumption)), (by first | assumption | (rw [World.cell?_drew]; assumption)), (by first | assumption | (rw [World.cell?_drew]; assumption)), (by first | assumption | (rw [World.cell?_drew]; assumption)), (by first | assumption | (rw [World.cell?_drew]; assumption)), (by first | assumption | (rw [World.cell?_drew]; assumption)), (by first | assumption | (rw [World.cell?_drew]; assumption)), Below.refl _ _⟩ hp rel hr).mono ?_; rintro e w2 ⟨rfl, hb⟩; obtain ⟨q0, q1, q2, q3, q4, q5, q6, q7, q8, q9, q10, q11, q12, q13, q14, q15, q16, q17⟩ := kp18 hb q0 q1 q2 q3 q4 q5 q6 q7 q8 q9 q10 q11 q12 q13 q14 q15 q16 q17; clear hb) | (go_at_call 28; refine (tErr _ _).mono ?_; rintro e w3 ⟨t3, a3, rfl, hb⟩; obtain ⟨q0, q1, q2, q3, q4, q5, q6, q7, q8, q9, q10, q11, q12, q13, q14, q15, q16, q17⟩ := kp18 hb q0 q1 q2 q3 q4 q5 q6 q7 q8 q9 q10 q11 q12 q13 q14 q15 q16 q17; clear hb))
      go_region_held3 (fun w' => w'.cell? ⟨V, 0, none⟩ = some (.int .u64 a) ∧ w'.cell? ⟨V, 1, none⟩ = some (.int .u64 b) ∧ w'.cell? ⟨V, 2, none⟩ = some (.int .u64 c) ∧ w'.cell? ⟨V, 3, none⟩ = some (.string p) ∧ w'.cell? ⟨V, 4, none⟩ = some (.string m) ∧ w'.cell? ⟨V, 5, none⟩ = some (.string o) ∧ w'.cell? ⟨U, 0, none⟩ = some (.int .u64 a2) ∧ w'.cell? ⟨U, 1, none⟩ = some (.int .u64 b2) ∧ w'.cell? ⟨U, 2, none⟩ = some (.int .u64 c2) ∧ w'.cell? ⟨U, 3, none⟩ = some (.string p2) ∧ w'.cell? ⟨U, 4, none⟩ = some (.string m2) ∧ w'.cell? ⟨U, 5, none⟩ = some (.string o2) ∧ w'.cell? ⟨C, 0, none⟩ = some (.pointer (some ⟨U, 0, none⟩)) ∧ w'.cell? ⟨C, 2, none⟩ = some (.string op) ∧ w'.cell? ⟨C, 3, none⟩ = some (.bool md) ∧ w'.cell? ⟨C, 4, none⟩ = some (.bool true) ∧ w'.cell? ⟨C, 5, none⟩ = some (.bool pd) ∧ Below w.heap.size w w') (refine ⟨?_, ?_, ?_, ?_, ?_, ?_, ?_, ?_, ?_, ?_, ?_, ?_, ?_, ?_, ?_, ?_, ?_, ?_⟩ <;> first | assumption | (rw [World.cell?_drew]; assumption) | (refine Below.drew ?_; assumption)) (first | (go_at_call 83; refine (tMajor _ _ _ _ _ _ _).mono ?_; rintro e w1 ⟨rfl, hb⟩; have HS2 : S3 w V U C a b c p m o a2 b2 c2 p2 m2 o2 op md true pd w1 := (by refine ⟨?_, ?_, ?_, ?_, ?_, ?_, ?_, ?_, ?_, ?_, ?_, ?_, ?_, ?_, ?_, ?_, ?_, ?_⟩ <;> first | exact keepc hb (by first | assumption | (rw [World.cell?_drew]; assumption)) | exact belk hb (by first | assumption | (refine Below.drew ?_; assumption))); clear hb; obtain ⟨q0, q1, q2, q3, q4, q5, q6, q7, q8, q9, q10, q11, q12, q13, q14, q15, q16, q17⟩ := HS2))
      go_upto_region 11 with fail
      go_region_held3 (fun w' => w'.cell? ⟨V, 0, none⟩ = some (.int .u64 a) ∧ w'.cell? ⟨V, 1, none⟩ = some (.int .u64 b) ∧ w'.cell? ⟨V, 2, none⟩ = some (.int .u64 c) ∧ w'.cell? ⟨V, 3, none⟩ = some (.string p) ∧ w'.cell? ⟨V, 4, none⟩ = some (.string m) ∧ w'.cell? ⟨V, 5, none⟩ = some (.string o) ∧ w'.cell? ⟨U, 0, none⟩ = some (.int .u64 a2) ∧ w'.cell? ⟨U, 1, none⟩ = some (.int .u64 b2) ∧ w'.cell? ⟨U, 2, none⟩ = some (.int .u64 c2) ∧ w'.cell? ⟨U, 3, none⟩ = some (.string p2) ∧ w'.cell? ⟨U, 4, none⟩ = some (.string m2) ∧ w'.cell? ⟨U, 5, none⟩ = some (.string o2) ∧ w'.cell? ⟨C, 0, none⟩ = some (.pointer (some ⟨U, 0, none⟩)) ∧ w'.cell? ⟨C, 2, none⟩ = some (.string op) ∧ w'.cell? ⟨C, 3, none⟩ = some (.bool md) ∧ w'.cell? ⟨C, 4, none⟩ = some (.bool true) ∧ w'.cell? ⟨C, 5, none⟩ = some (.bool pd) ∧ Below w.heap.size w w') (refine ⟨?_, ?_, ?_, ?_, ?_, ?_, ?_, ?_, ?_, ?_, ?_, ?_, ?_, ?_, ?_, ?_, ?_, ?_⟩ <;> first | assumption | (rw [World.cell?_drew]; assumption) | (refine Below.drew ?_; assumption)) (first | (go_at_call 83; refine (tMajor _ _ _ _ _ _ _).mono ?_; rintro e w1 ⟨rfl, hb⟩; have HS2 : S3 w V U C a b c p m o a2 b2 c2 p2 m2 o2 op md true pd w1 := (by refine ⟨?_, ?_, ?_, ?_, ?_, ?_, ?_, ?_, ?_, ?_, ?_, ?_, ?_, ?_, ?_, ?_, ?_, ?_⟩ <;> first | exact keepc hb (by first | assumption | (rw [World.cell?_drew]; assumption)) | exact belk hb (by first | assumption | (refine Below.drew ?_; assumption))); clear hb; obtain ⟨q0, q1, q2, q3, q4, q5, q6, q7, q8, q9, q10, q11, q12, q13, q14, q15, q16, q17⟩ := HS2))
      cases md
      · cases pd
        · go_wp2_with (first | (go_at_call 87; refine (tCmp _ V U a b c p m o a2 b2 c2 p2 m2 o2 ⟨(by first | assumption | (rw [World.cell?_drew]; assumption)), (by first | assumption | (rw [World.cell?_drew]; assumption)), (by first | assumption | (rw [World.cell?_drew]; assumption)), (by first | assumption | (rw [World.cell?_drew]; assumption)), (by first | assumption | (rw [World.cell?_drew]; assumption)), (by first | assumption | (rw [World.cell?_drew]; assumption)), (by first | assumption | (rw [World.cell?_drew]; assumption)), (by first | assumption | (rw [World.cell?_drew]; assumption)), (by first | assumption | (rw [World.cell?_drew]; assumption)), (by first | assumption | (rw [World.cell?_drew]; assumption)), (by first | assumption | (rw [World.cell?_drew]; assumption)), (by first | assumption | (rw [World.cell?_drew]; assumption)), Below.refl _ _⟩ hp rel hr).mono ?_; rintro e w2 ⟨rfl, hb⟩; obtain ⟨q0, q1, q2, q3, q4, q5, q6, q7, q8, q9, q10, q11, q12, q13, q14, q15, q16, q17⟩ := kp18 hb q0 q1 q2 q3 q4 q5 q6 q7 q8 q9 q10 q11 q12 q13 q14 q15 q16 q17; clear hb) | (go_at_call 28; refine (tErr _ _).mono ?_; rintro e w3 ⟨t3, a3, rfl, hb⟩; obtain ⟨q0, q1, q2, q3, q4, q5, q6, q7, q8, q9, q10, q11, q12, q13, q14, q15, q16, q17⟩ := kp18 hb q0 q1 q2 q3 q4 q5 q6 q7 q8 q9 q10 q11 q12 q13 q14 q15 q16 q17; clear hb))
          all_goals (go_ret2; refine ret_bool (r := res) ?_ (by first | assumption | (refine Below.drew ?_; assumption)); rw [← HRES.out, gtR, if_neg (by simp), if_neg x1, if_neg x2, if_neg (by simp), if_neg (by simp)])
          all_goals first | (rw [show (cmpRel a b c a2 b2 c2 rel == 1) = true by assumption]) | (rw [show (cmpRel a b c a2 b2 c2 rel == 1) = false by assumption])
        · by_cases x3 : b2 < b
          · have y3 : (b2 : Int) < (b : Int) := by omega
            go_upto_region 16 with fail
            go_region_held3 (fun w' => w'.cell? ⟨V, 0, none⟩ = some (.int .u64 a) ∧ w'.cell? ⟨V, 1, none⟩ = some (.int .u64 b) ∧ w'.cell? ⟨V, 2, none⟩ = some (.int .u64 c) ∧ w'.cell? ⟨V, 3, none⟩ = some (.string p) ∧ w'.cell? ⟨V, 4, none⟩ = some (.string m) ∧ w'.cell? ⟨V, 5, none⟩ = some (.string o) ∧ w'.cell? ⟨U, 0, none⟩ = some (.int .u64 a2) ∧ w'.cell? ⟨U, 1, none⟩ = some (.int .u64 b2) ∧ w'.cell? ⟨U, 2, none⟩ = some (.int .u64 c2) ∧ w'.cell? ⟨U, 3, none⟩ = some (.string p2) ∧ w'.cell? ⟨U, 4, none⟩ = some (.string m2) ∧ w'.cell? ⟨U, 5, none⟩ = some (.string o2) ∧ w'.cell? ⟨C, 0, none⟩ = some (.pointer (some ⟨U, 0, none⟩)) ∧ w'.cell? ⟨C, 2, none⟩ = some (.string op) ∧ w'.cell? ⟨C, 3, none⟩ = some (.bool false) ∧ w'.cell? ⟨C, 4, none⟩ = some (.bool true) ∧ w'.cell? ⟨C, 5, none⟩ = some (.bool true) ∧ Below w.heap.size w w') (refine ⟨?_, ?_, ?_, ?_, ?_, ?_, ?_, ?_, ?_, ?_, ?_, ?_, ?_, ?_, ?_, ?_, ?_, ?_⟩ <;> first | assumption | (rw [World.cell?_drew]; assumption) | (refine Below.drew ?_; assumption)) (first | (go_at_call 84; refine (tMinor _ _ _ _ _ _ _).mono ?_; rintro e w1 ⟨rfl, hb⟩; have HS2 : S3 w V U C a b c p m o a2 b2 c2 p2 m2 o2 op false true true w1 := (by refine ⟨?_, ?_, ?_, ?_, ?_, ?_, ?_, ?_, ?_, ?_, ?_, ?_, ?_, ?_, ?_, ?_, ?_, ?_⟩ <;> first | exact keepc hb (by first | assumption | (rw [World.cell?_drew]; assumption)) | exact belk hb (by first | assumption | (refine Below.drew ?_; assumption))); clear hb; obtain ⟨q0, q1, q2, q3, q4, q5, q6, q7, q8, q9, q10, q11, q12, q13, q14, q15, q16, q17⟩ := HS2))
            all_goals go_wp2
            all_goals (go_ret2; refine ret_bool (r := res) ?_ (by first | assumption | (refine Below.drew ?_; assumption)); rw [← HRES.out, gtR, if_neg (by simp), if_neg x1, if_neg x2, if_neg (by simp), if_pos rfl, decide_eq_true x3])
          · have y3 : ¬ (b2 : Int) < (b : Int) := by omega
            go_upto_region 16 with fail
            go_region_held3 (fun w' => w'.cell? ⟨V, 0, none⟩ = some (.int .u64 a) ∧ w'.cell? ⟨V, 1, none⟩ = some (.int .u64 b) ∧ w'.cell? ⟨V, 2, none⟩ = some (.int .u64 c) ∧ w'.cell? ⟨V, 3, none⟩ = some (.string p) ∧ w'.cell? ⟨V, 4, none⟩ = some (.string m) ∧ w'.cell? ⟨V, 5, none⟩ = some (.string o) ∧ w'.cell? ⟨U, 0, none⟩ = some (.int .u64 a2) ∧ w'.cell? ⟨U, 1, none⟩ = some (.int .u64 b2) ∧ w'.cell? ⟨U, 2, none⟩ = some (.int .u64 c2) ∧ w'.cell? ⟨U, 3, none⟩ = some (.string p2) ∧ w'.cell? ⟨U, 4, none⟩ = some (.string m2) ∧ w'.cell? ⟨U, 5, none⟩ = some (.string o2) ∧ w'.cell? ⟨C, 0, none⟩ = some (.pointer (some ⟨U, 0, none⟩)) ∧ w'.cell? ⟨C, 2, none⟩ = some (.string op) ∧ w'.cell? ⟨C, 3, none⟩ = some (.bool false) ∧ w'.cell? ⟨C, 4, none⟩ = some (.bool true) ∧ w'.cell? ⟨C, 5, none⟩ = some (.bool true) ∧ Below w.heap.size w w') (refine ⟨?_, ?_, ?_, ?_, ?_, ?_, ?_, ?_, ?_, ?_, ?_, ?_, ?_, ?_, ?_, ?_, ?_, ?_⟩ <;> first | assumption | (rw [World.cell?_drew]; assumption) | (refine Below.drew ?_; assumption)) (first | (go_at_call 84; refine (tMinor _ _ _ _ _ _ _).mono ?_; rintro e w1 ⟨rfl, hb⟩; have HS2 : S3 w V U C a b c p m o a2 b2 c2 p2 m2 o2 op false true true w1 := (by refine ⟨?_, ?_, ?_, ?_, ?_, ?_, ?_, ?_, ?_, ?_, ?_, ?_, ?_, ?_, ?_, ?_, ?_, ?_⟩ <;> first | exact keepc hb (by first | assumption | (rw [World.cell?_drew]; assumption)) | exact belk hb (by first | assumption | (refine Below.drew ?_; assumption))); clear hb; obtain ⟨q0, q1, q2, q3, q4, q5, q6, q7, q8, q9, q10, q11, q12, q13, q14, q15, q16, q17⟩ := HS2))
            all_goals go_wp2_with (go_at_call 28; refine (tErr _ _).mono ?_; rintro e w3 ⟨t3, a3, rfl, hb⟩; have hbb := belk hb (by first | assumption | (refine Below.drew ?_; assumption)); clear hb)
            all_goals (go_ret2; refine ret_bool (r := res) ?_ (by first | assumption | (refine Below.drew ?_; assumption)); rw [← HRES.out, gtR, if_neg (by simp), if_neg x1, if_neg x2, if_neg (by simp), if_pos rfl, decide_eq_false x3])
      · go_wp2_with (go_at_call 28; refine (tErr _ _).mono ?_; rintro e w3 ⟨t3, a3, rfl, hb⟩; have hbb := belk hb (by first | assumption | (refine Below.drew ?_; assumption)); clear hb)
        all_goals (go_ret2; refine ret_bool (r := res) ?_ (by first | assumption | (refine Below.drew ?_; assumption)); rw [← HRES.out, gtR, if_neg (by simp), if_neg x1, if_neg x2, if_pos rfl])
end Go.Proofs.YtnamjojceadgdaaGreatDoor.Sv
end
