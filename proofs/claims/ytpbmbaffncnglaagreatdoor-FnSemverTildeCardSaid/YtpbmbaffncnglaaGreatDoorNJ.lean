/- a part of the proof: FnSemverTilde: for every two versions, number and wildcard the law's function returns true and leaves its arguments as they were; no condition is added, the statement is the given tied card. -/
import Derived.Test.YtpbmbaffncnglaaGreatDoorNH
import Derived.Test.YtpbmbaffncnglaaGreatDoorNC
import Derived.Deep.QuietTactic
import Derived.Test.YtpbmbaffncnglaaGreatDoorNI
section
set_option linter.unusedVariables false
set_option linter.unusedSimpArgs false
/- a constraint of one term with three numbers -/
namespace Go.Proofs.YtpbmbaffncnglaaGreatDoor.Sv
open Go Go.RowKit Rx
set_option maxRecDepth 100000
/-- a version of three numbers -/
def dv (a b c : Nat) : Ver := ⟨false, Lib.decDigits a, some (Lib.decDigits b), some (Lib.decDigits c), none, none⟩
theorem dB_pB (x : UInt8) (h : dB x = true) : pB x = true := by
  have := byte_all (p := fun x => !dB x || pB x) (by decide) x
  simpa [h] using this
theorem dB_not (x : UInt8) (h : dB x = true) : x ≠ 120 ∧ x ≠ 42 ∧ x ≠ 88 ∧ x ≠ 124 ∧ ws x = false := by
  have := byte_all (p := fun x => !dB x || (x != 120 && x != 42 && x != 88 && x != 124 && !ws x)) (by decide) x
  simpa [h, and_assoc] using this
theorem dec_part (a : Nat) : okPart dB (Lib.decDigits a) := ⟨decDigits_ne a, decDigits_dB a a (Nat.le_refl _)⟩
theorem dv_ok (a b c : Nat) : (dv a b c).Ok dB iB := by
  refine ⟨dec_part a, fun y h => ?_, fun y h => ⟨?_, by simp [dv]⟩, trivial, trivial⟩
  · obtain rfl : Lib.decDigits b = y := by simpa [dv] using h
    exact dec_part b
  · obtain rfl : Lib.decDigits c = y := by simpa [dv] using h
    exact dec_part c
theorem ok_pB {x : Ver} (h : x.Ok dB iB) : x.Ok pB iB :=
  ⟨⟨h.p1.1, fun y hy => dB_pB y (h.p1.2 y hy)⟩, fun y hy => ⟨(h.p2 y hy).1, fun z hz => dB_pB z ((h.p2 y hy).2 z hz)⟩, fun y hy => ⟨⟨(h.p3 y hy).1.1, fun z hz => dB_pB z ((h.p3 y hy).1.2 z hz)⟩, (h.p3 y hy).2⟩, h.pre, h.meta_⟩
theorem dv_text (a b c : Nat) : (dv a b c).text = Lib.decDigits a ++ (46 :: (Lib.decDigits b ++ 46 :: Lib.decDigits c)) := by simp [dv, Ver.text, ptext, gtext]
theorem dv_len (a b c : Nat) (ha : a < 18446744073709551616) (hb : b < 18446744073709551616) (hc : c < 18446744073709551616) : (dv a b c).text.length ≤ 62 := by
  have h1 := nDigits_le a ha
  have h2 := nDigits_le b hb
  have h3 := nDigits_le c hc
  rw [dv_text]
  generalize Lib.decDigits a = x at *
  generalize Lib.decDigits b = y at *
  generalize Lib.decDigits c = z at *
  simp; omega
theorem dec_noX (a : Nat) : isXb (Lib.decDigits a) = false := by
  have h := (dec_part a).2
  generalize Lib.decDigits a = l at *
  have k : ∀ y : UInt8, (y = 120 ∨ y = 42 ∨ y = 88) → ¬ l = [y] := by
    rintro y hy rfl
    have := dB_not y (h y (by simp))
    rcases hy with rfl | rfl | rfl <;> simp at this
  unfold isXb
  simp [k 120 (by simp), k 42 (by simp), k 88 (by simp)]
theorem bytesOf_list (l : Bs) : (bytesOf l).data.toList = l := by simp [bytesOf]
/-- no blank and no bar stands in the text -/
def tame (l : Bs) : Prop := ∀ y ∈ l, ws y = false ∧ y ≠ 124
theorem tame.noWD : ∀ {l : Bs}, tame l → noWD l = true
  | [], _ => rfl
  | [_], _ => rfl
  | x :: y :: l, h => by
    have h1 := (h x (by simp)).1
    have h2 : Rx.noWD (y :: l) = true := tame.noWD fun z hz => h z (by simp [hz])
    simp [Rx.noWD, h1, h2]
theorem tame.app {a b : Bs} (h : tame a) (h' : tame b) : tame (a ++ b) := fun y hy => by
  rcases List.mem_append.1 hy with h1 | h1
  · exact h y h1
  · exact h' y h1
theorem tame_dec (a : Nat) : tame (Lib.decDigits a) := fun y hy => by
  have := dB_not y ((dec_part a).2 y hy)
  exact ⟨this.2.2.2.2, this.2.2.2.1⟩
theorem tame_dv (a b c : Nat) : tame (dv a b c).text := by
  rw [dv_text]
  have h46 : ∀ {l : Bs}, tame l → tame (46 :: l) := fun h y hy => by
    rcases List.mem_cons.1 hy with rfl | h1
    · exact ⟨by decide, by decide⟩
    · exact h y h1
  exact (tame_dec a).app (h46 ((tame_dec b).app (h46 (tame_dec c))))
theorem tame_op {op : Bs} (h : op ∈ opTexts) : tame op := by
  have : opTexts.all (fun o => o.all fun y => !ws y && y != 124) = true := by decide
  have h1 := List.all_eq_true.1 (List.all_eq_true.1 this op h)
  exact fun y hy => by simpa using h1 y hy
theorem first_bars {l : Bs} (h : tame l) : First (bytesOf l) ⟨#[124, 124]⟩ none := by
  intro i hi
  have hs : (⟨#[124, 124]⟩ : ByteArray).size = 2 := rfl
  rw [hs, bytesOf_size] at hi
  rw [hs]
  have hl : i < l.length := by omega
  have e : ((bytesOf l).extract i (i + 2)).toList = (l.drop i).take 2 := by
    rw [extract_eq (A := l.take i) (B := (l.drop i).take 2) (C := (l.drop i).drop 2) (by rw [bytesOf_list, List.take_append_drop, List.take_append_drop]) (by simp; omega) (by simp; omega)]
    exact ByteArray.toList_mk _
  have hne := (h l[i] (List.getElem_mem hl)).2
  have e2 : (⟨#[124, 124]⟩ : ByteArray).toList = [124, 124] := ByteArray.toList_mk [124, 124]
  rw [e, e2, List.drop_eq_getElem_cons hl, List.take_succ_cons]
  rw [beq_eq_false_iff_ne]
  intro hh
  injection hh with h1 h2
  exact hne h1
theorem parted_tame {l : Bs} (h : tame l) : Parted ⟨#[124, 124]⟩ (bytesOf l) [bytesOf l] := .last _ (first_bars h)
/-- the term of an operator and three numbers -/
def dtm (op : Bs) (a b c : Nat) : Tm := ⟨op, [], dv a b c⟩
def dtd (op : Bs) (a b c : Nat) : TD := ⟨op, (dv a b c).text, false, false, false, a, b, c, [], [], (dv a b c).text⟩
theorem dtm_ok {op : Bs} (h : op ∈ opTexts) (a b c : Nat) : (dtm op a b c).Ok := ⟨h, fun y hy => by simp [dtm] at hy, ok_pB (dv_ok a b c)⟩
theorem dtm_text (op : Bs) (a b c : Nat) : (dtm op a b c).text = op ++ (dv a b c).text := by simp [dtm, Tm.text]
theorem reads_dv (a b c : Nat) (ha : a < 18446744073709551616) (hb : b < 18446744073709551616) (hc : c < 18446744073709551616) : Reads (dv a b c).text a b c [] [] := fun w hT => by
  have hl := dv_len a b c ha hb hc
  exact tNewVer3 (dv a b c) (dv_ok a b c) _ _ rfl rfl rfl rfl a b c (parse_dec64 a ha) (parse_dec64 b hb) (parse_dec64 c hc) (by omega) w hT
theorem op_len {op : Bs} (h : op ∈ opTexts) : op.length ≤ 2 := by
  have : opTexts.all (fun o => decide (o.length ≤ 2)) = true := by decide
  simpa using List.all_eq_true.1 this op h
theorem gspec {op : Bs} (h : op ∈ opTexts) (a b c : Nat) (ha : a < 18446744073709551616) (hb : b < 18446744073709551616) (hc : c < 18446744073709551616) : GSpec (bytesOf (dtm op a b c).text) [(dtm op a b c).text] [dtd op a b c] := by
  have hl := dv_len a b c ha hb hc
  have ho := op_len h
  have hs : (bytesOf (dtm op a b c).text).size ≤ 1000 := by rw [bytesOf_size, dtm_text]; simp; omega
  have hok := dtm_ok h a b c
  have h0 : (dtm op a b c).op = [] → (dtm op a b c).blank = [] := fun _ => rfl
  refine ⟨fun w R PB IB icap hp hr hT => ?_, fun w R PB IB icap hp hr hT => ?_, rfl, by simp, by simp, fun i x t hx ht w hT => ?_⟩
  · exact validM hp hr hT hs (B := []) (l := []) (by simp) hok (fun x hx => by cases hx) (by rw [bytesOf_list]; simp [ltext, ltail])
  · exact findM hp hr hT hs (x := dtm op a b c) (l := []) hok (fun x hx => by cases hx) (by rw [bytesOf_list]; simp [ltext, ltail])
  · cases i with
    | succ i => simp at hx
    | zero =>
      obtain rfl : (dtm op a b c).text = x := by simpa using hx
      obtain rfl : dtd op a b c = t := by simpa using ht
      refine (t44full (dtm op a b c) (L := []) (RR := []) hs hok (by rw [bytesOf_list]; simp) (by simp) (by simp) h0 _ _ rfl rfl (dec_noX a) (dec_noX b) (dec_noX c) a b c [] [] (reads_dv a b c ha hb hc) w hT).mono ?_
      rintro e w' ⟨C, V, rfl, h1, h2, h3, h4, h5⟩
      exact ⟨C, rfl, h1, ⟨V, h3, h4⟩, h5⟩
/-- NewConstraint of an operator and three numbers -/
theorem t31one {op : Bs} (h : op ∈ opTexts) (a b c : Nat) (ha : a < 18446744073709551616) (hb : b < 18446744073709551616) (hc : c < 18446744073709551616) (w : World) (hT : Lib.Utf8Tabs 11 12 w) :
    Calls Tryz.prog 18 #[.string (bytesOf (op ++ (dv a b c).text))] w fun e w' => ∃ O, e = .returned (.tuple #[ptr O, .nilIface]) ∧ w.heap.size ≤ O ∧ ConsAt w' O [[dtd op a b c]] false ∧ Below w.heap.size w w' := by
  have hl := dv_len a b c ha hb hc
  have ho := op_len h
  have ht : tame (op ++ (dv a b c).text) := (tame_op h).app (tame_dv a b c)
  have hg := gspec h a b c ha hb hc
  rw [dtm_text] at hg
  refine t31 (bytesOf (op ++ (dv a b c).text)) (by rw [bytesOf_size]; simp; omega) (by rw [bytesOf_list]; exact ht.noWD) [bytesOf (op ++ (dv a b c).text)] (parted_tame ht) (by simp) [[op ++ (dv a b c).text]] [[dtd op a b c]] rfl rfl (fun k v tx ts h1 h2 h3 => ?_) w hT
  cases k with
  | succ k => simp at h1
  | zero =>
    obtain rfl : bytesOf (op ++ (dv a b c).text) = v := by simpa using h1
    obtain rfl : [op ++ (dv a b c).text] = tx := by simpa using h2
    obtain rfl : [dtd op a b c] = ts := by simpa using h3
    exact hg
end Go.Proofs.YtpbmbaffncnglaaGreatDoor.Sv
end
section
set_option linter.unusedVariables false
set_option linter.unusedSimpArgs false
/- a version's text, the next versions -/
namespace Go.Proofs.YtpbmbaffncnglaaGreatDoor.Sv
open Go Go.RowKit Rx
set_option maxRecDepth 100000
/-- the table of powers of ten -/
def Pow (w : World) : Prop := Lib.TabIs Tryz.prog w "internal/strconv.uint64pow10" .u64 Lib.pow10Tab
theorem tab_below {P : Program} {w w' : World} {name : String} {k : IntKind} {zs : List Int} (h : Lib.TabIs P w name k zs) (hb : Below w.heap.size w w') : Lib.TabIs P w' name k zs := by
  unfold Lib.TabIs World.var? at *
  cases hg : P.globalNamed name with
  | none => simp [hg] at h
  | some g =>
    simp only [hg, Option.bind_some] at h ⊢
    have hlt : g < w.heap.size := by
      rcases Nat.lt_or_ge g w.heap.size with h' | h'
      · exact h'
      · rw [Array.getElem?_eq_none h'] at h; simp at h
    rw [hb.block g hlt]
    exact h
theorem Pow.below {w w' : World} (h : Pow w) (hb : Below w.heap.size w w') : Pow w' := tab_below h hb
theorem Pow.drew {w : World} (h : Pow w) : Pow w.drew := h.below (Below.refl _ _).drew
theorem bytes_app (x y : Bs) : bytesOf x ++ bytesOf y = bytesOf (x ++ y) := by
  apply ByteArray.ext
  simp [bytesOf]
theorem dot_bytes : (⟨#[46]⟩ : ByteArray) = bytesOf [46] := rfl
theorem dot_size : (⟨#[46]⟩ : ByteArray).size = 1 := rfl
theorem add_yields {P : Program} {S : World → Prop} {x y : ByteArray} {t u : TypeId} (h : x.size + y.size < 1000000) : ∀ w, S w → (binOp .add t (.string x) (.string y)).run P w = .ok (.string (x ++ y)) w := by
  intro w _
  go_simp
  omega
def SS (w : World) (T a b c : Nat) (o : ByteArray) (w' : World) : Prop := w'.cell? ⟨T, 0, none⟩ = some (.int .u64 a) ∧ w'.cell? ⟨T, 1, none⟩ = some (.int .u64 b) ∧ w'.cell? ⟨T, 2, none⟩ = some (.int .u64 c) ∧ w'.cell? ⟨T, 3, none⟩ = some (.string e0) ∧ w'.cell? ⟨T, 4, none⟩ = some (.string e0) ∧ w'.cell? ⟨T, 5, none⟩ = some (.string o) ∧ Pow w' ∧ Below w.heap.size w w'
end Go.Proofs.YtpbmbaffncnglaaGreatDoor.Sv
end
section
set_option linter.unusedVariables false
set_option linter.unusedSimpArgs false
/- parseConstraint where numbers are missing or wildcards -/
namespace Go.Proofs.YtpbmbaffncnglaaGreatDoor.Sv
open Go Go.RowKit Rx
set_option maxRecDepth 100000
theorem bdN (w : World) (n : Nat) : Below w.heap.size w (w.drewN n) := ⟨rfl, rfl, rfl, Nat.le_refl _, fun _ _ => rfl⟩
set_option maxHeartbeats 4000000 in
theorem t44a (x : Tm) {L RR : Bs} {s : ByteArray} (hs : s.size ≤ 1000) (hx : x.Ok) (ht : s.data.toList = L ++ (x.text ++ RR)) (hL : ∀ y ∈ L, ws y = true) (hR : ∀ y ∈ RR, ws y = true) (h0 : x.op = [] → x.blank = [])
    (x1 : isXb x.ver.p1 = true) (a b c : Nat) (pre me : Bs) (hv : Reads ([48, 46, 48, 46, 48] ++ gtext 45 x.ver.pre) a b c pre me) (w : World) (hT : Lib.Utf8Tabs 11 12 w) :
    Calls Tryz.prog 31 #[.string s] w fun e w' => ∃ C V, e = .returned (.tuple #[.pointer (some ⟨C, 0, none⟩), .nilIface]) ∧ w.heap.size ≤ C ∧ w.heap.size ≤ V ∧ ConAt w' C V x.ver.text x.op false true false ∧ VerAt w' V a b c pre me ([48, 46, 48, 46, 48] ++ gtext 45 x.ver.pre) ∧ Below w.heap.size w w' := by
  have hsz : L.length + (x.text.length + RR.length) = s.size := by rw [← list_size, ht]; simp
  have hxp := tm_pos hx
  have hlen : x.ver.p1.length + ((ptext x.ver.p2).length + ((ptext x.ver.p3).length + (gtext 45 x.ver.pre).length)) ≤ x.text.length := by
    rw [Tm.text, Ver.text]; simp; omega
  have hp1 : (bytesOf x.ver.p1).toList.isEmpty = false := by
    rw [bytesOf_toList]
    have := hx.ver.p1.1
    cases h : x.ver.p1 with
    | nil => exact absurd h this
    | cons y l => rfl
  have k0 : (0 : Int) < (s.size : Int) := by omega
  have H61 := Lib.hid (fun (w : World) (R PB IB icap : Nat) (hp : PG w R PB IB icap conT) (hr : RH w R PB 4 1 24 1 11) (hT : Lib.Utf8Tabs 11 12 w) => conM (s := s) hp hr hT hs hx ht hL hR h0)
  have HT := Lib.hid hT
  have sz1 : (bytesOf x.ver.p1).size < 2000 := by rw [bytesOf_size]; omega
  have sz6 : (bytesOf (gtext 45 x.ver.pre)).size < 2000 := by rw [bytesOf_size]; omega
  have HX1 := Lib.hid (fun w => tIsXb x.ver.p1 w)
  rw [x1] at HX1
  have hst : ⟨#[48, 46, 48, 46, 48]⟩ ++ bytesOf (gtext 45 x.ver.pre) = bytesOf ([48, 46, 48, 46, 48] ++ gtext 45 x.ver.pre) := by
    rw [show (⟨#[48, 46, 48, 46, 48]⟩ : ByteArray) = bytesOf [48, 46, 48, 46, 48] from rfl]
    simp only [bytes_app]
  have HST := Lib.hid hst
  have HV := Lib.hid hv
  have q := q52
  clear hx ht hL hR h0 x1 hv hT hsz hxp hlen hs hst
  generalize hp2 : ptext x.ver.p2 = y2 at *
  generalize hp3 : ptext x.ver.p3 = y3 at *
  clear hp2 hp3
  generalize ([48, 46, 48, 46, 48] ++ gtext 45 x.ver.pre) = vt at *
  generalize x.ver.text = yt at *
  generalize x.ver.p1 = r1 at *
  generalize x.op = op at *
  generalize gtext 45 x.ver.pre = g6 at *
  go_enter Tryz.func31, Tryz.ntmps31
  go_wp2_with (first
    | (go_at_call 44; refine (t60 w).mono ?_; rintro e w1 ⟨R, PB, IB, icap, rfl, hp, hr, hb⟩; have HP := Lib.hid (And.intro hp (And.intro hr (And.intro (Utf8Tabs_below HT.out hb) hb))); clear hp hr hb)
    | (go_at_call 45; refine (H61.out _ _ _ _ _ HP.out.1 HP.out.2.1 HP.out.2.2.1).mono ?_; rintro e w2 ⟨hb2, f, ⟨bp, rfl, h1, h2⟩, e1, e2, e3, e4, e5, e6⟩; have c1 := piece_cell h2 1 (by decide); have c2 := piece_cell h2 2 (by decide); have c3 := piece_cell h2 3 (by decide); have c4 := piece_cell h2 4 (by decide); have c5 := piece_cell h2 5 (by decide); have c6 := piece_cell h2 6 (by decide); rw [e1] at c1; rw [e2] at c2; rw [e3] at c3; rw [e4] at c4; rw [e5] at c5; rw [e6] at c6; have HB2 := Lib.hid (And.intro h1 (And.intro h2 (HP.out.2.2.2.trans (hb2.mono HP.out.2.2.2.size)))); clear hb2 h1 h2 e1 e2 e3 e4 e5 e6))
  go_region
  have hst : CAt w w2.heap.size bp #[.pointer none, .string (bytesOf yt), .string (bytesOf op), .bool false, .bool false, .bool false] (strs ((List.range 12).map f)) ((w2.alloc (.cells #[.pointer none, .string (bytesOf yt), .string (bytesOf op), .bool false, .bool false, .bool false] 68)).drew) := by
    obtain ⟨k1, k2, k3⟩ := HB2.out
    exact ⟨heap_alloc_new w2 _, (Below.heap_alloc w2 _ bp (Array.getElem?_eq_some_iff.1 k2).1).trans k2, (k3.alloc k3.size _).drew, k3.size⟩
  have e2 : (strs ((List.range 12).map f))[2]? = some (.string (bytesOf yt)) := by rw [← c2, cell_of_row _ _ _ _ _ _ HB2.out.2.1]
  have e3 : (strs ((List.range 12).map f))[3]? = some (.string (bytesOf r1)) := by rw [← c3, cell_of_row _ _ _ _ _ _ HB2.out.2.1]
  have e4 : (strs ((List.range 12).map f))[4]? = some (.string (bytesOf y2)) := by rw [← c4, cell_of_row _ _ _ _ _ _ HB2.out.2.1]
  have e5 : (strs ((List.range 12).map f))[5]? = some (.string (bytesOf y3)) := by rw [← c5, cell_of_row _ _ _ _ _ _ HB2.out.2.1]
  have e6 : (strs ((List.range 12).map f))[6]? = some (.string (bytesOf g6)) := by rw [← c6, cell_of_row _ _ _ _ _ _ HB2.out.2.1]
  clear c1 c2 c3 c4 c5 c6
  generalize (w2.alloc (.cells #[.pointer none, .string (bytesOf yt), .string (bytesOf op), .bool false, .bool false, .bool false] 68)).drew = W3 at *
  generalize strs ((List.range 12).map f) = ps at *
  generalize w2.heap.size = C at *
  have HS := Lib.hid hst
  have c2 := hst.piece 2 _ e2
  have c3 := hst.piece 3 _ e3
  have c4 := hst.piece 4 _ e4
  have c5 := hst.piece 5 _ e5
  have c6 := hst.piece 6 _ e6
  clear hst e2 e3 e4 e5 e6
  go_upto_region 21 with (first
    | (go_at_call 46; first | ((with_reducible refine (HX1.out _).mono ?_); rintro e w6 ⟨rfl, hw⟩; subst hw))
    | go_in)
  rw [HST.out]
  clear c2 c3 c4 c5 c6  k0
  have HU := Lib.hid (Utf8Tabs_below HT.out HS.out.b)
  go_wp2_with (go_at_call 48; refine (HV.out _ HU.out).mono ?_; rintro e w7 ⟨V, rfl, hVs, hVa, hb7⟩; have hst4 := HS.out.keep hb7; have HS4 := Lib.hid hst4; have HW := Lib.hid (And.intro hVs hVa); have v0 := hst4.cell 0 _ rfl; have v3 := hst4.cell 3 _ rfl; have v4 := hst4.cell 4 _ rfl; have v5 := hst4.cell 5 _ rfl; have z0 := hst4.fz 0; have z3 := hst4.fz 3; have z4 := hst4.fz 4; have z5 := hst4.fz 5; clear hb7 hst4 hVs hVa)
  go_ret2
  have hfin := (((HS4.out.store 0 (.pointer (some ⟨V, 0, none⟩))).store 3 (.bool false)).store 5 (.bool false)).store 4 (.bool true)
  have hne : V ≠ C := typ_ne HW.out.2 HS4.out.v (by decide)
  refine ⟨C, V, rfl, hfin.h, Nat.le_trans HS.out.b.size HW.out.1, hfin.v, ?_, hfin.b⟩
  unfold VerAt
  rw [heap_setCell_other _ _ _ _ hne, heap_setCell_other _ _ _ _ hne, heap_setCell_other _ _ _ _ hne, heap_setCell_other _ _ _ _ hne]
  exact HW.out.2
set_option maxHeartbeats 4000000 in
theorem t44b0 (x : Tm) {L RR : Bs} {s : ByteArray} (hs : s.size ≤ 1000) (hx : x.Ok) (ht : s.data.toList = L ++ (x.text ++ RR)) (hL : ∀ y ∈ L, ws y = true) (hR : ∀ y ∈ RR, ws y = true) (h0 : x.op = [] → x.blank = [])
    (h2 : x.ver.p2 = none) (h3 : x.ver.p3 = none) (x1 : isXb x.ver.p1 = false) (a b c : Nat) (pre me : Bs) (hv : Reads (x.ver.p1 ++ [46, 48, 46, 48] ++ gtext 45 x.ver.pre) a b c pre me) (w : World) (hT : Lib.Utf8Tabs 11 12 w) :
    Calls Tryz.prog 31 #[.string s] w fun e w' => ∃ C V, e = .returned (.tuple #[.pointer (some ⟨C, 0, none⟩), .nilIface]) ∧ w.heap.size ≤ C ∧ w.heap.size ≤ V ∧ ConAt w' C V x.ver.text x.op true true false ∧ VerAt w' V a b c pre me (x.ver.p1 ++ [46, 48, 46, 48] ++ gtext 45 x.ver.pre) ∧ Below w.heap.size w w' := by
  have hsz : L.length + (x.text.length + RR.length) = s.size := by rw [← list_size, ht]; simp
  have hxp := tm_pos hx
  have hlen : x.ver.p1.length + ((ptext x.ver.p2).length + ((ptext x.ver.p3).length + (gtext 45 x.ver.pre).length)) ≤ x.text.length := by
    rw [Tm.text, Ver.text]; simp; omega
  have hp1 : (bytesOf x.ver.p1).toList.isEmpty = false := by
    rw [bytesOf_toList]
    have := hx.ver.p1.1
    cases h : x.ver.p1 with
    | nil => exact absurd h this
    | cons y l => rfl
  have k0 : (0 : Int) < (s.size : Int) := by omega
  have H61 := Lib.hid (fun (w : World) (R PB IB icap : Nat) (hp : PG w R PB IB icap conT) (hr : RH w R PB 4 1 24 1 11) (hT : Lib.Utf8Tabs 11 12 w) => conM (s := s) hp hr hT hs hx ht hL hR h0)
  have HT := Lib.hid hT
  have sz1 : (bytesOf x.ver.p1).size < 2000 := by rw [bytesOf_size]; omega
  have sz6 : (bytesOf (gtext 45 x.ver.pre)).size < 2000 := by rw [bytesOf_size]; omega
  have HX1 := Lib.hid (fun w => tIsXb x.ver.p1 w)
  rw [x1] at HX1
  have sz2 : (bytesOf (ptext x.ver.p2)).size < 2000 := by rw [bytesOf_size]; omega
  rw [h2, h3] at H61
  rw [h2] at sz2
  have HTa := Lib.hid (fun w => tTrimDot [] (.inl rfl) (by simp) w)
  have HX2 := Lib.hid (fun w => tIsXb [] w)
  rw [show isXb [] = false from rfl] at HX2
  have hst : (bytesOf x.ver.p1 ++ ⟨#[46, 48, 46, 48]⟩) ++ bytesOf (gtext 45 x.ver.pre) = bytesOf (x.ver.p1 ++ [46, 48, 46, 48] ++ gtext 45 x.ver.pre) := by
    rw [show (⟨#[46, 48, 46, 48]⟩ : ByteArray) = bytesOf [46, 48, 46, 48] from rfl]
    simp only [bytes_app]
  have HST := Lib.hid hst
  have HV := Lib.hid hv
  have q := q52
  clear hx ht hL hR h0 h2 h3 x1 hv hT hsz hxp hlen hs hst
  simp only [ptext] at H61 sz2
  generalize (x.ver.p1 ++ [46, 48, 46, 48] ++ gtext 45 x.ver.pre) = vt at *
  generalize x.ver.text = yt at *
  generalize x.ver.p1 = r1 at *
  generalize x.op = op at *
  generalize gtext 45 x.ver.pre = g6 at *
  go_enter Tryz.func31, Tryz.ntmps31
  go_wp2_with (first
    | (go_at_call 44; refine (t60 w).mono ?_; rintro e w1 ⟨R, PB, IB, icap, rfl, hp, hr, hb⟩; have HP := Lib.hid (And.intro hp (And.intro hr (And.intro (Utf8Tabs_below HT.out hb) hb))); clear hp hr hb)
    | (go_at_call 45; refine (H61.out _ _ _ _ _ HP.out.1 HP.out.2.1 HP.out.2.2.1).mono ?_; rintro e w2 ⟨hb2, f, ⟨bp, rfl, h1, h2⟩, e1, e2, e3, e4, e5, e6⟩; have c1 := piece_cell h2 1 (by decide); have c2 := piece_cell h2 2 (by decide); have c3 := piece_cell h2 3 (by decide); have c4 := piece_cell h2 4 (by decide); have c5 := piece_cell h2 5 (by decide); have c6 := piece_cell h2 6 (by decide); rw [e1] at c1; rw [e2] at c2; rw [e3] at c3; rw [e4] at c4; rw [e5] at c5; rw [e6] at c6; have HB2 := Lib.hid (And.intro h1 (And.intro h2 (HP.out.2.2.2.trans (hb2.mono HP.out.2.2.2.size)))); clear hb2 h1 h2 e1 e2 e3 e4 e5 e6))
  go_region
  have hst : CAt w w2.heap.size bp #[.pointer none, .string (bytesOf yt), .string (bytesOf op), .bool false, .bool false, .bool false] (strs ((List.range 12).map f)) ((w2.alloc (.cells #[.pointer none, .string (bytesOf yt), .string (bytesOf op), .bool false, .bool false, .bool false] 68)).drew) := by
    obtain ⟨k1, k2, k3⟩ := HB2.out
    exact ⟨heap_alloc_new w2 _, (Below.heap_alloc w2 _ bp (Array.getElem?_eq_some_iff.1 k2).1).trans k2, (k3.alloc k3.size _).drew, k3.size⟩
  have e2 : (strs ((List.range 12).map f))[2]? = some (.string (bytesOf yt)) := by rw [← c2, cell_of_row _ _ _ _ _ _ HB2.out.2.1]
  have e3 : (strs ((List.range 12).map f))[3]? = some (.string (bytesOf r1)) := by rw [← c3, cell_of_row _ _ _ _ _ _ HB2.out.2.1]
  have e4 : (strs ((List.range 12).map f))[4]? = some (.string (bytesOf [])) := by rw [← c4, cell_of_row _ _ _ _ _ _ HB2.out.2.1]
  have e5 : (strs ((List.range 12).map f))[5]? = some (.string (bytesOf [])) := by rw [← c5, cell_of_row _ _ _ _ _ _ HB2.out.2.1]
  have e6 : (strs ((List.range 12).map f))[6]? = some (.string (bytesOf g6)) := by rw [← c6, cell_of_row _ _ _ _ _ _ HB2.out.2.1]
  clear c1 c2 c3 c4 c5 c6
  generalize (w2.alloc (.cells #[.pointer none, .string (bytesOf yt), .string (bytesOf op), .bool false, .bool false, .bool false] 68)).drew = W3 at *
  generalize strs ((List.range 12).map f) = ps at *
  generalize w2.heap.size = C at *
  have HS := Lib.hid hst
  have c2 := hst.piece 2 _ e2
  have c3 := hst.piece 3 _ e3
  have c4 := hst.piece 4 _ e4
  have c5 := hst.piece 5 _ e5
  have c6 := hst.piece 6 _ e6
  clear hst e2 e3 e4 e5 e6
  have n2 := bytesOf_toList []
  go_upto_region 16 with (first
    | (go_at_call 46; first | ((with_reducible refine (HX1.out _).mono ?_); rintro e w6 ⟨rfl, hw⟩; subst hw) | ((with_reducible refine (HX2.out _).mono ?_); rintro e w6 ⟨rfl, hw⟩; subst hw))
    | (go_at_call 47; first | ((with_reducible refine (HTa.out _).mono ?_); rintro e w6 ⟨rfl, hw⟩; subst hw; rw [show ([] : Bs).tail = [] from rfl]))
    | go_in)
  go_quiet (fail)
  have hq := HS.out.keep (bdN _ nq)
  have HS := Lib.hid hq
  clear hq
  go_upto_region 21 with fail
  rw [HST.out]
  clear c2 c3 c4 c5 c6 n2 k0
  have HU := Lib.hid (Utf8Tabs_below HT.out HS.out.b)
  go_wp2_with (go_at_call 48; refine (HV.out _ HU.out).mono ?_; rintro e w7 ⟨V, rfl, hVs, hVa, hb7⟩; have hst4 := HS.out.keep hb7; have HS4 := Lib.hid hst4; have HW := Lib.hid (And.intro hVs hVa); have v0 := hst4.cell 0 _ rfl; have v3 := hst4.cell 3 _ rfl; have v4 := hst4.cell 4 _ rfl; have v5 := hst4.cell 5 _ rfl; have z0 := hst4.fz 0; have z3 := hst4.fz 3; have z4 := hst4.fz 4; have z5 := hst4.fz 5; clear hb7 hst4 hVs hVa)
  go_ret2
  have hfin := (((HS4.out.store 0 (.pointer (some ⟨V, 0, none⟩))).store 3 (.bool true)).store 5 (.bool false)).store 4 (.bool true)
  have hne : V ≠ C := typ_ne HW.out.2 HS4.out.v (by decide)
  refine ⟨C, V, rfl, hfin.h, Nat.le_trans HS.out.b.size HW.out.1, hfin.v, ?_, hfin.b⟩
  unfold VerAt
  rw [heap_setCell_other _ _ _ _ hne, heap_setCell_other _ _ _ _ hne, heap_setCell_other _ _ _ _ hne, heap_setCell_other _ _ _ _ hne]
  exact HW.out.2
set_option maxHeartbeats 4000000 in
theorem t44b1 (x : Tm) {L RR : Bs} {s : ByteArray} (hs : s.size ≤ 1000) (hx : x.Ok) (ht : s.data.toList = L ++ (x.text ++ RR)) (hL : ∀ y ∈ L, ws y = true) (hR : ∀ y ∈ RR, ws y = true) (h0 : x.op = [] → x.blank = [])
    (r2 : Bs) (h2 : x.ver.p2 = some r2) (x1 : isXb x.ver.p1 = false) (x2 : isXb r2 = true) (a b c : Nat) (pre me : Bs) (hv : Reads (x.ver.p1 ++ [46, 48, 46, 48] ++ gtext 45 x.ver.pre) a b c pre me) (w : World) (hT : Lib.Utf8Tabs 11 12 w) :
    Calls Tryz.prog 31 #[.string s] w fun e w' => ∃ C V, e = .returned (.tuple #[.pointer (some ⟨C, 0, none⟩), .nilIface]) ∧ w.heap.size ≤ C ∧ w.heap.size ≤ V ∧ ConAt w' C V x.ver.text x.op true true false ∧ VerAt w' V a b c pre me (x.ver.p1 ++ [46, 48, 46, 48] ++ gtext 45 x.ver.pre) ∧ Below w.heap.size w w' := by
  have hsz : L.length + (x.text.length + RR.length) = s.size := by rw [← list_size, ht]; simp
  have hxp := tm_pos hx
  have hlen : x.ver.p1.length + ((ptext x.ver.p2).length + ((ptext x.ver.p3).length + (gtext 45 x.ver.pre).length)) ≤ x.text.length := by
    rw [Tm.text, Ver.text]; simp; omega
  have hp1 : (bytesOf x.ver.p1).toList.isEmpty = false := by
    rw [bytesOf_toList]
    have := hx.ver.p1.1
    cases h : x.ver.p1 with
    | nil => exact absurd h this
    | cons y l => rfl
  have k0 : (0 : Int) < (s.size : Int) := by omega
  have H61 := Lib.hid (fun (w : World) (R PB IB icap : Nat) (hp : PG w R PB IB icap conT) (hr : RH w R PB 4 1 24 1 11) (hT : Lib.Utf8Tabs 11 12 w) => conM (s := s) hp hr hT hs hx ht hL hR h0)
  have HT := Lib.hid hT
  have sz1 : (bytesOf x.ver.p1).size < 2000 := by rw [bytesOf_size]; omega
  have sz6 : (bytesOf (gtext 45 x.ver.pre)).size < 2000 := by rw [bytesOf_size]; omega
  have HX1 := Lib.hid (fun w => tIsXb x.ver.p1 w)
  rw [x1] at HX1
  have sz2 : (bytesOf (ptext x.ver.p2)).size < 2000 := by rw [bytesOf_size]; omega
  rw [h2] at H61
  rw [h2] at sz2
  have hl2 : r2.length < 1000 := by rw [h2] at hlen; simp [ptext] at hlen; omega
  have HTa := Lib.hid (fun w => tTrimDot (46 :: r2) (.inr ⟨_, rfl⟩) (by simp; omega) w)
  have HX2 := Lib.hid (fun w => tIsXb r2 w)
  rw [x2] at HX2
  clear hl2
  have hst : (bytesOf x.ver.p1 ++ ⟨#[46, 48, 46, 48]⟩) ++ bytesOf (gtext 45 x.ver.pre) = bytesOf (x.ver.p1 ++ [46, 48, 46, 48] ++ gtext 45 x.ver.pre) := by
    rw [show (⟨#[46, 48, 46, 48]⟩ : ByteArray) = bytesOf [46, 48, 46, 48] from rfl]
    simp only [bytes_app]
  have HST := Lib.hid hst
  have HV := Lib.hid hv
  have q := q52
  clear hx ht hL hR h0 h2 x1 x2 hv hT hsz hxp hlen hs hst
  generalize hp3 : ptext x.ver.p3 = y3 at *
  clear hp3
  simp only [ptext] at H61 sz2
  generalize (x.ver.p1 ++ [46, 48, 46, 48] ++ gtext 45 x.ver.pre) = vt at *
  generalize x.ver.text = yt at *
  generalize x.ver.p1 = r1 at *
  generalize x.op = op at *
  generalize gtext 45 x.ver.pre = g6 at *
  go_enter Tryz.func31, Tryz.ntmps31
  go_wp2_with (first
    | (go_at_call 44; refine (t60 w).mono ?_; rintro e w1 ⟨R, PB, IB, icap, rfl, hp, hr, hb⟩; have HP := Lib.hid (And.intro hp (And.intro hr (And.intro (Utf8Tabs_below HT.out hb) hb))); clear hp hr hb)
    | (go_at_call 45; refine (H61.out _ _ _ _ _ HP.out.1 HP.out.2.1 HP.out.2.2.1).mono ?_; rintro e w2 ⟨hb2, f, ⟨bp, rfl, h1, h2⟩, e1, e2, e3, e4, e5, e6⟩; have c1 := piece_cell h2 1 (by decide); have c2 := piece_cell h2 2 (by decide); have c3 := piece_cell h2 3 (by decide); have c4 := piece_cell h2 4 (by decide); have c5 := piece_cell h2 5 (by decide); have c6 := piece_cell h2 6 (by decide); rw [e1] at c1; rw [e2] at c2; rw [e3] at c3; rw [e4] at c4; rw [e5] at c5; rw [e6] at c6; have HB2 := Lib.hid (And.intro h1 (And.intro h2 (HP.out.2.2.2.trans (hb2.mono HP.out.2.2.2.size)))); clear hb2 h1 h2 e1 e2 e3 e4 e5 e6))
  go_region
  have hst : CAt w w2.heap.size bp #[.pointer none, .string (bytesOf yt), .string (bytesOf op), .bool false, .bool false, .bool false] (strs ((List.range 12).map f)) ((w2.alloc (.cells #[.pointer none, .string (bytesOf yt), .string (bytesOf op), .bool false, .bool false, .bool false] 68)).drew) := by
    obtain ⟨k1, k2, k3⟩ := HB2.out
    exact ⟨heap_alloc_new w2 _, (Below.heap_alloc w2 _ bp (Array.getElem?_eq_some_iff.1 k2).1).trans k2, (k3.alloc k3.size _).drew, k3.size⟩
  have e2 : (strs ((List.range 12).map f))[2]? = some (.string (bytesOf yt)) := by rw [← c2, cell_of_row _ _ _ _ _ _ HB2.out.2.1]
  have e3 : (strs ((List.range 12).map f))[3]? = some (.string (bytesOf r1)) := by rw [← c3, cell_of_row _ _ _ _ _ _ HB2.out.2.1]
  have e4 : (strs ((List.range 12).map f))[4]? = some (.string (bytesOf (46 :: r2))) := by rw [← c4, cell_of_row _ _ _ _ _ _ HB2.out.2.1]
  have e5 : (strs ((List.range 12).map f))[5]? = some (.string (bytesOf y3)) := by rw [← c5, cell_of_row _ _ _ _ _ _ HB2.out.2.1]
  have e6 : (strs ((List.range 12).map f))[6]? = some (.string (bytesOf g6)) := by rw [← c6, cell_of_row _ _ _ _ _ _ HB2.out.2.1]
  clear c1 c2 c3 c4 c5 c6
  generalize (w2.alloc (.cells #[.pointer none, .string (bytesOf yt), .string (bytesOf op), .bool false, .bool false, .bool false] 68)).drew = W3 at *
  generalize strs ((List.range 12).map f) = ps at *
  generalize w2.heap.size = C at *
  have HS := Lib.hid hst
  have c2 := hst.piece 2 _ e2
  have c3 := hst.piece 3 _ e3
  have c4 := hst.piece 4 _ e4
  have c5 := hst.piece 5 _ e5
  have c6 := hst.piece 6 _ e6
  clear hst e2 e3 e4 e5 e6
  have n2 := bytesOf_toList (46 :: r2)
  go_upto_region 16 with (first
    | (go_at_call 46; first | ((with_reducible refine (HX1.out _).mono ?_); rintro e w6 ⟨rfl, hw⟩; subst hw) | ((with_reducible refine (HX2.out _).mono ?_); rintro e w6 ⟨rfl, hw⟩; subst hw))
    | (go_at_call 47; first | ((with_reducible refine (HTa.out _).mono ?_); rintro e w6 ⟨rfl, hw⟩; subst hw; rw [show ((46 :: r2) : Bs).tail = r2 from rfl]))
    | go_in)
  go_quiet (fail)
  have hq := HS.out.keep (bdN _ nq)
  have HS := Lib.hid hq
  clear hq
  go_upto_region 21 with fail
  rw [HST.out]
  clear c2 c3 c4 c5 c6 n2 k0
  have HU := Lib.hid (Utf8Tabs_below HT.out HS.out.b)
  go_wp2_with (go_at_call 48; refine (HV.out _ HU.out).mono ?_; rintro e w7 ⟨V, rfl, hVs, hVa, hb7⟩; have hst4 := HS.out.keep hb7; have HS4 := Lib.hid hst4; have HW := Lib.hid (And.intro hVs hVa); have v0 := hst4.cell 0 _ rfl; have v3 := hst4.cell 3 _ rfl; have v4 := hst4.cell 4 _ rfl; have v5 := hst4.cell 5 _ rfl; have z0 := hst4.fz 0; have z3 := hst4.fz 3; have z4 := hst4.fz 4; have z5 := hst4.fz 5; clear hb7 hst4 hVs hVa)
  go_ret2
  have hfin := (((HS4.out.store 0 (.pointer (some ⟨V, 0, none⟩))).store 3 (.bool true)).store 5 (.bool false)).store 4 (.bool true)
  have hne : V ≠ C := typ_ne HW.out.2 HS4.out.v (by decide)
  refine ⟨C, V, rfl, hfin.h, Nat.le_trans HS.out.b.size HW.out.1, hfin.v, ?_, hfin.b⟩
  unfold VerAt
  rw [heap_setCell_other _ _ _ _ hne, heap_setCell_other _ _ _ _ hne, heap_setCell_other _ _ _ _ hne, heap_setCell_other _ _ _ _ hne]
  exact HW.out.2
set_option maxHeartbeats 4000000 in
theorem t44c0 (x : Tm) {L RR : Bs} {s : ByteArray} (hs : s.size ≤ 1000) (hx : x.Ok) (ht : s.data.toList = L ++ (x.text ++ RR)) (hL : ∀ y ∈ L, ws y = true) (hR : ∀ y ∈ RR, ws y = true) (h0 : x.op = [] → x.blank = [])
    (r2 : Bs) (h2 : x.ver.p2 = some r2) (h3 : x.ver.p3 = none) (x1 : isXb x.ver.p1 = false) (x2 : isXb r2 = false) (a b c : Nat) (pre me : Bs) (hv : Reads (x.ver.p1 ++ 46 :: r2 ++ [46, 48] ++ gtext 45 x.ver.pre) a b c pre me) (w : World) (hT : Lib.Utf8Tabs 11 12 w) :
    Calls Tryz.prog 31 #[.string s] w fun e w' => ∃ C V, e = .returned (.tuple #[.pointer (some ⟨C, 0, none⟩), .nilIface]) ∧ w.heap.size ≤ C ∧ w.heap.size ≤ V ∧ ConAt w' C V x.ver.text x.op false true true ∧ VerAt w' V a b c pre me (x.ver.p1 ++ 46 :: r2 ++ [46, 48] ++ gtext 45 x.ver.pre) ∧ Below w.heap.size w w' := by
  have hsz : L.length + (x.text.length + RR.length) = s.size := by rw [← list_size, ht]; simp
  have hxp := tm_pos hx
  have hlen : x.ver.p1.length + ((ptext x.ver.p2).length + ((ptext x.ver.p3).length + (gtext 45 x.ver.pre).length)) ≤ x.text.length := by
    rw [Tm.text, Ver.text]; simp; omega
  have hp1 : (bytesOf x.ver.p1).toList.isEmpty = false := by
    rw [bytesOf_toList]
    have := hx.ver.p1.1
    cases h : x.ver.p1 with
    | nil => exact absurd h this
    | cons y l => rfl
  have k0 : (0 : Int) < (s.size : Int) := by omega
  have H61 := Lib.hid (fun (w : World) (R PB IB icap : Nat) (hp : PG w R PB IB icap conT) (hr : RH w R PB 4 1 24 1 11) (hT : Lib.Utf8Tabs 11 12 w) => conM (s := s) hp hr hT hs hx ht hL hR h0)
  have HT := Lib.hid hT
  have sz1 : (bytesOf x.ver.p1).size < 2000 := by rw [bytesOf_size]; omega
  have sz6 : (bytesOf (gtext 45 x.ver.pre)).size < 2000 := by rw [bytesOf_size]; omega
  have HX1 := Lib.hid (fun w => tIsXb x.ver.p1 w)
  rw [x1] at HX1
  have sz2 : (bytesOf (ptext x.ver.p2)).size < 2000 := by rw [bytesOf_size]; omega
  rw [h2, h3] at H61
  rw [h2] at sz2
  have hl2 : r2.length < 1000 := by rw [h2] at hlen; simp [ptext] at hlen; omega
  have HTa := Lib.hid (fun w => tTrimDot (46 :: r2) (.inr ⟨_, rfl⟩) (by simp; omega) w)
  have HX2 := Lib.hid (fun w => tIsXb r2 w)
  rw [x2] at HX2
  clear hl2
  have HTb := Lib.hid (fun w => tTrimDot [] (.inl rfl) (by simp) w)
  have HX3 := Lib.hid (fun w => tIsXb [] w)
  rw [show isXb [] = false from rfl] at HX3
  have hst : ((bytesOf x.ver.p1 ++ bytesOf (46 :: r2)) ++ ⟨#[46, 48]⟩) ++ bytesOf (gtext 45 x.ver.pre) = bytesOf (x.ver.p1 ++ 46 :: r2 ++ [46, 48] ++ gtext 45 x.ver.pre) := by
    rw [show (⟨#[46, 48]⟩ : ByteArray) = bytesOf [46, 48] from rfl]
    simp only [bytes_app]
  have HST := Lib.hid hst
  have HV := Lib.hid hv
  have q := q52
  clear hx ht hL hR h0 h2 h3 x1 x2 hv hT hsz hxp hlen hs hst
  simp only [ptext] at H61 sz2
  generalize (x.ver.p1 ++ 46 :: r2 ++ [46, 48] ++ gtext 45 x.ver.pre) = vt at *
  generalize x.ver.text = yt at *
  generalize x.ver.p1 = r1 at *
  generalize x.op = op at *
  generalize gtext 45 x.ver.pre = g6 at *
  go_enter Tryz.func31, Tryz.ntmps31
  go_wp2_with (first
    | (go_at_call 44; refine (t60 w).mono ?_; rintro e w1 ⟨R, PB, IB, icap, rfl, hp, hr, hb⟩; have HP := Lib.hid (And.intro hp (And.intro hr (And.intro (Utf8Tabs_below HT.out hb) hb))); clear hp hr hb)
    | (go_at_call 45; refine (H61.out _ _ _ _ _ HP.out.1 HP.out.2.1 HP.out.2.2.1).mono ?_; rintro e w2 ⟨hb2, f, ⟨bp, rfl, h1, h2⟩, e1, e2, e3, e4, e5, e6⟩; have c1 := piece_cell h2 1 (by decide); have c2 := piece_cell h2 2 (by decide); have c3 := piece_cell h2 3 (by decide); have c4 := piece_cell h2 4 (by decide); have c5 := piece_cell h2 5 (by decide); have c6 := piece_cell h2 6 (by decide); rw [e1] at c1; rw [e2] at c2; rw [e3] at c3; rw [e4] at c4; rw [e5] at c5; rw [e6] at c6; have HB2 := Lib.hid (And.intro h1 (And.intro h2 (HP.out.2.2.2.trans (hb2.mono HP.out.2.2.2.size)))); clear hb2 h1 h2 e1 e2 e3 e4 e5 e6))
  go_region
  have hst : CAt w w2.heap.size bp #[.pointer none, .string (bytesOf yt), .string (bytesOf op), .bool false, .bool false, .bool false] (strs ((List.range 12).map f)) ((w2.alloc (.cells #[.pointer none, .string (bytesOf yt), .string (bytesOf op), .bool false, .bool false, .bool false] 68)).drew) := by
    obtain ⟨k1, k2, k3⟩ := HB2.out
    exact ⟨heap_alloc_new w2 _, (Below.heap_alloc w2 _ bp (Array.getElem?_eq_some_iff.1 k2).1).trans k2, (k3.alloc k3.size _).drew, k3.size⟩
  have e2 : (strs ((List.range 12).map f))[2]? = some (.string (bytesOf yt)) := by rw [← c2, cell_of_row _ _ _ _ _ _ HB2.out.2.1]
  have e3 : (strs ((List.range 12).map f))[3]? = some (.string (bytesOf r1)) := by rw [← c3, cell_of_row _ _ _ _ _ _ HB2.out.2.1]
  have e4 : (strs ((List.range 12).map f))[4]? = some (.string (bytesOf (46 :: r2))) := by rw [← c4, cell_of_row _ _ _ _ _ _ HB2.out.2.1]
  have e5 : (strs ((List.range 12).map f))[5]? = some (.string (bytesOf [])) := by rw [← c5, cell_of_row _ _ _ _ _ _ HB2.out.2.1]
  have e6 : (strs ((List.range 12).map f))[6]? = some (.string (bytesOf g6)) := by rw [← c6, cell_of_row _ _ _ _ _ _ HB2.out.2.1]
  clear c1 c2 c3 c4 c5 c6
  generalize (w2.alloc (.cells #[.pointer none, .string (bytesOf yt), .string (bytesOf op), .bool false, .bool false, .bool false] 68)).drew = W3 at *
  generalize strs ((List.range 12).map f) = ps at *
  generalize w2.heap.size = C at *
  have HS := Lib.hid hst
  have c2 := hst.piece 2 _ e2
  have c3 := hst.piece 3 _ e3
  have c4 := hst.piece 4 _ e4
  have c5 := hst.piece 5 _ e5
  have c6 := hst.piece 6 _ e6
  clear hst e2 e3 e4 e5 e6
  have n2 := bytesOf_toList (46 :: r2)
  have n3 := bytesOf_toList []
  go_upto_region 20 with (first
    | (go_at_call 46; first | ((with_reducible refine (HX1.out _).mono ?_); rintro e w6 ⟨rfl, hw⟩; subst hw) | ((with_reducible refine (HX2.out _).mono ?_); rintro e w6 ⟨rfl, hw⟩; subst hw) | ((with_reducible refine (HX3.out _).mono ?_); rintro e w6 ⟨rfl, hw⟩; subst hw))
    | (go_at_call 47; first | ((with_reducible refine (HTa.out _).mono ?_); rintro e w6 ⟨rfl, hw⟩; subst hw; rw [show ((46 :: r2) : Bs).tail = r2 from rfl]) | ((with_reducible refine (HTb.out _).mono ?_); rintro e w6 ⟨rfl, hw⟩; subst hw; rw [show ([] : Bs).tail = [] from rfl]))
    | go_in)
  go_quiet (fail)
  have hq := HS.out.keep (bdN _ nq)
  have HS := Lib.hid hq
  clear hq
  go_upto_region 21 with fail
  rw [HST.out]
  clear c2 c3 c4 c5 c6 n2 n3 k0
  have HU := Lib.hid (Utf8Tabs_below HT.out HS.out.b)
  go_wp2_with (go_at_call 48; refine (HV.out _ HU.out).mono ?_; rintro e w7 ⟨V, rfl, hVs, hVa, hb7⟩; have hst4 := HS.out.keep hb7; have HS4 := Lib.hid hst4; have HW := Lib.hid (And.intro hVs hVa); have v0 := hst4.cell 0 _ rfl; have v3 := hst4.cell 3 _ rfl; have v4 := hst4.cell 4 _ rfl; have v5 := hst4.cell 5 _ rfl; have z0 := hst4.fz 0; have z3 := hst4.fz 3; have z4 := hst4.fz 4; have z5 := hst4.fz 5; clear hb7 hst4 hVs hVa)
  go_ret2
  have hfin := (((HS4.out.store 0 (.pointer (some ⟨V, 0, none⟩))).store 3 (.bool false)).store 5 (.bool true)).store 4 (.bool true)
  have hne : V ≠ C := typ_ne HW.out.2 HS4.out.v (by decide)
  refine ⟨C, V, rfl, hfin.h, Nat.le_trans HS.out.b.size HW.out.1, hfin.v, ?_, hfin.b⟩
  unfold VerAt
  rw [heap_setCell_other _ _ _ _ hne, heap_setCell_other _ _ _ _ hne, heap_setCell_other _ _ _ _ hne, heap_setCell_other _ _ _ _ hne]
  exact HW.out.2
set_option maxHeartbeats 4000000 in
theorem t44c1 (x : Tm) {L RR : Bs} {s : ByteArray} (hs : s.size ≤ 1000) (hx : x.Ok) (ht : s.data.toList = L ++ (x.text ++ RR)) (hL : ∀ y ∈ L, ws y = true) (hR : ∀ y ∈ RR, ws y = true) (h0 : x.op = [] → x.blank = [])
    (r2 r3 : Bs) (h2 : x.ver.p2 = some r2) (h3 : x.ver.p3 = some r3) (x1 : isXb x.ver.p1 = false) (x2 : isXb r2 = false) (x3 : isXb r3 = true) (a b c : Nat) (pre me : Bs) (hv : Reads (x.ver.p1 ++ 46 :: r2 ++ [46, 48] ++ gtext 45 x.ver.pre) a b c pre me) (w : World) (hT : Lib.Utf8Tabs 11 12 w) :
    Calls Tryz.prog 31 #[.string s] w fun e w' => ∃ C V, e = .returned (.tuple #[.pointer (some ⟨C, 0, none⟩), .nilIface]) ∧ w.heap.size ≤ C ∧ w.heap.size ≤ V ∧ ConAt w' C V x.ver.text x.op false true true ∧ VerAt w' V a b c pre me (x.ver.p1 ++ 46 :: r2 ++ [46, 48] ++ gtext 45 x.ver.pre) ∧ Below w.heap.size w w' := by
  have hsz : L.length + (x.text.length + RR.length) = s.size := by rw [← list_size, ht]; simp
  have hxp := tm_pos hx
  have hlen : x.ver.p1.length + ((ptext x.ver.p2).length + ((ptext x.ver.p3).length + (gtext 45 x.ver.pre).length)) ≤ x.text.length := by
    rw [Tm.text, Ver.text]; simp; omega
  have hp1 : (bytesOf x.ver.p1).toList.isEmpty = false := by
    rw [bytesOf_toList]
    have := hx.ver.p1.1
    cases h : x.ver.p1 with
    | nil => exact absurd h this
    | cons y l => rfl
  have k0 : (0 : Int) < (s.size : Int) := by omega
  have H61 := Lib.hid (fun (w : World) (R PB IB icap : Nat) (hp : PG w R PB IB icap conT) (hr : RH w R PB 4 1 24 1 11) (hT : Lib.Utf8Tabs 11 12 w) => conM (s := s) hp hr hT hs hx ht hL hR h0)
  have HT := Lib.hid hT
  have sz1 : (bytesOf x.ver.p1).size < 2000 := by rw [bytesOf_size]; omega
  have sz6 : (bytesOf (gtext 45 x.ver.pre)).size < 2000 := by rw [bytesOf_size]; omega
  have HX1 := Lib.hid (fun w => tIsXb x.ver.p1 w)
  rw [x1] at HX1
  have sz2 : (bytesOf (ptext x.ver.p2)).size < 2000 := by rw [bytesOf_size]; omega
  rw [h2, h3] at H61
  rw [h2] at sz2
  have hl2 : r2.length < 1000 := by rw [h2] at hlen; simp [ptext] at hlen; omega
  have HTa := Lib.hid (fun w => tTrimDot (46 :: r2) (.inr ⟨_, rfl⟩) (by simp; omega) w)
  have HX2 := Lib.hid (fun w => tIsXb r2 w)
  rw [x2] at HX2
  clear hl2
  have hl3 : r3.length < 1000 := by rw [h3] at hlen; simp [ptext] at hlen; omega
  have HTb := Lib.hid (fun w => tTrimDot (46 :: r3) (.inr ⟨_, rfl⟩) (by simp; omega) w)
  have HX3 := Lib.hid (fun w => tIsXb r3 w)
  rw [x3] at HX3
  clear hl3
  have hst : ((bytesOf x.ver.p1 ++ bytesOf (46 :: r2)) ++ ⟨#[46, 48]⟩) ++ bytesOf (gtext 45 x.ver.pre) = bytesOf (x.ver.p1 ++ 46 :: r2 ++ [46, 48] ++ gtext 45 x.ver.pre) := by
    rw [show (⟨#[46, 48]⟩ : ByteArray) = bytesOf [46, 48] from rfl]
    simp only [bytes_app]
  have HST := Lib.hid hst
  have HV := Lib.hid hv
  have q := q52
  clear hx ht hL hR h0 h2 h3 x1 x2 x3 hv hT hsz hxp hlen hs hst
  simp only [ptext] at H61 sz2
  generalize (x.ver.p1 ++ 46 :: r2 ++ [46, 48] ++ gtext 45 x.ver.pre) = vt at *
  generalize x.ver.text = yt at *
  generalize x.ver.p1 = r1 at *
  generalize x.op = op at *
  generalize gtext 45 x.ver.pre = g6 at *
  go_enter Tryz.func31, Tryz.ntmps31
  go_wp2_with (first
    | (go_at_call 44; refine (t60 w).mono ?_; rintro e w1 ⟨R, PB, IB, icap, rfl, hp, hr, hb⟩; have HP := Lib.hid (And.intro hp (And.intro hr (And.intro (Utf8Tabs_below HT.out hb) hb))); clear hp hr hb)
    | (go_at_call 45; refine (H61.out _ _ _ _ _ HP.out.1 HP.out.2.1 HP.out.2.2.1).mono ?_; rintro e w2 ⟨hb2, f, ⟨bp, rfl, h1, h2⟩, e1, e2, e3, e4, e5, e6⟩; have c1 := piece_cell h2 1 (by decide); have c2 := piece_cell h2 2 (by decide); have c3 := piece_cell h2 3 (by decide); have c4 := piece_cell h2 4 (by decide); have c5 := piece_cell h2 5 (by decide); have c6 := piece_cell h2 6 (by decide); rw [e1] at c1; rw [e2] at c2; rw [e3] at c3; rw [e4] at c4; rw [e5] at c5; rw [e6] at c6; have HB2 := Lib.hid (And.intro h1 (And.intro h2 (HP.out.2.2.2.trans (hb2.mono HP.out.2.2.2.size)))); clear hb2 h1 h2 e1 e2 e3 e4 e5 e6))
  go_region
  have hst : CAt w w2.heap.size bp #[.pointer none, .string (bytesOf yt), .string (bytesOf op), .bool false, .bool false, .bool false] (strs ((List.range 12).map f)) ((w2.alloc (.cells #[.pointer none, .string (bytesOf yt), .string (bytesOf op), .bool false, .bool false, .bool false] 68)).drew) := by
    obtain ⟨k1, k2, k3⟩ := HB2.out
    exact ⟨heap_alloc_new w2 _, (Below.heap_alloc w2 _ bp (Array.getElem?_eq_some_iff.1 k2).1).trans k2, (k3.alloc k3.size _).drew, k3.size⟩
  have e2 : (strs ((List.range 12).map f))[2]? = some (.string (bytesOf yt)) := by rw [← c2, cell_of_row _ _ _ _ _ _ HB2.out.2.1]
  have e3 : (strs ((List.range 12).map f))[3]? = some (.string (bytesOf r1)) := by rw [← c3, cell_of_row _ _ _ _ _ _ HB2.out.2.1]
  have e4 : (strs ((List.range 12).map f))[4]? = some (.string (bytesOf (46 :: r2))) := by rw [← c4, cell_of_row _ _ _ _ _ _ HB2.out.2.1]
  have e5 : (strs ((List.range 12).map f))[5]? = some (.string (bytesOf (46 :: r3))) := by rw [← c5, cell_of_row _ _ _ _ _ _ HB2.out.2.1]
  have e6 : (strs ((List.range 12).map f))[6]? = some (.string (bytesOf g6)) := by rw [← c6, cell_of_row _ _ _ _ _ _ HB2.out.2.1]
  clear c1 c2 c3 c4 c5 c6
  generalize (w2.alloc (.cells #[.pointer none, .string (bytesOf yt), .string (bytesOf op), .bool false, .bool false, .bool false] 68)).drew = W3 at *
  generalize strs ((List.range 12).map f) = ps at *
  generalize w2.heap.size = C at *
  have HS := Lib.hid hst
  have c2 := hst.piece 2 _ e2
  have c3 := hst.piece 3 _ e3
  have c4 := hst.piece 4 _ e4
  have c5 := hst.piece 5 _ e5
  have c6 := hst.piece 6 _ e6
  clear hst e2 e3 e4 e5 e6
  have n2 := bytesOf_toList (46 :: r2)
  have n3 := bytesOf_toList (46 :: r3)
  go_upto_region 20 with (first
    | (go_at_call 46; first | ((with_reducible refine (HX1.out _).mono ?_); rintro e w6 ⟨rfl, hw⟩; subst hw) | ((with_reducible refine (HX2.out _).mono ?_); rintro e w6 ⟨rfl, hw⟩; subst hw) | ((with_reducible refine (HX3.out _).mono ?_); rintro e w6 ⟨rfl, hw⟩; subst hw))
    | (go_at_call 47; first | ((with_reducible refine (HTa.out _).mono ?_); rintro e w6 ⟨rfl, hw⟩; subst hw; rw [show ((46 :: r2) : Bs).tail = r2 from rfl]) | ((with_reducible refine (HTb.out _).mono ?_); rintro e w6 ⟨rfl, hw⟩; subst hw; rw [show ((46 :: r3) : Bs).tail = r3 from rfl]))
    | go_in)
  go_quiet (fail)
  have hq := HS.out.keep (bdN _ nq)
  have HS := Lib.hid hq
  clear hq
  go_upto_region 21 with fail
  rw [HST.out]
  clear c2 c3 c4 c5 c6 n2 n3 k0
  have HU := Lib.hid (Utf8Tabs_below HT.out HS.out.b)
  go_wp2_with (go_at_call 48; refine (HV.out _ HU.out).mono ?_; rintro e w7 ⟨V, rfl, hVs, hVa, hb7⟩; have hst4 := HS.out.keep hb7; have HS4 := Lib.hid hst4; have HW := Lib.hid (And.intro hVs hVa); have v0 := hst4.cell 0 _ rfl; have v3 := hst4.cell 3 _ rfl; have v4 := hst4.cell 4 _ rfl; have v5 := hst4.cell 5 _ rfl; have z0 := hst4.fz 0; have z3 := hst4.fz 3; have z4 := hst4.fz 4; have z5 := hst4.fz 5; clear hb7 hst4 hVs hVa)
  go_ret2
  have hfin := (((HS4.out.store 0 (.pointer (some ⟨V, 0, none⟩))).store 3 (.bool false)).store 5 (.bool true)).store 4 (.bool true)
  have hne : V ≠ C := typ_ne HW.out.2 HS4.out.v (by decide)
  refine ⟨C, V, rfl, hfin.h, Nat.le_trans HS.out.b.size HW.out.1, hfin.v, ?_, hfin.b⟩
  unfold VerAt
  rw [heap_setCell_other _ _ _ _ hne, heap_setCell_other _ _ _ _ hne, heap_setCell_other _ _ _ _ hne, heap_setCell_other _ _ _ _ hne]
  exact HW.out.2
end Go.Proofs.YtpbmbaffncnglaaGreatDoor.Sv
end
section
set_option linter.unusedVariables false
set_option linter.unusedSimpArgs false
/- the operators < and >=, of a release -/
namespace Go.Proofs.YtpbmbaffncnglaaGreatDoor.Sv
open Go Go.RowKit Rx
set_option maxRecDepth 100000
set_option maxHeartbeats 4000000 in
theorem tLt (w : World) (V U C a b c : Nat) (p m o : ByteArray) (a2 b2 c2 : Nat) (p2 m2 o2 op : ByteArray) (md d pd inc : Bool) (h : S3 w V U C a b c p m o a2 b2 c2 p2 m2 o2 op md d pd w) (hp : p.toList.isEmpty = true) (rel : Bool) (hr : p2.toList.isEmpty = rel) :
    Calls Tryz.prog 53 #[.pointer (some ⟨V, 0, none⟩), .pointer (some ⟨C, 0, none⟩), .bool inc] w fun e w' => ∃ ev, e = .returned (.tuple #[.bool (decide (cmpRel a b c a2 b2 c2 rel < 0)), ev]) ∧ Below w.heap.size w w' := by
  obtain ⟨q0, q1, q2, q3, q4, q5, q6, q7, q8, q9, q10, q11, q12, q13, q14, q15, q16, q17⟩ := h
  go_enter Tryz.func53, Tryz.ntmps53
  go_wp2_with (first
    | (go_at_call 73; refine (tPrere _ _ _ _ _ _ _).mono ?_; rintro e w1 ⟨rfl, hb⟩; have q0 := keepc hb q0; have q1 := keepc hb q1; have q2 := keepc hb q2; have q3 := keepc hb q3; have q4 := keepc hb q4; have q5 := keepc hb q5; have q6 := keepc hb q6; have q7 := keepc hb q7; have q8 := keepc hb q8; have q9 := keepc hb q9; have q10 := keepc hb q10; have q11 := keepc hb q11; have q12 := keepc hb q12; have q13 := keepc hb q13; have q14 := keepc hb q14; have q15 := keepc hb q15; have q16 := keepc hb q16; have q17 := belk hb q17; clear hb)
    | (go_at_call 79; refine (tCmp _ V U a b c p m o a2 b2 c2 p2 m2 o2 ⟨q0, q1, q2, q3, q4, q5, q6, q7, q8, q9, q10, q11, Below.refl _ _⟩ hp rel hr).mono ?_; rintro e w2 ⟨rfl, hb⟩; have q0 := keepc hb q0; have q1 := keepc hb q1; have q2 := keepc hb q2; have q3 := keepc hb q3; have q4 := keepc hb q4; have q5 := keepc hb q5; have q6 := keepc hb q6; have q7 := keepc hb q7; have q8 := keepc hb q8; have q9 := keepc hb q9; have q10 := keepc hb q10; have q11 := keepc hb q11; have q12 := keepc hb q12; have q13 := keepc hb q13; have q14 := keepc hb q14; have q15 := keepc hb q15; have q16 := keepc hb q16; have q17 := belk hb q17; clear hb)
    | (go_at_call 28; refine (tErr _ _).mono ?_; rintro e w3 ⟨t3, a3, rfl, hb⟩; have q0 := keepc hb q0; have q1 := keepc hb q1; have q2 := keepc hb q2; have q3 := keepc hb q3; have q4 := keepc hb q4; have q5 := keepc hb q5; have q6 := keepc hb q6; have q7 := keepc hb q7; have q8 := keepc hb q8; have q9 := keepc hb q9; have q10 := keepc hb q10; have q11 := keepc hb q11; have q12 := keepc hb q12; have q13 := keepc hb q13; have q14 := keepc hb q14; have q15 := keepc hb q15; have q16 := keepc hb q16; have q17 := belk hb q17; clear hb))
  all_goals go_ret2
  all_goals first
    | (rw [decide_eq_true (show cmpRel a b c a2 b2 c2 rel < 0 by first | assumption | omega)]; exact ⟨_, rfl, by assumption⟩)
    | (rw [decide_eq_false (show ¬ (cmpRel a b c a2 b2 c2 rel < 0) by first | assumption | omega)]; exact ⟨_, rfl, by assumption⟩)
set_option maxHeartbeats 4000000 in
theorem tGe (w : World) (V U C a b c : Nat) (p m o : ByteArray) (a2 b2 c2 : Nat) (p2 m2 o2 op : ByteArray) (md d pd inc : Bool) (h : S3 w V U C a b c p m o a2 b2 c2 p2 m2 o2 op md d pd w) (hp : p.toList.isEmpty = true) (rel : Bool) (hr : p2.toList.isEmpty = rel) :
    Calls Tryz.prog 54 #[.pointer (some ⟨V, 0, none⟩), .pointer (some ⟨C, 0, none⟩), .bool inc] w fun e w' => ∃ ev, e = .returned (.tuple #[.bool (decide (0 ≤ cmpRel a b c a2 b2 c2 rel)), ev]) ∧ Below w.heap.size w w' := by
  obtain ⟨q0, q1, q2, q3, q4, q5, q6, q7, q8, q9, q10, q11, q12, q13, q14, q15, q16, q17⟩ := h
  go_enter Tryz.func54, Tryz.ntmps54
  go_wp2_with (first
    | (go_at_call 73; refine (tPrere _ _ _ _ _ _ _).mono ?_; rintro e w1 ⟨rfl, hb⟩; have q0 := keepc hb q0; have q1 := keepc hb q1; have q2 := keepc hb q2; have q3 := keepc hb q3; have q4 := keepc hb q4; have q5 := keepc hb q5; have q6 := keepc hb q6; have q7 := keepc hb q7; have q8 := keepc hb q8; have q9 := keepc hb q9; have q10 := keepc hb q10; have q11 := keepc hb q11; have q12 := keepc hb q12; have q13 := keepc hb q13; have q14 := keepc hb q14; have q15 := keepc hb q15; have q16 := keepc hb q16; have q17 := belk hb q17; clear hb)
    | (go_at_call 79; refine (tCmp _ V U a b c p m o a2 b2 c2 p2 m2 o2 ⟨q0, q1, q2, q3, q4, q5, q6, q7, q8, q9, q10, q11, Below.refl _ _⟩ hp rel hr).mono ?_; rintro e w2 ⟨rfl, hb⟩; have q0 := keepc hb q0; have q1 := keepc hb q1; have q2 := keepc hb q2; have q3 := keepc hb q3; have q4 := keepc hb q4; have q5 := keepc hb q5; have q6 := keepc hb q6; have q7 := keepc hb q7; have q8 := keepc hb q8; have q9 := keepc hb q9; have q10 := keepc hb q10; have q11 := keepc hb q11; have q12 := keepc hb q12; have q13 := keepc hb q13; have q14 := keepc hb q14; have q15 := keepc hb q15; have q16 := keepc hb q16; have q17 := belk hb q17; clear hb)
    | (go_at_call 28; refine (tErr _ _).mono ?_; rintro e w3 ⟨t3, a3, rfl, hb⟩; have q0 := keepc hb q0; have q1 := keepc hb q1; have q2 := keepc hb q2; have q3 := keepc hb q3; have q4 := keepc hb q4; have q5 := keepc hb q5; have q6 := keepc hb q6; have q7 := keepc hb q7; have q8 := keepc hb q8; have q9 := keepc hb q9; have q10 := keepc hb q10; have q11 := keepc hb q11; have q12 := keepc hb q12; have q13 := keepc hb q13; have q14 := keepc hb q14; have q15 := keepc hb q15; have q16 := keepc hb q16; have q17 := belk hb q17; clear hb))
  all_goals go_ret2
  all_goals first
    | (rw [decide_eq_true (show 0 ≤ cmpRel a b c a2 b2 c2 rel by first | assumption | omega)]; exact ⟨_, rfl, by assumption⟩)
    | (rw [decide_eq_false (show ¬ (0 ≤ cmpRel a b c a2 b2 c2 rel) by first | assumption | omega)]; exact ⟨_, rfl, by assumption⟩)
end Go.Proofs.YtpbmbaffncnglaaGreatDoor.Sv
end
section
set_option linter.unusedVariables false
set_option linter.unusedSimpArgs false
/- check of one term -/
namespace Go.Proofs.YtpbmbaffncnglaaGreatDoor.Sv
open Go Go.RowKit Rx
set_option maxRecDepth 100000
set_option maxHeartbeats 4000000 in
theorem tChkTilde (w : World) (V U C a b c : Nat) (p m o : ByteArray) (a2 b2 c2 : Nat) (p2 m2 o2 : ByteArray) (md d pd inc : Bool) (h : S3 w V U C a b c p m o a2 b2 c2 p2 m2 o2 ⟨#[126]⟩ md d pd w) (hp : p.toList.isEmpty = true) (rel : Bool) (hr : p2.toList.isEmpty = rel) :
    Calls Tryz.prog 32 #[.pointer (some ⟨C, 0, none⟩), .pointer (some ⟨V, 0, none⟩), .bool inc] w fun e w' => ∃ ev, e = .returned (.tuple #[.bool (tildeR a b c a2 b2 c2 rel md pd), ev]) ∧ Below w.heap.size w w' := by
  have H := Lib.hid (tTilde w V U C a b c p m o a2 b2 c2 p2 m2 o2 ⟨#[126]⟩ md d pd inc h hp rel hr)
  obtain ⟨q0, q1, q2, q3, q4, q5, q6, q7, q8, q9, q10, q11, q12, q13, q14, q15, q16, q17⟩ := h
  clear q0 q1 q2 q3 q4 q5 q6 q7 q8 q9 q10 q11 q12 q14 q15 q16 q17 hp hr
  generalize tildeR a b c a2 b2 c2 rel md pd = r at *
  go_enter Tryz.func32, Tryz.ntmps32
  go_wp2_with (go_at_call 56; refine H.out.mono ?_; rintro e w1 ⟨ev, rfl, hb⟩; have HB := Lib.hid hb; clear hb)
  go_ret2
  exact ⟨_, rfl, HB.out⟩
set_option maxHeartbeats 4000000 in
theorem tChkCaret (w : World) (V U C a b c : Nat) (p m o : ByteArray) (a2 b2 c2 : Nat) (p2 m2 o2 : ByteArray) (md d pd inc : Bool) (h : S3 w V U C a b c p m o a2 b2 c2 p2 m2 o2 ⟨#[94]⟩ md d pd w) (hp : p.toList.isEmpty = true) (rel : Bool) (hr : p2.toList.isEmpty = rel) :
    Calls Tryz.prog 32 #[.pointer (some ⟨C, 0, none⟩), .pointer (some ⟨V, 0, none⟩), .bool inc] w fun e w' => ∃ ev, e = .returned (.tuple #[.bool (caretR a b c a2 b2 c2 rel md pd), ev]) ∧ Below w.heap.size w w' := by
  have H := Lib.hid (tCaret w V U C a b c p m o a2 b2 c2 p2 m2 o2 ⟨#[94]⟩ md d pd inc h hp rel hr)
  obtain ⟨q0, q1, q2, q3, q4, q5, q6, q7, q8, q9, q10, q11, q12, q13, q14, q15, q16, q17⟩ := h
  clear q0 q1 q2 q3 q4 q5 q6 q7 q8 q9 q10 q11 q12 q14 q15 q16 q17 hp hr
  generalize caretR a b c a2 b2 c2 rel md pd = r at *
  go_enter Tryz.func32, Tryz.ntmps32
  go_wp2_with (go_at_call 57; refine H.out.mono ?_; rintro e w1 ⟨ev, rfl, hb⟩; have HB := Lib.hid hb; clear hb)
  go_ret2
  exact ⟨_, rfl, HB.out⟩
set_option maxHeartbeats 4000000 in
theorem tChkGt (w : World) (V U C a b c : Nat) (p m o : ByteArray) (a2 b2 c2 : Nat) (p2 m2 o2 : ByteArray) (md d pd inc : Bool) (h : S3 w V U C a b c p m o a2 b2 c2 p2 m2 o2 ⟨#[62]⟩ md d pd w) (hp : p.toList.isEmpty = true) (rel : Bool) (hr : p2.toList.isEmpty = rel) (hd : d = false) :
    Calls Tryz.prog 32 #[.pointer (some ⟨C, 0, none⟩), .pointer (some ⟨V, 0, none⟩), .bool inc] w fun e w' => ∃ ev, e = .returned (.tuple #[.bool (cmpRel a b c a2 b2 c2 rel == 1), ev]) ∧ Below w.heap.size w w' := by
  have H := Lib.hid (tGt w V U C a b c p m o a2 b2 c2 p2 m2 o2 ⟨#[62]⟩ md d pd inc h hp rel hr hd)
  obtain ⟨q0, q1, q2, q3, q4, q5, q6, q7, q8, q9, q10, q11, q12, q13, q14, q15, q16, q17⟩ := h
  clear q0 q1 q2 q3 q4 q5 q6 q7 q8 q9 q10 q11 q12 q14 q15 q16 q17 hp hr hd
  generalize (cmpRel a b c a2 b2 c2 rel == 1) = r at *
  go_enter Tryz.func32, Tryz.ntmps32
  go_wp2_with (go_at_call 52; refine H.out.mono ?_; rintro e w1 ⟨ev, rfl, hb⟩; have HB := Lib.hid hb; clear hb)
  go_ret2
  exact ⟨_, rfl, HB.out⟩
end Go.Proofs.YtpbmbaffncnglaaGreatDoor.Sv
end
section
set_option linter.unusedVariables false
set_option linter.unusedSimpArgs false
/- Check: one list at least holds -/
namespace Go.Proofs.YtpbmbaffncnglaaGreatDoor.Sv
open Go Go.RowKit Rx
set_option maxRecDepth 100000
theorem ptrRow_get {Cs : List Nat} {n i C : Nat} (h : Cs[i]? = some C) : (ptrRow Cs n)[i]? = some (ptr C) := by
  have hl := (List.getElem?_eq_some_iff.1 h).1
  unfold ptrRow
  rw [List.getElem?_toArray, List.getElem?_append_left (by simpa using hl), List.getElem?_map, h]
  rfl
/-- what holds of the constraint's blocks -/
structure CS (OR HP : Nat) (Xs : List Nat) (gs : List (List TD)) (VP : World → Prop) (T : Nat) (inc : Bool) (W : World) : Prop where
  r : W.heap[OR]? = some (.cells (rowVals Xs gs).toArray 61 (0, 0))
  p : W.heap[HP]? = some (.cells ((gs.map anyPre).map Value.bool).toArray 4 (0, 0))
  rows : Rows W Xs gs
  v : VP W
  t : W.heap[T]? = some (.cells #[.slice (some ⟨OR, 0, none⟩) gs.length gs.length, .slice (some ⟨HP, 0, none⟩) gs.length gs.length, .bool inc] 50 (0, 0))
theorem CS.keep {OR HP : Nat} {Xs : List Nat} {gs : List (List TD)} {VP : World → Prop} {T : Nat} {inc : Bool} {W W' : World} (hVP : ∀ W W', VP W → Below W.heap.size W W' → VP W') (h : CS OR HP Xs gs VP T inc W) (hb : Below W.heap.size W W') : CS OR HP Xs gs VP T inc W' :=
  ⟨blk hb h.r, blk hb h.p, h.rows.keep hb, hVP _ _ h.v hb, blk hb h.t⟩
set_option maxHeartbeats 4000000 in
theorem t32 {gs : List (List TD)} {OR HP V : Nat} {Xs : List Nat} {inc : Bool} (R : TD → Bool → Bool) (VP : World → Prop) (hVP : ∀ W W', VP W → Below W.heap.size W W' → VP W')
    (hchk : ∀ ts ∈ gs, ∀ t ∈ ts, ∀ C i W, TDAt W C t → VP W → Calls Tryz.prog 32 #[.pointer (some ⟨C, 0, none⟩), .pointer (some ⟨V, 0, none⟩), .bool i] W fun e w' => ∃ ev, e = .returned (.tuple #[.bool (R t i), ev]) ∧ Below W.heap.size W w')
    (hl1 : gs.length ≤ 1000) (hl2 : ∀ ts ∈ gs, ts.length ≤ 1000) (w : World) (hr : w.heap[OR]? = some (.cells (rowVals Xs gs).toArray 61 (0, 0))) (hp : w.heap[HP]? = some (.cells ((gs.map anyPre).map Value.bool).toArray 4 (0, 0)))
    (hrows : Rows w Xs gs) (hv : VP w) :
    Calls Tryz.prog 19 #[.agg #[.slice (some ⟨OR, 0, none⟩) gs.length gs.length, .slice (some ⟨HP, 0, none⟩) gs.length gs.length, .bool inc], .pointer (some ⟨V, 0, none⟩)] w fun e w' =>
      e = .returned (.bool (gs.any fun ts => ts.all fun t => R t (inc || anyPre ts))) ∧ Below w.heap.size w w' := by
  have hal := (Below.refl _ w).alloc (Nat.le_refl _) (.cells #[.slice (some ⟨OR, 0, none⟩) gs.length gs.length, .slice (some ⟨HP, 0, none⟩) gs.length gs.length, .bool inc] 50)
  have H0 : CS OR HP Xs gs VP w.heap.size inc (w.alloc (.cells #[.slice (some ⟨OR, 0, none⟩) gs.length gs.length, .slice (some ⟨HP, 0, none⟩) gs.length gs.length, .bool inc] 50)) :=
    ⟨blk hal hr, blk hal hp, hrows.keep hal, hVP _ _ hv hal, heap_alloc_new w _⟩
  have HV := Lib.hid hVP
  have HC := Lib.hid hchk
  have HL := Lib.hid hl2
  generalize hres : (gs.any fun ts => ts.all fun t => R t (inc || anyPre ts)) = res
  have HRES := Lib.hid hres
  clear hVP hchk hl2 hr hp hrows hv hres
  have hlen : (gs.length : Int) ≤ 1000 := by omega
  go_enter Tryz.func19, Tryz.ntmps19
  go_upto_region 1 with fail
  generalize hw0 : w.alloc (.cells #[.slice (some ⟨OR, 0, none⟩) gs.length gs.length, .slice (some ⟨HP, 0, none⟩) gs.length gs.length, .bool inc] 50) = w0 at *
  clear hw0
  have HB := Lib.hid hal
  clear hal
  generalize w.heap.size = T at H0 ⊢
  have c0 : w0.cell? ⟨T, 0, none⟩ = some (.slice (some ⟨OR, 0, none⟩) gs.length gs.length) := cell_of_row _ _ 0 _ _ _ H0.t
  have HS := Lib.hid H0
  clear H0
  go_wp2
  clear c0
  go_loopw [15] (fun kv W => ∃ (k : Nat), kv = .int .i64 k ∧ Hid (k ≤ gs.length ∧ ((gs.take k).any fun ts => ts.all fun t => R t (inc || anyPre ts)) = false ∧ Below w0.heap.size w0 W)) (fun kv _ => 2000 - (intOf kv).toNat)
  case atStart => exact ⟨0, rfl, Lib.hid ⟨Nat.zero_le _, rfl, Below.refl _ _⟩⟩
  case round =>
    obtain ⟨k, rfl, HK⟩ := hrel
    by_cases c : k < gs.length
    · have c1 : (k : Int) < (gs.length : Int) := by omega
      obtain ⟨ts, hts⟩ : ∃ ts, gs[k]? = some ts := ⟨_, List.getElem?_eq_getElem c⟩
      have hmem : ts ∈ gs := List.mem_of_getElem? hts
      have hcs := HS.out.keep HV.out HK.out.2.2
      obtain ⟨X, hX, hRow⟩ := hcs.rows.get hts
      obtain ⟨Cs, hCs, hTD⟩ := hRow
      have q0 : wr.cell? ⟨OR, k, none⟩ = some (.slice (some ⟨X, 0, none⟩) ts.length ts.length) := by
        rw [cell_of_row _ _ _ _ _ _ hcs.r, List.getElem?_toArray, rowVals_get hX hts]; rfl
      have hn : ts.length ≤ 1000 := HL.out ts hmem
      have hnI : (ts.length : Int) ≤ 1000 := by omega
      have hstep : ((gs.take (k + 1)).any fun ts => ts.all fun t => R t (inc || anyPre ts)) = (ts.all fun t => R t (inc || anyPre ts)) := by
        rw [List.take_add_one, hts, List.any_append, HK.out.2.1]; simp
      have hall : (ts.all fun t => R t (inc || anyPre ts)) = true → res = true := fun h => by
        rw [← HRES.out, List.any_eq_true]; exact ⟨ts, hmem, h⟩
      have HN := Lib.hid (And.intro c (And.intro hts (And.intro hmem (And.intro hstep hall))))
      have HX := Lib.hid (And.intro hCs hTD)
      clear hts hmem hcs hX hCs hTD hstep hall c
      go_upto_region 5 with fail
      go_wp2
      clear q0
      go_loopw [7, 22] (fun jv iv W => ∃ (i : Nat), jv = .bool true ∧ iv = .int .i64 i ∧ Hid (i ≤ ts.length ∧ ((ts.take i).all fun t => R t (inc || anyPre ts)) = true ∧ Below wr.heap.size wr W)) (fun _ iv _ => 2000 - (intOf iv).toNat)
      case atStart => exact ⟨0, rfl, rfl, Lib.hid ⟨Nat.zero_le _, rfl, Below.refl _ _⟩⟩
      case round =>
        obtain ⟨i, rfl, rfl, HI⟩ := hrel
        have hbb := belk HI.out.2.2 HK.out.2.2
        have hcs := HS.out.keep HV.out hbb
        by_cases c : i < ts.length
        · have c2 : (i : Int) < (ts.length : Int) := by omega
          obtain ⟨t, ht⟩ : ∃ t, ts[i]? = some t := ⟨_, List.getElem?_eq_getElem c⟩
          obtain ⟨C, hC, hTC⟩ := HX.out.2.get ht
          have q0 : wr.cell? ⟨X, i, none⟩ = some (.pointer (some ⟨C, 0, none⟩)) := by
            rw [cell_of_row _ _ _ _ _ _ (blk HI.out.2.2 HX.out.1)]; exact ptrRow_get hC
          have q1 : wr.cell? ⟨T, 2, none⟩ = some (.bool inc) := cell_of_row _ _ 2 _ _ _ hcs.t
          have q2 : wr.cell? ⟨T, 1, none⟩ = some (.slice (some ⟨HP, 0, none⟩) gs.length gs.length) := cell_of_row _ _ 1 _ _ _ hcs.t
          have q3 : wr.cell? ⟨HP, k, none⟩ = some (.bool (anyPre ts)) := by
            rw [cell_of_row _ _ _ _ _ _ hcs.p, List.getElem?_toArray, List.getElem?_map, List.getElem?_map, HN.out.2.1]; rfl
          have HCK := Lib.hid (fun j => HC.out ts HN.out.2.2.1 t (List.mem_of_getElem? ht) C j wr (hTC.keep HI.out.2.2) hcs.v)
          have hst : ((ts.take (i + 1)).all fun t => R t (inc || anyPre ts)) = R t (inc || anyPre ts) := by
            rw [List.take_add_one, ht, List.all_append, HI.out.2.1]; simp
          have hno : R t (inc || anyPre ts) = false → (ts.all fun t => R t (inc || anyPre ts)) = false := fun h => by
            rw [List.all_eq_false]; exact ⟨t, List.mem_of_getElem? ht, by simp [h]⟩
          have HST := Lib.hid (And.intro c (And.intro hst hno))
          have HBB := Lib.hid hbb
          clear hst hno hcs hC hTC ht c hbb
          cases inc
          · have HCJ := Lib.hid (HCK.out (anyPre ts))
            have HJ := Lib.hid HST.out
            clear HCK HST
            cases hR : R t (anyPre ts) with
            | true =>
              rw [hR] at HCJ
              have hst : ((ts.take (i + 1)).all fun t => R t (false || anyPre ts)) = true := HJ.out.2.1.trans hR
              have HT := Lib.hid hst
              clear hst hR
              go_wp2_with (go_at_call 32; refine HCJ.out.mono ?_; rintro e w9 ⟨ev, rfl, hb9⟩; have H9 := Lib.hid (belk hb9 HI.out.2.2); clear hb9)
              exact ⟨⟨i + 1, rfl, by simp, Lib.hid ⟨HJ.out.1, HT.out, H9.out⟩⟩, by simp only [intOf]; have := HJ.out.1; omega⟩
            | false =>
              rw [hR] at HCJ
              have hst : ((gs.take (k + 1)).any fun ts => ts.all fun t => R t (false || anyPre ts)) = false := HN.out.2.2.2.1.trans (HJ.out.2.2 hR)
              have HT := Lib.hid hst
              clear hst hR
              go_wp2_with (go_at_call 32; refine HCJ.out.mono ?_; rintro e w9 ⟨ev, rfl, hb9⟩; have H9 := Lib.hid (belk hb9 HBB.out); clear hb9)
              exact ⟨⟨k + 1, by simp, Lib.hid ⟨HN.out.1, HT.out, H9.out⟩⟩, by simp only [intOf]; have := HN.out.1; omega⟩
          · have HCJ := Lib.hid (HCK.out true)
            have HJ := Lib.hid HST.out
            clear HCK HST
            cases hR : R t true with
            | true =>
              rw [hR] at HCJ
              have hst : ((ts.take (i + 1)).all fun t => R t (true || anyPre ts)) = true := HJ.out.2.1.trans hR
              have HT := Lib.hid hst
              clear hst hR
              go_wp2_with (go_at_call 32; refine HCJ.out.mono ?_; rintro e w9 ⟨ev, rfl, hb9⟩; have H9 := Lib.hid (belk hb9 HI.out.2.2); clear hb9)
              exact ⟨⟨i + 1, rfl, by simp, Lib.hid ⟨HJ.out.1, HT.out, H9.out⟩⟩, by simp only [intOf]; have := HJ.out.1; omega⟩
            | false =>
              rw [hR] at HCJ
              have hst : ((gs.take (k + 1)).any fun ts => ts.all fun t => R t (true || anyPre ts)) = false := HN.out.2.2.2.1.trans (HJ.out.2.2 hR)
              have HT := Lib.hid hst
              clear hst hR
              go_wp2_with (go_at_call 32; refine HCJ.out.mono ?_; rintro e w9 ⟨ev, rfl, hb9⟩; have H9 := Lib.hid (belk hb9 HBB.out); clear hb9)
              exact ⟨⟨k + 1, by simp, Lib.hid ⟨HN.out.1, HT.out, H9.out⟩⟩, by simp only [intOf]; have := HN.out.1; omega⟩
        · have hin : i = ts.length := by have := HI.out.1; omega
          have hr : res = true := HN.out.2.2.2.2 (by have := HI.out.2.1; rw [hin, List.take_length] at this; exact this)
          have HR := Lib.hid hr
          have c2 : ¬ (i : Int) < (ts.length : Int) := by omega
          have HBB := Lib.hid hbb
          clear hr c hin hcs hbb
          go_wp2
          go_ret
          exact ⟨by rw [HR.out]; rfl, belk HBB.out HB.out⟩
    · have hkn : k = gs.length := by have := HK.out.1; omega
      subst hkn
      have hr : res = false := by rw [← HRES.out, ← HK.out.2.1, List.take_length]
      have HR := Lib.hid hr
      clear hr c
      go_wp2
      go_ret
      exact ⟨by rw [HR.out]; rfl, belk HK.out.2.2 HB.out⟩
end Go.Proofs.YtpbmbaffncnglaaGreatDoor.Sv
end
section
set_option linter.unusedVariables false
set_option linter.unusedSimpArgs false
/- CheckText -/
namespace Go.Proofs.YtpbmbaffncnglaaGreatDoor.Sv
open Go Go.RowKit Rx
set_option maxRecDepth 100000
/-- a version's row -/
def vrow (a b c : Nat) (p m : ByteArray) : Obj := .cells #[.int .u64 a, .int .u64 b, .int .u64 c, .string p, .string m, .string e0] 66 (0, 0)
set_option maxHeartbeats 4000000 in
theorem t19 {s : ByteArray} {gs : List (List TD)} {a b c : Nat} {p m : ByteArray} {pre : Bool} (R : TD → Bool → Bool)
    (h31 : ∀ w, Lib.Utf8Tabs 11 12 w → Calls Tryz.prog 18 #[.string s] w fun e w' => ∃ O, e = .returned (.tuple #[ptr O, .nilIface]) ∧ w.heap.size ≤ O ∧ ConsAt w' O gs false ∧ Below w.heap.size w w')
    (hchk : ∀ ts ∈ gs, ∀ t ∈ ts, ∀ V C i W, TDAt W C t → W.heap[V]? = some (vrow a b c p m) → Calls Tryz.prog 32 #[.pointer (some ⟨C, 0, none⟩), .pointer (some ⟨V, 0, none⟩), .bool i] W fun e w' => ∃ ev, e = .returned (.tuple #[.bool (R t i), ev]) ∧ Below W.heap.size W w')
    (hl1 : gs.length ≤ 1000) (hl2 : ∀ ts ∈ gs, ts.length ≤ 1000) (w : World) (hT : Lib.Utf8Tabs 11 12 w) :
    Calls Tryz.prog 14 #[.string s, iv a b c p m, .bool pre] w fun e w' =>
      e = .returned (.tuple #[.bool (gs.any fun ts => ts.all fun t => R t (pre || anyPre ts)), .bool true]) ∧ Below w.heap.size w w' := by
  have hal := (Below.refl _ w).alloc (Nat.le_refl _) (.cells #[.int .u64 a, .int .u64 b, .int .u64 c, .string p, .string m] 24)
  have H31 := Lib.hid (h31 _ (Utf8Tabs_below hT hal))
  have HC := Lib.hid (fun V OR HP Xs => t32 (OR := OR) (HP := HP) (Xs := Xs) (inc := pre) (V := V) R (fun W => W.heap[V]? = some (vrow a b c p m)) (fun W W' h hb => blk hb h) (fun ts hts t ht C i W h1 h2 => hchk ts hts t ht V C i W h1 h2) hl1 hl2)
  generalize (gs.any fun ts => ts.all fun t => R t (pre || anyPre ts)) = res at *
  clear h31 hchk hl1 hl2 hT
  have hrow := heap_alloc_new w (.cells #[.int .u64 a, .int .u64 b, .int .u64 c, .string p, .string m] 24)
  have HL := Lib.hid (fun V => l13 a b c p m V)
  unfold iv
  go_enter Tryz.func14, Tryz.ntmps14
  go_upto_region 1 with fail
  generalize hw0 : w.alloc (.cells #[.int .u64 a, .int .u64 b, .int .u64 c, .string p, .string m] 24) = w0 at *
  clear hw0
  have HB := Lib.hid hal
  have HR := Lib.hid hrow
  clear hal hrow
  generalize w.heap.size = T at HR ⊢
  go_upto_region 4 with (go_at_call 18; refine H31.out.mono ?_; rintro e w1 ⟨O, rfl, hO, hcons, hb⟩; simp only [ptr]; obtain ⟨OR, HP, Xs, hO1, hOR, hHP, hRows⟩ := hcons; have HK := Lib.hid (And.intro hO1 (And.intro hOR (And.intro hHP (And.intro hRows (And.intro hO hb))))); clear hO1 hOR hHP hRows hO hb)
  have o2 : w1.cell? ⟨O, 2, none⟩ = some (.bool false) := cell_of_row _ _ 2 _ _ _ HK.out.1
  have f2 := frozen_of_row _ _ 2 _ _ HK.out.1
  go_upto_region 5 with fail
  have H5 : (w1.setCell ⟨O, 2, none⟩ (.bool pre)).heap[O]? = some (.cells #[.slice (some ⟨OR, 0, none⟩) gs.length gs.length, .slice (some ⟨HP, 0, none⟩) gs.length gs.length, .bool pre] 50 (0, 0)) ∧ (w1.setCell ⟨O, 2, none⟩ (.bool pre)).heap[OR]? = some (.cells (rowVals Xs gs).toArray 61 (0, 0)) ∧ (w1.setCell ⟨O, 2, none⟩ (.bool pre)).heap[HP]? = some (.cells ((gs.map anyPre).map Value.bool).toArray 4 (0, 0)) ∧ Rows (w1.setCell ⟨O, 2, none⟩ (.bool pre)) Xs gs ∧ Below w0.heap.size w0 (w1.setCell ⟨O, 2, none⟩ (.bool pre)) := by
    obtain ⟨h1, h2, h3, h4, h5, h6⟩ := HK.out
    have hfr := free_of h1 (by decide) (by decide)
    refine ⟨heap_setCell_same _ _ 2 _ _ _ h1, oth h2 (typ_ne h2 h1 (by decide)), oth h3 (typ_ne h3 h1 (by decide)), h4.kp (Kp.setCell O 2 w1 _) hfr ?_, h6.setCell h5 _⟩
    intro hm
    obtain ⟨cs, hc⟩ := h4.mem_lt O hm
    rw [h1] at hc
    simp at hc
  generalize w1.setCell ⟨O, 2, none⟩ (.bool pre) = w5 at *
  clear o2 f2
  obtain ⟨h1, h2, h3, h4, h5⟩ := H5
  have hrT := blk h5 HR.out
  have q0 : w5.cell? ⟨O, 0, none⟩ = some (.slice (some ⟨OR, 0, none⟩) gs.length gs.length) := cell_of_row _ _ 0 _ _ _ h1
  have q1 : w5.cell? ⟨O, 1, none⟩ = some (.slice (some ⟨HP, 0, none⟩) gs.length gs.length) := cell_of_row _ _ 1 _ _ _ h1
  have q2 : w5.cell? ⟨O, 2, none⟩ = some (.bool pre) := cell_of_row _ _ 2 _ _ _ h1
  have q3 : w5.cell? ⟨T, 0, none⟩ = some (.int .u64 a) := cell_of_row _ _ 0 _ _ _ hrT
  have q4 : w5.cell? ⟨T, 1, none⟩ = some (.int .u64 b) := cell_of_row _ _ 1 _ _ _ hrT
  have q5 : w5.cell? ⟨T, 2, none⟩ = some (.int .u64 c) := cell_of_row _ _ 2 _ _ _ hrT
  have q6 : w5.cell? ⟨T, 3, none⟩ = some (.string p) := cell_of_row _ _ 3 _ _ _ hrT
  have q7 : w5.cell? ⟨T, 4, none⟩ = some (.string m) := cell_of_row _ _ 4 _ _ _ hrT
  have q8 := Below.refl w5.heap.size w5
  have HM := Lib.hid (And.intro h2 (And.intro h3 h4))
  have HB5 := Lib.hid h5
  clear h1 h2 h3 h4 h5 hrT
  go_region_held3 (fun W => W.cell? ⟨O, 0, none⟩ = some (.slice (some ⟨OR, 0, none⟩) gs.length gs.length) ∧ W.cell? ⟨O, 1, none⟩ = some (.slice (some ⟨HP, 0, none⟩) gs.length gs.length) ∧ W.cell? ⟨O, 2, none⟩ = some (.bool pre) ∧ W.cell? ⟨T, 0, none⟩ = some (.int .u64 a) ∧ W.cell? ⟨T, 1, none⟩ = some (.int .u64 b) ∧ W.cell? ⟨T, 2, none⟩ = some (.int .u64 c) ∧ W.cell? ⟨T, 3, none⟩ = some (.string p) ∧ W.cell? ⟨T, 4, none⟩ = some (.string m) ∧ Below w5.heap.size w5 W) (first | exact ⟨by assumption, by assumption, by assumption, by assumption, by assumption, by assumption, by assumption, by assumption, by assumption⟩ | exact ⟨by first | assumption | (rw [World.cell?_drew]; assumption), by first | assumption | (rw [World.cell?_drew]; assumption), by first | assumption | (rw [World.cell?_drew]; assumption), by first | assumption | (rw [World.cell?_drew]; assumption), by first | assumption | (rw [World.cell?_drew]; assumption), by first | assumption | (rw [World.cell?_drew]; assumption), by first | assumption | (rw [World.cell?_drew]; assumption), by first | assumption | (rw [World.cell?_drew]; assumption), by first | assumption | exact Below.drew (by assumption)⟩) (first
    | (go_at_call 20; (with_reducible refine (HL.out _).mono ?_); rintro e w6 ⟨V, rfl, hV, hr, hb⟩; have HVR := Lib.hid hr; clear hr hV; have HS2 : (fun W => W.cell? ⟨O, 0, none⟩ = some (.slice (some ⟨OR, 0, none⟩) gs.length gs.length) ∧ W.cell? ⟨O, 1, none⟩ = some (.slice (some ⟨HP, 0, none⟩) gs.length gs.length) ∧ W.cell? ⟨O, 2, none⟩ = some (.bool pre) ∧ W.cell? ⟨T, 0, none⟩ = some (.int .u64 a) ∧ W.cell? ⟨T, 1, none⟩ = some (.int .u64 b) ∧ W.cell? ⟨T, 2, none⟩ = some (.int .u64 c) ∧ W.cell? ⟨T, 3, none⟩ = some (.string p) ∧ W.cell? ⟨T, 4, none⟩ = some (.string m) ∧ Below w5.heap.size w5 W) w6 := ⟨keepc hb (by first | assumption | (rw [World.cell?_drew]; assumption)), keepc hb (by first | assumption | (rw [World.cell?_drew]; assumption)), keepc hb (by first | assumption | (rw [World.cell?_drew]; assumption)), keepc hb (by first | assumption | (rw [World.cell?_drew]; assumption)), keepc hb (by first | assumption | (rw [World.cell?_drew]; assumption)), keepc hb (by first | assumption | (rw [World.cell?_drew]; assumption)), keepc hb (by first | assumption | (rw [World.cell?_drew]; assumption)), keepc hb (by first | assumption | (rw [World.cell?_drew]; assumption)), belk hb (by first | assumption | exact Below.drew (by assumption))⟩; obtain ⟨q0, q1, q2, q3, q4, q5, q6, q7, q8⟩ := HS2; clear hb)
    | (go_at_call 19; (with_reducible refine (HC.out _ _ _ _ _ (blk q8 HM.out.1) (blk q8 HM.out.2.1) (HM.out.2.2.keep q8) HVR.out).mono ?_); rintro e w7 ⟨rfl, hb⟩; have HS2 : (fun W => W.cell? ⟨O, 0, none⟩ = some (.slice (some ⟨OR, 0, none⟩) gs.length gs.length) ∧ W.cell? ⟨O, 1, none⟩ = some (.slice (some ⟨HP, 0, none⟩) gs.length gs.length) ∧ W.cell? ⟨O, 2, none⟩ = some (.bool pre) ∧ W.cell? ⟨T, 0, none⟩ = some (.int .u64 a) ∧ W.cell? ⟨T, 1, none⟩ = some (.int .u64 b) ∧ W.cell? ⟨T, 2, none⟩ = some (.int .u64 c) ∧ W.cell? ⟨T, 3, none⟩ = some (.string p) ∧ W.cell? ⟨T, 4, none⟩ = some (.string m) ∧ Below w5.heap.size w5 W) w7 := ⟨keepc hb (by first | assumption | (rw [World.cell?_drew]; assumption)), keepc hb (by first | assumption | (rw [World.cell?_drew]; assumption)), keepc hb (by first | assumption | (rw [World.cell?_drew]; assumption)), keepc hb (by first | assumption | (rw [World.cell?_drew]; assumption)), keepc hb (by first | assumption | (rw [World.cell?_drew]; assumption)), keepc hb (by first | assumption | (rw [World.cell?_drew]; assumption)), keepc hb (by first | assumption | (rw [World.cell?_drew]; assumption)), keepc hb (by first | assumption | (rw [World.cell?_drew]; assumption)), belk hb (by first | assumption | exact Below.drew (by assumption))⟩; obtain ⟨q0, q1, q2, q3, q4, q5, q6, q7, q8⟩ := HS2; clear hb))
  all_goals go_wp2
  all_goals go_ret2
  all_goals exact ⟨rfl, belk (belk (by assumption) HB5.out) HB.out⟩
end Go.Proofs.YtpbmbaffncnglaaGreatDoor.Sv
end
section
set_option linter.unusedVariables false
set_option linter.unusedSimpArgs false
/- terms of one to three numbers; lists of one and two terms -/
namespace Go.Proofs.YtpbmbaffncnglaaGreatDoor.Sv
open Go Go.RowKit Rx
set_option maxRecDepth 100000
set_option maxHeartbeats 4000000 in
theorem tChkLt (w : World) (V U C a b c : Nat) (p m o : ByteArray) (a2 b2 c2 : Nat) (p2 m2 o2 : ByteArray) (md d pd inc : Bool) (h : S3 w V U C a b c p m o a2 b2 c2 p2 m2 o2 ⟨#[60]⟩ md d pd w) (hp : p.toList.isEmpty = true) (rel : Bool) (hr : p2.toList.isEmpty = rel) :
    Calls Tryz.prog 32 #[.pointer (some ⟨C, 0, none⟩), .pointer (some ⟨V, 0, none⟩), .bool inc] w fun e w' => ∃ ev, e = .returned (.tuple #[.bool (decide (cmpRel a b c a2 b2 c2 rel < 0)), ev]) ∧ Below w.heap.size w w' := by
  have H := Lib.hid (tLt w V U C a b c p m o a2 b2 c2 p2 m2 o2 ⟨#[60]⟩ md d pd inc h hp rel hr)
  obtain ⟨q0, q1, q2, q3, q4, q5, q6, q7, q8, q9, q10, q11, q12, q13, q14, q15, q16, q17⟩ := h
  clear q0 q1 q2 q3 q4 q5 q6 q7 q8 q9 q10 q11 q12 q14 q15 q16 q17 hp hr
  generalize decide (cmpRel a b c a2 b2 c2 rel < 0) = r at *
  go_enter Tryz.func32, Tryz.ntmps32
  go_wp2_with (go_at_call 53; refine H.out.mono ?_; rintro e w1 ⟨ev, rfl, hb⟩; have HB := Lib.hid hb; clear hb)
  go_ret2
  exact ⟨_, rfl, HB.out⟩
set_option maxHeartbeats 4000000 in
theorem tChkGe (w : World) (V U C a b c : Nat) (p m o : ByteArray) (a2 b2 c2 : Nat) (p2 m2 o2 : ByteArray) (md d pd inc : Bool) (h : S3 w V U C a b c p m o a2 b2 c2 p2 m2 o2 ⟨#[62, 61]⟩ md d pd w) (hp : p.toList.isEmpty = true) (rel : Bool) (hr : p2.toList.isEmpty = rel) :
    Calls Tryz.prog 32 #[.pointer (some ⟨C, 0, none⟩), .pointer (some ⟨V, 0, none⟩), .bool inc] w fun e w' => ∃ ev, e = .returned (.tuple #[.bool (decide (0 ≤ cmpRel a b c a2 b2 c2 rel)), ev]) ∧ Below w.heap.size w w' := by
  have H := Lib.hid (tGe w V U C a b c p m o a2 b2 c2 p2 m2 o2 ⟨#[62, 61]⟩ md d pd inc h hp rel hr)
  obtain ⟨q0, q1, q2, q3, q4, q5, q6, q7, q8, q9, q10, q11, q12, q13, q14, q15, q16, q17⟩ := h
  clear q0 q1 q2 q3 q4 q5 q6 q7 q8 q9 q10 q11 q12 q14 q15 q16 q17 hp hr
  generalize decide (0 ≤ cmpRel a b c a2 b2 c2 rel) = r at *
  go_enter Tryz.func32, Tryz.ntmps32
  go_wp2_with (go_at_call 54; refine H.out.mono ?_; rintro e w1 ⟨ev, rfl, hb⟩; have HB := Lib.hid hb; clear hb)
  go_ret2
  exact ⟨_, rfl, HB.out⟩
/-! terms -/
/-- k numbers, and a wildcard behind them or none -/
def kv (k : Nat) (wild : Bool) (a b c : Nat) : Ver := match k with
  | 1 => ⟨false, Lib.decDigits a, if wild then some [120] else none, none, none, none⟩
  | 2 => ⟨false, Lib.decDigits a, some (Lib.decDigits b), if wild then some [120] else none, none, none⟩
  | _ => dv a b c
def ktm (op : Bs) (k : Nat) (wild : Bool) (a b c : Nat) : Tm := ⟨op, [], kv k wild a b c⟩
/-- the version that is compared -/
def kz (k : Nat) (a b c : Nat) : Nat × Nat × Nat := match k with
  | 1 => (a, 0, 0)
  | 2 => (a, b, 0)
  | _ => (a, b, c)
def ktd (op : Bs) (k : Nat) (wild : Bool) (a b c : Nat) : TD := match k with
  | 1 => ⟨op, (kv k wild a b c).text, true, true, false, a, 0, 0, [], [], (dv a 0 0).text⟩
  | 2 => ⟨op, (kv k wild a b c).text, false, true, true, a, b, 0, [], [], (dv a b 0).text⟩
  | _ => ⟨op, (kv k wild a b c).text, false, false, false, a, b, c, [], [], (dv a b c).text⟩
theorem x_part : okPart pB [120] := ⟨by simp, fun y hy => by
  have : y = 120 := by simpa using hy
  subst this; decide⟩
theorem dec_partP (a : Nat) : okPart pB (Lib.decDigits a) := ⟨(dec_part a).1, fun y hy => dB_pB y ((dec_part a).2 y hy)⟩
theorem kv_ok (k : Nat) (wild : Bool) (a b c : Nat) : (kv k wild a b c).Ok pB iB := by
  unfold kv
  split
  · refine ⟨dec_partP a, fun y h => ?_, fun y h => by simp at h, trivial, trivial⟩
    cases wild
    · simp at h
    · obtain rfl : [120] = y := by simpa using h
      exact x_part
  · refine ⟨dec_partP a, fun y h => ?_, fun y h => ⟨?_, by simp⟩, trivial, trivial⟩
    · obtain rfl : Lib.decDigits b = y := by simpa using h
      exact dec_partP b
    · cases wild
      · simp at h
      · obtain rfl : [120] = y := by simpa using h
        exact x_part
  · exact ok_pB (dv_ok a b c)
theorem dec0 : Lib.decDigits 0 = [48] := Lib.decDigits_one (by omega)
theorem kv_len (k : Nat) (wild : Bool) (a b c : Nat) (ha : a < 18446744073709551616) (hb : b < 18446744073709551616) (hc : c < 18446744073709551616) : (kv k wild a b c).text.length ≤ 64 := by
  have h1 := nDigits_le a ha
  have h2 := nDigits_le b hb
  have h3 := dv_len a b c ha hb hc
  unfold kv
  split
  · cases wild <;> simp [Ver.text, ptext, gtext] <;> omega
  · cases wild <;> simp [Ver.text, ptext, gtext] <;> omega
  · omega
theorem xb120 : isXb [120] = true := by decide
/-- what is read of a term -/
theorem read_k {op : Bs} (h : op ∈ opTexts) (k : Nat) (wild : Bool) (a b c : Nat) (ha : a < 18446744073709551616) (hb : b < 18446744073709551616) (hc : c < 18446744073709551616) (w : World) (hT : Lib.Utf8Tabs 11 12 w) :
    Calls Tryz.prog 31 #[.string (bytesOf (ktm op k wild a b c).text)] w fun e w' => ∃ C, e = .returned (.tuple #[ptr C, .nilIface]) ∧ w.heap.size ≤ C ∧ TDAt w' C (ktd op k wild a b c) ∧ Below w.heap.size w w' := by
  have hl := kv_len k wild a b c ha hb hc
  have ho := op_len h
  have hs : (bytesOf (ktm op k wild a b c).text).size ≤ 1000 := by rw [bytesOf_size]; simp [ktm, Tm.text]; omega
  have hok : (ktm op k wild a b c).Ok := ⟨h, fun y hy => by simp [ktm] at hy, kv_ok k wild a b c⟩
  have ht : (bytesOf (ktm op k wild a b c).text).data.toList = [] ++ ((ktm op k wild a b c).text ++ []) := by rw [bytesOf_list]; simp
  have h0 : (ktm op k wild a b c).op = [] → (ktm op k wild a b c).blank = [] := fun _ => rfl
  have r1 : Reads ((Lib.decDigits a ++ [46, 48, 46, 48]) ++ gtext 45 none) a 0 0 [] [] := by
    have e : (Lib.decDigits a ++ [46, 48, 46, 48]) ++ gtext 45 none = (dv a 0 0).text := by rw [dv_text, dec0]; simp [gtext]
    rw [e]; exact reads_dv a 0 0 ha (by decide) (by decide)
  have r2 : Reads ((Lib.decDigits a ++ 46 :: Lib.decDigits b ++ [46, 48]) ++ gtext 45 none) a b 0 [] [] := by
    have e : (Lib.decDigits a ++ 46 :: Lib.decDigits b ++ [46, 48]) ++ gtext 45 none = (dv a b 0).text := by rw [dv_text, dec0]; simp [gtext]
    rw [e]; exact reads_dv a b 0 ha hb (by decide)
  have e1 : (Lib.decDigits a ++ [46, 48, 46, 48]) ++ gtext 45 none = (dv a 0 0).text := by rw [dv_text, dec0]; simp [gtext]
  have e2 : (Lib.decDigits a ++ 46 :: Lib.decDigits b ++ [46, 48]) ++ gtext 45 none = (dv a b 0).text := by rw [dv_text, dec0]; simp [gtext]
  match k with
  | 0 =>
    refine (t44full (ktm op 0 wild a b c) (L := []) (RR := []) hs hok ht (by simp) (by simp) h0 _ _ rfl rfl (dec_noX a) (dec_noX b) (dec_noX c) a b c [] [] (reads_dv a b c ha hb hc) w hT).mono ?_
    rintro e w' ⟨C, V, rfl, h1, h2, h3, h4, h5⟩
    exact ⟨C, rfl, h1, ⟨V, h3, h4⟩, h5⟩
  | 1 =>
    cases wild
    · refine (t44b0 (ktm op 1 false a b c) (L := []) (RR := []) hs hok ht (by simp) (by simp) h0 rfl rfl (dec_noX a) a 0 0 [] [] r1 w hT).mono ?_
      rintro e w' ⟨C, V, rfl, h1, h2, h3, h4, h5⟩
      exact ⟨C, rfl, h1, ⟨V, h3, by rw [show ((ktm op 1 false a b c).ver.p1 ++ [46, 48, 46, 48] ++ gtext 45 (ktm op 1 false a b c).ver.pre) = (dv a 0 0).text from e1] at h4; exact h4⟩, h5⟩
    · refine (t44b1 (ktm op 1 true a b c) (L := []) (RR := []) hs hok ht (by simp) (by simp) h0 [120] rfl (dec_noX a) xb120 a 0 0 [] [] r1 w hT).mono ?_
      rintro e w' ⟨C, V, rfl, h1, h2, h3, h4, h5⟩
      exact ⟨C, rfl, h1, ⟨V, h3, by rw [show ((ktm op 1 true a b c).ver.p1 ++ [46, 48, 46, 48] ++ gtext 45 (ktm op 1 true a b c).ver.pre) = (dv a 0 0).text from e1] at h4; exact h4⟩, h5⟩
  | 2 =>
    cases wild
    · refine (t44c0 (ktm op 2 false a b c) (L := []) (RR := []) hs hok ht (by simp) (by simp) h0 (Lib.decDigits b) rfl rfl (dec_noX a) (dec_noX b) a b 0 [] [] r2 w hT).mono ?_
      rintro e w' ⟨C, V, rfl, h1, h2, h3, h4, h5⟩
      exact ⟨C, rfl, h1, ⟨V, h3, by rw [show ((ktm op 2 false a b c).ver.p1 ++ 46 :: Lib.decDigits b ++ [46, 48] ++ gtext 45 (ktm op 2 false a b c).ver.pre) = (dv a b 0).text from e2] at h4; exact h4⟩, h5⟩
    · refine (t44c1 (ktm op 2 true a b c) (L := []) (RR := []) hs hok ht (by simp) (by simp) h0 (Lib.decDigits b) [120] rfl rfl (dec_noX a) (dec_noX b) xb120 a b 0 [] [] r2 w hT).mono ?_
      rintro e w' ⟨C, V, rfl, h1, h2, h3, h4, h5⟩
      exact ⟨C, rfl, h1, ⟨V, h3, by rw [show ((ktm op 2 true a b c).ver.p1 ++ 46 :: Lib.decDigits b ++ [46, 48] ++ gtext 45 (ktm op 2 true a b c).ver.pre) = (dv a b 0).text from e2] at h4; exact h4⟩, h5⟩
  | k + 3 =>
    refine (t44full (ktm op (k + 3) wild a b c) (L := []) (RR := []) hs hok ht (by simp) (by simp) h0 _ _ rfl rfl (dec_noX a) (dec_noX b) (dec_noX c) a b c [] [] (reads_dv a b c ha hb hc) w hT).mono ?_
    rintro e w' ⟨C, V, rfl, h1, h2, h3, h4, h5⟩
    exact ⟨C, rfl, h1, ⟨V, h3, h4⟩, h5⟩
end Go.Proofs.YtpbmbaffncnglaaGreatDoor.Sv
end
section
set_option linter.unusedVariables false
set_option linter.unusedSimpArgs false
/- lists of terms of one to three numbers, with a comma and a blank between -/
namespace Go.Proofs.YtpbmbaffncnglaaGreatDoor.Sv
open Go Go.RowKit Rx
set_option maxRecDepth 100000
structure KT where
  op : Bs
  k : Nat
  wild : Bool
  a : Nat
  b : Nat
  c : Nat
structure KT.Ok (t : KT) : Prop where
  op : t.op ∈ opTexts
  a : t.a < 18446744073709551616
  b : t.b < 18446744073709551616
  c : t.c < 18446744073709551616
def KT.tm (t : KT) : Tm := ktm t.op t.k t.wild t.a t.b t.c
def KT.td (t : KT) : TD := ktd t.op t.k t.wild t.a t.b t.c
def sepC : Sep := ⟨[], some [32]⟩
theorem sepC_ok : sepC.Ok := by
  refine ⟨by simp [sepC], ?_, ?_⟩ <;> simp [sepC] <;> decide
def rest (l : List KT) : List (Sep × Tm) := l.map fun y => (sepC, y.tm)
theorem KT.tm_ok {t : KT} (h : t.Ok) : t.tm.Ok := ⟨h.op, fun y hy => by simp [KT.tm, ktm] at hy, kv_ok _ _ _ _ _⟩
theorem rest_ok {l : List KT} (h : ∀ t ∈ l, t.Ok) : LOk (rest l) := fun x hx => by
  obtain ⟨t, ht, rfl⟩ := List.mem_map.1 hx
  exact ⟨sepC_ok, KT.tm_ok (h t ht), fun _ => rfl⟩
theorem rest_found {l : List KT} (h : ∀ t ∈ l, t.op ≠ []) : (rest l).map (fun y => (found y).text) = l.map (fun t => t.tm.text) := by
  unfold rest
  rw [List.map_map]
  apply List.map_congr_left
  intro t ht
  have : t.tm.op ≠ [] := h t ht
  simp [found, this]
theorem gspecL (t : KT) (l : List KT) (ht : t.Ok) (hl : ∀ t ∈ l, t.Ok) (ho : ∀ t ∈ l, t.op ≠ []) (hs : (ltext t.tm (rest l)).length ≤ 1000) (hn : l.length < 1000) :
    GSpec (bytesOf (ltext t.tm (rest l))) (t.tm.text :: l.map fun t => t.tm.text) (t.td :: l.map KT.td) := by
  have hs' : (bytesOf (ltext t.tm (rest l))).size ≤ 1000 := by rw [bytesOf_size]; exact hs
  refine ⟨fun w R PB IB icap hp hr hT => ?_, fun w R PB IB icap hp hr hT => ?_, by simp, by simp, by simp; omega, fun i x td hx htd w hT => ?_⟩
  · exact validM hp hr hT hs' (B := []) (by simp) (KT.tm_ok ht) (rest_ok hl) (by rw [bytesOf_list]; simp)
  · have h := findM hp hr hT hs' (x := t.tm) (l := rest l) (KT.tm_ok ht) (rest_ok hl) (by rw [bytesOf_list])
    rw [rest_found ho] at h
    have e : (rest l).length = l.length := by simp [rest]
    rw [e] at h
    have e2 : (t.tm.text :: l.map fun t => t.tm.text).length = l.length + 1 := by simp
    rw [e2]
    exact h
  · have key : ∀ t : KT, t.Ok → Calls Tryz.prog 31 #[.string (bytesOf t.tm.text)] w fun e w' => ∃ C, e = .returned (.tuple #[ptr C, .nilIface]) ∧ w.heap.size ≤ C ∧ TDAt w' C t.td ∧ Below w.heap.size w w' :=
      fun t h => read_k h.op t.k t.wild t.a t.b t.c h.a h.b h.c w hT
    cases i with
    | zero =>
      obtain rfl : t.tm.text = x := by simpa using hx
      obtain rfl : t.td = td := by simpa using htd
      exact key t ht
    | succ i =>
      simp only [List.getElem?_cons_succ, List.getElem?_map, Option.map_eq_some_iff] at hx htd
      obtain ⟨y, h1, rfl⟩ := hx
      obtain ⟨y', h2, rfl⟩ := htd
      rw [h1] at h2
      obtain rfl := Option.some.inj h2
      exact key y (hl y (List.mem_of_getElem? h1))
theorem first_nobar {l : Bs} (h : ∀ y ∈ l, y ≠ 124) : First (bytesOf l) ⟨#[124, 124]⟩ none := by
  intro i hi
  have hs : (⟨#[124, 124]⟩ : ByteArray).size = 2 := rfl
  rw [hs, bytesOf_size] at hi
  rw [hs]
  have hl : i < l.length := by omega
  have e : ((bytesOf l).extract i (i + 2)).toList = (l.drop i).take 2 := by
    rw [extract_eq (A := l.take i) (B := (l.drop i).take 2) (C := (l.drop i).drop 2) (by rw [bytesOf_list, List.take_append_drop, List.take_append_drop]) (by simp; omega) (by simp; omega)]
    exact ByteArray.toList_mk _
  have hne := h l[i] (List.getElem_mem hl)
  have e2 : (⟨#[124, 124]⟩ : ByteArray).toList = [124, 124] := ByteArray.toList_mk [124, 124]
  rw [e, e2, List.drop_eq_getElem_cons hl, List.take_succ_cons]
  rw [beq_eq_false_iff_ne]
  intro hh
  injection hh with h1 h2
  exact hne h1
/-- NewConstraint of one list -/
theorem t31list (t : KT) (l : List KT) (ht : t.Ok) (hl : ∀ t ∈ l, t.Ok) (ho : ∀ t ∈ l, t.op ≠ []) (hs : (ltext t.tm (rest l)).length ≤ 512) (hn : l.length < 1000) (hb : ∀ y ∈ ltext t.tm (rest l), y ≠ 124) (hw : noWD (ltext t.tm (rest l)) = true) (w : World) (hT : Lib.Utf8Tabs 11 12 w) :
    Calls Tryz.prog 18 #[.string (bytesOf (ltext t.tm (rest l)))] w fun e w' => ∃ O, e = .returned (.tuple #[ptr O, .nilIface]) ∧ w.heap.size ≤ O ∧ ConsAt w' O [t.td :: l.map KT.td] false ∧ Below w.heap.size w w' := by
  have hg := gspecL t l ht hl ho (by omega) hn
  generalize ltext t.tm (rest l) = s at *
  refine t31 (bytesOf s) (by rw [bytesOf_size]; omega) (by rw [bytesOf_list]; exact hw) [bytesOf s] (.last _ (first_nobar hb)) (by simp) [t.tm.text :: l.map fun t => t.tm.text] [t.td :: l.map KT.td] rfl rfl (fun k v tx ts h1 h2 h3 => ?_) w hT
  cases k with
  | succ k => simp at h1
  | zero =>
    obtain rfl : bytesOf s = v := by simpa using h1
    obtain rfl : (t.tm.text :: l.map fun t => t.tm.text) = tx := by simpa using h2
    obtain rfl : (t.td :: l.map KT.td) = ts := by simpa using h3
    exact hg
end Go.Proofs.YtpbmbaffncnglaaGreatDoor.Sv
end
section
set_option linter.unusedVariables false
set_option linter.unusedSimpArgs false
/- CheckText of one list of terms, of a release -/
namespace Go.Proofs.YtpbmbaffncnglaaGreatDoor.Sv
open Go Go.RowKit Rx
set_option maxRecDepth 100000
/-- what a term says of a release -/
def tdR (x y z : Nat) (t : TD) : Bool :=
  if t.op = [126] then tildeR x y z t.a t.b t.c true t.md t.pd
  else if t.op = [60] then decide (cmpRel x y z t.a t.b t.c true < 0)
  else if t.op = [62, 61] then decide (0 ≤ cmpRel x y z t.a t.b t.c true)
  else caretR x y z t.a t.b t.c true t.md t.pd
theorem chk_td {t : TD} (ho : t.op = [126] ∨ t.op = [60] ∨ t.op = [62, 61] ∨ t.op = [94]) (hpre : t.pre = []) (x y z V C : Nat) (m : ByteArray) (i : Bool) (W : World) (hC : TDAt W C t) (hV : W.heap[V]? = some (vrow x y z e0 m)) :
    Calls Tryz.prog 32 #[.pointer (some ⟨C, 0, none⟩), .pointer (some ⟨V, 0, none⟩), .bool i] W fun e w' => ∃ ev, e = .returned (.tuple #[.bool (tdR x y z t), ev]) ∧ Below W.heap.size W w' := by
  obtain ⟨op, orig, md, d, pd, a, b, c, pre, me, vt⟩ := t
  simp only at ho hpre
  subst hpre
  obtain ⟨U, hc, hu⟩ := hC
  unfold ConAt at hc
  unfold VerAt at hu
  unfold vrow at hV
  have h3 : S3 W V U C x y z e0 m e0 a b c (bytesOf []) (bytesOf me) (bytesOf vt) (bytesOf op) md d pd W :=
    ⟨cell_of_row _ _ 0 _ _ _ hV, cell_of_row _ _ 1 _ _ _ hV, cell_of_row _ _ 2 _ _ _ hV, cell_of_row _ _ 3 _ _ _ hV, cell_of_row _ _ 4 _ _ _ hV, cell_of_row _ _ 5 _ _ _ hV,
      cell_of_row _ _ 0 _ _ _ hu, cell_of_row _ _ 1 _ _ _ hu, cell_of_row _ _ 2 _ _ _ hu, cell_of_row _ _ 3 _ _ _ hu, cell_of_row _ _ 4 _ _ _ hu, cell_of_row _ _ 5 _ _ _ hu,
      cell_of_row _ _ 0 _ _ _ hc, cell_of_row _ _ 2 _ _ _ hc, cell_of_row _ _ 3 _ _ _ hc, cell_of_row _ _ 4 _ _ _ hc, cell_of_row _ _ 5 _ _ _ hc, Below.refl _ _⟩
  have hp : e0.toList.isEmpty = true := by rw [show e0.toList = [] from ByteArray.toList_mk []]; rfl
  have hr : (bytesOf []).toList.isEmpty = true := by rw [bytesOf_toList]; rfl
  rcases ho with rfl | rfl | rfl | rfl
  · exact tChkTilde W V U C x y z e0 m e0 a b c _ _ _ md d pd i h3 hp true hr
  · exact tChkLt W V U C x y z e0 m e0 a b c _ _ _ md d pd i h3 hp true hr
  · exact tChkGe W V U C x y z e0 m e0 a b c _ _ _ md d pd i h3 hp true hr
  · exact tChkCaret W V U C x y z e0 m e0 a b c _ _ _ md d pd i h3 hp true hr
theorem ktd_op (op : Bs) (k : Nat) (wild : Bool) (a b c : Nat) : (ktd op k wild a b c).op = op ∧ (ktd op k wild a b c).pre = [] := by
  unfold ktd; split <;> exact ⟨rfl, rfl⟩
theorem t19list (t : KT) (l : List KT) (ht : t.Ok) (hl : ∀ t ∈ l, t.Ok) (ho : ∀ u ∈ t :: l, u.op = [126] ∨ u.op = [60] ∨ u.op = [62, 61] ∨ u.op = [94]) (hs : (ltext t.tm (rest l)).length ≤ 512) (hn : l.length < 900) (hb : ∀ y ∈ ltext t.tm (rest l), y ≠ 124) (hw : noWD (ltext t.tm (rest l)) = true)
    (x y z : Nat) (m : ByteArray) (pre : Bool) (w : World) (hT : Lib.Utf8Tabs 11 12 w) :
    Calls Tryz.prog 14 #[.string (bytesOf (ltext t.tm (rest l))), iv x y z e0 m, .bool pre] w fun e w' => e = .returned (.tuple #[.bool ((t :: l).all fun u => tdR x y z u.td), .bool true]) ∧ Below w.heap.size w w' := by
  have h := t19 (s := bytesOf (ltext t.tm (rest l))) (gs := [t.td :: l.map KT.td]) (a := x) (b := y) (c := z) (p := e0) (m := m) (pre := pre) (fun u _ => tdR x y z u)
    (fun w hT => t31list t l ht hl (fun u hu => by
      have := ho u (List.mem_cons_of_mem _ hu)
      rcases this with h | h | h | h <;> rw [h] <;> simp) hs (by omega) hb hw w hT)
    (fun ts hts u hu V C i W h1 h2 => by
      have e1 : ts = t.td :: l.map KT.td := by simpa using hts
      subst e1
      have e2 : u ∈ (t :: l).map KT.td := by simpa using hu
      obtain ⟨v, hv, rfl⟩ := List.mem_map.1 e2
      have hop := ktd_op v.op v.k v.wild v.a v.b v.c
      exact chk_td (t := v.td) (by have := ho v hv; unfold KT.td; rw [hop.1]; exact this) hop.2 x y z V C m i W h1 h2) (by simp) (fun ts hts => by
      have e1 : ts = t.td :: l.map KT.td := by simpa using hts
      subst e1
      simp; omega) w hT
  have e : ([t.td :: l.map KT.td].any fun ts => ts.all fun u => tdR x y z u) = ((t :: l).all fun u => tdR x y z u.td) := by
    simp [List.all_map, Function.comp_def]
  rw [e] at h
  exact h
end Go.Proofs.YtpbmbaffncnglaaGreatDoor.Sv
end
section
set_option linter.unusedVariables false
set_option linter.unusedSimpArgs false
/- the two texts, and that they say the same -/
namespace Go.Proofs.YtpbmbaffncnglaaGreatDoor.Sv
open Go Go.RowKit Rx
set_option maxRecDepth 100000
theorem bOf_eq (l : Bs) : bytesOf l = bOf l := rfl
def fine (l : Bs) : Prop := ∀ y ∈ l, y ≠ 45 ∧ y ≠ 124
theorem fine.noWD : ∀ {l : Bs}, fine l → noWD l = true
  | [], _ => rfl
  | [_], _ => rfl
  | x :: y :: l, h => by
    have h1 : (y == 45) = false := by simpa using (h y (by simp)).1
    have h2 := fine.noWD (l := y :: l) fun z hz => h z (List.mem_cons_of_mem _ hz)
    simp [Rx.noWD, h1, h2]
theorem fine_dec (a : Nat) : fine (Lib.decDigits a) := fun y hy => by
  have h := (dec_part a).2 y hy
  constructor <;> (intro e; subst e; revert h; decide)
theorem fine.app {a b : Bs} (h : fine a) (h' : fine b) : fine (a ++ b) := fun y hy => by
  rcases List.mem_append.1 hy with h1 | h1
  · exact h y h1
  · exact h' y h1
theorem fine.cons {x : UInt8} {b : Bs} (h1 : x ≠ 45) (h2 : x ≠ 124) (h' : fine b) : fine (x :: b) := fun y hy => by
  rcases List.mem_cons.1 hy with rfl | h
  · exact ⟨h1, h2⟩
  · exact h' y h
theorem fine_nil : fine [] := fun y hy => by cases hy
theorem fine_low (k a b c : Nat) : fine (low k a b c) := by
  unfold low
  split
  · exact fine_dec a
  · exact (fine_dec a).app ((fine_dec b).cons (by decide) (by decide))
  · exact (fine_dec a).app (((fine_dec b).app ((fine_dec c).cons (by decide) (by decide))).cons (by decide) (by decide))
def wx (k : Nat) (wild : Bool) : Bs := if wild && decide (k < 3) then [46, 120] else []
def hi (k a b : Nat) : Bs := if k = 1 then Lib.decDigits (a + 1) else Lib.decDigits a ++ 46 :: Lib.decDigits (b + 1)
def A1 (k : Nat) (wild : Bool) (a b c : Nat) : KT := ⟨[126], k, wild, a, b, c⟩
def G1' (k a b c : Nat) : KT := ⟨[62, 61], k, false, a, b, c⟩
def L1 (k a b : Nat) : KT := if k = 1 then ⟨[60], 1, false, a + 1, 0, 0⟩ else ⟨[60], 2, false, a, b + 1, 0⟩
theorem textA (k : Nat) (hk : k = 1 ∨ k = 2 ∨ k = 3) (wild : Bool) (a b c : Nat) : ltext (A1 k wild a b c).tm (rest []) = 126 :: (low k a b c ++ wx k wild) := by
  rcases hk with rfl | rfl | rfl <;> cases wild <;> simp [ltext, ltail, rest, KT.tm, A1, ktm, Tm.text, kv, Ver.text, ptext, gtext, low, wx, dv]
theorem textG (k : Nat) (hk : k = 1 ∨ k = 2 ∨ k = 3) (a b c : Nat) : ltext (G1' k a b c).tm (rest [L1 k a b]) = 62 :: 61 :: (low k a b c ++ 44 :: 32 :: 60 :: hi k a b) := by
  rcases hk with rfl | rfl | rfl <;> simp [ltext, ltail, rest, KT.tm, G1', L1, ktm, Tm.text, kv, Ver.text, ptext, gtext, low, hi, dv, Sep.text, sepC, ctext]
theorem low_len (k a b c : Nat) (ha : a < 18446744073709551616) (hb : b < 18446744073709551616) (hc : c < 18446744073709551616) : (low k a b c).length ≤ 62 := by
  have h1 := dec_len a ha
  have h2 := dec_len b hb
  have h3 := dec_len c hc
  unfold low
  split <;> simp <;> omega
theorem hi_len (k a b : Nat) (ha : a + 1 < 18446744073709551616) (hb : k = 1 ∨ b + 1 < 18446744073709551616) : (hi k a b).length ≤ 41 := by
  have h1 := dec_len (a + 1) ha
  have h4 := dec_len a (by omega)
  unfold hi
  split
  · omega
  · have h2 := dec_len (b + 1) (by omega)
    simp; omega
theorem fine_hi (k a b : Nat) : fine (hi k a b) := by
  unfold hi
  split
  · exact fine_dec _
  · exact (fine_dec a).app ((fine_dec _).cons (by decide) (by decide))
theorem fine_wx (k : Nat) (wild : Bool) : fine (wx k wild) := by
  unfold wx
  split
  · exact fine_nil.cons (x := 120) (by decide) (by decide) |>.cons (x := 46) (by decide) (by decide)
  · exact fine_nil
def rA (k : Nat) (wild : Bool) (a b c x y z : Nat) : Bool := tdR x y z (A1 k wild a b c).td
def rG (k a b c x y z : Nat) : Bool := tdR x y z (G1' k a b c).td && tdR x y z (L1 k a b).td
theorem chkA (k : Nat) (hk : k = 1 ∨ k = 2 ∨ k = 3) (wild : Bool) (a b c x y z : Nat) (m : ByteArray) (pre : Bool) (ha : a < 18446744073709551616) (hb : b < 18446744073709551616) (hc : c < 18446744073709551616) (w : World) (hT : Lib.Utf8Tabs 11 12 w) :
    Calls Tryz.prog 14 #[.string (bOf (126 :: (low k a b c ++ wx k wild))), iv x y z e0 m, .bool pre] w fun e w' => e = .returned (.tuple #[.bool (rA k wild a b c x y z), .bool true]) ∧ Below w.heap.size w w' := by
  have e := textA k hk wild a b c
  have hl : (126 :: (low k a b c ++ wx k wild)).length ≤ 512 := by
    have := low_len k a b c ha hb hc
    have : (wx k wild).length ≤ 2 := by unfold wx; split <;> simp
    simp; omega
  have hf : fine (126 :: (low k a b c ++ wx k wild)) := ((fine_low k a b c).app (fine_wx k wild)).cons (by decide) (by decide)
  rw [← bOf_eq, ← e]
  rw [← e] at hl hf
  refine (t19list (A1 k wild a b c) [] ⟨by simp [A1, opTexts], ha, hb, hc⟩ (by simp) (by simp [A1]) hl (by simp) (fun y hy => (hf y hy).2) hf.noWD x y z m pre w hT).mono ?_
  rintro e w' ⟨rfl, h⟩
  exact ⟨by simp [rA], h⟩
theorem chkG (k : Nat) (hk : k = 1 ∨ k = 2 ∨ k = 3) (a b c x y z : Nat) (m : ByteArray) (pre : Bool) (ha : a + 1 < 18446744073709551616) (hb : b < 18446744073709551616) (hb1 : k = 1 ∨ b + 1 < 18446744073709551616) (hc : c < 18446744073709551616) (w : World) (hT : Lib.Utf8Tabs 11 12 w) :
    Calls Tryz.prog 14 #[.string (bOf (62 :: 61 :: (low k a b c ++ 44 :: 32 :: 60 :: hi k a b))), iv x y z e0 m, .bool pre] w fun e w' => e = .returned (.tuple #[.bool (rG k a b c x y z), .bool true]) ∧ Below w.heap.size w w' := by
  have e := textG k hk a b c
  have hl : (62 :: 61 :: (low k a b c ++ 44 :: 32 :: 60 :: hi k a b)).length ≤ 512 := by
    have := low_len k a b c (by omega) hb hc
    have := hi_len k a b ha hb1
    simp; omega
  have hf : fine (62 :: 61 :: (low k a b c ++ 44 :: 32 :: 60 :: hi k a b)) := (((fine_low k a b c).app ((((fine_hi k a b).cons (by decide) (by decide)).cons (by decide) (by decide)).cons (by decide) (by decide))).cons (by decide) (by decide)).cons (by decide) (by decide)
  rw [← bOf_eq, ← e]
  rw [← e] at hl hf
  have hL : (L1 k a b).Ok := by
    unfold L1
    split
    · exact ⟨by simp [opTexts], ha, by simp, by simp⟩
    · exact ⟨by simp [opTexts], by simp; omega, by simp; omega, by simp⟩
  have hLo : (L1 k a b).op = [60] := by unfold L1; split <;> rfl
  refine (t19list (G1' k a b c) [L1 k a b] ⟨by simp [G1', opTexts], by simp [G1']; omega, hb, hc⟩ (by simpa using hL) (by simp [G1', hLo]) hl (by simp) (fun y hy => (hf y hy).2) hf.noWD x y z m pre w hT).mono ?_
  rintro e w' ⟨rfl, h⟩
  exact ⟨by simp [rG], h⟩
/-- the order of three numbers -/
theorem cmp_neg (x y z a b c : Nat) : cmpRel x y z a b c true < 0 ↔ (x < a ∨ (x = a ∧ (y < b ∨ (y = b ∧ z < c)))) := by
  unfold cmpRel seg
  repeat' split
  all_goals simp_all
  all_goals omega
theorem cmp_nn (x y z a b c : Nat) : 0 ≤ cmpRel x y z a b c true ↔ ¬ (x < a ∨ (x = a ∧ (y < b ∨ (y = b ∧ z < c)))) := by
  rw [← cmp_neg]; omega
/-- THE PLAIN LAW -/
theorem law_plain (k : Nat) (hk : k = 1 ∨ k = 2 ∨ k = 3) (wild : Bool) (a b c x y z : Nat) (h0 : k = 3 → ¬ (a = 0 ∧ b = 0 ∧ c = 0)) : rA k wild a b c x y z = rG k a b c x y z := by
  rw [Bool.eq_iff_iff]
  rcases hk with rfl | rfl | rfl
  · simp [rA, rG, tdR, A1, G1', L1, KT.td, ktd, tildeR, cmp_neg, cmp_nn, -Bool.forall_bool]
    omega
  · simp [rA, rG, tdR, A1, G1', L1, KT.td, ktd, tildeR, cmp_neg, cmp_nn, -Bool.forall_bool]
    omega
  · have h1 := h0 rfl
    simp [rA, rG, tdR, A1, G1', L1, KT.td, ktd, tildeR, cmp_neg, cmp_nn, -Bool.forall_bool]
    omega
end Go.Proofs.YtpbmbaffncnglaaGreatDoor.Sv
end
section
set_option linter.unusedVariables false
set_option linter.unusedSimpArgs false
/- two constraints that say the same -/
namespace Go.Proofs.YtpbmbaffncnglaaGreatDoor.Sv
open Go Go.RowKit Rx
set_option maxRecDepth 100000
set_option maxHeartbeats 1000000 in
theorem j10 (s1 s2 : ByteArray) (x y z : Nat) (m : ByteArray) (pre r : Bool)
    (H1 : ∀ w, Lib.Utf8Tabs 11 12 w → Calls Tryz.prog 14 #[.string s1, iv x y z e0 m, .bool pre] w fun e w' => e = .returned (.tuple #[.bool r, .bool true]) ∧ Below w.heap.size w w')
    (H2 : ∀ w, Lib.Utf8Tabs 11 12 w → Calls Tryz.prog 14 #[.string s2, iv x y z e0 m, .bool pre] w fun e w' => e = .returned (.tuple #[.bool r, .bool true]) ∧ Below w.heap.size w w')
    (w : World) (hT : Lib.Utf8Tabs 11 12 w) :
    Calls Tryz.prog 10 #[.string s1, .string s2, iv x y z e0 m, .bool pre] w fun e w' => e = .returned (.bool true) ∧ Below w.heap.size w w' := by
  have hal := Lib.hid ((Below.refl _ w).alloc (Nat.le_refl _) (.cells #[.int .u64 x, .int .u64 y, .int .u64 z, .string e0, .string m] 24))
  have HT := Lib.hid hT
  have K1 := fun w h => Lib.hid (H1 w h)
  have K2 := fun w h => Lib.hid (H2 w h)
  clear hT H1 H2
  unfold iv at *
  go_enter Tryz.func10, Tryz.ntmps10
  go_upto_region 2 with (go_at_call 14; refine (K1 _ (Utf8Tabs_below HT.out hal.out)).out.mono ?_; rintro e w1 ⟨rfl, hb⟩; have HB := Lib.hid (hal.out.trans (hb.mono hal.out.size)); obtain ⟨hc, hf⟩ := bcell hb; clear hb)
  go_upto_region 3 with (go_at_call 14; refine (K2 _ (Utf8Tabs_below HT.out HB.out)).out.mono ?_; rintro e w2 ⟨rfl, hb⟩; have HB2 := Lib.hid (HB.out.trans (hb.mono HB.out.size)); clear hb)
  cases r
  · go_wp2
    go_ret
    exact ⟨rfl, HB2.out⟩
  · go_wp2
    go_ret
    exact ⟨rfl, HB2.out⟩
end Go.Proofs.YtpbmbaffncnglaaGreatDoor.Sv
end
