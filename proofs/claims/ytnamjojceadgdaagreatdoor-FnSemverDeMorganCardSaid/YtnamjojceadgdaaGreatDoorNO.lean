/- FnSemverDeMorgan: for every list of terms, every style and every version the law's function returns true and leaves its arguments as they were. No condition is added: the statement is the given one, the tied card. -/
import Derived.Test.YtnamjojceadgdaaGreatDoorNN
import Derived.Test.YtnamjojceadgdaaGreatDoorNK
import Derived.Test.YtnamjojceadgdaaGreatDoorNL
import Derived.Test.YtnamjojceadgdaaGreatDoorNC
import Derived.Deep.CutRange
import Derived.Test.YtnamjojceadgdaaGreatDoorNF
import Derived.Test.YtnamjojceadgdaaGreatDoorNG
import Derived.WalkKit
import Derived.ProofKit
import Derived.OpenShut
import Derived.ChangeOld
import Derived.SizedLaws
import Derived.Lib.SmallJoins
import Derived.Deep.Grids
import Derived.Stop.Joined
import Derived.Test.YtnamjojceadgdaaGreatDoorRows
import Derived.Test.YtnamjojceadgdaaGreatDoorCards
import Derived.Test.YtnamjojceadgdaaGreatDoorTie
import Derived.ShutString
import Derived.Below
import Derived.ChangeMaps5
import Derived.LaidMore
import Derived.Lay
import Derived.SevenTiedAt
import Derived.Lib.LaidU8
section
set_option linter.unusedVariables false
set_option linter.unusedSimpArgs false
/- ConstraintTexts, ConstraintText -/
namespace Go.Proofs.YtnamjojceadgdaaGreatDoor.Sv
open Go Go.RowKit Rx
set_option maxRecDepth 100000
def edgeB (b : Bs) : Prop := b = [] ∨ b = [32]
/-- a list of terms in one of its ways, a blank or none about it -/
structure GLOfE (l : List TV) (g : GL) : Prop where
  B : edgeB g.B
  R : edgeB g.R
  len : l.length = g.l.length + 1
  t : ∀ (i : Nat) (t : TV) (q : GT), l[i]? = some t → (g.t :: g.l.map (·.2))[i]? = some q → GTOf t q
  s : ∀ y ∈ g.l, sepB y.1
theorem GLOf.edge {l : List TV} {g : GL} (h : GLOf l g) {b : Bs} (hb : edgeB b) : GLOfE l { g with B := b } := ⟨hb, by rw [h.R]; exact .inl rfl, h.len, h.t, h.s⟩
theorem GLOfE.setR {l : List TV} {g : GL} (h : GLOfE l g) {r : Bs} (hr : edgeB r) : GLOfE l { g with R := r } := ⟨h.B, hr, h.len, h.t, h.s⟩
/-- a constraint in one of its ways -/
structure COf (C : List (List TV)) (G : List GL) : Prop where
  len : C.length = G.length
  g : ∀ (i : Nat) (r : List TV) (g : GL), C[i]? = some r → G[i]? = some g → GLOfE r g
theorem COf.snoc {C : List (List TV)} {G : List GL} (h : COf C G) {r : List TV} {g : GL} (hg : GLOfE r g) : COf (C ++ [r]) (G ++ [g]) := by
  refine ⟨by simp [h.len], fun i r' g' h1 h2 => ?_⟩
  by_cases hi : i < C.length
  · rw [List.getElem?_append_left hi] at h1
    rw [List.getElem?_append_left (by have := h.len; omega)] at h2
    exact h.g i r' g' h1 h2
  · have hi2 : i = C.length := by
      have := (List.getElem?_eq_some_iff.1 h1).1
      simp at this; omega
    subst hi2
    obtain rfl : r = r' := by simpa using h1
    rw [h.len] at h2
    obtain rfl : g = g' := by simpa using h2
    exact hg
theorem COf.setR {C : List (List TV)} {G0 : List GL} {gl : GL} (h : COf C (G0 ++ [gl])) {r : Bs} (hr : edgeB r) : COf C (G0 ++ [{ gl with R := r }]) := by
  refine ⟨by rw [h.len]; simp, fun i r' g' h1 h2 => ?_⟩
  by_cases hi : i < G0.length
  · rw [List.getElem?_append_left hi] at h2
    exact h.g i r' g' h1 (by rw [List.getElem?_append_left hi]; exact h2)
  · have hi2 : i = G0.length := by
      have := (List.getElem?_eq_some_iff.1 h2).1
      simp at this; omega
    subst hi2
    obtain rfl : { gl with R := r } = g' := by simpa using h2
    exact (h.g _ r' gl h1 (by simp)).setR hr
theorem barred_snoc (l : List Bs) (x y : Bs) : barred (l ++ [x, y]) = barred (l ++ [x]) ++ (124 :: 124 :: y) := by
  induction l with
  | nil => simp [barred]
  | cons z l ih =>
    cases l with
    | nil => simp [barred]
    | cons z2 l => simp only [List.cons_append, barred] at ih ⊢; rw [ih]; simp
theorem barred_app (l : List Bs) (x r : Bs) : barred (l ++ [x ++ r]) = barred (l ++ [x]) ++ r := by
  induction l with
  | nil => simp [barred]
  | cons z l ih =>
    cases l with
    | nil => simp [barred]
    | cons z2 l => simp only [List.cons_append, barred] at ih ⊢; rw [ih]; simp
theorem ctext_step (G0 : List GL) (gl g : GL) (r b : Bs) (hR : gl.R = []) (hB : g.B = []) : ctextOf (G0 ++ [{ gl with R := r }] ++ [{ g with B := b }]) = ctextOf (G0 ++ [gl]) ++ (r ++ (124 :: 124 :: b) ++ g.text) := by
  have e1 : ({ gl with R := r } : GL).text = gl.text ++ r := by simp [GL.text, GL.rest, GL.hd, hR]
  have e2 : ({ g with B := b } : GL).text = b ++ g.text := by simp [GL.text, GL.rest, GL.hd, hB, ltail, Sep.text, ctext]
  unfold ctextOf
  have e3 : (G0 ++ [{ gl with R := r }] ++ [{ g with B := b }]).map GL.text = G0.map GL.text ++ [gl.text ++ r, b ++ g.text] := by simp [e1, e2]
  rw [e3, barred_snoc, barred_app]
  simp
theorem ctext_one (g : GL) : ctextOf [g] = g.text := rfl
/-- the text so far -/
def CTx (C : List (List TV)) (k : Nat) (X : Bs) : Prop := (k = 0 ∧ X = []) ∨ (0 < k ∧ ∃ G0 gl, COf (C.take k) (G0 ++ [gl]) ∧ gl.R = [] ∧ X = ctextOf (G0 ++ [gl]))
def barrow : Obj := .cells #[.string ⟨#[32, 124, 124, 32]⟩, .string ⟨#[124, 124]⟩, .string ⟨#[32, 124, 124]⟩, .string ⟨#[124, 124, 32]⟩] 9 (0, 0)
theorem bar4cell {W : World} {P q : Nat} (h : W.heap[P]? = some barrow) (hq : q < 4) : ∃ r b : Bs, edgeB r ∧ edgeB b ∧ W.cell? ⟨P, q, none⟩ = some (.string (bytesOf (r ++ (124 :: 124 :: b)))) := by
  have h' : q = 0 ∨ q = 1 ∨ q = 2 ∨ q = 3 := by omega
  unfold barrow at h
  rcases h' with rfl | rfl | rfl | rfl
  · exact ⟨[32], [32], .inr rfl, .inr rfl, cell_of_row _ _ _ _ _ _ h⟩
  · exact ⟨[], [], .inl rfl, .inl rfl, cell_of_row _ _ _ _ _ _ h⟩
  · exact ⟨[32], [], .inr rfl, .inl rfl, cell_of_row _ _ _ _ _ _ h⟩
  · exact ⟨[], [32], .inl rfl, .inr rfl, cell_of_row _ _ _ _ _ _ h⟩
theorem edgeB.len {b : Bs} (h : edgeB b) : b.length ≤ 1 := by rcases h with rfl | rfl <;> decide
theorem edgeB.ws {b : Bs} (h : edgeB b) : ∀ y ∈ b, ws y = true := by rcases h with rfl | rfl <;> decide
set_option maxHeartbeats 8000000 in
theorem m10 (v : Value) (C : List (List TV)) (n : Nat) (x : Int) (w : World) (hr : ConIn n w v C) (hn : n ≤ w.heap.size) (hne : C ≠ []) (hl : C.length ≤ 1000) (hg : ∀ r ∈ C, r ≠ [] ∧ r.length ≤ 1000 ∧ ∀ t ∈ r, t.Good ∧ t.Fit) :
    Calls Tryz.prog 23 #[v, .int .u64 x] w fun e w' => ∃ (G : List GL) (T : Bs), e = .returned (.tuple #[.string (bytesOf (ctextOf G)), .string (bytesOf T)]) ∧ COf C G ∧ (ctextOf G).length ≤ 2147483800004000 ∧ Below w.heap.size w w' := by
  obtain ⟨a, cap, rfl, hc⟩ := hr
  have HC := Lib.hid (And.intro hc (And.intro hn (And.intro hne hg)))
  clear hc hn hne hg
  have hlen : (C.length : Int) ≤ 1000 := by omega
  have HM0 := Lib.hid (m16 x w)
  go_enter Tryz.func23, Tryz.ntmps23
  go_upto_region 2 with (go_at_call 38; refine HM0.out.mono ?_; rintro e w1 ⟨rfl, hw1⟩; have HW1 := Lib.hid hw1; clear hw1)
  have hS := heap_alloc_new w (.cells #[.int .u64 x] 116 (0, 0))
  rw [← show w1 = _ from HW1.out] at hS
  have hb1 : Below w.heap.size w w1 := by rw [HW1.out]; exact (Below.refl _ _).alloc (Nat.le_refl _) _
  obtain ⟨S, hSS⟩ : ∃ S, S = w.heap.size := ⟨_, rfl⟩
  rw [← hSS] at hS ⊢
  have HSS := Lib.hid hSS
  have H0 : ST w1 S w1 := ⟨⟨x, hS⟩, Below.refl _ _, Nat.le_refl _, (Array.getElem?_eq_some_iff.1 hS).1⟩
  have H00 := Lib.hid (And.intro H0 (show Below S w w1 by rw [hSS]; exact hb1))
  clear hSS hS hb1 HW1 HM0 H0
  go_wp2
  go_loopw [4, 5, 15] (fun xv tv kv W => ∃ (k : Nat) (X T : Bs), kv = .int .i64 k ∧ xv = .string (bytesOf X) ∧ tv = .string (bytesOf T) ∧ k ≤ C.length ∧ Hid (CTx C k X ∧ X.length ≤ k * 2147483800004 ∧ T.length ≤ k * 2147483800004 ∧ ST w1 S W)) (fun _ _ kv _ => 3000 - (intOf kv).toNat)
  case atStart => exact ⟨0, [], [], rfl, rfl, rfl, Nat.zero_le _, Lib.hid ⟨.inl ⟨rfl, rfl⟩, by simp, by simp, H00.out.1⟩⟩
  case round =>
    obtain ⟨k, X, T, rfl, rfl, rfl, hk, HW⟩ := hrel
    by_cases c : k < C.length
    · have c1 : (k : Int) < (C.length : Int) := by omega
      obtain ⟨r, hr⟩ : ∃ r, C[k]? = some r := ⟨_, List.getElem?_eq_getElem c⟩
      obtain ⟨B, off, u, rfl, hB, hq, hrow0⟩ := HC.out.1 k r hr
      have hnS : n ≤ S := by have := HC.out.2.1; have := HSS.out; omega
      have hbw : Below n w wr := (H00.out.2.mono hnS).trans (HW.out.2.2.2.b.mono hnS)
      have q0 : wr.cell? ⟨B, off + k, none⟩ = some u := (hbw.cell (p := ⟨B, off + k, none⟩) hB).trans hq
      have hgr := HC.out.2.2.2 r (List.mem_of_getElem? hr)
      have H18 := Lib.hid (fun S x W (hb : Below n wr W) (hnS : n ≤ S) (hS : W.heap[S]? = some (.cells #[.int .u64 x] 116 (0, 0))) => m18 u r n S x W (hrow0.keep (hbw.trans hb)) hnS hgr.1 hgr.2.1 hgr.2.2 hS)
      have HT := Lib.hid (And.intro hr hgr)
      have HBW := Lib.hid (And.intro hbw hnS)
      obtain ⟨ua, uc, hu, -⟩ := hrow0
      subst hu
      clear hr hgr hq hbw hnS
      have zX : (bytesOf X).size ≤ k * 2147483800004 := by rw [bytesOf_size]; exact HW.out.2.1
      have zT : (bytesOf T).size ≤ k * 2147483800004 := by rw [bytesOf_size]; exact HW.out.2.2.1
      rcases Nat.eq_zero_or_pos k with rfl | hk0
      · obtain ⟨x1, hx1⟩ := HW.out.2.2.2.s
        have HM := Lib.hid (H18.out S x1 wr (Below.refl _ _) HBW.out.2 hx1)
        have HB := Lib.hid HW.out.2.2.2
        clear hx1
        rw [Nat.add_zero] at q0
        have zX1 : (bytesOf X).size ≤ 3 := by omega
        have zT1 : (bytesOf T).size ≤ 3 := by omega
        clear zX zT
        go_upto_region 9 with (go_at_call 40; refine HM.out.mono ?_; rintro e w4 ⟨g, T2, rfl, hq, hl1, hl2, hb, hs⟩; have H4 := HB.out.step hb hs; have hrl : r.length ≤ 1000 := HT.out.2.2.1; have zq : (bytesOf g.text).size ≤ 2147483800000 := (by rw [bytesOf_size]; omega); have zT2 : (bytesOf T2).size ≤ 2147483800000 := (by rw [bytesOf_size]; omega); have HF := Lib.hid (And.intro hq H4); clear hq hl1 hl2 hb hs H4)
        go_wp2
        go_roundw
        case measure => simp [intOf]
        case rel =>
          have hX : X = [] := by rcases HW.out.1 with ⟨-, h⟩ | ⟨h, -⟩; exact h; omega
          have hT0 : T = [] := by have := HW.out.2.2.1; simpa using this
          obtain ⟨z1, z2⟩ := HF.out
          refine ⟨1, g.text, T2, rfl, ?_, ?_, by omega, Lib.hid ⟨.inr ⟨by omega, [], g, ?_, z1.R, (ctext_one g).symm⟩, by rw [bytesOf_size] at zq; omega, by rw [bytesOf_size] at zT2; omega, z2⟩⟩
          · rw [hX, bytes_add]; rfl
          · rw [hT0, bytes_add]; rfl
          · have : C.take 1 = [] ++ [r] := by rw [List.take_succ_eq_append_getElem c]; have := HT.out.1; simp [List.getElem?_eq_getElem c] at this; simp [this]
            rw [this]
            exact COf.snoc ⟨rfl, fun i r g h => by simp at h⟩ ⟨by rw [z1.B]; exact .inl rfl, by rw [z1.R]; exact .inl rfl, z1.len, z1.t, z1.s⟩
      · have c2 : (0 : Int) < (k : Int) := by omega
        go_upto_region 6 with fail
        have H1 := HW.out.2.2.2
        have H2 := H1.keep ((Below.refl _ _).alloc (Nat.le_refl _) barrow)
        have hrow := heap_alloc_new wr barrow
        have hP2 : wr.heap.size ≠ S := by have := H1.l; omega
        obtain ⟨x1, hx1⟩ := H2.s
        have hb2 : Below n wr (wr.alloc barrow) := (Below.refl _ wr).alloc (by have := H1.l; have := HBW.out.2; omega) _
        have hb3 : ∀ y : Int, Below n wr ((wr.alloc barrow).setCell ⟨S, 0, none⟩ (.int .u64 y)) := fun y => hb2.setCell (p := ⟨S, 0, none⟩) HBW.out.2 _
        unfold barrow at H2 hrow hx1 hb3
        have HPT := Lib.hid (fun y => And.intro (H2.put y) (hb3 y))
        have HRW := Lib.hid (fun y : Int => (show ((wr.alloc (.cells #[.string ⟨#[32, 124, 124, 32]⟩, .string ⟨#[124, 124]⟩, .string ⟨#[32, 124, 124]⟩, .string ⟨#[124, 124, 32]⟩] 9)).setCell ⟨S, 0, none⟩ (.int .u64 y)).heap[wr.heap.size]? = (wr.alloc (.cells #[.string ⟨#[32, 124, 124, 32]⟩, .string ⟨#[124, 124]⟩, .string ⟨#[32, 124, 124]⟩, .string ⟨#[124, 124, 32]⟩] 9)).heap[wr.heap.size]? from heap_setCell_other _ _ _ _ hP2).trans hrow)
        have HM2 := Lib.hid (m17 S x1 4 (by omega) (by omega) _ hx1)
        clear H1 H2 hrow hx1 hb2 hb3
        go_upto_region 7 with (go_at_call 39; refine HM2.out.mono ?_; rintro e w3 ⟨q, y, rfl, hq, hw⟩; have H2 := HPT.out y; have hr2 := HRW.out y; rw [← hw] at H2 hr2; obtain ⟨br, bb, hbr, hbb, hm⟩ := bar4cell hr2 hq; have hqi : (q : Int) < 4 := (by omega); have zm : (bytesOf (br ++ (124 :: 124 :: bb))).size ≤ 4 := (by rw [bytesOf_size]; have := hbr.len; have := hbb.len; simp; omega); have HMB := Lib.hid (And.intro hbr hbb); clear hw hr2 hbr hbb)
        obtain ⟨M, hM⟩ : ∃ M, M = br ++ (124 :: 124 :: bb) := ⟨_, rfl⟩
        rw [← hM] at hm zm ⊢
        have HMM := Lib.hid hM
        obtain ⟨x3, hx3⟩ := H2.1.s
        have HM := Lib.hid (H18.out S x3 w3 H2.2 HBW.out.2 hx3)
        have HB := Lib.hid H2.1
        clear hx3 H2 HPT HRW HM2 hM
        go_upto_region 9 with (go_at_call 40; refine HM.out.mono ?_; rintro e w4 ⟨g, T2, rfl, hq, hl1, hl2, hb, hs⟩; have H4 := HB.out.step hb hs; have hrl : r.length ≤ 1000 := HT.out.2.2.1; have zq : (bytesOf g.text).size ≤ 2147483800000 := (by rw [bytesOf_size]; omega); have zT2 : (bytesOf T2).size ≤ 2147483800000 := (by rw [bytesOf_size]; omega); have HF := Lib.hid (And.intro hq H4); clear hq hl1 hl2 hb hs H4)
        have zXm : (bytesOf X ++ bytesOf M).size ≤ k * 2147483800004 + 4 := by rw [ByteArray.size_append]; omega
        have zTm : (bytesOf T ++ ⟨#[32, 124, 124, 32]⟩).size ≤ k * 2147483800004 + 4 := by rw [ByteArray.size_append]; have : (⟨#[32, 124, 124, 32]⟩ : ByteArray).size = 4 := rfl; omega
        go_wp2
        go_roundw
        case measure => simp [intOf]; omega
        case rel =>
          obtain ⟨z1, z2⟩ := HF.out
          rcases HW.out.1 with ⟨h, -⟩ | ⟨-, G0, gl, hg1, hR, hg2⟩
          · omega
          · refine ⟨k + 1, X ++ (M ++ g.text), T ++ ([32, 124, 124, 32] ++ T2), by simp, ?_, ?_, by omega, Lib.hid ⟨.inr ⟨by omega, G0 ++ [{ gl with R := br }], { g with B := bb }, ?_, z1.R, ?_⟩, ?_, ?_, z2⟩⟩
            · simp only [← bytes_add, ByteArray.append_assoc]
            · rw [show (⟨#[32, 124, 124, 32]⟩ : ByteArray) = bytesOf [32, 124, 124, 32] from rfl]; simp only [← bytes_add, ByteArray.append_assoc]
            · have : C.take (k + 1) = C.take k ++ [r] := by rw [List.take_succ_eq_append_getElem c]; have := HT.out.1; simp [List.getElem?_eq_getElem c] at this; simp [this]
              rw [this]
              exact (hg1.setR HMB.out.1).snoc (z1.edge HMB.out.2)
            · rw [hg2, ctext_step G0 gl g br bb hR z1.B, HMM.out]
            · rw [bytesOf_size] at zX zm zq; simp; omega
            · rw [bytesOf_size] at zT zT2; simp; omega
    · have hkn : k = C.length := by omega
      subst hkn
      go_wp2
      go_ret2
      rcases HW.out.1 with ⟨h, -⟩ | ⟨-, G0, gl, hg1, hR, hg2⟩
      · exact absurd (List.length_eq_zero_iff.1 h) HC.out.2.2.1
      · rw [List.take_length] at hg1
        refine ⟨G0 ++ [gl], T, by rw [hg2]; rfl, hg1, by rw [← hg2]; have := HW.out.2.1; omega, ?_⟩
        have h1 := H00.out.2
        have h2 := HW.out.2.2.2.b
        rw [HSS.out] at h1 h2
        exact h1.trans h2
theorem m6 (v : Value) (C : List (List TV)) (n : Nat) (x : Int) (w : World) (hr : ConIn n w v C) (hn : n ≤ w.heap.size) (hne : C ≠ []) (hl : C.length ≤ 1000) (hg : ∀ r ∈ C, r ≠ [] ∧ r.length ≤ 1000 ∧ ∀ t ∈ r, t.Good ∧ t.Fit) :
    Calls Tryz.prog 15 #[v, .int .u64 x] w fun e w' => ∃ (G : List GL), e = .returned (.string (bytesOf (ctextOf G))) ∧ COf C G ∧ (ctextOf G).length ≤ 2147483800004000 ∧ Below w.heap.size w w' := by
  have HM := Lib.hid (m10 v C n x w hr hn hne hl hg)
  clear hr hg
  go_enter Tryz.func15, Tryz.ntmps15
  go_wp2_with (go_at_call 23; refine HM.out.mono ?_; rintro e w1 ⟨G, T, rfl, h1, h2, h3⟩; have HF := Lib.hid (And.intro h1 (And.intro h2 h3)); clear h1 h2 h3)
  go_ret
  exact ⟨G, rfl, HF.out.1, HF.out.2.1, HF.out.2.2⟩
end Go.Proofs.YtnamjojceadgdaaGreatDoor.Sv
end
section
set_option linter.unusedVariables false
set_option linter.unusedSimpArgs false
/- what a term says of a release, by the term as it comes -/
namespace Go.Proofs.YtnamjojceadgdaaGreatDoor.Sv
open Go Go.RowKit Rx
def Rt (x y z : Nat) (t : TV) : Bool :=
  if t.op = 0 then eqR x y z t.a t.b t.c t.pre.isEmpty (t.g == 1) (decide (t.g < 3)) (t.g == 2)
  else if t.op = 1 then neR x y z t.a t.b t.c t.pre.isEmpty (t.g == 1) (decide (t.g < 3)) (t.g == 2)
  else if t.op = 2 then gtR x y z t.a t.b t.c t.pre.isEmpty (t.g == 1) (decide (t.g < 3)) (t.g == 2)
  else if t.op = 3 then decide (cmpRel x y z t.a t.b t.c t.pre.isEmpty < 0)
  else if t.op = 4 then decide (0 ≤ cmpRel x y z t.a t.b t.c t.pre.isEmpty)
  else if t.op = 5 then leR x y z t.a t.b t.c t.pre.isEmpty (t.g == 1) (decide (t.g < 3)) (t.g == 2)
  else if t.op = 6 then tildeR x y z t.a t.b t.c t.pre.isEmpty (t.g == 1) (t.g == 2)
  else caretR x y z t.a t.b t.c t.pre.isEmpty (t.g == 1) (t.g == 2)
theorem td_flags {t : TV} {q : GT} (h : GTOf t q) (ht : t.Good) : q.td.op = q.op ∧ q.td.a = t.a ∧ q.td.b = t.b ∧ q.td.c = t.c ∧ q.td.pre = t.pre ∧ q.td.md = (t.g == 1) ∧ q.td.d = decide (t.g < 3) ∧ q.td.pd = (t.g == 2) := by
  obtain ⟨g0, g3⟩ := ht.g
  have hgc : t.g = 0 ∨ t.g = 1 ∨ t.g = 2 ∨ t.g = 3 := by omega
  have hq := h.g
  have ha := h.a
  have hb := h.b
  have hc := h.c
  have hp := h.pre
  unfold GT.td
  rcases hgc with e | e | e | e
  · have e2 : q.g = 0 := by rw [hq, e]; rfl
    obtain ⟨c1, c2⟩ := ht.c (by omega)
    have b1 := ht.b (by omega)
    have a1 := ht.a (by omega)
    simp [e2, e, a1, b1, c1, c2]
  · have e2 : q.g = 1 := by rw [hq, e]; rfl
    obtain ⟨c1, c2⟩ := ht.c (by omega)
    have b1 := ht.b (by omega)
    simp [e2, e, ha, b1, c1, c2]
  · have e2 : q.g = 2 := by rw [hq, e]; rfl
    obtain ⟨c1, c2⟩ := ht.c (by omega)
    simp [e2, e, ha, hb, c1, c2]
  · have e2 : q.g = 3 := by rw [hq, e]; rfl
    simp [e2, e, ha, hb, hc, hp]
theorem R_of {t : TV} {q : GT} (h : GTOf t q) (ht : t.Good) (x y z : Nat) : tdR8 x y z q.td = Rt x y z t := by
  obtain ⟨f1, f2, f3, f4, f5, f6, f7, f8⟩ := td_flags h ht
  have ho := h.op
  obtain ⟨o0, o8⟩ := ht.op
  have hoc : t.op = 0 ∨ t.op = 1 ∨ t.op = 2 ∨ t.op = 3 ∨ t.op = 4 ∨ t.op = 5 ∨ t.op = 6 ∨ t.op = 7 := by omega
  unfold tdR8 Rt
  rw [f1, f2, f3, f4, f5, f6, f7, f8]
  unfold spell at ho
  rcases hoc with e | e | e | e | e | e | e | e <;> rw [e] at ho ⊢ <;> simp at ho <;> (try rcases ho with ho | ho) <;> rw [ho] <;> simp
theorem gl_all {r : List TV} {g : GL} (h : GLOfE r g) (hg : ∀ t ∈ r, t.Good) (x y z : Nat) : (g.tds).all (tdR8 x y z) = r.all (Rt x y z) := by
  have e : g.tds = (g.t :: g.l.map (·.2)).map GT.td := by simp [GL.tds]
  rw [e]
  have hl : r.length = (g.t :: g.l.map (·.2)).length := by rw [h.len]; simp
  have ht := h.t
  clear h e
  generalize (g.t :: g.l.map (·.2)) = L at *
  induction r generalizing L with
  | nil =>
    have : L = [] := List.length_eq_zero_iff.1 (by simpa using hl.symm)
    subst this; rfl
  | cons t r ih =>
    match L, hl with
    | q :: L, hl =>
      have h0 := ht 0 t q rfl rfl
      simp only [List.map_cons, List.all_cons]
      rw [R_of h0 (hg t (by simp)), ih (fun u hu => hg u (List.mem_cons_of_mem _ hu)) L (by simpa using hl) fun i t' q' h1 h2 => ht (i + 1) t' q' (by simpa using h1) (by simpa using h2)]
theorem c_any {C : List (List TV)} {G : List GL} (h : COf C G) (hg : ∀ r ∈ C, ∀ t ∈ r, t.Good) (x y z : Nat) : ((G.map GL.tds).any fun ts => ts.all (tdR8 x y z)) = C.any fun r => r.all (Rt x y z) := by
  have hl := h.len
  have ht := h.g
  clear h
  induction C generalizing G with
  | nil =>
    have : G = [] := List.length_eq_zero_iff.1 (by simpa using hl.symm)
    subst this; rfl
  | cons r C ih =>
    match G, hl with
    | g :: G, hl =>
      simp only [List.map_cons, List.any_cons]
      rw [gl_all (ht 0 r g rfl rfl) (hg r (by simp)), ih (fun u hu => hg u (List.mem_cons_of_mem _ hu)) (by simpa using hl) fun i r' g' h1 h2 => ht (i + 1) r' g' (by simpa using h1) (by simpa using h2)]
/-! the opposite -/
def opp (o : Int) : Int := if o = 0 then 1 else if o = 1 then 0 else if o = 2 then 5 else if o = 5 then 2 else if o = 3 then 4 else 3
def oppT (t : TV) : TV := { t with op := opp t.op }
theorem seg_vals (x y : Nat) : (seg x y = -1 ∧ x < y) ∨ (seg x y = 0 ∧ x = y) ∨ (seg x y = 1 ∧ y < x) := by
  unfold seg
  by_cases h : x < y
  · exact .inl ⟨if_pos h, h⟩
  · rw [if_neg h]
    by_cases h2 : y < x
    · exact .inr (.inr ⟨if_pos h2, h2⟩)
    · exact .inr (.inl ⟨if_neg h2, by omega⟩)
theorem cmp_vals (a b c a2 b2 c2 : Nat) (rel : Bool) : cmpRel a b c a2 b2 c2 rel = -1 ∨ cmpRel a b c a2 b2 c2 rel = 0 ∨ cmpRel a b c a2 b2 c2 rel = 1 := by
  unfold cmpRel
  rcases seg_vals a a2 with ⟨e, -⟩ | ⟨e, -⟩ | ⟨e, -⟩ <;> rcases seg_vals b b2 with ⟨e2, -⟩ | ⟨e2, -⟩ | ⟨e2, -⟩ <;> rcases seg_vals c c2 with ⟨e3, -⟩ | ⟨e3, -⟩ | ⟨e3, -⟩ <;> cases rel <;> simp [e, e2, e3]
theorem seg_zero (y : Nat) : seg y 0 = 0 ∨ seg y 0 = 1 := by
  rcases seg_vals y 0 with ⟨_, h⟩ | ⟨h, _⟩ | ⟨h, _⟩
  · omega
  · exact .inl h
  · exact .inr h
theorem cmp_ge1 (y z a : Nat) : ¬ cmpRel a y z a 0 0 true < 0 := by
  unfold cmpRel
  rw [seg_eq]
  rcases seg_zero y with e | e <;> rcases seg_zero z with e2 | e2 <;> simp [e, e2]
theorem cmp_ge2 (z a b : Nat) : ¬ cmpRel a b z a b 0 true < 0 := by
  unfold cmpRel
  rw [seg_eq, seg_eq]
  rcases seg_zero z with e2 | e2 <;> simp [e2]
theorem tilde1 (x y z a : Nat) (pd : Bool) : tildeR x y z a 0 0 true true pd = decide (x = a) := by
  unfold tildeR
  by_cases h : x = a
  · subst h
    rw [if_neg (cmp_ge1 y z x), if_neg (by simp), if_neg (by simp), if_neg (by simp)]
    simp
  · rw [decide_eq_false h]
    split
    · rfl
    · simp [h]
theorem tilde2 (x y z a b : Nat) : tildeR x y z a b 0 true false true = decide (x = a ∧ y = b) := by
  unfold tildeR
  by_cases h : x = a ∧ y = b
  · obtain ⟨rfl, rfl⟩ := h
    rw [if_neg (cmp_ge2 z x y), if_neg (by simp), if_neg (by simp), if_neg (by simp)]
    simp
  · rw [decide_eq_false h]
    split
    · rfl
    · by_cases h2 : x = a
      · have h3 : ¬ y = b := fun e => h ⟨h2, e⟩
        simp [h2, h3]
      · simp [h2]
theorem eq_ne (t : TV) (ht : t.Good) (hg : 1 ≤ t.g) (x y z : Nat) : neR x y z t.a t.b t.c t.pre.isEmpty (t.g == 1) (decide (t.g < 3)) (t.g == 2) = !eqR x y z t.a t.b t.c t.pre.isEmpty (t.g == 1) (decide (t.g < 3)) (t.g == 2) := by
  obtain ⟨g0, g3⟩ := ht.g
  have hgc : t.g = 1 ∨ t.g = 2 ∨ t.g = 3 := by omega
  unfold neR eqR
  rcases hgc with e | e | e
  · obtain ⟨c1, c2⟩ := ht.c (by omega)
    have b1 := ht.b (by omega)
    rw [e, c1, c2, b1]
    simp only [show ((1 : Int) == 1) = true from rfl, show ((1 : Int) == 2) = false from rfl, show decide ((1 : Int) < 3) = true from rfl, List.isEmpty_nil, tilde1]
    by_cases h : x = t.a <;> simp [h]
  · obtain ⟨c1, c2⟩ := ht.c (by omega)
    rw [e, c1, c2]
    simp only [show ((2 : Int) == 1) = false from rfl, show ((2 : Int) == 2) = true from rfl, show decide ((2 : Int) < 3) = true from rfl, List.isEmpty_nil, tilde2]
    by_cases h : x = t.a <;> by_cases h2 : y = t.b <;> simp [h, h2]
  · rw [e]
    simp
theorem gt_le (t : TV) (ht : t.Good) (hg : 1 ≤ t.g) (x y z : Nat) : leR x y z t.a t.b t.c t.pre.isEmpty (t.g == 1) (decide (t.g < 3)) (t.g == 2) = !gtR x y z t.a t.b t.c t.pre.isEmpty (t.g == 1) (decide (t.g < 3)) (t.g == 2) := by
  obtain ⟨g0, g3⟩ := ht.g
  have hgc : t.g = 1 ∨ t.g = 2 ∨ t.g = 3 := by omega
  have hv := cmp_vals x y z t.a t.b t.c t.pre.isEmpty
  unfold leR gtR
  rcases hgc with e | e | e
  · rw [e]
    simp only [show ((1 : Int) == 1) = true from rfl, show ((1 : Int) == 2) = false from rfl, show decide ((1 : Int) < 3) = true from rfl]
    by_cases h : t.a < x
    · simp [h]
    · by_cases h2 : x < t.a
      · simp [h, h2]
      · simp [h, h2]
  · rw [e]
    simp only [show ((2 : Int) == 1) = false from rfl, show ((2 : Int) == 2) = true from rfl, show decide ((2 : Int) < 3) = true from rfl]
    by_cases h : t.a < x
    · simp [h]
    · by_cases h2 : x < t.a
      · have : ¬ x = t.a := by omega
        simp [h, h2, this]
      · have h3 : x = t.a := by omega
        by_cases h4 : t.b < y <;> simp [h3, h4]
  · rw [e]
    rcases hv with h | h | h <;> simp [h]
theorem R_opp {t : TV} (ht : t.Good) (hg : 1 ≤ t.g) (h5 : t.op ≤ 5) (x y z : Nat) : Rt x y z (oppT t) = !Rt x y z t := by
  obtain ⟨o0, -⟩ := ht.op
  have hoc : t.op = 0 ∨ t.op = 1 ∨ t.op = 2 ∨ t.op = 3 ∨ t.op = 4 ∨ t.op = 5 := by omega
  have e1 := eq_ne t ht hg x y z
  have e2 := gt_le t ht hg x y z
  have e3 : decide (0 ≤ cmpRel x y z t.a t.b t.c t.pre.isEmpty) = !decide (cmpRel x y z t.a t.b t.c t.pre.isEmpty < 0) := by
    by_cases h : cmpRel x y z t.a t.b t.c t.pre.isEmpty < 0
    · simp [h]
    · simp [h]; omega
  unfold Rt oppT opp
  simp only
  rcases hoc with e | e | e | e | e | e <;> rw [e] <;> simp [e1, e2, e3]
/-- a list against its opposite -/
theorem de_morgan (l : List TV) (h : ∀ t ∈ l, t.Good ∧ 1 ≤ t.g ∧ t.op ≤ 5) (x y z : Nat) : ((l.map fun t => [oppT t]).any fun r => r.all (Rt x y z)) = !([l].any fun r => r.all (Rt x y z)) := by
  simp only [List.any_cons, List.any_nil, Bool.or_false]
  induction l with
  | nil => rfl
  | cons t l ih =>
    obtain ⟨h1, h2, h3⟩ := h t (by simp)
    have := ih fun u hu => h u (List.mem_cons_of_mem _ hu)
    simp only [List.map_cons, List.any_cons, List.all_cons, List.all_nil, Bool.and_true, this, R_opp h1 h2 h3 x y z]
    cases Rt x y z t <;> simp
end Go.Proofs.YtnamjojceadgdaaGreatDoor.Sv
end
section
set_option linter.unusedVariables false
set_option linter.unusedSimpArgs false
/- the laws' small functions: scGood, scList, scWritten -/
namespace Go.Proofs.YtnamjojceadgdaaGreatDoor.Sv
open Go Go.RowKit Rx
set_option maxRecDepth 100000
theorem sumL_ge {C : List (List TV)} {r : List TV} (h : r ∈ C) : r.length ≤ sumL C := by
  unfold sumL
  induction C with
  | nil => cases h
  | cons y C ih =>
    rcases List.mem_cons.1 h with rfl | h
    · simp
    · have := ih h
      simp; omega
theorem sumL_len {C : List (List TV)} (h : ∀ r ∈ C, r ≠ []) : C.length ≤ sumL C := by
  unfold sumL
  induction C with
  | nil => simp
  | cons y C ih =>
    have h1 := ih fun z hz => h z (List.mem_cons_of_mem _ hz)
    have h2 := List.length_pos_iff.2 (h y (by simp))
    simp; omega
/-- what scGood asks -/
structure GoodS (C : List (List TV)) : Prop where
  c : GoodC 24 C
  p : ∀ r ∈ C, ∀ t ∈ r, t.pre.length ≤ 64
set_option maxHeartbeats 8000000 in
theorem d12 (v : Value) (C : List (List TV)) (n : Nat) (w : World) (hnw : n ≤ w.heap.size) (hr : ConIn n w v C) (hS : ShortC C) : Calls Tryz.prog 12 #[v] w fun e w' => OkB e (GoodS C) ∧ Below w.heap.size w w' := by
  have HC := Lib.hid (And.intro hr hnw)
  have H5 := Lib.hid (m5 24 (by omega) v C n w hnw hr hS)
  have HS := Lib.hid hS
  obtain ⟨a, cap, rfl, hc⟩ := hr
  have HCC := Lib.hid hc
  clear hc hS hnw
  go_enter Tryz.func12, Tryz.ntmps12
  go_upto_region 3 with (go_at_call 19; refine H5.out.mono ?_; rintro e w2 ⟨⟨r2, rfl, hr⟩, hb⟩; have HB2 := Lib.hid (And.intro hr hb); clear hr hb)
  all_goals first
    | (go_ret; exact ⟨⟨_, rfl, fun h => by cases h⟩, HB2.out.2⟩)
    | skip
  have HG := Lib.hid (HB2.out.1 (by first | assumption | simp_all))
  have hclen : C.length ≤ 24 := Nat.le_trans (sumL_len fun r hr => (HG.out.row r hr).1) HG.out.sum
  have HR : Hid (∀ r ∈ C, r.length ≤ 24) := Lib.hid fun r hr => Nat.le_trans (sumL_ge hr) HG.out.sum
  have hci : (C.length : Int) ≤ 24 := by omega
  go_wp2
  go_loopw [12] (fun kv W => ∃ k : Nat, kv = .int .i64 k ∧ k ≤ C.length ∧ Hid (Below w.heap.size w W ∧ ∀ j (h : j < C.length), j < k → ∀ t ∈ C[j]'h, t.pre.length ≤ 64)) (fun kv _ => 300 - (intOf kv).toNat)
  case atStart => exact ⟨0, rfl, Nat.zero_le _, Lib.hid ⟨HB2.out.2, fun j h h' => by omega⟩⟩
  case round =>
    obtain ⟨k, rfl, hk, HW⟩ := hrel
    by_cases c : k < C.length
    · have c1 : (k : Int) < (C.length : Int) := by omega
      obtain ⟨t, ht⟩ : ∃ t, C[k]'c = t := ⟨_, rfl⟩
      obtain ⟨B, off, u, rfl, hB, hq, hr⟩ := HCC.out k t (by rw [List.getElem?_eq_getElem c, ht])
      have hBw := HC.out.2
      have q0 : wr.cell? ⟨B, off + k, none⟩ = some u := (HW.out.1.cell (p := ⟨B, off + k, none⟩) (by show B < _; omega)).trans hq
      have htl : t.length ≤ 24 := HR.out t (by rw [← ht]; exact List.getElem_mem c)
      have hti : (t.length : Int) ≤ 24 := by omega
      have HT := Lib.hid (And.intro ht hr)
      obtain ⟨ua, uc, hu, hri⟩ := hr
      subst hu
      have HRI := Lib.hid hri
      clear ht hq hri
      go_wp2
      go_loopw [18] (fun iv W => ∃ i : Nat, iv = .int .i64 i ∧ i ≤ t.length ∧ Hid (Below w.heap.size w W ∧ ∀ j (h : j < t.length), j < i → (t[j]'h).pre.length ≤ 64)) (fun iv _ => 300 - (intOf iv).toNat)
      case atStart => exact ⟨0, rfl, Nat.zero_le _, Lib.hid ⟨HW.out.1, fun j h h' => by omega⟩⟩
      case round =>
        obtain ⟨i, rfl, hi, HI⟩ := hrel
        by_cases ci : i < t.length
        · have ci1 : (i : Int) < (t.length : Int) := by omega
          obtain ⟨z, hz⟩ : ∃ z, t[i]'ci = z := ⟨_, rfl⟩
          obtain ⟨B2, off2, rfl, hB2, hq⟩ := HRI.out i z (by rw [List.getElem?_eq_getElem ci, hz])
          obtain ⟨q0, q1, q2, q3, q4, q5⟩ := hq.keep (show B2 < w.heap.size by omega) HI.out.1
          have HZ := Lib.hid hz
          clear hz hq
          obtain ⟨op, g, za, zb, zc, pre⟩ := z
          simp only at *
          have hsz := bytesOf_size pre
          have HAl := Lib.hid (HI.out.1.alloc HI.out.1.size (.cells #[.int .i64 op, .int .i64 g, .int .u64 za, .int .u64 zb, .int .u64 zc, .string (bytesOf pre)] 31))
          by_cases hp : (64 : Int) < (pre.length : Int)
          · go_wp2
            go_ret
            exact ⟨⟨_, rfl, fun h => by cases h⟩, HAl.out⟩
          · go_wp2
            refine ⟨⟨i + 1, by simp, by omega, Lib.hid ⟨HAl.out, fun j h h' => ?_⟩⟩, by simp [intOf]; omega⟩
            by_cases hj : j = i
            · subst hj; rw [HZ.out]; simp only; omega
            · exact HI.out.2 j h (by omega)
        · have hit : i = t.length := by omega
          subst hit
          go_wp2
          refine ⟨⟨k + 1, by simp, by omega, Lib.hid ⟨HI.out.1, fun j h h' => ?_⟩⟩, by simp [intOf]; omega⟩
          by_cases hj : j = k
          · subst hj
            rw [HT.out.1]
            intro z hz
            obtain ⟨m, hm, rfl⟩ := List.getElem_of_mem hz
            exact HI.out.2 m hm hm
          · exact HW.out.2 j h (by omega)
    · have hkn : k = C.length := by omega
      subst hkn
      go_wp2
      go_ret
      refine ⟨⟨_, rfl, fun _ => ⟨HG.out, fun r hr t ht => ?_⟩⟩, HW.out.1⟩
      obtain ⟨j, hj, rfl⟩ := List.getElem_of_mem hr
      exact HW.out.2 j hj hj t ht
theorem RowIn.mono {n n' : Nat} {W : World} {v : Value} {ts : List TV} (h : RowIn n W v ts) (hn : n ≤ n') : RowIn n' W v ts := by
  obtain ⟨a, cap, e, h⟩ := h
  refine ⟨a, cap, e, fun i t ht => ?_⟩
  obtain ⟨B, off, e2, h1, h2⟩ := h i t ht
  exact ⟨B, off, e2, Nat.lt_of_lt_of_le h1 hn, h2⟩
/-- a list alone -/
theorem conIn_one {n : Nat} {w : World} {v : Value} {l : List TV} (h : RowIn n w v l) (hn : n ≤ w.heap.size) (ty : TypeId) : ConIn (w.heap.size + 1) (w.alloc (.cells #[v] ty)) (.slice (some ⟨w.heap.size, 0, none⟩) 1 1) [l] := by
  refine ⟨some ⟨w.heap.size, 0, none⟩, 1, rfl, fun i r hr => ?_⟩
  cases i with
  | succ i => simp at hr
  | zero =>
    obtain rfl : l = r := by simpa using hr
    exact ⟨w.heap.size, 0, v, rfl, by omega, cell_of_row _ _ 0 _ _ _ (heap_alloc_new w _), (h.keep ((Below.refl n w).alloc hn _)).mono (by omega)⟩
def ShortL (l : List TV) : Prop := l.length ≤ 2147483647 ∧ ∀ t ∈ l, t.pre.length ≤ 2147483647
theorem short_one {l : List TV} (h : ShortL l) : ShortC [l] := ⟨by simp, fun r hr => by obtain rfl := List.mem_singleton.1 hr; exact h⟩
theorem d6 (v : Value) (l : List TV) (n : Nat) (w : World) (hnw : n ≤ w.heap.size) (hr : RowIn n w v l) (hS : ShortL l) : Calls Tryz.prog 6 #[v] w fun e w' => OkB e (GoodS [l]) ∧ Below w.heap.size w w' := by
  have H := Lib.hid (d12 _ [l] (w.heap.size + 1) (w.alloc (.cells #[v] 22)) (by simp) (conIn_one hr hnw 22) (short_one hS))
  have HB := Lib.hid ((Below.refl _ w).alloc (Nat.le_refl _) (.cells #[v] 22))
  obtain ⟨a, cap, rfl, hc⟩ := hr
  clear hc hS
  go_enter Tryz.func6, Tryz.ntmps6
  go_wp2_with (go_at_call 12; refine H.out.mono ?_; rintro e w2 ⟨⟨r2, rfl, hr⟩, hb⟩; have HB2 := Lib.hid (And.intro hr (HB.out.trans (hb.mono HB.out.size))); clear hr hb)
  go_ret
  exact ⟨⟨_, rfl, HB2.out.1⟩, HB2.out.2⟩
/-- the numbers of the arguments -/
def U64C (C : List (List TV)) : Prop := ∀ r ∈ C, ∀ t ∈ r, t.a < 18446744073709551616 ∧ t.b < 18446744073709551616 ∧ t.c < 18446744073709551616
/-- scWritten: the text of a constraint of good terms -/
theorem d9 (v : Value) (C : List (List TV)) (n : Nat) (x : Int) (w : World) (hnw : n ≤ w.heap.size) (hr : ConIn n w v C) (hS : ShortC C) (hU : U64C C) :
    Calls Tryz.prog 9 #[v, .int .u64 x] w fun e w' => ∃ (s : ByteArray) (r : Bool), e = .returned (.tuple #[.string s, .bool r]) ∧ (r = true → GoodS C ∧ ∃ G, s = bytesOf (ctextOf G) ∧ COf C G ∧ (ctextOf G).length ≤ 512) ∧ Below w.heap.size w w' := by
  have H := Lib.hid (d12 v C n w hnw hr hS)
  have HS := Lib.hid (And.intro hr (And.intro hU (And.intro hnw hS)))
  obtain ⟨a, cap, rfl, hc⟩ := hr
  clear hc hS hU hnw
  go_enter Tryz.func9, Tryz.ntmps9
  go_upto_region 3 with (go_at_call 12; refine H.out.mono ?_; rintro e w2 ⟨⟨r2, rfl, hr⟩, hb⟩; have HB2 := Lib.hid (And.intro hr hb); clear hr hb)
  all_goals first
    | (go_ret2; exact ⟨⟨#[]⟩, false, rfl, (fun h => by cases h), HB2.out.2⟩)
    | skip
  have HG := Lib.hid (HB2.out.1 (by first | assumption | simp_all))
  have HM := Lib.hid (m6 _ C n x w2 (HS.out.1.keep (HB2.out.2.mono HS.out.2.2.1)) (by have := HB2.out.2.size; have := HS.out.2.2.1; omega) HG.out.c.pos (by have := sumL_len fun r hr => (HG.out.c.row r hr).1; have := HG.out.c.sum; omega) fun r hr => ⟨(HG.out.c.row r hr).1, by have := sumL_ge hr; have := HG.out.c.sum; omega, fun t ht => ⟨(HG.out.c.row r hr).2 t ht, by
    have h1 := HS.out.2.1 r hr t ht
    exact ⟨h1.1, h1.2.1, h1.2.2, (HS.out.2.2.2.2 r hr).2 t ht⟩⟩⟩)
  go_upto_region 4 with (go_at_call 15; refine HM.out.mono ?_; rintro e w3 ⟨G, rfl, h1, h2, h3⟩; have HF := Lib.hid (And.intro h1 (And.intro h2 (HB2.out.2.trans (h3.mono HB2.out.2.size)))); clear h1 h2 h3)
  have hsz := bytesOf_size (ctextOf G)
  have hle := HF.out.2.1
  go_wp2
  go_ret2
  refine ⟨_, _, rfl, fun h => ⟨HG.out, G, rfl, HF.out.1, ?_⟩, HF.out.2.2⟩
  have := of_decide_eq_true h
  omega
end Go.Proofs.YtnamjojceadgdaaGreatDoor.Sv
end
section
set_option linter.unusedVariables false
set_option linter.unusedSimpArgs false
/- CheckText of any written constraint, of a release -/
namespace Go.Proofs.YtnamjojceadgdaaGreatDoor.Sv
open Go Go.RowKit Rx
set_option maxRecDepth 100000
theorem GLOfE.ok {l : List TV} {g : GL} (h : GLOfE l g) (hg : ∀ t ∈ l, t.Good ∧ t.Fit ∧ t.pre.length ≤ 64) : g.Ok := by
  have key : ∀ (i : Nat) (q : GT), (g.t :: g.l.map (·.2))[i]? = some q → q.Ok := fun i q hq => by
    have hi : i < l.length := by
      have := (List.getElem?_eq_some_iff.1 hq).1
      simp at this; have := h.len; omega
    have h1 := h.t i l[i] q (List.getElem?_eq_getElem hi) hq
    have h2 := hg _ (List.getElem_mem hi)
    exact h1.ok h2.1 h2.2.1 h2.2.2
  refine ⟨h.B.ws, by have := h.B.len; omega, key 0 g.t rfl, fun y hy => ?_, h.R.ws⟩
  obtain ⟨j, hj, rfl⟩ := List.getElem_of_mem hy
  have h1 := (h.s _ hy).ok
  exact ⟨h1.1, h1.2.1, key (j + 1) _ (by simp [hj])⟩
theorem barred_len : ∀ (l : List Bs) (x : Bs), x ∈ l → x.length ≤ (barred l).length
  | [], _, h => by cases h
  | [y], x, h => by obtain rfl := List.mem_singleton.1 h; exact Nat.le_refl _
  | y :: z :: l, x, h => by
    rcases List.mem_cons.1 h with rfl | h
    · simp [barred]
    · have := barred_len (z :: l) x h
      simp [barred]; omega
theorem d10 (C : List (List TV)) (G : List GL) (hC : COf C G) (hG : GoodS C) (hF : ∀ r ∈ C, ∀ t ∈ r, t.Fit) (hs : (ctextOf G).length ≤ 512) (h1 : ∀ r ∈ C, ∀ t ∈ r, t.op = 1 → 1 ≤ t.g) (x y z : Nat) (m : ByteArray) (pre : Bool) (w : World) (hT : Lib.Utf8Tabs 11 12 w) :
    Calls Tryz.prog 10 #[.string (bytesOf (ctextOf G)), iv x y z e0 m, .bool pre] w fun e w' => e = .returned (.tuple #[.bool (C.any fun r => r.all (Rt x y z)), .bool true]) ∧ Below w.heap.size w w' := by
  have hrow : ∀ r ∈ C, r.length ≤ 24 := fun r hr => Nat.le_trans (sumL_ge hr) hG.c.sum
  have hlen : C.length ≤ 24 := Nat.le_trans (sumL_len fun r hr => (hG.c.row r hr).1) hG.c.sum
  have hok : ∀ g ∈ G, g.Ok ∧ g.l.length < 24 := fun g hm => by
    obtain ⟨j, hj, rfl⟩ := List.getElem_of_mem hm
    have hj2 : j < C.length := by rw [hC.len]; exact hj
    have h2 := hC.g j C[j] G[j] (List.getElem?_eq_getElem hj2) (List.getElem?_eq_getElem hj)
    have hm2 := List.getElem_mem hj2
    exact ⟨h2.ok fun t ht => ⟨(hG.c.row _ hm2).2 t ht, hF _ hm2 t ht, hG.p _ hm2 t ht⟩, by have := h2.len; have := hrow _ hm2; omega⟩
  have hGne : G ≠ [] := fun e => by
    have := hC.len
    rw [e] at this
    exact hG.c.pos (List.length_eq_zero_iff.1 this)
  have hcl := hC.len
  have key := t19 (s := bytesOf (ctextOf G)) (gs := G.map GL.tds) (a := x) (b := y) (c := z) (p := e0) (m := m) (pre := pre) (fun t _ => tdR8 x y z t)
    (fun w hT => t31GL G hGne (fun g hg => (hok g hg).1) hs (by omega) (fun g hg => ⟨by
      have := barred_len (G.map GL.text) g.text (List.mem_map_of_mem hg)
      unfold ctextOf at hs
      omega, by have := (hok g hg).2; omega⟩) w hT)
    (fun ts hts t ht V C' i W hCa hV => by
      obtain ⟨g, hg, rfl⟩ := List.mem_map.1 hts
      obtain ⟨j, hj, rfl⟩ := List.getElem_of_mem hg
      have hj2 : j < C.length := by rw [hC.len]; exact hj
      have h2 := hC.g j C[j] G[j] (List.getElem?_eq_getElem hj2) (List.getElem?_eq_getElem hj)
      have hm2 := List.getElem_mem hj2
      have e : (G[j]).tds = ((G[j]).t :: (G[j]).l.map (·.2)).map GT.td := by simp [GL.tds]
      rw [e] at ht
      obtain ⟨q, hq, rfl⟩ := List.mem_map.1 ht
      obtain ⟨k, hk, rfl⟩ := List.getElem_of_mem hq
      have hk2 : k < (C[j]).length := by have := h2.len; simp at hk; omega
      have h3 := h2.t k _ _ (List.getElem?_eq_getElem hk2) (List.getElem?_eq_getElem hk)
      have hm3 := List.getElem_mem hk2
      have hgd := (hG.c.row _ hm2).2 _ hm3
      obtain ⟨f1, f2, f3, f4, f5, f6, f7, f8⟩ := td_flags h3 hgd
      refine chk8 (by rw [f1]; exact spell_ok h3.op) (fun ho hd => ?_) (fun hd => ?_) x y z V C' m i W hCa hV
      · rw [f1] at ho
        rw [f7] at hd
        rw [f6, f8]
        have hd2 := of_decide_eq_true hd
        have hop : ((C[j])[k]).op = 1 := by
          have hs1 := h3.op
          rw [ho] at hs1
          obtain ⟨o0, o8⟩ := hgd.op
          have hoc : ((C[j])[k]).op = 0 ∨ ((C[j])[k]).op = 1 ∨ ((C[j])[k]).op = 2 ∨ ((C[j])[k]).op = 3 ∨ ((C[j])[k]).op = 4 ∨ ((C[j])[k]).op = 5 ∨ ((C[j])[k]).op = 6 ∨ ((C[j])[k]).op = 7 := by omega
          unfold spell at hs1
          rcases hoc with e | e | e | e | e | e | e | e <;> rw [e] at hs1 ⊢ <;> first | rfl | (simp at hs1)
        have := h1 _ hm2 _ hm3 hop
        have hgc : ((C[j])[k]).g = 1 ∨ ((C[j])[k]).g = 2 := by omega
        rcases hgc with e | e <;> rw [e] <;> simp
      · rw [f7] at hd
        rw [f5]
        exact (hgd.c (of_decide_eq_true hd)).2)
    (by simp; omega) (fun ts hts => by
      obtain ⟨g, hg, rfl⟩ := List.mem_map.1 hts
      have := (hok g hg).2
      simp [GL.tds]; omega) w hT
  refine key.mono ?_
  rintro e w' ⟨rfl, hb⟩
  refine ⟨?_, hb⟩
  rw [c_any hC (fun r hr t ht => (hG.c.row r hr).2 t ht)]
end Go.Proofs.YtnamjojceadgdaaGreatDoor.Sv
end
section
set_option linter.unusedVariables false
set_option linter.unusedSimpArgs false
/- the reference's small functions: some bool, whatever the text -/
namespace Go.Proofs.YtnamjojceadgdaaGreatDoor.Sv
open Go Go.RowKit Rx
set_option maxRecDepth 100000
def digB (c : Nat) : Bool := decide (48 ≤ c) && decide (c ≤ 57)
theorem j35 (c : Nat) (w : World) : Calls Tryz.prog 64 #[.int .u8 c] w fun e w' => e = .returned (.bool (digB c)) ∧ w' = w := by
  unfold digB
  by_cases h1 : 48 ≤ c
  · have k1 : (48 : Int) ≤ (c : Int) := by omega
    rw [decide_eq_true h1, Bool.true_and]
    by_cases h2 : c ≤ 57
    · have k2 : (c : Int) ≤ 57 := by omega
      rw [decide_eq_true h2]
      go_enter Tryz.func64, Tryz.ntmps64
      go_wp2
      go_ret
      exact ⟨rfl, rfl⟩
    · have k2 : ¬ (c : Int) ≤ 57 := by omega
      rw [decide_eq_false h2]
      go_enter Tryz.func64, Tryz.ntmps64
      go_wp2
      go_ret
      exact ⟨rfl, rfl⟩
  · have k1 : ¬ (48 : Int) ≤ (c : Int) := by omega
    rw [decide_eq_false h1, Bool.false_and]
    go_enter Tryz.func64, Tryz.ntmps64
    go_wp2
    go_ret
    exact ⟨rfl, rfl⟩
theorem j34 (c : Nat) (w : World) : Calls Tryz.prog 63 #[.int .u8 c] w fun e w' => SomeB e ∧ w' = w := by
  have H := Lib.hid (j35 c w)
  generalize digB c = r at *
  generalize h1 : decide ((65 : Int) ≤ (c : Int)) = r1
  generalize h2 : decide ((c : Int) ≤ 90) = r2
  generalize h3 : decide ((97 : Int) ≤ (c : Int)) = r3
  generalize h4 : decide ((c : Int) ≤ 122) = r4
  go_enter Tryz.func63, Tryz.ntmps63
  cases r <;> cases r1 <;> cases r2 <;> cases r3 <;> cases r4 <;> (go_wp2_with (go_at_call 64; refine H.out.mono ?_; rintro e w1 ⟨rfl, hw⟩; subst hw)) <;> go_ret <;> exact ⟨⟨_, rfl⟩, rfl⟩
set_option maxHeartbeats 1000000 in
theorem j22 (s : ByteArray) (hs : s.size ≤ 9000000000000000000) (w : World) : Calls Tryz.prog 36 #[.string s] w fun e w' => SomeB e ∧ w' = w := by
  have H := Lib.hid (fun c : Nat => j34 c w)
  have hsI : (s.size : Int) ≤ 9000000000000000000 := by omega
  go_enter Tryz.func36, Tryz.ntmps36
  go_wp2
  go_loop [3] (fun iv => ∃ i : Nat, i ≤ s.size ∧ iv = .int .i64 i) (fun iv => s.size - (intOf iv).toNat)
  case atStart => exact ⟨0, Nat.zero_le _, rfl⟩
  case round =>
    obtain ⟨i, hi, rfl⟩ := hrel
    by_cases hlt : i < s.size
    · go_wp2_with (go_at_call 63; refine (H.out _).mono ?_; rintro e w1 ⟨⟨r, rfl⟩, hw⟩; subst hw)
      all_goals first
        | (go_ret; exact ⟨⟨_, rfl⟩, rfl⟩)
        | (go_round
           case rel => exact ⟨i + 1, by omega, by go_num⟩
           case measure => simp [intOf]; omega)
    · go_wp2
      go_ret
      exact ⟨⟨_, rfl⟩, rfl⟩
end Go.Proofs.YtnamjojceadgdaaGreatDoor.Sv
end
section
set_option linter.unusedVariables false
set_option linter.unusedSimpArgs false
/- a version's good form: its guards, of any answer -/
namespace Go.Proofs.YtnamjojceadgdaaGreatDoor.Sv
open Go Go.RowKit Rx
set_option maxRecDepth 100000
set_option maxHeartbeats 2000000 in
theorem j21 (s : ByteArray) (hs : s.size ≤ 65536) (w : World) : Calls Tryz.prog 35 #[.string s] w fun e w' => ∃ (v : Value) (D : List ByteArray), e = .returned v ∧ 0 < D.length ∧ D.length ≤ 65537 ∧ (∀ d ∈ D, d.size ≤ 65536) ∧ w'.ownsRow w.heap.size 9 1 v D.length (D.map Value.string) ∧ Below w.heap.size w w' := by
  obtain ⟨i0, hi, hz0, hz1, hz2⟩ := info_parts info9
  have HI := Lib.hid (And.intro hi (And.intro hz0 (And.intro hz1 hz2)))
  have HSZ := Lib.hid hs
  have k9 : (s.size : Int) ≤ 65536 := by omega
  clear hi hz0 hz1 hz2
  go_enter Tryz.func35, Tryz.ntmps35
  go_wp2
  go_loopw [3, 4, 5] (fun lv fv iv wr => ∃ i fr : Nat, iv = .int .i64 i ∧ fv = .int .i64 fr ∧ i ≤ s.size ∧ fr ≤ i ∧ ∃ D : List ByteArray, Hid ((∀ d ∈ D, d.size ≤ 65536) ∧ D.length ≤ fr ∧ wr.ownsRow w.heap.size 9 1 lv D.length (D.map Value.string) ∧ Below w.heap.size w wr)) (fun _ _ iv _ => 70000 - (intOf iv).toNat)
  case atStart => exact ⟨0, 0, rfl, rfl, Nat.zero_le _, Nat.zero_le _, [], Lib.hid ⟨by simp, by simp, World.ownsRow_nil w w.heap.size 9 1, Below.refl _ _⟩⟩
  case round =>
    obtain ⟨i, fr, rfl, rfl, hi, hf, D, HR⟩ := hrel
    have k1 : (fr : Int) ≤ (i : Int) := by omega
    have k2 : (i : Int) ≤ (s.size : Int) := by omega
    have k3 : (fr : Int) ≤ (s.size : Int) := by omega
    by_cases c : i < s.size
    · have c1 : (i : Int) < (s.size : Int) := by omega
      go_wp2_with ((with_reducible refine wpList_append_own (o := ⟨some 22, _, _, _, _, _⟩) _ ?h1 (.tmp 16) (.tmp 21) 56 ?h2 w.heap.size 9 i0 (.string ⟨#[]⟩) 1 16 Tryz.underlying56 HI.out.1 HI.out.2.1 HI.out.2.2.1 HI.out.2.2.2 rfl (by decide) _ D.length _ ?h3 (HR.out.2.2.1.alloc _) ⟨wr.heap.size, 0, none⟩ 1 1 [.string (s.extract fr i)] ?h4 rfl ?h5 ?h6 ?h7 ?h8 ?h9 ?_); (case h1 => rfl); (case h2 => rfl); (case h3 => rfl); (case h4 => rfl); (case h5 => exact cell_one_new _ _ _); (case h6 => simp [Value.oneCell']); (case h7 => (have := HR.out.2.1; have := HSZ.out; unfold maxLen; omega)); (case h8 => (have := HR.out.2.1; have := HSZ.out; omega)); (case h9 => (have := HR.out.2.2.2.size; simp; omega)); intro v' w2 ho' hg' _; have HN := Lib.hid (And.intro ho' (own_fin HR.out.2.2.1 HR.out.2.2.2 hg')); clear ho' hg')
      · obtain ⟨n1, n2⟩ := HN.out
        obtain ⟨r1, r2, r3, r4⟩ := HR.out
        refine ⟨⟨i + 1, i + 1, rfl, rfl, by omega, Nat.le_refl _, D ++ [s.extract fr i], Lib.hid ⟨?_, by simp; omega, by simpa using n1, n2⟩⟩, by simp [intOf]; omega⟩
        intro d hd
        rcases List.mem_append.1 hd with h | h
        · exact r1 d h
        · simp at h; subst h; simp; omega
      · exact ⟨⟨i + 1, fr, rfl, rfl, by omega, by omega, D, HR⟩, by simp [intOf]; omega⟩
    · have c1 : ¬ (i : Int) < (s.size : Int) := by omega
      go_wp2_with ((with_reducible refine wpList_append_own (o := ⟨some 30, _, _, _, _, _⟩) _ ?h1 (.tmp 25) (.tmp 29) 56 ?h2 w.heap.size 9 i0 (.string ⟨#[]⟩) 1 16 Tryz.underlying56 HI.out.1 HI.out.2.1 HI.out.2.2.1 HI.out.2.2.2 rfl (by decide) _ D.length _ ?h3 (HR.out.2.2.1.alloc _) ⟨wr.heap.size, 0, none⟩ 1 1 [.string (s.extract fr s.size)] ?h4 rfl ?h5 ?h6 ?h7 ?h8 ?h9 ?_); (case h1 => rfl); (case h2 => rfl); (case h3 => rfl); (case h4 => rfl); (case h5 => exact cell_one_new _ _ _); (case h6 => simp [Value.oneCell']); (case h7 => (have := HR.out.2.1; have := HSZ.out; unfold maxLen; omega)); (case h8 => (have := HR.out.2.1; have := HSZ.out; omega)); (case h9 => (have := HR.out.2.2.2.size; simp; omega)); intro v' w2 ho' hg' _; have HN := Lib.hid (And.intro ho' (own_fin HR.out.2.2.1 HR.out.2.2.2 hg')); clear ho' hg')
      go_ret
      obtain ⟨n1, n2⟩ := HN.out
      obtain ⟨r1, r2, r3, r4⟩ := HR.out
      have hsz := HSZ.out
      refine ⟨_, rfl, D ++ [s.extract fr s.size], by simp, by simp; omega, ?_, by simpa using n1, n2⟩
      intro d hd
      rcases List.mem_append.1 hd with h | h
      · exact r1 d h
      · simp at h; subst h; simp; omega
set_option maxHeartbeats 2000000 in
theorem j17 (s : ByteArray) (hs : s.size ≤ 65536) (w : World) : Calls Tryz.prog 22 #[.string s] w fun e w' => SomeB e ∧ Below w.heap.size w w' := by
  have H := Lib.hid (j21 s hs w)
  have H2 := Lib.hid j22
  clear hs
  go_enter Tryz.func22, Tryz.ntmps22
  go_upto_region 2 with (go_at_call 35; refine H.out.mono ?_; rintro e w1 ⟨v, D, rfl, hnz, hn, hd, ho, hb⟩; obtain ⟨ob, oc, hv2, hob⟩ := World.ownsRow.form ho hnz; subst hv2; obtain ⟨ocur, hob2, hoc⟩ := own_cells ho hnz; have HO := Lib.hid (And.intro hob2 (And.intro hoc (And.intro hd hb))); have kn : (D.length : Int) ≤ 65537 := (by omega); clear ho hb hob hob2 hoc hd hnz)
  go_wp2
  go_loopw [8] (fun kv W => ∃ k : Nat, kv = .int .i64 k ∧ k ≤ D.length ∧ W = w1) (fun kv _ => 70000 - (intOf kv).toNat)
  case atStart => exact ⟨0, rfl, Nat.zero_le _, rfl⟩
  case round =>
    obtain ⟨k, rfl, hk, rfl⟩ := hrel
    by_cases c : k < D.length
    · have c1 : (k : Int) < (D.length : Int) := by omega
      obtain ⟨d, hd⟩ : ∃ d, D[k]? = some d := ⟨_, List.getElem?_eq_getElem c⟩
      have q0 : wr.cell? ⟨ob, k, none⟩ = some (.string d) := by rw [cell_of_row _ _ _ _ _ _ HO.out.1, HO.out.2.1 k (.string d) (by simp [hd])]
      have hd2 : d.size ≤ 65536 := HO.out.2.2.1 d (List.mem_of_getElem? hd)
      have HX := Lib.hid (H2.out d (by omega) wr)
      clear hd
      go_wp2_with (go_at_call 36; refine HX.out.mono ?_; rintro e w1 ⟨⟨r, rfl⟩, hw⟩; subst hw)
      all_goals first
        | (go_ret; exact ⟨⟨_, rfl⟩, HO.out.2.2.2⟩)
        | exact ⟨⟨k + 1, rfl, by omega, trivial⟩, by simp [intOf]; omega⟩
    · have c1 : ¬ (k : Int) < (D.length : Int) := by omega
      go_wp2
      go_ret
      exact ⟨⟨_, rfl⟩, HO.out.2.2.2⟩
set_option maxHeartbeats 2000000 in
theorem j12 (p m : ByteArray) (w : World) (B : Nat) (h0 : w.cell? ⟨B, 0, none⟩ = some (.string p)) (h1 : w.cell? ⟨B, 1, none⟩ = some (.string m)) : Calls Tryz.prog 13 #[.slice (some ⟨B, 0, none⟩) 2 2] w fun e w' => (∃ r : Bool, e = .returned (.bool r) ∧ (r = true → m.size ≤ 65536)) ∧ w' = w := by
  by_cases k1 : (65536 : Int) < (p.size : Int)
  · go_enter Tryz.func13, Tryz.ntmps13
    go_wp2
    go_loopw [7] (fun kv W => kv = .int .i64 0 ∧ W = w) (fun kv _ => 2 - (intOf kv).toNat)
    case atStart => exact ⟨rfl, rfl⟩
    case round =>
      obtain ⟨rfl, rfl⟩ := hrel
      go_wp2
      go_ret
      exact ⟨⟨_, rfl, fun h => by cases h⟩, rfl⟩
  · by_cases k2 : (65536 : Int) < (m.size : Int)
    · go_enter Tryz.func13, Tryz.ntmps13
      go_wp2
      go_loopw [7] (fun kv W => (kv = .int .i64 0 ∨ kv = .int .i64 1) ∧ W = w) (fun kv _ => 2 - (intOf kv).toNat)
      case atStart => exact ⟨.inl rfl, rfl⟩
      case round =>
        obtain ⟨rfl | rfl, rfl⟩ := hrel
        · go_wp2
          exact ⟨⟨.inr rfl, trivial⟩, by simp [intOf]⟩
        · go_wp2
          go_ret
          exact ⟨⟨_, rfl, fun h => by cases h⟩, rfl⟩
    · go_enter Tryz.func13, Tryz.ntmps13
      go_wp2
      go_loopw [7] (fun kv W => (kv = .int .i64 0 ∨ kv = .int .i64 1 ∨ kv = .int .i64 2) ∧ W = w) (fun kv _ => 2 - (intOf kv).toNat)
      case atStart => exact ⟨.inl rfl, rfl⟩
      case round =>
        obtain ⟨rfl | rfl | rfl, rfl⟩ := hrel
        · go_wp2
          exact ⟨⟨.inr (.inl rfl), trivial⟩, by simp [intOf]⟩
        · go_wp2
          exact ⟨⟨.inr (.inr rfl), trivial⟩, by simp [intOf]⟩
        · go_wp2
          go_ret
          exact ⟨⟨_, rfl, fun _ => by omega⟩, rfl⟩
theorem j13 (a b c : Nat) (m : ByteArray) (hm : m.size ≤ 65536) (w : World) : Calls Tryz.prog 14 #[iv a b c e0 m] w fun e w' => SomeB e ∧ Below w.heap.size w w' := by
  have H := fun w => Lib.hid (j17 m hm w)
  have hal := Lib.hid ((Below.refl _ w).alloc (Nat.le_refl _) (.cells #[.int .u64 a, .int .u64 b, .int .u64 c, .string e0, .string m] 25))
  generalize h1 : (m.toList == []) = r1
  clear hm
  unfold iv e0 at *
  go_enter Tryz.func14, Tryz.ntmps14
  cases r1
  · go_wp2_with (go_at_call 22; refine (H _).out.mono ?_; rintro e w1 ⟨⟨r, rfl⟩, hb⟩; have HB := Lib.hid hb; clear hb)
    all_goals first
      | (go_ret; exact ⟨⟨_, rfl⟩, hal.out⟩)
      | (go_ret; exact ⟨⟨_, rfl⟩, hal.out.trans (HB.out.mono hal.out.size)⟩)
  · go_wp2
    go_ret
    exact ⟨⟨_, rfl⟩, hal.out⟩
theorem new2 (w : World) (o1 : Obj) (xs : Array Value) (t : TypeId) : ((w.alloc o1).alloc (.cells xs t (0, 0))).heap[w.heap.size + 1]? = some (.cells xs t (0, 0)) := by
  have h := heap_alloc_new (w.alloc o1) (.cells xs t (0, 0))
  rwa [World.size_alloc] at h
theorem j12' (p m : ByteArray) (w : World) (o1 : Obj) (t : TypeId) : Calls Tryz.prog 13 #[.slice (some ⟨w.heap.size + 1, 0, none⟩) 2 2] ((w.alloc o1).alloc (.cells #[.string p, .string m] t (0, 0))) fun e w' => (∃ r : Bool, e = .returned (.bool r) ∧ (r = true → m.size ≤ 65536)) ∧ w' = (w.alloc o1).alloc (.cells #[.string p, .string m] t (0, 0)) :=
  j12 p m _ _ (cell_of_row _ _ 0 _ _ _ (new2 w o1 _ _)) (cell_of_row _ _ 1 _ _ _ (new2 w o1 _ _))
set_option maxHeartbeats 2000000 in
theorem j7 (a b c : Nat) (m : ByteArray) (w : World) (B : Nat) (h0 : w.heap[B]? = some (.cells #[.int .u64 a, .int .u64 b, .int .u64 c, .string e0, .string m] 25 (0, 0))) : Calls Tryz.prog 7 #[.slice (some ⟨B, 0, none⟩) 1 1] w fun e w' => SomeB e ∧ Below w.heap.size w w' := by
  have H := fun w o1 t => Lib.hid (j12' e0 m w o1 t)
  have H2 := fun hm w => Lib.hid (j13 a b c m hm w)
  unfold iv at *
  go_enter Tryz.func7, Tryz.ntmps7
  go_wp2
  go_loopw [7] (fun kv W => (kv = .int .i64 0 ∨ kv = .int .i64 1) ∧ Hid (Below w.heap.size w W)) (fun kv _ => 2 - (intOf kv).toNat)
  case atStart => exact ⟨.inl rfl, Lib.hid (Below.refl _ _)⟩
  case round =>
    obtain ⟨rfl | rfl, HB⟩ := hrel
    · have q := jblk' HB.out h0
      have q0 := cell_of_row _ _ 0 _ _ _ q
      have q1 := cell_of_row _ _ 1 _ _ _ q
      have q2 := cell_of_row _ _ 2 _ _ _ q
      have q3 := cell_of_row _ _ 3 _ _ _ q
      have q4 := cell_of_row _ _ 4 _ _ _ q
      have HA := Lib.hid (((HB.out.alloc HB.out.size (.cells #[.int .u64 a, .int .u64 b, .int .u64 c, .string e0, .string m] 25)).alloc (by have := HB.out.size; simp; omega) (.cells #[.string e0, .string m] 9)))
      simp at q0 q1 q2 q3 q4
      clear q
      by_cases hm : m.size ≤ 65536
      · go_wp2_with (first
          | (go_at_call 13; refine (H _ _ _).out.mono ?_; rintro e w1 ⟨⟨r, rfl, hr⟩, hw⟩; subst hw; clear hr)
          | (go_at_call 14; refine (H2 hm _).out.mono ?_; rintro e w1 ⟨⟨r, rfl⟩, hb⟩; have HB2 := Lib.hid hb; clear hb))
        all_goals first
          | (go_ret; exact ⟨⟨_, rfl⟩, HA.out⟩)
          | (go_ret; exact ⟨⟨_, rfl⟩, HA.out.trans (HB2.out.mono HA.out.size)⟩)
          | exact ⟨⟨.inr rfl, Lib.hid (HA.out.trans (HB2.out.mono HA.out.size))⟩, by simp [intOf]⟩
      · go_wp2_with (go_at_call 13; refine (H _ _ _).out.mono ?_; rintro e w1 ⟨⟨r, rfl, hr⟩, hw⟩; subst hw; cases r; all_goals (try exact absurd (hr rfl) hm))
        go_ret
        exact ⟨⟨_, rfl⟩, HA.out⟩
    · go_wp2
      go_ret
      exact ⟨⟨_, rfl⟩, HB.out⟩
end Go.Proofs.YtnamjojceadgdaaGreatDoor.Sv
end
section
set_option linter.unusedVariables false
set_option linter.unusedSimpArgs false
/- the law's walk -/
namespace Go.Proofs.YtnamjojceadgdaaGreatDoor.Sv
open Go Go.RowKit Rx
set_option maxRecDepth 100000
theorem info22 : (Tryz.prog.info? 22).map (fun i => (i.zero, i.size, i.bytes)) = some (some (.slice none 0 0), 1, 24) := by kernel_rfl
theorem d8 (o : Int) (w : World) : Calls Tryz.prog 8 #[.int .i64 o] w fun e w' => e = .returned (.int .i64 (opp o)) ∧ w' = w := by
  obtain ⟨r, hr⟩ : ∃ r, opp o = r := ⟨_, rfl⟩
  have HR := Lib.hid hr
  rw [hr]
  clear hr
  go_enter Tryz.func8, Tryz.ntmps8
  go_wp2
  all_goals go_ret
  all_goals refine ⟨?_, rfl⟩
  all_goals (rw [← HR.out]; show Ending.returned (Value.int IntKind.i64 _) = Ending.returned (Value.int IntKind.i64 (opp o)); unfold opp; simp_all)
theorem d5 (a b c : Nat) (p m : ByteArray) (w : World) : Calls Tryz.prog 5 #[iv a b c p m] w fun e w' => SomeB e ∧ Below w.heap.size w w' := by
  have HB := Lib.hid ((Below.refl _ w).alloc (Nat.le_refl _) (.cells #[.int .u64 a, .int .u64 b, .int .u64 c, .string p, .string m] 25))
  unfold iv
  by_cases k1 : (2147483647 : Int) < (p.size : Int)
  · go_enter Tryz.func5, Tryz.ntmps5
    go_wp2
    go_ret
    exact ⟨⟨_, rfl⟩, HB.out⟩
  · by_cases k2 : (2147483647 : Int) < (m.size : Int)
    · go_enter Tryz.func5, Tryz.ntmps5
      go_wp2
      go_ret
      exact ⟨⟨_, rfl⟩, HB.out⟩
    · go_enter Tryz.func5, Tryz.ntmps5
      go_wp2
      go_ret
      exact ⟨⟨_, rfl⟩, HB.out⟩
theorem ownsRow_below {W W' : World} {base : Nat} {e : TypeId} {size : Nat} {v : Value} {k : Nat} {xs : List Value} (h : W.ownsRow base e size v k xs) (hb : Below W.heap.size W W') : W'.ownsRow base e size v k xs := by
  rcases h with ⟨h1, h2 | ⟨g, cap, cur, e1, e2, e3, e4⟩⟩
  · exact ⟨h1, .inl h2⟩
  · exact ⟨h1, .inr ⟨g, cap, cur, e1, e2, (hb.block g (Array.getElem?_eq_some_iff.1 e3).1).trans e3, e4⟩⟩
theorem cell_two_new (w : World) (o : Obj) (v : Value) (t : TypeId) : ∀ (j : Nat) (u : Value), [v][j]? = some u → ((w.alloc o).alloc (.cells #[v] t (0, 0))).cell? ((⟨w.heap.size + 1, 0, none⟩ : Addr).add j) = some u := fun j u hj => by
  have h := cell_one_new (w.alloc o) v t j u hj
  rwa [World.size_alloc] at h
def sl1 (b : Nat) : Value := .slice (some ⟨b, 0, none⟩) 1 1
def trow (t : TV) : Obj := .cells #[.int .i64 t.op, .int .i64 t.g, .int .u64 t.a, .int .u64 t.b, .int .u64 t.c, .string (bytesOf t.pre)] 31 (0, 0)
/-- the lists that are made -/
structure Made (w : World) (ts : List TV) (k : Nat) (cv : Value) (bs : List Nat) (W : World) : Prop where
  own : W.ownsRow w.heap.size 22 1 cv k (bs.map sl1)
  len : bs.length = k
  row : ∀ (i : Nat) (b : Nat) (t : TV), bs[i]? = some b → ts[i]? = some t → W.heap[b]? = some (trow (oppT t))
  ok : ∀ (i : Nat) (t : TV), i < k → ts[i]? = some t → 1 ≤ t.g ∧ t.op ≤ 5
  b : Below w.heap.size w W
theorem Made.keep {w : World} {ts : List TV} {k : Nat} {cv : Value} {bs : List Nat} {W W' : World} (h : Made w ts k cv bs W) (hb : Below W.heap.size W W') : Made w ts k cv bs W' :=
  ⟨ownsRow_below h.own hb, h.len, fun i b t h1 h2 => (hb.block b (Array.getElem?_eq_some_iff.1 (h.row i b t h1 h2)).1).trans (h.row i b t h1 h2), h.ok, h.b.trans (hb.mono h.b.size)⟩
theorem made_step {w : World} {ts : List TV} {k : Nat} {cv v' : Value} {bs : List Nat} {W W8 : World} (h : Made w ts k cv bs W) {t : TV} (ht : ts[k]? = some t) (hok : 1 ≤ t.g ∧ t.op ≤ 5) {o2 : Obj}
    (ho : W8.ownsRow w.heap.size 22 1 v' (k + 1) (bs.map sl1 ++ [sl1 W.heap.size])) (hg : ((W.alloc (trow (oppT t))).alloc o2).grownBy W8 cv.ownBlock) :
    Made w ts (k + 1) v' (bs ++ [W.heap.size]) W8 ∧ ∀ (j : Nat) (o : Obj), W.heap[j]? = some o → (∀ cur, o ≠ Obj.cells cur 22 (0, 0)) → W8.heap[j]? = some o := by
  have hown := (h.own.alloc (trow (oppT t))).alloc o2
  have hsz : ((W.alloc (trow (oppT t))).alloc o2).heap.size = W.heap.size + 2 := by simp
  have key : ∀ (j : Nat) (o : Obj), ((W.alloc (trow (oppT t))).alloc o2).heap[j]? = some o → (∀ cur, o ≠ Obj.cells cur 22 (0, 0)) → W8.heap[j]? = some o := fun j o hj hno => by
    have hne := own_ne hown hj hno
    refine (hg.block j (Array.getElem?_eq_some_iff.1 hj).1 fun e => ?_).trans hj
    rcases hne with e1 | e1
    · rw [e1] at e; cases e
    · exact e1 e.symm
  have hbW : Below W.heap.size W ((W.alloc (trow (oppT t))).alloc o2) := ((Below.refl _ W).alloc (Nat.le_refl _) _).alloc (by simp) _
  have key2 : ∀ (j : Nat) (o : Obj), W.heap[j]? = some o → (∀ cur, o ≠ Obj.cells cur 22 (0, 0)) → W8.heap[j]? = some o := fun j o hj hno => key j o ((hbW.block j (Array.getElem?_eq_some_iff.1 hj).1).trans hj) hno
  have hnew : ((W.alloc (trow (oppT t))).alloc o2).heap[W.heap.size]? = some (trow (oppT t)) := by
    rw [Below.heap_alloc _ _ _ (by simp)]; exact heap_alloc_new W _
  have hno : ∀ u : TV, ∀ cur, trow u ≠ Obj.cells cur 22 (0, 0) := fun u cur e => by unfold trow at e; injection e with _ e2 _; cases e2
  refine ⟨⟨by simpa using ho, by simp [h.len], fun i b u h1 h2 => ?_, fun i u h1 h2 => ?_, ?_⟩, key2⟩
  · by_cases hi : i < bs.length
    · rw [List.getElem?_append_left hi] at h1
      exact key2 b _ (h.row i b u h1 h2) (hno _)
    · have hie : i = bs.length := by
        have := (List.getElem?_eq_some_iff.1 h1).1
        simp at this; omega
      subst hie
      obtain rfl : W.heap.size = b := by simpa using h1
      rw [h.len, ht] at h2
      obtain rfl := Option.some.inj h2
      exact key _ _ hnew (hno _)
  · by_cases hi : i < k
    · exact h.ok i u hi h2
    · obtain rfl : i = k := by omega
      rw [ht] at h2
      obtain rfl := Option.some.inj h2
      exact hok
  · have hA : Below w.heap.size w ((W.alloc (trow (oppT t))).alloc o2) := h.b.trans (hbW.mono h.b.size)
    refine hA.grown hg (by have := h.b.size; omega) (fun j hj => ?_)
    exact (h.own.lt j hj).1
/-- the lists as an argument -/
theorem Made.con {w : World} {ts : List TV} {cv : Value} {bs : List Nat} {W : World} (h : Made w ts ts.length cv bs W) : ConIn W.heap.size W cv (ts.map fun t => [oppT t]) := by
  rcases h.own.2 with ⟨rfl, h0⟩ | ⟨g, cap, cur, rfl, hg, hcur, hn, hm, hs, hx⟩
  · exact ⟨none, 0, by simp [h0], fun i r hr => by
      have := (List.getElem?_eq_some_iff.1 hr).1
      simp at this; omega⟩
  · refine ⟨some ⟨g, 0, none⟩, cap, by simp, fun i r hr => ?_⟩
    obtain ⟨t, ht, rfl⟩ : ∃ t, ts[i]? = some t ∧ [oppT t] = r := by simpa using hr
    have hi := (List.getElem?_eq_some_iff.1 ht).1
    have hib : i < bs.length := by rw [h.len]; exact hi
    have hb := h.row i bs[i] t (List.getElem?_eq_getElem hib) ht
    have hgl := (Array.getElem?_eq_some_iff.1 hcur).1
    refine ⟨g, 0, sl1 bs[i], rfl, hgl, ?_, ⟨some ⟨bs[i], 0, none⟩, 1, rfl, fun j u hu => ?_⟩⟩
    · have h1 : (bs.map sl1)[i]? = some (sl1 bs[i]) := by simp [hib]
      rw [← hx, List.getElem?_take] at h1
      rw [cell_of_row _ _ _ _ _ _ hcur, Nat.zero_add]
      split at h1
      · simpa using h1
      · cases h1
    · cases j with
      | succ j => simp at hu
      | zero =>
        obtain rfl : oppT t = u := by simpa using hu
        refine ⟨bs[i], 0, rfl, (Array.getElem?_eq_some_iff.1 hb).1, ?_⟩
        unfold trow at hb
        exact ⟨cell_of_row _ _ 0 _ _ _ hb, cell_of_row _ _ 1 _ _ _ hb, cell_of_row _ _ 2 _ _ _ hb, cell_of_row _ _ 3 _ _ _ hb, cell_of_row _ _ 4 _ _ _ hb, cell_of_row _ _ 5 _ _ _ hb⟩
theorem opp_cells (t : TV) (o : Int) (ho : o = opp t.op) : trow (oppT t) = .cells #[.int .i64 o, .int .i64 t.g, .int .u64 t.a, .int .u64 t.b, .int .u64 t.c, .string (bytesOf t.pre)] 31 (0, 0) := by subst ho; rfl
set_option maxHeartbeats 16000000 in
theorem lawA (v : Value) (ts : List TV) (x : Int) (a b c : Nat) (p m : ByteArray) (w : World) (hr : RowIn w.heap.size w v ts) (hu : ∀ t ∈ ts, t.a < 18446744073709551616 ∧ t.b < 18446744073709551616 ∧ t.c < 18446744073709551616) (hT : Lib.Utf8Tabs 11 12 w) :
    Calls Tryz.prog 3 #[v, .int .u64 x, iv a b c p m] w fun e w' => e = .returned (.bool true) ∧ Below w.heap.size w w' := by
  have HC := Lib.hid (And.intro hr (And.intro hu hT))
  have H4 := Lib.hid (fun W (hb : Below w.heap.size w W) => m8 v ts w.heap.size W hb.size (hr.keep hb))
  have H6 := Lib.hid (fun W (hb : Below w.heap.size w W) (hS : ShortL ts) => d6 v ts w.heap.size W hb.size (hr.keep hb) hS)
  have hB0 := (Below.refl _ w).alloc (Nat.le_refl _) (.cells #[.int .u64 a, .int .u64 b, .int .u64 c, .string p, .string m] 25)
  have hrow0 := heap_alloc_new w (.cells #[.int .u64 a, .int .u64 b, .int .u64 c, .string p, .string m] 25)
  obtain ⟨va, vc, rfl, hc⟩ := hr
  have HCC := Lib.hid hc
  clear hc hu hT
  unfold iv
  go_enter Tryz.func3, Tryz.ntmps3
  go_upto_region 1 with fail
  generalize w.alloc (.cells #[.int .u64 a, .int .u64 b, .int .u64 c, .string p, .string m] 25) = w0 at *
  obtain ⟨T, hTT⟩ : ∃ T, T = w.heap.size := ⟨_, rfl⟩
  rw [← hTT] at hrow0 ⊢
  have HTT := Lib.hid hTT
  clear hTT
  have H4' := Lib.hid (H4.out w0 hB0)
  have HB0 := Lib.hid (And.intro hB0 hrow0)
  clear hB0 hrow0
  go_upto_region 3 with (first
    | (go_at_call 4; refine H4'.out.mono ?_; rintro e w1 ⟨⟨r1, rfl, hr1⟩, hb⟩; have HS := Lib.hid hr1; have HB1 := Lib.hid hb; have hrow1 := (hb.block T (Array.getElem?_eq_some_iff.1 HB0.out.2).1).trans HB0.out.2; have p0 := cell_of_row _ _ 0 _ _ _ hrow1; have p1 := cell_of_row _ _ 1 _ _ _ hrow1; have p2 := cell_of_row _ _ 2 _ _ _ hrow1; have p3 := cell_of_row _ _ 3 _ _ _ hrow1; have p4 := cell_of_row _ _ 4 _ _ _ hrow1; clear hb hr1)
    | (go_at_call 5; refine (d5 a b c p m _).mono ?_; rintro e w2 ⟨⟨r2, rfl⟩, hb2⟩; have HB2 := Lib.hid hb2; clear hb2))
  all_goals first
    | (go_ret; exact ⟨rfl, HB0.out.1.trans (HB1.out.mono HB0.out.1.size)⟩)
    | (go_ret; exact ⟨rfl, (HB0.out.1.trans (HB1.out.mono HB0.out.1.size)).trans (HB2.out.mono (HB0.out.1.trans (HB1.out.mono HB0.out.1.size)).size)⟩)
    | skip
  have hB1 := HB0.out.1.trans (HB1.out.mono HB0.out.1.size)
  have hB2 := hB1.trans (HB2.out.mono hB1.size)
  have hrow2 := (HB2.out.block T (Array.getElem?_eq_some_iff.1 hrow1).1).trans hrow1
  have hS : ShortL ts := HS.out (by first | rfl | assumption | simp_all)
  clear p0 p1 p2 p3 p4 hrow1
  have p3 := cell_of_row _ _ 3 _ _ _ hrow2
  have fz := fun k => frozen_of_row _ _ k _ _ hrow2
  go_upto_region 4 with fail
  have hrow3 : (w2.setCell ⟨T, 3, none⟩ (.string ⟨#[]⟩)).heap[T]? = some (.cells #[.int .u64 a, .int .u64 b, .int .u64 c, .string e0, .string m] 25 (0, 0)) := heap_setCell_same w2 T 3 _ 25 _ hrow2
  have hB3 : Below w.heap.size w (w2.setCell ⟨T, 3, none⟩ (.string ⟨#[]⟩)) := hB2.setCell (p := ⟨T, 3, none⟩) (by show w.heap.size ≤ T; rw [HTT.out]; exact Nat.le_refl _) _
  generalize w2.setCell ⟨T, 3, none⟩ (.string ⟨#[]⟩) = w3 at *
  have H6' := Lib.hid (H6.out w3 hB3 hS)
  have HB3 := Lib.hid (And.intro hB3 (And.intro hrow3 hS))
  clear hB1 hB2 hrow2 hS p3 fz hB3 hrow3 HS
  go_upto_region 6 with (first
    | (go_at_call 6; refine H6'.out.mono ?_; rintro e w4 ⟨⟨r3, rfl, hr3⟩, hb⟩; have HGG := Lib.hid hr3; have HB4 := Lib.hid hb; have hrow4 := (hb.block T (Array.getElem?_eq_some_iff.1 HB3.out.2.1).1).trans HB3.out.2.1; have p0 := cell_of_row _ _ 0 _ _ _ hrow4; have p1 := cell_of_row _ _ 1 _ _ _ hrow4; have p2 := cell_of_row _ _ 2 _ _ _ hrow4; have p3 := cell_of_row _ _ 3 _ _ _ hrow4; have p4 := cell_of_row _ _ 4 _ _ _ hrow4; clear hb hr3)
    | (go_at_call 7; refine (j7 a b c m _ w4.heap.size (heap_alloc_new w4 _)).mono ?_; rintro e w5 ⟨⟨r4, rfl⟩, hb5⟩; have HB5 := Lib.hid hb5; clear hb5))
  all_goals first
    | (go_ret; exact ⟨rfl, HB3.out.1.trans (HB4.out.mono HB3.out.1.size)⟩)
    | (go_ret; exact ⟨rfl, ((HB3.out.1.trans (HB4.out.mono HB3.out.1.size)).alloc (HB3.out.1.trans (HB4.out.mono HB3.out.1.size)).size _).trans (HB5.out.mono ((HB3.out.1.trans (HB4.out.mono HB3.out.1.size)).alloc (HB3.out.1.trans (HB4.out.mono HB3.out.1.size)).size _).size)⟩)
    | skip
  have hr4 : r4 = true := by first | assumption | simp_all
  subst hr4
  simp only [Bool.not_true]
  have hG : GoodS [ts] := HGG.out (by first | rfl | assumption | simp_all)
  have hlen : ts.length ≤ 24 := Nat.le_trans (sumL_ge (List.mem_singleton.2 rfl)) hG.c.sum
  have hli : (ts.length : Int) ≤ 24 := by omega
  have hB4 := HB3.out.1.trans (HB4.out.mono HB3.out.1.size)
  have hB4' := hB4.alloc hB4.size (.cells #[.int .u64 a, .int .u64 b, .int .u64 c, .string e0, .string m] 25)
  have hB5 := hB4'.trans (HB5.out.mono hB4'.size)
  have hrow5 : w5.heap[T]? = some (.cells #[.int .u64 a, .int .u64 b, .int .u64 c, .string e0, .string m] 25 (0, 0)) := by
    have hl := (Array.getElem?_eq_some_iff.1 hrow4).1
    rw [HB5.out.block T (by simp; omega), Below.heap_alloc _ _ _ hl, hrow4]
  have HG := Lib.hid hG
  have HST := Lib.hid (show Made w ts 0 (.slice none 0 0) [] w5 ∧ w5.heap[T]? = some (.cells #[.int .u64 a, .int .u64 b, .int .u64 c, .string e0, .string m] 25 (0, 0)) from ⟨⟨World.ownsRow_nil w5 w.heap.size 22 1, rfl, fun i b t h => by simp at h, fun i t h => by omega, hB5⟩, hrow5⟩)
  obtain ⟨i0, hi0, hz0, hz1, hz2⟩ := info_parts info22
  have HI := Lib.hid (And.intro hi0 (And.intro hz0 (And.intro hz1 hz2)))
  clear hi0 hz0 hz1 hz2 hG hB4 hB4' hB5 hrow5 p0 p1 p2 p3 p4 hrow4 HGG
  go_wp2
  go_loopw [7, 38] (fun cv kv W => ∃ (k : Nat) (bs : List Nat), kv = .int .i64 k ∧ Hid (k ≤ ts.length ∧ Made w ts k cv bs W ∧ W.heap[T]? = some (.cells #[.int .u64 a, .int .u64 b, .int .u64 c, .string e0, .string m] 25 (0, 0)))) (fun _ kv _ => 300 - (intOf kv).toNat)
  case atStart => exact ⟨0, [], rfl, Lib.hid ⟨Nat.zero_le _, HST.out.1, HST.out.2⟩⟩
  case round =>
    obtain ⟨k, bs, rfl, HK⟩ := hrel
    by_cases c1 : k < ts.length
    · have c2 : (k : Int) < (ts.length : Int) := by omega
      obtain ⟨t, ht⟩ : ∃ t, ts[k]? = some t := ⟨_, List.getElem?_eq_getElem c1⟩
      obtain ⟨B, off, rfl, hB, hq⟩ := HCC.out k t ht
      obtain ⟨q0, q1, q2, q3, q4, q5⟩ := hq.keep hB HK.out.2.1.b
      have HT := Lib.hid (And.intro ht (And.intro c1 ((HG.out.c.row ts (List.mem_singleton.2 rfl)).2 t (List.mem_of_getElem? ht))))
      clear ht hq c1
      obtain ⟨op, g, za, zb, zc, pre⟩ := t
      simp only at *
      have HAl := Lib.hid (HK.out.2.1.b.alloc HK.out.2.1.b.size (.cells #[.int .i64 op, .int .i64 g, .int .u64 za, .int .u64 zb, .int .u64 zc, .string (bytesOf pre)] 31))
      by_cases z0 : g = 0 ∨ op = 6 ∨ op = 7
      · by_cases z1 : g = 0
        · have d0 : (g == 0) = true := by simp [z1]
          clear z0 z1
          go_wp2
          all_goals (go_ret; exact ⟨rfl, HAl.out⟩)
        · have d0 : (g == 0) = false := by simp [z1]
          by_cases z2 : op = 6
          · have d1 : (op == 6) = true := by simp [z2]
            clear z0 z1 z2
            go_wp2
            all_goals (go_ret; exact ⟨rfl, HAl.out⟩)
          · have d1 : (op == 6) = false := by simp [z2]
            have d2 : (op == 7) = true := by simp; omega
            clear z0 z1 z2
            go_wp2
            all_goals (go_ret; exact ⟨rfl, HAl.out⟩)
      · have d0 : (g == 0) = false := by simp; omega
        have d1 : (op == 6) = false := by simp; omega
        have d2 : (op == 7) = false := by simp; omega
        have HZ := Lib.hid z0
        clear z0
        go_upto_region 12 with fail
        have hb6 : Below wr.heap.size wr (wr.alloc (.cells #[.int .i64 op, .int .i64 g, .int .u64 za, .int .u64 zb, .int .u64 zc, .string (bytesOf pre)] 31)) := (Below.refl _ wr).alloc (Nat.le_refl _) _
        have hP := heap_alloc_new wr (.cells #[.int .i64 op, .int .i64 g, .int .u64 za, .int .u64 zb, .int .u64 zc, .string (bytesOf pre)] 31 (0, 0))
        have hPl : (wr.alloc (.cells #[.int .i64 op, .int .i64 g, .int .u64 za, .int .u64 zb, .int .u64 zc, .string (bytesOf pre)] 31)).heap.size = wr.heap.size + 1 := by simp
        obtain ⟨P, hPP⟩ : ∃ P, P = wr.heap.size := ⟨_, rfl⟩
        rw [← hPP] at hP ⊢
        have HPP := Lib.hid hPP
        generalize wr.alloc (.cells #[.int .i64 op, .int .i64 g, .int .u64 za, .int .u64 zb, .int .u64 zc, .string (bytesOf pre)] 31) = w6 at *
        clear q0 q1 q2 q3 q4 q5 hPP hPl
        have p0 := cell_of_row _ _ 0 _ _ _ hP
        have fz := fun k => frozen_of_row _ _ k _ _ hP
        have HB6 := Lib.hid (And.intro hb6 hP)
        clear hb6 hP
        go_upto_region 13 with (go_at_call 8; refine (d8 op _).mono ?_; rintro e w6b ⟨rfl, hw⟩; subst hw)
        have hP7 := heap_setCell_same w6b P 0 _ 31 (.int .i64 (opp op)) HB6.out.2
        have hb7 : Below wr.heap.size wr (w6b.setCell ⟨P, 0, none⟩ (.int .i64 (opp op))) := HB6.out.1.setCell (p := ⟨P, 0, none⟩) (by show wr.heap.size ≤ P; rw [HPP.out]; exact Nat.le_refl _) _
        generalize w6b.setCell ⟨P, 0, none⟩ (.int .i64 (opp op)) = w7 at *
        have hP8 : w7.heap[P]? = some (.cells #[.int .i64 (opp op), .int .i64 g, .int .u64 za, .int .u64 zb, .int .u64 zc, .string (bytesOf pre)] 31 (0, 0)) := hP7
        have HM7 := Lib.hid (HK.out.2.1.keep hb7)
        have HV7 := Lib.hid ((hb7.block T (Array.getElem?_eq_some_iff.1 HK.out.2.2).1).trans HK.out.2.2)
        clear p0 fz hP7
        have p0 := cell_of_row _ _ 0 _ _ _ hP8
        have p1 := cell_of_row _ _ 1 _ _ _ hP8
        have p2 := cell_of_row _ _ 2 _ _ _ hP8
        have p3 := cell_of_row _ _ 3 _ _ _ hP8
        have p4 := cell_of_row _ _ 4 _ _ _ hP8
        have p5 := cell_of_row _ _ 5 _ _ _ hP8
        obtain ⟨oo, hoo⟩ : ∃ oo, oo = opp op := ⟨_, rfl⟩
        rw [← hoo] at p0 hP8 ⊢
        have HOO := Lib.hid hoo
        clear hoo
        clear hP8 hb7
        go_wp2_with ((with_reducible refine wpList_append_own (o := ⟨some 63, _, _, _, _, _⟩) _ ?h1 (.tmp 59) (.tmp 62) 29 ?h2 w.heap.size 22 i0 (.slice none 0 0) 1 24 Tryz.underlying29 HI.out.1 HI.out.2.1 HI.out.2.2.1 HI.out.2.2.2 rfl (by decide) _ k _ ?h3 (HM7.out.own.alloc _ |>.alloc _) ⟨w7.heap.size + 1, 0, none⟩ 1 1 [sl1 w7.heap.size] ?h4 rfl ?h5 ?h6 ?h7 ?h8 ?h9 ?_); (case h1 => rfl); (case h2 => rfl); (case h3 => rfl); (case h4 => rfl); (case h5 => exact cell_two_new _ _ _ _); (case h6 => simp [Value.oneCell', sl1]); (case h7 => (have := HT.out.2.1; unfold maxLen; omega)); (case h8 => (have := HT.out.2.1; omega)); (case h9 => (have := HM7.out.b.size; simp; omega)); intro v' w8 ho' hg' _; have HN := Lib.hid (And.intro ho' hg'); clear ho' hg')
        go_roundw
        case measure => simp [intOf]; have := HT.out.2.1; omega
        case rel =>
          refine ⟨k + 1, bs ++ [w7.heap.size], by simp, Lib.hid ⟨by have := HT.out.2.1; omega, ?_, ?_⟩⟩
          · have ho1 : 1 ≤ g ∧ op ≤ 5 := by
              have h1 := HT.out.2.2.g
              have h2 := HT.out.2.2.op
              have h3 := HZ.out
              simp only at h1 h2
              omega
            exact (made_step HM7.out HT.out.1 ho1 HN.out.1 (by rw [opp_cells _ oo HOO.out]; exact HN.out.2)).1
          · exact (made_step HM7.out HT.out.1 (t := ⟨op, g, za, zb, zc, pre⟩) (by
              have h1 := HT.out.2.2.g
              have h2 := HT.out.2.2.op
              have h3 := HZ.out
              simp only at h1 h2 ⊢
              omega) HN.out.1 (by rw [opp_cells _ oo HOO.out]; exact HN.out.2)).2 T _ HV7.out (fun cur e => by injection e with _ e2 _; cases e2)
    · have hkn : k = ts.length := by have := HK.out.1; omega
      subst hkn
      clear c1
      have hM := HK.out.2.1
      have hgood : ∀ t ∈ ts, t.Good := fun t ht => (HG.out.c.row ts (List.mem_singleton.2 rfl)).2 t ht
      have hpre : ∀ t ∈ ts, t.pre.length ≤ 64 := fun t ht => HG.out.p ts (List.mem_singleton.2 rfl) t ht
      have hok : ∀ t ∈ ts, 1 ≤ t.g ∧ t.op ≤ 5 := fun t ht => by
        obtain ⟨j, hj, rfl⟩ := List.getElem_of_mem ht
        exact hM.ok j _ hj (List.getElem?_eq_getElem hj)
      have hfit : ∀ t ∈ ts, t.Fit := fun t ht => by
        have h1 := HC.out.2.1 t ht
        have h2 := hpre t ht
        exact ⟨h1.1, h1.2.1, h1.2.2, by omega⟩
      obtain ⟨C2, hC2⟩ : ∃ C2, C2 = ts.map fun t => [oppT t] := ⟨_, rfl⟩
      have hcon := hM.con
      rw [← hC2] at hcon
      have hm2 : ∀ r ∈ C2, ∃ t ∈ ts, r = [oppT t] := fun r hr => by
        rw [hC2] at hr
        obtain ⟨t, ht, rfl⟩ := List.mem_map.1 hr
        exact ⟨t, ht, rfl⟩
      have hall2 : ∀ r ∈ C2, ∀ u ∈ r, u.Fit ∧ 1 ≤ u.g := fun r hr u hu => by
        obtain ⟨t, ht, rfl⟩ := hm2 r hr
        obtain rfl := List.mem_singleton.1 hu
        exact ⟨hfit t ht, (hok t ht).1⟩
      have hS2 : ShortC C2 := by
        refine ⟨by rw [hC2]; simp; omega, fun r hr => ?_⟩
        obtain ⟨t, ht, rfl⟩ := hm2 r hr
        exact ⟨by simp, fun u hu => by obtain rfl := List.mem_singleton.1 hu; have := hpre t ht; show t.pre.length ≤ _; omega⟩
      have hU2 : U64C C2 := fun r hr u hu => by
        have h1 := (hall2 r hr u hu).1
        exact ⟨h1.1, h1.2.1, h1.2.2.1⟩
      have hU1 : U64C [ts] := fun r hr u hu => by obtain rfl := List.mem_singleton.1 hr; exact HC.out.2.1 u hu
      have hS1 : ShortC [ts] := short_one HB3.out.2.2
      have hb1 : Below wr.heap.size wr (wr.alloc (.cells #[.slice va ts.length vc] 22)) := (Below.refl _ wr).alloc (Nat.le_refl _) _
      have H9a := Lib.hid (d9 _ [ts] (wr.heap.size + 1) x (wr.alloc (.cells #[.slice va ts.length vc] 22)) (by simp) (conIn_one (HC.out.1.keep hM.b) hM.b.size 22) hS1 hU1)
      have H9b := Lib.hid (fun W (hb : Below wr.heap.size wr W) => d9 u7 C2 wr.heap.size x W hb.size (hcon.keep hb) hS2 hU2)
      have HDM := Lib.hid (fun x y z => by have := de_morgan ts (fun t ht => ⟨hgood t ht, hok t ht⟩) x y z; rw [← hC2] at this; exact this : ∀ x y z, (C2.any fun r => r.all (Rt x y z)) = !([ts].any fun r => r.all (Rt x y z)))
      have HF1 := Lib.hid (And.intro (fun r hr t ht => by obtain rfl := List.mem_singleton.1 hr; exact hfit t ht : ∀ r ∈ [ts], ∀ t ∈ r, t.Fit) (fun r hr t ht _ => by obtain rfl := List.mem_singleton.1 hr; exact (hok t ht).1 : ∀ r ∈ [ts], ∀ t ∈ r, t.op = 1 → 1 ≤ t.g))
      have HF2 := Lib.hid (And.intro (fun r hr t ht => (hall2 r hr t ht).1 : ∀ r ∈ C2, ∀ t ∈ r, t.Fit) (fun r hr t ht _ => (hall2 r hr t ht).2 : ∀ r ∈ C2, ∀ t ∈ r, t.op = 1 → 1 ≤ t.g))
      have HR := Lib.hid (And.intro hM.b (And.intro hb1 HK.out.2.2))
      clear hM hgood hpre hok hfit hC2 hcon hm2 hall2 hS2 hU2 hU1 hS1 hb1
      go_upto_region 16 with (go_at_call 9; refine H9a.out.mono ?_; rintro e w9 ⟨s1, r1, rfl, h1, hb⟩; have HA := Lib.hid (And.intro h1 (HR.out.2.1.trans (hb.mono HR.out.2.1.size))); clear h1 hb)
      go_upto_region 17 with (go_at_call 9; refine (H9b.out w9 HA.out.2).mono ?_; rintro e w10 ⟨s2, rr2, rfl, h1, hb⟩; have HBB := Lib.hid (And.intro h1 (HA.out.2.trans (hb.mono HA.out.2.size))); clear h1 hb)
      go_upto_region 19 with fail
      all_goals first
        | (go_ret; exact ⟨rfl, HR.out.1.trans (HBB.out.2.mono HR.out.1.size)⟩)
        | skip
      obtain ⟨hG1, G1, hs1, hC1, hl1⟩ := HA.out.1 (by first | rfl | assumption | simp_all)
      obtain ⟨hG2, G2, hs2, hC2, hl2⟩ := HBB.out.1 (by first | rfl | assumption | simp_all)
      have hrow10 := (HBB.out.2.block T (Array.getElem?_eq_some_iff.1 HR.out.2.2).1).trans HR.out.2.2
      have hbw10 : Below w.heap.size w w10 := HR.out.1.trans (HBB.out.2.mono HR.out.1.size)
      have HX := Lib.hid (d10 [ts] G1 hC1 hG1 HF1.out.1 hl1 HF1.out.2 a b c m false w10 (Utf8Tabs_below HC.out.2.2 hbw10))
      have HY := Lib.hid (fun W (hb : Below w10.heap.size w10 W) => d10 C2 G2 hC2 hG2 HF2.out.1 hl2 HF2.out.2 a b c m false W (Utf8Tabs_below HC.out.2.2 (hbw10.trans (hb.mono hbw10.size))))
      rw [HDM.out] at HY
      rw [← hs1] at HX
      rw [← hs2] at HY
      generalize ([ts].any fun r => r.all (Rt a b c)) = X at HX HY
      unfold iv at HX HY
      have HB10 := Lib.hid hbw10
      clear hG1 hs1 hC1 hl1 hG2 hs2 hC2 hl2 hbw10
      have p0 := cell_of_row _ _ 0 _ _ _ hrow10
      have p1 := cell_of_row _ _ 1 _ _ _ hrow10
      have p2 := cell_of_row _ _ 2 _ _ _ hrow10
      have p3 := cell_of_row _ _ 3 _ _ _ hrow10
      have p4 := cell_of_row _ _ 4 _ _ _ hrow10
      go_upto_region 20 with (go_at_call 10; refine HX.out.mono ?_; rintro e w11 ⟨rfl, hb⟩; have hrow11 := (hb.block T (Array.getElem?_eq_some_iff.1 hrow10).1).trans hrow10; have HB11 := Lib.hid hb; clear hb)
      clear p0 p1 p2 p3 p4 hrow10
      have p0 := cell_of_row _ _ 0 _ _ _ hrow11
      have p1 := cell_of_row _ _ 1 _ _ _ hrow11
      have p2 := cell_of_row _ _ 2 _ _ _ hrow11
      have p3 := cell_of_row _ _ 3 _ _ _ hrow11
      have p4 := cell_of_row _ _ 4 _ _ _ hrow11
      go_wp2_with (go_at_call 10; refine (HY.out w11 HB11.out).mono ?_; rintro e w12 ⟨rfl, hb⟩; have HB12 := Lib.hid (HB11.out.trans (hb.mono HB11.out.size)); clear hb)
      all_goals go_ret
      all_goals refine ⟨?_, HB10.out.trans (HB12.out.mono HB10.out.size)⟩
      all_goals first | rfl | (cases X <;> rfl)
end Go.Proofs.YtnamjojceadgdaaGreatDoor.Sv
end
section
set_option linter.unusedVariables false
set_option linter.unusedSimpArgs false
/- lists of lists of terms that come as an argument are read -/
namespace Go.Proofs.YtnamjojceadgdaaGreatDoor.Sv
open Go Go.ChangeShapes Go.WideShapes Go.ChangeAt Go.RowKit Go.Joins Go.Deep Rx
set_option maxRecDepth 100000
theorem add_none {a : Addr} (h : a.spot = none) (k : Nat) : a.add k = ⟨a.block, a.off + k, none⟩ := by
  obtain ⟨b, o, sp⟩ := a
  simp only at h
  subst h
  unfold Addr.add
  split
  · rename_i h; subst h; rfl
  · rfl
theorem list_of {α : Type} {Q : Nat → α → Prop} : ∀ (n : Nat), (∀ i, i < n → ∃ r, Q i r) → ∃ l : List α, l.length = n ∧ ∀ i r, l[i]? = some r → Q i r
  | 0, _ => ⟨[], rfl, by simp⟩
  | n + 1, h => by
    obtain ⟨l, h1, h2⟩ := list_of n fun i hi => h i (by omega)
    obtain ⟨r, hr⟩ := h n (by omega)
    refine ⟨l ++ [r], by simp [h1], fun i r' hi => ?_⟩
    by_cases hin : i < n
    · rw [List.getElem?_append_left (by omega)] at hi
      exact h2 i r' hi
    · have hie : i = n := by
        have := (List.getElem?_eq_some_iff.1 hi).1
        simp at this; omega
      subst hie
      rw [List.getElem?_append_right (by omega)] at hi
      obtain rfl : r = r' := by simpa [h1] using hi
      exact hr
theorem natu64 {z : Int} (h : (Lit.int .u64 z).wf = true) : ∃ n : Nat, z = (n : Int) ∧ n < 18446744073709551616 := by
  have e1 : IntKind.u64.min = 0 := rfl
  have e2 : IntKind.u64.max = 18446744073709551615 := rfl
  simp [Lit.wf, e1, e2] at h
  exact ⟨z.toNat, by omega, by omega⟩
section
variable {H : Type} {enc : TypeId × Value → H} {w : World} {base : Nat} {spare : Nat → Bool} {held : Bool}
theorem spot_none {w : World} {a : Addr} {v : Value} (h : w.cell? a = some v) : a.spot = none ∧ a.block < w.heap.size := by
  unfold World.cell? at h
  split at h
  · rename_i c _ _ hb
    split at h
    · cases h
    · rename_i hs
      exact ⟨by simpa using hs, (Array.getElem?_eq_some_iff.1 hb).1⟩
  · cases h
theorem openTerm {a : Addr} {cs : List Value} {fuel : Nat} {x : DataW H × List MemPlace} (hcs : w.cells? base a 6 = some cs) (h : DataW.trod enc Tryz.prog w base spare held fuel 31 cs = some x) :
    ∃ t : TV, a.spot = none ∧ a.block < w.heap.size ∧ TermAt w a.block a.off t ∧ t.a < 18446744073709551616 ∧ t.b < 18446744073709551616 ∧ t.c < 18446744073709551616 := by
  obtain ⟨-, hlen, hc⟩ := World.cells?_some hcs
  obtain ⟨xs, n, _, hx, _, hxl, hg⟩ := DataW.trod_struct Tryz.underlying31 h
  match cs, hlen with
  | [c0, c1, c2, c3, c4, c5], _ =>
    match xs, hxl with
    | [y0, y1, y2, y3, y4, y5], _ =>
      have g0 := hg 0 _ rfl
      have g1 := hg 1 _ rfl
      have g2 := hg 2 _ rfl
      have g3 := hg 3 _ rfl
      have g4 := hg 4 _ rfl
      have g5 := hg 5 _ rfl
      have k3 : Tryz.prog.cellsOf 3 = 1 := by kernel_rfl
      have k23 : Tryz.prog.cellsOf 23 = 1 := by kernel_rfl
      have k9 : Tryz.prog.cellsOf 9 = 1 := by kernel_rfl
      simp [k3, k23, k9] at g0 g1 g2 g3 g4 g5
      obtain ⟨z0, e0, -, w0⟩ := DataW.trod_int Tryz.underlying3 g0
      obtain ⟨z1, e1, -, w1⟩ := DataW.trod_int Tryz.underlying3 g1
      obtain ⟨z2, e2, -, w2⟩ := DataW.trod_int Tryz.underlying23 g2
      obtain ⟨z3, e3, -, w3⟩ := DataW.trod_int Tryz.underlying23 g3
      obtain ⟨z4, e4, -, w4⟩ := DataW.trod_int Tryz.underlying23 g4
      obtain ⟨z5, e5, -, w5⟩ := DataW.trod_string Tryz.underlying9 g5
      injection e0 with e0 _
      injection e1 with e1 _
      injection e2 with e2 _
      injection e3 with e3 _
      injection e4 with e4 _
      injection e5 with e5 _
      subst e0 e1 e2 e3 e4 e5
      obtain ⟨n2, rfl, h2⟩ := natu64 w2
      obtain ⟨n3, rfl, h3⟩ := natu64 w3
      obtain ⟨n4, rfl, h4⟩ := natu64 w4
      have q0 := hc 0 (by omega)
      have q1 := hc 1 (by omega)
      have q2 := hc 2 (by omega)
      have q3 := hc 3 (by omega)
      have q4 := hc 4 (by omega)
      have q5 := hc 5 (by omega)
      simp [Addr.add] at q0 q1 q2 q3 q4 q5
      obtain ⟨hs, hb⟩ := spot_none q0
      obtain ⟨B, off, sp⟩ := a
      simp only at hs
      subst hs
      exact ⟨⟨z0, z1, n2, n3, n4, z5.data.toList⟩, rfl, hb, ⟨q0, q1, q2, q3, q4, by rw [q5]; simp [bytesOf]⟩, h2, h3, h4⟩
theorem openRow {fuel : Nat} {v : Value} {x : DataW H × List MemPlace} (h : DataW.trod enc Tryz.prog w base spare held fuel 22 [v] = some x) :
    ∃ ts : List TV, RowIn w.heap.size w v ts ∧ ∀ t ∈ ts, t.a < 18446744073709551616 ∧ t.b < 18446744073709551616 ∧ t.c < 18446744073709551616 := by
  have k28 : Tryz.prog.cellsOf 31 = 6 := by kernel_rfl
  rcases DataW.trod_slice Tryz.underlying22 h with ⟨hcs, _⟩ | ⟨a, len, cap, elems, rest, n, _, hcs, hx, hb, hlc, hm, hel, hel2, _, _⟩
  · injection hcs with hcs _
    subst hcs
    exact ⟨[], ⟨none, 0, rfl, by simp⟩, by simp⟩
  · injection hcs with hcs _
    subst hcs
    have key : ∀ i, i < len → ∃ t : TV, (a.add (i * 6)).spot = none ∧ (a.add (i * 6)).block < w.heap.size ∧ TermAt w (a.add (i * 6)).block (a.add (i * 6)).off t ∧ t.a < 18446744073709551616 ∧ t.b < 18446744073709551616 ∧ t.c < 18446744073709551616 := fun i hi => by
      have h3 := hel2 i hi
      rw [k28, List.getElem?_eq_getElem (by omega)] at h3
      obtain ⟨cs, hcs, ht⟩ := Option.bind_eq_some_iff.1 h3
      exact openTerm hcs ht
    have hsp : 0 < len → a.spot = none := fun h0 => by
      obtain ⟨t, e1, -⟩ := key 0 h0
      simpa [Addr.add] using e1
    obtain ⟨l, h1, h2⟩ := list_of (Q := fun i (t : TV) => a.spot = none ∧ a.block < w.heap.size ∧ TermAt w a.block (a.off + i * 6) t ∧ t.a < 18446744073709551616 ∧ t.b < 18446744073709551616 ∧ t.c < 18446744073709551616) len fun i hi => by
      obtain ⟨t, e1, e2, e3, e4⟩ := key i hi
      have hs := hsp (by omega)
      rw [add_none hs] at e2 e3
      exact ⟨t, hs, e2, e3, e4⟩
    refine ⟨l, ⟨some a, cap, by rw [h1], fun i t ht => ?_⟩, fun t ht => ?_⟩
    · obtain ⟨e1, e2, e3, -⟩ := h2 i t ht
      obtain ⟨B, off, sp⟩ := a
      simp only at e1
      subst e1
      exact ⟨B, off, rfl, e2, e3⟩
    · obtain ⟨j, hj, rfl⟩ := List.getElem_of_mem ht
      exact (h2 j _ (List.getElem?_eq_getElem hj)).2.2.2
end
end Go.Proofs.YtnamjojceadgdaaGreatDoor.Sv
end
section
set_option linter.unusedVariables false
set_option linter.unusedSimpArgs false
namespace Go.Proofs.YtnamjojceadgdaaGreatDoor.Sv
open Go Go.ChangeShapes Go.WideShapes Go.ChangeAt Go.RowKit Go.Joins Go.Deep
set_option maxRecDepth 100000
section
variable {H : Type} {enc : TypeId × Value → H} {P : Program} {w : World} {base : Nat} {spare : Nat → Bool} {held : Bool}
theorem open_agg5 {r : Reach} {b0 : Nat} {t : TypeId} {f0 f1 f2 f3 f4 : Field} {v : Value} {d : DataW H} {p : List MemPlace} (hs : P.underlying t = some (.struct #[f0, f1, f2, f3, f4])) (hone : oneCellFields P #[f0, f1, f2, f3, f4] = true) (hC : P.cellsOf t = 5)
    (hv : Value.okWide P w r b0 t v) (h : DataW.Trod enc P w base spare held t v d p) :
    ∃ (v0 v1 v2 v3 v4 : Value) (y0 y1 y2 y3 y4 : DataW H × List MemPlace) (n : Nat), v = .agg #[v0, v1, v2, v3, v4] ∧ d = .agg [y0.1, y1.1, y2.1, y3.1, y4.1] ∧ p = y0.2 ++ (y1.2 ++ (y2.2 ++ (y3.2 ++ y4.2))) ∧
      DataW.trod enc P w base spare held n f0.type [v0] = some y0 ∧ DataW.trod enc P w base spare held n f1.type [v1] = some y1 ∧ DataW.trod enc P w base spare held n f2.type [v2] = some y2 ∧ DataW.trod enc P w base spare held n f3.type [v3] = some y3 ∧ DataW.trod enc P w base spare held n f4.type [v4] = some y4 := by
  obtain ⟨cs, rfl, hsz⟩ := okWide_struct hs hv
  obtain ⟨l⟩ := cs
  match l, hsz.trans hC with
  | [c0, c1, c2, c3, c4], _ =>
    obtain ⟨fuel, hf⟩ := h
    obtain ⟨xs, n, _, hx, _, hlen, hg⟩ := DataW.trod_struct hs hf
    obtain ⟨o0, k0⟩ := hone_of hone 0 f0 rfl
    obtain ⟨o1, k1⟩ := hone_of hone 1 f1 rfl
    obtain ⟨o2, k2⟩ := hone_of hone 2 f2 rfl
    obtain ⟨o3, k3⟩ := hone_of hone 3 f3 rfl
    obtain ⟨o4, k4⟩ := hone_of hone 4 f4 rfl
    match xs, hlen with
    | [y0, y1, y2, y3, y4], _ =>
      simp only [Prod.mk.injEq] at hx
      exact ⟨c0, c1, c2, c3, c4, y0, y1, y2, y3, y4, n, rfl, by simpa using hx.1, by simpa using hx.2, by simpa [Value.cells, o0, k0] using hg 0 f0 rfl, by simpa [Value.cells, o1, k1] using hg 1 f1 rfl, by simpa [Value.cells, o2, k2] using hg 2 f2 rfl, by simpa [Value.cells, o3, k3] using hg 3 f3 rfl, by simpa [Value.cells, o4, k4] using hg 4 f4 rfl⟩
end
theorem own : ownKnob Tryz.prog.godebug = none := by kernel_rfl
theorem laidOut : laidOutB Tryz.prog = true := by kernel_rfl
abbrev laidL : List (String × DataW Unit) := Rows.fnSemverDeMorganRow.laid
/-- the tables that the row lists -/
theorem tabs_of {W : World} (hL : laidMetH Tryz.prog laidL W) : Lib.Utf8Tabs 11 12 W := by
  rw [MakeChecks.laidMetH_plain _ _ _ (by kernel_rfl)] at hL
  have e1 : (Rows.laid_unicode_utf8_first : DataW Unit) = Lib.firstData := by kernel_rfl
  have e2 : (Rows.laid_unicode_utf8_acceptRanges : DataW Unit) = Lib.acceptData := by kernel_rfl
  have h1 := Lib.laidMet.reads hL (n := "unicode/utf8.first") (d := Rows.laid_unicode_utf8_first) (.tail _ (.tail _ (.tail _ (.tail _ (.tail _ (.tail _ (.tail _ (.tail _ (.tail _ (.tail _ (.tail _ (.tail _ (.tail _ (.tail _ (.tail _ (.head _))))))))))))))))
  have h2 := Lib.laidMet.reads hL (n := "unicode/utf8.acceptRanges") (d := Rows.laid_unicode_utf8_acceptRanges) (.tail _ (.tail _ (.tail _ (.head _))))
  rw [e1] at h1
  rw [e2] at h2
  exact utf8Tabs_of_reads (ρ := Tryz.lays197_ren) { Tryz.lays197 with } ⟨by kernel_rfl, by kernel_rfl, by kernel_rfl, by kernel_rfl, by kernel_rfl, by kernel_rfl, by kernel_rfl⟩ h1 h2
theorem lifted (os : Os) (started : os.Started) (H : Type) (enc : TypeId × Value → H) :
    ReturnsInHanded {} Tryz.checked os 3 .any (fun w args => (Rows.fnSemverDeMorganSpec.pre enc Tryz.prog Tryz.f3 Rows.fnSemverDeMorganRow.domain false w args ∧ laidMetH Tryz.prog laidL w) ∧ sizedMet enc Tryz.prog Tryz.f3 (OpenSpec.ofChange Rows.fnSemverDeMorganSpec) false w args)
      (Rows.fnSemverDeMorganSpec.post enc Tryz.prog Tryz.f3 false true false false) := by
  refine returnsInHanded_of_change_and (C := Tryz.checked) (X := fun w _ => laidMetH Tryz.prog laidL w) (fun _ _ _ hh h => h.of_heap hh) own started (by kernel_rfl) Tryz.func3
    (ChangeSpec.witness_shaped (enc := enc) (C := Tryz.checked) (os := os) (X := fun w _ => laidMetH Tryz.prog laidL w) false (World.laidAll Tryz.prog os laidL) #[.slice none 0 0, .int .u64 0, .agg #[.int .u64 0, .int .u64 0, .int .u64 0, .string ⟨#[]⟩, .string ⟨#[]⟩]] 8 (World.laidAll_os _ _ _)
      (World.shaped_of_ZipB (by kernel_rfl) (by kernel_rfl)) (by kernel_rfl) (by kernel_rfl) (by kernel_rfl)
      (by rw [MakeChecks.laidMetH_plain _ _ _ (by kernel_rfl)]; exact laidMet_laidAll _ (by kernel_rfl) (by kernel_rfl))) ?_
  intro W base args ds gs before hval0 hW hc _ hL _
  have hval : ∀ (j : Nat) t v, Tryz.f3.params[j]? = some t → args[j]? = some v → Value.okWide Tryz.prog W .any base t v := hval0
  have hW' := hW
  obtain ⟨p, q, hA0, hV, rfl, hfz, hnd⟩ := hW
  have hA : DataW.TrodAll enc Tryz.prog W 0 (fun _ => true) true Tryz.f3.params.toList args.toList ds p := hA0
  rw [Tryz.params3] at hA hval
  obtain ⟨v0, vs0, d0, ds0, p0, q0, hargs, rfl, rfl, h0, r0⟩ := trodAll_cons hA
  obtain ⟨v1, vs1, d1, ds1, p1, q1, rfl, rfl, rfl, h1, r1⟩ := trodAll_cons r0
  obtain ⟨v2, vs2, d2, ds2, p2, q2, rfl, rfl, rfl, h2, r2⟩ := trodAll_cons r1
  obtain ⟨rfl, rfl, rfl⟩ := trodAll_nil r2
  obtain rfl : args = #[v0, v1, v2] := by cases args; simp_all
  obtain ⟨rfl, rfl⟩ := trodVars_none hV
  have k0 := h0
  have lt0 : ∀ x ∈ p0, x.block < W.heap.size := by obtain ⟨m, hm⟩ := k0; exact DataW.trod_lt m _ _ _ hm
  have k1 := h1
  have lt1 : ∀ x ∈ p1, x.block < W.heap.size := by obtain ⟨m, hm⟩ := k1; exact DataW.trod_lt m _ _ _ hm
  have k2 := h2
  have lt2 : ∀ x ∈ p2, x.block < W.heap.size := by obtain ⟨m, hm⟩ := k2; exact DataW.trod_lt m _ _ _ hm
  obtain ⟨m0, hm0⟩ := h0
  obtain ⟨sa, sl, sc, rfl⟩ := okWide_slice Tryz.underlying22 (hval 0 22 v0 rfl rfl)
  obtain ⟨ts, hC, hU⟩ := openRow (v := .slice sa sl sc) hm0
  obtain ⟨x, rfl, -, -⟩ := open_int Tryz.underlying23 (hval 1 23 v1 rfl rfl) h1
  obtain ⟨b0, b1, b2, b3, b4, z0, z1, z2, z3, z4, n1, rfl, -, -, t0, t1, t2, t3, t4⟩ := open_agg5 Tryz.underlying25 (by kernel_rfl) (by kernel_rfl) (hval 2 25 v2 rfl rfl) h2
  obtain ⟨as0, e0', -, x0⟩ := DataW.trod_int Tryz.underlying23 t0
  obtain ⟨as1, e1, -, x1⟩ := DataW.trod_int Tryz.underlying23 t1
  obtain ⟨as2, e2, -, x2⟩ := DataW.trod_int Tryz.underlying23 t2
  obtain ⟨as3, e3, -, x3⟩ := DataW.trod_string Tryz.underlying9 t3
  obtain ⟨as4, e4, -, x4⟩ := DataW.trod_string Tryz.underlying9 t4
  injection e0' with e0' _
  injection e1 with e1 _
  injection e2 with e2 _
  injection e3 with e3 _
  injection e4 with e4 _
  subst e0' e1 e2 e3 e4
  obtain ⟨a0, rfl, ha0⟩ := natu64 x0
  obtain ⟨a1, rfl, ha1⟩ := natu64 x1
  obtain ⟨a2, rfl, ha2⟩ := natu64 x2
  clear t0 t1 t2 t3 t4 x0 x1 x2 x3 x4
  refine (lawA (.slice sa sl sc) ts x a0 a1 a2 as3 as4 W hC hU (tabs_of hL)).mono fun e W' h => ?_
  obtain ⟨he, bel⟩ := h
  subst he
  exact ⟨_, rfl, _, _, _, [], _, [], hW', trodAll_mk1 (shut_bool Tryz.underlying4 _), (trodAll_cons_mk (Below.trod laidOut (by kernel_rfl) (of_decide_eq_true (by kernel_rfl)) k0 bel lt0) (trodAll_cons_mk (Below.trod laidOut (by kernel_rfl) (of_decide_eq_true (by kernel_rfl)) k1 bel lt1) (trodAll_cons_mk (Below.trod laidOut (by kernel_rfl) (of_decide_eq_true (by kernel_rfl)) k2 bel lt2) trodAll_mk0))), rfl, bel.frame _, fun h => by cases h⟩
theorem over : Rows.FnSemverDeMorganSaid :=
  OpenClaim.holds_of_wide 3 Tryz.f3 rfl rfl rfl rfl rfl rfl rfl ⟨rfl, rfl, rfl, rfl, rfl⟩ rfl rfl rfl rfl rfl (by kernel_rfl) Tryz.func3 (by kernel_rfl)
    (of_decide_eq_true (by kernel_rfl)) (by unfold Func.isWrapper; first | (rw [if_pos (by decide +kernel)]; kernel_rfl) | (rw [if_neg (by decide +kernel)]; exact ⟨rfl, rfl⟩))
    (fun os started H enc _ => lifted os started H enc)
end Go.Proofs.YtnamjojceadgdaaGreatDoor.Sv
namespace Go.Proofs.YtnamjojceadgdaaGreatDoor
/-- The law holds of every input; what it lists is tied to the program's text. -/
theorem fnSemverDeMorgan_card : Rows.FnSemverDeMorganCardSaid :=
  Claim7.holds_tied_plain_at .later [] [.data, .data, .data, .data, .sentinel, .sentinel, .sentinel, .sentinel, .sentinel, .sentinel, .sentinel, .sentinel, .sentinel, .sentinel, .sentinel, .pinned] true (true, "4aef4418996092b7fd6aa799595066133c9f32fba6fd3b3a50397a6877e5c56f") true Sv.over (fun _ h => by cases h) (by kernel_rfl) (fun _ h => by cases h) fnSemverDeMorgan_row_tie rfl ⟨rfl, rfl⟩ (by kernel_rfl) rfl
    (fun f fn hf hfn => by
      obtain rfl : f = 3 := Option.some.inj ((show Tryz.prog.funcNamed "pub-timebook/laws.FnSemverDeMorgan" = some 3 by kernel_rfl).symm.trans hf) |>.symm
      obtain rfl : fn = Tryz.f3 := (Option.some.inj (Tryz.func3.symm.trans hfn)).symm
      exact ⟨by kernel_rfl, fun j t ht => by
        rw [Tryz.params3] at ht
        have hm : t ∈ [22, 23, 25] := by simpa using Array.mem_of_getElem? ht
        have hall : ([22, 23, 25].all fun u => !Tryz.prog.wantsStandIn u) = true := by kernel_rfl
        exact (show Tryz.prog.wantsStandIn t = false by simpa using List.all_eq_true.1 hall t hm)⟩)
    (by kernel_rfl)
end Go.Proofs.YtnamjojceadgdaaGreatDoor
#print axioms Go.Proofs.YtnamjojceadgdaaGreatDoor.fnSemverDeMorgan_card
end
