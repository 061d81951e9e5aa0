/- FnSemverKindOfGroups: for every list of lists of terms and every style the law's function returns true and leaves its arguments as they were. No condition is added: the statement is the given one, the tied card. -/
import Derived.Test.YtkdecbloihoanaaGreatDoorNJ
import Derived.Test.YtkdecbloihoanaaGreatDoorNC
import Derived.Deep.RegionWith
import Derived.Test.YtkdecbloihoanaaGreatDoorNH
import Derived.WalkKit
import Derived.ProofKit
import Derived.OpenShut
import Derived.ChangeOld
import Derived.SizedLaws
import Derived.Lib.SmallJoins
import Derived.Deep.Grids
import Derived.Stop.Joined
import Derived.Test.YtkdecbloihoanaaGreatDoorRows
import Derived.Test.YtkdecbloihoanaaGreatDoorCards
import Derived.Test.YtkdecbloihoanaaGreatDoorTie
import Derived.ShutString
import Derived.Below
import Derived.ChangeMaps5
import Derived.LaidMore
import Derived.Lay
import Derived.SevenTiedAt
import Derived.Lib.LaidU8
section
set_option linter.unusedVariables false
set_option linter.unusedSimpArgs false
/- ConstraintTexts, ConstraintText -/
namespace Go.Proofs.YtkdecbloihoanaaGreatDoor.Sv
open Go Go.RowKit Rx
set_option maxRecDepth 100000
def edgeB (b : Bs) : Prop := b = [] ∨ b = [32]
/-- a list of terms in one of its ways, a blank or none about it -/
structure GLOfE (l : List TV) (g : GL) : Prop where
  B : edgeB g.B
  R : edgeB g.R
  len : l.length = g.l.length + 1
  t : ∀ (i : Nat) (t : TV) (q : GT), l[i]? = some t → (g.t :: g.l.map (·.2))[i]? = some q → GTOf t q
  s : ∀ y ∈ g.l, sepB y.1
theorem GLOf.edge {l : List TV} {g : GL} (h : GLOf l g) {b : Bs} (hb : edgeB b) : GLOfE l { g with B := b } := ⟨hb, by rw [h.R]; exact .inl rfl, h.len, h.t, h.s⟩
theorem GLOfE.setR {l : List TV} {g : GL} (h : GLOfE l g) {r : Bs} (hr : edgeB r) : GLOfE l { g with R := r } := ⟨h.B, hr, h.len, h.t, h.s⟩
/-- a constraint in one of its ways -/
structure COf (C : List (List TV)) (G : List GL) : Prop where
  len : C.length = G.length
  g : ∀ (i : Nat) (r : List TV) (g : GL), C[i]? = some r → G[i]? = some g → GLOfE r g
theorem COf.snoc {C : List (List TV)} {G : List GL} (h : COf C G) {r : List TV} {g : GL} (hg : GLOfE r g) : COf (C ++ [r]) (G ++ [g]) := by
  refine ⟨by simp [h.len], fun i r' g' h1 h2 => ?_⟩
  by_cases hi : i < C.length
  · rw [List.getElem?_append_left hi] at h1
    rw [List.getElem?_append_left (by have := h.len; omega)] at h2
    exact h.g i r' g' h1 h2
  · have hi2 : i = C.length := by
      have := (List.getElem?_eq_some_iff.1 h1).1
      simp at this; omega
    subst hi2
    obtain rfl : r = r' := by simpa using h1
    rw [h.len] at h2
    obtain rfl : g = g' := by simpa using h2
    exact hg
theorem COf.setR {C : List (List TV)} {G0 : List GL} {gl : GL} (h : COf C (G0 ++ [gl])) {r : Bs} (hr : edgeB r) : COf C (G0 ++ [{ gl with R := r }]) := by
  refine ⟨by rw [h.len]; simp, fun i r' g' h1 h2 => ?_⟩
  by_cases hi : i < G0.length
  · rw [List.getElem?_append_left hi] at h2
    exact h.g i r' g' h1 (by rw [List.getElem?_append_left hi]; exact h2)
  · have hi2 : i = G0.length := by
      have := (List.getElem?_eq_some_iff.1 h2).1
      simp at this; omega
    subst hi2
    obtain rfl : { gl with R := r } = g' := by simpa using h2
    exact (h.g _ r' gl h1 (by simp)).setR hr
theorem barred_snoc (l : List Bs) (x y : Bs) : barred (l ++ [x, y]) = barred (l ++ [x]) ++ (124 :: 124 :: y) := by
  induction l with
  | nil => simp [barred]
  | cons z l ih =>
    cases l with
    | nil => simp [barred]
    | cons z2 l => simp only [List.cons_append, barred] at ih ⊢; rw [ih]; simp
theorem barred_app (l : List Bs) (x r : Bs) : barred (l ++ [x ++ r]) = barred (l ++ [x]) ++ r := by
  induction l with
  | nil => simp [barred]
  | cons z l ih =>
    cases l with
    | nil => simp [barred]
    | cons z2 l => simp only [List.cons_append, barred] at ih ⊢; rw [ih]; simp
theorem ctext_step (G0 : List GL) (gl g : GL) (r b : Bs) (hR : gl.R = []) (hB : g.B = []) : ctextOf (G0 ++ [{ gl with R := r }] ++ [{ g with B := b }]) = ctextOf (G0 ++ [gl]) ++ (r ++ (124 :: 124 :: b) ++ g.text) := by
  have e1 : ({ gl with R := r } : GL).text = gl.text ++ r := by simp [GL.text, GL.rest, GL.hd, hR]
  have e2 : ({ g with B := b } : GL).text = b ++ g.text := by simp [GL.text, GL.rest, GL.hd, hB, ltail, Sep.text, ctext]
  unfold ctextOf
  have e3 : (G0 ++ [{ gl with R := r }] ++ [{ g with B := b }]).map GL.text = G0.map GL.text ++ [gl.text ++ r, b ++ g.text] := by simp [e1, e2]
  rw [e3, barred_snoc, barred_app]
  simp
theorem ctext_one (g : GL) : ctextOf [g] = g.text := rfl
/-- the text so far -/
def CTx (C : List (List TV)) (k : Nat) (X : Bs) : Prop := (k = 0 ∧ X = []) ∨ (0 < k ∧ ∃ G0 gl, COf (C.take k) (G0 ++ [gl]) ∧ gl.R = [] ∧ X = ctextOf (G0 ++ [gl]))
def barrow : Obj := .cells #[.string ⟨#[32, 124, 124, 32]⟩, .string ⟨#[124, 124]⟩, .string ⟨#[32, 124, 124]⟩, .string ⟨#[124, 124, 32]⟩] 9 (0, 0)
theorem bar4cell {W : World} {P q : Nat} (h : W.heap[P]? = some barrow) (hq : q < 4) : ∃ r b : Bs, edgeB r ∧ edgeB b ∧ W.cell? ⟨P, q, none⟩ = some (.string (bytesOf (r ++ (124 :: 124 :: b)))) := by
  have h' : q = 0 ∨ q = 1 ∨ q = 2 ∨ q = 3 := by omega
  unfold barrow at h
  rcases h' with rfl | rfl | rfl | rfl
  · exact ⟨[32], [32], .inr rfl, .inr rfl, cell_of_row _ _ _ _ _ _ h⟩
  · exact ⟨[], [], .inl rfl, .inl rfl, cell_of_row _ _ _ _ _ _ h⟩
  · exact ⟨[32], [], .inr rfl, .inl rfl, cell_of_row _ _ _ _ _ _ h⟩
  · exact ⟨[], [32], .inl rfl, .inr rfl, cell_of_row _ _ _ _ _ _ h⟩
theorem edgeB.len {b : Bs} (h : edgeB b) : b.length ≤ 1 := by rcases h with rfl | rfl <;> decide
theorem edgeB.ws {b : Bs} (h : edgeB b) : ∀ y ∈ b, ws y = true := by rcases h with rfl | rfl <;> decide
set_option maxHeartbeats 8000000 in
theorem m10 (v : Value) (C : List (List TV)) (n : Nat) (x : Int) (w : World) (hr : ConIn n w v C) (hn : n ≤ w.heap.size) (hne : C ≠ []) (hl : C.length ≤ 1000) (hg : ∀ r ∈ C, r ≠ [] ∧ r.length ≤ 1000 ∧ ∀ t ∈ r, t.Good ∧ t.Fit) :
    Calls Tryz.prog 10 #[v, .int .u64 x] w fun e w' => ∃ (G : List GL) (T : Bs), e = .returned (.tuple #[.string (bytesOf (ctextOf G)), .string (bytesOf T)]) ∧ COf C G ∧ (ctextOf G).length ≤ 2147483800004000 ∧ Below w.heap.size w w' := by
  obtain ⟨a, cap, rfl, hc⟩ := hr
  have HC := Lib.hid (And.intro hc (And.intro hn (And.intro hne hg)))
  clear hc hn hne hg
  have hlen : (C.length : Int) ≤ 1000 := by omega
  have HM0 := Lib.hid (m16 x w)
  go_enter Tryz.func10, Tryz.ntmps10
  go_upto_region 2 with (go_at_call 16; refine HM0.out.mono ?_; rintro e w1 ⟨rfl, hw1⟩; have HW1 := Lib.hid hw1; clear hw1)
  have hS := heap_alloc_new w (.cells #[.int .u64 x] 70 (0, 0))
  rw [← show w1 = _ from HW1.out] at hS
  have hb1 : Below w.heap.size w w1 := by rw [HW1.out]; exact (Below.refl _ _).alloc (Nat.le_refl _) _
  obtain ⟨S, hSS⟩ : ∃ S, S = w.heap.size := ⟨_, rfl⟩
  rw [← hSS] at hS ⊢
  have HSS := Lib.hid hSS
  have H0 : ST w1 S w1 := ⟨⟨x, hS⟩, Below.refl _ _, Nat.le_refl _, (Array.getElem?_eq_some_iff.1 hS).1⟩
  have H00 := Lib.hid (And.intro H0 (show Below S w w1 by rw [hSS]; exact hb1))
  clear hSS hS hb1 HW1 HM0 H0
  go_wp2
  go_loopw [4, 5, 15] (fun xv tv kv W => ∃ (k : Nat) (X T : Bs), kv = .int .i64 k ∧ xv = .string (bytesOf X) ∧ tv = .string (bytesOf T) ∧ k ≤ C.length ∧ Hid (CTx C k X ∧ X.length ≤ k * 2147483800004 ∧ T.length ≤ k * 2147483800004 ∧ ST w1 S W)) (fun _ _ kv _ => 3000 - (intOf kv).toNat)
  case atStart => exact ⟨0, [], [], rfl, rfl, rfl, Nat.zero_le _, Lib.hid ⟨.inl ⟨rfl, rfl⟩, by simp, by simp, H00.out.1⟩⟩
  case round =>
    obtain ⟨k, X, T, rfl, rfl, rfl, hk, HW⟩ := hrel
    by_cases c : k < C.length
    · have c1 : (k : Int) < (C.length : Int) := by omega
      obtain ⟨r, hr⟩ : ∃ r, C[k]? = some r := ⟨_, List.getElem?_eq_getElem c⟩
      obtain ⟨B, off, u, rfl, hB, hq, hrow0⟩ := HC.out.1 k r hr
      have hnS : n ≤ S := by have := HC.out.2.1; have := HSS.out; omega
      have hbw : Below n w wr := (H00.out.2.mono hnS).trans (HW.out.2.2.2.b.mono hnS)
      have q0 : wr.cell? ⟨B, off + k, none⟩ = some u := (hbw.cell (p := ⟨B, off + k, none⟩) hB).trans hq
      have hgr := HC.out.2.2.2 r (List.mem_of_getElem? hr)
      have H18 := Lib.hid (fun S x W (hb : Below n wr W) (hnS : n ≤ S) (hS : W.heap[S]? = some (.cells #[.int .u64 x] 70 (0, 0))) => m18 u r n S x W (hrow0.keep (hbw.trans hb)) hnS hgr.1 hgr.2.1 hgr.2.2 hS)
      have HT := Lib.hid (And.intro hr hgr)
      have HBW := Lib.hid (And.intro hbw hnS)
      obtain ⟨ua, uc, hu, -⟩ := hrow0
      subst hu
      clear hr hgr hq hbw hnS
      have zX : (bytesOf X).size ≤ k * 2147483800004 := by rw [bytesOf_size]; exact HW.out.2.1
      have zT : (bytesOf T).size ≤ k * 2147483800004 := by rw [bytesOf_size]; exact HW.out.2.2.1
      rcases Nat.eq_zero_or_pos k with rfl | hk0
      · obtain ⟨x1, hx1⟩ := HW.out.2.2.2.s
        have HM := Lib.hid (H18.out S x1 wr (Below.refl _ _) HBW.out.2 hx1)
        have HB := Lib.hid HW.out.2.2.2
        clear hx1
        rw [Nat.add_zero] at q0
        have zX1 : (bytesOf X).size ≤ 3 := by omega
        have zT1 : (bytesOf T).size ≤ 3 := by omega
        clear zX zT
        go_upto_region 9 with (go_at_call 18; refine HM.out.mono ?_; rintro e w4 ⟨g, T2, rfl, hq, hl1, hl2, hb, hs⟩; have H4 := HB.out.step hb hs; have hrl : r.length ≤ 1000 := HT.out.2.2.1; have zq : (bytesOf g.text).size ≤ 2147483800000 := (by rw [bytesOf_size]; omega); have zT2 : (bytesOf T2).size ≤ 2147483800000 := (by rw [bytesOf_size]; omega); have HF := Lib.hid (And.intro hq H4); clear hq hl1 hl2 hb hs H4)
        go_wp2
        go_roundw
        case measure => simp [intOf]
        case rel =>
          have hX : X = [] := by rcases HW.out.1 with ⟨-, h⟩ | ⟨h, -⟩; exact h; omega
          have hT0 : T = [] := by have := HW.out.2.2.1; simpa using this
          obtain ⟨z1, z2⟩ := HF.out
          refine ⟨1, g.text, T2, rfl, ?_, ?_, by omega, Lib.hid ⟨.inr ⟨by omega, [], g, ?_, z1.R, (ctext_one g).symm⟩, by rw [bytesOf_size] at zq; omega, by rw [bytesOf_size] at zT2; omega, z2⟩⟩
          · rw [hX, bytes_add]; rfl
          · rw [hT0, bytes_add]; rfl
          · have : C.take 1 = [] ++ [r] := by rw [List.take_succ_eq_append_getElem c]; have := HT.out.1; simp [List.getElem?_eq_getElem c] at this; simp [this]
            rw [this]
            exact COf.snoc ⟨rfl, fun i r g h => by simp at h⟩ ⟨by rw [z1.B]; exact .inl rfl, by rw [z1.R]; exact .inl rfl, z1.len, z1.t, z1.s⟩
      · have c2 : (0 : Int) < (k : Int) := by omega
        go_upto_region 6 with fail
        have H1 := HW.out.2.2.2
        have H2 := H1.keep ((Below.refl _ _).alloc (Nat.le_refl _) barrow)
        have hrow := heap_alloc_new wr barrow
        have hP2 : wr.heap.size ≠ S := by have := H1.l; omega
        obtain ⟨x1, hx1⟩ := H2.s
        have hb2 : Below n wr (wr.alloc barrow) := (Below.refl _ wr).alloc (by have := H1.l; have := HBW.out.2; omega) _
        have hb3 : ∀ y : Int, Below n wr ((wr.alloc barrow).setCell ⟨S, 0, none⟩ (.int .u64 y)) := fun y => hb2.setCell (p := ⟨S, 0, none⟩) HBW.out.2 _
        unfold barrow at H2 hrow hx1 hb3
        have HPT := Lib.hid (fun y => And.intro (H2.put y) (hb3 y))
        have HRW := Lib.hid (fun y : Int => (show ((wr.alloc (.cells #[.string ⟨#[32, 124, 124, 32]⟩, .string ⟨#[124, 124]⟩, .string ⟨#[32, 124, 124]⟩, .string ⟨#[124, 124, 32]⟩] 9)).setCell ⟨S, 0, none⟩ (.int .u64 y)).heap[wr.heap.size]? = (wr.alloc (.cells #[.string ⟨#[32, 124, 124, 32]⟩, .string ⟨#[124, 124]⟩, .string ⟨#[32, 124, 124]⟩, .string ⟨#[124, 124, 32]⟩] 9)).heap[wr.heap.size]? from heap_setCell_other _ _ _ _ hP2).trans hrow)
        have HM2 := Lib.hid (m17 S x1 4 (by omega) (by omega) _ hx1)
        clear H1 H2 hrow hx1 hb2 hb3
        go_upto_region 7 with (go_at_call 17; refine HM2.out.mono ?_; rintro e w3 ⟨q, y, rfl, hq, hw⟩; have H2 := HPT.out y; have hr2 := HRW.out y; rw [← hw] at H2 hr2; obtain ⟨br, bb, hbr, hbb, hm⟩ := bar4cell hr2 hq; have hqi : (q : Int) < 4 := (by omega); have zm : (bytesOf (br ++ (124 :: 124 :: bb))).size ≤ 4 := (by rw [bytesOf_size]; have := hbr.len; have := hbb.len; simp; omega); have HMB := Lib.hid (And.intro hbr hbb); clear hw hr2 hbr hbb)
        obtain ⟨M, hM⟩ : ∃ M, M = br ++ (124 :: 124 :: bb) := ⟨_, rfl⟩
        rw [← hM] at hm zm ⊢
        have HMM := Lib.hid hM
        obtain ⟨x3, hx3⟩ := H2.1.s
        have HM := Lib.hid (H18.out S x3 w3 H2.2 HBW.out.2 hx3)
        have HB := Lib.hid H2.1
        clear hx3 H2 HPT HRW HM2 hM
        go_upto_region 9 with (go_at_call 18; refine HM.out.mono ?_; rintro e w4 ⟨g, T2, rfl, hq, hl1, hl2, hb, hs⟩; have H4 := HB.out.step hb hs; have hrl : r.length ≤ 1000 := HT.out.2.2.1; have zq : (bytesOf g.text).size ≤ 2147483800000 := (by rw [bytesOf_size]; omega); have zT2 : (bytesOf T2).size ≤ 2147483800000 := (by rw [bytesOf_size]; omega); have HF := Lib.hid (And.intro hq H4); clear hq hl1 hl2 hb hs H4)
        have zXm : (bytesOf X ++ bytesOf M).size ≤ k * 2147483800004 + 4 := by rw [ByteArray.size_append]; omega
        have zTm : (bytesOf T ++ ⟨#[32, 124, 124, 32]⟩).size ≤ k * 2147483800004 + 4 := by rw [ByteArray.size_append]; have : (⟨#[32, 124, 124, 32]⟩ : ByteArray).size = 4 := rfl; omega
        go_wp2
        go_roundw
        case measure => simp [intOf]; omega
        case rel =>
          obtain ⟨z1, z2⟩ := HF.out
          rcases HW.out.1 with ⟨h, -⟩ | ⟨-, G0, gl, hg1, hR, hg2⟩
          · omega
          · refine ⟨k + 1, X ++ (M ++ g.text), T ++ ([32, 124, 124, 32] ++ T2), by simp, ?_, ?_, by omega, Lib.hid ⟨.inr ⟨by omega, G0 ++ [{ gl with R := br }], { g with B := bb }, ?_, z1.R, ?_⟩, ?_, ?_, z2⟩⟩
            · simp only [← bytes_add, ByteArray.append_assoc]
            · rw [show (⟨#[32, 124, 124, 32]⟩ : ByteArray) = bytesOf [32, 124, 124, 32] from rfl]; simp only [← bytes_add, ByteArray.append_assoc]
            · have : C.take (k + 1) = C.take k ++ [r] := by rw [List.take_succ_eq_append_getElem c]; have := HT.out.1; simp [List.getElem?_eq_getElem c] at this; simp [this]
              rw [this]
              exact (hg1.setR HMB.out.1).snoc (z1.edge HMB.out.2)
            · rw [hg2, ctext_step G0 gl g br bb hR z1.B, HMM.out]
            · rw [bytesOf_size] at zX zm zq; simp; omega
            · rw [bytesOf_size] at zT zT2; simp; omega
    · have hkn : k = C.length := by omega
      subst hkn
      go_wp2
      go_ret2
      rcases HW.out.1 with ⟨h, -⟩ | ⟨-, G0, gl, hg1, hR, hg2⟩
      · exact absurd (List.length_eq_zero_iff.1 h) HC.out.2.2.1
      · rw [List.take_length] at hg1
        refine ⟨G0 ++ [gl], T, by rw [hg2]; rfl, hg1, by rw [← hg2]; have := HW.out.2.1; omega, ?_⟩
        have h1 := H00.out.2
        have h2 := HW.out.2.2.2.b
        rw [HSS.out] at h1 h2
        exact h1.trans h2
theorem m6 (v : Value) (C : List (List TV)) (n : Nat) (x : Int) (w : World) (hr : ConIn n w v C) (hn : n ≤ w.heap.size) (hne : C ≠ []) (hl : C.length ≤ 1000) (hg : ∀ r ∈ C, r ≠ [] ∧ r.length ≤ 1000 ∧ ∀ t ∈ r, t.Good ∧ t.Fit) :
    Calls Tryz.prog 6 #[v, .int .u64 x] w fun e w' => ∃ (G : List GL), e = .returned (.string (bytesOf (ctextOf G))) ∧ COf C G ∧ (ctextOf G).length ≤ 2147483800004000 ∧ Below w.heap.size w w' := by
  have HM := Lib.hid (m10 v C n x w hr hn hne hl hg)
  clear hr hg
  go_enter Tryz.func6, Tryz.ntmps6
  go_wp2_with (go_at_call 10; refine HM.out.mono ?_; rintro e w1 ⟨G, T, rfl, h1, h2, h3⟩; have HF := Lib.hid (And.intro h1 (And.intro h2 h3)); clear h1 h2 h3)
  go_ret
  exact ⟨G, rfl, HF.out.1, HF.out.2.1, HF.out.2.2⟩
end Go.Proofs.YtkdecbloihoanaaGreatDoor.Sv
end
section
set_option linter.unusedVariables false
set_option linter.unusedSimpArgs false
/- NewConstraint where it refuses -/
namespace Go.Proofs.YtkdecbloihoanaaGreatDoor.Sv
open Go Go.RowKit Rx
set_option maxRecDepth 100000
theorem m23 (s : ByteArray) (w : World) : Calls Tryz.prog 23 #[.string s] w fun e w' => e = .returned (.iface 95 (.pointer (some ⟨w.heap.size, 0, none⟩))) ∧ w' = w.alloc (.cells #[.string s] 97) := by
  go_enter Tryz.func23, Tryz.ntmps23
  go_wp2
  go_ret
  exact ⟨rfl, rfl⟩
theorem m11_long (A : Nat → Addr) (s : ByteArray) (hs : 512 < s.size) (w : World) (h : Sents 95 A 9 w) : Calls Tryz.prog 11 #[.string s] w fun e w' => e = .returned (.tuple #[.pointer none, .iface 95 (.pointer (some (A 0)))]) ∧ Below w.heap.size w w' := by
  have q0 := h.cell 0 (by omega)
  have hi : (512 : Int) < (s.size : Int) := by omega
  have hb := Lib.hid (Below.refl w.heap.size w)
  clear h
  go_enter Tryz.func11, Tryz.ntmps11
  go_upto_region 2 with fail
  go_region_with fail
  all_goals (try go_wp2)
  all_goals go_ret2
  exact ⟨rfl, hb.out.drew⟩
theorem validE : validS ([] : Bs) 0 = none := by decide +kernel
theorem parted_nil : Parted ⟨#[124, 124]⟩ (bytesOf []) [bytesOf []] := parted_bars [[]] (by simp) (by simp)
theorem valid_no {w : World} {R PB IB icap : Nat} (hp : PG w R PB IB icap validT) (hr : RH w R PB 4 1 50 1 24) (hT : Lib.Utf8Tabs 11 12 w) :
    Calls Tryz.prog 22 #[.pointer (some ⟨R, 0, none⟩), .string (bytesOf [])] w fun e w' => e = .returned (.bool false) ∧ Below w.heap.size w w' := by
  obtain ⟨n, hM⟩ := valid_M (txt_env validT (bytesOf [])) rfl 0 (Nat.zero_le _)
  have hv : validS (bytesOf []).data.toList 0 = none := validE
  refine (tMatchString (sur_of hp hT validT_ok (by decide) (by decide)) hr (by omega) (.emp 2 4) rfl (by decide) hM (fun h => hv)).mono ?_
  rintro e w' ⟨rfl, hb⟩
  exact ⟨by rw [hv]; rfl, hb⟩
theorem m11_many (A : Nat → Addr) (s : ByteArray) (hs : s.size ≤ 512) (hrw : noWD s.data.toList = true) (Vs : List ByteArray) (hp : Parted ⟨#[124, 124]⟩ s Vs) (hn : 32 < Vs.length) (hn2 : Vs.length ≤ 1000) (w : World) (h : Sents 95 A 9 w) (hT : Lib.Utf8Tabs 11 12 w) :
    Calls Tryz.prog 11 #[.string s] w fun e w' => e = .returned (.tuple #[.pointer none, .iface 95 (.pointer (some (A 1)))]) ∧ Below w.heap.size w w' := by
  have hnz : 0 < Vs.length := List.length_pos_iff.2 hp.ne
  have k0 : ¬ (512 : Int) < (s.size : Int) := by omega
  have k1 : (32 : Int) < (Vs.length : Int) := by omega
  have HR := Lib.hid (tRewrite s w (by omega) hT hrw)
  have HP := Lib.hid (fun w => t38 s ⟨#[124, 124]⟩ Vs hp (by omega) (by decide) (by decide) w)
  have HA := Lib.hid h
  clear hs hrw hp hT h
  go_enter Tryz.func11, Tryz.ntmps11
  go_upto_region 6 with (first
    | (go_at_call 19; refine HR.out.mono ?_; rintro e w1 ⟨rfl, hb1⟩; have HB1 := Lib.hid hb1; clear hb1)
    | (go_at_call 20; refine (HP.out _).mono ?_; rintro e w2 ⟨v2, rfl, ho, hb2⟩; obtain ⟨ob, oc, hv2, hob⟩ := World.ownsRow.form ho hnz; subst hv2; have HO := Lib.hid (HB1.out.trans (hb2.mono HB1.out.size)); clear ho hb2 hob))
  have q1 := (HA.out.keep HO.out).cell 1 (by omega)
  go_region_with fail
  all_goals (try go_wp2)
  all_goals go_ret2
  exact ⟨rfl, HO.out.drew⟩
theorem m11_empty (w : World) (hT : Lib.Utf8Tabs 11 12 w) :
    Calls Tryz.prog 11 #[.string (bytesOf [])] w fun e w' => ∃ (n : Nat) (c : Array Value) (t : TypeId), e = .returned (.tuple #[.pointer none, .iface 95 (.pointer (some ⟨n, 0, none⟩))]) ∧ w.heap.size ≤ n ∧ w'.heap[n]? = some (.cells c t (0, 0)) ∧ Below w.heap.size w w' := by
  have HR := Lib.hid (tRewrite (bytesOf []) w (by decide) hT (by decide))
  have HP := Lib.hid (fun w => t38 (bytesOf []) ⟨#[124, 124]⟩ [bytesOf []] parted_nil (by decide) (by decide) (by decide) w)
  have HT := Lib.hid hT
  have m47 : ∀ w : World, (Instr.makeSlice 50 (.int .i64 1) (.int .i64 1)).run Tryz.prog w = .ok (.slice (some ⟨w.heap.size, 0, none⟩) 1 1) (w.alloc (.cells (reps 1 (.slice none 0 0)) 56)) := fun w => mk47 1 (by omega) w
  have m48 : ∀ w : World, (Instr.makeSlice 51 (.int .i64 1) (.int .i64 1)).run Tryz.prog w = .ok (.slice (some ⟨w.heap.size, 0, none⟩) 1 1) (w.alloc (.cells (reps 1 (.bool false)) 4)) := fun w => mk48 1 (by omega) w
  clear hT
  have hz : (bytesOf []).size = 0 := rfl
  go_enter Tryz.func11, Tryz.ntmps11
  go_upto_region 10 with (first
    | (go_at_call 19; refine HR.out.mono ?_; rintro e w1 ⟨rfl, hb1⟩; have HB1 := Lib.hid hb1; clear hb1)
    | (go_at_call 20; refine (HP.out _).mono ?_; rintro e w2 ⟨v2, rfl, ho, hb2⟩; obtain ⟨ob, oc, hv2, hob⟩ := World.ownsRow.form ho (by decide); subst hv2; obtain ⟨ocur, hob2, hoc⟩ := own_cells ho (by decide); have HO := Lib.hid (And.intro hob2 (And.intro hoc (HB1.out.trans (hb2.mono HB1.out.size)))); clear ho hb2 hob hob2 hoc))
  have q0 : w2.cell? ⟨ob, 0, none⟩ = some (.string (bytesOf [])) := by rw [cell_of_row _ _ _ _ _ _ HO.out.1, HO.out.2.1 0 (.string (bytesOf [])) rfl]
  have hob := (Array.getElem?_eq_some_iff.1 HO.out.1).1
  have hb4 := (HO.out.2.2.alloc HO.out.2.2.size (.cells (reps 1 (.slice none 0 0)) 56)).alloc (by have := HO.out.2.2.size; simp; omega) (.cells (reps 1 (.bool false)) 4)
  have q1 : ((w2.alloc (.cells (reps 1 (.slice none 0 0)) 56)).alloc (.cells (reps 1 (.bool false)) 4)).cell? ⟨ob, 0, none⟩ = some (.string (bytesOf [])) :=
    ((((Below.refl _ w2).alloc (Nat.le_refl _) _).alloc (by simp) _).cell (p := ⟨ob, 0, none⟩) hob).trans q0
  have HB4 := Lib.hid hb4
  generalize ((w2.alloc (.cells (reps 1 (.slice none 0 0)) 56)).alloc (.cells (reps 1 (.bool false)) 4)) = W3 at *
  clear m47 m48 q0 hb4
  go_wp2
  refine wp_loop_rounds 1 ?_
  rw [rounds_succ]
  go_wp2_with (first
    | (go_at_call 21; refine (t39 _).mono ?_; rintro e w4 ⟨R, PB, IB, icap, rfl, hp, hr, hb⟩; have HA := Lib.hid (And.intro hp (And.intro hr (HB4.out.trans (hb.mono HB4.out.size)))); clear hp hr hb)
    | (go_at_call 22; refine (valid_no HA.out.1 HA.out.2.1 (Utf8Tabs_below HT.out HA.out.2.2)).mono ?_; rintro e w5 ⟨rfl, hb5⟩; have HD := Lib.hid (HA.out.2.2.trans (hb5.mono HA.out.2.2.size)); clear hb5)
    | (go_at_call 23; refine (m23 _ _).mono ?_; rintro e w6 ⟨rfl, hw6⟩; have HE := Lib.hid hw6; clear hw6))
  go_ret2
  have hs := heap_alloc_new w5 (.cells #[.string ⟨#[105, 109, 112, 114, 111, 112, 101, 114, 32, 99, 111, 110, 115, 116, 114, 97, 105, 110, 116, 58, 32, 46, 46]⟩] 97 (0, 0))
  refine ⟨_, _, _, rfl, HD.out.size, by rw [HE.out]; exact hs, ?_⟩
  rw [HE.out]
  exact HD.out.alloc HD.out.size _
end Go.Proofs.YtkdecbloihoanaaGreatDoor.Sv
end
section
set_option linter.unusedVariables false
set_option linter.unusedSimpArgs false
/- ConstraintKind -/
namespace Go.Proofs.YtkdecbloihoanaaGreatDoor.Sv
open Go Go.RowKit Rx
set_option maxRecDepth 100000
theorem m7_ptr (A : Nat → Addr) (s : ByteArray) (w : World) (h : Sents 95 A 9 w) (j : Nat) (hj : j < 2) (H : Calls Tryz.prog 11 #[.string s] w fun e w' => e = .returned (.tuple #[.pointer none, .iface 95 (.pointer (some (A j)))]) ∧ Below w.heap.size w w') :
    Calls Tryz.prog 7 #[.string s] w fun e w' => e = .returned (.int .i64 (8 + j)) ∧ Below w.heap.size w w' := by
  have HH := Lib.hid H
  have HA := Lib.hid h
  clear H h
  have hv : (if A j = A 0 then 8 else if A j = A 1 then 9 else 10 : Int) = 8 + j := by
    have h1 := HA.out.ne 1 0 (by omega) (by omega) (by omega)
    have hjc : j = 0 ∨ j = 1 := by omega
    rcases hjc with rfl | rfl
    · simp
    · simp [h1]
  go_enter Tryz.func7, Tryz.ntmps7
  go_upto_region 2 with (go_at_call 11; refine HH.out.mono ?_; rintro e w1 ⟨rfl, hb⟩; have HB := Lib.hid hb; clear hb)
  obtain ⟨c, t, hr⟩ := (HA.out.keep HB.out).row j (by omega)
  have HM := Lib.hid (m12_ptr A w1 (HA.out.keep HB.out) (A j) c t hr (fun i h1 h2 => HA.out.ne j i (by omega) h2 (by omega)))
  rw [hv] at HM
  go_wp2_with (go_at_call 12; refine HM.out.mono ?_; rintro e w2 ⟨rfl, rfl⟩)
  go_ret
  exact ⟨rfl, HB.out⟩
theorem m7_empty (A : Nat → Addr) (w : World) (h : Sents 95 A 9 w) (hT : Lib.Utf8Tabs 11 12 w) :
    Calls Tryz.prog 7 #[.string (bytesOf [])] w fun e w' => e = .returned (.int .i64 10) ∧ Below w.heap.size w w' := by
  have HH := Lib.hid (m11_empty w hT)
  have HA := Lib.hid h
  clear hT h
  go_enter Tryz.func7, Tryz.ntmps7
  go_upto_region 2 with (go_at_call 11; refine HH.out.mono ?_; rintro e w1 ⟨n, c, t, rfl, hn, hc, hb⟩; have HB := Lib.hid (And.intro hn (And.intro hc hb)); clear hb hn hc)
  have hne : ∀ i, i < 9 → (⟨n, 0, none⟩ : Addr) ≠ A i := fun i hi e => by
    have h1 := HA.out.lt hi
    rw [← e] at h1
    have h2 := HB.out.1
    simp at h1; omega
  have HM := Lib.hid (m12_ptr A w1 (HA.out.keep HB.out.2.2) ⟨n, 0, none⟩ c t HB.out.2.1 (fun i h1 h2 => hne i h2))
  rw [if_neg (hne 0 (by omega)), if_neg (hne 1 (by omega))] at HM
  clear hne
  go_wp2_with (go_at_call 12; refine HM.out.mono ?_; rintro e w2 ⟨rfl, rfl⟩)
  go_ret
  exact ⟨rfl, HB.out.2.2⟩
theorem m7_ok (s : ByteArray) (w : World) (H : Calls Tryz.prog 11 #[.string s] w fun e w' => ∃ O, e = .returned (.tuple #[ptr O, .nilIface]) ∧ Below w.heap.size w w') :
    Calls Tryz.prog 7 #[.string s] w fun e w' => e = .returned (.int .i64 0) ∧ Below w.heap.size w w' := by
  have HH := Lib.hid H
  clear H
  go_enter Tryz.func7, Tryz.ntmps7
  go_wp2_with (first
    | (go_at_call 11; refine HH.out.mono ?_; rintro e w1 ⟨O, rfl, hb⟩; have HB := Lib.hid hb; clear hb)
    | (go_at_call 12; refine (m12_nil _).mono ?_; rintro e w2 ⟨rfl, rfl⟩))
  go_ret
  exact ⟨rfl, HB.out⟩
theorem GLOfE.ok {l : List TV} {g : GL} (h : GLOfE l g) (hg : ∀ t ∈ l, t.Good ∧ t.Fit ∧ t.pre.length ≤ 64) : g.Ok := by
  have key : ∀ (i : Nat) (q : GT), (g.t :: g.l.map (·.2))[i]? = some q → q.Ok := fun i q hq => by
    have hi : i < l.length := by
      have := (List.getElem?_eq_some_iff.1 hq).1
      simp at this; have := h.len; omega
    have h1 := h.t i l[i] q (List.getElem?_eq_getElem hi) hq
    have h2 := hg _ (List.getElem_mem hi)
    exact h1.ok h2.1 h2.2.1 h2.2.2
  refine ⟨h.B.ws, by have := h.B.len; omega, key 0 g.t rfl, fun y hy => ?_, h.R.ws⟩
  obtain ⟨j, hj, rfl⟩ := List.getElem_of_mem hy
  have h1 := (h.s _ hy).ok
  exact ⟨h1.1, h1.2.1, key (j + 1) _ (by simp [hj])⟩
theorem barred_len : ∀ (l : List Bs) (x : Bs), x ∈ l → x.length ≤ (barred l).length
  | [], _, h => by cases h
  | [y], x, h => by obtain rfl := List.mem_singleton.1 h; exact Nat.le_refl _
  | y :: z :: l, x, h => by
    rcases List.mem_cons.1 h with rfl | h
    · simp [barred]
    · have := barred_len (z :: l) x h
      simp [barred]; omega
/-- the kind of a constraint's text -/
def kindOf (n m : Nat) : Int := if 512 < n then 8 else if 32 < m then 9 else 0
theorem m7G (A : Nat → Addr) (C : List (List TV)) (G : List GL) (hC : COf C G) (hne : C ≠ []) (hl : C.length ≤ 96) (hg : ∀ r ∈ C, r.length ≤ 96 ∧ ∀ t ∈ r, t.Good ∧ t.Fit ∧ t.pre.length ≤ 64) (w : World) (h : Sents 95 A 9 w) (hT : Lib.Utf8Tabs 11 12 w) :
    Calls Tryz.prog 7 #[.string (bytesOf (ctextOf G))] w fun e w' => e = .returned (.int .i64 (kindOf (ctextOf G).length C.length)) ∧ Below w.heap.size w w' := by
  have hok : ∀ g ∈ G, g.Ok ∧ g.l.length < 1000 := fun g hm => by
    obtain ⟨j, hj, rfl⟩ := List.getElem_of_mem hm
    have hj2 : j < C.length := by rw [hC.len]; exact hj
    have h1 := hC.g j C[j] G[j] (List.getElem?_eq_getElem hj2) (List.getElem?_eq_getElem hj)
    have h2 := hg _ (List.getElem_mem hj2)
    exact ⟨h1.ok h2.2, by have := h1.len; omega⟩
  have hGne : G ≠ [] := fun e => by
    have := hC.len
    rw [e] at this
    exact hne (List.length_eq_zero_iff.1 this)
  unfold kindOf
  by_cases h1 : 512 < (ctextOf G).length
  · rw [if_pos h1]
    exact m7_ptr A _ w h 0 (by omega) (m11_long A _ (by rw [bytesOf_size]; exact h1) w h)
  · rw [if_neg h1]
    have hseg : ∀ x ∈ G.map GL.text, Seg x := fun x hx => by
      obtain ⟨g, hg, rfl⟩ := List.mem_map.1 hx
      exact (hok g hg).1.seg
    by_cases h2 : 32 < C.length
    · rw [if_pos h2]
      have hp := parted_bars (G.map GL.text) (by simpa using hGne) fun x hx => (hseg x hx).2.2
      have hlen := hC.len
      exact m7_ptr A _ w h 1 (by omega) (m11_many A (bytesOf (ctextOf G)) (by rw [bytesOf_size]; omega) (by rw [bytesOf_list]; exact (barred_seg _ hseg).1) _ hp (by simp; omega) (by simp; omega) w h hT)
    · rw [if_neg h2]
      have hlen := hC.len
      refine m7_ok _ w ((t31GL G hGne (fun g hg => (hok g hg).1) (by omega) (by omega) (fun g hg => ⟨?_, (hok g hg).2⟩) w hT).mono ?_)
      · have := barred_len (G.map GL.text) g.text (List.mem_map_of_mem hg)
        unfold ctextOf at h1
        omega
      · rintro e w' ⟨O, rfl, -, -, hb⟩
        exact ⟨O, rfl, hb⟩
end Go.Proofs.YtkdecbloihoanaaGreatDoor.Sv
end
section
set_option linter.unusedVariables false
set_option linter.unusedSimpArgs false
/- the law's walk -/
namespace Go.Proofs.YtkdecbloihoanaaGreatDoor.Sv
open Go Go.RowKit Rx
set_option maxRecDepth 100000
theorem sumL_ge {C : List (List TV)} {r : List TV} (h : r ∈ C) : r.length ≤ sumL C := by
  unfold sumL
  induction C with
  | nil => cases h
  | cons y C ih =>
    rcases List.mem_cons.1 h with rfl | h
    · simp
    · have := ih h
      simp; omega
theorem sumL_len {C : List (List TV)} (h : ∀ r ∈ C, r ≠ []) : C.length ≤ sumL C := by
  unfold sumL
  induction C with
  | nil => simp
  | cons y C ih =>
    have h1 := ih fun z hz => h z (List.mem_cons_of_mem _ hz)
    have h2 := List.length_pos_iff.2 (h y (by simp))
    simp; omega
/-- the numbers of the arguments -/
def U64C (C : List (List TV)) : Prop := ∀ r ∈ C, ∀ t ∈ r, t.a < 18446744073709551616 ∧ t.b < 18446744073709551616 ∧ t.c < 18446744073709551616
set_option maxHeartbeats 8000000 in
theorem lawA (A : Nat → Addr) (v : Value) (C : List (List TV)) (x : Int) (w : World) (hr : ConIn w.heap.size w v C) (hu : U64C C) (h : Sents 95 A 9 w) (hT : Lib.Utf8Tabs 11 12 w) :
    Calls Tryz.prog 3 #[v, .int .u64 x] w fun e w' => e = .returned (.bool true) ∧ Below w.heap.size w w' := by
  have HC := Lib.hid (And.intro hr (And.intro hu (And.intro h hT)))
  have H4 := Lib.hid (m4 v C w.heap.size w (Nat.le_refl _) hr)
  have H5 := Lib.hid (fun W (hb : Below w.heap.size w W) (hS : ShortC C) => m5 96 (by omega) v C w.heap.size W hb.size (hr.keep hb) hS)
  obtain ⟨a, cap, rfl, hc⟩ := hr
  clear hu h hT
  have HCC := Lib.hid hc
  clear hc
  go_enter Tryz.func3, Tryz.ntmps3
  go_upto_region 3 with (go_at_call 4; refine H4.out.mono ?_; rintro e w1 ⟨⟨r, rfl, hr⟩, hb⟩; have HB1 := Lib.hid (And.intro hr hb); clear hr hb)
  all_goals first
    | (go_ret; exact ⟨rfl, HB1.out.2⟩)
    | skip
  have hS : ShortC C := HB1.out.1 (by first | assumption | simp_all)
  have HS := Lib.hid hS
  have H5' := Lib.hid (H5.out w1 HB1.out.2 hS)
  clear hS
  go_upto_region 5 with (go_at_call 5; refine H5'.out.mono ?_; rintro e w2 ⟨⟨r2, rfl, hr⟩, hb⟩; have HB2 := Lib.hid (And.intro hr (HB1.out.2.trans (hb.mono HB1.out.2.size))); clear hr hb)
  all_goals first
    | (go_ret; exact ⟨rfl, HB2.out.2⟩)
    | skip
  have HG := Lib.hid (HB2.out.1 (by first | assumption | simp_all))
  have hclen : C.length ≤ 96 := Nat.le_trans (sumL_len fun r hr => (HG.out.row r hr).1) HG.out.sum
  have HR : Hid (∀ r ∈ C, r.length ≤ 96) := Lib.hid fun r hr => Nat.le_trans (sumL_ge hr) HG.out.sum
  have hci : (C.length : Int) ≤ 96 := by omega
  go_wp2
  go_loopw [19] (fun kv W => ∃ k : Nat, kv = .int .i64 k ∧ k ≤ C.length ∧ Hid (Below w.heap.size w W ∧ ∀ j (h : j < C.length), j < k → ∀ t ∈ C[j]'h, t.pre.length ≤ 64)) (fun kv _ => 300 - (intOf kv).toNat)
  case atStart => exact ⟨0, rfl, Nat.zero_le _, Lib.hid ⟨HB2.out.2, fun j h h' => by omega⟩⟩
  case round =>
    obtain ⟨k, rfl, hk, HW⟩ := hrel
    by_cases c : k < C.length
    · have c1 : (k : Int) < (C.length : Int) := by omega
      obtain ⟨t, ht⟩ : ∃ t, C[k]'c = t := ⟨_, rfl⟩
      obtain ⟨B, off, u, rfl, hB, hq, hr⟩ := HCC.out k t (by rw [List.getElem?_eq_getElem c, ht])
      have q0 : wr.cell? ⟨B, off + k, none⟩ = some u := (HW.out.1.cell (p := ⟨B, off + k, none⟩) hB).trans hq
      have htl : t.length ≤ 96 := HR.out t (by rw [← ht]; exact List.getElem_mem c)
      have hti : (t.length : Int) ≤ 96 := by omega
      have HT := Lib.hid (And.intro ht hr)
      obtain ⟨ua, uc, hu, hri⟩ := hr
      subst hu
      have HRI := Lib.hid hri
      clear ht hq hri
      go_wp2
      go_loopw [25] (fun iv W => ∃ i : Nat, iv = .int .i64 i ∧ i ≤ t.length ∧ Hid (Below w.heap.size w W ∧ ∀ j (h : j < t.length), j < i → (t[j]'h).pre.length ≤ 64)) (fun iv _ => 300 - (intOf iv).toNat)
      case atStart => exact ⟨0, rfl, Nat.zero_le _, Lib.hid ⟨HW.out.1, fun j h h' => by omega⟩⟩
      case round =>
        obtain ⟨i, rfl, hi, HI⟩ := hrel
        by_cases ci : i < t.length
        · have ci1 : (i : Int) < (t.length : Int) := by omega
          obtain ⟨z, hz⟩ : ∃ z, t[i]'ci = z := ⟨_, rfl⟩
          obtain ⟨B2, off2, rfl, hB2, hq⟩ := HRI.out i z (by rw [List.getElem?_eq_getElem ci, hz])
          obtain ⟨q0, q1, q2, q3, q4, q5⟩ := hq.keep hB2 HI.out.1
          have HZ := Lib.hid hz
          clear hz hq
          obtain ⟨op, g, za, zb, zc, pre⟩ := z
          simp only at *
          have hsz := bytesOf_size pre
          have HAl := Lib.hid (HI.out.1.alloc HI.out.1.size (.cells #[.int .i64 op, .int .i64 g, .int .u64 za, .int .u64 zb, .int .u64 zc, .string (bytesOf pre)] 28))
          by_cases hp : (64 : Int) < (pre.length : Int)
          · go_wp2
            go_ret
            exact ⟨rfl, HAl.out⟩
          · go_wp2
            refine ⟨⟨i + 1, by simp, by omega, Lib.hid ⟨HAl.out, fun j h h' => ?_⟩⟩, by simp [intOf]; omega⟩
            by_cases hj : j = i
            · subst hj; rw [HZ.out]; simp only; omega
            · exact HI.out.2 j h (by omega)
        · have hit : i = t.length := by omega
          subst hit
          go_wp2
          refine ⟨⟨k + 1, by simp, by omega, Lib.hid ⟨HI.out.1, fun j h h' => ?_⟩⟩, by simp [intOf]; omega⟩
          by_cases hj : j = k
          · subst hj
            rw [HT.out.1]
            intro z hz
            obtain ⟨m, hm, rfl⟩ := List.getElem_of_mem hz
            exact HI.out.2 m hm hm
          · exact HW.out.2 j h (by omega)
    · have hkn : k = C.length := by omega
      subst hkn
      have hall : ∀ r ∈ C, r ≠ [] ∧ r.length ≤ 96 ∧ ∀ t ∈ r, t.Good ∧ t.Fit ∧ t.pre.length ≤ 64 := fun r hr => by
        obtain ⟨h1, h2⟩ := HG.out.row r hr
        refine ⟨h1, HR.out r hr, fun t ht => ?_⟩
        have hp : t.pre.length ≤ 64 := by
          obtain ⟨j, hj, rfl⟩ := List.getElem_of_mem hr
          exact HW.out.2 j hj hj t ht
        have hu := HC.out.2.1 r hr t ht
        exact ⟨h2 t ht, ⟨hu.1, hu.2.1, hu.2.2, by omega⟩, hp⟩
      have HALL := Lib.hid hall
      have HM := Lib.hid (m6 _ C w.heap.size x wr (HC.out.1.keep HW.out.1) HW.out.1.size HG.out.pos (by omega) fun r hr => ⟨(hall r hr).1, by have := (hall r hr).2.1; omega, fun t ht => ⟨((hall r hr).2.2 t ht).1, ((hall r hr).2.2 t ht).2.1⟩⟩)
      clear hall
      go_upto_region 16 with (go_at_call 6; refine HM.out.mono ?_; rintro e w2 ⟨G, rfl, h1, h2, h3⟩; have HB3 := Lib.hid (HW.out.1.trans (h3.mono HW.out.1.size)); have HGC := Lib.hid (And.intro h1 h2); clear h1 h2 h3)
      have hm7 := m7G A C G HGC.out.1 HG.out.pos hclen (fun r hr => (HALL.out r hr).2) w2 (HC.out.2.2.1.keep HB3.out) (Utf8Tabs_below HC.out.2.2.2 HB3.out)
      have hsz := bytesOf_size (ctextOf G)
      have hl := HGC.out.2
      unfold kindOf at hm7
      generalize ctextOf G = X at hm7 hsz hl ⊢
      by_cases h1 : 512 < X.length
      · rw [if_pos h1] at hm7
        have HM7 := Lib.hid hm7
        clear hm7
        have h1i : (512 : Int) < (X.length : Int) := by omega
        go_wp2_with (first
          | (go_at_call 7; refine HM7.out.mono ?_; rintro e w3 ⟨rfl, hb⟩; have HB4 := Lib.hid (HB3.out.trans (hb.mono HB3.out.size)); clear hb HM7)
          | (go_at_call 7; refine (m7_empty A _ (HC.out.2.2.1.keep HB4.out) (Utf8Tabs_below HC.out.2.2.2 HB4.out)).mono ?_; rintro e w4 ⟨rfl, hb⟩; have HB5 := Lib.hid (HB4.out.trans (hb.mono HB4.out.size)); clear hb))
        go_ret
        exact ⟨rfl, HB5.out⟩
      · rw [if_neg h1] at hm7
        have h1i : ¬ (512 : Int) < (X.length : Int) := by omega
        by_cases h2 : 32 < C.length
        · rw [if_pos h2] at hm7
          have HM7 := Lib.hid hm7
          clear hm7
          have h2i : (32 : Int) < (C.length : Int) := by omega
          go_wp2_with (first
            | (go_at_call 7; refine HM7.out.mono ?_; rintro e w3 ⟨rfl, hb⟩; have HB4 := Lib.hid (HB3.out.trans (hb.mono HB3.out.size)); clear hb HM7)
            | (go_at_call 7; refine (m7_empty A _ (HC.out.2.2.1.keep HB4.out) (Utf8Tabs_below HC.out.2.2.2 HB4.out)).mono ?_; rintro e w4 ⟨rfl, hb⟩; have HB5 := Lib.hid (HB4.out.trans (hb.mono HB4.out.size)); clear hb))
          go_ret
          exact ⟨rfl, HB5.out⟩
        · rw [if_neg h2] at hm7
          have HM7 := Lib.hid hm7
          clear hm7
          have h2i : ¬ (32 : Int) < (C.length : Int) := by omega
          go_wp2_with (first
            | (go_at_call 7; refine HM7.out.mono ?_; rintro e w3 ⟨rfl, hb⟩; have HB4 := Lib.hid (HB3.out.trans (hb.mono HB3.out.size)); clear hb HM7)
            | (go_at_call 7; refine (m7_empty A _ (HC.out.2.2.1.keep HB4.out) (Utf8Tabs_below HC.out.2.2.2 HB4.out)).mono ?_; rintro e w4 ⟨rfl, hb⟩; have HB5 := Lib.hid (HB4.out.trans (hb.mono HB4.out.size)); clear hb))
          go_ret
          exact ⟨rfl, HB5.out⟩
end Go.Proofs.YtkdecbloihoanaaGreatDoor.Sv
end
section
set_option linter.unusedVariables false
set_option linter.unusedSimpArgs false
/- lists of lists of terms that come as an argument are read -/
namespace Go.Proofs.YtkdecbloihoanaaGreatDoor.Sv
open Go Go.ChangeShapes Go.WideShapes Go.ChangeAt Go.RowKit Go.Joins Go.Deep Rx
set_option maxRecDepth 100000
theorem add_none {a : Addr} (h : a.spot = none) (k : Nat) : a.add k = ⟨a.block, a.off + k, none⟩ := by
  obtain ⟨b, o, sp⟩ := a
  simp only at h
  subst h
  unfold Addr.add
  split
  · rename_i h; subst h; rfl
  · rfl
theorem list_of {α : Type} {Q : Nat → α → Prop} : ∀ (n : Nat), (∀ i, i < n → ∃ r, Q i r) → ∃ l : List α, l.length = n ∧ ∀ i r, l[i]? = some r → Q i r
  | 0, _ => ⟨[], rfl, by simp⟩
  | n + 1, h => by
    obtain ⟨l, h1, h2⟩ := list_of n fun i hi => h i (by omega)
    obtain ⟨r, hr⟩ := h n (by omega)
    refine ⟨l ++ [r], by simp [h1], fun i r' hi => ?_⟩
    by_cases hin : i < n
    · rw [List.getElem?_append_left (by omega)] at hi
      exact h2 i r' hi
    · have hie : i = n := by
        have := (List.getElem?_eq_some_iff.1 hi).1
        simp at this; omega
      subst hie
      rw [List.getElem?_append_right (by omega)] at hi
      obtain rfl : r = r' := by simpa [h1] using hi
      exact hr
theorem natu64 {z : Int} (h : (Lit.int .u64 z).wf = true) : ∃ n : Nat, z = (n : Int) ∧ n < 18446744073709551616 := by
  have e1 : IntKind.u64.min = 0 := rfl
  have e2 : IntKind.u64.max = 18446744073709551615 := rfl
  simp [Lit.wf, e1, e2] at h
  exact ⟨z.toNat, by omega, by omega⟩
section
variable {H : Type} {enc : TypeId × Value → H} {w : World} {base : Nat} {spare : Nat → Bool} {held : Bool}
theorem spot_none {w : World} {a : Addr} {v : Value} (h : w.cell? a = some v) : a.spot = none ∧ a.block < w.heap.size := by
  unfold World.cell? at h
  split at h
  · rename_i c _ _ hb
    split at h
    · cases h
    · rename_i hs
      exact ⟨by simpa using hs, (Array.getElem?_eq_some_iff.1 hb).1⟩
  · cases h
theorem openTerm {a : Addr} {cs : List Value} {fuel : Nat} {x : DataW H × List MemPlace} (hcs : w.cells? base a 6 = some cs) (h : DataW.trod enc Tryz.prog w base spare held fuel 28 cs = some x) :
    ∃ t : TV, a.spot = none ∧ a.block < w.heap.size ∧ TermAt w a.block a.off t ∧ t.a < 18446744073709551616 ∧ t.b < 18446744073709551616 ∧ t.c < 18446744073709551616 := by
  obtain ⟨-, hlen, hc⟩ := World.cells?_some hcs
  obtain ⟨xs, n, _, hx, _, hxl, hg⟩ := DataW.trod_struct Tryz.underlying28 h
  match cs, hlen with
  | [c0, c1, c2, c3, c4, c5], _ =>
    match xs, hxl with
    | [y0, y1, y2, y3, y4, y5], _ =>
      have g0 := hg 0 _ rfl
      have g1 := hg 1 _ rfl
      have g2 := hg 2 _ rfl
      have g3 := hg 3 _ rfl
      have g4 := hg 4 _ rfl
      have g5 := hg 5 _ rfl
      have k3 : Tryz.prog.cellsOf 3 = 1 := by kernel_rfl
      have k23 : Tryz.prog.cellsOf 23 = 1 := by kernel_rfl
      have k9 : Tryz.prog.cellsOf 9 = 1 := by kernel_rfl
      simp [k3, k23, k9] at g0 g1 g2 g3 g4 g5
      obtain ⟨z0, e0, -, w0⟩ := DataW.trod_int Tryz.underlying3 g0
      obtain ⟨z1, e1, -, w1⟩ := DataW.trod_int Tryz.underlying3 g1
      obtain ⟨z2, e2, -, w2⟩ := DataW.trod_int Tryz.underlying23 g2
      obtain ⟨z3, e3, -, w3⟩ := DataW.trod_int Tryz.underlying23 g3
      obtain ⟨z4, e4, -, w4⟩ := DataW.trod_int Tryz.underlying23 g4
      obtain ⟨z5, e5, -, w5⟩ := DataW.trod_string Tryz.underlying9 g5
      injection e0 with e0 _
      injection e1 with e1 _
      injection e2 with e2 _
      injection e3 with e3 _
      injection e4 with e4 _
      injection e5 with e5 _
      subst e0 e1 e2 e3 e4 e5
      obtain ⟨n2, rfl, h2⟩ := natu64 w2
      obtain ⟨n3, rfl, h3⟩ := natu64 w3
      obtain ⟨n4, rfl, h4⟩ := natu64 w4
      have q0 := hc 0 (by omega)
      have q1 := hc 1 (by omega)
      have q2 := hc 2 (by omega)
      have q3 := hc 3 (by omega)
      have q4 := hc 4 (by omega)
      have q5 := hc 5 (by omega)
      simp [Addr.add] at q0 q1 q2 q3 q4 q5
      obtain ⟨hs, hb⟩ := spot_none q0
      obtain ⟨B, off, sp⟩ := a
      simp only at hs
      subst hs
      exact ⟨⟨z0, z1, n2, n3, n4, z5.data.toList⟩, rfl, hb, ⟨q0, q1, q2, q3, q4, by rw [q5]; simp [bytesOf]⟩, h2, h3, h4⟩
theorem openRow {fuel : Nat} {v : Value} {x : DataW H × List MemPlace} (h : DataW.trod enc Tryz.prog w base spare held fuel 26 [v] = some x) :
    ∃ ts : List TV, RowIn w.heap.size w v ts ∧ ∀ t ∈ ts, t.a < 18446744073709551616 ∧ t.b < 18446744073709551616 ∧ t.c < 18446744073709551616 := by
  have k28 : Tryz.prog.cellsOf 28 = 6 := by kernel_rfl
  rcases DataW.trod_slice Tryz.underlying26 h with ⟨hcs, _⟩ | ⟨a, len, cap, elems, rest, n, _, hcs, hx, hb, hlc, hm, hel, hel2, _, _⟩
  · injection hcs with hcs _
    subst hcs
    exact ⟨[], ⟨none, 0, rfl, by simp⟩, by simp⟩
  · injection hcs with hcs _
    subst hcs
    have key : ∀ i, i < len → ∃ t : TV, (a.add (i * 6)).spot = none ∧ (a.add (i * 6)).block < w.heap.size ∧ TermAt w (a.add (i * 6)).block (a.add (i * 6)).off t ∧ t.a < 18446744073709551616 ∧ t.b < 18446744073709551616 ∧ t.c < 18446744073709551616 := fun i hi => by
      have h3 := hel2 i hi
      rw [k28, List.getElem?_eq_getElem (by omega)] at h3
      obtain ⟨cs, hcs, ht⟩ := Option.bind_eq_some_iff.1 h3
      exact openTerm hcs ht
    have hsp : 0 < len → a.spot = none := fun h0 => by
      obtain ⟨t, e1, -⟩ := key 0 h0
      simpa [Addr.add] using e1
    obtain ⟨l, h1, h2⟩ := list_of (Q := fun i (t : TV) => a.spot = none ∧ a.block < w.heap.size ∧ TermAt w a.block (a.off + i * 6) t ∧ t.a < 18446744073709551616 ∧ t.b < 18446744073709551616 ∧ t.c < 18446744073709551616) len fun i hi => by
      obtain ⟨t, e1, e2, e3, e4⟩ := key i hi
      have hs := hsp (by omega)
      rw [add_none hs] at e2 e3
      exact ⟨t, hs, e2, e3, e4⟩
    refine ⟨l, ⟨some a, cap, by rw [h1], fun i t ht => ?_⟩, fun t ht => ?_⟩
    · obtain ⟨e1, e2, e3, -⟩ := h2 i t ht
      obtain ⟨B, off, sp⟩ := a
      simp only at e1
      subst e1
      exact ⟨B, off, rfl, e2, e3⟩
    · obtain ⟨j, hj, rfl⟩ := List.getElem_of_mem ht
      exact (h2 j _ (List.getElem?_eq_getElem hj)).2.2.2
theorem openCon {fuel : Nat} {v : Value} {x : DataW H × List MemPlace} (h : DataW.trod enc Tryz.prog w base spare held fuel 22 [v] = some x) :
    ∃ C : List (List TV), ConIn w.heap.size w v C ∧ ∀ r ∈ C, ∀ t ∈ r, t.a < 18446744073709551616 ∧ t.b < 18446744073709551616 ∧ t.c < 18446744073709551616 := by
  have k26 : Tryz.prog.cellsOf 26 = 1 := by kernel_rfl
  rcases DataW.trod_slice Tryz.underlying22 h with ⟨hcs, _⟩ | ⟨a, len, cap, elems, rest, n, _, hcs, hx, hb, hlc, hm, hel, hel2, _, _⟩
  · injection hcs with hcs _
    subst hcs
    exact ⟨[], ⟨none, 0, rfl, by simp⟩, by simp⟩
  · injection hcs with hcs _
    subst hcs
    have key : ∀ i, i < len → ∃ r : List TV, ((a.add i).spot = none ∧ (a.add i).block < w.heap.size ∧ ∃ u, w.cell? (a.add i) = some u ∧ RowIn w.heap.size w u r) ∧ ∀ t ∈ r, t.a < 18446744073709551616 ∧ t.b < 18446744073709551616 ∧ t.c < 18446744073709551616 := fun i hi => by
      have h3 := hel2 i hi
      rw [k26, Nat.mul_one, List.getElem?_eq_getElem (by omega)] at h3
      obtain ⟨cs, hcs, ht⟩ := Option.bind_eq_some_iff.1 h3
      obtain ⟨-, hlen, hc⟩ := World.cells?_some hcs
      match cs, hlen with
      | [u], _ =>
        have q := hc 0 (by omega)
        have e0 : (a.add i).add 0 = a.add i := by simp [Addr.add]
        rw [e0] at q
        simp at q
        obtain ⟨s1, s2⟩ := spot_none q
        obtain ⟨r, hr1, hr2⟩ := openRow ht
        exact ⟨r, ⟨s1, s2, u, q, hr1⟩, hr2⟩
    have hsp : 0 < len → a.spot = none := fun h0 => by
      obtain ⟨t, ⟨e1, -⟩, -⟩ := key 0 h0
      simpa [Addr.add] using e1
    obtain ⟨l, h1, h2⟩ := list_of (Q := fun i (r : List TV) => (a.spot = none ∧ a.block < w.heap.size ∧ ∃ u, w.cell? ⟨a.block, a.off + i, none⟩ = some u ∧ RowIn w.heap.size w u r) ∧ ∀ t ∈ r, t.a < 18446744073709551616 ∧ t.b < 18446744073709551616 ∧ t.c < 18446744073709551616) len fun i hi => by
      obtain ⟨t, ⟨e1, e2, u, e3, e4⟩, e5⟩ := key i hi
      have hs := hsp (by omega)
      rw [add_none hs] at e2 e3
      exact ⟨t, ⟨hs, e2, u, e3, e4⟩, e5⟩
    refine ⟨l, ⟨some a, cap, by rw [h1], fun i r hr => ?_⟩, fun r hr => ?_⟩
    · obtain ⟨⟨e1, e2, u, e3, e4⟩, -⟩ := h2 i r hr
      obtain ⟨B, off, sp⟩ := a
      simp only at e1
      subst e1
      exact ⟨B, off, u, rfl, e2, e3, e4⟩
    · obtain ⟨j, hj, rfl⟩ := List.getElem_of_mem hr
      exact (h2 j _ (List.getElem?_eq_getElem hj)).2
end
end Go.Proofs.YtkdecbloihoanaaGreatDoor.Sv
end
section
set_option linter.unusedVariables false
set_option linter.unusedSimpArgs false
namespace Go.Proofs.YtkdecbloihoanaaGreatDoor.Sv
open Go Go.ChangeShapes Go.WideShapes Go.ChangeAt Go.RowKit Go.Joins Go.Deep
set_option maxRecDepth 100000
theorem own : ownKnob Tryz.prog.godebug = none := by kernel_rfl
theorem laidOut : laidOutB Tryz.prog = true := by kernel_rfl
abbrev laidL : List (String × DataW Unit) := Rows.fnSemverKindOfGroupsRow.laid
/-- the tables that the row lists -/
theorem tabs_of {W : World} (hL : laidMetH Tryz.prog laidL W) : Lib.Utf8Tabs 11 12 W := by
  rw [MakeChecks.laidMetH_plain _ _ _ (by kernel_rfl)] at hL
  have e1 : (Rows.laid_unicode_utf8_first : DataW Unit) = Lib.firstData := by kernel_rfl
  have e2 : (Rows.laid_unicode_utf8_acceptRanges : DataW Unit) = Lib.acceptData := by kernel_rfl
  have h1 := Lib.laidMet.reads hL (n := "unicode/utf8.first") (d := Rows.laid_unicode_utf8_first) (.tail _ (.tail _ (.tail _ (.tail _ (.tail _ (.tail _ (.tail _ (.tail _ (.tail _ (.tail _ (.tail _ (.tail _ (.tail _ (.tail _ (.tail _ (.head _))))))))))))))))
  have h2 := Lib.laidMet.reads hL (n := "unicode/utf8.acceptRanges") (d := Rows.laid_unicode_utf8_acceptRanges) (.tail _ (.tail _ (.tail _ (.head _))))
  rw [e1] at h1
  rw [e2] at h2
  exact utf8Tabs_of_reads (ρ := Tryz.lays197_ren) { Tryz.lays197 with } ⟨by kernel_rfl, by kernel_rfl, by kernel_rfl, by kernel_rfl, by kernel_rfl, by kernel_rfl, by kernel_rfl⟩ h1 h2
theorem star : "*" ++ "errors.errorString" = "*errors.errorString" := by decide
theorem row95 (u : TypeId) (h : Tryz.prog.typeName? 3 u = some "*errors.errorString") : u = 95 :=
  typeName_ptr_named (P := Tryz.prog) (nm := "errors.errorString") (by rw [star]; kernel_rfl) (by kernel_rfl) (by decide) u (by rw [star]; exact h)
/-- the sentinels that the row lists -/
theorem sents {W : World} (hL : laidMetH Tryz.prog laidL W) : ∃ A, Sents 95 A 9 W := by
  rw [MakeChecks.laidMetH_plain _ _ _ (by kernel_rfl)] at hL
  refine sents_of ⟨Tryz.underlying38, row95, Tryz.underlying95, Tryz.underlying97, rfl, rfl, Tryz.underlying9, by kernel_rfl, by kernel_rfl⟩ hL (fun i => [6, 7, 9, 14, 10, 11, 13, 12, 8].getD i 0) 9 (fun i hi => ?_) (fun i j hi hj h => ?_)
  · have : i = 0 ∨ i = 1 ∨ i = 2 ∨ i = 3 ∨ i = 4 ∨ i = 5 ∨ i = 6 ∨ i = 7 ∨ i = 8 := by omega
    rcases this with rfl | rfl | rfl | rfl | rfl | rfl | rfl | rfl | rfl
    all_goals exact ⟨_, _, rfl, by kernel_rfl, by kernel_rfl⟩
  · have h1 : i = 0 ∨ i = 1 ∨ i = 2 ∨ i = 3 ∨ i = 4 ∨ i = 5 ∨ i = 6 ∨ i = 7 ∨ i = 8 := by omega
    have h2 : j = 0 ∨ j = 1 ∨ j = 2 ∨ j = 3 ∨ j = 4 ∨ j = 5 ∨ j = 6 ∨ j = 7 ∨ j = 8 := by omega
    rcases h1 with rfl | rfl | rfl | rfl | rfl | rfl | rfl | rfl | rfl <;> rcases h2 with rfl | rfl | rfl | rfl | rfl | rfl | rfl | rfl | rfl <;> first | rfl | (simp at h)
theorem lifted (os : Os) (started : os.Started) (H : Type) (enc : TypeId × Value → H) :
    ReturnsInHanded {} Tryz.checked os 3 .any (fun w args => (Rows.fnSemverKindOfGroupsSpec.pre enc Tryz.prog Tryz.f3 Rows.fnSemverKindOfGroupsRow.domain false w args ∧ laidMetH Tryz.prog laidL w) ∧ sizedMet enc Tryz.prog Tryz.f3 (OpenSpec.ofChange Rows.fnSemverKindOfGroupsSpec) false w args)
      (Rows.fnSemverKindOfGroupsSpec.post enc Tryz.prog Tryz.f3 false true false false) := by
  refine returnsInHanded_of_change_and (C := Tryz.checked) (X := fun w _ => laidMetH Tryz.prog laidL w) (fun _ _ _ hh h => h.of_heap hh) own started (by kernel_rfl) Tryz.func3
    (ChangeSpec.witness_shaped (enc := enc) (C := Tryz.checked) (os := os) (X := fun w _ => laidMetH Tryz.prog laidL w) false (World.laidAll Tryz.prog os laidL) #[.slice none 0 0, .int .u64 0] 8 (World.laidAll_os _ _ _)
      (World.shaped_of_ZipB (by kernel_rfl) (by kernel_rfl)) (by kernel_rfl) (by kernel_rfl) (by kernel_rfl)
      (by rw [MakeChecks.laidMetH_plain _ _ _ (by kernel_rfl)]; exact laidMet_laidAll _ (by kernel_rfl) (by kernel_rfl))) ?_
  intro W base args ds gs before hval0 hW hc _ hL _
  have hval : ∀ (j : Nat) t v, Tryz.f3.params[j]? = some t → args[j]? = some v → Value.okWide Tryz.prog W .any base t v := hval0
  have hW' := hW
  obtain ⟨p, q, hA0, hV, rfl, hfz, hnd⟩ := hW
  have hA : DataW.TrodAll enc Tryz.prog W 0 (fun _ => true) true Tryz.f3.params.toList args.toList ds p := hA0
  rw [Tryz.params3] at hA hval
  obtain ⟨v0, vs0, d0, ds0, p0, q0, hargs, rfl, rfl, h0, r0⟩ := trodAll_cons hA
  obtain ⟨v1, vs1, d1, ds1, p1, q1, rfl, rfl, rfl, h1, r1⟩ := trodAll_cons r0
  obtain ⟨rfl, rfl, rfl⟩ := trodAll_nil r1
  obtain rfl : args = #[v0, v1] := by cases args; simp_all
  obtain ⟨rfl, rfl⟩ := trodVars_none hV
  have k0 := h0
  have lt0 : ∀ x ∈ p0, x.block < W.heap.size := by obtain ⟨m, hm⟩ := k0; exact DataW.trod_lt m _ _ _ hm
  have k1 := h1
  have lt1 : ∀ x ∈ p1, x.block < W.heap.size := by obtain ⟨m, hm⟩ := k1; exact DataW.trod_lt m _ _ _ hm
  obtain ⟨m0, hm0⟩ := h0
  obtain ⟨sa, sl, sc, rfl⟩ := okWide_slice Tryz.underlying22 (hval 0 22 v0 rfl rfl)
  obtain ⟨C, hC, hU⟩ := openCon (v := .slice sa sl sc) hm0
  obtain ⟨x, rfl, -, -⟩ := open_int Tryz.underlying23 (hval 1 23 v1 rfl rfl) h1
  obtain ⟨A, hA⟩ := sents hL
  refine (lawA A (.slice sa sl sc) C x W hC hU hA (tabs_of hL)).mono fun e W' h => ?_
  obtain ⟨he, bel⟩ := h
  subst he
  exact ⟨_, rfl, _, _, _, [], _, [], hW', trodAll_mk1 (shut_bool Tryz.underlying4 _), (trodAll_cons_mk (Below.trod laidOut (by kernel_rfl) (of_decide_eq_true (by kernel_rfl)) k0 bel lt0) (trodAll_cons_mk (Below.trod laidOut (by kernel_rfl) (of_decide_eq_true (by kernel_rfl)) k1 bel lt1) trodAll_mk0)), rfl, bel.frame _, fun h => by cases h⟩
theorem over : Rows.FnSemverKindOfGroupsSaid :=
  OpenClaim.holds_of_wide 3 Tryz.f3 rfl rfl rfl rfl rfl rfl rfl ⟨rfl, rfl, rfl, rfl, rfl⟩ rfl rfl rfl rfl rfl (by kernel_rfl) Tryz.func3 (by kernel_rfl)
    (of_decide_eq_true (by kernel_rfl)) (by unfold Func.isWrapper; first | (rw [if_pos (by decide +kernel)]; kernel_rfl) | (rw [if_neg (by decide +kernel)]; exact ⟨rfl, rfl⟩))
    (fun os started H enc _ => lifted os started H enc)
end Go.Proofs.YtkdecbloihoanaaGreatDoor.Sv
namespace Go.Proofs.YtkdecbloihoanaaGreatDoor
/-- The law holds of every input; what it lists is tied to the program's text. -/
theorem fnSemverKindOfGroups_card : Rows.FnSemverKindOfGroupsCardSaid :=
  Claim7.holds_tied_plain_at .later [] [.data, .data, .data, .data, .sentinel, .sentinel, .sentinel, .sentinel, .sentinel, .sentinel, .sentinel, .sentinel, .sentinel, .sentinel, .sentinel, .pinned] true (true, "24b2fca3fc91efd62b1f5a0b369b57fdca3cb881158cb07a26790e43340d1e10") true Sv.over (fun _ h => by cases h) (by kernel_rfl) (fun _ h => by cases h) fnSemverKindOfGroups_row_tie rfl ⟨rfl, rfl⟩ (by kernel_rfl) rfl
    (fun f fn hf hfn => by
      obtain rfl : f = 3 := Option.some.inj ((show Tryz.prog.funcNamed "pub-timebook/laws.FnSemverKindOfGroups" = some 3 by kernel_rfl).symm.trans hf) |>.symm
      obtain rfl : fn = Tryz.f3 := (Option.some.inj (Tryz.func3.symm.trans hfn)).symm
      exact ⟨by kernel_rfl, fun j t ht => by
        rw [Tryz.params3] at ht
        have hm : t ∈ [22, 23] := by simpa using Array.mem_of_getElem? ht
        have hall : ([22, 23].all fun u => !Tryz.prog.wantsStandIn u) = true := by kernel_rfl
        exact (show Tryz.prog.wantsStandIn t = false by simpa using List.all_eq_true.1 hall t hm)⟩)
    (by kernel_rfl)
end Go.Proofs.YtkdecbloihoanaaGreatDoor
#print axioms Go.Proofs.YtkdecbloihoanaaGreatDoor.fnSemverKindOfGroups_card
end
