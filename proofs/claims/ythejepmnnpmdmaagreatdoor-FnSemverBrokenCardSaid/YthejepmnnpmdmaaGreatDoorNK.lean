/- a part of the proof: FnSemverBroken: for every list of lists of terms, every style and every byte the law's function returns true and leaves its arguments as they were. No condition is added: the statement is the given one, the tied card. -/
import Derived.Test.YthejepmnnpmdmaaGreatDoorNJ
import Derived.Test.YthejepmnnpmdmaaGreatDoorNH
import Derived.Test.YthejepmnnpmdmaaGreatDoorNB
import Derived.Deep.RegionWith
import Derived.Test.YthejepmnnpmdmaaGreatDoorNG
import Derived.Deep.CutRange
import Derived.Test.YthejepmnnpmdmaaGreatDoorNI
section
set_option linter.unusedVariables false
set_option linter.unusedSimpArgs false
/- ConstraintTexts, ConstraintText -/
namespace Go.Proofs.YthejepmnnpmdmaaGreatDoor.Sv
open Go Go.RowKit Rx
set_option maxRecDepth 100000
def edgeB (b : Bs) : Prop := b = [] ∨ b = [32]
/-- a list of terms in one of its ways, a blank or none about it -/
structure GLOfE (l : List TV) (g : GL) : Prop where
  B : edgeB g.B
  R : edgeB g.R
  len : l.length = g.l.length + 1
  t : ∀ (i : Nat) (t : TV) (q : GT), l[i]? = some t → (g.t :: g.l.map (·.2))[i]? = some q → GTOf t q
  s : ∀ y ∈ g.l, sepB y.1
theorem GLOf.edge {l : List TV} {g : GL} (h : GLOf l g) {b : Bs} (hb : edgeB b) : GLOfE l { g with B := b } := ⟨hb, by rw [h.R]; exact .inl rfl, h.len, h.t, h.s⟩
theorem GLOfE.setR {l : List TV} {g : GL} (h : GLOfE l g) {r : Bs} (hr : edgeB r) : GLOfE l { g with R := r } := ⟨h.B, hr, h.len, h.t, h.s⟩
/-- a constraint in one of its ways -/
structure COf (C : List (List TV)) (G : List GL) : Prop where
  len : C.length = G.length
  g : ∀ (i : Nat) (r : List TV) (g : GL), C[i]? = some r → G[i]? = some g → GLOfE r g
theorem COf.snoc {C : List (List TV)} {G : List GL} (h : COf C G) {r : List TV} {g : GL} (hg : GLOfE r g) : COf (C ++ [r]) (G ++ [g]) := by
  refine ⟨by simp [h.len], fun i r' g' h1 h2 => ?_⟩
  by_cases hi : i < C.length
  · rw [List.getElem?_append_left hi] at h1
    rw [List.getElem?_append_left (by have := h.len; omega)] at h2
    exact h.g i r' g' h1 h2
  · have hi2 : i = C.length := by
      have := (List.getElem?_eq_some_iff.1 h1).1
      simp at this; omega
    subst hi2
    obtain rfl : r = r' := by simpa using h1
    rw [h.len] at h2
    obtain rfl : g = g' := by simpa using h2
    exact hg
theorem COf.setR {C : List (List TV)} {G0 : List GL} {gl : GL} (h : COf C (G0 ++ [gl])) {r : Bs} (hr : edgeB r) : COf C (G0 ++ [{ gl with R := r }]) := by
  refine ⟨by rw [h.len]; simp, fun i r' g' h1 h2 => ?_⟩
  by_cases hi : i < G0.length
  · rw [List.getElem?_append_left hi] at h2
    exact h.g i r' g' h1 (by rw [List.getElem?_append_left hi]; exact h2)
  · have hi2 : i = G0.length := by
      have := (List.getElem?_eq_some_iff.1 h2).1
      simp at this; omega
    subst hi2
    obtain rfl : { gl with R := r } = g' := by simpa using h2
    exact (h.g _ r' gl h1 (by simp)).setR hr
theorem barred_snoc (l : List Bs) (x y : Bs) : barred (l ++ [x, y]) = barred (l ++ [x]) ++ (124 :: 124 :: y) := by
  induction l with
  | nil => simp [barred]
  | cons z l ih =>
    cases l with
    | nil => simp [barred]
    | cons z2 l => simp only [List.cons_append, barred] at ih ⊢; rw [ih]; simp
theorem barred_app (l : List Bs) (x r : Bs) : barred (l ++ [x ++ r]) = barred (l ++ [x]) ++ r := by
  induction l with
  | nil => simp [barred]
  | cons z l ih =>
    cases l with
    | nil => simp [barred]
    | cons z2 l => simp only [List.cons_append, barred] at ih ⊢; rw [ih]; simp
theorem ctext_step (G0 : List GL) (gl g : GL) (r b : Bs) (hR : gl.R = []) (hB : g.B = []) : ctextOf (G0 ++ [{ gl with R := r }] ++ [{ g with B := b }]) = ctextOf (G0 ++ [gl]) ++ (r ++ (124 :: 124 :: b) ++ g.text) := by
  have e1 : ({ gl with R := r } : GL).text = gl.text ++ r := by simp [GL.text, GL.rest, GL.hd, hR]
  have e2 : ({ g with B := b } : GL).text = b ++ g.text := by simp [GL.text, GL.rest, GL.hd, hB, ltail, Sep.text, ctext]
  unfold ctextOf
  have e3 : (G0 ++ [{ gl with R := r }] ++ [{ g with B := b }]).map GL.text = G0.map GL.text ++ [gl.text ++ r, b ++ g.text] := by simp [e1, e2]
  rw [e3, barred_snoc, barred_app]
  simp
theorem ctext_one (g : GL) : ctextOf [g] = g.text := rfl
/-- the text so far -/
def CTx (C : List (List TV)) (k : Nat) (X : Bs) : Prop := (k = 0 ∧ X = []) ∨ (0 < k ∧ ∃ G0 gl, COf (C.take k) (G0 ++ [gl]) ∧ gl.R = [] ∧ X = ctextOf (G0 ++ [gl]))
def barrow : Obj := .cells #[.string ⟨#[32, 124, 124, 32]⟩, .string ⟨#[124, 124]⟩, .string ⟨#[32, 124, 124]⟩, .string ⟨#[124, 124, 32]⟩] 9 (0, 0)
theorem bar4cell {W : World} {P q : Nat} (h : W.heap[P]? = some barrow) (hq : q < 4) : ∃ r b : Bs, edgeB r ∧ edgeB b ∧ W.cell? ⟨P, q, none⟩ = some (.string (bytesOf (r ++ (124 :: 124 :: b)))) := by
  have h' : q = 0 ∨ q = 1 ∨ q = 2 ∨ q = 3 := by omega
  unfold barrow at h
  rcases h' with rfl | rfl | rfl | rfl
  · exact ⟨[32], [32], .inr rfl, .inr rfl, cell_of_row _ _ _ _ _ _ h⟩
  · exact ⟨[], [], .inl rfl, .inl rfl, cell_of_row _ _ _ _ _ _ h⟩
  · exact ⟨[32], [], .inr rfl, .inl rfl, cell_of_row _ _ _ _ _ _ h⟩
  · exact ⟨[], [32], .inl rfl, .inr rfl, cell_of_row _ _ _ _ _ _ h⟩
theorem edgeB.len {b : Bs} (h : edgeB b) : b.length ≤ 1 := by rcases h with rfl | rfl <;> decide
theorem edgeB.ws {b : Bs} (h : edgeB b) : ∀ y ∈ b, ws y = true := by rcases h with rfl | rfl <;> decide
set_option maxHeartbeats 8000000 in
theorem m10 (v : Value) (C : List (List TV)) (n : Nat) (x : Int) (w : World) (hr : ConIn n w v C) (hn : n ≤ w.heap.size) (hne : C ≠ []) (hl : C.length ≤ 1000) (hg : ∀ r ∈ C, r ≠ [] ∧ r.length ≤ 1000 ∧ ∀ t ∈ r, t.Good ∧ t.Fit) :
    Calls Tryz.prog 13 #[v, .int .u64 x] w fun e w' => ∃ (G : List GL) (T : Bs), e = .returned (.tuple #[.string (bytesOf (ctextOf G)), .string (bytesOf T)]) ∧ COf C G ∧ (ctextOf G).length ≤ 2147483800004000 ∧ Below w.heap.size w w' := by
  obtain ⟨a, cap, rfl, hc⟩ := hr
  have HC := Lib.hid (And.intro hc (And.intro hn (And.intro hne hg)))
  clear hc hn hne hg
  have hlen : (C.length : Int) ≤ 1000 := by omega
  have HM0 := Lib.hid (m16 x w)
  go_enter Tryz.func13, Tryz.ntmps13
  go_upto_region 2 with (go_at_call 20; refine HM0.out.mono ?_; rintro e w1 ⟨rfl, hw1⟩; have HW1 := Lib.hid hw1; clear hw1)
  have hS := heap_alloc_new w (.cells #[.int .u64 x] 74 (0, 0))
  rw [← show w1 = _ from HW1.out] at hS
  have hb1 : Below w.heap.size w w1 := by rw [HW1.out]; exact (Below.refl _ _).alloc (Nat.le_refl _) _
  obtain ⟨S, hSS⟩ : ∃ S, S = w.heap.size := ⟨_, rfl⟩
  rw [← hSS] at hS ⊢
  have HSS := Lib.hid hSS
  have H0 : ST w1 S w1 := ⟨⟨x, hS⟩, Below.refl _ _, Nat.le_refl _, (Array.getElem?_eq_some_iff.1 hS).1⟩
  have H00 := Lib.hid (And.intro H0 (show Below S w w1 by rw [hSS]; exact hb1))
  clear hSS hS hb1 HW1 HM0 H0
  go_wp2
  go_loopw [4, 5, 15] (fun xv tv kv W => ∃ (k : Nat) (X T : Bs), kv = .int .i64 k ∧ xv = .string (bytesOf X) ∧ tv = .string (bytesOf T) ∧ k ≤ C.length ∧ Hid (CTx C k X ∧ X.length ≤ k * 2147483800004 ∧ T.length ≤ k * 2147483800004 ∧ ST w1 S W)) (fun _ _ kv _ => 3000 - (intOf kv).toNat)
  case atStart => exact ⟨0, [], [], rfl, rfl, rfl, Nat.zero_le _, Lib.hid ⟨.inl ⟨rfl, rfl⟩, by simp, by simp, H00.out.1⟩⟩
  case round =>
    obtain ⟨k, X, T, rfl, rfl, rfl, hk, HW⟩ := hrel
    by_cases c : k < C.length
    · have c1 : (k : Int) < (C.length : Int) := by omega
      obtain ⟨r, hr⟩ : ∃ r, C[k]? = some r := ⟨_, List.getElem?_eq_getElem c⟩
      obtain ⟨B, off, u, rfl, hB, hq, hrow0⟩ := HC.out.1 k r hr
      have hnS : n ≤ S := by have := HC.out.2.1; have := HSS.out; omega
      have hbw : Below n w wr := (H00.out.2.mono hnS).trans (HW.out.2.2.2.b.mono hnS)
      have q0 : wr.cell? ⟨B, off + k, none⟩ = some u := (hbw.cell (p := ⟨B, off + k, none⟩) hB).trans hq
      have hgr := HC.out.2.2.2 r (List.mem_of_getElem? hr)
      have H18 := Lib.hid (fun S x W (hb : Below n wr W) (hnS : n ≤ S) (hS : W.heap[S]? = some (.cells #[.int .u64 x] 74 (0, 0))) => m18 u r n S x W (hrow0.keep (hbw.trans hb)) hnS hgr.1 hgr.2.1 hgr.2.2 hS)
      have HT := Lib.hid (And.intro hr hgr)
      have HBW := Lib.hid (And.intro hbw hnS)
      obtain ⟨ua, uc, hu, -⟩ := hrow0
      subst hu
      clear hr hgr hq hbw hnS
      have zX : (bytesOf X).size ≤ k * 2147483800004 := by rw [bytesOf_size]; exact HW.out.2.1
      have zT : (bytesOf T).size ≤ k * 2147483800004 := by rw [bytesOf_size]; exact HW.out.2.2.1
      rcases Nat.eq_zero_or_pos k with rfl | hk0
      · obtain ⟨x1, hx1⟩ := HW.out.2.2.2.s
        have HM := Lib.hid (H18.out S x1 wr (Below.refl _ _) HBW.out.2 hx1)
        have HB := Lib.hid HW.out.2.2.2
        clear hx1
        rw [Nat.add_zero] at q0
        have zX1 : (bytesOf X).size ≤ 3 := by omega
        have zT1 : (bytesOf T).size ≤ 3 := by omega
        clear zX zT
        go_upto_region 9 with (go_at_call 22; refine HM.out.mono ?_; rintro e w4 ⟨g, T2, rfl, hq, hl1, hl2, hb, hs⟩; have H4 := HB.out.step hb hs; have hrl : r.length ≤ 1000 := HT.out.2.2.1; have zq : (bytesOf g.text).size ≤ 2147483800000 := (by rw [bytesOf_size]; omega); have zT2 : (bytesOf T2).size ≤ 2147483800000 := (by rw [bytesOf_size]; omega); have HF := Lib.hid (And.intro hq H4); clear hq hl1 hl2 hb hs H4)
        go_wp2
        go_roundw
        case measure => simp [intOf]
        case rel =>
          have hX : X = [] := by rcases HW.out.1 with ⟨-, h⟩ | ⟨h, -⟩; exact h; omega
          have hT0 : T = [] := by have := HW.out.2.2.1; simpa using this
          obtain ⟨z1, z2⟩ := HF.out
          refine ⟨1, g.text, T2, rfl, ?_, ?_, by omega, Lib.hid ⟨.inr ⟨by omega, [], g, ?_, z1.R, (ctext_one g).symm⟩, by rw [bytesOf_size] at zq; omega, by rw [bytesOf_size] at zT2; omega, z2⟩⟩
          · rw [hX, bytes_add]; rfl
          · rw [hT0, bytes_add]; rfl
          · have : C.take 1 = [] ++ [r] := by rw [List.take_succ_eq_append_getElem c]; have := HT.out.1; simp [List.getElem?_eq_getElem c] at this; simp [this]
            rw [this]
            exact COf.snoc ⟨rfl, fun i r g h => by simp at h⟩ ⟨by rw [z1.B]; exact .inl rfl, by rw [z1.R]; exact .inl rfl, z1.len, z1.t, z1.s⟩
      · have c2 : (0 : Int) < (k : Int) := by omega
        go_upto_region 6 with fail
        have H1 := HW.out.2.2.2
        have H2 := H1.keep ((Below.refl _ _).alloc (Nat.le_refl _) barrow)
        have hrow := heap_alloc_new wr barrow
        have hP2 : wr.heap.size ≠ S := by have := H1.l; omega
        obtain ⟨x1, hx1⟩ := H2.s
        have hb2 : Below n wr (wr.alloc barrow) := (Below.refl _ wr).alloc (by have := H1.l; have := HBW.out.2; omega) _
        have hb3 : ∀ y : Int, Below n wr ((wr.alloc barrow).setCell ⟨S, 0, none⟩ (.int .u64 y)) := fun y => hb2.setCell (p := ⟨S, 0, none⟩) HBW.out.2 _
        unfold barrow at H2 hrow hx1 hb3
        have HPT := Lib.hid (fun y => And.intro (H2.put y) (hb3 y))
        have HRW := Lib.hid (fun y : Int => (show ((wr.alloc (.cells #[.string ⟨#[32, 124, 124, 32]⟩, .string ⟨#[124, 124]⟩, .string ⟨#[32, 124, 124]⟩, .string ⟨#[124, 124, 32]⟩] 9)).setCell ⟨S, 0, none⟩ (.int .u64 y)).heap[wr.heap.size]? = (wr.alloc (.cells #[.string ⟨#[32, 124, 124, 32]⟩, .string ⟨#[124, 124]⟩, .string ⟨#[32, 124, 124]⟩, .string ⟨#[124, 124, 32]⟩] 9)).heap[wr.heap.size]? from heap_setCell_other _ _ _ _ hP2).trans hrow)
        have HM2 := Lib.hid (m17 S x1 4 (by omega) (by omega) _ hx1)
        clear H1 H2 hrow hx1 hb2 hb3
        go_upto_region 7 with (go_at_call 21; refine HM2.out.mono ?_; rintro e w3 ⟨q, y, rfl, hq, hw⟩; have H2 := HPT.out y; have hr2 := HRW.out y; rw [← hw] at H2 hr2; obtain ⟨br, bb, hbr, hbb, hm⟩ := bar4cell hr2 hq; have hqi : (q : Int) < 4 := (by omega); have zm : (bytesOf (br ++ (124 :: 124 :: bb))).size ≤ 4 := (by rw [bytesOf_size]; have := hbr.len; have := hbb.len; simp; omega); have HMB := Lib.hid (And.intro hbr hbb); clear hw hr2 hbr hbb)
        obtain ⟨M, hM⟩ : ∃ M, M = br ++ (124 :: 124 :: bb) := ⟨_, rfl⟩
        rw [← hM] at hm zm ⊢
        have HMM := Lib.hid hM
        obtain ⟨x3, hx3⟩ := H2.1.s
        have HM := Lib.hid (H18.out S x3 w3 H2.2 HBW.out.2 hx3)
        have HB := Lib.hid H2.1
        clear hx3 H2 HPT HRW HM2 hM
        go_upto_region 9 with (go_at_call 22; refine HM.out.mono ?_; rintro e w4 ⟨g, T2, rfl, hq, hl1, hl2, hb, hs⟩; have H4 := HB.out.step hb hs; have hrl : r.length ≤ 1000 := HT.out.2.2.1; have zq : (bytesOf g.text).size ≤ 2147483800000 := (by rw [bytesOf_size]; omega); have zT2 : (bytesOf T2).size ≤ 2147483800000 := (by rw [bytesOf_size]; omega); have HF := Lib.hid (And.intro hq H4); clear hq hl1 hl2 hb hs H4)
        have zXm : (bytesOf X ++ bytesOf M).size ≤ k * 2147483800004 + 4 := by rw [ByteArray.size_append]; omega
        have zTm : (bytesOf T ++ ⟨#[32, 124, 124, 32]⟩).size ≤ k * 2147483800004 + 4 := by rw [ByteArray.size_append]; have : (⟨#[32, 124, 124, 32]⟩ : ByteArray).size = 4 := rfl; omega
        go_wp2
        go_roundw
        case measure => simp [intOf]; omega
        case rel =>
          obtain ⟨z1, z2⟩ := HF.out
          rcases HW.out.1 with ⟨h, -⟩ | ⟨-, G0, gl, hg1, hR, hg2⟩
          · omega
          · refine ⟨k + 1, X ++ (M ++ g.text), T ++ ([32, 124, 124, 32] ++ T2), by simp, ?_, ?_, by omega, Lib.hid ⟨.inr ⟨by omega, G0 ++ [{ gl with R := br }], { g with B := bb }, ?_, z1.R, ?_⟩, ?_, ?_, z2⟩⟩
            · simp only [← bytes_add, ByteArray.append_assoc]
            · rw [show (⟨#[32, 124, 124, 32]⟩ : ByteArray) = bytesOf [32, 124, 124, 32] from rfl]; simp only [← bytes_add, ByteArray.append_assoc]
            · have : C.take (k + 1) = C.take k ++ [r] := by rw [List.take_succ_eq_append_getElem c]; have := HT.out.1; simp [List.getElem?_eq_getElem c] at this; simp [this]
              rw [this]
              exact (hg1.setR HMB.out.1).snoc (z1.edge HMB.out.2)
            · rw [hg2, ctext_step G0 gl g br bb hR z1.B, HMM.out]
            · rw [bytesOf_size] at zX zm zq; simp; omega
            · rw [bytesOf_size] at zT zT2; simp; omega
    · have hkn : k = C.length := by omega
      subst hkn
      go_wp2
      go_ret2
      rcases HW.out.1 with ⟨h, -⟩ | ⟨-, G0, gl, hg1, hR, hg2⟩
      · exact absurd (List.length_eq_zero_iff.1 h) HC.out.2.2.1
      · rw [List.take_length] at hg1
        refine ⟨G0 ++ [gl], T, by rw [hg2]; rfl, hg1, by rw [← hg2]; have := HW.out.2.1; omega, ?_⟩
        have h1 := H00.out.2
        have h2 := HW.out.2.2.2.b
        rw [HSS.out] at h1 h2
        exact h1.trans h2
theorem m6 (v : Value) (C : List (List TV)) (n : Nat) (x : Int) (w : World) (hr : ConIn n w v C) (hn : n ≤ w.heap.size) (hne : C ≠ []) (hl : C.length ≤ 1000) (hg : ∀ r ∈ C, r ≠ [] ∧ r.length ≤ 1000 ∧ ∀ t ∈ r, t.Good ∧ t.Fit) :
    Calls Tryz.prog 6 #[v, .int .u64 x] w fun e w' => ∃ (G : List GL), e = .returned (.string (bytesOf (ctextOf G))) ∧ COf C G ∧ (ctextOf G).length ≤ 2147483800004000 ∧ Below w.heap.size w w' := by
  have HM := Lib.hid (m10 v C n x w hr hn hne hl hg)
  clear hr hg
  go_enter Tryz.func6, Tryz.ntmps6
  go_wp2_with (go_at_call 13; refine HM.out.mono ?_; rintro e w1 ⟨G, T, rfl, h1, h2, h3⟩; have HF := Lib.hid (And.intro h1 (And.intro h2 h3)); clear h1 h2 h3)
  go_ret
  exact ⟨G, rfl, HF.out.1, HF.out.2.1, HF.out.2.2⟩
end Go.Proofs.YthejepmnnpmdmaaGreatDoor.Sv
end
section
set_option linter.unusedVariables false
set_option linter.unusedSimpArgs false
/- constraints that are refused -/
namespace Go.Proofs.YthejepmnnpmdmaaGreatDoor.Sv
open Go Go.RowKit Rx
set_option maxRecDepth 100000
/-- the bytes of a list's text, the comma aside -/
def lB (x : UInt8) : Bool := ws x || (pB x || (iB x || (opByte x || (x == 118 || (x == 46 || (x == 45 || x == 43))))))
theorem lB_kinds : KindsB lB := ⟨fun x h => by simp [lB, h], fun x h => by simp [lB, h], fun x h => by simp [lB, h], fun x h => by simp [lB, h], fun x h => by rcases h with h | h | h | h <;> simp [lB, h]⟩
theorem lB_comma : lB 44 = false := by decide
theorem bad_end (x : Bs) : validS (x ++ [44]) 0 = none := by
  cases h : validS (x ++ [44]) 0 with
  | none => rfl
  | some r =>
    exfalso
    obtain ⟨h1, -⟩ := valid_snd lB_kinds lB_comma (s := x ++ [44]) (by rw [h]; rfl)
    obtain ⟨y, e, h2⟩ := h1.2 x.length (Nat.zero_le _) (by simp)
    obtain rfl : 44 = y := by simpa using e
    rcases h2 with ⟨_, h3⟩ | ⟨_, h3, _⟩
    · exact h3 rfl
    · simp at h3
theorem bad_two (x y : Bs) : validS (x ++ 44 :: 44 :: y) 0 = none := by
  cases h : validS (x ++ 44 :: 44 :: y) 0 with
  | none => rfl
  | some r =>
    exfalso
    obtain ⟨h1, -⟩ := valid_snd lB_kinds lB_comma (s := x ++ 44 :: 44 :: y) (by rw [h]; rfl)
    obtain ⟨z, e, h2⟩ := h1.2 x.length (Nat.zero_le _) (by simp)
    obtain rfl : 44 = z := by simpa using e
    rcases h2 with ⟨_, h3⟩ | ⟨_, _, h3⟩
    · exact h3 rfl
    · exact h3 (by simp)
theorem bad_head (x : Bs) : validS (44 :: x) 0 = none := by
  cases h : validS (44 :: x) 0 with
  | none => rfl
  | some r =>
    exfalso
    obtain ⟨-, y, e, h2⟩ := valid_snd lB_kinds lB_comma (s := 44 :: x) (by rw [h]; rfl)
    exact h2 (by simpa using e.symm)
theorem bad_odd (x : Bs) (o : UInt8) (ho : lB o = false) (h44 : o ≠ 44) : validS (x ++ [o]) 0 = none := by
  cases h : validS (x ++ [o]) 0 with
  | none => rfl
  | some r =>
    exfalso
    obtain ⟨h1, -⟩ := valid_snd lB_kinds lB_comma (s := x ++ [o]) (by rw [h]; rfl)
    obtain ⟨y, e, h2⟩ := h1.2 x.length (Nat.zero_le _) (by simp)
    obtain rfl : o = y := by simpa using e
    rcases h2 with ⟨h3, _⟩ | ⟨h3, _⟩
    · rw [ho] at h3; cases h3
    · exact h44 h3
theorem bad_nil : validS ([] : Bs) 0 = none := by decide +kernel
theorem valid_bad {w : World} {R PB IB icap : Nat} {s : ByteArray} (hv : validS s.data.toList 0 = none) (hs : s.size ≤ 1000) (hp : PG w R PB IB icap validT) (hr : RH w R PB 4 1 50 1 24) (hT : Lib.Utf8Tabs 11 12 w) :
    Calls Tryz.prog 27 #[.pointer (some ⟨R, 0, none⟩), .string s] w fun e w' => e = .returned (.bool false) ∧ Below w.heap.size w w' := by
  obtain ⟨n, hM⟩ := valid_M (txt_env validT s) rfl 0 (Nat.zero_le _)
  refine (tMatchString (sur_of hp hT validT_ok (by decide) hs) hr (by omega) (.emp 2 4) rfl (by decide) hM (fun h => hv)).mono ?_
  rintro e w' ⟨rfl, hb⟩
  exact ⟨by rw [hv]; rfl, hb⟩
theorem m11_long' (a : Addr) (s : ByteArray) (hs : 512 < s.size) (w : World) (q0 : w.cell? ⟨0, 0, none⟩ = some (.iface 98 (.pointer (some a)))) : Calls Tryz.prog 15 #[.string s] w fun e w' => e = .returned (.tuple #[.pointer none, .iface 98 (.pointer (some a))]) ∧ Below w.heap.size w w' := by
  have hi : (512 : Int) < (s.size : Int) := by omega
  have hb := Lib.hid (Below.refl w.heap.size w)
  go_enter Tryz.func15, Tryz.ntmps15
  go_upto_region 2 with fail
  go_region_with fail
  all_goals (try go_wp2)
  all_goals go_ret2
  exact ⟨rfl, hb.out.drew⟩
/-- a list's text that is not valid behind lists that are good -/
theorem refuse (L : List GL) (b : Bs) (rest : List Bs) (hL : ∀ g ∈ L, g.Ok ∧ g.l.length < 1000) (hb : Seg b) (hr : ∀ x ∈ rest, Seg x) (hbad : validS b 0 = none) (hn : L.length + 1 + rest.length ≤ 32) (a : Addr) (w : World) (q0 : w.cell? ⟨0, 0, none⟩ = some (.iface 98 (.pointer (some a)))) (hT : Lib.Utf8Tabs 11 12 w) :
    Calls Tryz.prog 15 #[.string (bytesOf (barred (L.map GL.text ++ b :: rest)))] w fun e w' => ∃ a', e = .returned (.tuple #[.pointer none, .iface 98 (.pointer (some a'))]) ∧ Below w.heap.size w w' := by
  by_cases hs : 512 < (barred (L.map GL.text ++ b :: rest)).length
  · refine (m11_long' a _ (by rw [bytesOf_size]; exact hs) w q0).mono ?_
    rintro e w' ⟨rfl, h⟩
    exact ⟨a, rfl, h⟩
  · have hseg : ∀ x ∈ L.map GL.text ++ b :: rest, Seg x := fun x hx => by
      rcases List.mem_append.1 hx with h | h
      · obtain ⟨g, hg, rfl⟩ := List.mem_map.1 h
        exact (hL g hg).1.seg
      · rcases List.mem_cons.1 h with rfl | h
        · exact hb
        · exact hr x h
    have hp := parted_bars (L.map GL.text ++ b :: rest) (by simp) fun x hx => (hseg x hx).2.2
    have hlen : ∀ x ∈ L.map GL.text ++ b :: rest, x.length ≤ 512 := fun x hx => by
      have : ∀ (l : List Bs) (x : Bs), x ∈ l → x.length ≤ (barred l).length := by
        intro l
        induction l with
        | nil => intro x h; cases h
        | cons y l ih =>
          intro x h
          cases l with
          | nil => obtain rfl := List.mem_singleton.1 h; exact Nat.le_refl _
          | cons z l =>
            rcases List.mem_cons.1 h with rfl | h
            · simp [barred]
            · have := ih x h
              simp [barred]; omega
      have := this _ x hx
      omega
    refine (t31bad (bytesOf (barred (L.map GL.text ++ b :: rest))) (by rw [bytesOf_size]; omega) (by rw [bytesOf_list]; exact (barred_seg _ hseg).1) _ hp (by simp; omega) (L.map GL.txs ++ List.replicate (1 + rest.length) []) (L.map GL.tds ++ List.replicate (1 + rest.length) []) (by simp; omega) (by simp; omega) L.length (by simp)
      (fun k v tx ts hk h1 h2 h3 => ?_) (fun v hv w R PB IB icap hp hr hT => ?_) w hT).mono ?_
    · rw [List.getElem?_append_left (by simpa using hk)] at h2 h3
      rw [List.getElem?_map, List.getElem?_append_left (by simpa using hk)] at h1
      simp only [List.getElem?_map, Option.map_eq_some_iff] at h1 h2 h3
      obtain ⟨x, ⟨g, hg, rfl⟩, rfl⟩ := h1
      obtain ⟨g2, hg2, rfl⟩ := h2
      obtain ⟨g3, hg3, rfl⟩ := h3
      rw [hg] at hg2 hg3
      obtain rfl := Option.some.inj hg2
      obtain rfl := Option.some.inj hg3
      have hm := List.mem_of_getElem? hg
      exact gspecGL g (hL g hm).1 (by have := hlen g.text (List.mem_append_left _ (List.mem_map_of_mem hm)); omega) (hL g hm).2
    · have hv2 : v = bytesOf b := by
        rw [List.getElem?_map, List.getElem?_append_right (by simp)] at hv
        simpa using hv.symm
      subst hv2
      exact valid_bad (by rw [bytesOf_data]; exact hbad) (by rw [bytesOf_size]; have := hlen b (List.mem_append_right _ (List.mem_cons_self ..)); omega) hp hr hT
    · rintro e w' ⟨n, c, t, rfl, -, -, h⟩
      exact ⟨_, rfl, h⟩
theorem barred_pre (r x : Bs) : ∀ l : List Bs, barred ((r ++ x) :: l) = r ++ barred (x :: l)
  | [] => rfl
  | y :: l => by simp [barred]
end Go.Proofs.YthejepmnnpmdmaaGreatDoor.Sv
end
section
set_option linter.unusedVariables false
set_option linter.unusedSimpArgs false
/- ConstraintReads; the plainest text of a list -/
namespace Go.Proofs.YthejepmnnpmdmaaGreatDoor.Sv
open Go Go.RowKit Rx
set_option maxRecDepth 100000
theorem b9bad (s : ByteArray) (w : World) (H : Calls Tryz.prog 15 #[.string s] w fun e w' => ∃ a', e = .returned (.tuple #[.pointer none, .iface 98 (.pointer (some a'))]) ∧ Below w.heap.size w w') :
    Calls Tryz.prog 9 #[.string s] w fun e w' => e = .returned (.bool false) ∧ Below w.heap.size w w' := by
  have HH := Lib.hid H
  clear H
  go_enter Tryz.func9, Tryz.ntmps9
  go_wp2_with (go_at_call 15; refine HH.out.mono ?_; rintro e w1 ⟨a', rfl, hb⟩; have HB := Lib.hid hb; clear hb)
  go_ret
  exact ⟨rfl, HB.out⟩
theorem b9ok (s : ByteArray) (w : World) (H : Calls Tryz.prog 15 #[.string s] w fun e w' => ∃ O, e = .returned (.tuple #[ptr O, .nilIface]) ∧ Below w.heap.size w w') :
    Calls Tryz.prog 9 #[.string s] w fun e w' => e = .returned (.bool true) ∧ Below w.heap.size w w' := by
  have HH := Lib.hid H
  clear H
  go_enter Tryz.func9, Tryz.ntmps9
  go_wp2_with (go_at_call 15; refine HH.out.mono ?_; rintro e w1 ⟨O, rfl, hb⟩; have HB := Lib.hid hb; clear hb)
  go_ret
  exact ⟨rfl, HB.out⟩
/-- a version's bytes, no hyphen ahead -/
structure PvOk (V : Bs) : Prop where
  v : ∀ y ∈ V, vByte y
  h : ∀ y, V.head? = some y → y ≠ 45
theorem PvOk.seg {V : Bs} (h : PvOk V) : Seg V := ⟨noWD_ws fun y hy => (h.v y hy).1, h.h, fun y hy => (h.v y hy).2⟩
theorem PvOk.app {V U : Bs} (h : PvOk V) (h' : ∀ y ∈ U, vByte y) (hn : V ≠ [] ∨ ∀ y, U.head? = some y → y ≠ 45) : PvOk (V ++ U) := by
  refine ⟨fun y hy => ?_, fun y hy => ?_⟩
  · rcases List.mem_append.1 hy with h1 | h1
    · exact h.v y h1
    · exact h' y h1
  · cases V with
    | nil =>
      rcases hn with hn | hn
      · exact absurd rfl hn
      · exact hn y (by simpa using hy)
    | cons a V => exact h.h y (by simpa using hy)
theorem dec_v (n : Nat) : ∀ y ∈ Lib.decDigits n, vByte y := fun y hy => by
  have := dB_out y ((dec_part n).2 y hy)
  exact ⟨this.1, this.2.1⟩
theorem dec_head (n : Nat) : ∀ y, (Lib.decDigits n).head? = some y → y ≠ 45 := fun y hy => (dB_out y ((dec_part n).2 y (List.mem_of_mem_head? hy))).2.2
theorem pb_v {p : Bs} (h : PreOk p) : ∀ y ∈ 45 :: p, vByte y := fun y hy => by
  have h1 := gtext_v (lead := 45) ⟨by decide, by decide⟩ (okGrp_pgrp (.inr h))
  rw [gtext_pgrp] at h1
  unfold pb at h1
  split at h1
  · rename_i he
    rcases List.mem_cons.1 hy with rfl | hy
    · exact ⟨by decide, by decide⟩
    · rw [he] at hy; cases hy
  · exact h1 y hy
/-- what plainVersion's variables hold -/
structure QT (w : World) (t : TV) (T N : Nat) (W : World) : Prop where
  tr : W.heap[T]? = some (.cells #[.int .i64 t.op, .int .i64 t.g, .int .u64 t.a, .int .u64 t.b, .int .u64 t.c, .string (bytesOf t.pre)] 36 (0, 0))
  nr : W.heap[N]? = some (.cells #[.int .u64 t.a, .int .u64 t.b, .int .u64 t.c] 23 (0, 0))
  b : Below w.heap.size w W
theorem QT.keep {w : World} {t : TV} {T N : Nat} {W W' : World} (h : QT w t T N W) (hb : Below W.heap.size W W') : QT w t T N W' :=
  ⟨jblk' hb h.tr, jblk' hb h.nr, h.b.trans (hb.mono h.b.size)⟩
theorem qsize (n : Nat) (hn : n < 18446744073709551616) : (bOf (Lib.decDigits n)).size ≤ 20 := by rw [bOf_size]; exact dec_len n hn
set_option maxHeartbeats 4000000 in
theorem b17_0 (op : Int) (a b c : Nat) (ha : a < 18446744073709551616) (hb : b < 18446744073709551616) (hc : c < 18446744073709551616) (w : World) :
    Calls Tryz.prog 17 #[.agg #[.int .i64 op, .int .i64 0, .int .u64 a, .int .u64 b, .int .u64 c, .string (bytesOf [])]] w fun e w' => ∃ V, e = .returned (.string (bytesOf V)) ∧ PvOk V ∧ V.length ≤ 100 + 0 ∧ Below w.heap.size w w' := by
  have HB := Lib.hid ((Below.refl _ w).alloc (Nat.le_refl _) (.cells #[.int .i64 op, .int .i64 0, .int .u64 a, .int .u64 b, .int .u64 c, .string (bytesOf [])] 36))
  go_enter Tryz.func17, Tryz.ntmps17
  go_wp2
  go_ret
  exact ⟨[42], rfl, ⟨fun y hy => by obtain rfl := List.mem_singleton.1 hy; exact ⟨by decide, by decide⟩, fun y hy => by obtain rfl : 42 = y := (by simpa using hy); decide⟩, by simp, HB.out⟩
set_option maxHeartbeats 4000000 in
theorem b17_1 (op : Int) (a b c : Nat) (ha : a < 18446744073709551616) (hb : b < 18446744073709551616) (hc : c < 18446744073709551616) (w : World) :
    Calls Tryz.prog 17 #[.agg #[.int .i64 op, .int .i64 1, .int .u64 a, .int .u64 b, .int .u64 c, .string (bytesOf [])]] w fun e w' => ∃ V, e = .returned (.string (bytesOf V)) ∧ PvOk V ∧ V.length ≤ 100 + 0 ∧ Below w.heap.size w w' := by
  have HH := Lib.hid (And.intro ha (And.intro hb hc))
  have hal1 := (Below.refl _ w).alloc (Nat.le_refl _) (.cells #[.int .i64 op, .int .i64 1, .int .u64 a, .int .u64 b, .int .u64 c, .string (bytesOf [])] 36)
  have hal2 := hal1.alloc hal1.size (.cells #[.int .u64 a, .int .u64 b, .int .u64 c] 23)
  have H0 : QT w ⟨op, 1, a, b, c, []⟩ w.heap.size (w.heap.size + 1) ((w.alloc (.cells #[.int .i64 op, .int .i64 1, .int .u64 a, .int .u64 b, .int .u64 c, .string (bytesOf [])] 36)).alloc (.cells #[.int .u64 a, .int .u64 b, .int .u64 c] 23)) := by
    refine ⟨jblk' ((Below.refl _ _).alloc (Nat.le_refl _) _) (heap_alloc_new w _), ?_, hal2⟩
    have h := heap_alloc_new (w.alloc (.cells #[.int .i64 op, .int .i64 1, .int .u64 a, .int .u64 b, .int .u64 c, .string (bytesOf [])] 36)) (.cells #[.int .u64 a, .int .u64 b, .int .u64 c] 23)
    rwa [World.size_alloc] at h
  have HD := Lib.hid (fun n (hn : n < 18446744073709551616) W => jDec n n (Nat.le_refl _) hn W)
  clear ha hb hc hal1 hal2
  go_enter Tryz.func17, Tryz.ntmps17
  go_upto_region 5 with fail
  generalize (w.alloc (.cells #[.int .i64 op, .int .i64 1, .int .u64 a, .int .u64 b, .int .u64 c, .string (bytesOf [])] 36)).alloc (.cells #[.int .u64 a, .int .u64 b, .int .u64 c] 23) = w0 at *
  generalize w.heap.size + 1 = N at *
  obtain ⟨T, hT⟩ : ∃ T, T = w.heap.size := ⟨_, rfl⟩
  rw [← hT] at H0 ⊢
  have HT := Lib.hid hT
  clear hT
  have HS := Lib.hid H0
  clear H0
  go_loopw [3, 17] (fun tx iv W => ∃ (i : Nat) (X : Bs), iv = .int .i64 (i : Nat) ∧ tx = .string (bytesOf X) ∧ i ≤ 3 ∧ Hid (PvOk X ∧ X.length ≤ 22 * i ∧ (0 < i → X ≠ []) ∧ QT w ⟨op, 1, a, b, c, []⟩ T N W)) (fun _ iv _ => 3 - (intOf iv).toNat)
  case atStart => exact ⟨0, [], rfl, rfl, by omega, Lib.hid ⟨⟨by simp, by simp⟩, by simp, by omega, HS.out⟩⟩
  case round =>
    obtain ⟨i, X, rfl, rfl, hi, HI⟩ := hrel
    have hic : i = 0 ∨ i = 1 ∨ i = 2 ∨ i = 3 := by omega
    have q1 : wr.cell? ⟨T, 1, none⟩ = some (.int .i64 1) := cell_of_row _ _ 1 _ _ _ HI.out.2.2.2.tr
    have n0 : wr.cell? ⟨N, 0, none⟩ = some (.int .u64 a) := cell_of_row _ _ 0 _ _ _ HI.out.2.2.2.nr
    have n1 : wr.cell? ⟨N, 1, none⟩ = some (.int .u64 b) := cell_of_row _ _ 1 _ _ _ HI.out.2.2.2.nr
    have n2 : wr.cell? ⟨N, 2, none⟩ = some (.int .u64 c) := cell_of_row _ _ 2 _ _ _ HI.out.2.2.2.nr
    have hsz : (bytesOf X).size < 200 := by rw [bytesOf_size]; have := HI.out.2.1; omega
    rcases hic with rfl | rfl | rfl | rfl
    · have hd := qsize a HH.out.1
      have HDn := Lib.hid (HD.out a HH.out.1 wr)
      go_wp2_with (go_at_call 32; refine HDn.out.mono ?_; rintro e w1 ⟨rfl, hb⟩; have HK := Lib.hid (HI.out.2.2.2.keep hb); clear hb)
      refine ⟨?_, by simp [intOf]⟩
      · refine ⟨1, X ++ (Lib.decDigits a), rfl, ?_, by omega, Lib.hid ⟨?_, ?_, fun _ => ?_, HK.out⟩⟩
        · show Value.string (bytesOf X ++ bytesOf (Lib.decDigits a)) = _
          rw [bytes_add]
        · exact HI.out.1.app (dec_v a) (.inr (dec_head a))
        · have h1 := HI.out.2.1
          have hd2 := dec_len a HH.out.1
          simp; omega
        · exact fun e => (dec_part a).1 (List.append_eq_nil_iff.1 e).2
    · go_wp2
      refine ⟨?_, by simp [intOf]⟩
      exact ⟨2, X, rfl, rfl, by omega, Lib.hid ⟨HI.out.1, by have := HI.out.2.1; omega, fun _ => HI.out.2.2.1 (by omega), HI.out.2.2.2⟩⟩
    · go_wp2
      refine ⟨?_, by simp [intOf]⟩
      exact ⟨3, X, rfl, rfl, by omega, Lib.hid ⟨HI.out.1, by have := HI.out.2.1; omega, fun _ => HI.out.2.2.1 (by omega), HI.out.2.2.2⟩⟩
    · have q5 : wr.cell? ⟨T, 5, none⟩ = some (.string (bytesOf [])) := cell_of_row _ _ 5 _ _ _ HI.out.2.2.2.tr
      have e1 := bytesOf_toList []
      have d5 : (([] : Bs) == ([] : Bs)) = true := rfl
      go_wp2
      go_ret
      exact ⟨X, rfl, HI.out.1, by have := HI.out.2.1; omega, HI.out.2.2.2.b⟩
set_option maxHeartbeats 4000000 in
theorem b17_2 (op : Int) (a b c : Nat) (ha : a < 18446744073709551616) (hb : b < 18446744073709551616) (hc : c < 18446744073709551616) (w : World) :
    Calls Tryz.prog 17 #[.agg #[.int .i64 op, .int .i64 2, .int .u64 a, .int .u64 b, .int .u64 c, .string (bytesOf [])]] w fun e w' => ∃ V, e = .returned (.string (bytesOf V)) ∧ PvOk V ∧ V.length ≤ 100 + 0 ∧ Below w.heap.size w w' := by
  have HH := Lib.hid (And.intro ha (And.intro hb hc))
  have hal1 := (Below.refl _ w).alloc (Nat.le_refl _) (.cells #[.int .i64 op, .int .i64 2, .int .u64 a, .int .u64 b, .int .u64 c, .string (bytesOf [])] 36)
  have hal2 := hal1.alloc hal1.size (.cells #[.int .u64 a, .int .u64 b, .int .u64 c] 23)
  have H0 : QT w ⟨op, 2, a, b, c, []⟩ w.heap.size (w.heap.size + 1) ((w.alloc (.cells #[.int .i64 op, .int .i64 2, .int .u64 a, .int .u64 b, .int .u64 c, .string (bytesOf [])] 36)).alloc (.cells #[.int .u64 a, .int .u64 b, .int .u64 c] 23)) := by
    refine ⟨jblk' ((Below.refl _ _).alloc (Nat.le_refl _) _) (heap_alloc_new w _), ?_, hal2⟩
    have h := heap_alloc_new (w.alloc (.cells #[.int .i64 op, .int .i64 2, .int .u64 a, .int .u64 b, .int .u64 c, .string (bytesOf [])] 36)) (.cells #[.int .u64 a, .int .u64 b, .int .u64 c] 23)
    rwa [World.size_alloc] at h
  have HD := Lib.hid (fun n (hn : n < 18446744073709551616) W => jDec n n (Nat.le_refl _) hn W)
  clear ha hb hc hal1 hal2
  go_enter Tryz.func17, Tryz.ntmps17
  go_upto_region 5 with fail
  generalize (w.alloc (.cells #[.int .i64 op, .int .i64 2, .int .u64 a, .int .u64 b, .int .u64 c, .string (bytesOf [])] 36)).alloc (.cells #[.int .u64 a, .int .u64 b, .int .u64 c] 23) = w0 at *
  generalize w.heap.size + 1 = N at *
  obtain ⟨T, hT⟩ : ∃ T, T = w.heap.size := ⟨_, rfl⟩
  rw [← hT] at H0 ⊢
  have HT := Lib.hid hT
  clear hT
  have HS := Lib.hid H0
  clear H0
  go_loopw [3, 17] (fun tx iv W => ∃ (i : Nat) (X : Bs), iv = .int .i64 (i : Nat) ∧ tx = .string (bytesOf X) ∧ i ≤ 3 ∧ Hid (PvOk X ∧ X.length ≤ 22 * i ∧ (0 < i → X ≠ []) ∧ QT w ⟨op, 2, a, b, c, []⟩ T N W)) (fun _ iv _ => 3 - (intOf iv).toNat)
  case atStart => exact ⟨0, [], rfl, rfl, by omega, Lib.hid ⟨⟨by simp, by simp⟩, by simp, by omega, HS.out⟩⟩
  case round =>
    obtain ⟨i, X, rfl, rfl, hi, HI⟩ := hrel
    have hic : i = 0 ∨ i = 1 ∨ i = 2 ∨ i = 3 := by omega
    have q1 : wr.cell? ⟨T, 1, none⟩ = some (.int .i64 2) := cell_of_row _ _ 1 _ _ _ HI.out.2.2.2.tr
    have n0 : wr.cell? ⟨N, 0, none⟩ = some (.int .u64 a) := cell_of_row _ _ 0 _ _ _ HI.out.2.2.2.nr
    have n1 : wr.cell? ⟨N, 1, none⟩ = some (.int .u64 b) := cell_of_row _ _ 1 _ _ _ HI.out.2.2.2.nr
    have n2 : wr.cell? ⟨N, 2, none⟩ = some (.int .u64 c) := cell_of_row _ _ 2 _ _ _ HI.out.2.2.2.nr
    have hsz : (bytesOf X).size < 200 := by rw [bytesOf_size]; have := HI.out.2.1; omega
    rcases hic with rfl | rfl | rfl | rfl
    · have hd := qsize a HH.out.1
      have HDn := Lib.hid (HD.out a HH.out.1 wr)
      go_wp2_with (go_at_call 32; refine HDn.out.mono ?_; rintro e w1 ⟨rfl, hb⟩; have HK := Lib.hid (HI.out.2.2.2.keep hb); clear hb)
      refine ⟨?_, by simp [intOf]⟩
      · refine ⟨1, X ++ (Lib.decDigits a), rfl, ?_, by omega, Lib.hid ⟨?_, ?_, fun _ => ?_, HK.out⟩⟩
        · show Value.string (bytesOf X ++ bytesOf (Lib.decDigits a)) = _
          rw [bytes_add]
        · exact HI.out.1.app (dec_v a) (.inr (dec_head a))
        · have h1 := HI.out.2.1
          have hd2 := dec_len a HH.out.1
          simp; omega
        · exact fun e => (dec_part a).1 (List.append_eq_nil_iff.1 e).2
    · have hd := qsize b HH.out.2.1
      have HDn := Lib.hid (HD.out b HH.out.2.1 wr)
      have hsz2 : (bytesOf X ++ ⟨#[46]⟩).size < 210 := by rw [ByteArray.size_append]; have : (⟨#[46]⟩ : ByteArray).size = 1 := rfl; omega
      go_wp2_with (go_at_call 32; refine HDn.out.mono ?_; rintro e w1 ⟨rfl, hb⟩; have HK := Lib.hid (HI.out.2.2.2.keep hb); clear hb)
      refine ⟨?_, by simp [intOf]⟩
      · refine ⟨2, X ++ (46 :: Lib.decDigits b), rfl, ?_, by omega, Lib.hid ⟨?_, ?_, fun _ => ?_, HK.out⟩⟩
        · show Value.string (bytesOf X ++ bytesOf [46] ++ bytesOf (Lib.decDigits b)) = _
          rw [bytes_add, bytes_add]; simp
        · exact HI.out.1.app (fun y hy => by rcases List.mem_cons.1 hy with rfl | hy; exact ⟨by decide, by decide⟩; exact dec_v b y hy) (.inl (HI.out.2.2.1 (by omega)))
        · have h1 := HI.out.2.1
          have hd2 := dec_len b HH.out.2.1
          simp; omega
        · simp
    · go_wp2
      refine ⟨?_, by simp [intOf]⟩
      exact ⟨3, X, rfl, rfl, by omega, Lib.hid ⟨HI.out.1, by have := HI.out.2.1; omega, fun _ => HI.out.2.2.1 (by omega), HI.out.2.2.2⟩⟩
    · have q5 : wr.cell? ⟨T, 5, none⟩ = some (.string (bytesOf [])) := cell_of_row _ _ 5 _ _ _ HI.out.2.2.2.tr
      have e1 := bytesOf_toList []
      have d5 : (([] : Bs) == ([] : Bs)) = true := rfl
      go_wp2
      go_ret
      exact ⟨X, rfl, HI.out.1, by have := HI.out.2.1; omega, HI.out.2.2.2.b⟩
set_option maxHeartbeats 4000000 in
theorem b17_3 (op : Int) (a b c : Nat) (pre : Bs) (hpre : pre = [] ∨ PreOk pre) (hpl : pre.length ≤ 2147483647) (ha : a < 18446744073709551616) (hb : b < 18446744073709551616) (hc : c < 18446744073709551616) (w : World) :
    Calls Tryz.prog 17 #[.agg #[.int .i64 op, .int .i64 3, .int .u64 a, .int .u64 b, .int .u64 c, .string (bytesOf pre)]] w fun e w' => ∃ V, e = .returned (.string (bytesOf V)) ∧ PvOk V ∧ V.length ≤ 100 + pre.length ∧ Below w.heap.size w w' := by
  have HH := Lib.hid (And.intro ha (And.intro hb hc))
  have hal1 := (Below.refl _ w).alloc (Nat.le_refl _) (.cells #[.int .i64 op, .int .i64 3, .int .u64 a, .int .u64 b, .int .u64 c, .string (bytesOf pre)] 36)
  have hal2 := hal1.alloc hal1.size (.cells #[.int .u64 a, .int .u64 b, .int .u64 c] 23)
  have H0 : QT w ⟨op, 3, a, b, c, pre⟩ w.heap.size (w.heap.size + 1) ((w.alloc (.cells #[.int .i64 op, .int .i64 3, .int .u64 a, .int .u64 b, .int .u64 c, .string (bytesOf pre)] 36)).alloc (.cells #[.int .u64 a, .int .u64 b, .int .u64 c] 23)) := by
    refine ⟨jblk' ((Below.refl _ _).alloc (Nat.le_refl _) _) (heap_alloc_new w _), ?_, hal2⟩
    have h := heap_alloc_new (w.alloc (.cells #[.int .i64 op, .int .i64 3, .int .u64 a, .int .u64 b, .int .u64 c, .string (bytesOf pre)] 36)) (.cells #[.int .u64 a, .int .u64 b, .int .u64 c] 23)
    rwa [World.size_alloc] at h
  have HD := Lib.hid (fun n (hn : n < 18446744073709551616) W => jDec n n (Nat.le_refl _) hn W)
  clear ha hb hc hal1 hal2
  go_enter Tryz.func17, Tryz.ntmps17
  go_upto_region 5 with fail
  generalize (w.alloc (.cells #[.int .i64 op, .int .i64 3, .int .u64 a, .int .u64 b, .int .u64 c, .string (bytesOf pre)] 36)).alloc (.cells #[.int .u64 a, .int .u64 b, .int .u64 c] 23) = w0 at *
  generalize w.heap.size + 1 = N at *
  obtain ⟨T, hT⟩ : ∃ T, T = w.heap.size := ⟨_, rfl⟩
  rw [← hT] at H0 ⊢
  have HT := Lib.hid hT
  clear hT
  have HS := Lib.hid H0
  clear H0
  go_loopw [3, 17] (fun tx iv W => ∃ (i : Nat) (X : Bs), iv = .int .i64 (i : Nat) ∧ tx = .string (bytesOf X) ∧ i ≤ 3 ∧ Hid (PvOk X ∧ X.length ≤ 22 * i ∧ (0 < i → X ≠ []) ∧ QT w ⟨op, 3, a, b, c, pre⟩ T N W)) (fun _ iv _ => 3 - (intOf iv).toNat)
  case atStart => exact ⟨0, [], rfl, rfl, by omega, Lib.hid ⟨⟨by simp, by simp⟩, by simp, by omega, HS.out⟩⟩
  case round =>
    obtain ⟨i, X, rfl, rfl, hi, HI⟩ := hrel
    have hic : i = 0 ∨ i = 1 ∨ i = 2 ∨ i = 3 := by omega
    have q1 : wr.cell? ⟨T, 1, none⟩ = some (.int .i64 3) := cell_of_row _ _ 1 _ _ _ HI.out.2.2.2.tr
    have n0 : wr.cell? ⟨N, 0, none⟩ = some (.int .u64 a) := cell_of_row _ _ 0 _ _ _ HI.out.2.2.2.nr
    have n1 : wr.cell? ⟨N, 1, none⟩ = some (.int .u64 b) := cell_of_row _ _ 1 _ _ _ HI.out.2.2.2.nr
    have n2 : wr.cell? ⟨N, 2, none⟩ = some (.int .u64 c) := cell_of_row _ _ 2 _ _ _ HI.out.2.2.2.nr
    have hsz : (bytesOf X).size < 200 := by rw [bytesOf_size]; have := HI.out.2.1; omega
    rcases hic with rfl | rfl | rfl | rfl
    · have hd := qsize a HH.out.1
      have HDn := Lib.hid (HD.out a HH.out.1 wr)
      go_wp2_with (go_at_call 32; refine HDn.out.mono ?_; rintro e w1 ⟨rfl, hb⟩; have HK := Lib.hid (HI.out.2.2.2.keep hb); clear hb)
      refine ⟨?_, by simp [intOf]⟩
      · refine ⟨1, X ++ (Lib.decDigits a), rfl, ?_, by omega, Lib.hid ⟨?_, ?_, fun _ => ?_, HK.out⟩⟩
        · show Value.string (bytesOf X ++ bytesOf (Lib.decDigits a)) = _
          rw [bytes_add]
        · exact HI.out.1.app (dec_v a) (.inr (dec_head a))
        · have h1 := HI.out.2.1
          have hd2 := dec_len a HH.out.1
          simp; omega
        · exact fun e => (dec_part a).1 (List.append_eq_nil_iff.1 e).2
    · have hd := qsize b HH.out.2.1
      have HDn := Lib.hid (HD.out b HH.out.2.1 wr)
      have hsz2 : (bytesOf X ++ ⟨#[46]⟩).size < 210 := by rw [ByteArray.size_append]; have : (⟨#[46]⟩ : ByteArray).size = 1 := rfl; omega
      go_wp2_with (go_at_call 32; refine HDn.out.mono ?_; rintro e w1 ⟨rfl, hb⟩; have HK := Lib.hid (HI.out.2.2.2.keep hb); clear hb)
      refine ⟨?_, by simp [intOf]⟩
      · refine ⟨2, X ++ (46 :: Lib.decDigits b), rfl, ?_, by omega, Lib.hid ⟨?_, ?_, fun _ => ?_, HK.out⟩⟩
        · show Value.string (bytesOf X ++ bytesOf [46] ++ bytesOf (Lib.decDigits b)) = _
          rw [bytes_add, bytes_add]; simp
        · exact HI.out.1.app (fun y hy => by rcases List.mem_cons.1 hy with rfl | hy; exact ⟨by decide, by decide⟩; exact dec_v b y hy) (.inl (HI.out.2.2.1 (by omega)))
        · have h1 := HI.out.2.1
          have hd2 := dec_len b HH.out.2.1
          simp; omega
        · simp
    · have hd := qsize c HH.out.2.2
      have HDn := Lib.hid (HD.out c HH.out.2.2 wr)
      have hsz2 : (bytesOf X ++ ⟨#[46]⟩).size < 210 := by rw [ByteArray.size_append]; have : (⟨#[46]⟩ : ByteArray).size = 1 := rfl; omega
      go_wp2_with (go_at_call 32; refine HDn.out.mono ?_; rintro e w1 ⟨rfl, hb⟩; have HK := Lib.hid (HI.out.2.2.2.keep hb); clear hb)
      refine ⟨?_, by simp [intOf]⟩
      · refine ⟨3, X ++ (46 :: Lib.decDigits c), rfl, ?_, by omega, Lib.hid ⟨?_, ?_, fun _ => ?_, HK.out⟩⟩
        · show Value.string (bytesOf X ++ bytesOf [46] ++ bytesOf (Lib.decDigits c)) = _
          rw [bytes_add, bytes_add]; simp
        · exact HI.out.1.app (fun y hy => by rcases List.mem_cons.1 hy with rfl | hy; exact ⟨by decide, by decide⟩; exact dec_v c y hy) (.inl (HI.out.2.2.1 (by omega)))
        · have h1 := HI.out.2.1
          have hd2 := dec_len c HH.out.2.2
          simp; omega
        · simp
    · have q5 : wr.cell? ⟨T, 5, none⟩ = some (.string (bytesOf pre)) := cell_of_row _ _ 5 _ _ _ HI.out.2.2.2.tr
      have e1 := bytesOf_toList pre
      have hsp : (bytesOf pre).size ≤ 2147483647 := by rw [bytesOf_size]; exact hpl
      by_cases hp : pre = []
      · have d5 : (pre == ([] : Bs)) = true := by rw [hp]; rfl
        clear hp hpre
        go_wp2
        go_ret
        exact ⟨X, rfl, HI.out.1, by have := HI.out.2.1; omega, HI.out.2.2.2.b⟩
      · have d5 : (pre == ([] : Bs)) = false := by cases pre with | nil => exact absurd rfl hp | cons y l => rfl
        have HP := Lib.hid (hpre.resolve_left hp)
        have hs2 : (⟨#[45]⟩ ++ bytesOf pre : ByteArray).size ≤ 2147483648 := by rw [ByteArray.size_append]; have : (⟨#[45]⟩ : ByteArray).size = 1 := rfl; omega
        clear hp hpre
        go_wp2
        go_ret
        refine ⟨X ++ (45 :: pre), ?_, HI.out.1.app (pb_v HP.out) (.inl (HI.out.2.2.1 (by omega))), by have := HI.out.2.1; simp; omega, HI.out.2.2.2.b⟩
        show Ending.returned (Value.string (bytesOf X ++ (bytesOf [45] ++ bytesOf pre))) = _
        rw [bytes_add, bytes_add]
        rfl
theorem b17 (t : TV) (ht : t.Good) (hf : t.Fit) (w : World) : Calls Tryz.prog 17 #[t.val] w fun e w' => ∃ V, e = .returned (.string (bytesOf V)) ∧ PvOk V ∧ V.length ≤ 100 + t.pre.length ∧ Below w.heap.size w w' := by
  obtain ⟨op, g, a, b, c, pre⟩ := t
  obtain ⟨hg0, hg3⟩ := ht.g
  obtain ⟨h1, h2, h3, h4⟩ := hf
  have hgc : g = 0 ∨ g = 1 ∨ g = 2 ∨ g = 3 := by simp only at hg0 hg3; omega
  unfold TV.val
  rcases hgc with rfl | rfl | rfl | rfl
  · obtain ⟨rfl, rfl⟩ := ht.c (show (0 : Int) < 3 by decide)
    exact b17_0 op a b 0 h1 h2 (by omega) w
  · obtain ⟨rfl, rfl⟩ := ht.c (show (1 : Int) < 3 by decide)
    exact b17_1 op a b 0 h1 h2 (by omega) w
  · obtain ⟨rfl, rfl⟩ := ht.c (show (2 : Int) < 3 by decide)
    exact b17_2 op a b 0 h1 h2 (by omega) w
  · exact b17_3 op a b c pre ht.pre h4 h1 h2 h3 w
end Go.Proofs.YthejepmnnpmdmaaGreatDoor.Sv
end
section
set_option linter.unusedVariables false
set_option linter.unusedSimpArgs false
/- a text among texts; the plainest text of one list -/
namespace Go.Proofs.YthejepmnnpmdmaaGreatDoor.Sv
open Go Go.RowKit Rx
set_option maxRecDepth 100000
set_option maxHeartbeats 2000000 in
theorem b8 (L : Nat) (ls : List Bs) (t : Bs) (ht : t.length ≤ 1000) (hl : ∀ x ∈ ls, x.length ≤ 1000) (hn : ls.length ≤ 100) (w : World) (hL : w.heap[L]? = some (.cells (ls.map fun x => Value.string (bytesOf x)).toArray 9 (0, 0))) :
    Calls Tryz.prog 8 #[.slice (some ⟨L, 0, none⟩) ls.length ls.length, .string (bytesOf t)] w fun e w' => (∃ r : Int, e = .returned (.int .i64 r) ∧ (r < 0 → ∀ x ∈ ls, x ≠ t) ∧ (0 ≤ r → t ∈ ls)) ∧ w' = w := by
  have HL := Lib.hid (And.intro hL hl)
  have hsz := bytesOf_size t
  have e2 := bytesOf_toList t
  clear hL hl
  have hni : (ls.length : Int) ≤ 100 := by omega
  go_enter Tryz.func8, Tryz.ntmps8
  go_wp2
  go_loop [9] (fun iv => ∃ i : Nat, i ≤ ls.length ∧ iv = .int .i64 i ∧ ∀ j (h : j < ls.length), j < i → ls[j]'h ≠ t) (fun iv => ls.length - (intOf iv).toNat)
  case atStart => exact ⟨0, Nat.zero_le _, rfl, fun j h h' => by omega⟩
  case round =>
    obtain ⟨i, hi, rfl, hall⟩ := hrel
    have HA := Lib.hid hall
    clear hall
    by_cases hlt : i < ls.length
    · have hc1 : (i : Int) < (ls.length : Int) := by omega
      obtain ⟨x, hx⟩ : ∃ x, ls[i]'hlt = x := ⟨_, rfl⟩
      have q0 : w.cell? ⟨L, i, none⟩ = some (.string (bytesOf x)) := by
        rw [cell_of_row _ _ _ _ _ _ HL.out.1]; simp [← hx, hlt]
      have hxs : x.length ≤ 1000 := HL.out.2 x (by rw [← hx]; exact List.getElem_mem hlt)
      have hsx := bytesOf_size x
      have e1 := bytesOf_toList x
      have HX := Lib.hid hx
      clear hx
      by_cases he : x = t
      · have d1 : (x == t) = true := by rw [he]; simp
        have HT0 := Lib.hid he
        clear he
        go_wp2
        go_ret
        exact ⟨⟨i, rfl, (fun h => by omega), fun _ => by rw [← HT0.out, ← HX.out]; exact List.getElem_mem hlt⟩, rfl⟩
      · have d1 : (x == t) = false := by simpa using he
        have HE := Lib.hid he
        clear he
        go_wp2
        go_round
        case rel =>
          refine ⟨i + 1, by omega, by go_num, fun j h h' => ?_⟩
          by_cases hj : j = i
          · subst hj; rw [HX.out]; exact HE.out
          · exact HA.out j h (by omega)
        case measure => simp [intOf]; omega
    · go_wp2
      go_ret
      refine ⟨⟨-1, rfl, (fun _ x hx => ?_), fun h => by omega⟩, rfl⟩
      obtain ⟨j, hj, rfl⟩ := List.getElem_of_mem hx
      exact HA.out j hj (by omega)
end Go.Proofs.YthejepmnnpmdmaaGreatDoor.Sv
end
section
set_option linter.unusedVariables false
set_option linter.unusedSimpArgs false
/- the plainest text of one list: a term is written -/
namespace Go.Proofs.YthejepmnnpmdmaaGreatDoor.Sv
open Go Go.RowKit Rx
set_option maxRecDepth 100000
/-- an operator's first spelling -/
def sp0 (op : Int) : Bs := (spell op).headD []
theorem spell_pos (op : Int) : 0 < (spell op).length := by
  unfold spell
  repeat' split
  all_goals simp
theorem sp0_mem (op : Int) : sp0 op ∈ spell op := by
  unfold sp0
  cases h : spell op with
  | nil => have := spell_pos op; rw [h] at this; cases this
  | cons x l => simp
theorem sp0_len (op : Int) : (sp0 op).length ≤ 2 := by
  have h := sp0_mem op
  unfold spell at h
  repeat' split at h
  all_goals (simp at h; first | (rcases h with h | h <;> rw [h] <;> simp) | (rw [h]; simp))
theorem sp0_seg (op : Int) : Seg (sp0 op) := by
  have h := sp0_mem op
  refine Seg.of fun y hy => ?_
  unfold spell at h
  repeat' split at h
  all_goals (simp at h; first | (rcases h with h | h <;> rw [h] at hy <;> simp at hy) | (rw [h] at hy; simp at hy))
  all_goals first
    | (subst hy; decide)
    | (rcases hy with rfl | rfl <;> decide)
theorem spcell0 {W : World} {P : Nat} {op : Int} (h : W.heap[P]? = some (.cells ((spell op).map fun s => Value.string (bytesOf s)).toArray 9 (0, 0))) : W.cell? ⟨P, 0, none⟩ = some (.string (bytesOf (sp0 op))) := by
  rw [cell_of_row _ _ _ _ _ _ h]
  have := spell_pos op
  unfold sp0
  cases h : spell op with
  | nil => rw [h] at this; cases this
  | cons x l => simp
/-- what PlainText's variables hold -/
structure PX (w : World) (T : Nat) (t : TV) (W : World) : Prop where
  t : W.heap[T]? = some (.cells #[.int .i64 t.op, .int .i64 t.g, .int .u64 t.a, .int .u64 t.b, .int .u64 t.c, .string (bytesOf t.pre)] 36 (0, 0))
  b : Below w.heap.size w W
theorem PX.keep {w : World} {T : Nat} {t : TV} {W W' : World} (h : PX w T t W) (hb : Below W.heap.size W W') : PX w T t W' := ⟨jblk' hb h.t, h.b.trans (hb.mono h.b.size)⟩
theorem PX.cells {w : World} {T : Nat} {t : TV} {W : World} (h : PX w T t W) : W.cell? ⟨T, 0, none⟩ = some (.int .i64 t.op) ∧ W.cell? ⟨T, 1, none⟩ = some (.int .i64 t.g) ∧ W.cell? ⟨T, 2, none⟩ = some (.int .u64 t.a) ∧ W.cell? ⟨T, 3, none⟩ = some (.int .u64 t.b) ∧ W.cell? ⟨T, 4, none⟩ = some (.int .u64 t.c) ∧ W.cell? ⟨T, 5, none⟩ = some (.string (bytesOf t.pre)) :=
  ⟨cell_of_row _ _ 0 _ _ _ h.t, cell_of_row _ _ 1 _ _ _ h.t, cell_of_row _ _ 2 _ _ _ h.t, cell_of_row _ _ 3 _ _ _ h.t, cell_of_row _ _ 4 _ _ _ h.t, cell_of_row _ _ 5 _ _ _ h.t⟩
def ops12 : Array Oper := #[{ dst := some 30, op := Op.move (Operand.tmp 3), type := 9, pos := "constraint.go:252", after := #[], guard := none }, { dst := some 31, op := Op.fieldAddr 36 (Operand.tmp 7) 0, type := 0, pos := "constraint.go:252", after := #[], guard := none }, { dst := some 32, op := Op.load 3 (Operand.tmp 31), type := 3, pos := "constraint.go:252", after := #[{ on := 1, ground := Ground.data }], guard := none }, { dst := some 33, op := Op.call { callee := Callee.value (Operand.func 16), args := #[Operand.tmp 32], argTypes := #[3] }, type := 29, pos := "constraint.go:252", after := #[{ on := 2, ground := Ground.data }], guard := none }, { dst := some 34, op := Op.indexAddr 29 (Operand.tmp 33) (Operand.const (Value.int IntKind.i64 0)), type := 0, pos := "constraint.go:252", after := #[{ on := 3, ground := Ground.data }], guard := none }, { dst := some 35, op := Op.load 9 (Operand.tmp 34), type := 9, pos := "constraint.go:252", after := #[{ on := 4, ground := Ground.data }], guard := none }, { dst := some 36, op := Op.load 36 (Operand.tmp 7), type := 36, pos := "constraint.go:252", after := #[], guard := none }, { dst := some 37, op := Op.call { callee := Callee.value (Operand.func 17), args := #[Operand.tmp 36], argTypes := #[36] }, type := 9, pos := "constraint.go:252", after := #[{ on := 6, ground := Ground.data }, { on := 3, ground := Ground.chain }], guard := none }, { dst := some 38, op := Op.binOp BinOp.add 9 (Operand.tmp 35) (Operand.tmp 37) 9, type := 9, pos := "constraint.go:252", after := #[{ on := 5, ground := Ground.data }, { on := 7, ground := Ground.data }], guard := none }, { dst := some 39, op := Op.binOp BinOp.add 9 (Operand.tmp 30) (Operand.tmp 38) 9, type := 9, pos := "constraint.go:252", after := #[{ on := 0, ground := Ground.data }, { on := 8, ground := Ground.data }], guard := none }, { dst := some 3, op := Op.assign (Operand.tmp 39), type := 9, pos := "constraint.go:252", after := #[{ on := 9, ground := Ground.data }, { on := 7, ground := Ground.chain }, { on := 0, ground := Ground.phase }, { on := 1, ground := Ground.phase }, { on := 2, ground := Ground.phase }, { on := 3, ground := Ground.phase }, { on := 4, ground := Ground.phase }, { on := 5, ground := Ground.phase }, { on := 6, ground := Ground.phase }, { on := 7, ground := Ground.phase }, { on := 8, ground := Ground.phase }, { on := 9, ground := Ground.phase }], guard := none }]
def fr12 (T : Nat) (x0 x1 x2 x4 x5 x6 x8 x9 x10 x11 x12 x13 x14 x15 x16 x17 x18 x19 x20 x21 x22 x23 x24 x25 x26 x27 x28 x29 x40 x41 x42 : Value) (s3 s30 s31 s32 s33 s34 s35 s36 s37 s38 s39 : Value) : Act := ⟨(x0 :: x1 :: x2 :: s3 :: x4 :: x5 :: x6 :: .pointer (some ⟨T, 0, none⟩) :: x8 :: x9 :: x10 :: x11 :: x12 :: x13 :: x14 :: x15 :: x16 :: x17 :: x18 :: x19 :: x20 :: x21 :: x22 :: x23 :: x24 :: x25 :: x26 :: x27 :: x28 :: x29 :: s30 :: s31 :: s32 :: s33 :: s34 :: s35 :: s36 :: s37 :: s38 :: s39 :: x40 :: x41 :: x42 :: []).toArray, []⟩
structure I12 (w : World) (T : Nat) (t : TV) (X : Bs) (L : Nat → Prop) (s3 s30 s31 s32 s33 s34 s35 s36 s37 s38 s39 : Value) (W : World) : Prop where
  px : PX w T t W
  v30 : L 0 → s30 = .string (bytesOf X)
  v31 : L 1 → s31 = .pointer (some ⟨T, 0, none⟩)
  v32 : L 2 → s32 = .int .i64 t.op
  v33 : L 3 → ∃ P, s33 = .slice (some ⟨P, 0, none⟩) (spell t.op).length (spell t.op).length ∧ W.heap[P]? = some (.cells ((spell t.op).map fun s => Value.string (bytesOf s)).toArray 9 (0, 0))
  v34 : L 4 → ∃ P, s34 = .pointer (some ⟨P, 0, none⟩) ∧ W.heap[P]? = some (.cells ((spell t.op).map fun s => Value.string (bytesOf s)).toArray 9 (0, 0))
  v35 : L 5 → s35 = .string (bytesOf (sp0 t.op))
  v36 : L 6 → s36 = .agg #[.int .i64 t.op, .int .i64 t.g, .int .u64 t.a, .int .u64 t.b, .int .u64 t.c, .string (bytesOf t.pre)]
  v37 : L 7 → ∃ V, s37 = .string (bytesOf V) ∧ PvOk V ∧ V.length ≤ 164
  v38 : L 8 → ∃ V, s38 = .string (bytesOf (sp0 t.op ++ V)) ∧ PvOk V ∧ V.length ≤ 164
  v39 : L 9 → ∃ V, s39 = .string (bytesOf (X ++ (sp0 t.op ++ V))) ∧ PvOk V ∧ V.length ≤ 164
  v3 : L 10 → ∃ V, s3 = .string (bytesOf (X ++ (sp0 t.op ++ V))) ∧ PvOk V ∧ V.length ≤ 164
theorem I12.keep {w : World} {T : Nat} {t : TV} {X : Bs} {L : Nat → Prop} {s3 s30 s31 s32 s33 s34 s35 s36 s37 s38 s39 : Value} {W W' : World} (h : I12 w T t X L s3 s30 s31 s32 s33 s34 s35 s36 s37 s38 s39 W) (hb : Below W.heap.size W W') : I12 w T t X L s3 s30 s31 s32 s33 s34 s35 s36 s37 s38 s39 W' :=
  ⟨h.px.keep hb, h.v30, h.v31, h.v32, (fun x => by obtain ⟨P, e, hp⟩ := h.v33 x; exact ⟨P, e, jblk' hb hp⟩), (fun x => by obtain ⟨P, e, hp⟩ := h.v34 x; exact ⟨P, e, jblk' hb hp⟩), h.v35, h.v36, h.v37, h.v38, h.v39, h.v3⟩
set_option maxHeartbeats 8000000 in
theorem region12 (y3 y30 y31 y32 y33 y34 y35 y36 y37 y38 y39 : Value) (x0 x1 x2 x4 x5 x6 x8 x9 x10 x11 x12 x13 x14 x15 x16 x17 x18 x19 x20 x21 x22 x23 x24 x25 x26 x27 x28 x29 x40 x41 x42 : Value) (w : World) (T : Nat) (t : TV) (X : Bs) (w5 : World) (hpx : PX w T t w5) (hX : X.length < 10000) (ht : t.Good) (hf : t.Fit) (hp64 : t.pre.length ≤ 64) (h3 : y3 = .string (bytesOf X))
    {Q : Exit → Act → World → Prop} (hQ : ∀ V s3 s30 s31 s32 s33 s34 s35 s36 s37 s38 s39 W, PX w T t W → s3 = .string (bytesOf (X ++ (sp0 t.op ++ V))) → PvOk V → V.length ≤ 164 → Q .normal (fr12 T x0 x1 x2 x4 x5 x6 x8 x9 x10 x11 x12 x13 x14 x15 x16 x17 x18 x19 x20 x21 x22 x23 x24 x25 x26 x27 x28 x29 x40 x41 x42 s3 s30 s31 s32 s33 s34 s35 s36 s37 s38 s39) W) :
    (Code.region 12 ops12 true).wp Tryz.prog Q (fr12 T x0 x1 x2 x4 x5 x6 x8 x9 x10 x11 x12 x13 x14 x15 x16 x17 x18 x19 x20 x21 x22 x23 x24 x25 x26 x27 x28 x29 x40 x41 x42 y3 y30 y31 y32 y33 y34 y35 y36 y37 y38 y39) w5 := by
  have H16 := Lib.hid (fun W => m50 t.op ht.op.1 ht.op.2 W)
  have H17 := Lib.hid (fun W => b17 t ht hf W)
  have z1 : (bytesOf (sp0 t.op)).size ≤ 2 := by rw [bytesOf_size]; exact sp0_len _
  have z2 : (bytesOf X).size < 10000 := by rw [bytesOf_size]; exact hX
  have z3 : ∀ V : Bs, V.length ≤ 164 → (bytesOf V).size ≤ 164 := fun V h => by rw [bytesOf_size]; exact h
  have z4 : ∀ V : Bs, V.length ≤ 164 → (bytesOf (sp0 t.op ++ V)).size ≤ 166 := fun V h => by rw [bytesOf_size, List.length_append]; have := sp0_len t.op; omega
  have hspp := spell_pos t.op
  have hspi : (0 : Int) < ((spell t.op).length : Int) := by omega
  have hd0 := hpx.keep (Below.refl w5.heap.size w5).drew
  refine wp_region_inv (by kernel_rfl) (fun L a' W => ∃ s3 s30 s31 s32 s33 s34 s35 s36 s37 s38 s39, a' = fr12 T x0 x1 x2 x4 x5 x6 x8 x9 x10 x11 x12 x13 x14 x15 x16 x17 x18 x19 x20 x21 x22 x23 x24 x25 x26 x27 x28 x29 x40 x41 x42 s3 s30 s31 s32 s33 s34 s35 s36 s37 s38 s39 ∧ ((L 9 → L 0) ∧ (L 10 → L 9)) ∧ (¬ L 10 → s3 = .string (bytesOf X)) ∧ I12 w T t X L s3 s30 s31 s32 s33 s34 s35 s36 s37 s38 s39 W) (by kernel_rfl) ⟨_, _, _, _, _, _, _, _, _, _, _, rfl, ⟨fun h => h.elim, fun h => h.elim⟩, fun _ => h3, ⟨hd0, fun h => h.elim, fun h => h.elim, fun h => h.elim, fun h => h.elim, fun h => h.elim, fun h => h.elim, fun h => h.elim, fun h => h.elim, fun h => h.elim, fun h => h.elim, fun h => h.elim⟩⟩ ?_ ?_
  · intro j o ho L a' W hni hdep hI K hK
    obtain ⟨s3, s30, s31, s32, s33, s34, s35, s36, s37, s38, s39, rfl, hO, h60, hk⟩ := hI
    rcases j with _ | _ | _ | _ | _ | _ | _ | _ | _ | _ | _ | j
    · obtain rfl := Option.some.inj (show some ({ dst := some 30, op := Op.move (Operand.tmp 3), type := 9, pos := "constraint.go:252", after := #[], guard := none } : Oper) = some o from ho)
      have h6b := h60 (fun hl => hni (hO.1 (hO.2 hl)))
      subst h6b
      unfold fr12
      go_simp
      refine hK.out _ _ ⟨(.string (bytesOf X)), (.string (bytesOf X)), s31, s32, s33, s34, s35, s36, s37, s38, s39, rfl, ⟨(fun _ => .inl rfl), (fun hl => .inr (hO.2 (hl.resolve_left (by decide))))⟩, (fun _ => rfl), ⟨hk.px, (fun _ => rfl), (fun hl => hk.v31 (hl.resolve_left (by decide))), (fun hl => hk.v32 (hl.resolve_left (by decide))), (fun hl => hk.v33 (hl.resolve_left (by decide))), (fun hl => hk.v34 (hl.resolve_left (by decide))), (fun hl => hk.v35 (hl.resolve_left (by decide))), (fun hl => hk.v36 (hl.resolve_left (by decide))), (fun hl => hk.v37 (hl.resolve_left (by decide))), (fun hl => hk.v38 (hl.resolve_left (by decide))), (fun hl => hk.v39 (hl.resolve_left (by decide))), (fun hl => hk.v3 (hl.resolve_left (by decide)))⟩⟩
    · obtain rfl := Option.some.inj (show some ({ dst := some 31, op := Op.fieldAddr 36 (Operand.tmp 7) 0, type := 0, pos := "constraint.go:252", after := #[], guard := none } : Oper) = some o from ho)
      unfold fr12
      go_simp
      refine hK.out _ _ ⟨s3, s30, (.pointer (some ⟨T, 0, none⟩)), s32, s33, s34, s35, s36, s37, s38, s39, rfl, ⟨(fun hl => .inr (hO.1 (hl.resolve_left (by decide)))), (fun hl => .inr (hO.2 (hl.resolve_left (by decide))))⟩, (fun hn => h60 (fun hl => hn (.inr hl))), ⟨hk.px, (fun hl => hk.v30 (hl.resolve_left (by decide))), (fun _ => rfl), (fun hl => hk.v32 (hl.resolve_left (by decide))), (fun hl => hk.v33 (hl.resolve_left (by decide))), (fun hl => hk.v34 (hl.resolve_left (by decide))), (fun hl => hk.v35 (hl.resolve_left (by decide))), (fun hl => hk.v36 (hl.resolve_left (by decide))), (fun hl => hk.v37 (hl.resolve_left (by decide))), (fun hl => hk.v38 (hl.resolve_left (by decide))), (fun hl => hk.v39 (hl.resolve_left (by decide))), (fun hl => hk.v3 (hl.resolve_left (by decide)))⟩⟩
    · obtain rfl := Option.some.inj (show some ({ dst := some 32, op := Op.load 3 (Operand.tmp 31), type := 3, pos := "constraint.go:252", after := #[{ on := 1, ground := Ground.data }], guard := none } : Oper) = some o from ho)
      have g := hk.v31 (hdep ⟨1, .data⟩ (by simp) rfl)
      subst g
      obtain ⟨q0, q1, q2, q3, q4, q5⟩ := hk.px.cells
      unfold fr12
      go_simp
      refine hK.out _ _ ⟨s3, s30, (.pointer (some ⟨T, 0, none⟩)), (.int .i64 t.op), s33, s34, s35, s36, s37, s38, s39, rfl, ⟨(fun hl => .inr (hO.1 (hl.resolve_left (by decide)))), (fun hl => .inr (hO.2 (hl.resolve_left (by decide))))⟩, (fun hn => h60 (fun hl => hn (.inr hl))), ⟨hk.px, (fun hl => hk.v30 (hl.resolve_left (by decide))), (fun hl => hk.v31 (hl.resolve_left (by decide))), (fun _ => rfl), (fun hl => hk.v33 (hl.resolve_left (by decide))), (fun hl => hk.v34 (hl.resolve_left (by decide))), (fun hl => hk.v35 (hl.resolve_left (by decide))), (fun hl => hk.v36 (hl.resolve_left (by decide))), (fun hl => hk.v37 (hl.resolve_left (by decide))), (fun hl => hk.v38 (hl.resolve_left (by decide))), (fun hl => hk.v39 (hl.resolve_left (by decide))), (fun hl => hk.v3 (hl.resolve_left (by decide)))⟩⟩
    · obtain rfl := Option.some.inj (show some ({ dst := some 33, op := Op.call { callee := Callee.value (Operand.func 16), args := #[Operand.tmp 32], argTypes := #[3] }, type := 29, pos := "constraint.go:252", after := #[{ on := 2, ground := Ground.data }], guard := none } : Oper) = some o from ho)
      have g := hk.v32 (hdep ⟨2, .data⟩ (by simp) rfl)
      subst g
      unfold fr12
      go_simp
      (go_at_call 16; refine (H16.out W).mono ?_; rintro e W1 ⟨rfl, hw⟩; have hb := (Below.refl _ W).alloc (Nat.le_refl _) (.cells ((spell t.op).map fun s => Value.string (bytesOf s)).toArray 9); rw [← hw] at hb; have hn := heap_alloc_new W (.cells ((spell t.op).map fun s => Value.string (bytesOf s)).toArray 9); rw [← hw] at hn; have hk := hk.keep hb)
      refine hK.out _ _ ⟨s3, s30, s31, (.int .i64 t.op), (.slice (some ⟨W.heap.size, 0, none⟩) (spell t.op).length (spell t.op).length), s34, s35, s36, s37, s38, s39, rfl, ⟨(fun hl => .inr (hO.1 (hl.resolve_left (by decide)))), (fun hl => .inr (hO.2 (hl.resolve_left (by decide))))⟩, (fun hn => h60 (fun hl => hn (.inr hl))), ⟨hk.px, (fun hl => hk.v30 (hl.resolve_left (by decide))), (fun hl => hk.v31 (hl.resolve_left (by decide))), (fun hl => hk.v32 (hl.resolve_left (by decide))), (fun _ => ⟨W.heap.size, rfl, hn⟩), (fun hl => hk.v34 (hl.resolve_left (by decide))), (fun hl => hk.v35 (hl.resolve_left (by decide))), (fun hl => hk.v36 (hl.resolve_left (by decide))), (fun hl => hk.v37 (hl.resolve_left (by decide))), (fun hl => hk.v38 (hl.resolve_left (by decide))), (fun hl => hk.v39 (hl.resolve_left (by decide))), (fun hl => hk.v3 (hl.resolve_left (by decide)))⟩⟩
    · obtain rfl := Option.some.inj (show some ({ dst := some 34, op := Op.indexAddr 29 (Operand.tmp 33) (Operand.const (Value.int IntKind.i64 0)), type := 0, pos := "constraint.go:252", after := #[{ on := 3, ground := Ground.data }], guard := none } : Oper) = some o from ho)
      obtain ⟨P, g, hP⟩ := hk.v33 (hdep ⟨3, .data⟩ (by simp) rfl)
      subst g
      unfold fr12
      go_simp
      refine hK.out _ _ ⟨s3, s30, s31, s32, (.slice (some ⟨P, 0, none⟩) (spell t.op).length (spell t.op).length), (.pointer (some ⟨P, 0, none⟩)), s35, s36, s37, s38, s39, rfl, ⟨(fun hl => .inr (hO.1 (hl.resolve_left (by decide)))), (fun hl => .inr (hO.2 (hl.resolve_left (by decide))))⟩, (fun hn => h60 (fun hl => hn (.inr hl))), ⟨hk.px, (fun hl => hk.v30 (hl.resolve_left (by decide))), (fun hl => hk.v31 (hl.resolve_left (by decide))), (fun hl => hk.v32 (hl.resolve_left (by decide))), (fun hl => hk.v33 (hl.resolve_left (by decide))), (fun _ => ⟨P, rfl, hP⟩), (fun hl => hk.v35 (hl.resolve_left (by decide))), (fun hl => hk.v36 (hl.resolve_left (by decide))), (fun hl => hk.v37 (hl.resolve_left (by decide))), (fun hl => hk.v38 (hl.resolve_left (by decide))), (fun hl => hk.v39 (hl.resolve_left (by decide))), (fun hl => hk.v3 (hl.resolve_left (by decide)))⟩⟩
    · obtain rfl := Option.some.inj (show some ({ dst := some 35, op := Op.load 9 (Operand.tmp 34), type := 9, pos := "constraint.go:252", after := #[{ on := 4, ground := Ground.data }], guard := none } : Oper) = some o from ho)
      obtain ⟨P, g, hP⟩ := hk.v34 (hdep ⟨4, .data⟩ (by simp) rfl)
      subst g
      have q0 := spcell0 hP
      unfold fr12
      go_simp
      refine hK.out _ _ ⟨s3, s30, s31, s32, s33, (.pointer (some ⟨P, 0, none⟩)), (.string (bytesOf (sp0 t.op))), s36, s37, s38, s39, rfl, ⟨(fun hl => .inr (hO.1 (hl.resolve_left (by decide)))), (fun hl => .inr (hO.2 (hl.resolve_left (by decide))))⟩, (fun hn => h60 (fun hl => hn (.inr hl))), ⟨hk.px, (fun hl => hk.v30 (hl.resolve_left (by decide))), (fun hl => hk.v31 (hl.resolve_left (by decide))), (fun hl => hk.v32 (hl.resolve_left (by decide))), (fun hl => hk.v33 (hl.resolve_left (by decide))), (fun hl => hk.v34 (hl.resolve_left (by decide))), (fun _ => rfl), (fun hl => hk.v36 (hl.resolve_left (by decide))), (fun hl => hk.v37 (hl.resolve_left (by decide))), (fun hl => hk.v38 (hl.resolve_left (by decide))), (fun hl => hk.v39 (hl.resolve_left (by decide))), (fun hl => hk.v3 (hl.resolve_left (by decide)))⟩⟩
    · obtain rfl := Option.some.inj (show some ({ dst := some 36, op := Op.load 36 (Operand.tmp 7), type := 36, pos := "constraint.go:252", after := #[], guard := none } : Oper) = some o from ho)
      obtain ⟨q0, q1, q2, q3, q4, q5⟩ := hk.px.cells
      unfold fr12
      go_simp
      refine hK.out _ _ ⟨s3, s30, s31, s32, s33, s34, s35, (.agg #[.int .i64 t.op, .int .i64 t.g, .int .u64 t.a, .int .u64 t.b, .int .u64 t.c, .string (bytesOf t.pre)]), s37, s38, s39, rfl, ⟨(fun hl => .inr (hO.1 (hl.resolve_left (by decide)))), (fun hl => .inr (hO.2 (hl.resolve_left (by decide))))⟩, (fun hn => h60 (fun hl => hn (.inr hl))), ⟨hk.px, (fun hl => hk.v30 (hl.resolve_left (by decide))), (fun hl => hk.v31 (hl.resolve_left (by decide))), (fun hl => hk.v32 (hl.resolve_left (by decide))), (fun hl => hk.v33 (hl.resolve_left (by decide))), (fun hl => hk.v34 (hl.resolve_left (by decide))), (fun hl => hk.v35 (hl.resolve_left (by decide))), (fun _ => rfl), (fun hl => hk.v37 (hl.resolve_left (by decide))), (fun hl => hk.v38 (hl.resolve_left (by decide))), (fun hl => hk.v39 (hl.resolve_left (by decide))), (fun hl => hk.v3 (hl.resolve_left (by decide)))⟩⟩
    · obtain rfl := Option.some.inj (show some ({ dst := some 37, op := Op.call { callee := Callee.value (Operand.func 17), args := #[Operand.tmp 36], argTypes := #[36] }, type := 9, pos := "constraint.go:252", after := #[{ on := 6, ground := Ground.data }, { on := 3, ground := Ground.chain }], guard := none } : Oper) = some o from ho)
      have g := hk.v36 (hdep ⟨6, .data⟩ (by simp) rfl)
      subst g
      unfold fr12
      go_simp
      (go_at_call 17; refine (H17.out W).mono ?_; rintro e W1 ⟨V, rfl, hV, hVl, hb⟩; have hk := hk.keep hb)
      refine hK.out _ _ ⟨s3, s30, s31, s32, s33, s34, s35, (.agg #[.int .i64 t.op, .int .i64 t.g, .int .u64 t.a, .int .u64 t.b, .int .u64 t.c, .string (bytesOf t.pre)]), (.string (bytesOf V)), s38, s39, rfl, ⟨(fun hl => .inr (hO.1 (hl.resolve_left (by decide)))), (fun hl => .inr (hO.2 (hl.resolve_left (by decide))))⟩, (fun hn => h60 (fun hl => hn (.inr hl))), ⟨hk.px, (fun hl => hk.v30 (hl.resolve_left (by decide))), (fun hl => hk.v31 (hl.resolve_left (by decide))), (fun hl => hk.v32 (hl.resolve_left (by decide))), (fun hl => hk.v33 (hl.resolve_left (by decide))), (fun hl => hk.v34 (hl.resolve_left (by decide))), (fun hl => hk.v35 (hl.resolve_left (by decide))), (fun hl => hk.v36 (hl.resolve_left (by decide))), (fun _ => ⟨V, rfl, hV, by omega⟩), (fun hl => hk.v38 (hl.resolve_left (by decide))), (fun hl => hk.v39 (hl.resolve_left (by decide))), (fun hl => hk.v3 (hl.resolve_left (by decide)))⟩⟩
    · obtain rfl := Option.some.inj (show some ({ dst := some 38, op := Op.binOp BinOp.add 9 (Operand.tmp 35) (Operand.tmp 37) 9, type := 9, pos := "constraint.go:252", after := #[{ on := 5, ground := Ground.data }, { on := 7, ground := Ground.data }], guard := none } : Oper) = some o from ho)
      have g := hk.v35 (hdep ⟨5, .data⟩ (by simp) rfl)
      obtain ⟨V, g2, hV, hVl⟩ := hk.v37 (hdep ⟨7, .data⟩ (by simp) rfl)
      subst g g2
      have y1 := z3 V hVl
      unfold fr12
      go_simp
      rw [if_neg (by omega), bytes_add]
      go_simp
      refine hK.out _ _ ⟨s3, s30, s31, s32, s33, s34, (.string (bytesOf (sp0 t.op))), s36, (.string (bytesOf V)), (.string (bytesOf (sp0 t.op ++ V))), s39, rfl, ⟨(fun hl => .inr (hO.1 (hl.resolve_left (by decide)))), (fun hl => .inr (hO.2 (hl.resolve_left (by decide))))⟩, (fun hn => h60 (fun hl => hn (.inr hl))), ⟨hk.px, (fun hl => hk.v30 (hl.resolve_left (by decide))), (fun hl => hk.v31 (hl.resolve_left (by decide))), (fun hl => hk.v32 (hl.resolve_left (by decide))), (fun hl => hk.v33 (hl.resolve_left (by decide))), (fun hl => hk.v34 (hl.resolve_left (by decide))), (fun hl => hk.v35 (hl.resolve_left (by decide))), (fun hl => hk.v36 (hl.resolve_left (by decide))), (fun hl => hk.v37 (hl.resolve_left (by decide))), (fun _ => ⟨V, rfl, hV, hVl⟩), (fun hl => hk.v39 (hl.resolve_left (by decide))), (fun hl => hk.v3 (hl.resolve_left (by decide)))⟩⟩
    · obtain rfl := Option.some.inj (show some ({ dst := some 39, op := Op.binOp BinOp.add 9 (Operand.tmp 30) (Operand.tmp 38) 9, type := 9, pos := "constraint.go:252", after := #[{ on := 0, ground := Ground.data }, { on := 8, ground := Ground.data }], guard := none } : Oper) = some o from ho)
      have g := hk.v30 (hdep ⟨0, .data⟩ (by simp) rfl)
      obtain ⟨V, g2, hV, hVl⟩ := hk.v38 (hdep ⟨8, .data⟩ (by simp) rfl)
      subst g g2
      have y1 := z4 V hVl
      unfold fr12
      go_simp
      rw [if_neg (by omega), bytes_add]
      go_simp
      refine hK.out _ _ ⟨s3, (.string (bytesOf X)), s31, s32, s33, s34, s35, s36, s37, (.string (bytesOf (sp0 t.op ++ V))), (.string (bytesOf (X ++ (sp0 t.op ++ V)))), rfl, ⟨(fun _ => .inr (hdep ⟨0, .data⟩ (by simp) rfl)), (fun _ => .inl rfl)⟩, (fun hn => h60 (fun hl => hn (.inr hl))), ⟨hk.px, (fun hl => hk.v30 (hl.resolve_left (by decide))), (fun hl => hk.v31 (hl.resolve_left (by decide))), (fun hl => hk.v32 (hl.resolve_left (by decide))), (fun hl => hk.v33 (hl.resolve_left (by decide))), (fun hl => hk.v34 (hl.resolve_left (by decide))), (fun hl => hk.v35 (hl.resolve_left (by decide))), (fun hl => hk.v36 (hl.resolve_left (by decide))), (fun hl => hk.v37 (hl.resolve_left (by decide))), (fun hl => hk.v38 (hl.resolve_left (by decide))), (fun _ => ⟨V, rfl, hV, hVl⟩), (fun hl => hk.v3 (hl.resolve_left (by decide)))⟩⟩
    · obtain rfl := Option.some.inj (show some ({ dst := some 3, op := Op.assign (Operand.tmp 39), type := 9, pos := "constraint.go:252", after := #[{ on := 9, ground := Ground.data }, { on := 7, ground := Ground.chain }, { on := 0, ground := Ground.phase }, { on := 1, ground := Ground.phase }, { on := 2, ground := Ground.phase }, { on := 3, ground := Ground.phase }, { on := 4, ground := Ground.phase }, { on := 5, ground := Ground.phase }, { on := 6, ground := Ground.phase }, { on := 7, ground := Ground.phase }, { on := 8, ground := Ground.phase }, { on := 9, ground := Ground.phase }], guard := none } : Oper) = some o from ho)
      obtain ⟨V, g, hV, hVl⟩ := hk.v39 (hdep ⟨9, .data⟩ (by simp) rfl)
      subst g
      unfold fr12
      go_simp
      refine hK.out _ _ ⟨(.string (bytesOf (X ++ (sp0 t.op ++ V)))), s30, s31, s32, s33, s34, s35, s36, s37, s38, (.string (bytesOf (X ++ (sp0 t.op ++ V)))), rfl, ⟨(fun hl => .inr (hO.1 (hl.resolve_left (by decide)))), (fun _ => .inr (hdep ⟨9, .data⟩ (by simp) rfl))⟩, (fun hn => absurd (.inl rfl) hn), ⟨hk.px, (fun hl => hk.v30 (hl.resolve_left (by decide))), (fun hl => hk.v31 (hl.resolve_left (by decide))), (fun hl => hk.v32 (hl.resolve_left (by decide))), (fun hl => hk.v33 (hl.resolve_left (by decide))), (fun hl => hk.v34 (hl.resolve_left (by decide))), (fun hl => hk.v35 (hl.resolve_left (by decide))), (fun hl => hk.v36 (hl.resolve_left (by decide))), (fun hl => hk.v37 (hl.resolve_left (by decide))), (fun hl => hk.v38 (hl.resolve_left (by decide))), (fun hl => hk.v39 (hl.resolve_left (by decide))), (fun _ => ⟨V, rfl, hV, hVl⟩)⟩⟩
    · exact absurd (Array.getElem?_eq_some_iff.1 ho).1 (by simp [ops12])
  · intro L a' W hall hI
    obtain ⟨s3, s30, s31, s32, s33, s34, s35, s36, s37, s38, s39, rfl, hO, h60, hk⟩ := hI
    obtain ⟨V, h6, hV, hVl⟩ := hk.v3 (hall 10 (by decide))
    exact hQ V _ _ _ _ _ _ _ _ _ _ _ W hk.px h6 hV hVl
end Go.Proofs.YthejepmnnpmdmaaGreatDoor.Sv
end
section
set_option linter.unusedVariables false
set_option linter.unusedSimpArgs false
/- the plainest text of one list -/
namespace Go.Proofs.YthejepmnnpmdmaaGreatDoor.Sv
open Go Go.RowKit Rx
set_option maxRecDepth 100000
theorem seg_term {X V : Bs} {op : Int} (hX : Seg X) (hV : PvOk V) : Seg (X ++ (sp0 op ++ V)) := hX.app ((sp0_seg op).app hV.seg)
theorem seg_blank {X : Bs} (hX : Seg X) : Seg (X ++ [32]) := hX.app (Seg.of (by simp))
theorem seg_nil : Seg [] := Seg.of (by simp)
set_option maxHeartbeats 8000000 in
theorem b10 (v : Value) (r : List TV) (n : Nat) (w : World) (hnw : n ≤ w.heap.size) (hr : ConIn n w v [r]) (hl : r.length ≤ 30) (hg : ∀ t ∈ r, t.Good ∧ t.Fit ∧ t.pre.length ≤ 64) :
    Calls Tryz.prog 10 #[v] w fun e w' => ∃ X, e = .returned (.string (bytesOf X)) ∧ Seg X ∧ X.length ≤ 5100 ∧ Below w.heap.size w w' := by
  obtain ⟨a, cap, rfl, hc⟩ := hr
  obtain ⟨B, off, u, rfl, hB, hq, hri⟩ := hc 0 r rfl
  obtain ⟨ua, uc, rfl, hri2⟩ := hri
  have HRI := Lib.hid hri2
  have HG := Lib.hid (And.intro hg hnw)
  have HQ := Lib.hid (And.intro hq hB)
  have hli : (r.length : Int) ≤ 30 := by omega
  clear hc hq hri2 hg hnw hB
  go_enter Tryz.func10, Tryz.ntmps10
  go_wp2
  go_loopw [3, 10] (fun tx kv W => ∃ (k : Nat) (X : Bs), kv = .int .i64 k ∧ tx = .string (bytesOf X) ∧ k ≤ 1 ∧ Hid (Seg X ∧ X.length ≤ 5100 ∧ (k = 0 → X = []) ∧ Below w.heap.size w W)) (fun _ kv _ => 2 - (intOf kv).toNat)
  case atStart => exact ⟨0, [], rfl, rfl, by omega, Lib.hid ⟨seg_nil, by simp, fun _ => rfl, Below.refl _ _⟩⟩
  case round =>
    obtain ⟨k, X, rfl, rfl, hk, HK⟩ := hrel
    have hkc : k = 0 ∨ k = 1 := by omega
    rcases hkc with rfl | rfl
    · have hX := HK.out.2.2.1 rfl
      subst hX
      have q0 : wr.cell? ⟨B, off, none⟩ = some (.slice ua r.length uc) := by
        have h1 := HQ.out.1
        rw [Nat.add_zero] at h1
        exact (HK.out.2.2.2.cell (p := ⟨B, off, none⟩) (by show B < _; have := HG.out.2; have := HQ.out.2; omega)).trans h1
      go_wp2
      go_loopw [3, 21] (fun tx iv W => ∃ (i : Nat) (X : Bs), iv = .int .i64 i ∧ tx = .string (bytesOf X) ∧ i ≤ r.length ∧ Hid (Seg X ∧ X.length ≤ 170 * i ∧ Below w.heap.size w W)) (fun _ iv _ => 300 - (intOf iv).toNat)
      case atStart => exact ⟨0, [], rfl, rfl, by omega, Lib.hid ⟨seg_nil, by simp, HK.out.2.2.2⟩⟩
      case round =>
        obtain ⟨i, X, rfl, rfl, hi, HI⟩ := hrel
        by_cases ci : i < r.length
        · have ci1 : (i : Int) < (r.length : Int) := by omega
          obtain ⟨z, hz⟩ : ∃ z, r[i]'ci = z := ⟨_, rfl⟩
          obtain ⟨B2, off2, rfl, hB2, hq⟩ := HRI.out i z (by rw [List.getElem?_eq_getElem ci, hz])
          have hz2 := Lib.hid (HG.out.1 z (by rw [← hz]; exact List.getElem_mem ci))
          obtain ⟨q0, q1, q2, q3, q4, q5⟩ := hq.keep (show B2 < w.heap.size by have := HG.out.2; omega) HI.out.2.2
          clear hq hz
          have hX1 : X.length ≤ 5100 := by have := HI.out.2.1; omega
          obtain ⟨op, g, za, zb, zc, pre⟩ := z
          simp only at *
          have hsX : (bytesOf X).size ≤ 5100 := by rw [bytesOf_size]; exact hX1
          have HP : PX w wr.heap.size ⟨op, g, za, zb, zc, pre⟩ (wr.alloc (.cells #[.int .i64 op, .int .i64 g, .int .u64 za, .int .u64 zb, .int .u64 zc, .string (bytesOf pre)] 36)) := ⟨heap_alloc_new wr _, HI.out.2.2.alloc HI.out.2.2.size _⟩
          have HPH := Lib.hid HP
          clear HP
          by_cases h0 : i = 0
          · subst h0
            simp only [Nat.zero_mul, Nat.add_zero] at q0 q1 q2 q3 q4 q5
            go_upto_region 12 with fail
            refine region12 _ _ _ _ _ _ _ _ _ _ _ _ _ _ _ _ _ _ _ _ _ _ _ _ _ _ _ _ _ _ _ _ _ _ _ _ _ _ _ _ _ _ (hpx := HPH.out) (X := X) (hX := by omega) (ht := hz2.out.1) (hf := hz2.out.2.1) (hp64 := hz2.out.2.2) (h3 := rfl) (hQ := ?_)
            intro V s3 s30 s31 s32 s33 s34 s35 s36 s37 s38 s39 W hW h3 hV hVl
            subst h3
            unfold fr12
            have HF := Lib.hid (And.intro (seg_term (op := op) HI.out.1 hV) (And.intro hVl hW.b))
            clear hV hVl hW
            go_wp2
            refine ⟨⟨1, X ++ (sp0 op ++ V), by simp, rfl, by omega, Lib.hid ⟨HF.out.1, ?_, HF.out.2.2⟩⟩, by simp [intOf]⟩
            have h1 := HI.out.2.1
            have h2 := HF.out.2.1
            have h3 := sp0_len op
            simp only [List.length_append]; omega
          · have hip : (0 : Int) < (i : Int) := by omega
            have hsX2 : (bytesOf X ++ ⟨#[32]⟩).size ≤ 5200 := by rw [ByteArray.size_append]; have : (⟨#[32]⟩ : ByteArray).size = 1 := rfl; omega
            go_upto_region 12 with fail
            rw [show (⟨#[32]⟩ : ByteArray) = bytesOf [32] from rfl, bytes_add]
            refine region12 _ _ _ _ _ _ _ _ _ _ _ _ _ _ _ _ _ _ _ _ _ _ _ _ _ _ _ _ _ _ _ _ _ _ _ _ _ _ _ _ _ _ (hpx := HPH.out) (X := X ++ [32]) (hX := by simp; omega) (ht := hz2.out.1) (hf := hz2.out.2.1) (hp64 := hz2.out.2.2) (h3 := rfl) (hQ := ?_)
            intro V s3 s30 s31 s32 s33 s34 s35 s36 s37 s38 s39 W hW h3 hV hVl
            subst h3
            unfold fr12
            have HF := Lib.hid (And.intro (seg_term (op := op) (seg_blank HI.out.1) hV) (And.intro hVl hW.b))
            clear hV hVl hW
            go_wp2
            refine ⟨⟨i + 1, X ++ [32] ++ (sp0 op ++ V), by simp, rfl, by omega, Lib.hid ⟨HF.out.1, ?_, HF.out.2.2⟩⟩, by simp [intOf]; omega⟩
            have h1 := HI.out.2.1
            have h2 := HF.out.2.1
            have h3 := sp0_len op
            simp only [List.length_append, List.length_cons, List.length_nil]; omega
        · have hit : i = r.length := by omega
          subst hit
          go_wp2
          refine ⟨⟨1, X, by simp, rfl, by omega, Lib.hid ⟨HI.out.1, by have := HI.out.2.1; omega, (fun h => by cases h), HI.out.2.2⟩⟩, by simp [intOf]⟩
    · go_wp2
      go_ret
      exact ⟨X, rfl, HK.out.1, HK.out.2.1, HK.out.2.2.2⟩
end Go.Proofs.YthejepmnnpmdmaaGreatDoor.Sv
end
section
set_option linter.unusedVariables false
set_option linter.unusedSimpArgs false
/- scGood -/
namespace Go.Proofs.YthejepmnnpmdmaaGreatDoor.Sv
open Go Go.RowKit Rx
set_option maxRecDepth 100000
theorem sumL_ge {C : List (List TV)} {r : List TV} (h : r ∈ C) : r.length ≤ sumL C := by
  unfold sumL
  induction C with
  | nil => cases h
  | cons y C ih =>
    rcases List.mem_cons.1 h with rfl | h
    · simp
    · have := ih h
      simp; omega
theorem sumL_len {C : List (List TV)} (h : ∀ r ∈ C, r ≠ []) : C.length ≤ sumL C := by
  unfold sumL
  induction C with
  | nil => simp
  | cons y C ih =>
    have h1 := ih fun z hz => h z (List.mem_cons_of_mem _ hz)
    have h2 := List.length_pos_iff.2 (h y (by simp))
    simp; omega
/-- what scGood asks -/
structure GoodS (C : List (List TV)) : Prop where
  c : GoodC 24 C
  p : ∀ r ∈ C, ∀ t ∈ r, t.pre.length ≤ 64
set_option maxHeartbeats 8000000 in
theorem d12 (v : Value) (C : List (List TV)) (n : Nat) (w : World) (hnw : n ≤ w.heap.size) (hr : ConIn n w v C) (hS : ShortC C) : Calls Tryz.prog 5 #[v] w fun e w' => OkB e (GoodS C) ∧ Below w.heap.size w w' := by
  have HC := Lib.hid (And.intro hr hnw)
  have H5 := Lib.hid (m5 24 (by omega) v C n w hnw hr hS)
  have HS := Lib.hid hS
  obtain ⟨a, cap, rfl, hc⟩ := hr
  have HCC := Lib.hid hc
  clear hc hS hnw
  go_enter Tryz.func5, Tryz.ntmps5
  go_upto_region 3 with (go_at_call 12; refine H5.out.mono ?_; rintro e w2 ⟨⟨r2, rfl, hr⟩, hb⟩; have HB2 := Lib.hid (And.intro hr hb); clear hr hb)
  all_goals first
    | (go_ret; exact ⟨⟨_, rfl, fun h => by cases h⟩, HB2.out.2⟩)
    | skip
  have HG := Lib.hid (HB2.out.1 (by first | assumption | simp_all))
  have hclen : C.length ≤ 24 := Nat.le_trans (sumL_len fun r hr => (HG.out.row r hr).1) HG.out.sum
  have HR : Hid (∀ r ∈ C, r.length ≤ 24) := Lib.hid fun r hr => Nat.le_trans (sumL_ge hr) HG.out.sum
  have hci : (C.length : Int) ≤ 24 := by omega
  go_wp2
  go_loopw [12] (fun kv W => ∃ k : Nat, kv = .int .i64 k ∧ k ≤ C.length ∧ Hid (Below w.heap.size w W ∧ ∀ j (h : j < C.length), j < k → ∀ t ∈ C[j]'h, t.pre.length ≤ 64)) (fun kv _ => 300 - (intOf kv).toNat)
  case atStart => exact ⟨0, rfl, Nat.zero_le _, Lib.hid ⟨HB2.out.2, fun j h h' => by omega⟩⟩
  case round =>
    obtain ⟨k, rfl, hk, HW⟩ := hrel
    by_cases c : k < C.length
    · have c1 : (k : Int) < (C.length : Int) := by omega
      obtain ⟨t, ht⟩ : ∃ t, C[k]'c = t := ⟨_, rfl⟩
      obtain ⟨B, off, u, rfl, hB, hq, hr⟩ := HCC.out k t (by rw [List.getElem?_eq_getElem c, ht])
      have hBw := HC.out.2
      have q0 : wr.cell? ⟨B, off + k, none⟩ = some u := (HW.out.1.cell (p := ⟨B, off + k, none⟩) (by show B < _; omega)).trans hq
      have htl : t.length ≤ 24 := HR.out t (by rw [← ht]; exact List.getElem_mem c)
      have hti : (t.length : Int) ≤ 24 := by omega
      have HT := Lib.hid (And.intro ht hr)
      obtain ⟨ua, uc, hu, hri⟩ := hr
      subst hu
      have HRI := Lib.hid hri
      clear ht hq hri
      go_wp2
      go_loopw [18] (fun iv W => ∃ i : Nat, iv = .int .i64 i ∧ i ≤ t.length ∧ Hid (Below w.heap.size w W ∧ ∀ j (h : j < t.length), j < i → (t[j]'h).pre.length ≤ 64)) (fun iv _ => 300 - (intOf iv).toNat)
      case atStart => exact ⟨0, rfl, Nat.zero_le _, Lib.hid ⟨HW.out.1, fun j h h' => by omega⟩⟩
      case round =>
        obtain ⟨i, rfl, hi, HI⟩ := hrel
        by_cases ci : i < t.length
        · have ci1 : (i : Int) < (t.length : Int) := by omega
          obtain ⟨z, hz⟩ : ∃ z, t[i]'ci = z := ⟨_, rfl⟩
          obtain ⟨B2, off2, rfl, hB2, hq⟩ := HRI.out i z (by rw [List.getElem?_eq_getElem ci, hz])
          obtain ⟨q0, q1, q2, q3, q4, q5⟩ := hq.keep (show B2 < w.heap.size by omega) HI.out.1
          have HZ := Lib.hid hz
          clear hz hq
          obtain ⟨op, g, za, zb, zc, pre⟩ := z
          simp only at *
          have hsz := bytesOf_size pre
          have HAl := Lib.hid (HI.out.1.alloc HI.out.1.size (.cells #[.int .i64 op, .int .i64 g, .int .u64 za, .int .u64 zb, .int .u64 zc, .string (bytesOf pre)] 36))
          by_cases hp : (64 : Int) < (pre.length : Int)
          · go_wp2
            go_ret
            exact ⟨⟨_, rfl, fun h => by cases h⟩, HAl.out⟩
          · go_wp2
            refine ⟨⟨i + 1, by simp, by omega, Lib.hid ⟨HAl.out, fun j h h' => ?_⟩⟩, by simp [intOf]; omega⟩
            by_cases hj : j = i
            · subst hj; rw [HZ.out]; simp only; omega
            · exact HI.out.2 j h (by omega)
        · have hit : i = t.length := by omega
          subst hit
          go_wp2
          refine ⟨⟨k + 1, by simp, by omega, Lib.hid ⟨HI.out.1, fun j h h' => ?_⟩⟩, by simp [intOf]; omega⟩
          by_cases hj : j = k
          · subst hj
            rw [HT.out.1]
            intro z hz
            obtain ⟨m, hm, rfl⟩ := List.getElem_of_mem hz
            exact HI.out.2 m hm hm
          · exact HW.out.2 j h (by omega)
    · have hkn : k = C.length := by omega
      subst hkn
      go_wp2
      go_ret
      refine ⟨⟨_, rfl, fun _ => ⟨HG.out, fun r hr t ht => ?_⟩⟩, HW.out.1⟩
      obtain ⟨j, hj, rfl⟩ := List.getElem_of_mem hr
      exact HW.out.2 j hj hj t ht
/-- the numbers of the arguments -/
def U64C (C : List (List TV)) : Prop := ∀ r ∈ C, ∀ t ∈ r, t.a < 18446744073709551616 ∧ t.b < 18446744073709551616 ∧ t.c < 18446744073709551616
end Go.Proofs.YthejepmnnpmdmaaGreatDoor.Sv
end
section
set_option linter.unusedVariables false
set_option linter.unusedSimpArgs false
/- the broken texts are refused -/
namespace Go.Proofs.YthejepmnnpmdmaaGreatDoor.Sv
open Go Go.RowKit Rx
set_option maxRecDepth 100000
/-- what the law tests a byte against -/
def odd16 : List Bs := [[32], [9], [10], [12], [13], [124], [46], [43], [42], [44], [60], [62], [61], [33], [126], [94]]
/-- a byte that no list may hold -/
def OddB (o : UInt8) : Prop := lB o = false ∧ o ≠ 44 ∧ o ≠ 45 ∧ o ≠ 124
theorem odd35 : OddB 35 := by refine ⟨by decide, by decide, by decide, by decide⟩
theorem odd_of (o : UInt8) (h1 : o.toNat < 128) (h2 : iB o = false) (h3 : ∀ x ∈ odd16, x ≠ [o]) : OddB o := by
  have key := byte_all (p := fun o => decide (128 ≤ o.toNat) || (iB o || (odd16.any (fun x => x == [o]) || (!lB o && (o != 44 && (o != 45 && o != 124)))))) (by decide +kernel) o
  have e1 : decide (128 ≤ o.toNat) = false := decide_eq_false (by omega)
  have e2 : odd16.any (fun x => x == [o]) = false := by
    rw [List.any_eq_false]
    intro x hx
    simpa using h3 x hx
  simp only [e1, h2, e2, Bool.false_or, Bool.and_eq_true, Bool.not_eq_true', bne_iff_ne] at key
  exact ⟨key.1, key.2.1, key.2.2.1, key.2.2.2⟩
theorem OddB.seg {o : UInt8} (h : OddB o) : Seg [o] := Seg.of fun y hy => by
  obtain rfl := List.mem_singleton.1 hy
  exact ⟨h.2.2.1, h.2.2.2⟩
theorem b8odd (L : Nat) (o : UInt8) (w : World) (hL : w.heap[L]? = some (.cells #[.string ⟨#[32]⟩, .string ⟨#[9]⟩, .string ⟨#[10]⟩, .string ⟨#[12]⟩, .string ⟨#[13]⟩, .string ⟨#[124]⟩, .string ⟨#[46]⟩, .string ⟨#[43]⟩, .string ⟨#[42]⟩, .string ⟨#[44]⟩, .string ⟨#[60]⟩, .string ⟨#[62]⟩, .string ⟨#[61]⟩, .string ⟨#[33]⟩, .string ⟨#[126]⟩, .string ⟨#[94]⟩] 9 (0, 0))) :
    Calls Tryz.prog 8 #[.slice (some ⟨L, 0, none⟩) 16 16, .string (bOf [o])] w fun e w' => (∃ r : Int, e = .returned (.int .i64 r) ∧ (r < 0 → [o] ∉ odd16) ∧ (0 ≤ r → [o] ∈ odd16)) ∧ w' = w := by
  refine (b8 L odd16 [o] (by simp) (by decide) (by decide) w hL).mono ?_
  rintro e w' ⟨⟨r, rfl, h1, h2⟩, rfl⟩
  exact ⟨⟨r, rfl, fun h hm => h1 h _ hm rfl, h2⟩, rfl⟩
theorem heap16 (w : World) (o1 o2 o3 : Obj) : (((w.alloc o1).alloc o2).alloc o3).heap[w.heap.size + 1]? = some o2 := by
  have h := heap_alloc_new (w.alloc o1) o2
  rw [World.size_alloc] at h
  exact jblk' ((Below.refl _ _).alloc (Nat.le_refl _) _) h
/-- lists that are good -/
structure GsOk (G : List GL) : Prop where
  ne : G ≠ []
  le : G.length ≤ 30
  g : ∀ g ∈ G, g.Ok ∧ g.l.length < 1000
theorem GsOk.split {G : List GL} (h : GsOk G) : ∃ G0 gl, G = G0 ++ [gl] := ⟨G.dropLast, G.getLast h.ne, (List.dropLast_concat_getLast h.ne).symm⟩
section
variable {a : Addr} {w : World} (q0 : w.cell? ⟨0, 0, none⟩ = some (.iface 98 (.pointer (some a)))) (hT : Lib.Utf8Tabs 11 12 w)
include q0 hT
theorem bad9 (L : List GL) (b : Bs) (rest : List Bs) (s : Bs) (hs : s = barred (L.map GL.text ++ b :: rest)) (hL : ∀ g ∈ L, g.Ok ∧ g.l.length < 1000) (hb : Seg b) (hr : ∀ x ∈ rest, Seg x) (hbad : validS b 0 = none) (hn : L.length + 1 + rest.length ≤ 32) :
    Calls Tryz.prog 9 #[.string (bytesOf s)] w fun e w' => e = .returned (.bool false) ∧ Below w.heap.size w w' := by
  subst hs
  exact b9bad _ _ (refuse L b rest hL hb hr hbad hn a w q0 hT)
theorem bad_back {G : List GL} (h : GsOk G) (y : Bs) (hy : Seg y) (hbad : ∀ x, validS (x ++ y) 0 = none) : Calls Tryz.prog 9 #[.string (bytesOf (ctextOf G ++ y))] w fun e w' => e = .returned (.bool false) ∧ Below w.heap.size w w' := by
  obtain ⟨G0, gl, rfl⟩ := h.split
  refine bad9 q0 hT G0 (gl.text ++ y) [] _ ?_ (fun g hg => h.g g (List.mem_append_left _ hg)) ((h.g gl (by simp)).1.seg.app hy) (by simp) (hbad _) (by have := h.le; simp at this ⊢; omega)
  rw [barred_app]
  simp [ctextOf]
theorem bad_1 {G : List GL} (h : GsOk G) : Calls Tryz.prog 9 #[.string (bytesOf (ctextOf G) ++ ⟨#[44]⟩)] w fun e w' => e = .returned (.bool false) ∧ Below w.heap.size w w' := by
  have := bad_back q0 hT h [44] (Seg.of (by simp)) bad_end
  rwa [← bytes_add] at this
theorem bad_2 {G : List GL} (h : GsOk G) : Calls Tryz.prog 9 #[.string (⟨#[44]⟩ ++ bytesOf (ctextOf G))] w fun e w' => e = .returned (.bool false) ∧ Below w.heap.size w w' := by
  show Calls Tryz.prog 9 #[.string (bytesOf [44] ++ bytesOf (ctextOf G))] w _
  rw [bytes_add]
  cases G with
  | nil => exact absurd rfl h.ne
  | cons g G =>
    refine bad9 q0 hT [] ([44] ++ g.text) (G.map GL.text) _ ?_ (by simp) ((Seg.of (by simp)).app (h.g g (by simp)).1.seg) (fun x hx => ?_) (bad_head _) (by have := h.le; simp at this ⊢; omega)
    · have := barred_pre [44] g.text (G.map GL.text)
      simpa [ctextOf] using this.symm
    · obtain ⟨g', hg, rfl⟩ := List.mem_map.1 hx
      exact (h.g g' (by simp [hg])).1.seg
theorem bad_3 {G : List GL} (h : GsOk G) (P : Bs) (hP : Seg P) : Calls Tryz.prog 9 #[.string (bytesOf (ctextOf G) ++ ⟨#[44, 44]⟩ ++ bytesOf P)] w fun e w' => e = .returned (.bool false) ∧ Below w.heap.size w w' := by
  have := bad_back q0 hT h (44 :: 44 :: P) ((Seg.of (l := [44, 44]) (by simp)).app hP) fun x => bad_two x P
  have e : bytesOf (ctextOf G ++ 44 :: 44 :: P) = bytesOf (ctextOf G) ++ ⟨#[44, 44]⟩ ++ bytesOf P := by
    show _ = bytesOf (ctextOf G) ++ bytesOf [44, 44] ++ bytesOf P
    rw [bytes_add, bytes_add]; simp
  rwa [e] at this
theorem bad_4 {G : List GL} (h : GsOk G) : Calls Tryz.prog 9 #[.string (bytesOf (ctextOf G) ++ ⟨#[124, 124]⟩)] w fun e w' => e = .returned (.bool false) ∧ Below w.heap.size w w' := by
  show Calls Tryz.prog 9 #[.string (bytesOf (ctextOf G) ++ bytesOf [124, 124])] w _
  rw [bytes_add]
  refine bad9 q0 hT G [] [] _ ?_ h.g Seg.nil (by simp) bad_nil (by have := h.le; simp; omega)
  obtain ⟨G0, gl, rfl⟩ := h.split
  have := barred_snoc (G0.map GL.text) gl.text []
  simpa [ctextOf] using this.symm
theorem bad_5 {G : List GL} (h : GsOk G) : Calls Tryz.prog 9 #[.string (⟨#[124, 124]⟩ ++ bytesOf (ctextOf G))] w fun e w' => e = .returned (.bool false) ∧ Below w.heap.size w w' := by
  show Calls Tryz.prog 9 #[.string (bytesOf [124, 124] ++ bytesOf (ctextOf G))] w _
  rw [bytes_add]
  refine bad9 q0 hT [] [] (G.map GL.text) _ ?_ (by simp) Seg.nil (fun x hx => ?_) bad_nil (by have := h.le; simp; omega)
  · cases G with
    | nil => exact absurd rfl h.ne
    | cons g G => simp [ctextOf, barred]
  · obtain ⟨g', hg, rfl⟩ := List.mem_map.1 hx
    exact (h.g g' hg).1.seg
theorem bad_6 {G : List GL} (h : GsOk G) (o : UInt8) (ho : OddB o) : Calls Tryz.prog 9 #[.string (bytesOf (ctextOf G) ++ bOf [o])] w fun e w' => e = .returned (.bool false) ∧ Below w.heap.size w w' := by
  have := bad_back q0 hT h [o] ho.seg fun x => bad_odd x o ho.1 ho.2.1
  rwa [← bytes_add] at this
end
theorem good9 {G : List GL} (h : GsOk G) (hs : (ctextOf G).length ≤ 500) (w : World) (hT : Lib.Utf8Tabs 11 12 w) : Calls Tryz.prog 9 #[.string (bytesOf (ctextOf G))] w fun e w' => e = .returned (.bool true) ∧ Below w.heap.size w w' := by
  refine b9ok _ _ ((t31GL G h.ne (fun g hg => (h.g g hg).1) (by omega) (by have := h.le; omega) (fun g hg => ⟨?_, (h.g g hg).2⟩) w hT).mono ?_)
  · have key : ∀ (l : List Bs) (x : Bs), x ∈ l → x.length ≤ (barred l).length := by
      intro l
      induction l with
      | nil => intro x h; cases h
      | cons y l ih =>
        intro x h
        cases l with
        | nil => obtain rfl := List.mem_singleton.1 h; exact Nat.le_refl _
        | cons z l =>
          rcases List.mem_cons.1 h with rfl | h
          · simp [barred]
          · have := ih x h
            simp [barred]; omega
    have := key _ _ (List.mem_map_of_mem (f := GL.text) hg)
    unfold ctextOf at hs
    omega
  · rintro e w' ⟨O, rfl, -, -, hb⟩
    exact ⟨O, rfl, hb⟩
end Go.Proofs.YthejepmnnpmdmaaGreatDoor.Sv
end
section
set_option linter.unusedVariables false
set_option linter.unusedSimpArgs false
/- the law's walk -/
namespace Go.Proofs.YthejepmnnpmdmaaGreatDoor.Sv
open Go Go.RowKit Rx
set_option maxRecDepth 100000
theorem conIn_first {n : Nat} {W : World} {a0 : Option Addr} {cap : Nat} {C : List (List TV)} {r1 : List TV} {R1 : List (List TV)} (h : ConIn n W (.slice a0 C.length cap) C) (hC : C = r1 :: R1) : ConIn n W (.slice a0 1 cap) [r1] := by
  obtain ⟨a, cap', e, h⟩ := h
  injection e with e1 e2 e3
  subst e1 e3
  refine ⟨_, _, rfl, fun i r hr => ?_⟩
  cases i with
  | succ i => simp at hr
  | zero =>
    obtain rfl : r1 = r := by simpa using hr
    exact h 0 r1 (by rw [hC]; rfl)
theorem GLOfE.okB {l : List TV} {g : GL} (h : GLOfE l g) (hg : ∀ t ∈ l, t.Good ∧ t.Fit ∧ t.pre.length ≤ 64) : g.Ok := by
  have key : ∀ (i : Nat) (q : GT), (g.t :: g.l.map (·.2))[i]? = some q → q.Ok := fun i q hq => by
    have hi : i < l.length := by
      have := (List.getElem?_eq_some_iff.1 hq).1
      simp at this; have := h.len; omega
    have h1 := h.t i l[i] q (List.getElem?_eq_getElem hi) hq
    have h2 := hg _ (List.getElem_mem hi)
    exact h1.ok h2.1 h2.2.1 h2.2.2
  refine ⟨h.B.ws, by have := h.B.len; omega, key 0 g.t rfl, fun y hy => ?_, h.R.ws⟩
  obtain ⟨j, hj, rfl⟩ := List.getElem_of_mem hy
  have h1 := (h.s _ hy).ok
  exact ⟨h1.1, h1.2.1, key (j + 1) _ (by simp [hj])⟩
theorem cell_lt {w : World} {a : Addr} {v : Value} (h : w.cell? a = some v) : a.block < w.heap.size := by
  unfold World.cell? at h
  split at h
  · rename_i c _ _ hb
    exact (Array.getElem?_eq_some_iff.1 hb).1
  · cases h
theorem gs_ok {C : List (List TV)} {G : List GL} (hC : COf C G) (hG : GoodS C) (hF : ∀ r ∈ C, ∀ t ∈ r, t.Fit) (h30 : C.length ≤ 30) : GsOk G := by
  have hrow : ∀ r ∈ C, r.length ≤ 24 := fun r hr => Nat.le_trans (sumL_ge hr) hG.c.sum
  refine ⟨fun e => ?_, by rw [← hC.len]; exact h30, fun g hm => ?_⟩
  · have := hC.len
    rw [e] at this
    exact hG.c.pos (List.length_eq_zero_iff.1 this)
  · obtain ⟨j, hj, rfl⟩ := List.getElem_of_mem hm
    have hj2 : j < C.length := by rw [hC.len]; exact hj
    have h2 := hC.g j C[j] G[j] (List.getElem?_eq_getElem hj2) (List.getElem?_eq_getElem hj)
    have hm2 := List.getElem_mem hj2
    exact ⟨GLOfE.okB h2 fun t ht => ⟨(hG.c.row _ hm2).2 t ht, hF _ hm2 t ht, hG.p _ hm2 t ht⟩, by have := h2.len; have := hrow _ hm2; omega⟩
set_option maxHeartbeats 16000000 in
theorem lawB (a0 : Option Addr) (cap : Nat) (C : List (List TV)) (x : Int) (c : Nat) (hc : c < 256) (w : World) (hr : ConIn w.heap.size w (.slice a0 C.length cap) C) (hcap : C.length ≤ cap) (hu : U64C C) (A : Addr) (q0 : w.cell? ⟨0, 0, none⟩ = some (.iface 98 (.pointer (some A)))) (hT : Lib.Utf8Tabs 11 12 w) :
    Calls Tryz.prog 3 #[.slice a0 C.length cap, .int .u64 x, .int .u8 (c : Int)] w fun e w' => e = .returned (.bool true) ∧ Below w.heap.size w w' := by
  have hw0 : 0 < w.heap.size := cell_lt q0
  have HC := Lib.hid (And.intro hr (And.intro hu (And.intro q0 (And.intro hT (And.intro hcap hw0)))))
  have H4 := Lib.hid (m4 (.slice a0 C.length cap) C w.heap.size w (Nat.le_refl _) hr)
  have H5 := Lib.hid (fun W (hb : Below w.heap.size w W) (hS : ShortC C) => d12 (.slice a0 C.length cap) C w.heap.size W hb.size (hr.keep hb) hS)
  clear hu q0 hT hcap hr hw0
  go_enter Tryz.func3, Tryz.ntmps3
  go_upto_region 3 with (go_at_call 4; refine H4.out.mono ?_; rintro e w1 ⟨⟨r, rfl, hr⟩, hb⟩; have HB1 := Lib.hid (And.intro hr hb); clear hr hb)
  all_goals first
    | (go_ret; exact ⟨rfl, HB1.out.2⟩)
    | skip
  have hS : ShortC C := HB1.out.1 (by first | assumption | simp_all)
  have HS := Lib.hid hS
  have H5' := Lib.hid (H5.out w1 HB1.out.2 hS)
  clear hS
  go_upto_region 5 with (go_at_call 5; refine H5'.out.mono ?_; rintro e w2 ⟨⟨r2, rfl, hr⟩, hb⟩; have HB2 := Lib.hid (And.intro hr (HB1.out.2.trans (hb.mono HB1.out.2.size))); clear hr hb)
  all_goals first
    | (go_ret; exact ⟨rfl, HB2.out.2⟩)
    | skip
  have HG := Lib.hid (HB2.out.1 (by first | assumption | simp_all))
  have HF : Hid (∀ r ∈ C, ∀ t ∈ r, t.Fit) := Lib.hid fun r hr t ht => by
    have h1 := HC.out.2.1 r hr t ht
    exact ⟨h1.1, h1.2.1, h1.2.2, (HS.out.2 r hr).2 t ht⟩
  have HM := Lib.hid (m6 (.slice a0 C.length cap) C w.heap.size x w2 (HC.out.1.keep HB2.out.2) HB2.out.2.size HG.out.c.pos (by have := sumL_len fun r hr => (HG.out.c.row r hr).1; have := HG.out.c.sum; omega) fun r hr => ⟨(HG.out.c.row r hr).1, by have := sumL_ge hr; have := HG.out.c.sum; omega, fun t ht => ⟨(HG.out.c.row r hr).2 t ht, HF.out r hr t ht⟩⟩)
  go_upto_region 6 with (go_at_call 6; refine HM.out.mono ?_; rintro e w3 ⟨G, rfl, h1, h2, h3⟩; have HX := Lib.hid (And.intro h1 (HB2.out.2.trans (h3.mono HB2.out.2.size))); have HL := Lib.hid h2; clear h1 h2 h3)
  have hsz := bytesOf_size (ctextOf G)
  have hle := HL.out
  by_cases hb1 : (500 : Int) < ((ctextOf G).length : Int)
  · go_wp2
    go_ret
    exact ⟨rfl, HX.out.2⟩
  by_cases hb2 : (30 : Int) < (C.length : Int)
  · go_wp2
    go_ret
    exact ⟨rfl, HX.out.2⟩
  have HGs := Lib.hid (gs_ok HX.out.1 HG.out HF.out (by omega))
  have HN := Lib.hid (show (ctextOf G).length ≤ 500 by omega)
  go_upto_region 8 with fail
  clear hb1 hb2 hle
  have hcv := conv1 c hc
  have HO35 : Hid (35 < 256 ∧ OddB (UInt8.ofNat 35)) := Lib.hid ⟨by decide, odd35⟩
  by_cases h128 : (128 : Int) ≤ (c : Int)
  · go_upto_region 10 with fail
    clear h128 hcv
    have HBK := HX.out.2
    rw [show (35 : Int) = ((35 : Nat) : Int) from rfl]
    generalize w3 = WK at *
    generalize 35 = oo at *
    have hcv2 := conv1 oo HO35.out.1
    have K0 := Lib.hid HBK
    clear HBK
    have hq : Hid (∀ W, Below w.heap.size w W → W.cell? ⟨0, 0, none⟩ = some (.iface 98 (.pointer (some A)))) := Lib.hid fun W hb => (hb.cell (p := ⟨0, 0, none⟩) HC.out.2.2.2.2.2).trans HC.out.2.2.1
    have hq2 : Hid (∀ W, Below w.heap.size w W → Lib.Utf8Tabs 11 12 W) := Lib.hid fun W hb => Utf8Tabs_below HC.out.2.2.2.1 hb
    have H9_1 := Lib.hid (fun W hb => good9 HGs.out HN.out W (hq2.out W hb))
    have H9_2 := Lib.hid (fun W hb => bad_1 (hq.out W hb) (hq2.out W hb) HGs.out)
    have H9_3 := Lib.hid (fun W hb => bad_2 (hq.out W hb) (hq2.out W hb) HGs.out)
    have H9_5 := Lib.hid (fun W hb P hP => bad_3 (hq.out W hb) (hq2.out W hb) HGs.out P hP)
    have H9_6 := Lib.hid (fun W hb => bad_4 (hq.out W hb) (hq2.out W hb) HGs.out)
    have H9_7 := Lib.hid (fun W hb => bad_5 (hq.out W hb) (hq2.out W hb) HGs.out)
    have H9_8 := Lib.hid (fun W hb => bad_6 (hq.out W hb) (hq2.out W hb) HGs.out (UInt8.ofNat oo) HO35.out.2)
    obtain ⟨r1, R1, hCr⟩ : ∃ r1 R1, C = r1 :: R1 := by cases hC : C with | nil => exact absurd hC HG.out.c.pos | cons r1 R1 => exact ⟨r1, R1, rfl⟩
    have H10 := Lib.hid (fun W (hb : Below w.heap.size w W) => b10 (.slice a0 1 cap) r1 w.heap.size W hb.size (conIn_first (HC.out.1.keep hb) hCr) (by have := sumL_ge (C := C) (r := r1) (by rw [hCr]; simp); have := HG.out.c.sum; omega) (fun t ht => ⟨(HG.out.c.row r1 (by rw [hCr]; simp)).2 t ht, HF.out r1 (by rw [hCr]; simp) t ht, HG.out.p r1 (by rw [hCr]; simp) t ht⟩))
    have hcapi : (1 : Int) ≤ (cap : Int) := by have := HC.out.2.2.2.2.1; rw [hCr] at this; simp at this; omega
    clear hCr
    have s1 : (bytesOf (ctextOf G)).size ≤ 500 := by rw [bytesOf_size]; exact HN.out
    have s2 : (bytesOf (ctextOf G) ++ ⟨#[44, 44]⟩).size ≤ 510 := by rw [ByteArray.size_append]; have : (⟨#[44, 44]⟩ : ByteArray).size = 2 := rfl; omega
    have s3 : (bOf [UInt8.ofNat oo]).size ≤ 1 := by rw [bOf_size]; simp
    clear hsz
    go_wp2_with (first
      | (go_at_call 9; refine (H9_1.out _ K0.out).mono ?_; rintro e w_1 ⟨rfl, hb⟩; have K1 := Lib.hid (K0.out.trans (hb.mono K0.out.size)); clear hb H9_1)
      | (go_at_call 9; refine (H9_2.out _ K1.out).mono ?_; rintro e w_2 ⟨rfl, hb⟩; have K2 := Lib.hid (K1.out.trans (hb.mono K1.out.size)); clear hb H9_2)
      | (go_at_call 9; refine (H9_3.out _ K2.out).mono ?_; rintro e w_3 ⟨rfl, hb⟩; have K3 := Lib.hid (K2.out.trans (hb.mono K2.out.size)); clear hb H9_3)
      | (go_at_call 10; refine (H10.out _ K3.out).mono ?_; rintro e w_4 ⟨P, rfl, hP, hPl, hb⟩; have K4 := Lib.hid (K3.out.trans (hb.mono K3.out.size)); have HP := Lib.hid hP; have s4 : (bytesOf P).size ≤ 5100 := (by rw [bytesOf_size]; exact hPl); clear hb H10 hP hPl)
      | (go_at_call 9; refine (H9_5.out _ K4.out _ HP.out).mono ?_; rintro e w_5 ⟨rfl, hb⟩; have K5 := Lib.hid (K4.out.trans (hb.mono K4.out.size)); clear hb H9_5)
      | (go_at_call 9; refine (H9_6.out _ K5.out).mono ?_; rintro e w_6 ⟨rfl, hb⟩; have K6 := Lib.hid (K5.out.trans (hb.mono K5.out.size)); clear hb H9_6)
      | (go_at_call 9; refine (H9_7.out _ K6.out).mono ?_; rintro e w_7 ⟨rfl, hb⟩; have K7 := Lib.hid (K6.out.trans (hb.mono K6.out.size)); clear hb H9_7)
      | (go_at_call 9; refine (H9_8.out _ (K7.out.alloc K7.out.size _)).mono ?_; rintro e w_8 ⟨rfl, hb⟩; have K8 := Lib.hid ((K7.out.alloc K7.out.size _).trans (hb.mono (K7.out.alloc K7.out.size _).size)); clear hb H9_8))
    go_ret
    exact ⟨rfl, K8.out⟩
  have HOD : Hid ((UInt8.ofNat c).toNat < 128) := Lib.hid (by simp; omega)
  have H7 := Lib.hid (fun W => m29 [UInt8.ofNat c] (by simp) W)
  obtain ⟨ri, hri⟩ : ∃ ri, iB (UInt8.ofNat c) = ri := ⟨_, rfl⟩
  have HRI := Lib.hid hri
  have hri2 : (([UInt8.ofNat c] : Bs).all iB && !([UInt8.ofNat c] : Bs).isEmpty) = ri := by rw [← hri]; simp
  rw [hri2] at H7
  clear hri hri2
  cases ri
  · by_cases hin : [UInt8.ofNat c] ∈ odd16
    · have HIN := Lib.hid hin
      clear hin
      go_upto_region 10 with (first
        | (go_at_call 7; refine (H7.out _).mono ?_; rintro e w4 ⟨rfl, hw⟩; subst hw)
        | (go_at_call 8; refine (b8odd _ (UInt8.ofNat c) _ (heap16 _ _ _ _)).mono ?_; rintro e w4 ⟨⟨r, rfl, h1, h2⟩, hw⟩; subst hw; have hr0 : (0 : Int) ≤ r := (by rcases Int.lt_or_le r 0 with h | h; exact absurd HIN.out (h1 h); exact h); clear h1 h2))
      have HBK := ((HX.out.2.alloc HX.out.2.size (.cells #[.int .u8 (c : Int)] 5)).alloc (HX.out.2.alloc HX.out.2.size (.cells #[.int .u8 (c : Int)] 5)).size (.cells #[.string ⟨#[32]⟩, .string ⟨#[9]⟩, .string ⟨#[10]⟩, .string ⟨#[12]⟩, .string ⟨#[13]⟩, .string ⟨#[124]⟩, .string ⟨#[46]⟩, .string ⟨#[43]⟩, .string ⟨#[42]⟩, .string ⟨#[44]⟩, .string ⟨#[60]⟩, .string ⟨#[62]⟩, .string ⟨#[61]⟩, .string ⟨#[33]⟩, .string ⟨#[126]⟩, .string ⟨#[94]⟩] 9)).alloc ((HX.out.2.alloc HX.out.2.size (.cells #[.int .u8 (c : Int)] 5)).alloc (HX.out.2.alloc HX.out.2.size (.cells #[.int .u8 (c : Int)] 5)).size (.cells #[.string ⟨#[32]⟩, .string ⟨#[9]⟩, .string ⟨#[10]⟩, .string ⟨#[12]⟩, .string ⟨#[13]⟩, .string ⟨#[124]⟩, .string ⟨#[46]⟩, .string ⟨#[43]⟩, .string ⟨#[42]⟩, .string ⟨#[44]⟩, .string ⟨#[60]⟩, .string ⟨#[62]⟩, .string ⟨#[61]⟩, .string ⟨#[33]⟩, .string ⟨#[126]⟩, .string ⟨#[94]⟩] 9)).size (.cells #[.int .u8 (c : Int)] 5)
      rw [show (35 : Int) = ((35 : Nat) : Int) from rfl]
      clear hcv h128
      generalize ((w3.alloc (.cells #[.int .u8 (c : Int)] 5)).alloc (.cells #[.string ⟨#[32]⟩, .string ⟨#[9]⟩, .string ⟨#[10]⟩, .string ⟨#[12]⟩, .string ⟨#[13]⟩, .string ⟨#[124]⟩, .string ⟨#[46]⟩, .string ⟨#[43]⟩, .string ⟨#[42]⟩, .string ⟨#[44]⟩, .string ⟨#[60]⟩, .string ⟨#[62]⟩, .string ⟨#[61]⟩, .string ⟨#[33]⟩, .string ⟨#[126]⟩, .string ⟨#[94]⟩] 9)).alloc (.cells #[.int .u8 (c : Int)] 5) = WK at *
      generalize 35 = oo at *
      have hcv2 := conv1 oo HO35.out.1
      have K0 := Lib.hid HBK
      clear HBK
      have hq : Hid (∀ W, Below w.heap.size w W → W.cell? ⟨0, 0, none⟩ = some (.iface 98 (.pointer (some A)))) := Lib.hid fun W hb => (hb.cell (p := ⟨0, 0, none⟩) HC.out.2.2.2.2.2).trans HC.out.2.2.1
      have hq2 : Hid (∀ W, Below w.heap.size w W → Lib.Utf8Tabs 11 12 W) := Lib.hid fun W hb => Utf8Tabs_below HC.out.2.2.2.1 hb
      have H9_1 := Lib.hid (fun W hb => good9 HGs.out HN.out W (hq2.out W hb))
      have H9_2 := Lib.hid (fun W hb => bad_1 (hq.out W hb) (hq2.out W hb) HGs.out)
      have H9_3 := Lib.hid (fun W hb => bad_2 (hq.out W hb) (hq2.out W hb) HGs.out)
      have H9_5 := Lib.hid (fun W hb P hP => bad_3 (hq.out W hb) (hq2.out W hb) HGs.out P hP)
      have H9_6 := Lib.hid (fun W hb => bad_4 (hq.out W hb) (hq2.out W hb) HGs.out)
      have H9_7 := Lib.hid (fun W hb => bad_5 (hq.out W hb) (hq2.out W hb) HGs.out)
      have H9_8 := Lib.hid (fun W hb => bad_6 (hq.out W hb) (hq2.out W hb) HGs.out (UInt8.ofNat oo) HO35.out.2)
      obtain ⟨r1, R1, hCr⟩ : ∃ r1 R1, C = r1 :: R1 := by cases hC : C with | nil => exact absurd hC HG.out.c.pos | cons r1 R1 => exact ⟨r1, R1, rfl⟩
      have H10 := Lib.hid (fun W (hb : Below w.heap.size w W) => b10 (.slice a0 1 cap) r1 w.heap.size W hb.size (conIn_first (HC.out.1.keep hb) hCr) (by have := sumL_ge (C := C) (r := r1) (by rw [hCr]; simp); have := HG.out.c.sum; omega) (fun t ht => ⟨(HG.out.c.row r1 (by rw [hCr]; simp)).2 t ht, HF.out r1 (by rw [hCr]; simp) t ht, HG.out.p r1 (by rw [hCr]; simp) t ht⟩))
      have hcapi : (1 : Int) ≤ (cap : Int) := by have := HC.out.2.2.2.2.1; rw [hCr] at this; simp at this; omega
      clear hCr
      have s1 : (bytesOf (ctextOf G)).size ≤ 500 := by rw [bytesOf_size]; exact HN.out
      have s2 : (bytesOf (ctextOf G) ++ ⟨#[44, 44]⟩).size ≤ 510 := by rw [ByteArray.size_append]; have : (⟨#[44, 44]⟩ : ByteArray).size = 2 := rfl; omega
      have s3 : (bOf [UInt8.ofNat oo]).size ≤ 1 := by rw [bOf_size]; simp
      clear hsz
      go_wp2_with (first
        | (go_at_call 9; refine (H9_1.out _ K0.out).mono ?_; rintro e w_1 ⟨rfl, hb⟩; have K1 := Lib.hid (K0.out.trans (hb.mono K0.out.size)); clear hb H9_1)
        | (go_at_call 9; refine (H9_2.out _ K1.out).mono ?_; rintro e w_2 ⟨rfl, hb⟩; have K2 := Lib.hid (K1.out.trans (hb.mono K1.out.size)); clear hb H9_2)
        | (go_at_call 9; refine (H9_3.out _ K2.out).mono ?_; rintro e w_3 ⟨rfl, hb⟩; have K3 := Lib.hid (K2.out.trans (hb.mono K2.out.size)); clear hb H9_3)
        | (go_at_call 10; refine (H10.out _ K3.out).mono ?_; rintro e w_4 ⟨P, rfl, hP, hPl, hb⟩; have K4 := Lib.hid (K3.out.trans (hb.mono K3.out.size)); have HP := Lib.hid hP; have s4 : (bytesOf P).size ≤ 5100 := (by rw [bytesOf_size]; exact hPl); clear hb H10 hP hPl)
        | (go_at_call 9; refine (H9_5.out _ K4.out _ HP.out).mono ?_; rintro e w_5 ⟨rfl, hb⟩; have K5 := Lib.hid (K4.out.trans (hb.mono K4.out.size)); clear hb H9_5)
        | (go_at_call 9; refine (H9_6.out _ K5.out).mono ?_; rintro e w_6 ⟨rfl, hb⟩; have K6 := Lib.hid (K5.out.trans (hb.mono K5.out.size)); clear hb H9_6)
        | (go_at_call 9; refine (H9_7.out _ K6.out).mono ?_; rintro e w_7 ⟨rfl, hb⟩; have K7 := Lib.hid (K6.out.trans (hb.mono K6.out.size)); clear hb H9_7)
        | (go_at_call 9; refine (H9_8.out _ (K7.out.alloc K7.out.size _)).mono ?_; rintro e w_8 ⟨rfl, hb⟩; have K8 := Lib.hid ((K7.out.alloc K7.out.size _).trans (hb.mono (K7.out.alloc K7.out.size _).size)); clear hb H9_8))
      go_ret
      exact ⟨rfl, K8.out⟩
    · have HODD := Lib.hid (And.intro hc (odd_of (UInt8.ofNat c) HOD.out HRI.out fun x hx e => hin (by rw [← e]; exact hx)))
      have HIN := Lib.hid hin
      clear hin
      go_upto_region 10 with (first
        | (go_at_call 7; refine (H7.out _).mono ?_; rintro e w4 ⟨rfl, hw⟩; subst hw)
        | (go_at_call 8; refine (b8odd _ (UInt8.ofNat c) _ (heap16 _ _ _ _)).mono ?_; rintro e w4 ⟨⟨r, rfl, h1, h2⟩, hw⟩; subst hw; have hr0 : ¬ (0 : Int) ≤ r := (fun h => HIN.out (h2 h)); clear h1 h2))
      have HBK := ((HX.out.2.alloc HX.out.2.size (.cells #[.int .u8 (c : Int)] 5)).alloc (HX.out.2.alloc HX.out.2.size (.cells #[.int .u8 (c : Int)] 5)).size (.cells #[.string ⟨#[32]⟩, .string ⟨#[9]⟩, .string ⟨#[10]⟩, .string ⟨#[12]⟩, .string ⟨#[13]⟩, .string ⟨#[124]⟩, .string ⟨#[46]⟩, .string ⟨#[43]⟩, .string ⟨#[42]⟩, .string ⟨#[44]⟩, .string ⟨#[60]⟩, .string ⟨#[62]⟩, .string ⟨#[61]⟩, .string ⟨#[33]⟩, .string ⟨#[126]⟩, .string ⟨#[94]⟩] 9)).alloc ((HX.out.2.alloc HX.out.2.size (.cells #[.int .u8 (c : Int)] 5)).alloc (HX.out.2.alloc HX.out.2.size (.cells #[.int .u8 (c : Int)] 5)).size (.cells #[.string ⟨#[32]⟩, .string ⟨#[9]⟩, .string ⟨#[10]⟩, .string ⟨#[12]⟩, .string ⟨#[13]⟩, .string ⟨#[124]⟩, .string ⟨#[46]⟩, .string ⟨#[43]⟩, .string ⟨#[42]⟩, .string ⟨#[44]⟩, .string ⟨#[60]⟩, .string ⟨#[62]⟩, .string ⟨#[61]⟩, .string ⟨#[33]⟩, .string ⟨#[126]⟩, .string ⟨#[94]⟩] 9)).size (.cells #[.int .u8 (c : Int)] 5)
      clear hcv h128 HO35
      have HO35 := HODD
      clear HODD
      generalize ((w3.alloc (.cells #[.int .u8 (c : Int)] 5)).alloc (.cells #[.string ⟨#[32]⟩, .string ⟨#[9]⟩, .string ⟨#[10]⟩, .string ⟨#[12]⟩, .string ⟨#[13]⟩, .string ⟨#[124]⟩, .string ⟨#[46]⟩, .string ⟨#[43]⟩, .string ⟨#[42]⟩, .string ⟨#[44]⟩, .string ⟨#[60]⟩, .string ⟨#[62]⟩, .string ⟨#[61]⟩, .string ⟨#[33]⟩, .string ⟨#[126]⟩, .string ⟨#[94]⟩] 9)).alloc (.cells #[.int .u8 (c : Int)] 5) = WK at *
      clear HOD HRI H7 HIN hc
      generalize c = oo at *
      have hcv2 := conv1 oo HO35.out.1
      have K0 := Lib.hid HBK
      clear HBK
      have hq : Hid (∀ W, Below w.heap.size w W → W.cell? ⟨0, 0, none⟩ = some (.iface 98 (.pointer (some A)))) := Lib.hid fun W hb => (hb.cell (p := ⟨0, 0, none⟩) HC.out.2.2.2.2.2).trans HC.out.2.2.1
      have hq2 : Hid (∀ W, Below w.heap.size w W → Lib.Utf8Tabs 11 12 W) := Lib.hid fun W hb => Utf8Tabs_below HC.out.2.2.2.1 hb
      have H9_1 := Lib.hid (fun W hb => good9 HGs.out HN.out W (hq2.out W hb))
      have H9_2 := Lib.hid (fun W hb => bad_1 (hq.out W hb) (hq2.out W hb) HGs.out)
      have H9_3 := Lib.hid (fun W hb => bad_2 (hq.out W hb) (hq2.out W hb) HGs.out)
      have H9_5 := Lib.hid (fun W hb P hP => bad_3 (hq.out W hb) (hq2.out W hb) HGs.out P hP)
      have H9_6 := Lib.hid (fun W hb => bad_4 (hq.out W hb) (hq2.out W hb) HGs.out)
      have H9_7 := Lib.hid (fun W hb => bad_5 (hq.out W hb) (hq2.out W hb) HGs.out)
      have H9_8 := Lib.hid (fun W hb => bad_6 (hq.out W hb) (hq2.out W hb) HGs.out (UInt8.ofNat oo) HO35.out.2)
      obtain ⟨r1, R1, hCr⟩ : ∃ r1 R1, C = r1 :: R1 := by cases hC : C with | nil => exact absurd hC HG.out.c.pos | cons r1 R1 => exact ⟨r1, R1, rfl⟩
      have H10 := Lib.hid (fun W (hb : Below w.heap.size w W) => b10 (.slice a0 1 cap) r1 w.heap.size W hb.size (conIn_first (HC.out.1.keep hb) hCr) (by have := sumL_ge (C := C) (r := r1) (by rw [hCr]; simp); have := HG.out.c.sum; omega) (fun t ht => ⟨(HG.out.c.row r1 (by rw [hCr]; simp)).2 t ht, HF.out r1 (by rw [hCr]; simp) t ht, HG.out.p r1 (by rw [hCr]; simp) t ht⟩))
      have hcapi : (1 : Int) ≤ (cap : Int) := by have := HC.out.2.2.2.2.1; rw [hCr] at this; simp at this; omega
      clear hCr
      have s1 : (bytesOf (ctextOf G)).size ≤ 500 := by rw [bytesOf_size]; exact HN.out
      have s2 : (bytesOf (ctextOf G) ++ ⟨#[44, 44]⟩).size ≤ 510 := by rw [ByteArray.size_append]; have : (⟨#[44, 44]⟩ : ByteArray).size = 2 := rfl; omega
      have s3 : (bOf [UInt8.ofNat oo]).size ≤ 1 := by rw [bOf_size]; simp
      clear hsz
      go_wp2_with (first
        | (go_at_call 9; refine (H9_1.out _ K0.out).mono ?_; rintro e w_1 ⟨rfl, hb⟩; have K1 := Lib.hid (K0.out.trans (hb.mono K0.out.size)); clear hb H9_1)
        | (go_at_call 9; refine (H9_2.out _ K1.out).mono ?_; rintro e w_2 ⟨rfl, hb⟩; have K2 := Lib.hid (K1.out.trans (hb.mono K1.out.size)); clear hb H9_2)
        | (go_at_call 9; refine (H9_3.out _ K2.out).mono ?_; rintro e w_3 ⟨rfl, hb⟩; have K3 := Lib.hid (K2.out.trans (hb.mono K2.out.size)); clear hb H9_3)
        | (go_at_call 10; refine (H10.out _ K3.out).mono ?_; rintro e w_4 ⟨P, rfl, hP, hPl, hb⟩; have K4 := Lib.hid (K3.out.trans (hb.mono K3.out.size)); have HP := Lib.hid hP; have s4 : (bytesOf P).size ≤ 5100 := (by rw [bytesOf_size]; exact hPl); clear hb H10 hP hPl)
        | (go_at_call 9; refine (H9_5.out _ K4.out _ HP.out).mono ?_; rintro e w_5 ⟨rfl, hb⟩; have K5 := Lib.hid (K4.out.trans (hb.mono K4.out.size)); clear hb H9_5)
        | (go_at_call 9; refine (H9_6.out _ K5.out).mono ?_; rintro e w_6 ⟨rfl, hb⟩; have K6 := Lib.hid (K5.out.trans (hb.mono K5.out.size)); clear hb H9_6)
        | (go_at_call 9; refine (H9_7.out _ K6.out).mono ?_; rintro e w_7 ⟨rfl, hb⟩; have K7 := Lib.hid (K6.out.trans (hb.mono K6.out.size)); clear hb H9_7)
        | (go_at_call 9; refine (H9_8.out _ (K7.out.alloc K7.out.size _)).mono ?_; rintro e w_8 ⟨rfl, hb⟩; have K8 := Lib.hid ((K7.out.alloc K7.out.size _).trans (hb.mono (K7.out.alloc K7.out.size _).size)); clear hb H9_8))
      go_ret
      exact ⟨rfl, K8.out⟩
  · go_upto_region 10 with (go_at_call 7; refine (H7.out _).mono ?_; rintro e w4 ⟨rfl, hw⟩; subst hw)
    have HBK := HX.out.2.alloc HX.out.2.size (.cells #[.int .u8 (c : Int)] 5)
    rw [show (35 : Int) = ((35 : Nat) : Int) from rfl]
    clear hcv h128
    generalize w3.alloc (.cells #[.int .u8 (c : Int)] 5) = WK at *
    generalize 35 = oo at *
    have hcv2 := conv1 oo HO35.out.1
    have K0 := Lib.hid HBK
    clear HBK
    have hq : Hid (∀ W, Below w.heap.size w W → W.cell? ⟨0, 0, none⟩ = some (.iface 98 (.pointer (some A)))) := Lib.hid fun W hb => (hb.cell (p := ⟨0, 0, none⟩) HC.out.2.2.2.2.2).trans HC.out.2.2.1
    have hq2 : Hid (∀ W, Below w.heap.size w W → Lib.Utf8Tabs 11 12 W) := Lib.hid fun W hb => Utf8Tabs_below HC.out.2.2.2.1 hb
    have H9_1 := Lib.hid (fun W hb => good9 HGs.out HN.out W (hq2.out W hb))
    have H9_2 := Lib.hid (fun W hb => bad_1 (hq.out W hb) (hq2.out W hb) HGs.out)
    have H9_3 := Lib.hid (fun W hb => bad_2 (hq.out W hb) (hq2.out W hb) HGs.out)
    have H9_5 := Lib.hid (fun W hb P hP => bad_3 (hq.out W hb) (hq2.out W hb) HGs.out P hP)
    have H9_6 := Lib.hid (fun W hb => bad_4 (hq.out W hb) (hq2.out W hb) HGs.out)
    have H9_7 := Lib.hid (fun W hb => bad_5 (hq.out W hb) (hq2.out W hb) HGs.out)
    have H9_8 := Lib.hid (fun W hb => bad_6 (hq.out W hb) (hq2.out W hb) HGs.out (UInt8.ofNat oo) HO35.out.2)
    obtain ⟨r1, R1, hCr⟩ : ∃ r1 R1, C = r1 :: R1 := by cases hC : C with | nil => exact absurd hC HG.out.c.pos | cons r1 R1 => exact ⟨r1, R1, rfl⟩
    have H10 := Lib.hid (fun W (hb : Below w.heap.size w W) => b10 (.slice a0 1 cap) r1 w.heap.size W hb.size (conIn_first (HC.out.1.keep hb) hCr) (by have := sumL_ge (C := C) (r := r1) (by rw [hCr]; simp); have := HG.out.c.sum; omega) (fun t ht => ⟨(HG.out.c.row r1 (by rw [hCr]; simp)).2 t ht, HF.out r1 (by rw [hCr]; simp) t ht, HG.out.p r1 (by rw [hCr]; simp) t ht⟩))
    have hcapi : (1 : Int) ≤ (cap : Int) := by have := HC.out.2.2.2.2.1; rw [hCr] at this; simp at this; omega
    clear hCr
    have s1 : (bytesOf (ctextOf G)).size ≤ 500 := by rw [bytesOf_size]; exact HN.out
    have s2 : (bytesOf (ctextOf G) ++ ⟨#[44, 44]⟩).size ≤ 510 := by rw [ByteArray.size_append]; have : (⟨#[44, 44]⟩ : ByteArray).size = 2 := rfl; omega
    have s3 : (bOf [UInt8.ofNat oo]).size ≤ 1 := by rw [bOf_size]; simp
    clear hsz
    go_wp2_with (first
      | (go_at_call 9; refine (H9_1.out _ K0.out).mono ?_; rintro e w_1 ⟨rfl, hb⟩; have K1 := Lib.hid (K0.out.trans (hb.mono K0.out.size)); clear hb H9_1)
      | (go_at_call 9; refine (H9_2.out _ K1.out).mono ?_; rintro e w_2 ⟨rfl, hb⟩; have K2 := Lib.hid (K1.out.trans (hb.mono K1.out.size)); clear hb H9_2)
      | (go_at_call 9; refine (H9_3.out _ K2.out).mono ?_; rintro e w_3 ⟨rfl, hb⟩; have K3 := Lib.hid (K2.out.trans (hb.mono K2.out.size)); clear hb H9_3)
      | (go_at_call 10; refine (H10.out _ K3.out).mono ?_; rintro e w_4 ⟨P, rfl, hP, hPl, hb⟩; have K4 := Lib.hid (K3.out.trans (hb.mono K3.out.size)); have HP := Lib.hid hP; have s4 : (bytesOf P).size ≤ 5100 := (by rw [bytesOf_size]; exact hPl); clear hb H10 hP hPl)
      | (go_at_call 9; refine (H9_5.out _ K4.out _ HP.out).mono ?_; rintro e w_5 ⟨rfl, hb⟩; have K5 := Lib.hid (K4.out.trans (hb.mono K4.out.size)); clear hb H9_5)
      | (go_at_call 9; refine (H9_6.out _ K5.out).mono ?_; rintro e w_6 ⟨rfl, hb⟩; have K6 := Lib.hid (K5.out.trans (hb.mono K5.out.size)); clear hb H9_6)
      | (go_at_call 9; refine (H9_7.out _ K6.out).mono ?_; rintro e w_7 ⟨rfl, hb⟩; have K7 := Lib.hid (K6.out.trans (hb.mono K6.out.size)); clear hb H9_7)
      | (go_at_call 9; refine (H9_8.out _ (K7.out.alloc K7.out.size _)).mono ?_; rintro e w_8 ⟨rfl, hb⟩; have K8 := Lib.hid ((K7.out.alloc K7.out.size _).trans (hb.mono (K7.out.alloc K7.out.size _).size)); clear hb H9_8))
    go_ret
    exact ⟨rfl, K8.out⟩
end Go.Proofs.YthejepmnnpmdmaaGreatDoor.Sv
end
