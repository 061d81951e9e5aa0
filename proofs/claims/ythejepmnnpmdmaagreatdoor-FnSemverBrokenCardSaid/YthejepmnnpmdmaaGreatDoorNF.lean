/- a part of the proof: FnSemverBroken: for every list of lists of terms, every style and every byte the law's function returns true and leaves its arguments as they were. No condition is added: the statement is the given one, the tied card. -/
import Derived.Test.YthejepmnnpmdmaaGreatDoorNE
import Derived.Great.BuildSlice
import Derived.Great.Walk
import Derived.Great.Ranges
import Derived.Test.YthejepmnnpmdmaaGreatDoorNB
import Derived.Shelf.Small.Utf8
import Derived.Shelf.Strconv.Itoa0
import Derived.Shelf.Strconv.Itoa1
import Derived.Shelf.LaysM
import Derived.Shelf.Strconv.Itoa2
import Derived.Shelf.Strconv.Itoa3
import Derived.Shelf.Strconv.Clone
import Derived.Shelf.Strconv.SyntaxError
import Derived.Shelf.LaysC
import Derived.Shelf.Strconv.ToError
import Derived.Shelf.Strconv.Lower
import Derived.Shelf.Strconv.ParseUint10
import Derived.Shelf.Strconv.ParseUint10Empty
import Derived.Shelf.Strconv.ParseUint10Any
import Derived.Shelf.Strconv.RangeError
import Derived.Shelf.Strconv.ToErrorRange
import Derived.Shelf.Strconv.ParseUintEmpty
import Derived.Shelf.Strconv.ParseUint10b64
import Derived.Shelf.Strconv.ParseUint10b32
import Derived.Shelf.Strconv.ParseUint10b16
import Derived.Shelf.Strconv.ParseUint10b8
import Derived.Shelf.Strconv.ParseUint10At
import Derived.Ground.MpProg
import Derived.Shelf.Pu.ParseUintPublic10
import Derived.Shelf.Strings.Prefix
import Derived.Shelf.Unicode.Decode
import Derived.Shelf.Unicode.DecodeSlow
import Derived.Shelf.Unicode.DecodeAny
import Derived.Shelf.Unicode.DecodeLast
import Derived.Test.YthejepmnnpmdmaaGreatDoorProg
section
set_option linter.unusedVariables false
set_option linter.unusedSimpArgs false
/- FindAllStringSubmatch where nothing is found -/
namespace Go.Proofs.YthejepmnnpmdmaaGreatDoor.Sv
open Go Go.RowKit Rx Go.Shelf
set_option maxRecDepth 100000
attribute [local go_sem] Oper.semAt_some
set_option maxHeartbeats 2000000 in
theorem t101z (n : Nat) {w0 : World} {R PB IB icap : Nat} {T : List I} {s : ByteArray} (hS : Sur w0 R PB IB icap T s) {start ncap minl nsub : Nat} (hR : RH w0 R PB 0 start ncap minl nsub) (hml : minl ≤ 1000) (x : I) (hx : T[start]? = some x) (hf : opc x ≠ 5) (hns : nsub ≤ 400) (hnc : 2 ≤ ncap ∧ ncap ≤ 1000)
    (f : Nat → Res) (hM : ∀ p, p ≤ s.size → ∃ n, FM (envOf T s) n start p (f p)) (hms : MsOk (envOf T s) s.size f 0 [])
    {l1 re0 s0 nb : Nat} (W : World) (hb0 : Below w0.heap.size w0 W) (hre : W.heap[re0]? = some (.cells #[.pointer (some ⟨R, 0, none⟩)] 56 (0, 0))) (hs0 : W.heap[s0]? = some (.cells #[.string s] 9 (0, 0))) (hnb : W.heap[nb]? = some (.cells #[.int .i64 (-1)] 3 (0, 0))) :
    CallsIn Fence.wide n Tryz.prog 69 #[.func (.yield l1) #[] #[], .pointer (some ⟨re0, 0, none⟩), .pointer (some ⟨s0, 0, none⟩), .pointer (some ⟨nb, 0, none⟩)] W fun e W' => (∃ v, e = .returned v) ∧ Below W.heap.size W W' := by
  refine callsIn_of_wp_marks Tryz.func69 rfl trivial ?_ rfl
  simp only [Tryz.ntmps69, List.size_toArray, List.length_cons, List.length_nil, Nat.reduceAdd, Nat.reduceSub, Array.replicate_succ, Array.replicate_zero, List.push_toArray, List.append_toArray, List.nil_append, List.cons_append]
  generalize hA : W.alloc (.cells #[.func (.yield l1) #[] #[]] 131) = A
  have hAb : Below W.heap.size W A := by rw [← hA]; exact (Below.refl _ W).alloc (by omega) _
  have sA : A.heap.size = W.heap.size + 1 := by rw [← hA]; simp
  have HA := Lib.hid hA
  have lt : ∀ {k : Nat} {o : Obj}, W.heap[k]? = some o → k < W.heap.size := fun hk => (Array.getElem?_eq_some_iff.1 hk).1
  have hre' := (hAb.block _ (lt hre)).trans hre
  have hs0' := (hAb.block _ (lt hs0)).trans hs0
  have hnb' := (hAb.block _ (lt hnb)).trans hnb
  have e0 := (box_cell hre').1
  have e1 := (box_cell hs0').1
  have e2 := (box_cell hnb').1
  have hbA : Below w0.heap.size w0 A := hb0.trans (hAb.mono hb0.size)
  have e3 := (hS.keep hbA).pg.r1
  have e4 := (hR.keep hbA).ncap
  have HS := Lib.hid (And.intro hS (And.intro hR (And.intro hml (And.intro hx hf))))
  have HM := Lib.hid (And.intro hM hms)
  have HW := Lib.hid (And.intro hb0 (And.intro hAb sA))
  have HN := Lib.hid hnc
  clear hS hR hml hx hf hM hms hb0 hre hs0 hnb hre' hs0' hnb' hbA hA hAb sA lt hnc
  gi_wp2
  rw [HA.out]
  refine wpIn_wide.2 ?_
  have H85 := Lib.hid (t85 A.drew ⟨R, 0, none⟩ s ncap)
  have HE := Lib.hid (And.intro e0 (And.intro e1 (And.intro e2 (And.intro e3 e4))))
  go_region_held3 (fun w' => w'.cell? ⟨re0, 0, none⟩ = some (.pointer (some ⟨R, 0, none⟩)) ∧ w'.cell? ⟨s0, 0, none⟩ = some (.string s) ∧ w'.cell? ⟨nb, 0, none⟩ = some (.int .i64 (-1)) ∧ w'.cell? ⟨R, 1, none⟩ = some (.pointer (some ⟨PB, 0, none⟩)) ∧ w'.cell? ⟨PB, 2, none⟩ = some (.int .i64 ncap)) (first | exact ⟨by assumption, by assumption, by assumption, by assumption, by assumption⟩ | exact HE2.out) (first | (go_at_call 59; refine H85.out.mono ?_; rintro e w1 ⟨rfl, hw1⟩; obtain ⟨hbx, s1, hb1⟩ := boxes_new A.drew w1 ⟨R, 0, none⟩ rfl s ncap A.heap.size rfl hw1.symm; have HE2 := Lib.hid (And.intro (keepc (w := A.drew) hb1 HE.out.1) (And.intro (keepc (w := A.drew) hb1 HE.out.2.1) (And.intro (keepc (w := A.drew) hb1 HE.out.2.2.1) (And.intro (keepc (w := A.drew) hb1 HE.out.2.2.2.1) (keepc (w := A.drew) hb1 HE.out.2.2.2.2))))); have HB := Lib.hid (And.intro hbx (And.intro s1 hb1)); clear hbx s1 hb1 hw1))
  gi_wp2
  refine wpIn_rangeFunc ?_
  intro fn hfn
  rw [show Fence.wide.round = none from rfl]
  generalize (Code.region 2 _ _) = asg
  generalize (Code.block 1 _) = bdy
  obtain ⟨hbx, s1, hb1⟩ := HB.out
  obtain ⟨hb0, hAb, sA⟩ := HW.out
  have sAd : A.drew.heap.size = A.heap.size := rfl
  generalize ha : A.heap.size = a at *
  generalize hact : Act.mk _ _ = act0
  have hev : act0.eval (Operand.tmp 18) = .func (.func 71) #[] #[.pointer (some ⟨a + 1 + 1 + 1, 0, none⟩), .pointer (some ⟨a + 1, 0, none⟩), .pointer (some ⟨a, 0, none⟩), .pointer (some ⟨a + 1 + 1, 0, none⟩), .pointer (some ⟨a + 1 + 1 + 1 + 1, 0, none⟩)] := by rw [← hact]; rfl
  have hdf : act0.defers = [] := by rw [← hact]
  have hent := run_enterLoop_outer (P := Tryz.prog) (w := w1) fn act0.tmps #[19] asg bdy
  generalize hrec : Loop.mk _ _ _ _ _ _ _ _ = rec at hent
  obtain ⟨W1, hW1⟩ : ∃ W1, (w1.alloc (.deferred (some []))).alloc (.loop rec) = W1 := ⟨_, rfl⟩
  rw [hW1] at hent
  have sw1 : w1.heap.size = a + 5 := s1
  have hs1 : W1.heap.size = a + 7 := by rw [← hW1]; simp [sw1]
  have hL1 : W1.heap[a + 6]? = some (.loop rec) := by
    rw [← hW1]
    have := World.alloc_heap_new (w1.alloc (.deferred (some []))) (.loop rec)
    rwa [World.size_alloc, sw1] at this
  have hK1 : W1.heap[a + 5]? = some (.deferred (some [])) := by
    rw [← hW1]; have := (Below.heap_alloc (w1.alloc (.deferred (some []))) (.loop rec) w1.heap.size (by simp)).trans (World.alloc_heap_new w1 _)
    rwa [sw1] at this
  have hbw : Below (a + 5) w1 W1 := by rw [← hW1]; exact ((Below.refl _ w1).alloc (by omega) _).alloc (by simp; omega) _
  have hbel : Below W.heap.size W W1 := ((hAb.trans ((Below.refl _ A).drew)).trans (hb1.mono (by omega))).trans (hbw.mono (by omega))
  have hbx1 : Boxes W1 R (a + 3) (a + 1) a (a + 2) (a + 4) ncap s := hbx.below hbw ⟨by omega, by omega, by omega, by omega, by omega⟩
  refine ⟨a + 6, [{ target := .collected (a + 5), args := #[] }], W1, { target := .fn (.func 71) #[.pointer (some ⟨a + 1 + 1 + 1, 0, none⟩), .pointer (some ⟨a + 1, 0, none⟩), .pointer (some ⟨a, 0, none⟩), .pointer (some ⟨a + 1 + 1, 0, none⟩), .pointer (some ⟨a + 1 + 1 + 1 + 1, 0, none⟩)], args := #[.func (.yield (a + 6)) #[] #[]] }, W1, 71,
    #[.func (.yield (a + 6)) #[] #[], .pointer (some ⟨a + 3, 0, none⟩), .pointer (some ⟨a + 1, 0, none⟩), .pointer (some ⟨a, 0, none⟩), .pointer (some ⟨a + 2, 0, none⟩), .pointer (some ⟨a + 4, 0, none⟩)], W1, ?_, ?_, ?_, ?_, fun h => (by cases h), ?_⟩
  · rw [sw1] at hent; exact hent
  · have hev' : act0.tmps[18]?.getD undef = .func (.func 71) #[] #[.pointer (some ⟨a + 1 + 1 + 1, 0, none⟩), .pointer (some ⟨a + 1, 0, none⟩), .pointer (some ⟨a, 0, none⟩), .pointer (some ⟨a + 1 + 1, 0, none⟩), .pointer (some ⟨a + 1 + 1 + 1 + 1, 0, none⟩)] := by rw [← hact]; rfl
    simp [resolve, go_sem, hev']
  · intro f' _; trivial
  · simp [invoke, go_sem]
  · refine (tMatches HS.out.1 HS.out.2.1 HS.out.2.2.1 x HS.out.2.2.2.1 HS.out.2.2.2.2 ncap HN.out hns f HM.out.1 [] HM.out.2 (fun _ => rfl) (n - 1) (a + 6) 29 9 (a + 3) (a + 1) a (a + 2) (a + 4)
      (fun _ X => Below W.heap.size W X ∧ X.heap[a + 6]? = some (.loop rec) ∧ X.heap[a + 5]? = some (.deferred (some []))) W1 ?_ (hb0.trans (hbel.mono hb0.size)) hbx1 (by decide) (by decide) ?_ ⟨hbel, hL1, hK1⟩).mono ?_
    · rintro k X Y ⟨h1, h2, h3⟩ hi
      exact ⟨h1.trans (hi.below.mono (by omega)), hi.same _ _ h2 (fun c e => by cases e), hi.same _ _ h3 (fun c e => by cases e)⟩
    · intro pre m rest W2 g' cap' hpre
      cases pre <;> cases hpre
    · rintro e W2 ⟨⟨v0, rfl⟩, hb2, hL2, hK2⟩
      have hend := run_endLoop (P := Tryz.prog) hL2 (by rw [← hrec]; simp)
      obtain ⟨W3, hW3⟩ : ∃ W3, W2.putObj (a + 6) (.loop { rec with state := .exhausted }) = W3 := ⟨_, rfl⟩
      rw [hW3] at hend
      have hK3 : W3.heap[a + 5]? = some (.deferred (some [])) := by rw [← hW3]; exact (World.putObj_heap_other (by omega)).trans hK2
      have hb3 : Below W.heap.size W W3 := by rw [← hW3]; exact hb2.grown (grown_putObj _ _ _) (by have := hb2.size; omega) (fun k e => by have : a + 6 = k := Option.some.inj e; omega)
      refine ⟨none, W3, by rw [hend, ← hrec], ?_⟩
      rw [hdf]
      change bodyPostM Fence.wide n Tryz.prog Tryz.f69 (fun e W' => (∃ v, e = Ending.returned v) ∧ Below W.heap.size W W') .normal _ W3
      refine ⟨by simp, .inl ⟨_, _, rfl, run_takeDeferred hK3, ?_⟩⟩
      exact ⟨_, results_none rfl _ _ _, ⟨_, rfl⟩, hb3.grown (grown_putObj _ _ _) (by have := hb3.size; omega) (fun k e => by have : a + 5 = k := Option.some.inj e; omega)⟩
set_option maxHeartbeats 2000000 in
theorem t100z (n : Nat) {w0 : World} {R PB IB icap : Nat} {T : List I} {s : ByteArray} (hS : Sur w0 R PB IB icap T s) {start ncap minl nsub : Nat} (hR : RH w0 R PB 0 start ncap minl nsub) (hml : minl ≤ 1000) (x : I) (hx : T[start]? = some x) (hf : opc x ≠ 5) (hns : nsub ≤ 400) (hnc : 2 ≤ ncap ∧ ncap ≤ 1000)
    (f : Nat → Res) (hM : ∀ p, p ≤ s.size → ∃ n, FM (envOf T s) n start p (f p)) (hms : MsOk (envOf T s) s.size f 0 [])
    {re0 s0 nb : Nat} (W : World) (hb0 : Below w0.heap.size w0 W) (hre : W.heap[re0]? = some (.cells #[.pointer (some ⟨R, 0, none⟩)] 56 (0, 0))) (hs0 : W.heap[s0]? = some (.cells #[.string s] 9 (0, 0))) (hnb : W.heap[nb]? = some (.cells #[.int .i64 (-1)] 3 (0, 0))) :
    CallsIn Fence.wide n Tryz.prog 68 #[.slice none 0 0, .func (.func 69) #[] #[.pointer (some ⟨re0, 0, none⟩), .pointer (some ⟨s0, 0, none⟩), .pointer (some ⟨nb, 0, none⟩)]] W fun e W' => e = .returned (.slice none 0 0) ∧ Below W.heap.size W W' := by
  refine callsIn_of_wp_marks Tryz.func68 rfl trivial ?_ rfl
  simp only [Tryz.ntmps68, List.size_toArray, List.length_cons, List.length_nil, Nat.reduceAdd, Nat.reduceSub, Array.replicate_succ, Array.replicate_zero, List.push_toArray, List.append_toArray, List.nil_append, List.cons_append]
  have HS := Lib.hid (And.intro hS (And.intro hR (And.intro hml (And.intro hx hf))))
  have HM := Lib.hid (And.intro hM hms)
  have HW := Lib.hid (And.intro hb0 (And.intro hre (And.intro hs0 hnb)))
  clear hS hR hml hx hf hM hms hb0 hre hs0 hnb
  gi_wp2
  obtain ⟨hb0, hre, hs0, hnb⟩ := HW.out
  clear HW
  generalize hh : W.heap.size = h at *
  generalize hA : W.alloc (.cells #[.slice none 0 0] 77) = A at *
  have sA : A.heap.size = h + 1 := by rw [← hA]; simp [hh]
  have hAY : A.heap[h]? = some (.cells #[.slice none 0 0] 77 (0, 0)) := by rw [← hA, ← hh]; exact heap_alloc_new W _
  have hAb : Below h W A := by rw [← hA]; exact (Below.refl _ W).alloc (by omega) _
  clear hA
  refine wpIn_rangeFunc ?_
  intro fn hfn
  rw [show Fence.wide.round = none from rfl]
  generalize (Code.region 2 _ _) = asg
  generalize (Code.block 1 _) = bdy
  have hent := run_enterLoop_outer (P := Tryz.prog) (w := A) fn #[.slice none 0 0, .func (.func 69) #[] #[.pointer (some ⟨re0, 0, none⟩), .pointer (some ⟨s0, 0, none⟩), .pointer (some ⟨nb, 0, none⟩)], .pointer (some ⟨h, 0, none⟩), undef, .slice none 0 0, undef, .func (.func 69) #[] #[.pointer (some ⟨re0, 0, none⟩), .pointer (some ⟨s0, 0, none⟩), .pointer (some ⟨nb, 0, none⟩)], undef, undef, undef, undef, undef, undef] #[7] asg bdy
  generalize hrec : Loop.mk _ _ _ _ _ _ _ _ = rec at hent
  obtain ⟨W1, hW1⟩ : ∃ W1, (A.alloc (.deferred (some []))).alloc (.loop rec) = W1 := ⟨_, rfl⟩
  rw [hW1] at hent
  have hold : ∀ k, k < A.heap.size → W1.heap[k]? = A.heap[k]? := fun k hk => by
    rw [← hW1]; exact (Below.heap_alloc _ _ k (by simp; omega)).trans (Below.heap_alloc _ _ k hk)
  have hs1 : W1.heap.size = h + 3 := by rw [← hW1]; simp [sA]
  have hL1 : W1.heap[h + 2]? = some (.loop rec) := by
    rw [← hW1]
    have := World.alloc_heap_new (A.alloc (.deferred (some []))) (.loop rec)
    rwa [World.size_alloc, sA] at this
  have hK1 : W1.heap[h + 1]? = some (.deferred (some [])) := by
    rw [← hW1]; have := (Below.heap_alloc (A.alloc (.deferred (some []))) (.loop rec) A.heap.size (by simp)).trans (World.alloc_heap_new A _)
    rwa [sA] at this
  have hbw : Below (h + 1) A W1 := by rw [← hW1]; exact ((Below.refl _ A).alloc (by omega) _).alloc (by simp; omega) _
  have hbel : Below h W W1 := hAb.trans (hbw.mono (by omega))
  have lt : ∀ {k : Nat} {o : Obj}, W.heap[k]? = some o → k < h := fun hk => by have := (Array.getElem?_eq_some_iff.1 hk).1; omega
  have old : ∀ k, k < h → W1.heap[k]? = W.heap[k]? := fun k hk => hbel.block k hk
  refine ⟨h + 2, [{ target := .collected (h + 1), args := #[] }], W1, { target := .fn (.func 69) #[.pointer (some ⟨re0, 0, none⟩), .pointer (some ⟨s0, 0, none⟩), .pointer (some ⟨nb, 0, none⟩)], args := #[.func (.yield (h + 2)) #[] #[]] }, W1, 69,
    #[.func (.yield (h + 2)) #[] #[], .pointer (some ⟨re0, 0, none⟩), .pointer (some ⟨s0, 0, none⟩), .pointer (some ⟨nb, 0, none⟩)], W1, ?_, ?_, ?_, ?_, fun h => (by cases h), ?_⟩
  · rw [sA] at hent; exact hent
  · simp [resolve, go_sem]
  · intro f' _; trivial
  · simp [invoke, go_sem]
  · have hsz := hb0.size
    refine (t101z (n - 1) HS.out.1 HS.out.2.1 HS.out.2.2.1 x HS.out.2.2.2.1 HS.out.2.2.2.2 hns hnc f HM.out.1 HM.out.2 W1 (hb0.trans (hbel.mono (by omega)))
      ((old _ (lt hre)).trans hre) ((old _ (lt hs0)).trans hs0) ((old _ (lt hnb)).trans hnb)).mono ?_
    rintro e W2 ⟨⟨v0, rfl⟩, hb2⟩
    have hL2 := (hb2.block (h + 2) (by omega)).trans hL1
    have hend := run_endLoop (P := Tryz.prog) hL2 (by rw [← hrec]; simp)
    obtain ⟨W3, hW3⟩ : ∃ W3, W2.putObj (h + 2) (.loop { rec with state := .exhausted }) = W3 := ⟨_, rfl⟩
    rw [hW3] at hend
    have hK3 : W3.heap[h + 1]? = some (.deferred (some [])) := by rw [← hW3]; exact (World.putObj_heap_other (by omega)).trans ((hb2.block (h + 1) (by omega)).trans hK1)
    have hb3 : Below h W W3 := by rw [← hW3]; exact (hbel.trans (hb2.mono (by omega))).grown (grown_putObj _ _ _) (by have := hb2.size; omega) (fun k e => by have : h + 2 = k := Option.some.inj e; omega)
    have hB3 : W3.heap[h]? = some (.cells #[.slice none 0 0] 77 (0, 0)) := by rw [← hW3]; exact (World.putObj_heap_other (by omega)).trans ((hb2.block h (by omega)).trans ((hold h (by omega)).trans hAY))
    have cv := (box_cell hB3).1
    have HB := Lib.hid hb3
    clear hW3 hb3
    refine ⟨none, W3, by rw [hend, ← hrec], ?_⟩
    gi_wp2
    refine ⟨by simp, .inl ⟨_, _, rfl, run_takeDeferred hK3, ?_⟩⟩
    have hb3 := HB.out
    refine ⟨_, results_tmp rfl _ _ _, rfl, ?_⟩
    have h7 := hb3.grown (grown_putObj W3 (h + 1) (.deferred none)) (by have := hb3.size; omega) (fun k e => by have : h + 1 = k := Option.some.inj e; omega)
    rw [hh]; exact h7
theorem t80 (w : World) (R : Addr) (s : ByteArray) : Calls Tryz.prog 54 #[.pointer (some R), .string s, .int .i64 (-1)] w fun e w' => e = .returned (.func (.func 69) #[] #[.pointer (some ⟨w.heap.size, 0, none⟩), .pointer (some ⟨w.heap.size + 1, 0, none⟩), .pointer (some ⟨w.heap.size + 1 + 1, 0, none⟩)]) ∧
    w' = ((w.alloc (.cells #[.pointer (some R)] 56)).alloc (.cells #[.string s] 9)).alloc (.cells #[.int .i64 (-1)] 3) := by
  go_enter Tryz.func54, Tryz.ntmps54
  go_wp2
  go_ret
  exact ⟨rfl, rfl⟩
theorem tFindAllSub0 {w : World} {R PB IB icap : Nat} {T : List I} {s : ByteArray} (hS : Sur w R PB IB icap T s) {start ncap minl nsub : Nat} (hR : RH w R PB 0 start ncap minl nsub) (hml : minl ≤ 1000) (x : I) (hx : T[start]? = some x) (hf : opc x ≠ 5) (hns : nsub ≤ 400) (hnc : 2 ≤ ncap ∧ ncap ≤ 1000)
    (f : Nat → Res) (hM : ∀ p, p ≤ s.size → ∃ n, FM (envOf T s) n start p (f p)) (hms : MsOk (envOf T s) s.size f 0 []) :
    Calls Tryz.prog 37 #[.pointer (some ⟨R, 0, none⟩), .string s, .int .i64 (-1)] w fun e w' => e = .returned (.slice none 0 0) ∧ Below w.heap.size w w' := by
  generalize hA : ((w.alloc (.cells #[.pointer (some ⟨R, 0, none⟩)] 56)).alloc (.cells #[.string s] 9)).alloc (.cells #[.int .i64 (-1)] 3) = A
  have hb : Below w.heap.size w A := by rw [← hA]; exact (((Below.refl _ w).alloc (by simp) _).alloc (by simp) _).alloc (by simp; omega) _
  have a0 : A.heap[w.heap.size]? = some (.cells #[.pointer (some ⟨R, 0, none⟩)] 56 (0, 0)) := by
    rw [← hA, Below.heap_alloc _ _ _ (by simp; omega), Below.heap_alloc _ _ _ (by simp)]; exact heap_alloc_new w _
  have a1 : A.heap[w.heap.size + 1]? = some (.cells #[.string s] 9 (0, 0)) := by
    rw [← hA, Below.heap_alloc _ _ _ (by simp)]; have := heap_alloc_new (w.alloc (.cells #[.pointer (some ⟨R, 0, none⟩)] 56)) (.cells #[.string s] 9); rwa [World.size_alloc] at this
  have a2 : A.heap[w.heap.size + 1 + 1]? = some (.cells #[.int .i64 (-1)] 3 (0, 0)) := by
    rw [← hA]; have := heap_alloc_new ((w.alloc (.cells #[.pointer (some ⟨R, 0, none⟩)] 56)).alloc (.cells #[.string s] 9)) (.cells #[.int .i64 (-1)] 3); rwa [World.size_alloc, World.size_alloc] at this
  have H := Lib.hid (callsIn_wide.1 (t100z 3 hS hR hml x hx hf hns hnc f hM hms A hb a0 a1 a2))
  have HB := Lib.hid hb
  have hsz := hb.size
  have HA := Lib.hid hA
  clear hS hR hx hf hM hms hA a0 a1 a2 hb
  go_enter Tryz.func37, Tryz.ntmps37
  go_wp2_with (first
    | (go_at_call 54; refine (t80 w ⟨R, 0, none⟩ s).mono ?_; rintro e w1 ⟨rfl, hw1⟩; have hw2 := hw1.trans HA.out; clear hw1; subst hw2)
    | (go_at_call 68; refine H.out.mono ?_; rintro e w2 ⟨rfl, hv2⟩; have HV := Lib.hid hv2; clear hv2)
    | go_in)
  go_ret
  exact ⟨rfl, HB.out.trans (HV.out.mono hsz)⟩
end Go.Proofs.YthejepmnnpmdmaaGreatDoor.Sv
end
section
set_option linter.unusedVariables false
set_option linter.unusedSimpArgs false
/- long literals: the program's tables are laid -/
namespace Go.Proofs.YthejepmnnpmdmaaGreatDoor.Sv
open Go Go.RowKit Rx
set_option maxRecDepth 100000
theorem info87 : (Tryz.prog.info? 88).map (fun i => (i.zero, i.size, i.bytes)) = some (some (.agg #[.int .i64 0, .int .u8 0, .int .i64 0, .int .i64 0, .int .i64 0, .int .i64 0, .slice none 0 0, .slice none 0 0, .int .i64 0]), 9, 104) := by kernel_rfl
def zero87 : Array Value := #[.int .i64 0, .int .u8 0, .int .i64 0, .int .i64 0, .int .i64 0, .int .i64 0, .slice none 0 0, .slice none 0 0, .int .i64 0]
/-- the fields that are given, laid over the zero value -/
def fill9 (c : Array Value) (parts : List (Nat × Value)) : Array Value := parts.foldl (fun c x => c.setIfInBounds x.1 x.2) c
theorem cells_one (v : Value) (h : v.oneCell' = true) : v.cells = #[v] := by cases v <;> first | rfl | cases h
theorem fill_one : ∀ (parts : List (Nat × Value)) (c : Array Value), c.size = 9 → (parts.all fun x => decide (x.1 < 9) && x.2.oneCell') = true → Instr.fill (fun i => if i < 9 then some (i, 1) else none) c parts = some (fill9 c parts)
  | [], c, _, _ => rfl
  | (i, v) :: rest, c, hc, h => by
    simp only [List.all_cons, Bool.and_eq_true, decide_eq_true_eq] at h
    obtain ⟨⟨h1, h2⟩, h3⟩ := h
    unfold Instr.fill
    simp only [h1, if_true, cells_one v h2]
    rw [if_neg (by simp; omega)]
    simp only [fill9, List.foldl_cons]
    have := fill_one rest (c.setIfInBounds i v) (by simpa using hc) h3
    simpa [fill9] using this
theorem built87 (parts : List (Nat × Value)) (h : (parts.all fun x => decide (x.1 < 9) && x.2.oneCell') = true) : Tryz.prog.built 88 parts = some (fill9 zero87 parts) := by
  have e : Tryz.prog.built 88 parts = Instr.fill (fun i => ([(0, 1), (1, 1), (2, 1), (3, 1), (4, 1), (5, 1), (6, 1), (7, 1), (8, 1)] : List (Nat × Nat)).toArray[i]?) zero87 parts := by kernel_rfl
  rw [e, ← fill_one parts zero87 rfl h]
  congr 1
  funext i
  by_cases hi : i < 9
  · have : i = 0 ∨ i = 1 ∨ i = 2 ∨ i = 3 ∨ i = 4 ∨ i = 5 ∨ i = 6 ∨ i = 7 ∨ i = 8 := by omega
    rcases this with rfl | rfl | rfl | rfl | rfl | rfl | rfl | rfl | rfl <;> rfl
  · rw [if_neg hi]; simp; omega
/-- an operation that lays a run or hands a value on -/
def ev1 (o : Oper) (tm : Array Value) : Option Value :=
  if o.guard.isSome then none else match o.op with
  | .build 88 parts =>
    let ps := (parts.map fun (i, x) => (i, ({ tmps := tm, defers := [] } : Act).eval x)).toList
    if (ps.all fun x => decide (x.1 < 9) && x.2.oneCell') = true then some (.agg (fill9 zero87 ps)) else none
  | .move x => some (({ tmps := tm, defers := [] } : Act).eval x)
  | _ => none
def putT (tm : Array Value) : Option Tmp → Value → Array Value
  | some d, v => tm.setIfInBounds d v
  | none, _ => tm
def evs : List Oper → Array Value → List Oper × Array Value
  | [], tm => ([], tm)
  | o :: l, tm => match ev1 o tm with
    | some v => evs l (putT tm o.dst v)
    | none => (o :: l, tm)
theorem wpList_evs {P : Program} (hP : P = Tryz.prog) {ops : Array Oper} {Q : Exit → Act → World → Prop} {w : World} : ∀ (l : List Oper) (tm : Array Value), wpList P ops Q (evs l tm).1 { tmps := (evs l tm).2, defers := [] } w → wpList P ops Q l { tmps := tm, defers := [] } w
  | [], tm, h => h
  | o :: l, tm, h => by
    subst hP
    unfold evs at h
    cases he : ev1 o tm with
    | none => rw [he] at h; exact h
    | some v =>
      rw [he] at h
      have ih := wpList_evs rfl l _ h
      unfold ev1 at he
      split at he
      · cases he
      · rename_i hg
        have hg : o.guard = none := by simpa using hg
        have hput : ({ tmps := tm, defers := [] } : Act).put o.dst v = { tmps := putT tm o.dst v, defers := [] } := by
          unfold Act.put putT; cases o.dst <;> rfl
        split at he
        · rename_i parts hop
          dsimp only at he
          split at he
          · rename_i hok
            have hb := built87 _ hok
            refine wpList_buildTo hg 88 parts hop o.dst rfl _ hb ?_
            have hv : v = .agg (fill9 zero87 (parts.map fun (i, x) => (i, ({ tmps := tm, defers := [] } : Act).eval x)).toList) := (Option.some.inj he).symm
            rw [← hv, hput]
            exact ih
          · cases he
        · rename_i x hop
          refine wpList_plain hg fun K hK => ?_
          unfold Oper.wp
          have hv : v = ({ tmps := tm, defers := [] } : Act).eval x := (Option.some.inj he).symm
          have hrun : (execOp ({ tmps := tm, defers := [] } : Act).eval o).run Tryz.prog w = .ok (.value v) w := by
            rw [hv]; simp [execOp, hop]
          rw [hrun]
          refine hK _ _ ?_
          rw [hput]
          exact ih
        · cases he
/-- a prefix of runs is passed over; what its operands hold is kept -/
theorem wpList_runs {ops : Array Oper} {Q : Exit → Act → World → Prop} {w : World} (l rest : List Oper) (tm : Array Value) (pl : List Operand) (vs : List Value) (sz : Nat)
    (h1 : (evs l tm).1 = rest) (h2 : (pl.map fun x => ({ tmps := (evs l tm).2, defers := [] } : Act).eval x) = vs) (h3 : (evs l tm).2.size = sz)
    (h : ∀ tm', tm'.size = sz → (pl.map fun x => ({ tmps := tm', defers := [] } : Act).eval x) = vs → wpList Tryz.prog ops Q rest { tmps := tm', defers := [] } w) : wpList Tryz.prog ops Q l { tmps := tm, defers := [] } w :=
  wpList_evs rfl l tm (by rw [h1]; exact h _ h3 h2)
end Go.Proofs.YthejepmnnpmdmaaGreatDoor.Sv
end
section
set_option linter.unusedVariables false
set_option linter.unusedSimpArgs false
/- a program's instructions, out of its runs -/
namespace Go.Proofs.YthejepmnnpmdmaaGreatDoor.Sv
open Go Go.RowKit Rx
set_option maxRecDepth 100000
/-- an instruction's row: its kind, where it goes on, its argument, its runes -/
structure Ent where
  op : Int
  out : Nat
  arg : Nat
  rp : Option Addr
  rn : Nat
def Ent.rv (e : Ent) : Value := .slice e.rp e.rn e.rn
def Ent.run (e : Ent) : Array Value := #[.int .i64 1, .int .u8 e.op, .int .i64 e.out, .int .i64 0, .int .i64 e.arg, .int .i64 0, e.rv, .slice none 0 0, .int .i64 0]
def Ent.inst (e : Ent) : List Value := [.int .u8 e.op, .int .u32 e.out, .int .u32 e.arg, e.rv]
theorem info120 : (Tryz.prog.info? 115).map (fun i => (i.zero, i.size, i.bytes)) = some (some (.agg #[.int .u8 0, .int .u32 0, .int .u32 0, .slice none 0 0]), 4, 40) := by kernel_rfl
theorem t81 (w : World) (e : Ent) (ho : e.out < 1000) (ha : e.arg < 1000) :
    Calls Tryz.prog 55 #[.agg e.run, .int .i64 0] w fun r w' => r = .returned (.agg e.inst.toArray) ∧ Below w.heap.size w w' := by
  obtain ⟨op, out, arg, rp, rn⟩ := e
  have ho : out < 1000 := ho
  have ha : arg < 1000 := ha
  have w1 := wrap_u32_small out ho
  have w2 := wrap_u32_small arg ha
  unfold Ent.run Ent.inst Ent.rv
  simp only []
  go_enter Tryz.func55, Tryz.ntmps55
  go_wp2
  exact bodyPost_ret (v := .agg #[.int .u8 op, .int .u32 out, .int .u32 arg, .slice rp rn rn]) (by simp [results, Tryz.results55, go_sem]) rfl ⟨rfl, ((Below.refl _ w).alloc (Nat.le_refl _) _).alloc (by simp) _⟩
/-- a program's runs in memory -/
def RunsAt (w : World) (X : Nat) (E : List Ent) : Prop := ∃ r : Array Value, w.heap[X]? = some (.cells r 88 (0, 0)) ∧ ∀ (i j : Nat) (e : Ent), E[i]? = some e → j < 9 → r[i * 9 + j]? = e.run[j]?
theorem RunsAt.keep {w w' : World} {X : Nat} {E : List Ent} (h : RunsAt w X E) (hb : Below w.heap.size w w') : RunsAt w' X E := by
  obtain ⟨r, h1, h2⟩ := h
  exact ⟨r, (hb.block X (Array.getElem?_eq_some_iff.1 h1).1).trans h1, h2⟩
theorem RunsAt.cell {w : World} {X : Nat} {E : List Ent} (h : RunsAt w X E) (i : Nat) (e : Ent) (he : E[i]? = some e) (j : Nat) (hj : j < 9) : w.cell? ⟨X, i * 9 + j, none⟩ = e.run[j]? := by
  obtain ⟨r, h1, h2⟩ := h
  rw [cell_of_row _ _ _ _ _ _ h1, h2 i j e he hj]
def instCells (E : List Ent) : List Value := E.flatMap Ent.inst
theorem instCells_length : ∀ E : List Ent, (instCells E).length = E.length * 4
  | [] => rfl
  | e :: E => by
    have := instCells_length E
    simp [instCells, Ent.inst] at this ⊢
    omega
theorem cell_new4 (w : World) (a b c d : Value) (t : TypeId) : ∀ (j : Nat) (u : Value), [a, b, c, d][j]? = some u → (w.alloc (.cells #[a, b, c, d] t)).cell? ((⟨w.heap.size, 0, none⟩ : Addr).add j) = some u := fun j u h => by
  have e : (⟨w.heap.size, 0, none⟩ : Addr).add j = ⟨w.heap.size, j, none⟩ := by simp [Addr.add]; omega
  rw [e, cell_of_row _ _ _ _ _ _ (heap_alloc_new w _)]
  simpa using h
theorem t56fin {w wr we w2 : World} {K i : Nat} {ov : Value} {xs : List Value} {r : Array Value} {o : Obj} (h : wr.ownsRow w.heap.size 115 4 ov i xs) (hb : Below w.heap.size w wr) (hk : wr.heap[K]? = some (.cells r 88 (0, 0))) (h1 : Below wr.heap.size wr we) (hg : (we.alloc o).grownBy w2 ov.ownBlock) :
    Below w.heap.size w w2 ∧ w2.heap[K]? = some (.cells r 88 (0, 0)) := by
  have hA : Below w.heap.size w (we.alloc o) := (hb.trans (h1.mono hb.size)).alloc (by have := hb.size; have := h1.size; omega) _
  have hK := (Array.getElem?_eq_some_iff.1 hk).1
  refine ⟨hA.grown hg (by have := hb.size; have := h1.size; simp; omega) (fun k hk => ?_), ?_⟩
  · rcases h.2 with ⟨rfl, _⟩ | ⟨g, cap, cur, rfl, hle, _⟩
    · cases hk
    · have : g = k := by simpa [Value.ownBlock] using hk
      omega
  · have hs := h1.size
    rw [hg.block K (by simp; omega) (by
      rcases own_ne h hk (by intro cur e; cases e) with e | e
      · rw [e]; simp
      · exact fun e' => e e'.symm), Below.heap_alloc _ _ _ (by omega), h1.block K hK, hk]
set_option maxHeartbeats 2000000 in
theorem t56 (w : World) (X : Nat) (E : List Ent) (hE : RunsAt w X E) (hL : E.length ≤ 1000) (hok : ∀ e ∈ E, e.out < 1000 ∧ e.arg < 1000) :
    Calls Tryz.prog 40 #[.slice (some ⟨X, 0, none⟩) E.length E.length] w fun r w' => ∃ v, r = .returned v ∧ w'.ownsRow w.heap.size 115 4 v E.length (instCells E) ∧ Below w.heap.size w w' := by
  obtain ⟨i0, hi, hz0, hz1, hz2⟩ := info_parts info120
  have HE := Lib.hid hE
  have HI := Lib.hid (And.intro hi (And.intro hz0 (And.intro hz1 hz2)))
  have HO := Lib.hid hok
  clear hE hi hz0 hz1 hz2 hok
  go_enter Tryz.func40, Tryz.ntmps40
  go_wp2
  go_loopw [3, 9] (fun ov iv wr => ∃ i : Nat, iv = .int .i64 i ∧ Hid (i ≤ E.length ∧ wr.ownsRow w.heap.size 115 4 ov i (instCells (E.take i)) ∧ Below w.heap.size w wr)) (fun _ iv _ => 2000 - (intOf iv).toNat)
  case atStart => exact ⟨0, rfl, Lib.hid ⟨Nat.zero_le _, World.ownsRow_nil w w.heap.size 115 4, Below.refl _ _⟩⟩
  case round =>
    obtain ⟨i, rfl, HF⟩ := hrel
    by_cases c : i < E.length
    · have c1 : (i : Int) < (E.length : Int) := by omega
      obtain ⟨e, he⟩ : ∃ e, E[i]? = some e := ⟨_, List.getElem?_eq_getElem c⟩
      have hb := HF.out.2.2
      have hwr := HE.out.keep hb
      have q0 := hwr.cell i e he 0 (by decide)
      have q1 := hwr.cell i e he 1 (by decide)
      have q2 := hwr.cell i e he 2 (by decide)
      have q3 := hwr.cell i e he 3 (by decide)
      have q4 := hwr.cell i e he 4 (by decide)
      have q5 := hwr.cell i e he 5 (by decide)
      have q6 := hwr.cell i e he 6 (by decide)
      have q7 := hwr.cell i e he 7 (by decide)
      have q8 := hwr.cell i e he 8 (by decide)
      have heo := HO.out e (List.mem_of_getElem? he)
      have HT := Lib.hid (fun wx => t81 wx e heo.1 heo.2)
      have HC := Lib.hid (And.intro c he)
      clear c he hwr hb heo
      obtain ⟨op, out, arg, rp, rn⟩ := e
      simp only [Ent.run, Ent.rv, Nat.add_zero] at q0 q1 q2 q3 q4 q5 q6 q7 q8
      simp at q0 q1 q2 q3 q4 q5 q6 q7 q8
      unfold Ent.run Ent.inst Ent.rv at HT
      simp only [] at HT
      go_wp2
      generalize hA : wr.alloc _ = A
      have hAK : A.heap[wr.heap.size]? = some (.cells #[.int .i64 1, .int .u8 op, .int .i64 out, .int .i64 0, .int .i64 arg, .int .i64 0, .slice rp rn rn, .slice none 0 0, .int .i64 0] 88 (0, 0)) := by rw [← hA]; exact heap_alloc_new wr _
      have hAb : Below wr.heap.size wr A := by rw [← hA]; exact (Below.refl _ wr).alloc (Nat.le_refl _) _
      have hown0 : A.ownsRow w.heap.size 115 4 u3 i (instCells (E.take i)) := own_of HF.out.2.1 fun g cur _ hc => hAb.block g (Array.getElem?_eq_some_iff.1 hc).1
      have hbA : Below w.heap.size w A := HF.out.2.2.trans (hAb.mono HF.out.2.2.size)
      have HA := Lib.hid (And.intro hown0 (And.intro hbA hAK))
      have HKl := Lib.hid (show w.heap.size ≤ wr.heap.size from HF.out.2.2.size)
      clear hA hAK hAb hown0 hbA q0 q1 q2 q3 q4 q5 q6 q7 q8
      have hE1 : E.take (i + 1) = E.take i ++ [⟨op, out, arg, rp, rn⟩] := by rw [List.take_add_one, HC.out.2]; rfl
      have HE1 := Lib.hid hE1
      clear hE1
      generalize wr.heap.size = K at *
      go_loopw [3, 6] (fun ov kv wz => ∃ b : Bool, kv = .int .i64 (if b then 1 else 0) ∧ Hid (wz.ownsRow w.heap.size 115 4 ov (if b then i + 1 else i) (instCells (E.take (if b then i + 1 else i))) ∧ Below w.heap.size w wz ∧ wz.heap[K]? = some (.cells #[.int .i64 1, .int .u8 op, .int .i64 out, .int .i64 0, .int .i64 arg, .int .i64 0, .slice rp rn rn, .slice none 0 0, .int .i64 0] 88 (0, 0)))) (fun _ kv _ => 2 - (intOf kv).toNat)
      case atStart => exact ⟨false, rfl, Lib.hid HA.out⟩
      case round =>
        obtain ⟨b, rfl, HB⟩ := hrel
        have hbk := HB.out.2.2
        have q0 : wr.cell? ⟨K, 0, none⟩ = some (.int .i64 1) := cell_of_row _ _ 0 _ _ _ hbk
        have q1 : wr.cell? ⟨K, 1, none⟩ = some (.int .u8 op) := cell_of_row _ _ 1 _ _ _ hbk
        have q2 : wr.cell? ⟨K, 2, none⟩ = some (.int .i64 out) := cell_of_row _ _ 2 _ _ _ hbk
        have q3 : wr.cell? ⟨K, 3, none⟩ = some (.int .i64 0) := cell_of_row _ _ 3 _ _ _ hbk
        have q4 : wr.cell? ⟨K, 4, none⟩ = some (.int .i64 arg) := cell_of_row _ _ 4 _ _ _ hbk
        have q5 : wr.cell? ⟨K, 5, none⟩ = some (.int .i64 0) := cell_of_row _ _ 5 _ _ _ hbk
        have q6 : wr.cell? ⟨K, 6, none⟩ = some (.slice rp rn rn) := cell_of_row _ _ 6 _ _ _ hbk
        have q7 : wr.cell? ⟨K, 7, none⟩ = some (.slice none 0 0) := cell_of_row _ _ 7 _ _ _ hbk
        have q8 : wr.cell? ⟨K, 8, none⟩ = some (.int .i64 0) := cell_of_row _ _ 8 _ _ _ hbk
        clear hbk
        cases b
        · go_wp2_with (first
            | (go_at_call 55; refine (HT.out _).mono ?_; rintro e' we ⟨rfl, hbe⟩; have hown := own_of HB.out.1 (fun g cur _ hc => hbe.block g (Array.getElem?_eq_some_iff.1 hc).1); have hows : w.heap.size ≤ we.heap.size := (Nat.le_trans HB.out.2.1.size hbe.size); have HW := Lib.hid (And.intro hbe (And.intro hown hows)); clear hbe hown hows)
            | ((with_reducible refine wpList_append_own (o := ⟨some 24, _, _, _, _, _⟩) _ ?h1 (.tmp 19) (.tmp 23) 83 ?h2 w.heap.size 115 i0 (.agg #[.int .u8 0, .int .u32 0, .int .u32 0, .slice none 0 0]) 4 40 Tryz.underlying83 HI.out.1 HI.out.2.1 HI.out.2.2.1 HI.out.2.2.2 rfl (by decide) _ i _ ?h3 (HW.out.2.1.alloc _) ⟨we.heap.size, 0, none⟩ 1 1 [.int .u8 op, .int .u32 out, .int .u32 arg, .slice rp rn rn] ?h4 rfl ?h5 ?h6 ?h7 ?h8 ?h9 ?_); (case h1 => rfl); (case h2 => rfl); (case h3 => rfl); (case h4 => rfl); (case h5 => exact cell_new4 _ _ _ _ _ _); (case h6 => (intro u hu; simp at hu; rcases hu with rfl | rfl | rfl | rfl <;> rfl)); (case h7 => (have := HC.out.1; unfold maxLen; omega)); (case h8 => (have := HC.out.1; omega)); (case h9 => (have := HW.out.2.2; simp; omega)); intro v' w2 ho' hg' _; have HN := Lib.hid (And.intro ho' (t56fin HB.out.1 HB.out.2.1 HB.out.2.2 HW.out.1 hg')); clear ho' hg'))
          refine ⟨⟨true, rfl, Lib.hid ?_⟩, by simp [intOf]⟩
          obtain ⟨h1, h2, h3⟩ := HN.out
          refine ⟨?_, h2, h3⟩
          have e2 : instCells (E.take (i + 1)) = instCells (E.take i) ++ [.int .u8 op, .int .u32 out, .int .u32 arg, .slice rp rn rn] := by rw [HE1.out]; unfold instCells; rw [List.flatMap_append]; rfl
          simp only [if_true]
          rw [e2]
          exact h1
        · go_wp2
          refine ⟨⟨i + 1, by simp, Lib.hid ⟨by have := HC.out.1; omega, HB.out.1, HB.out.2.1⟩⟩, by simp only [intOf]; have := HC.out.1; omega⟩
    · have hik : i = E.length := by have := HF.out.1; omega
      subst hik
      clear c
      go_wp2
      go_ret
      obtain ⟨_, h1, h2⟩ := HF.out
      rw [List.take_length] at h1
      exact ⟨_, rfl, h1, h2⟩
end Go.Proofs.YthejepmnnpmdmaaGreatDoor.Sv
end
section
set_option linter.unusedVariables false
set_option linter.unusedSimpArgs false
/- a program's constructor: runs, instructions, the Regexp itself -/
namespace Go.Proofs.YthejepmnnpmdmaaGreatDoor.Sv
open Go Go.RowKit Rx
set_option maxRecDepth 100000
theorem u80 : Tryz.prog.underlying 81 = some (.slice 21) := by kernel_rfl
theorem u88 : Tryz.prog.underlying 89 = some (.slice 88) := by kernel_rfl
theorem u52 : Tryz.prog.underlying 29 = some (.slice 9) := by kernel_rfl
theorem built90 (a : Addr) (n c : Nat) (x y : Int): Tryz.prog.built 91 [(1, .int .i64 x), (2, .int .i64 y), (0, .slice (some a) n c)] = some #[.slice (some a) n c, .int .i64 x, .int .i64 y] := by kernel_rfl
theorem built95 (s : ByteArray) (a : Addr) (b : Addr) (n c : Nat) (x y : Int) (x9 x10 x11 cond minl : Int): Tryz.prog.built 96 [(0, .string s), (1, .pointer (some a)), (3, .int .i64 x), (4, .int .i64 y), (5, .slice (some b) n c), (9, .int .u32 x9), (10, .int .i64 x10), (11, .int .i64 x11), (12, .bool false), (13, .int .u8 cond), (14, .int .i64 minl), (15, .bool false)] = some #[.string s, .pointer (some a), .pointer none, .int .i64 x, .int .i64 y, .slice (some b) n c, .string ⟨#[]⟩, .slice none 0 0, .int .i32 0, .int .u32 x9, .int .i64 x10, .int .i64 x11, .bool false, .int .u8 cond, .int .i64 minl, .bool false] := by kernel_rfl
/-! the rune lists, laid one behind the other -/
def runeRow (rs : List Int) : Obj := .cells (rs.map (Value.int .i32)).toArray 21 (0, 0)
def layW (w : World) : List (List Int) → World
  | [] => w
  | rs :: l => layW (w.alloc (.cells (rs.map (Value.int .i32)).toArray 21)) l
theorem layW_below : ∀ (l : List (List Int)) (w : World), Below w.heap.size w (layW w l) ∧ (layW w l).heap.size = w.heap.size + l.length
  | [], w => ⟨Below.refl _ w, rfl⟩
  | rs :: l, w => by
    obtain ⟨h1, h2⟩ := layW_below l (w.alloc (.cells (rs.map (Value.int .i32)).toArray 21))
    refine ⟨((Below.refl _ w).alloc (Nat.le_refl _) _).trans (h1.mono (by simp)), ?_⟩
    rw [layW, h2]; simp; omega
theorem layW_at : ∀ (l : List (List Int)) (w : World) (j : Nat) (rs : List Int), l[j]? = some rs → (layW w l).heap[w.heap.size + j]? = some (.cells (rs.map (Value.int .i32)).toArray 21 (0, 0))
  | [], w, j, rs, h => by simp at h
  | r :: l, w, 0, rs, h => by
    simp at h; subst h
    have := (layW_below l (w.alloc (.cells (r.map (Value.int .i32)).toArray 21))).1
    rw [layW, Nat.add_zero, this.block _ (by simp)]
    exact heap_alloc_new w _
  | r :: l, w, j + 1, rs, h => by
    have := layW_at l (w.alloc (.cells (r.map (Value.int .i32)).toArray 21)) j rs (by simpa using h)
    rw [layW, ← this]; simp; congr 1; omega
def entP (A : List Int → Nat) : I → Option Addr
  | .rune _ rs => some ⟨A rs, 0, none⟩
  | .one _ r => some ⟨A [r], 0, none⟩
  | _ => none
def entN : I → Nat
  | .rune _ rs => rs.length
  | .one _ _ => 1
  | _ => 0
def entOf (A : List Int → Nat) (x : I) : Ent := ⟨opc x, outc x, argc x, entP A x, entN x⟩
/-- what is asked of a table -/
def risesB : List Int → Bool
  | [] => true
  | [_] => true
  | a :: b :: l => decide (a ≤ b) && risesB (b :: l)
theorem rises_of : ∀ rs, risesB rs = true → Rises rs
  | [], _ => fun i j _ hj => by simp at hj
  | [a], _ => fun i j hij hj => by
    simp at hj; subst hj
    have : i = 0 := by omega
    subst this; exact Int.le_refl _
  | a :: b :: l, h => by
    simp only [risesB, Bool.and_eq_true, decide_eq_true_eq] at h
    have ih := rises_of (b :: l) h.2
    intro i j hij hj
    cases j with
    | zero => have : i = 0 := by omega
              subst this; exact Int.le_refl _
    | succ j =>
      cases i with
      | succ i =>
        have := ih i j (by omega) (by simpa using hj)
        simpa using this
      | zero =>
        have h0 := ih 0 j (by omega) (by simpa using hj)
        simp at h0
        have h1 := h.1
        show a ≤ _
        simp
        omega
def insOk (Ls : List (List Int)) (n : Nat) (x : I) : Bool := decide (outc x < n) && decide (argc x < 1000) && (match x with
  | .rune _ rs => Ls.contains rs && (rs.length == 2 || rs.length == 4 || rs.length == 6 || rs.length == 8 || rs.length == 10) && risesB rs
  | .one _ r => Ls.contains [r]
  | .alt _ a => decide (a < n)
  | _ => true)
/-- an instruction in memory, of the slice of instructions -/
theorem instAt_of {w0 w : World} {Ls : List (List Int)} {n : Nat} {base IB cap : Nat} {T : List I} {A : List Int → Nat} (hA : ∀ rs ∈ Ls, w.heap[A rs]? = some (.cells (rs.map (Value.int .i32)).toArray 21 (0, 0)))
    (hok : T.all (insOk Ls n) = true) (h : w.ownsRow base 115 4 (.slice (some ⟨IB, 0, none⟩) T.length cap) T.length (instCells (T.map (entOf A)))) (i : Nat) (x : I) (hx : T[i]? = some x) : InstAt w IB i x := by
  have hok := List.all_eq_true.1 hok x (List.mem_of_getElem? hx)
  have hcell : ∀ j v, j < 4 → (entOf A x).inst[j]? = some v → w.cell? ⟨IB, i * 4 + j, none⟩ = some v := fun j v hj hv => by
    rcases h.2 with ⟨hn, _⟩ | ⟨g, c, cur, q1, q2, q3, q4, q5, q6, q7⟩
    · cases hn
    · cases q1
      rw [cell_of_row _ _ _ _ _ _ q3]
      have e1 : (instCells (T.map (entOf A)))[i * 4 + j]? = some v := by
        rw [← hv]
        have hg : ∀ (E : List Ent) (i : Nat) (e : Ent), E[i]? = some e → (instCells E)[i * 4 + j]? = e.inst[j]? := by
          intro E
          induction E with
          | nil => intro i e h; simp at h
          | cons a E ih =>
            intro i e h
            have hl : (Ent.inst a).length = 4 := rfl
            show (Ent.inst a ++ instCells E)[i * 4 + j]? = _
            cases i with
            | zero => simp at h; subst h; rw [List.getElem?_append_left (by omega)]; simp
            | succ i => rw [List.getElem?_append_right (by omega), hl, ← ih i e (by simpa using h)]; congr 1; omega
        exact hg _ i _ (by simp [hx])
      have e2 := e1
      rw [← q7, List.getElem?_take] at e2
      split at e2
      · simpa using e2
      · cases e2
  have hrun : ∀ rs, rs ∈ Ls → entP A x = some ⟨A rs, 0, none⟩ → entN x = rs.length → ∃ rb cap, Runes w IB (i * 4) rb cap rs := fun rs hm h1 h2 => by
    have hb := hA rs hm
    refine ⟨A rs, rs.length, hcell 3 _ (by omega) (by simp [entOf, Ent.inst, Ent.rv, h1, h2]), fun k hk => ?_⟩
    rw [cell_of_row _ _ _ _ _ _ hb]; simp [hk]
  simp only [insOk, Bool.and_eq_true, decide_eq_true_eq] at hok
  refine ⟨hcell 0 _ (by omega) rfl, hcell 1 _ (by omega) rfl, hcell 2 _ (by omega) rfl, ?_, ?_⟩
  · rintro o rs rfl
    have h3 := hok.2
    simp only [Bool.and_eq_true, Bool.or_eq_true, beq_iff_eq, List.contains_iff_mem] at h3
    exact ⟨hrun rs h3.1.1 rfl rfl, by unfold LenOk; omega, rises_of rs h3.2⟩
  · rintro o r rfl
    have h3 := hok.2
    simp only [List.contains_iff_mem] at h3
    exact hrun [r] h3 rfl rfl
end Go.Proofs.YthejepmnnpmdmaaGreatDoor.Sv
end
section
set_option linter.unusedVariables false
set_option linter.unusedSimpArgs false
/- the constructor's long region -/
namespace Go.Proofs.YthejepmnnpmdmaaGreatDoor.Sv
open Go Go.RowKit Rx
set_option maxRecDepth 100000
theorem wpList_callBy {ops : Array Oper} {rest : List Oper} {o : Oper} {a : Act} {w : World} {Q : Exit → Act → World → Prop} (hg : o.guard = none) (f : FuncId) (args : Array Value) (hrun : (execOp a.eval o).run Tryz.prog w = .ok (.enter f args) w)
    (R : Ending → World → Prop) (hc : Calls Tryz.prog f args w R) (hr : ∀ e w', R e w' → ∃ v, e = .returned v ∧ wpList Tryz.prog ops Q rest (a.put o.dst v) w') : wpList Tryz.prog ops Q (o :: rest) a w := by
  refine wpList_plain hg fun K hK => ?_
  unfold Oper.wp
  rw [hrun, Oper.upon_enter]
  refine hc.mono fun e w'' hh => ?_
  obtain ⟨v, rfl, h⟩ := hr e w'' hh
  exact hK _ _ h
theorem parts_map (a : Act) (parts : Array (Nat × Operand)) (pl : List Operand) (hparts : parts.toList = (pl.zipIdx 0).map fun x => (x.2, x.1)) : (parts.map fun (i, x) => (i, a.eval x)).toList = ((pl.map a.eval).zipIdx 0).map fun x => (x.2, x.1) := by
  rw [Array.toList_map, hparts, List.zipIdx_map, List.map_map, List.map_map]
  rfl
theorem ev_set {tm : Array Value} {k : Nat} {v : Value} (h : k < tm.size) : ({ tmps := tm.setIfInBounds k v, defers := [] } : Act).eval (.tmp k) = v := by
  simp [Act.eval, Array.getD_eq_getD_getElem?, h]
theorem ev_ne {tm : Array Value} {k j : Nat} {v : Value} (h : k ≠ j) : ({ tmps := tm.setIfInBounds k v, defers := [] } : Act).eval (.tmp j) = ({ tmps := tm, defers := [] } : Act).eval (.tmp j) := by
  simp [Act.eval, Array.getD_eq_getD_getElem?, Array.getElem?_setIfInBounds, h]
theorem ctor {ops : Array Oper} {Q : Exit → Act → World → Prop} (w : World) (Ls : List (List Int)) (hnd : Ls.Nodup) (T : List I) (hT0 : T.length ≠ 0) (hTl : T.length ≤ 1000) (hok : T.all (insOk Ls T.length) = true)
    (l : List Oper) (tm : Array Value) (pl : List Operand) (o0 o1 o2 o3 o4 o5 o6 o7 : Oper) (k sz : Nat) (hk : k + 6 < sz) (h1 : (evs l tm).1 = [o0, o1, o2, o3, o4, o5, o6, o7])
    (h2 : (pl.map fun x => ({ tmps := (evs l tm).2, defers := [] } : Act).eval x) = T.map (fun x => Value.agg (entOf (fun rs => w.heap.size + Ls.idxOf rs) x).run)) (h3 : (evs l tm).2.size = sz)
    (parts : Array (Nat × Operand)) (hparts : parts.toList = (pl.zipIdx 0).map fun x => (x.2, x.1))
    (parts4 : Array (Nat × Operand)) (ns : Nat) (cs : Array Value) (src : ByteArray) (start ncap nsub minl : Nat) (x4 x10 x11 cond : Int)
    (g0 : o0.guard = none ∧ o0.dst = some k ∧ o0.op = .buildSlice 89 T.length parts)
    (g1 : o1.guard = none ∧ o1.dst = some (k + 1) ∧ o1.op = .call { callee := .value (.func 40), args := #[.tmp k], argTypes := #[89] })
    (g2 : o2.guard = none ∧ o2.dst = some (k + 2) ∧ o2.op = .build 91 #[(1, .const (.int .i64 start)), (2, .const (.int .i64 ncap)), (0, .tmp (k + 1))])
    (g3 : o3.guard = none ∧ o3.dst = some (k + 3) ∧ o3.op = .box 91 (.tmp (k + 2)))
    (g4 : o4.guard = none ∧ o4.dst = some (k + 4) ∧ o4.op = .buildSlice 29 ns parts4)
    (f4 : ∀ a : Act, Tryz.prog.builtSlice 9 ns (parts4.map fun (i, x) => (i, a.eval x)).toList = some cs)
    (g5 : o5.guard = none ∧ o5.dst = some (k + 5) ∧ o5.op = .build 96 #[(0, .const (.string src)), (1, .tmp (k + 3)), (3, .const (.int .i64 nsub)), (4, .const (.int .i64 x4)), (5, .tmp (k + 4)), (9, .const (.int .u32 0)), (10, .const (.int .i64 x10)), (11, .const (.int .i64 x11)), (12, .const (.bool false)), (13, .const (.int .u8 cond)), (14, .const (.int .i64 minl)), (15, .const (.bool false))])
    (g6 : o6.guard = none ∧ o6.dst = some (k + 6) ∧ o6.op = .box 96 (.tmp (k + 5)))
    (g7 : o7.guard = none ∧ o7.dst = some 0 ∧ o7.op = .assign (.tmp (k + 6)))
    (h : ∀ tm' w' R PB IB icap, ({ tmps := tm', defers := [] } : Act).eval (.tmp 0) = .pointer (some ⟨R, 0, none⟩) → 0 < tm'.size → PG w' R PB IB icap T → RH w' R PB cond start ncap minl nsub → Below w.heap.size w w' → Q .normal { tmps := tm', defers := [] } w') :
    wpList Tryz.prog ops Q l { tmps := tm, defers := [] } (layW w Ls) := by
  refine wpList_runs l _ tm pl _ sz h1 h2 h3 fun tm hs hv => ?_
  generalize hAd : (fun rs => w.heap.size + Ls.idxOf rs) = A at hv
  obtain ⟨hLb, hLs⟩ := layW_below Ls w
  have hAt : ∀ rs ∈ Ls, (layW w Ls).heap[A rs]? = some (.cells (rs.map (Value.int .i32)).toArray 21 (0, 0)) := fun rs hm => by
    rw [← hAd]
    refine layW_at Ls w (Ls.idxOf rs) rs ?_
    rw [List.getElem?_eq_getElem (List.idxOf_lt_length_of_mem hm), List.getElem_idxOf]
  have hAl : ∀ rs ∈ Ls, A rs < (layW w Ls).heap.size := fun rs hm => (Array.getElem?_eq_some_iff.1 (hAt rs hm)).1
  generalize layW w Ls = W at *
  -- the runs
  obtain ⟨i0, hi, hz0, hz1, hz2⟩ := info_parts info87
  have hEl : (T.map (entOf A)).length = T.length := by simp
  have hvl : (T.map (fun x => Value.agg (entOf A x).run)).length = T.length := by simp
  obtain ⟨r, hr, hrs, hrk⟩ := Great.fill_dense (s := 9) (by omega) (T.map (fun x => Value.agg (entOf A x).run)) 0 ((Array.range (T.length * 9)).map (zero87[· % zero87.size]!)) (by intro v hv; obtain ⟨x, _, rfl⟩ := List.mem_map.1 hv; rfl) (by simp)
  refine wpList_buildSlice g0.1 89 88 T.length parts g0.2.2 r i0 _ u88 hi hz0 (by rw [hz1]; omega) (by rw [hz1]; omega) ?_ ?_
  · rw [parts_map _ parts pl hparts, hz1]
    have hv' : pl.map ({ tmps := tm, defers := [] } : Act).eval = _ := hv
    rw [hv']
    exact hr
  have hRA : RunsAt (W.alloc (.cells r 88)) W.heap.size (T.map (entOf A)) := by
    refine ⟨r, heap_alloc_new W _, fun i j e he hj => ?_⟩
    rw [hrk]
    have hi : i < T.length := by have := (List.getElem?_eq_some_iff.1 he).1; simpa using this
    have e1 : (i * 9 + j) / 9 = i := by omega
    have e2 : (i * 9 + j) % 9 = j := by omega
    rw [if_pos (by rw [hvl]; constructor <;> omega), e1, e2, Nat.sub_zero]
    simp only [List.getElem?_map] at he ⊢
    cases hx : T[i]? with
    | none => rw [hx] at he; simp at he
    | some x => rw [hx] at he; simp at he; subst he; rfl
  have hb1 : Below w.heap.size w (W.alloc (.cells r 88)) := hLb.alloc (by omega) _
  have hAt1 : ∀ rs ∈ Ls, (W.alloc (.cells r 88)).heap[A rs]? = some (.cells (rs.map (Value.int .i32)).toArray 21 (0, 0)) := fun rs hm => by rw [Below.heap_alloc _ _ _ (hAl rs hm), hAt rs hm]
  have hAl1 : ∀ rs ∈ Ls, A rs < (W.alloc (.cells r 88)).heap.size := fun rs hm => by have := hAl rs hm; simp; omega
  have hsz1 : W.heap.size < (W.alloc (.cells r 88)).heap.size := by simp
  generalize W.alloc (.cells r 88) = W1 at *
  rw [g0.2.1]
  generalize W.heap.size = X at *
  simp only [Act.put]
  -- the instructions
  have h56 := t56 W1 X (T.map (entOf A)) hRA (by rw [hEl]; exact hTl) (fun e he => by
    obtain ⟨x, hx, rfl⟩ := List.mem_map.1 he
    have := List.all_eq_true.1 hok x hx
    simp only [insOk, Bool.and_eq_true, decide_eq_true_eq] at this
    exact ⟨by show outc x < 1000; omega, this.1.2⟩)
  rw [hEl] at h56
  refine wpList_callBy g1.1 40 #[.slice (some ⟨X, 0, none⟩) T.length T.length] ?_ _ h56 ?_
  · unfold execOp
    have e1 := ev_set (v := .slice (some ⟨X, 0, none⟩) T.length T.length) (show k < tm.size by omega)
    have e2 : ({ tmps := tm.setIfInBounds k (.slice (some ⟨X, 0, none⟩) T.length T.length), defers := [] } : Act).eval (.func 40) = .func (.func 40) #[] #[] := rfl
    generalize ({ tmps := tm.setIfInBounds k (.slice (some ⟨X, 0, none⟩) T.length T.length), defers := [] } : Act).eval = ev at *
    simp [g1.2.2, resolve, invoke, go_sem, e1, e2]
  rintro e W2 ⟨v, rfl, ho2, hb2⟩
  refine ⟨v, rfl, ?_⟩
  obtain ⟨IB, icap, hv2, hIB⟩ := World.ownsRow.form ho2 (by omega)
  subst hv2
  rw [g1.2.1]
  simp only [Act.put]
  generalize htm1 : (tm.setIfInBounds k (.slice (some ⟨X, 0, none⟩) T.length T.length)) = tm1
  have hs1 : tm1.size = sz := by rw [← htm1]; simpa using hs
  -- the program
  refine wpList_buildTo g2.1 91 _ g2.2.2 (some (k + 2)) g2.2.1 #[.slice (some ⟨IB, 0, none⟩) T.length icap, .int .i64 start, .int .i64 ncap] ?_ ?_
  · simp only [List.map_toArray, List.map_cons, List.map_nil, ev_set (v := .slice (some ⟨IB, 0, none⟩) T.length icap) (show k + 1 < tm1.size by omega)]
    exact built90 _ _ _ _ _
  simp only [Act.put]
  generalize htm2 : (tm1.setIfInBounds (k + 1) (.slice (some ⟨IB, 0, none⟩) T.length icap)) = tm2
  have hs2 : tm2.size = sz := by rw [← htm2]; simpa using hs1
  refine Great.wpList_boxTo g3.1 91 _ g3.2.2 (some (k + 3)) g3.2.1 W2.heap.size rfl #[.slice (some ⟨IB, 0, none⟩) T.length icap, .int .i64 start, .int .i64 ncap] (by rw [ev_set (by omega)]; rfl) ?_
  simp only [Act.put]
  have hP : (W2.alloc (.cells #[.slice (some ⟨IB, 0, none⟩) T.length icap, .int .i64 start, .int .i64 ncap] 91)).heap[W2.heap.size]? = _ := heap_alloc_new W2 _
  have hb3 : Below W2.heap.size W2 (W2.alloc (.cells #[.slice (some ⟨IB, 0, none⟩) T.length icap, .int .i64 start, .int .i64 ncap] 91)) := (Below.refl _ W2).alloc (Nat.le_refl _) _
  have hz3 : W2.heap.size < (W2.alloc (.cells #[.slice (some ⟨IB, 0, none⟩) T.length icap, .int .i64 start, .int .i64 ncap] 91)).heap.size := by simp
  generalize W2.alloc (.cells #[.slice (some ⟨IB, 0, none⟩) T.length icap, .int .i64 start, .int .i64 ncap] 91) = W3 at *
  generalize hPB : W2.heap.size = PB at *
  generalize htm3 : (tm2.setIfInBounds (k + 2) _) = tm3
  have hs3 : tm3.size = sz := by rw [← htm3]; simpa using hs2
  -- the names
  refine Great.wpList_buildSliceTo g4.1 29 9 ns _ g4.2.2 W3.heap.size rfl (some (k + 4)) g4.2.1 u52 cs (f4 _) ?_
  simp only [Act.put]
  have hb4 : Below W3.heap.size W3 (W3.alloc (.cells cs 9)) := (Below.refl _ W3).alloc (Nat.le_refl _) _
  have hz4 : W3.heap.size < (W3.alloc (.cells cs 9)).heap.size := by simp
  generalize W3.alloc (.cells cs 9) = W4 at *
  generalize htm4 : (tm3.setIfInBounds (k + 3) _) = tm4
  have hs4 : tm4.size = sz := by rw [← htm4]; simpa using hs3
  -- the Regexp
  refine wpList_buildTo g5.1 96 _ g5.2.2 (some (k + 5)) g5.2.1 #[.string src, .pointer (some ⟨PB, 0, none⟩), .pointer none, .int .i64 nsub, .int .i64 x4, .slice (some ⟨W3.heap.size, 0, none⟩) ns ns, .string ⟨#[]⟩, .slice none 0 0, .int .i32 0, .int .u32 0, .int .i64 x10, .int .i64 x11, .bool false, .int .u8 cond, .int .i64 minl, .bool false] ?_ ?_
  · have e1 : ({ tmps := tm4.setIfInBounds (k + 4) (.slice (some ⟨W3.heap.size, 0, none⟩) ns ns), defers := [] } : Act).eval (.tmp (k + 3)) = .pointer (some ⟨PB, 0, none⟩) := by
      rw [ev_ne (by omega), ← htm4, ev_set (by omega)]
    simp only [List.map_toArray, List.map_cons, List.map_nil, e1, ev_set (v := .slice (some ⟨W3.heap.size, 0, none⟩) ns ns) (show k + 4 < tm4.size by omega)]
    exact built95 _ _ _ _ _ _ _ _ _ _ _ _
  simp only [Act.put]
  generalize htm5 : (tm4.setIfInBounds (k + 4) _) = tm5
  have hs5 : tm5.size = sz := by rw [← htm5]; simpa using hs4
  refine Great.wpList_boxTo g6.1 96 _ g6.2.2 (some (k + 6)) g6.2.1 W4.heap.size rfl #[.string src, .pointer (some ⟨PB, 0, none⟩), .pointer none, .int .i64 nsub, .int .i64 x4, .slice (some ⟨W3.heap.size, 0, none⟩) ns ns, .string ⟨#[]⟩, .slice none 0 0, .int .i32 0, .int .u32 0, .int .i64 x10, .int .i64 x11, .bool false, .int .u8 cond, .int .i64 minl, .bool false] (by rw [ev_set (by omega)]; rfl) ?_
  simp only [Act.put]
  have hR5 := heap_alloc_new W4 (.cells #[.string src, .pointer (some ⟨PB, 0, none⟩), .pointer none, .int .i64 nsub, .int .i64 x4, .slice (some ⟨W3.heap.size, 0, none⟩) ns ns, .string ⟨#[]⟩, .slice none 0 0, .int .i32 0, .int .u32 0, .int .i64 x10, .int .i64 x11, .bool false, .int .u8 cond, .int .i64 minl, .bool false] 96 (0, 0))
  have hb5 : ∀ o, Below W4.heap.size W4 (W4.alloc o) := fun o => (Below.refl _ W4).alloc (Nat.le_refl _) _
  generalize htm6 : (tm5.setIfInBounds (k + 5) _) = tm6
  have hs6 : tm6.size = sz := by rw [← htm6]; simpa using hs5
  refine Great.wpList_runTo g7.1 (some 0) g7.2.1 (.pointer (some ⟨W4.heap.size, 0, none⟩)) (W4.alloc (.cells #[.string src, .pointer (some ⟨PB, 0, none⟩), .pointer none, .int .i64 nsub, .int .i64 x4, .slice (some ⟨W3.heap.size, 0, none⟩) ns ns, .string ⟨#[]⟩, .slice none 0 0, .int .i32 0, .int .u32 0, .int .i64 x10, .int .i64 x11, .bool false, .int .u8 cond, .int .i64 minl, .bool false] 96 (0, 0))) ?_ ?_
  · unfold execOp
    have e1 := ev_set (v := .pointer (some ⟨W4.heap.size, 0, none⟩)) (show k + 6 < tm6.size by omega)
    simp [g7.2.2, e1]
  simp only [Act.put]
  have hb5' := hb5 (.cells #[.string src, .pointer (some ⟨PB, 0, none⟩), .pointer none, .int .i64 nsub, .int .i64 x4, .slice (some ⟨W3.heap.size, 0, none⟩) ns ns, .string ⟨#[]⟩, .slice none 0 0, .int .i32 0, .int .u32 0, .int .i64 x10, .int .i64 x11, .bool false, .int .u8 cond, .int .i64 minl, .bool false] 96 (0, 0))
  have fin : ∀ W5, W5.heap[W4.heap.size]? = some (.cells #[.string src, .pointer (some ⟨PB, 0, none⟩), .pointer none, .int .i64 nsub, .int .i64 x4, .slice (some ⟨W3.heap.size, 0, none⟩) ns ns, .string ⟨#[]⟩, .slice none 0 0, .int .i32 0, .int .u32 0, .int .i64 x10, .int .i64 x11, .bool false, .int .u8 cond, .int .i64 minl, .bool false] 96 (0, 0)) → Below W4.heap.size W4 W5 →
      PG W5 W4.heap.size PB IB icap T ∧ RH W5 W4.heap.size PB cond start ncap minl nsub ∧ Below w.heap.size w W5 := fun W5 hR5 hb5 => by
    have z1 := hb1.size
    have z2 := hb2.size
    have z3 := hb3.size
    have k3 : ∀ j, j < W3.heap.size → W5.heap[j]? = W3.heap[j]? := fun j hj => (hb5.block j (by omega)).trans (hb4.block j hj)
    have k2 : ∀ j, j < PB → W5.heap[j]? = W2.heap[j]? := fun j hj => (k3 j (by omega)).trans (hb3.block j (by omega))
    have hP5 := (k3 PB hz3).trans hP
    have hA5 : ∀ rs ∈ Ls, W5.heap[A rs]? = some (.cells (rs.map (Value.int .i32)).toArray 21 (0, 0)) := fun rs hm => by
      have := hAl1 rs hm
      rw [k2 _ (by omega), hb2.block _ this, hAt1 rs hm]
    have ho5 := own_of ho2 (w' := W5) (fun g cur _ hc => by
      have := (Array.getElem?_eq_some_iff.1 hc).1
      rw [k2 g (by omega)])
    have hAll := List.all_eq_true.1 hok
    refine ⟨⟨cell_of_row _ _ 1 _ _ _ hR5, cell_of_row _ _ 15 _ _ _ hR5, cell_of_row _ _ 0 _ _ _ hP5, instAt_of (w0 := W5) hA5 hok ho5, fun i x hx => ?_, fun i o a hx => ?_, hTl⟩,
      ⟨cell_of_row _ _ 13 _ _ _ hR5, cell_of_row _ _ 6 _ _ _ hR5, cell_of_row _ _ 14 _ _ _ hR5, cell_of_row _ _ 3 _ _ _ hR5, cell_of_row _ _ 1 _ _ _ hP5, cell_of_row _ _ 2 _ _ _ hP5⟩, ?_⟩
    · have := hAll x (List.mem_of_getElem? hx)
      simp only [insOk, Bool.and_eq_true, decide_eq_true_eq] at this
      exact this.1
    · have := hAll _ (List.mem_of_getElem? hx)
      simp only [insOk, Bool.and_eq_true, decide_eq_true_eq] at this
      exact this.2
    · exact (((hb1.trans (hb2.mono z1)).trans (hb3.mono (by omega))).trans (hb4.mono (by omega))).trans (hb5.mono (by have := hb4.size; omega))
  obtain ⟨f1, f2, f3⟩ := fin _ hR5 hb5'
  exact wpList_nil (h _ _ W4.heap.size PB IB icap (ev_set (by simp; omega)) (by simp; omega) f1 f2 f3)
def opAt (l : List Oper) (i : Nat) : Oper := l[i]?.getD { dst := none, op := .assign (.tmp 0), type := 0, pos := "", after := #[], guard := none }
def partsOf (o : Oper) : Array (Nat × Operand) := match o.op with
  | .buildSlice _ _ p => p
  | .build _ p => p
  | _ => #[]
def plOf (o : Oper) : List Operand := (partsOf o).toList.map (·.2)
def strOf (o : Oper) : ByteArray := match (partsOf o).toList with
  | (_, .const (.string s)) :: _ => s
  | _ => ⟨#[]⟩
def intAt (o : Oper) (i : Nat) : Int := match (partsOf o).toList[i]? with
  | some (_, .const (.int _ x)) => x
  | _ => 0
theorem ctorL {ops : Array Oper} {Q : Exit → Act → World → Prop} (w : World) (Ls : List (List Int)) (T : List I) (m k sz ns start ncap nsub minl : Nat) (cond : Int) (l : List Oper) (tm : Array Value)
    (hnd : Ls.Nodup) (hT0 : T.length ≠ 0) (hTl : T.length ≤ 1000) (hok : T.all (insOk Ls T.length) = true) (hk : k + 6 < sz)
    (h1 : (evs l tm).1 = [opAt l m, opAt l (m + 1), opAt l (m + 2), opAt l (m + 3), opAt l (m + 4), opAt l (m + 5), opAt l (m + 6), opAt l (m + 7)])
    (h2 : ((plOf (opAt l m)).map fun x => ({ tmps := (evs l tm).2, defers := [] } : Act).eval x) = T.map (fun x => Value.agg (entOf (fun rs => w.heap.size + Ls.idxOf rs) x).run)) (h3 : (evs l tm).2.size = sz)
    (hparts : (partsOf (opAt l m)).toList = ((plOf (opAt l m)).zipIdx 0).map fun x => (x.2, x.1))
    (g0 : (opAt l m).guard = none ∧ (opAt l m).dst = some k ∧ (opAt l m).op = .buildSlice 89 T.length (partsOf (opAt l m)))
    (g1 : (opAt l (m + 1)).guard = none ∧ (opAt l (m + 1)).dst = some (k + 1) ∧ (opAt l (m + 1)).op = .call { callee := .value (.func 40), args := #[.tmp k], argTypes := #[89] })
    (g2 : (opAt l (m + 2)).guard = none ∧ (opAt l (m + 2)).dst = some (k + 2) ∧ (opAt l (m + 2)).op = .build 91 #[(1, .const (.int .i64 start)), (2, .const (.int .i64 ncap)), (0, .tmp (k + 1))])
    (g3 : (opAt l (m + 3)).guard = none ∧ (opAt l (m + 3)).dst = some (k + 3) ∧ (opAt l (m + 3)).op = .box 91 (.tmp (k + 2)))
    (g4 : (opAt l (m + 4)).guard = none ∧ (opAt l (m + 4)).dst = some (k + 4) ∧ (opAt l (m + 4)).op = .buildSlice 29 ns (partsOf (opAt l (m + 4))))
    (f4 : ∀ a : Act, Tryz.prog.builtSlice 9 ns ((partsOf (opAt l (m + 4))).map fun (i, x) => (i, a.eval x)).toList = some (List.replicate ns (Value.string ⟨#[]⟩)).toArray)
    (g5 : (opAt l (m + 5)).guard = none ∧ (opAt l (m + 5)).dst = some (k + 5) ∧ (opAt l (m + 5)).op = .build 96 #[(0, .const (.string (strOf (opAt l (m + 5))))), (1, .tmp (k + 3)), (3, .const (.int .i64 nsub)), (4, .const (.int .i64 (intAt (opAt l (m + 5)) 3))), (5, .tmp (k + 4)), (9, .const (.int .u32 0)), (10, .const (.int .i64 (intAt (opAt l (m + 5)) 6))), (11, .const (.int .i64 (intAt (opAt l (m + 5)) 7))), (12, .const (.bool false)), (13, .const (.int .u8 cond)), (14, .const (.int .i64 minl)), (15, .const (.bool false))])
    (g6 : (opAt l (m + 6)).guard = none ∧ (opAt l (m + 6)).dst = some (k + 6) ∧ (opAt l (m + 6)).op = .box 96 (.tmp (k + 5)))
    (g7 : (opAt l (m + 7)).guard = none ∧ (opAt l (m + 7)).dst = some 0 ∧ (opAt l (m + 7)).op = .assign (.tmp (k + 6)))
    (h : ∀ tm' w' R PB IB icap, ({ tmps := tm', defers := [] } : Act).eval (.tmp 0) = .pointer (some ⟨R, 0, none⟩) → 0 < tm'.size → PG w' R PB IB icap T → RH w' R PB cond start ncap minl nsub → Below w.heap.size w w' → Q .normal { tmps := tm', defers := [] } w') :
    wpList Tryz.prog ops Q l { tmps := tm, defers := [] } (layW w Ls) :=
  ctor w Ls hnd T hT0 hTl hok l tm (plOf (opAt l m)) _ _ _ _ _ _ _ _ k sz hk h1 h2 h3 _ hparts _ ns _ _ start ncap nsub minl _ _ _ cond g0 g1 g2 g3 g4 f4 g5 g6 g7 h
/-- what a constructor gives -/
def Ctor (w : World) (T : List I) (cond : Int) (start ncap minl nsub : Nat) : Ending → World → Prop := fun e w' => ∃ R PB IB icap, e = .returned (.pointer (some ⟨R, 0, none⟩)) ∧ PG w' R PB IB icap T ∧ RH w' R PB cond start ncap minl nsub ∧ Below w.heap.size w w'
end Go.Proofs.YthejepmnnpmdmaaGreatDoor.Sv
end
section
set_option linter.unusedVariables false
set_option linter.unusedSimpArgs false
/- the constructors of the five programs -/
namespace Go.Proofs.YthejepmnnpmdmaaGreatDoor.Sv
open Go Go.RowKit Rx
set_option maxRecDepth 100000
set_option maxHeartbeats 2000000 in
theorem t107 (w : World) : Calls Tryz.prog 75 #[] w (Ctor w looseT 4 1 20 1 9) := by
  go_enter Tryz.func75, Tryz.ntmps75
  go_upto_region 7 with go_in
  refine wp_region_list ?_
  change wpList _ _ _ _ _ (layW w [[118], [48, 57], [46], [45], [45, 45, 48, 57, 65, 90, 97, 122], [43]])
  refine ctorL w _ looseT 64 77 84 10 1 20 9 1 4 _ _ (by decide) (by decide) (by decide) (by decide) (by decide) (by kernel_rfl) (by kernel_rfl) (by kernel_rfl) (by kernel_rfl) ⟨by kernel_rfl, by kernel_rfl, by kernel_rfl⟩ ⟨by kernel_rfl, by kernel_rfl, by kernel_rfl⟩ ⟨by kernel_rfl, by kernel_rfl, by kernel_rfl⟩
    ⟨by kernel_rfl, by kernel_rfl, by kernel_rfl⟩ ⟨by kernel_rfl, by kernel_rfl, by kernel_rfl⟩ (fun a => by kernel_rfl) ⟨by kernel_rfl, by kernel_rfl, by kernel_rfl⟩ ⟨by kernel_rfl, by kernel_rfl, by kernel_rfl⟩ ⟨by kernel_rfl, by kernel_rfl, by kernel_rfl⟩ ?_
  intro tm' w' R PB IB icap e0 hsz hp hr hb
  rename_i K hK
  exact hK _ _ (wp_ret (bodyPost_ret (results_tmp rfl _ _ _) rfl ⟨R, PB, IB, icap, congrArg _ e0, hp, hr, hb⟩))
set_option maxHeartbeats 2000000 in
theorem t52 (w : World) : Calls Tryz.prog 36 #[] w (Ctor w rngT 0 2 42 5 20) := by
  go_enter Tryz.func36, Tryz.ntmps36
  go_upto_region 8 with go_in
  refine wp_region_list ?_
  change wpList _ _ _ _ _ (layW w [[9, 10, 12, 13, 32, 32], [118], [42, 42, 48, 57, 88, 88, 120, 120, 124, 124], [46], [45], [45, 45, 48, 57, 65, 90, 97, 122], [43]])
  refine ctorL w _ rngT 140 155 162 21 2 42 20 5 0 _ _ (by decide) (by decide) (by decide) (by decide) (by decide) (by kernel_rfl) (by kernel_rfl) (by kernel_rfl) (by kernel_rfl) ⟨by kernel_rfl, by kernel_rfl, by kernel_rfl⟩ ⟨by kernel_rfl, by kernel_rfl, by kernel_rfl⟩ ⟨by kernel_rfl, by kernel_rfl, by kernel_rfl⟩
    ⟨by kernel_rfl, by kernel_rfl, by kernel_rfl⟩ ⟨by kernel_rfl, by kernel_rfl, by kernel_rfl⟩ (fun a => by kernel_rfl) ⟨by kernel_rfl, by kernel_rfl, by kernel_rfl⟩ ⟨by kernel_rfl, by kernel_rfl, by kernel_rfl⟩ ⟨by kernel_rfl, by kernel_rfl, by kernel_rfl⟩ ?_
  intro tm' w' R PB IB icap e0 hsz hp hr hb
  rename_i K hK
  exact hK _ _ (wp_ret (bodyPost_ret (results_tmp rfl _ _ _) rfl ⟨R, PB, IB, icap, congrArg _ e0, hp, hr, hb⟩))
set_option maxHeartbeats 2000000 in
theorem t60 (w : World) : Calls Tryz.prog 44 #[] w (Ctor w conT 4 1 24 1 11) := by
  go_enter Tryz.func44, Tryz.ntmps44
  go_upto_region 15 with go_in
  refine wp_region_list ?_
  change wpList _ _ _ _ _ (layW w [[9, 10, 12, 13, 32, 32], [61], [33], [60, 60, 62, 62], [62], [60], [126], [94], [118], [42, 42, 48, 57, 88, 88, 120, 120, 124, 124], [46], [45], [45, 45, 48, 57, 65, 90, 97, 122], [43]])
  refine ctorL w _ conT 119 148 155 12 1 24 11 1 4 _ _ (by decide) (by decide) (by decide) (by decide) (by decide) (by kernel_rfl) (by kernel_rfl) (by kernel_rfl) (by kernel_rfl) ⟨by kernel_rfl, by kernel_rfl, by kernel_rfl⟩ ⟨by kernel_rfl, by kernel_rfl, by kernel_rfl⟩ ⟨by kernel_rfl, by kernel_rfl, by kernel_rfl⟩
    ⟨by kernel_rfl, by kernel_rfl, by kernel_rfl⟩ ⟨by kernel_rfl, by kernel_rfl, by kernel_rfl⟩ (fun a => by kernel_rfl) ⟨by kernel_rfl, by kernel_rfl, by kernel_rfl⟩ ⟨by kernel_rfl, by kernel_rfl, by kernel_rfl⟩ ⟨by kernel_rfl, by kernel_rfl, by kernel_rfl⟩ ?_
  intro tm' w' R PB IB icap e0 hsz hp hr hb
  rename_i K hK
  exact hK _ _ (wp_ret (bodyPost_ret (results_tmp rfl _ _ _) rfl ⟨R, PB, IB, icap, congrArg _ e0, hp, hr, hb⟩))
set_option maxHeartbeats 2000000 in
theorem t42 (w : World) : Calls Tryz.prog 29 #[] w (Ctor w findT 0 1 24 1 11) := by
  go_enter Tryz.func29, Tryz.ntmps29
  go_upto_region 15 with go_in
  refine wp_region_list ?_
  change wpList _ _ _ _ _ (layW w [[61], [33], [60, 60, 62, 62], [62], [60], [126], [94], [9, 10, 12, 13, 32, 32], [118], [42, 42, 48, 57, 88, 88, 120, 120, 124, 124], [46], [45], [45, 45, 48, 57, 65, 90, 97, 122], [43]])
  refine ctorL w _ findT 111 140 147 12 1 24 11 1 0 _ _ (by decide) (by decide) (by decide) (by decide) (by decide) (by kernel_rfl) (by kernel_rfl) (by kernel_rfl) (by kernel_rfl) ⟨by kernel_rfl, by kernel_rfl, by kernel_rfl⟩ ⟨by kernel_rfl, by kernel_rfl, by kernel_rfl⟩ ⟨by kernel_rfl, by kernel_rfl, by kernel_rfl⟩
    ⟨by kernel_rfl, by kernel_rfl, by kernel_rfl⟩ ⟨by kernel_rfl, by kernel_rfl, by kernel_rfl⟩ (fun a => by kernel_rfl) ⟨by kernel_rfl, by kernel_rfl, by kernel_rfl⟩ ⟨by kernel_rfl, by kernel_rfl, by kernel_rfl⟩ ⟨by kernel_rfl, by kernel_rfl, by kernel_rfl⟩ ?_
  intro tm' w' R PB IB icap e0 hsz hp hr hb
  rename_i K hK
  exact hK _ _ (wp_ret (bodyPost_ret (results_tmp rfl _ _ _) rfl ⟨R, PB, IB, icap, congrArg _ e0, hp, hr, hb⟩))
set_option maxHeartbeats 2000000 in
theorem t39 (w : World) : Calls Tryz.prog 26 #[] w (Ctor w validT 4 1 50 1 24) := by
  go_enter Tryz.func26, Tryz.ntmps26
  go_upto_region 16 with go_in
  refine wp_region_list ?_
  change wpList _ _ _ _ _ (layW w [[9, 10, 12, 13, 32, 32], [61], [33], [60, 60, 62, 62], [62], [60], [126], [94], [118], [42, 42, 48, 57, 88, 88, 120, 120, 124, 124], [46], [45], [45, 45, 48, 57, 65, 90, 97, 122], [43], [44]])
  refine ctorL w _ validT 245 276 283 25 1 50 24 1 4 _ _ (by decide) (by decide) (by decide) (by decide) (by decide) (by kernel_rfl) (by kernel_rfl) (by kernel_rfl) (by kernel_rfl) ⟨by kernel_rfl, by kernel_rfl, by kernel_rfl⟩ ⟨by kernel_rfl, by kernel_rfl, by kernel_rfl⟩ ⟨by kernel_rfl, by kernel_rfl, by kernel_rfl⟩
    ⟨by kernel_rfl, by kernel_rfl, by kernel_rfl⟩ ⟨by kernel_rfl, by kernel_rfl, by kernel_rfl⟩ (fun a => by kernel_rfl) ⟨by kernel_rfl, by kernel_rfl, by kernel_rfl⟩ ⟨by kernel_rfl, by kernel_rfl, by kernel_rfl⟩ ⟨by kernel_rfl, by kernel_rfl, by kernel_rfl⟩ ?_
  intro tm' w' R PB IB icap e0 hsz hp hr hb
  rename_i K hK
  exact hK _ _ (wp_ret (bodyPost_ret (results_tmp rfl _ _ _) rfl ⟨R, PB, IB, icap, congrArg _ e0, hp, hr, hb⟩))
end Go.Proofs.YthejepmnnpmdmaaGreatDoor.Sv
end
section
set_option linter.unusedVariables false
set_option linter.unusedSimpArgs false
/- the texts and the tables as the engine wants them -/
namespace Go.Proofs.YthejepmnnpmdmaaGreatDoor.Sv
open Go Go.RowKit Rx
set_option maxRecDepth 100000
theorem decN_asc (n b0 b1 b2 b3 : Nat) (h : b0 < 128) : Lib.decodeN n b0 b1 b2 b3 = (b0, 1) := by unfold Lib.decodeN; rw [if_pos h]
theorem decN_far (n b0 b1 b2 b3 : Nat) (h : 128 ≤ b0) : 128 ≤ (Lib.decodeN n b0 b1 b2 b3).1 := by
  unfold Lib.decodeN
  repeat' split
  all_goals (simp only []; omega)
theorem get_at (s : ByteArray) (p : Nat) (x : UInt8) (h : s.data.toList[p]? = some x) : p < s.size ∧ (s.extract p s.size).size ≠ 0 ∧ (s.extract p s.size).get! 0 = x := by
  have hp : p < s.size := by have := (List.getElem?_eq_some_iff.1 h).1; simpa using this
  have h2 : (s.extract p s.size).size ≠ 0 := by simp; omega
  refine ⟨hp, h2, ?_⟩
  have h3 : s.data[p]? = some x := by simpa using h
  have h4 : 0 < (s.extract p s.size).size := by omega
  have e : (s.extract p s.size).get! 0 = (s.extract p s.size).data[0]! := rfl
  rw [e]
  have h5 : (s.extract p s.size).data[0]? = some x := by
    rw [ByteArray.data_extract, Array.getElem?_extract]
    simp [h3]
    have : s.data.size = s.size := rfl
    omega
  rw [getElem!_def, h5]
theorem step_dec (s : ByteArray) (p : Nat) (x : UInt8) (h : s.data.toList[p]? = some x) : ∃ n b1 b2 b3, stepB s p = (((Lib.decodeN n x.toNat b1 b2 b3).1 : Int), (Lib.decodeN n x.toNat b1 b2 b3).2) := by
  obtain ⟨h1, h2, h3⟩ := get_at s p x h
  unfold stepB Lib.decodeGo
  rw [if_pos h1, if_neg h2, Lib.decode_at, h3]
  exact ⟨_, _, _, _, rfl⟩
theorem list_size (s : ByteArray) : s.data.toList.length = s.size := by simp
theorem ok_env (T : List I) (s : ByteArray) : Rx.Ok (envOf T s) s.size := by
  refine ⟨fun p hp => ?_, fun p hp => ?_⟩
  · obtain ⟨x, hx⟩ : ∃ x, s.data.toList[p]? = some x := ⟨_, List.getElem?_eq_getElem (by rw [list_size]; exact hp)⟩
    show 1 ≤ (stepB s p).2 ∧ p + (stepB s p).2 ≤ s.size
    have hle := Lib.decodeGo_le_size (s.extract p s.size)
    have hsz : (s.extract p s.size).size = s.size - p := by simp
    have hge : 1 ≤ (stepB s p).2 := by
      obtain ⟨n, b1, b2, b3, h⟩ := step_dec s p x hx
      rw [h]; exact Lib.decodeN_ge1 _ _ _ _ _
    refine ⟨hge, ?_⟩
    have : (stepB s p).2 = (Lib.decodeGo (s.extract p s.size)).2 := by unfold stepB; rw [if_pos hp]
    omega
  · show stepB s p = _
    unfold stepB; rw [if_neg (by omega)]
theorem txt_env (T : List I) (s : ByteArray) : Txt (envOf T s) s.data.toList := by
  refine ⟨by rw [list_size]; exact ok_env T s, fun p x hx hl => ?_, fun p x hx hl => ?_, fun p hp => by simp [envOf], fun p hp => by rw [list_size] at *; simp [envOf]⟩
  · obtain ⟨n, b1, b2, b3, h⟩ := step_dec s p x hx
    show stepB s p = _
    rw [h, decN_asc _ _ _ _ _ hl]
  · obtain ⟨n, b1, b2, b3, h⟩ := step_dec s p x hx
    show 128 ≤ (stepB s p).1
    rw [h]
    have := decN_far n x.toNat b1 b2 b3 hl
    simp only []; omega
/-! the tables -/
def insT (n : Nat) : I → Bool
  | .alt o a => decide (o < n) && decide (a < n)
  | .cap o _ => decide (o < n)
  | .emp o a => decide (o < n) && (a == 4 || a == 8)
  | .mtch => true
  | .fail => true
  | .nop o => decide (o < n)
  | .rune o rs => decide (o < n) && !matchRune rs (-1)
  | .one o r => decide (o < n) && decide (r ≠ -1)
theorem tab_of {T : List I} (h : T.all (insT T.length) = true) : TabOk T ∧ ∀ (i o a : Nat), T[i]? = some (.emp o a) → a = 4 ∨ a = 8 := by
  have h := List.all_eq_true.1 h
  refine ⟨fun i x hx => ?_, fun i o a hx => ?_⟩
  · have := h x (List.mem_of_getElem? hx)
    cases x <;> simp_all [insT]
  · have := h _ (List.mem_of_getElem? hx)
    simp only [insT, Bool.and_eq_true, Bool.or_eq_true, beq_iff_eq] at this
    exact this.2
theorem looseT_ok : looseT.all (insT looseT.length) = true := by decide
theorem conT_ok : conT.all (insT conT.length) = true := by decide
theorem findT_ok : findT.all (insT findT.length) = true := by decide
theorem rngT_ok : rngT.all (insT rngT.length) = true := by decide
theorem validT_ok : validT.all (insT validT.length) = true := by decide
/-- behind a constructor a search may be made -/
theorem sur_of {w : World} {R PB IB icap : Nat} {T : List I} {s : ByteArray} (hp : PG w R PB IB icap T) (hT : Lib.Utf8Tabs 11 12 w) (hok : T.all (insT T.length) = true) (hTl : T.length ≤ 200) (hs : s.size ≤ 1000) : Sur w R PB IB icap T s := by
  obtain ⟨h1, h2⟩ := tab_of hok
  refine ⟨hp, hT, h1, by omega, ok_env T s, h2, ?_⟩
  have := Nat.mul_le_mul hTl (show s.size + 1 ≤ 1001 by omega)
  omega
end Go.Proofs.YthejepmnnpmdmaaGreatDoor.Sv
end
section
set_option linter.unusedVariables false
set_option linter.unusedSimpArgs false
/- captures lie in pairs -/
namespace Go.Proofs.YthejepmnnpmdmaaGreatDoor.Sv
open Go Go.RowKit Rx
inductive Bal : Nat → Nat → List (Nat × Nat) → Prop
  | nil {p q : Nat} (h : p ≤ q) : Bal p q []
  | wrap {p q : Nat} (i a b : Nat) (t : List (Nat × Nat)) (h1 : p ≤ a) (h : Bal a b t) (h2 : b ≤ q) : Bal p q ((2 * i, a) :: (t ++ [(2 * i + 1, b)]))
  | app {p q r : Nat} (t t' : List (Nat × Nat)) (h : Bal p q t) (h' : Bal q r t') : Bal p r (t ++ t')
theorem Bal.le {p q : Nat} {t : List (Nat × Nat)} (h : Bal p q t) : p ≤ q := by
  induction h with
  | nil h => exact h
  | wrap i a b t h1 h h2 ih => omega
  | app t t' h h' ih ih' => omega
theorem Bal.mem {p q : Nat} {t : List (Nat × Nat)} (h : Bal p q t) : ∀ x ∈ t, p ≤ x.2 ∧ x.2 ≤ q := by
  induction h with
  | nil h => intro x hx; cases hx
  | wrap i a b t h1 h h2 ih =>
    have := h.le
    intro x hx
    rcases List.mem_cons.1 hx with rfl | hx
    · simp only []; omega
    rcases List.mem_append.1 hx with hx | hx
    · have := ih x hx; omega
    · have : x = (2 * i + 1, b) := by simpa using hx
      subst this; simp only []; omega
  | app t t' h h' ih ih' =>
    have := h.le
    have := h'.le
    intro x hx
    rcases List.mem_append.1 hx with hx | hx
    · have := ih x hx; omega
    · have := ih' x hx; omega
theorem lastW_mem : ∀ {t : List (Nat × Nat)} {i a : Nat}, lastW t i = some a → (i, a) ∈ t
  | [], i, a, h => by cases h
  | x :: t, i, a, h => by
    simp only [lastW] at h
    cases e : lastW t i with
    | some b => rw [e] at h; simp at h; subst h; exact List.mem_cons_of_mem _ (lastW_mem e)
    | none =>
      rw [e] at h
      simp at h
      obtain ⟨h1, h2⟩ := h
      have : x = (i, a) := by rw [← h1, ← h2]
      rw [this]; exact List.mem_cons_self
theorem Bal.pair {p q : Nat} {t : List (Nat × Nat)} (h : Bal p q t) : ∀ j a, lastW t (2 * j) = some a → ∃ b, lastW t (2 * j + 1) = some b ∧ a ≤ b := by
  induction h with
  | nil h => intro j a e; cases e
  | wrap i a b t h1 h h2 ih =>
    intro j a' e
    have e1 : ∀ k, lastW ((2 * i, a) :: (t ++ [(2 * i + 1, b)])) k = ((lastW [(2 * i + 1, b)] k).or (lastW t k)).or (if 2 * i = k then some a else none) := fun k => by
      simp only [lastW, lastW_append]
    rw [e1] at e
    have z1 : lastW [(2 * i + 1, b)] (2 * j) = none := by simp [lastW]; omega
    rw [z1, Option.none_or] at e
    rw [e1]
    by_cases c : i = j
    · subst c
      have z2 : lastW [(2 * i + 1, b)] (2 * i + 1) = some b := by simp [lastW]
      rw [z2]
      refine ⟨b, rfl, ?_⟩
      cases e2 : lastW t (2 * i) with
      | some x => rw [e2] at e; simp at e; subst e; exact (h.mem _ (lastW_mem e2)).2
      | none => rw [e2] at e; simp at e; subst e; exact h.le
    · have z2 : lastW [(2 * i + 1, b)] (2 * j + 1) = none := by simp [lastW]; omega
      rw [z2, Option.none_or]
      rw [if_neg (by omega), Option.or_none] at e
      obtain ⟨b', h3, h4⟩ := ih j a' e
      exact ⟨b', by rw [h3]; rfl, h4⟩
  | app t t' h h' ih ih' =>
    intro j a e
    rw [lastW_append] at e ⊢
    cases e1 : lastW t' (2 * j) with
    | some x =>
      rw [e1] at e; simp at e; subst e
      obtain ⟨b, h3, h4⟩ := ih' j _ e1
      exact ⟨b, by rw [h3]; rfl, h4⟩
    | none =>
      rw [e1, Option.none_or] at e
      obtain ⟨b, h3, h4⟩ := ih j a e
      cases e2 : lastW t' (2 * j + 1) with
      | none => exact ⟨b, by rw [h3]; rfl, h4⟩
      | some x =>
        have h5 := (h'.mem _ (lastW_mem e2)).1
        have h6 := (h.mem _ (lastW_mem h3)).2
        exact ⟨x, rfl, by simp only [] at h5 h6; omega⟩
theorem Bal.weak {p q p' q' : Nat} {t : List (Nat × Nat)} (h : Bal p q t) (h1 : p' ≤ p) (h2 : q ≤ q') : Bal p' q' t := by
  have := Bal.app [] _ (.nil (show p' ≤ p from h1)) (Bal.app t [] h (.nil h2))
  simpa using this
/-- the array of places -/
theorem slots_ok {N p : Nat} {t : List (Nat × Nat)} (h : Bal p N t) (nc : Nat) (e : Nat) (hn : 2 ≤ nc) (hp : p ≤ e) (he : e ≤ N) (h0 : lastW t 0 = none) :
    ∀ i, 2 * i + 1 < nc → 0 ≤ (applyT (t ++ [(1, e)]) ((List.replicate nc (-1)).set 0 (p : Int))).getD (2 * i) 0 →
      (applyT (t ++ [(1, e)]) ((List.replicate nc (-1)).set 0 (p : Int))).getD (2 * i) 0 ≤ (applyT (t ++ [(1, e)]) ((List.replicate nc (-1)).set 0 (p : Int))).getD (2 * i + 1) 0 ∧ (applyT (t ++ [(1, e)]) ((List.replicate nc (-1)).set 0 (p : Int))).getD (2 * i + 1) 0 ≤ (N : Int) := by
  intro i hi
  have hl : ((List.replicate nc (-1 : Int)).set 0 (p : Int)).length = nc := by simp
  have g : ∀ k, k < nc → (applyT (t ++ [(1, e)]) ((List.replicate nc (-1)).set 0 (p : Int))).getD k 0 = match lastW (t ++ [(1, e)]) k with | some p => (p : Int) | none => ((List.replicate nc (-1)).set 0 (p : Int)).getD k 0 := fun k hk => by
    rw [List.getD_eq_getElem?_getD, applyT_get _ _ _ (by rw [hl]; exact hk)]; rfl
  rw [g _ (by omega), g _ (by omega)]
  rw [lastW_append, lastW_append]
  have z1 : lastW [(1, e)] (2 * i) = none := by simp [lastW]; omega
  rw [z1, Option.none_or]
  intro hge
  by_cases c : i = 0
  · subst c
    have z2 : lastW [(1, e)] (2 * 0 + 1) = some e := by simp [lastW]
    rw [z2, show 2 * 0 = 0 from rfl, h0]
    have : ((List.replicate nc (-1 : Int)).set 0 (p : Int)).getD 0 0 = p := by
      rw [List.getD_eq_getElem?_getD, List.getElem?_set_self (by simp; omega)]; rfl
    simp only [Option.some_or, this]
    omega
  · have z2 : lastW [(1, e)] (2 * i + 1) = none := by simp [lastW]; omega
    rw [z2, Option.none_or]
    cases h2 : lastW t (2 * i) with
    | some a =>
      obtain ⟨b, h3, h4⟩ := h.pair i a h2
      have h5 := (h.mem _ (lastW_mem h3)).2
      rw [h3]
      simp only [] at h5 ⊢
      omega
    | none =>
      rw [h2] at hge
      have : ((List.replicate nc (-1 : Int)).set 0 (p : Int)).getD (2 * i) 0 = -1 := by
        rw [List.getD_eq_getElem?_getD, List.getElem?_set_ne (by omega), List.getElem?_replicate, if_pos (by omega)]; rfl
      simp only [this] at hge
      omega
end Go.Proofs.YthejepmnnpmdmaaGreatDoor.Sv
end
section
set_option linter.unusedVariables false
set_option linter.unusedSimpArgs false
/- the five searches, as their callers want them -/
namespace Go.Proofs.YthejepmnnpmdmaaGreatDoor.Sv
open Go Go.RowKit Rx
set_option maxRecDepth 100000
theorem Bal.one (i a b : Nat) (h : a ≤ b) : Bal a b [(2 * i, a), (2 * i + 1, b)] := .wrap i a b [] (Nat.le_refl _) (.nil h) (Nat.le_refl _)
theorem bal_p (i p : Nat) (x : Option Bs) : Bal p (p + (ptext x).length) (pcaps (2 * i) p x) := by
  cases x with
  | none => exact .nil (by simp)
  | some r => exact (Bal.one i p (p + 1 + r.length) (by omega)).weak (Nat.le_refl _) (by simp [ptext]; omega)
theorem bal_i (i : Nat) : ∀ (l : List Bs) (p : Nat), Bal p (p + (dots l).length) (icaps (2 * i) p l)
  | [], p => .nil (by simp [dots])
  | r :: l, p => by
    have h := bal_i i l (p + 1 + r.length)
    have := Bal.app _ _ (Bal.one i p (p + 1 + r.length) (by omega)) h
    exact this.weak (Nat.le_refl _) (by simp [dots]; omega)
theorem bal_g (i p : Nat) (c : UInt8) (x : Option (Bs × List Bs)) : Bal p (p + (gtext c x).length) (gcaps (2 * i) p x) := by
  rcases x with _ | ⟨x, l⟩
  · exact .nil (by simp)
  · have h := (bal_i (i + 2) l (p + 1 + x.length)).weak (show p + 1 ≤ p + 1 + x.length by omega) (show p + 1 + x.length + (dots l).length ≤ p + 1 + (x ++ dots l).length by simp; omega)
    have h2 := Bal.wrap (q := p + 1 + (x ++ dots l).length) (i + 1) (p + 1) _ _ (Nat.le_refl _) h (Nat.le_refl _)
    have h3 := Bal.wrap (p := p) (q := p + (gtext c (some (x, l))).length) i p (p + 1 + (x ++ dots l).length) _ (Nat.le_refl _) (h2.weak (show p ≤ p + 1 by omega) (Nat.le_refl _)) (by simp [gtext]; omega)
    simpa [gcaps, Nat.mul_add] using h3
theorem bal_v (i p : Nat) (x : Ver) : Bal p (p + x.text.length) (x.caps (2 * i) p) := by
  have h0 := Bal.one i (x.q0 p) (x.q1 p) (by unfold Ver.q1; omega)
  have h1 := bal_p (i + 1) (x.q1 p) x.p2
  have h2 := bal_p (i + 2) (x.q2 p) x.p3
  have h3 := bal_g (i + 3) (x.q3 p) 45 x.pre
  have h4 := bal_g (i + 6) (x.q4 p) 43 x.meta_
  have h := Bal.app _ _ h0 (Bal.app _ _ h1 (Bal.app _ _ h2 (Bal.app _ _ h3 h4)))
  have h5 := h.weak (show p ≤ x.q0 p by unfold Ver.q0; omega) (show x.q4 p + (gtext 43 x.meta_).length ≤ p + x.text.length by
    unfold Ver.q4 Ver.q3 Ver.q2 Ver.q1 Ver.q0 Ver.text
    split <;> simp <;> omega)
  rw [Ver.caps_eq]
  simpa [Nat.mul_add] using h5
theorem bal_t (i p : Nat) (x : Tm) : Bal p (p + x.text.length) (tcaps (2 * i) p x) := by
  have h0 := Bal.one i p (p + x.op.length) (by omega)
  have hv := bal_v (i + 2) (p + x.op.length + x.blank.length) x.ver
  have h1 := Bal.wrap (p := p + x.op.length) (q := p + x.text.length) (i + 1) (p + x.op.length + x.blank.length) (p + x.text.length) _ (by omega) (hv.weak (Nat.le_refl _) (by simp [Tm.text]; omega)) (Nat.le_refl _)
  have h := Bal.app _ _ h0 h1
  simpa [tcaps, Nat.mul_add] using h
theorem v_slot0 (x : Ver) (p : Nat) : lastW (x.caps 2 p) 0 = none := by
  rw [Ver.caps_eq]
  simp only [lastW, lastW_append]
  rw [lastW_gcaps _ _ (by omega), lastW_gcaps _ _ (by omega), lastW_pcaps, lastW_pcaps]
  rcases x.meta_ with _ | ⟨_, _⟩ <;> rcases x.pre with _ | ⟨_, _⟩ <;> rcases x.p3 with _ | _ <;> rcases x.p2 with _ | _ <;> simp
theorem v_slot0' (x : Ver) (p : Nat) : lastW (x.caps 6 p) 0 = none := by
  rw [Ver.caps_eq]
  simp only [lastW, lastW_append]
  rw [lastW_gcaps _ _ (by omega), lastW_gcaps _ _ (by omega), lastW_pcaps, lastW_pcaps]
  rcases x.meta_ with _ | ⟨_, _⟩ <;> rcases x.pre with _ | ⟨_, _⟩ <;> rcases x.p3 with _ | _ <;> rcases x.p2 with _ | _ <;> simp
theorem t_slot0 (x : Tm) (p : Nat) : lastW (tcaps 2 p x) 0 = none := by
  unfold tcaps
  simp only [lastW, lastW_append]
  rw [v_slot0']
  simp
/-- a piece out of the slots' array is the text's piece -/
theorem pieceI_eq (s : ByteArray) (t : List (Nat × Nat)) (nc p i : Nat) (hi : 1 ≤ i) (hn : 2 * i + 1 < nc) (hb : ∀ a, lastW t (2 * i) = some a → ∃ b, lastW t (2 * i + 1) = some b ∧ a ≤ b) :
    pieceI s (applyT t ((List.replicate nc (-1)).set 0 (p : Int))) i = ⟨(piece s.data.toList t i).toArray⟩ := by
  have hl : (applyT t ((List.replicate nc (-1)).set 0 (p : Int))).length = nc := by rw [applyT_length]; simp
  have g : ∀ k, k < nc → 1 ≤ k → (applyT t ((List.replicate nc (-1)).set 0 (p : Int))).getD k 0 = match lastW t k with | some p => (p : Int) | none => -1 := fun k hk h1 => by
    rw [List.getD_eq_getElem?_getD, applyT_get _ _ _ (by simp; exact hk)]
    have : ((List.replicate nc (-1 : Int)).set 0 (p : Int)).getD k 0 = -1 := by
      rw [List.getD_eq_getElem?_getD, List.getElem?_set_ne (by omega), List.getElem?_replicate, if_pos (by omega)]; rfl
    rw [this]; rfl
  unfold pieceI piece
  rw [hl, g _ (by omega) (by omega), g _ (by omega) (by omega)]
  cases h2 : lastW t (2 * i) with
  | none => simp
  | some a =>
    obtain ⟨b, h3, h4⟩ := hb a h2
    rw [h3, if_pos ⟨by omega, by simp only []; omega⟩]
    simp only [Int.toNat_natCast]
    apply ByteArray.ext
    rw [ByteArray.data_extract]
    apply Array.toList_inj.1
    simp [List.extract_eq_take_drop]
end Go.Proofs.YthejepmnnpmdmaaGreatDoor.Sv
end
section
set_option linter.unusedVariables false
set_option linter.unusedSimpArgs false
/- the five searches, as their callers want them -/
namespace Go.Proofs.YthejepmnnpmdmaaGreatDoor.Sv
open Go Go.RowKit Rx
set_option maxRecDepth 100000
theorem envProg (T : List I) (s : ByteArray) : (envOf T s).prog = tabP T := rfl
/-- a list of terms is taken by the whole check -/
theorem validM {w : World} {R PB IB icap : Nat} {s : ByteArray} (hp : PG w R PB IB icap validT) (hr : RH w R PB 4 1 50 1 24) (hT : Lib.Utf8Tabs 11 12 w) (hs : s.size ≤ 1000)
    {B : Bs} {x : Tm} {l : List (Sep × Tm)} (hB : ∀ y ∈ B, ws y = true) (hx : x.Ok) (hl : LOk l) (ht : s.data.toList = B ++ ltext x l) :
    Calls Tryz.prog 27 #[.pointer (some ⟨R, 0, none⟩), .string s] w fun e w' => e = .returned (.bool true) ∧ Below w.heap.size w w' := by
  obtain ⟨n, hM⟩ := valid_M (txt_env validT s) rfl 0 (Nat.zero_le _)
  have hv := valid_eval hB hx hl _ ht
  have h0 : ¬ s.size < 1 := by
    intro h
    have : s.data.toList.length = 0 := by rw [list_size]; omega
    rw [ht] at this
    obtain ⟨y, r, hy, _⟩ := ver_head hx.ver
    simp [ltext, Tm.text, hy] at this
  refine (tMatchString (sur_of hp hT validT_ok (by decide) hs) hr (by omega) (.emp 2 4) rfl (by decide) hM (fun h => absurd h h0)).mono ?_
  rintro e w' ⟨rfl, hb⟩
  exact ⟨by rw [hv], hb⟩
theorem srch_none {E : Env} {N : Nat} {f : K} (h : ∀ p, f p = none) : ∀ (n p : Nat), srch E N f n p = none := by
  intro n
  induction n with
  | zero => intro p; rfl
  | succ n ih =>
    intro p
    unfold srch
    simp only [h]
    repeat' split
    all_goals first | rfl | exact ih _
/-- a text with no blank ahead of a hyphen has no range -/
theorem rngM {w : World} {R PB IB icap : Nat} {s : ByteArray} (hp : PG w R PB IB icap rngT) (hr : RH w R PB 0 2 42 5 20) (hT : Lib.Utf8Tabs 11 12 w) (hs : s.size ≤ 1000) (h : noWD s.data.toList = true) :
    Calls Tryz.prog 37 #[.pointer (some ⟨R, 0, none⟩), .string s, .int .i64 (-1)] w fun e w' => e = .returned (.slice none 0 0) ∧ Below w.heap.size w w' :=
  tFindAllSub0 (sur_of hp hT rngT_ok (by decide) hs) hr (by omega) _ (show rngT[2]? = some rngT[2] from rfl) (by decide) (by omega) (by omega) (rngS s.data.toList) (fun p hp => rng_M (txt_env rngT s) rfl p (by rw [list_size]; exact hp)) (fun k _ => srch_none (rng_none h) k 0)
end Go.Proofs.YthejepmnnpmdmaaGreatDoor.Sv
end
section
set_option linter.unusedVariables false
set_option linter.unusedSimpArgs false
/- all terms of a list are found -/
namespace Go.Proofs.YthejepmnnpmdmaaGreatDoor.Sv
open Go Go.RowKit Rx
set_option maxRecDepth 100000
abbrev Ms := List (Nat × List (Nat × Nat))
def mAt (p : Nat) (x : Tm) : Nat × List (Nat × Nat) := (p, tcaps 2 p x ++ [(1, p + x.text.length)])
def msT : Nat → List (Sep × Tm) → Ms
  | _, [] => []
  | p, y :: l => mAt (p + skip y) (found y) :: msT (p + skip y + (found y).text.length) l
theorem t_slot1 (x : Tm) (p : Nat) : lastW (tcaps 2 p x) 1 = none := by
  cases h : lastW (tcaps 2 p x) 1 with
  | none => rfl
  | some a =>
    exfalso
    have hg : ∀ (t : List (Nat × Nat)), (∀ y ∈ t, 2 ≤ y.1) → lastW t 1 = none := by
      intro t ht
      cases h : lastW t 1 with
      | none => rfl
      | some a => have := ht _ (lastW_mem h); simp at this
    have hi : ∀ (b p : Nat) (l : List Bs), 2 ≤ b → ∀ y ∈ icaps b p l, 2 ≤ y.1 := by
      intro b p l hb
      induction l generalizing p with
      | nil => intro y hy; cases hy
      | cons r l ih =>
        intro y hy
        simp only [icaps, List.mem_cons] at hy
        rcases hy with rfl | rfl | hy
        · exact hb
        · show 2 ≤ b + 1; omega
        · exact ih _ y hy
    have hp : ∀ (b p : Nat) (x : Option Bs), 2 ≤ b → ∀ y ∈ pcaps b p x, 2 ≤ y.1 := by
      intro b p x hb y hy
      cases x with
      | none => cases hy
      | some r =>
        simp only [pcaps, List.mem_cons, List.not_mem_nil, or_false] at hy
        rcases hy with rfl | rfl
        · exact hb
        · show 2 ≤ b + 1; omega
    have hgc : ∀ (b p : Nat) (x : Option (Bs × List Bs)), 2 ≤ b → ∀ y ∈ gcaps b p x, 2 ≤ y.1 := by
      intro b p x hb y hy
      rcases x with _ | ⟨x, l⟩
      · cases hy
      · simp only [gcaps, List.mem_cons, List.mem_append, List.not_mem_nil, or_false] at hy
        rcases hy with rfl | rfl | hy | rfl | rfl
        · exact hb
        · show 2 ≤ b + 2; omega
        · exact hi _ _ _ (by omega) y hy
        · show 2 ≤ b + 3; omega
        · show 2 ≤ b + 1; omega
    have : lastW (tcaps 2 p x) 1 = none := hg _ (by
      intro y hy
      unfold tcaps at hy
      rw [Ver.caps_eq] at hy
      simp only [List.mem_cons, List.mem_append, List.not_mem_nil, or_false] at hy
      rcases hy with rfl | rfl | rfl | (rfl | rfl | hy | hy | hy | hy) | rfl
      any_goals (show 2 ≤ _; omega)
      · exact hp _ _ _ (by omega) y hy
      · exact hp _ _ _ (by omega) y hy
      · exact hgc _ _ _ (by omega) y hy
      · exact hgc _ _ _ (by omega) y hy)
    rw [this] at h; cases h
theorem mAt_slots (p : Nat) (x : Tm) : lastW (mAt p x).2 1 = some (p + x.text.length) ∧ lastW (mAt p x).2 0 = none := by
  unfold mAt
  simp only [lastW_append]
  rw [t_slot0]
  simp [lastW]
theorem tm_pos {x : Tm} (h : x.Ok) : 0 < x.text.length := by
  obtain ⟨y, r, hy, _⟩ := ver_head h.ver
  simp [Tm.text, hy]
  omega
theorem text_len {x : Sep × Tm} (h0 : x.2.op = [] → x.2.blank = []) : (x.1.text ++ x.2.text).length = skip x + (found x).text.length := by
  rw [text_found h0, List.length_append]; rfl
theorem msT_ok {E : Env} {s : Bs} (T : Txt E s) : ∀ (l : List (Sep × Tm)) (p : Nat), s.drop p = ltail l → p ≤ s.length → LOk l → MsOk E s.length (findS s) p (msT p l)
  | [], p, h, hp, _ => by
    have : p = s.length := by
      have := congrArg List.length h
      simp [ltail] at this; omega
    subst this
    exact fun k _ => find_end T
  | y :: l, p, h, hp, hl => by
    obtain ⟨h1, h2, h0⟩ := hl y (by simp)
    have hlen := text_len h0
    have h3 : s.drop p = (y.1.text ++ y.2.text) ++ ltail l := by rw [h]; rfl
    have h4 := drop_add h3
    rw [hlen] at h4
    have hN := congrArg List.length h3
    rw [List.length_drop, List.length_append, hlen] at hN
    have hpos := tm_pos (found_ok h1 h2)
    refine ⟨fun k hk => ?_, p + skip y + (found y).text.length, (mAt_slots _ _).1, ⟨(mAt_slots _ _).2, by show p + skip y ≤ _; omega⟩, by omega, by omega, ?_⟩
    · have := find_next (n := k - (skip y + 1)) T h hl
      rwa [show k - (skip y + 1) + skip y + 1 = k by omega] at this
    · exact msT_ok T l _ (by rw [← h4]; congr 1; omega) (by omega) (fun z hz => hl z (by simp [hz]))
theorem extract_eq {s : ByteArray} {A B C : Bs} {a b : Nat} (h : s.data.toList = A ++ (B ++ C)) (ha : a = A.length) (hb : b = a + B.length) : s.extract a b = ⟨B.toArray⟩ := by
  apply ByteArray.ext
  rw [ByteArray.data_extract]
  apply Array.toList_inj.1
  rw [Array.toList_extract, List.extract_eq_take_drop, h]
  subst hb ha
  simp
theorem drop_split {s : Bs} {p : Nat} {r : Bs} (h : s.drop p = r) (hp : p ≤ s.length) : s = s.take p ++ r ∧ (s.take p).length = p := by
  subst h
  exact ⟨(List.take_append_drop p s).symm, by simp [hp]⟩
theorem msT_text {s : ByteArray} : ∀ (l : List (Sep × Tm)) (p : Nat), s.data.toList.drop p = ltail l → p ≤ s.size → LOk l → (msT p l).map (mtext s) = l.map (fun y => ⟨(found y).text.toArray⟩)
  | [], p, h, hp, _ => rfl
  | y :: l, p, h, hp, hl => by
    obtain ⟨h1, h2, h0⟩ := hl y (by simp)
    have hlen := text_len h0
    have h3 : s.data.toList.drop p = gap y ++ ((found y).text ++ ltail l) := by
      rw [h, ← List.append_assoc, ← text_found h0]; rfl
    have hN := congrArg List.length h3
    rw [List.length_drop, List.length_append, List.length_append, list_size] at hN
    have hsk : skip y = (gap y).length := rfl
    have h4 := drop_add h3
    have h5 := drop_add h4
    simp only [msT, List.map_cons]
    congr 1
    · unfold mtext
      rw [(mAt_slots _ _).1]
      obtain ⟨e1, e2⟩ := drop_split h4 (by rw [list_size]; omega)
      refine extract_eq e1 (by rw [e2]; rfl) rfl
    · exact msT_text l _ h5 (by omega) (fun z hz => hl z (by simp [hz]))
theorem msT_length : ∀ (l : List (Sep × Tm)) (p : Nat), (msT p l).length = l.length
  | [], p => rfl
  | y :: l, p => by simp [msT, msT_length l]
theorem findM {w : World} {R PB IB icap : Nat} {s : ByteArray} (hp : PG w R PB IB icap findT) (hr : RH w R PB 0 1 24 1 11) (hT : Lib.Utf8Tabs 11 12 w) (hs : s.size ≤ 1000)
    {x : Tm} {l : List (Sep × Tm)} (hx : x.Ok) (hl : LOk l) (ht : s.data.toList = ltext x l) :
    Calls Tryz.prog 30 #[.pointer (some ⟨R, 0, none⟩), .string s, .int .i64 (-1)] w fun e w' => ∃ v, e = .returned v ∧ w'.ownsRow w.heap.size 9 1 v (l.length + 1) ((x.text :: l.map fun y => (found y).text).map fun t => Value.string ⟨t.toArray⟩) ∧ Below w.heap.size w w' := by
  have T := txt_env findT s
  have hd : s.data.toList.drop (0 + x.text.length) = ltail l := by rw [ht]; simp [ltext]
  have hxp := tm_pos hx
  have hsz : x.text.length + (ltail l).length = s.size := by
    rw [← list_size, ht]; simp [ltext]
  have hll : l.length < 1001 := by
    have : ∀ (l : List (Sep × Tm)), LOk l → l.length ≤ (ltail l).length := by
      intro l
      induction l with
      | nil => intro _; simp
      | cons y l ih =>
        intro hl
        have h1 := ih (fun z hz => hl z (by simp [hz]))
        have h2 := tm_pos (hl y (by simp)).2.1
        simp [ltail] at h1 ⊢
        omega
    have := this l hl
    omega
  have hfe := find_eval (s := s.data.toList) (p := 0) (l := ltail l) hx (by rw [ht]; simp [ltext]) (ltail_stop hl)
  have hms : MsOk (envOf findT s) s.size (findS s.data.toList) 0 (mAt 0 x :: msT (0 + x.text.length) l) := by
    rw [← list_size s]
    refine ⟨fun k hk => ?_, 0 + x.text.length, (mAt_slots _ _).1, ⟨(mAt_slots _ _).2, by show 0 ≤ _; omega⟩, by omega, by rw [list_size]; omega, msT_ok T l _ hd (by rw [list_size]; omega) hl⟩
    rw [show k = (k - 1) + 1 by omega]
    exact srch_yes (Nat.zero_le _) hfe
  have h := tFindAll (sur_of hp hT findT_ok (by decide) hs) hr (by omega) _ (show findT[1]? = some findT[1] from rfl) (by decide) (by omega) (findS s.data.toList) (fun p hp => find_M T rfl p (by rw [list_size]; exact hp)) _ hms (fun h => by omega) (by simp [msT_length]; omega)
  refine h.mono ?_
  rintro e w' ⟨v, rfl, h1, h2, h3⟩
  refine ⟨v, rfl, ?_, h3⟩
  have e1 : (mAt 0 x :: msT (0 + x.text.length) l).map (mtext s) = (x.text :: l.map fun y => (found y).text).map fun t => (⟨t.toArray⟩ : ByteArray) := by
    simp only [List.map_cons]
    rw [msT_text l _ hd (by omega) hl]
    congr 1
    · unfold mtext
      rw [(mAt_slots _ _).1]
      exact extract_eq (A := []) (B := x.text) (C := ltail l) (by rw [ht]; rfl) rfl rfl
    · simp
  rw [e1] at h1
  simpa [msT_length, Function.comp_def] using h1
end Go.Proofs.YthejepmnnpmdmaaGreatDoor.Sv
end
section
set_option linter.unusedVariables false
set_option linter.unusedSimpArgs false
/- one term's pieces; one version's pieces -/
namespace Go.Proofs.YthejepmnnpmdmaaGreatDoor.Sv
open Go Go.RowKit Rx
set_option maxRecDepth 100000
def bytesOf (b : Bs) : ByteArray := ⟨b.toArray⟩
/-- a row of pieces in memory -/
def Pieces (w' : World) (base k : Nat) (f : Nat → ByteArray) (e : Ending) : Prop := ∃ b, e = .returned (.slice (some ⟨b, 0, none⟩) k k) ∧ base ≤ b ∧ w'.heap[b]? = some (.cells (strs ((List.range k).map f)) 9 (0, 0))
theorem conM {w : World} {R PB IB icap : Nat} {s : ByteArray} (hp : PG w R PB IB icap conT) (hr : RH w R PB 4 1 24 1 11) (hT : Lib.Utf8Tabs 11 12 w) (hs : s.size ≤ 1000)
    {L RR : Bs} {x : Tm} (hx : x.Ok) (ht : s.data.toList = L ++ (x.text ++ RR)) (hL : ∀ y ∈ L, ws y = true) (hR : ∀ y ∈ RR, ws y = true) (h0 : x.op = [] → x.blank = []) :
    Calls Tryz.prog 45 #[.pointer (some ⟨R, 0, none⟩), .string s] w fun e w' => Below w.heap.size w w' ∧ ∃ f, Pieces w' w.heap.size 12 f e ∧
      f 1 = bytesOf x.op ∧ f 2 = bytesOf x.ver.text ∧ f 3 = bytesOf x.ver.p1 ∧ f 4 = bytesOf (ptext x.ver.p2) ∧ f 5 = bytesOf (ptext x.ver.p3) ∧ f 6 = bytesOf (gtext 45 x.ver.pre) := by
  have T := txt_env conT s
  obtain ⟨n, hM⟩ := con_M T rfl 0 (Nat.zero_le _)
  have hv := con_eval hx ht hL hR h0
  rw [hv] at hM
  have hxp := tm_pos hx
  have hsz : L.length + (x.text.length + RR.length) = s.size := by rw [← list_size, ht]; simp
  have hb : Bal 0 s.size (tcaps 2 L.length x) := (bal_t 1 L.length x).weak (Nat.zero_le _) (by omega)
  have hd : s.data.toList.drop L.length = x.text ++ RR := by rw [ht]; simp
  rw [list_size] at hM
  generalize hC : applyT (tcaps 2 L.length x ++ [(1, s.size)]) ((List.replicate 24 (-1)).set 0 0) = C
  have hlC : C.length = 24 := by rw [← hC, applyT_length]; simp
  have hok := slots_ok hb 24 s.size (by omega) (Nat.zero_le _) (Nat.le_refl _) (t_slot0 _ _)
  refine (tFindSub (sur_of hp hT conT_ok (by decide) hs) hr (by omega) _ (show conT[1]? = some conT[1] from rfl) (by decide) (by omega) (by omega) hM (fun h => by omega) C (fun t ht => by rw [← hC]; injection ht with ht; rw [ht]) hlC (by rw [← hC]; exact hok) (by decide)).mono ?_
  rintro e w' ⟨hbel, b, rfl, h1, h2⟩
  refine ⟨hbel, pieceI s C, ⟨b, rfl, h1, h2⟩, ?_⟩
  have hpair : ∀ i, 1 ≤ i → ∀ a, lastW (tcaps 2 L.length x ++ [(1, s.size)]) (2 * i) = some a → ∃ b, lastW (tcaps 2 L.length x ++ [(1, s.size)]) (2 * i + 1) = some b ∧ a ≤ b := fun i hi a ha => by
    rw [lastW_append] at ha ⊢
    have z1 : lastW [(1, s.size)] (2 * i) = none := by simp [lastW]; omega
    have z2 : lastW [(1, s.size)] (2 * i + 1) = none := by simp [lastW]; omega
    rw [z1, Option.none_or] at ha
    rw [z2, Option.none_or]
    exact hb.pair i a ha
  have hpc : ∀ i, 1 ≤ i → 2 * i + 1 < 24 → pieceI s C i = bytesOf (piece s.data.toList (tcaps 2 L.length x ++ [(1, s.size)]) i) := fun i hi hn => by
    rw [← hC]
    exact pieceI_eq s _ 24 0 i hi hn (hpair i hi)
  obtain ⟨p1, p2, p3, p4, p5, p6⟩ := term_pieces (e := s.size) hd
  exact ⟨by rw [hpc 1 (by omega) (by omega), p1], by rw [hpc 2 (by omega) (by omega), p2], by rw [hpc 3 (by omega) (by omega), p3], by rw [hpc 4 (by omega) (by omega), p4], by rw [hpc 5 (by omega) (by omega), p5], by rw [hpc 6 (by omega) (by omega), p6]⟩
theorem looseM {w : World} {R PB IB icap : Nat} {s : ByteArray} (hp : PG w R PB IB icap looseT) (hr : RH w R PB 4 1 20 1 9) (hT : Lib.Utf8Tabs 11 12 w) (hs : s.size ≤ 1000)
    {x : Ver} (hx : x.Ok dB iB) (ht : s.data.toList = x.text) :
    Calls Tryz.prog 45 #[.pointer (some ⟨R, 0, none⟩), .string s] w fun e w' => Below w.heap.size w w' ∧ ∃ f, Pieces w' w.heap.size 10 f e ∧
      f 1 = bytesOf x.p1 ∧ f 2 = bytesOf (ptext x.p2) ∧ f 3 = bytesOf (ptext x.p3) ∧ f 5 = bytesOf (gpre x.pre) ∧ f 8 = bytesOf (gpre x.meta_) := by
  have T := txt_env looseT s
  obtain ⟨n, hM⟩ := loose_M T rfl 0 (Nat.zero_le _)
  have hv := loose_eval hx
  rw [ht, hv] at hM
  have hsz : x.text.length = s.size := by rw [← list_size, ht]
  have hpos : 0 < s.size := by
    obtain ⟨y, r, hy, _⟩ := ver_head hx
    rw [← hsz, hy]; simp
  have hb : Bal 0 s.size (x.caps 2 0) := (bal_v 1 0 x).weak (Nat.zero_le _) (by omega)
  rw [hsz] at hM
  generalize hC : applyT (x.caps 2 0 ++ [(1, s.size)]) ((List.replicate 20 (-1)).set 0 0) = C
  have hlC : C.length = 20 := by rw [← hC, applyT_length]; simp
  have hok := slots_ok hb 20 s.size (by omega) (Nat.zero_le _) (Nat.le_refl _) (v_slot0 _ _)
  refine (tFindSub (sur_of hp hT looseT_ok (by decide) hs) hr (by omega) _ (show looseT[1]? = some looseT[1] from rfl) (by decide) (by omega) (by omega) hM (fun h => by omega) C (fun t ht => by rw [← hC]; injection ht with ht; rw [ht]) hlC (by rw [← hC]; exact hok) (by decide)).mono ?_
  rintro e w' ⟨hbel, b, rfl, h1, h2⟩
  refine ⟨hbel, pieceI s C, ⟨b, rfl, h1, h2⟩, ?_⟩
  have hpair : ∀ i, 1 ≤ i → ∀ a, lastW (x.caps 2 0 ++ [(1, s.size)]) (2 * i) = some a → ∃ b, lastW (x.caps 2 0 ++ [(1, s.size)]) (2 * i + 1) = some b ∧ a ≤ b := fun i hi a ha => by
    rw [lastW_append] at ha ⊢
    have z1 : lastW [(1, s.size)] (2 * i) = none := by simp [lastW]; omega
    have z2 : lastW [(1, s.size)] (2 * i + 1) = none := by simp [lastW]; omega
    rw [z1, Option.none_or] at ha
    rw [z2, Option.none_or]
    exact hb.pair i a ha
  have hpc : ∀ i, 1 ≤ i → 2 * i + 1 < 20 → pieceI s C i = bytesOf (piece x.text (x.caps 2 0 ++ [(1, s.size)]) i) := fun i hi hn => by
    rw [← hC, ← ht]
    exact pieceI_eq s _ 20 0 i hi hn (hpair i hi)
  obtain ⟨p1, p2, p3, p4, p5, p6⟩ := loose_pieces x s.size
  exact ⟨by rw [hpc 1 (by omega) (by omega), p1], by rw [hpc 2 (by omega) (by omega), p2], by rw [hpc 3 (by omega) (by omega), p3], by rw [hpc 5 (by omega) (by omega), p5], by rw [hpc 8 (by omega) (by omega), p6]⟩
end Go.Proofs.YthejepmnnpmdmaaGreatDoor.Sv
end
section
set_option linter.unusedVariables false
set_option linter.unusedSimpArgs false
/- small functions of the constraints' text -/
namespace Go.Proofs.YthejepmnnpmdmaaGreatDoor.Sv
open Go Go.RowKit Rx
set_option maxRecDepth 100000
theorem bytesOf_toList (b : Bs) : (bytesOf b).toList = b := ByteArray.toList_mk b
theorem bytesOf_size (b : Bs) : (bytesOf b).size = b.length := by simp [bytesOf, ByteArray.size]
theorem bytesOf_data (b : Bs) : (bytesOf b).data.toList = b := rfl
theorem tIsX (s : ByteArray) (w : World) : Calls Tryz.prog 46 #[.string s] w fun e w' => e = .returned (.bool (s.toList == [120] || s.toList == [42] || s.toList == [88])) ∧ w' = w := by
  generalize h1 : (s.toList == [120]) = b1
  generalize h2 : (s.toList == [42]) = b2
  generalize h3 : (s.toList == [88]) = b3
  go_enter Tryz.func46, Tryz.ntmps46
  cases b1 <;> cases b2 <;> cases b3
  all_goals (go_wp2; go_ret; exact ⟨rfl, rfl⟩)
theorem tTrimDot (b : Bs) (hb : b = [] ∨ ∃ r, b = 46 :: r) (hs : b.length ≤ 1000) (w : World) : Calls Tryz.prog 47 #[.string (bytesOf b), .string ⟨#[46]⟩] w fun e w' => e = .returned (.string (bytesOf b.tail)) ∧ w' = w := by
  rcases hb with rfl | ⟨r, rfl⟩
  · go_enter Tryz.func47, Tryz.ntmps47
    go_wp2_with go_in
    go_ret
    exact ⟨rfl, rfl⟩
  · have h1 : (bytesOf (46 :: r)).size = r.length + 1 := by rw [bytesOf_size]; rfl
    have h2 : ((bytesOf (46 :: r)).extract 0 1).toList = [46] := by rw [ByteArray.toList_eq]; simp [bytesOf]
    have h3 : (bytesOf (46 :: r)).extract 1 (r.length + 1) = bytesOf r := by
      apply ByteArray.ext
      rw [ByteArray.data_extract]
      apply Array.toList_inj.1
      simp [bytesOf]
    have h4 : (1 : Int) ≤ (r.length : Int) + 1 := by omega
    generalize bytesOf (46 :: r) = s at *
    go_enter Tryz.func47, Tryz.ntmps47
    go_wp2_with go_in
    go_ret
    exact ⟨rfl, rfl⟩
theorem u76 : Tryz.prog.underlying 77 = some (.slice 29) := by kernel_rfl
theorem q76 (w : World) : (binOp .eql 77 (.slice none 0 0) (.slice none 0 0)).run Tryz.prog w = .ok (.bool true) w := by
  exact Lib.run_eql_slice_nil w 77 29 none 0 0 0 0 u76
theorem tRewrite (s : ByteArray) (w : World) (hs : s.size ≤ 1000) (hT : Lib.Utf8Tabs 11 12 w) (h : noWD s.data.toList = true) : Calls Tryz.prog 24 #[.string s] w fun e w' => e = .returned (.string s) ∧ Below w.heap.size w w' := by
  have H := Lib.hid (fun (w : World) (R PB IB icap : Nat) (hp : PG w R PB IB icap rngT) (hr : RH w R PB 0 2 42 5 20) (hT : Lib.Utf8Tabs 11 12 w) => rngM (s := s) hp hr hT hs h)
  have q := q76
  have HT := Lib.hid hT
  clear h hT
  go_enter Tryz.func24, Tryz.ntmps24
  go_wp2_with (first
    | (go_at_call 36; refine (t52 w).mono ?_; rintro e w1 ⟨R, PB, IB, icap, rfl, hp, hr, hb⟩; have HP := Lib.hid (And.intro hp (And.intro hr (And.intro (Utf8Tabs_below HT.out hb) hb))); clear hp hr hb)
    | (go_at_call 37; refine (H.out _ _ _ _ _ HP.out.1 HP.out.2.1 HP.out.2.2.1).mono ?_; rintro e w2 ⟨rfl, hb2⟩; have HB := Lib.hid (HP.out.2.2.2.trans (hb2.mono HP.out.2.2.2.size)); clear hb2))
  go_ret
  exact ⟨rfl, HB.out⟩
end Go.Proofs.YthejepmnnpmdmaaGreatDoor.Sv
end
section
set_option linter.unusedVariables false
set_option linter.unusedSimpArgs false
/- the first place of a text in a text; a text parted at two bars -/
namespace Go.Proofs.YthejepmnnpmdmaaGreatDoor.Sv
open Go Go.RowKit Rx
set_option maxRecDepth 100000
/-- where a text stands first in another -/
def First (s sub : ByteArray) : Option Nat → Prop
  | none => ∀ i, i + sub.size ≤ s.size → ((s.extract i (i + sub.size)).toList == sub.toList) = false
  | some j => j + sub.size ≤ s.size ∧ ((s.extract j (j + sub.size)).toList == sub.toList) = true ∧ ∀ i, i < j → ((s.extract i (i + sub.size)).toList == sub.toList) = false
def idx : Option Nat → Int
  | none => -1
  | some j => j
set_option maxHeartbeats 2000000 in
theorem t55 (s sub : ByteArray) (j : Option Nat) (hj : First s sub j) (hs : s.size ≤ 1000000) (hs2 : sub.size ≤ 1000000) (h0 : 0 < sub.size) (w : World) : Calls Tryz.prog 39 #[.string s, .string sub] w fun e w' => e = .returned (.int .i64 (idx j)) ∧ w' = w := by
  have HJ := Lib.hid hj
  clear hj
  go_enter Tryz.func39, Tryz.ntmps39
  go_wp2
  go_loopw [5] (fun iv wr => wr = w ∧ ∃ i : Nat, iv = .int .i64 i ∧ i ≤ s.size ∧ ∀ k, j = some k → i ≤ k) (fun iv _ => 2000000 - (intOf iv).toNat)
  case atStart => exact ⟨rfl, 0, rfl, Nat.zero_le _, fun k _ => Nat.zero_le _⟩
  case round =>
    obtain ⟨rfl, i, rfl, hi, hk⟩ := hrel
    by_cases c : i + sub.size ≤ s.size
    · have c1 : (i : Int) + (sub.size : Int) ≤ (s.size : Int) := by omega
      have c2 : (i : Int) ≤ (i : Int) + (sub.size : Int) := by omega
      have c3 : ((i : Int) + (sub.size : Int)).toNat = i + sub.size := by omega
      by_cases d : ((s.extract i (i + sub.size)).toList == sub.toList) = true
      · go_wp2
        go_ret
        refine ⟨?_, rfl⟩
        cases j with
        | none => have := HJ.out i c; rw [d] at this; cases this
        | some k =>
          have h1 := hk k rfl
          have : ¬ i < k := fun h => by have := HJ.out.2.2 i h; rw [d] at this; cases this
          have : i = k := by omega
          subst this; rfl
      · have d : ((s.extract i (i + sub.size)).toList == sub.toList) = false := by simpa using d
        go_wp2
        refine ⟨⟨trivial, i + 1, by simp, by omega, fun k e => ?_⟩, by simp only [intOf]; omega⟩
        subst e
        have h1 := hk k rfl
        have : i ≠ k := fun e => by subst e; have := HJ.out.2.1; rw [d] at this; cases this
        omega
    · have c1 : ¬ (i : Int) + (sub.size : Int) ≤ (s.size : Int) := by omega
      go_wp2
      go_ret
      refine ⟨?_, rfl⟩
      cases j with
      | none => rfl
      | some k => exfalso; have h1 := hk k rfl; have := HJ.out.1; omega
/-- a text parted at a separator -/
inductive Parted (sep : ByteArray) : ByteArray → List ByteArray → Prop
  | last (s : ByteArray) (h : First s sep none) : Parted sep s [s]
  | more (s : ByteArray) (j : Nat) (l : List ByteArray) (h : First s sep (some j)) (h' : Parted sep (s.extract (j + sep.size) s.size) l) : Parted sep s (s.extract 0 j :: l)
theorem own_fin {w wr w2 : World} {t : TypeId} {n : Nat} {i : Nat} {ov : Value} {xs : List Value} {o : Obj} (h : wr.ownsRow w.heap.size t n ov i xs) (hb : Below w.heap.size w wr) (hg : (wr.alloc o).grownBy w2 ov.ownBlock) : Below w.heap.size w w2 := by
  have hA : Below w.heap.size w (wr.alloc o) := hb.alloc hb.size _
  refine hA.grown hg (by have := hb.size; simp; omega) (fun k hk => ?_)
  rcases h.2 with ⟨rfl, _⟩ | ⟨g, cap, cur, rfl, hle, _⟩
  · cases hk
  · have : g = k := by simpa [Value.ownBlock] using hk
    omega
theorem Parted.ne {sep s : ByteArray} {l : List ByteArray} (h : Parted sep s l) : l ≠ [] := by cases h <;> simp
set_option maxHeartbeats 2000000 in
theorem t38 (s sep : ByteArray) (L : List ByteArray) (hL : Parted sep s L) (hs : s.size ≤ 1000000) (hs2 : sep.size ≤ 1000) (h0 : 0 < sep.size) (w : World) :
    Calls Tryz.prog 25 #[.string s, .string sep] w fun e w' => ∃ v, e = .returned v ∧ w'.ownsRow w.heap.size 9 1 v L.length (L.map Value.string) ∧ Below w.heap.size w w' := by
  obtain ⟨i0, hi, hz0, hz1, hz2⟩ := info_parts info9
  have HI := Lib.hid (And.intro hi (And.intro hz0 (And.intro hz1 hz2)))
  have HL := Lib.hid hL
  clear hi hz0 hz1 hz2 hL
  go_enter Tryz.func25, Tryz.ntmps25
  go_wp2
  go_loopw [0, 5] (fun sv ov wr => ∃ (r : ByteArray) (D R : List ByteArray), sv = .string r ∧ Hid (r.size + D.length ≤ s.size ∧ D ++ R = L ∧ Parted sep r R ∧ wr.ownsRow w.heap.size 9 1 ov D.length (D.map Value.string) ∧ Below w.heap.size w wr)) (fun sv _ _ => (match sv with | .string r => r.size | _ => 0))
  case atStart => exact ⟨s, [], L, rfl, Lib.hid ⟨by simp, rfl, HL.out, World.ownsRow_nil w w.heap.size 9 1, Below.refl _ _⟩⟩
  case round =>
    obtain ⟨r, D, R, rfl, HR⟩ := hrel
    have hP := HR.out.2.2.1
    have hrs : r.size ≤ 1000000 := by have := HR.out.1; omega
    cases hP with
    | last _ h =>
      have HX := Lib.hid (t55 r sep none h hrs (by omega) h0)
      clear h
      go_wp2_with (first
        | (go_at_call 39; refine (HX.out _).mono ?_; rintro e w1 ⟨rfl, hw⟩; subst hw; have hix : idx none = -1 := rfl; rw [hix])
        | ((with_reducible refine wpList_append_own (o := ⟨some 15, _, _, _, _, _⟩) _ ?h1 (.tmp 12) (.tmp 14) 29 ?h2 w.heap.size 9 i0 (.string ⟨#[]⟩) 1 16 Tryz.underlying29 HI.out.1 HI.out.2.1 HI.out.2.2.1 HI.out.2.2.2 rfl (by decide) _ D.length _ ?h3 (HR.out.2.2.2.1.alloc _) ⟨w1.heap.size, 0, none⟩ 1 1 [.string r] ?h4 rfl ?h5 ?h6 ?h7 ?h8 ?h9 ?_); (case h1 => rfl); (case h2 => rfl); (case h3 => rfl); (case h4 => rfl); (case h5 => exact cell_one_new _ _ _); (case h6 => simp [Value.oneCell']); (case h7 => (have := HR.out.1; unfold maxLen; omega)); (case h8 => (have := HR.out.1; omega)); (case h9 => (have := HR.out.2.2.2.2.size; simp; omega)); intro v' w2 ho' hg' _; have HN := Lib.hid (And.intro ho' (own_fin HR.out.2.2.2.1 HR.out.2.2.2.2 hg')); clear ho' hg'))
      go_ret
      obtain ⟨n1, n2⟩ := HN.out
      have e1 : L = D ++ [r] := HR.out.2.1.symm
      refine ⟨_, rfl, ?_, n2⟩
      rw [e1]
      simpa using n1
    | more _ j l h h' =>
      have HX := Lib.hid (t55 r sep (some j) h hrs (by omega) h0)
      have HH := Lib.hid (And.intro h h')
      have k1 : j + sep.size ≤ r.size := h.1
      have k2 : (j : Int) + (sep.size : Int) ≤ (r.size : Int) := by omega
      have k3 : (j : Int) ≤ (r.size : Int) := by omega
      have k4 : ((j : Int) + (sep.size : Int)).toNat = j + sep.size := by omega
      have k5 : ¬ (j : Int) < 0 := by omega
      clear h h'
      go_wp2_with (first
        | (go_at_call 39; refine (HX.out _).mono ?_; rintro e w1 ⟨rfl, hw⟩; subst hw; have hix : idx (some j) = (j : Int) := rfl; rw [hix])
        | ((with_reducible refine wpList_append_own (o := ⟨some 21, _, _, _, _, _⟩) _ ?h1 (.tmp 16) (.tmp 20) 29 ?h2 w.heap.size 9 i0 (.string ⟨#[]⟩) 1 16 Tryz.underlying29 HI.out.1 HI.out.2.1 HI.out.2.2.1 HI.out.2.2.2 rfl (by decide) _ D.length _ ?h3 (HR.out.2.2.2.1.alloc _) ⟨w1.heap.size, 0, none⟩ 1 1 [.string (r.extract 0 j)] ?h4 rfl ?h5 ?h6 ?h7 ?h8 ?h9 ?_); (case h1 => rfl); (case h2 => rfl); (case h3 => rfl); (case h4 => rfl); (case h5 => exact cell_one_new _ _ _); (case h6 => simp [Value.oneCell']); (case h7 => (have := HR.out.1; unfold maxLen; omega)); (case h8 => (have := HR.out.1; omega)); (case h9 => (have := HR.out.2.2.2.2.size; simp; omega)); intro v' w2 ho' hg' _; have HN := Lib.hid (And.intro ho' (own_fin HR.out.2.2.2.1 HR.out.2.2.2.2 hg')); clear ho' hg'))
      obtain ⟨n1, n2⟩ := HN.out
      refine ⟨⟨_, D ++ [r.extract 0 j], l, rfl, Lib.hid ⟨?_, ?_, HH.out.2, by simpa using n1, n2⟩⟩, ?_⟩
      · have := HR.out.1; simp; omega
      · rw [← HR.out.2.1]; simp
      · simp only []; simp; omega
end Go.Proofs.YthejepmnnpmdmaaGreatDoor.Sv
end
section
namespace Go.Proofs
open Go.Shelf
def Tryz.laysPu14_ren : Go.Shelf.Ren := ⟨fun | 14 => 67 | 16 => 79 | 17 => 80 | 19 => 89 | 20 => 90 | 21 => 91 | 22 => 92 | 23 => 93 | 24 => 94 | 25 => 102 | 27 => 103 | 26 => 28 | 28 => 106 | 29 => 107 | 30 => 108 | 31 => 109 | 32 => 110 | 33 => 111 | 35 => 113 | 34 => 112 | 36 => 114 | 37 => 115 | 38 => 116 | 39 => 117 | 40 => 118 | n => n, fun | 9 => 9 | 3 => 3 | 22 => 23 | 24 => 42 | 25 => 128 | 4 => 4 | 34 => 162 | 5 => 5 | 36 => 75 | 37 => 27 | 0 => 0 | 39 => 164 | 21 => 21 | 44 => 178 | 47 => 185 | 50 => 100 | 48 => 98 | 2 => 2 | 52 => 187 | 55 => 190 | 59 => 193 | 60 => 92 | 20 => 20 | 61 => 194 | 65 => 198 | 66 => 199 | 67 => 200 | n => n, fun | 0 => 9 | 1 => 10 | 2 => 13 | 3 => 14 | 4 => 15 | n => n⟩
theorem Tryz.laysPu14 : Go.Proofs.LaysPu.n14 Tryz.prog Tryz.laysPu14_ren := {
  mixed := by kernel_rfl
  f14 := Tryz.func67.trans (congrArg some (by kernel_rfl))
  f16 := Tryz.func79.trans (congrArg some (by kernel_rfl))
  f17 := Tryz.func80.trans (congrArg some (by kernel_rfl))
  f19 := Tryz.func89.trans (congrArg some (by kernel_rfl))
  f20 := Tryz.func90.trans (congrArg some (by kernel_rfl))
  f21 := Tryz.func91.trans (congrArg some (by kernel_rfl))
  f22 := Tryz.func92.trans (congrArg some (by kernel_rfl))
  f23 := Tryz.func93.trans (congrArg some (by kernel_rfl))
  f24 := Tryz.func94.trans (congrArg some (by kernel_rfl))
  f25 := Tryz.func102.trans (congrArg some (by kernel_rfl))
  f26 := Tryz.func28.trans (congrArg some (by kernel_rfl))
  f27 := Tryz.func103.trans (congrArg some (by kernel_rfl))
  f28 := Tryz.func106.trans (congrArg some (by kernel_rfl))
  f29 := Tryz.func107.trans (congrArg some (by kernel_rfl))
  f30 := Tryz.func108.trans (congrArg some (by kernel_rfl))
  f31 := Tryz.func109.trans (congrArg some (by kernel_rfl))
  f32 := Tryz.func110.trans (congrArg some (by kernel_rfl))
  f33 := Tryz.func111.trans (congrArg some (by kernel_rfl))
  f34 := Tryz.func112.trans (congrArg some (by kernel_rfl))
  f35 := Tryz.func113.trans (congrArg some (by kernel_rfl))
  f36 := Tryz.func114.trans (congrArg some (by kernel_rfl))
  f37 := Tryz.func115.trans (congrArg some (by kernel_rfl))
  f38 := Tryz.func116.trans (congrArg some (by kernel_rfl))
  f39 := Tryz.func117.trans (congrArg some (by kernel_rfl))
  f40 := Tryz.func118.trans (congrArg some (by kernel_rfl))
  t0 := Tryz.underlying0
  a0 := Tryz.isAgg0
  z0 := Tryz.sizeOf0
  v0 := Tryz.zeroValue0
  i0 := by kernel_rfl
  t2 := Tryz.underlying2
  a2 := Tryz.isAgg2
  z2 := Tryz.sizeOf2
  v2 := Tryz.zeroValue2
  i2 := by kernel_rfl
  t3 := Tryz.underlying3
  a3 := Tryz.isAgg3
  z3 := Tryz.sizeOf3
  v3 := Tryz.zeroValue3
  i3 := by kernel_rfl
  t4 := Tryz.underlying4
  a4 := Tryz.isAgg4
  z4 := Tryz.sizeOf4
  v4 := Tryz.zeroValue4
  i4 := by kernel_rfl
  t5 := Tryz.underlying5
  a5 := Tryz.isAgg5
  z5 := Tryz.sizeOf5
  v5 := Tryz.zeroValue5
  i5 := by kernel_rfl
  t9 := Tryz.underlying9
  a9 := Tryz.isAgg9
  z9 := Tryz.sizeOf9
  v9 := Tryz.zeroValue9
  i9 := by kernel_rfl
  t20 := Tryz.underlying20
  a20 := Tryz.isAgg20
  z20 := Tryz.sizeOf20
  v20 := Tryz.zeroValue20
  i20 := by kernel_rfl
  t21 := Tryz.underlying21
  a21 := Tryz.isAgg21
  z21 := Tryz.sizeOf21
  v21 := Tryz.zeroValue21
  i21 := by kernel_rfl
  t22 := Tryz.underlying23
  a22 := Tryz.isAgg23
  z22 := Tryz.sizeOf23
  v22 := Tryz.zeroValue23
  i22 := by kernel_rfl
  t24 := Tryz.underlying42
  a24 := Tryz.isAgg42
  z24 := Tryz.sizeOf42
  v24 := Tryz.zeroValue42
  i24 := by kernel_rfl
  t25 := Tryz.underlying128
  a25 := Tryz.isAgg128
  z25 := Tryz.sizeOf128
  v25 := Tryz.zeroValue128
  i25 := by kernel_rfl
  t34 := Tryz.underlying162
  a34 := Tryz.isAgg162
  z34 := Tryz.sizeOf162
  v34 := Tryz.zeroValue162
  i34 := by kernel_rfl
  c34 := by kernel_rfl
  t36 := Tryz.underlying75
  a36 := Tryz.isAgg75
  z36 := Tryz.sizeOf75
  v36 := Tryz.zeroValue75
  i36 := by kernel_rfl
  t37 := Tryz.underlying27
  a37 := Tryz.isAgg27
  z37 := Tryz.sizeOf27
  v37 := Tryz.zeroValue27
  i37 := by kernel_rfl
  t39 := Tryz.underlying164
  a39 := Tryz.isAgg164
  z39 := Tryz.sizeOf164
  v39 := Tryz.zeroValue164
  i39 := by kernel_rfl
  t44 := Tryz.underlying178
  a44 := Tryz.isAgg178
  z44 := Tryz.sizeOf178
  v44 := Tryz.zeroValue178
  i44 := by kernel_rfl
  t47 := Tryz.underlying185
  a47 := Tryz.isAgg185
  z47 := Tryz.sizeOf185
  v47 := Tryz.zeroValue185
  i47 := by kernel_rfl
  t48 := Tryz.underlying98
  a48 := Tryz.isAgg98
  z48 := Tryz.sizeOf98
  v48 := Tryz.zeroValue98
  i48 := by kernel_rfl
  t50 := Tryz.underlying100
  a50 := Tryz.isAgg100
  z50 := Tryz.sizeOf100
  v50 := Tryz.zeroValue100
  i50 := by kernel_rfl
  t52 := Tryz.underlying187
  a52 := Tryz.isAgg187
  z52 := Tryz.sizeOf187
  v52 := Tryz.zeroValue187
  i52 := by kernel_rfl
  t55 := Tryz.underlying190
  a55 := Tryz.isAgg190
  z55 := Tryz.sizeOf190
  v55 := Tryz.zeroValue190
  i55 := by kernel_rfl
  t59 := Tryz.underlying193
  a59 := Tryz.isAgg193
  z59 := Tryz.sizeOf193
  v59 := Tryz.zeroValue193
  i59 := by kernel_rfl
  t60 := Tryz.underlying92
  a60 := Tryz.isAgg92
  z60 := Tryz.sizeOf92
  v60 := Tryz.zeroValue92
  i60 := by kernel_rfl
  t61 := Tryz.underlying194
  a61 := Tryz.isAgg194
  z61 := Tryz.sizeOf194
  t65 := Tryz.underlying198
  a65 := Tryz.isAgg198
  z65 := Tryz.sizeOf198
  v65 := Tryz.zeroValue198
  i65 := by kernel_rfl
  t66 := Tryz.underlying199
  a66 := Tryz.isAgg199
  z66 := Tryz.sizeOf199
  v66 := Tryz.zeroValue199
  i66 := by kernel_rfl
  t67 := Tryz.underlying200
  a67 := Tryz.isAgg200
  z67 := Tryz.sizeOf200
  v67 := Tryz.zeroValue200
  i67 := by kernel_rfl
  g0 := by kernel_rfl
  m0 := by kernel_rfl
  g1 := by kernel_rfl
  m1 := by kernel_rfl
  g2 := by kernel_rfl
  m2 := by kernel_rfl
  g3 := by kernel_rfl
  m3 := by kernel_rfl
  g4 := by kernel_rfl
  m4 := by kernel_rfl }
open Go.RowKit in
/-- strconv.ParseUint(s, 10, 64), AT EVERY STRING THAT SPELLS A uint64 ('Lib.parseUintB 64 s.data.toList = .ok u'): u, AND NO ERROR. (LAID: no walk: one application.) -/
theorem Tryz.strconv_ParseUint_10_at64_ok (s : ByteArray) (hmax : s.size ≤ 9223372036854775806) (u : Nat) (h : Lib.parseUintB 64 s.data.toList = .ok u) (w : World) :
    Calls Tryz.prog 67 #[.string s, .int .i64 10, .int .i64 64] w fun e w' => e = .returned (.tuple #[.int .u64 u, .nilIface]) ∧ (w' = w ∨ w' = Lib.bytesWorld w 5 s) := Any.strconv_ParseUint_10_at64_ok Tryz.laysPu14 s hmax u h w
end Go.Proofs
end
