/- FnCronListNext: for every six words, kind of field, part and instant the law function returns true and leaves its arguments as they were. No condition is added: the statement is the given one, the tied card. -/
import Derived.Test.YtjmgebhjkbcpcaaGreatDoorRows
import Derived.Test.YtjmgebhjkbcpcaaGreatDoorCards
import Derived.Test.YtjmgebhjkbcpcaaGreatDoorTie
import Derived.Test.YtjmgebhjkbcpcaaGreatDoorNN
import Derived.WalkKit
import Derived.ProofKit
import Derived.OpenShut
import Derived.ShutString
import Derived.ChangeOld
import Derived.Below
import Derived.SizedLaws
import Derived.Lib.SmallJoins
import Derived.Deep.Grids
import Derived.ChangeMaps5
import Derived.LaidMore
import Derived.Lay
import Derived.SevenTiedAt
import Derived.Stop.Joined
section
set_option linter.unusedVariables false
set_option linter.unusedSimpArgs false
namespace Go.Proofs.YtjmgebhjkbcpcaaGreatDoor.Txt
open Go Go.ChangeShapes Go.WideShapes Go.ChangeAt Go.RowKit Go.Joins Go.Deep
open Go.ChangeMaps (open_string)
section
variable {H : Type} {enc : TypeId × Value → H} {P : Program} {w : World} {base : Nat} {held : Bool}
theorem okWide_array {n : Nat} {e t : TypeId} {r : Reach} {b0 : Nat} {v : Value} (ht : P.underlying t = some (.array n e)) (h : Value.okWide P w r b0 t v) : ∃ cs : Array Value, v = .agg cs ∧ cs.size = P.cellsOf t := by
  simp only [Value.okWide, ht] at h
  obtain ⟨cs, h1, h2, _⟩ := h
  exact ⟨cs, h1, h2⟩
/-- an array of six strings, opened -/
theorem open_six {spare : Nat → Bool} {r : Reach} {b0 : Nat} {t e : TypeId} {v : Value} {d : DataW H} {p : List MemPlace} (ht : P.underlying t = some (.array 6 e)) (he : P.underlying e = some .string) (hc : P.cellsOf e = 1) (hC : P.cellsOf t = 6)
    (hv : Value.okWide P w r b0 t v) (h : DataW.Trod enc P w base spare held t v d p) : ∃ xs : List ByteArray, xs.length = 6 ∧ v = .agg (six xs) := by
  obtain ⟨cs, rfl, hsz⟩ := okWide_array ht hv
  rw [hC] at hsz
  obtain ⟨fuel, hf⟩ := h
  obtain ⟨ys, m, _, _, hlen, hn, hel⟩ := DataW.trod_array ht hf
  have hl : cs.toList.length = 6 := by simpa using hsz
  have key : ∀ i, i < 6 → ∃ s : ByteArray, cs.toList[i]? = some (.string s) := fun i hi => by
    have h1 := hel i hi
    rw [hc, Nat.mul_one, List.getElem?_eq_getElem (by omega)] at h1
    obtain ⟨s, e1, _, _⟩ := DataW.trod_string he h1
    refine ⟨s, ?_⟩
    have h0 : ((cs.toList.drop i).take 1)[0]? = some (.string s) := by
      have e2 : ((Value.agg cs).cells.toList.drop i).take 1 = [.string s] := e1
      have e3 : (Value.agg cs).cells = cs := rfl
      rw [e3] at e2
      rw [e2]; rfl
    simpa using h0
  obtain ⟨s0, h0⟩ := key 0 (by decide)
  obtain ⟨s1, h1⟩ := key 1 (by decide)
  obtain ⟨s2, h2⟩ := key 2 (by decide)
  obtain ⟨s3, h3⟩ := key 3 (by decide)
  obtain ⟨s4, h4⟩ := key 4 (by decide)
  obtain ⟨s5, h5⟩ := key 5 (by decide)
  refine ⟨[s0, s1, s2, s3, s4, s5], rfl, ?_⟩
  congr 1
  obtain ⟨l⟩ := cs
  match l, hl with
  | [a, b, c, d, e, f], _ =>
    simp at h0 h1 h2 h3 h4 h5
    subst h0; subst h1; subst h2; subst h3; subst h4; subst h5
    rfl
end
theorem own : ownKnob Tryz.prog.godebug = none := by kernel_rfl
theorem laidOut : laidOutB Tryz.prog = true := by kernel_rfl
abbrev laidL : List (String × DataW Unit) := Rows.fnCronListNextRow.laid
set_option maxRecDepth 100000 in
theorem lifted (os : Os) (started : os.Started) (H : Type) (enc : TypeId × Value → H) :
    ReturnsInHanded {} Tryz.checked os 3 .any (fun w args => (Rows.fnCronListNextSpec.pre enc Tryz.prog Tryz.f3 Rows.fnCronListNextRow.domain false w args ∧ laidMetH Tryz.prog laidL w) ∧ sizedMet enc Tryz.prog Tryz.f3 (OpenSpec.ofChange Rows.fnCronListNextSpec) false w args)
      (Rows.fnCronListNextSpec.post enc Tryz.prog Tryz.f3 false true false false) := by
  refine returnsInHanded_of_change_and (C := Tryz.checked) (X := fun w _ => laidMetH Tryz.prog laidL w) (fun _ _ _ hh h => h.of_heap hh) own started (by kernel_rfl) Tryz.func3
    (ChangeSpec.witness_shaped (enc := enc) (C := Tryz.checked) (os := os) (X := fun w _ => laidMetH Tryz.prog laidL w) false (World.laidAll Tryz.prog os laidL) #[.agg #[.string ⟨#[]⟩, .string ⟨#[]⟩, .string ⟨#[]⟩, .string ⟨#[]⟩, .string ⟨#[]⟩, .string ⟨#[]⟩], .int .i64 0, .string ⟨#[]⟩, .agg #[.int .i64 0, .int .i64 0]] 8 (World.laidAll_os _ _ _)
      (World.shaped_of_ZipB (by kernel_rfl) (by kernel_rfl)) (by kernel_rfl) (by kernel_rfl) (by kernel_rfl)
      (by rw [MakeChecks.laidMetH_plain _ _ _ (by kernel_rfl)]; exact laidMet_laidAll _ (by kernel_rfl) (by kernel_rfl))) ?_
  intro W base args ds gs before hval0 hW hc _ hL _
  have hval : ∀ (j : Nat) t v, Tryz.f3.params[j]? = some t → args[j]? = some v → Value.okWide Tryz.prog W .any base t v := hval0
  have hW' := hW
  obtain ⟨p, q, hA0, hV, rfl, hfz, hnd⟩ := hW
  have hA : DataW.TrodAll enc Tryz.prog W 0 (fun _ => true) true Tryz.f3.params.toList args.toList ds p := hA0
  rw [Tryz.params3] at hA hval
  obtain ⟨v0, vs0, d0, ds0, p0, q0, hargs, rfl, rfl, h0, r0⟩ := trodAll_cons hA
  obtain ⟨v1, vs1, d1, ds1, p1, q1, rfl, rfl, rfl, h1, r1⟩ := trodAll_cons r0
  obtain ⟨v2, vs2, d2, ds2, p2, q2, rfl, rfl, rfl, h2, r2⟩ := trodAll_cons r1
  obtain ⟨v3, vs3, d3, ds3, p3, q3, rfl, rfl, rfl, h3, r3⟩ := trodAll_cons r2
  obtain ⟨rfl, rfl, rfl⟩ := trodAll_nil r3
  obtain rfl : args = #[v0, v1, v2, v3] := by cases args; simp_all
  obtain ⟨rfl, rfl⟩ := trodVars_none hV
  have k0 := h0
  have lt0 : ∀ x ∈ p0, x.block < W.heap.size := by obtain ⟨m, hm⟩ := k0; exact DataW.trod_lt m _ _ _ hm
  have k1 := h1
  have lt1 : ∀ x ∈ p1, x.block < W.heap.size := by obtain ⟨m, hm⟩ := k1; exact DataW.trod_lt m _ _ _ hm
  have k2 := h2
  have lt2 : ∀ x ∈ p2, x.block < W.heap.size := by obtain ⟨m, hm⟩ := k2; exact DataW.trod_lt m _ _ _ hm
  have k3 := h3
  have lt3 : ∀ x ∈ p3, x.block < W.heap.size := by obtain ⟨m, hm⟩ := k3; exact DataW.trod_lt m _ _ _ hm
  obtain ⟨xs, h6, rfl⟩ := open_six Tryz.underlying22 Tryz.underlying9 (by kernel_rfl) (by kernel_rfl) (hval 0 22 v0 rfl rfl) h0
  obtain ⟨k, rfl, -, x1⟩ := open_int Tryz.underlying3 (hval 1 3 v1 rfl rfl) h1
  obtain ⟨pt, rfl, -, -, x2⟩ := open_string Tryz.underlying9 (hval 2 9 v2 rfl rfl) h2
  obtain ⟨b0, b1, z0, z1, n1, rfl, -, -, t0, t1⟩ := open_agg2 Tryz.underlying24 (by kernel_rfl) (by kernel_rfl) (hval 3 24 v3 rfl rfl) h3
  obtain ⟨s, e0, -, x8⟩ := DataW.trod_int Tryz.underlying2 t0
  obtain ⟨n, e1, -, x9⟩ := DataW.trod_int Tryz.underlying3 t1
  injection e0 with e0 _
  injection e1 with e1 _
  subst e0 e1
  refine (tLaw xs h6 k pt s n W).mono fun e W' h => ?_
  obtain ⟨he, bel⟩ := h
  subst he
  exact ⟨_, rfl, _, _, _, [], _, [], hW', trodAll_mk1 (shut_bool Tryz.underlying4 _), (trodAll_cons_mk (Below.trod laidOut (by kernel_rfl) (of_decide_eq_true (by kernel_rfl)) k0 bel lt0) (trodAll_cons_mk (Below.trod laidOut (by kernel_rfl) (of_decide_eq_true (by kernel_rfl)) k1 bel lt1) (trodAll_cons_mk (Below.trod laidOut (by kernel_rfl) (of_decide_eq_true (by kernel_rfl)) k2 bel lt2) (trodAll_cons_mk (Below.trod laidOut (by kernel_rfl) (of_decide_eq_true (by kernel_rfl)) k3 bel lt3) trodAll_mk0)))), rfl, bel.frame _, fun h => by cases h⟩
theorem over : Rows.FnCronListNextSaid :=
  OpenClaim.holds_of_wide 3 Tryz.f3 rfl rfl rfl rfl rfl rfl rfl ⟨rfl, rfl, rfl, rfl, rfl⟩ rfl rfl rfl rfl rfl (by kernel_rfl) Tryz.func3 (by kernel_rfl)
    (of_decide_eq_true (by kernel_rfl)) (by unfold Func.isWrapper; first | (rw [if_pos (by decide +kernel)]; kernel_rfl) | (rw [if_neg (by decide +kernel)]; exact ⟨rfl, rfl⟩))
    (fun os started H enc _ => lifted os started H enc)
end Go.Proofs.YtjmgebhjkbcpcaaGreatDoor.Txt
namespace Go.Proofs.YtjmgebhjkbcpcaaGreatDoor
/-- The law holds of every input; what it lists is tied to the program's text. -/
theorem fnCronListNext_card : Rows.FnCronListNextCardSaid :=
  Claim7.holds_tied_plain_at .later [] [.data, .data, .data, .data, .sentinel, .sentinel, .sentinel, .sentinel, .pinned] true (true, "6ff4858c71b0aa5895a41fdeb0651a09d43c26bc02f2c98ecee89ce5ed8d24e2") true Txt.over (fun _ h => by cases h) (by kernel_rfl) (fun _ h => by cases h) fnCronListNext_row_tie rfl ⟨rfl, rfl⟩ (by kernel_rfl) rfl
    (fun f fn hf hfn => by
      obtain rfl : f = 3 := Option.some.inj ((show Tryz.prog.funcNamed "pub-timebook/laws.FnCronListNext" = some 3 by kernel_rfl).symm.trans hf) |>.symm
      obtain rfl : fn = Tryz.f3 := (Option.some.inj (Tryz.func3.symm.trans hfn)).symm
      exact ⟨by kernel_rfl, fun j t ht => by
        rw [Tryz.params3] at ht
        have hm : t ∈ [22, 3, 9, 24] := by simpa using Array.mem_of_getElem? ht
        have hall : ([22, 3, 9, 24].all fun u => !Tryz.prog.wantsStandIn u) = true := by kernel_rfl
        exact (show Tryz.prog.wantsStandIn t = false by simpa using List.all_eq_true.1 hall t hm)⟩)
    (by kernel_rfl)
end Go.Proofs.YtjmgebhjkbcpcaaGreatDoor
#print axioms Go.Proofs.YtjmgebhjkbcpcaaGreatDoor.fnCronListNext_card
end
