/- the hour, minute and second loops of SpecSchedule.Next. -/
import Derived.Test.YtjmgebhjkbcpcaaNC
import Derived.Deep.RegionHeld3
import Derived.Deep.CutRange
set_option linter.unusedVariables false
set_option linter.unusedSimpArgs false
namespace Go.Proofs.Ytjmgebhjkbcpcaa.NM
open Go.RowKit
section
variable {P : Program} {ops : Array Oper} {Q : Exit → Act → World → Prop} {md : Region.Mode} {S : World → Prop} {g : Nat}
/-- whatever order is picked, and S holds behind each operation but the last, number g -/
def wpAnyG (P : Program) (md : Region.Mode) (ops : Array Oper) (Q : Exit → Act → World → Prop) (S : World → Prop) (g : Nat) : Nat → Array Bool → Act → World → Prop
  | 0, listed, a, w => Region.ready md ops listed = [] ∧ Q .normal a w
  | fuel + 1, listed, a, w =>
    (Region.ready md ops listed = [] → Q .normal a w) ∧
    ∀ i ∈ Region.ready md ops listed, wpOp P ops Q i (fun a' w' => (i = g ∨ S w') ∧ wpAnyG P md ops Q S g fuel (listed.setIfInBounds i true) a' w') a w
theorem wpAny_of_gate : ∀ (fuel : Nat) (listed : Array Bool) (a : Act) (w : World), wpAnyG P md ops Q S g fuel listed a w → wpAny P md ops Q fuel listed a w
  | 0, _, _, _, h => h
  | fuel + 1, _, _, _, h => ⟨h.1, fun i hi => wpOp_mono (fun a' w' h' => wpAny_of_gate fuel _ a' w' h'.2) (h.2 i hi)⟩
theorem wpAnyG_first {i : Nat} {oi og : Oper} {v : Value} (hi : ops[i]? = some oi) (hg : ops[g]? = some og) (hgi : ∃ e ∈ og.after, Region.binds md e = true ∧ e.on = i) (hsel : ∀ (j : Nat) (o : Oper) cs b, ops[j]? = some o → o.op ≠ .select cs b)
    (hQ : ∀ c a w, Q (.panic c) (a.put oi.dst v) w → Q (.panic c) a w) :
    ∀ (fuel : Nat) (listed : Array Bool) (a : Act) (w : World),
      (∀ j oj, ops[j]? = some oj → j ≠ i → listed.getD j true = false → (∀ e ∈ oj.after, Region.binds md e = true → e.on ≠ i) → oi.apart ops oj = true) →
      i ∈ Region.ready md ops listed → YieldsIf P ops S oi v a → S w →
      wpAnyG P md ops Q S g fuel (listed.setIfInBounds i true) (a.put oi.dst v) w → wpAnyG P md ops Q S g (fuel + 1) listed a w := by
  intro fuel
  induction fuel with
  | zero =>
    intro listed a w _ hr hy hS H
    refine ⟨fun h => (by rw [h] at hr; cases hr), fun j hj => ?_⟩
    by_cases hji : j = i
    · subst hji; exact hy.wpOp hi hS ⟨.inr hS, H⟩
    · have := ready_mono hj hji
      rw [H.1] at this
      cases this
  | succ fuel ih =>
    intro listed a w hfree hr hy hS H
    refine ⟨fun h => (by rw [h] at hr; cases hr), fun j hj => ?_⟩
    by_cases hji : j = i
    · subst hji; exact hy.wpOp hi hS ⟨.inr hS, H⟩
    · have h1 := H.2 j (ready_mono hj hji)
      obtain ⟨hjun, oj, hoj, hall⟩ := mem_ready.1 hj
      have hnot : ∀ e ∈ oj.after, Region.binds md e = true → e.on ≠ i := fun e he hb heq => by
        have h1 := hall e he hb
        have h0 := (mem_ready.1 hr).1
        rw [heq] at h1
        rcases Nat.lt_or_ge i listed.size with h' | h'
        · simp [h'] at h0 h1; rw [h0] at h1; cases h1
        · simp [Array.getElem?_eq_none h'] at h1
      have hjg : j ≠ g := by
        rintro rfl
        obtain ⟨e, he, hb, hei⟩ := hgi
        rw [hg] at hoj
        injection hoj with hoj
        subst hoj
        exact hnot e he hb hei
      have h2 := wpOp_putIf hoj (hfree j oj hoj hji hjun hnot) (fun cs b => hsel i oi cs b hi) (fun cs b => hsel j oj cs b hoj) hQ hy h1
      have hfree' : ∀ k ok, ops[k]? = some ok → k ≠ i → (listed.setIfInBounds j true).getD k true = false →
          (∀ e ∈ ok.after, Region.binds md e = true → e.on ≠ i) → oi.apart ops ok = true := fun k ok hk hki hun hno => by
        refine hfree k ok hk hki ?_ hno
        by_cases hjk : j = k
        · subst hjk; exact hjun
        · rw [getD_set_ne true hjk] at hun; exact hun
      refine wpOp_mono (fun a' w' h3 => ?_) h2
      have hS' : S w' := h3.2.1.resolve_left hjg
      refine ⟨.inr hS', ih (listed.setIfInBounds j true) a' w' hfree' (ready_mono hr (Ne.symm hji)) h3.1 hS' ?_⟩
      rw [Array.setIfInBounds_comm _ _ hji]
      exact h3.2.2
/-- g waits for i -/
def waits (md : Region.Mode) (ops : Array Oper) (g i : Nat) : Bool := match ops[g]? with
  | some og => og.after.toList.any fun e => Region.binds md e && e.on == i
  | none => false
theorem wpAnyG_take {i : Nat} {oi : Oper} {v : Value} {fuel : Nat} {listed : Array Bool} {a : Act} {w : World} (hi : ops[i]? = some oi)
    (hs : Region.noSelect ops = true) (hf : Region.free md ops listed i = true) (hr : (Region.ready md ops listed).contains i = true) (hg : waits md ops g i = true)
    (hQ : ∀ c a w, Q (.panic c) (a.put oi.dst v) w → Q (.panic c) a w) (hy : YieldsIf P ops S oi v a) (hS : S w)
    (h : wpAnyG P md ops Q S g fuel (listed.setIfInBounds i true) (a.put oi.dst v) w) : wpAnyG P md ops Q S g (fuel + 1) listed a w := by
  unfold waits at hg
  cases hog : ops[g]? with
  | none => rw [hog] at hg; simp at hg
  | some og =>
    rw [hog] at hg
    simp only [List.any_eq_true, Bool.and_eq_true, beq_iff_eq] at hg
    obtain ⟨e, he, hb, hei⟩ := hg
    exact wpAnyG_first hi hog ⟨e, by simpa using he, hb, hei⟩ (Region.noSelect_spec hs) hQ fuel listed a w (Region.free_spec hi hf) (by simpa using hr) hy hS h
/-- the one that comes up is carried out -/
theorem wpAnyG_one {i : Nat} {o : Oper} {fuel : Nat} {listed : Array Bool} {a : Act} {w : World} (hr : Region.ready md ops listed = [i]) (ho : ops[i]? = some o)
    (h : ∀ K' : Act → World → Prop, Shut (∀ a w, (i = g ∨ S w) → wpAnyG P md ops Q S g fuel (listed.setIfInBounds i true) a w → K' a w) → if Region.wanted o (yielded ops a.tmps) = true then Oper.wp P o a w K' Q else K' (a.put o.dst undef) w) :
    wpAnyG P md ops Q S g (fuel + 1) listed a w := by
  refine ⟨fun h0 => by rw [hr] at h0; simp at h0, fun j hj => ?_⟩
  rw [hr] at hj
  obtain rfl : j = i := by simpa using hj
  exact wpOp_step ho (fun K' hK => h K' (fun a w hS hW => hK a w ⟨hS, hW⟩))
theorem wpAnyG_done {listed : Array Bool} {a : Act} {w : World} (hr : Region.ready md ops listed = []) (h : Q .normal a w) : ∀ fuel, wpAnyG P md ops Q S g fuel listed a w
  | 0 => ⟨hr, h⟩
  | _ + 1 => ⟨fun _ => h, by rw [hr]; simp⟩
theorem wp_region_gate (g : Nat) (S : World → Prop) {id : Nat} {a : Act} {w : World} (hm : P.follows .mixedOrders = true)
    (h : wpAnyG P .any ops Q S g ops.size (Array.replicate ops.size false) a w.drew) : (Code.region id ops true).wp P Q a w :=
  wp_region_any hm (wpAny_of_gate _ _ _ _ h)
end
end Go.Proofs.Ytjmgebhjkbcpcaa.NM
set_option linter.unusedVariables false
set_option linter.unusedSimpArgs false
set_option maxRecDepth 100000
namespace Go.Proofs.Ytjmgebhjkbcpcaa.NM
open Go.RowKit Cal CronPl
section
variable (w : World) (bs bO bL : Nat) (ar : Value) (L : Option Addr) (z : Option Zone) (S : Sets) (x0 Y : Int) (P : Plain (lo z) (fun T => reso z T + 62135596800)) (hr : Rng x0 Y) (top : Nat)
set_option maxHeartbeats 4000000 in
include P hr in
theorem hour_round (n : Nat) (a' : Act) (wx : World) (hI : IL w bs bO bL ar L z S x0 Y top 2 n a' wx) :
    Code.wp Try.prog (body70 4) (Exit.then (fun a' w' => ∃ m, m < n ∧ IL w bs bO bL ar L z S x0 Y top 2 m a' w')
      (QM 4 (fun a' wx => ∃ n, IL w bs bO bL ar L z S x0 Y top 3 n a' wx) (fun a' wx => ∃ m, m < top ∧ JW w bs bO bL ar L z S x0 Y m a' wx))) a' wx := by
  obtain ⟨x, a, hh, hmu, hn, hlev⟩ := hI
  have hrg := hh.rng hr
  obtain ⟨⟨U, rfl⟩, hns, hiv⟩ := hh
  have t0 := hns.t0
  have t1 := hns.t1
  have t2 := hns.t2
  have HN := Lib.hid hns
  have HI := Lib.hid hiv
  have HL := Lib.hid hlev
  have HM := Lib.hid hmu
  have HP := Lib.hid P
  have hn0 : Nan 0 := ⟨by decide, by decide⟩
  have s4 := hns.spec.c2
  have e0 := not_hit S.ho (lo z x % 86400 / 3600)
  have e1 : IntKind.u64.wrap (lo z x % 86400 / 3600) = lo z x % 86400 / 3600 := u64wrap_small _ (by omega) (by omega)
  have eb : 0 ≤ lo z x % 86400 / 3600 ∧ lo z x % 86400 / 3600 ≤ 60 := by omega
  clear hns hiv hlev hmu P
  conv => arg 2; whnf
  unfold fr70
  go_upto_region 28 with fail
  go_cut [113] from 104 to 130 (fun s53 wc => s53 = .bool (!hit S.ho (lo z x % 86400 / 3600)) ∧ Below wx.heap.size wx wc)
  case first =>
    go_region_with (go_at_call 77; refine (tHour 0 x L z _ (HN.out.tloc.below (Below.refl _ _).drew) hn0 (by omega) (by omega)).mono ?_; rintro e w1 ⟨rfl, hb1⟩; have hd5 := keep hb1 (show wx.drew.cell? ⟨bs, 2, none⟩ = some (.int .u64 S.ho) from s4))
    all_goals (go_wp2_with fail; go_meet; exact ⟨rfl, (Below.refl _ _).drew.trans hb1⟩)
  case rest =>
    obtain ⟨rfl, hb1⟩ := hcut
    have HN1 := Lib.hid (HN.out.call hb1)
    have q0 := HN1.out.t0
    have q1 := HN1.out.t1
    have q2 := HN1.out.t2
    have f0 := HN1.out.fr 0
    have f1 := HN1.out.fr 1
    have f2 := HN1.out.fr 2
    clear hb1 t0 t1 t2 s4 e0 e1 eb
    cases hh : hit S.ho (lo z x % 86400 / 3600) with
    | true =>
      simp only [Bool.not_true]
      have HH := Lib.hid hh
      clear hh
      go_wp2
      exact ⟨rfl, n, x, a, ⟨fr_ex, HN1.out, HI.out⟩, HM.out, hn, HL.out.1, fun _ => HL.out.2.1 (by omega), fun _ => HL.out.2.2.1 (by omega), fun _ => HH.out, by omega, by omega⟩
    | false =>
      simp only [Bool.not_false]
      have HH := Lib.hid hh
      clear hh
      cases a with
      | true =>
        obtain ⟨x2, hx2⟩ : ∃ x2, x + 3600 = x2 := ⟨_, rfl⟩
        have hp := Inv.hour HP.out HI.out HL.out.1 (HL.out.2.1 (by omega)) (HL.out.2.2.1 (by omega)) (fun h => by unfold hOK at h; rw [show (cxOf S x0 Y).ho _ = false from HH.out] at h; simp at h) (x1 := x) (x2 := x2) rfl hx2.symm
        have hr2 := inv_rng HN.out.tl hp.1 hr
        have HPM := Lib.hid hp
        have HX2 := Lib.hid hx2
        clear hx2 hp
        cases hm1 : (lo z x2 % 86400 / 3600 == 0) with
        | true =>
          go_wp2_with (first
            | (go_at_call 68; refine (tAdd0 x _ 3600 L _ (by omega) (by omega) (by omega) (by omega) (by decide) (by decide)).mono ?_; rintro e w1 ⟨rfl, hb1⟩; rw [HX2.out]; have HN2 := Lib.hid (HN1.out.call hb1); clear hb1 q0 q1 q2 f0 f1 f2; have q0 := HN2.out.t0; have q1 := HN2.out.t1; have q2 := HN2.out.t2; have f0 := HN2.out.fr 0; have f1 := HN2.out.fr 1; have f2 := HN2.out.fr 2)
            | (go_at_call 77; refine (tHour 0 x2 L z _ (HN2.out.store x2).tloc hn0 (by omega) (by omega)).mono ?_; rintro e w2 ⟨rfl, hb2⟩; have HN3 := Lib.hid ((HN2.out.store x2).call hb2); clear hb2 q0 q1 q2 f0 f1 f2))
          go_step3
          exact ⟨rfl, _, Nat.lt_of_lt_of_le HPM.out.2.1 (by rw [HM.out]; exact hn), x2, true, ⟨fr_ex, HN3.out, HPM.out.1⟩, rfl⟩
        | false =>
          go_wp2_with (first
            | (go_at_call 68; refine (tAdd0 x _ 3600 L _ (by omega) (by omega) (by omega) (by omega) (by decide) (by decide)).mono ?_; rintro e w1 ⟨rfl, hb1⟩; rw [HX2.out]; have HN2 := Lib.hid (HN1.out.call hb1); clear hb1 q0 q1 q2 f0 f1 f2; have q0 := HN2.out.t0; have q1 := HN2.out.t1; have q2 := HN2.out.t2; have f0 := HN2.out.fr 0; have f1 := HN2.out.fr 1; have f2 := HN2.out.fr 2)
            | (go_at_call 77; refine (tHour 0 x2 L z _ (HN2.out.store x2).tloc hn0 (by omega) (by omega)).mono ?_; rintro e w2 ⟨rfl, hb2⟩; have HN3 := Lib.hid ((HN2.out.store x2).call hb2); clear hb2 q0 q1 q2 f0 f1 f2))
          exact ⟨_, (by rw [← HM.out]; exact HPM.out.2.1), x2, true, ⟨fr_ex, HN3.out, HPM.out.1⟩, rfl, Nat.le_trans (Nat.le_of_lt HPM.out.2.1) (by rw [HM.out]; exact hn), (HPM.out.2.2.1 (by simpa using hm1)).1, fun _ => (HPM.out.2.2.1 (by simpa using hm1)).2.1, fun _ => (HPM.out.2.2.1 (by simpa using hm1)).2.2, by omega, by omega, by omega⟩
      | false =>
        obtain ⟨x1, hx1⟩ : ∃ x1, reso z (lo z x - lo z x % 3600) + 62135596800 = x1 := ⟨_, rfl⟩
        have h1b := HP.out.lo x1
        have h1d := HP.out.lo x
        have h1c := HP.out.hi x1
        have hl1 : lo z x1 = lo z x - lo z x % 3600 := by rw [← hx1]; exact HP.out.hour _
        have hx1a : -6000000 ≤ x1 ∧ x1 ≤ 840000000000 := by omega
        have HX1 : Hid (x1 = reso z (lo z x - lo z x % 3600) + 62135596800) := hx1.symm
        clear h1b h1c h1d hl1 hx1
        go_upto_region 31 with fail
        go_cut [7] from 116 to 130 (fun s7 wd => s7 = .bool true ∧ NS w wd L z bL bO bs S x1)
        case first =>
          have hS0 : wc.drew.cell? ⟨w.heap.size, 0, none⟩ = some (.int .u64 0) ∧ wc.drew.cell? ⟨w.heap.size, 1, none⟩ = some (.int .i64 x) ∧ wc.drew.cell? ⟨w.heap.size, 2, none⟩ = some (.pointer L) := ⟨q0, q1, q2⟩
          refine wp_region_gate 10 (fun w' => w'.cell? ⟨w.heap.size, 0, none⟩ = some (.int .u64 0) ∧ w'.cell? ⟨w.heap.size, 1, none⟩ = some (.int .i64 x) ∧ w'.cell? ⟨w.heap.size, 2, none⟩ = some (.pointer L)) (by kernel_rfl) ?_
          refine wpAnyG_take (i := 0) (oi := { dst := some 116, op := Op.load 46 (Operand.tmp 3), type := 46, pos := "spec.go:156", after := #[], guard := none }) (v := (.agg #[.int .u64 0, .int .i64 x, .pointer L])) rfl (by kernel_rfl) (by kernel_rfl) (by kernel_rfl) (by kernel_rfl) (fun _ _ _ h => h) (Or.inl ⟨by rfl, fun w' hS => ?_⟩) hS0 ?_
          · obtain ⟨s0, s1, s2⟩ := hS
            go_simp
          try simp only [Act.put, List.setIfInBounds_toArray, List.set_cons_zero, List.set_cons_succ]
          refine wpAnyG_take (i := 2) (oi := { dst := some 118, op := Op.load 46 (Operand.tmp 3), type := 46, pos := "spec.go:156", after := #[], guard := none }) (v := (.agg #[.int .u64 0, .int .i64 x, .pointer L])) rfl (by kernel_rfl) (by kernel_rfl) (by kernel_rfl) (by kernel_rfl) (fun _ _ _ h => h) (Or.inl ⟨by rfl, fun w' hS => ?_⟩) hS0 ?_
          · obtain ⟨s0, s1, s2⟩ := hS
            go_simp
          try simp only [Act.put, List.setIfInBounds_toArray, List.set_cons_zero, List.set_cons_succ]
          refine wpAnyG_take (i := 4) (oi := { dst := some 120, op := Op.load 46 (Operand.tmp 3), type := 46, pos := "spec.go:156", after := #[], guard := none }) (v := (.agg #[.int .u64 0, .int .i64 x, .pointer L])) rfl (by kernel_rfl) (by kernel_rfl) (by kernel_rfl) (by kernel_rfl) (fun _ _ _ h => h) (Or.inl ⟨by rfl, fun w' hS => ?_⟩) hS0 ?_
          · obtain ⟨s0, s1, s2⟩ := hS
            go_simp
          try simp only [Act.put, List.setIfInBounds_toArray, List.set_cons_zero, List.set_cons_succ]
          refine wpAnyG_take (i := 6) (oi := { dst := some 122, op := Op.load 46 (Operand.tmp 3), type := 46, pos := "spec.go:156", after := #[], guard := none }) (v := (.agg #[.int .u64 0, .int .i64 x, .pointer L])) rfl (by kernel_rfl) (by kernel_rfl) (by kernel_rfl) (by kernel_rfl) (fun _ _ _ h => h) (Or.inl ⟨by rfl, fun w' hS => ?_⟩) hS0 ?_
          · obtain ⟨s0, s1, s2⟩ := hS
            go_simp
          try simp only [Act.put, List.setIfInBounds_toArray, List.set_cons_zero, List.set_cons_succ]
          refine wpAnyG_take (i := 8) (oi := { dst := some 124, op := Op.move (Operand.tmp 6), type := 44, pos := "spec.go:156", after := #[], guard := none }) (v := .pointer (some ⟨bL, 0, none⟩)) rfl (by kernel_rfl) (by kernel_rfl) (by kernel_rfl) (by kernel_rfl) (fun _ _ _ h => h) (Or.inl ⟨by rfl, fun w' hS => ?_⟩) hS0 ?_
          · go_simp
          try simp only [Act.put, List.setIfInBounds_toArray, List.set_cons_zero, List.set_cons_succ]
          clear hS0
          refine wpAnyG_one (i := 1) (o := { dst := some 117, op := Op.call { callee := Callee.value (Operand.func 72), args := #[Operand.tmp 116], argTypes := #[46] }, type := 3, pos := "spec.go:156", after := #[{ on := 0, ground := Ground.data }], guard := none }) (by kernel_rfl) rfl (fun K hK => ?_)
          go_simp
          (go_at_call 72; refine (tYear 0 x L z _ HN1.out.drew.tloc hn0 (by omega) (by omega)).mono ?_; rintro e w2 ⟨rfl, hb2⟩; have HN2 := Lib.hid (HN1.out.drew.call hb2))
          refine hK.out _ _ (Or.inr ⟨HN2.out.t0, HN2.out.t1, HN2.out.t2⟩) ?_
          clear hK K
          try simp only [Act.put, List.setIfInBounds_toArray, List.set_cons_zero, List.set_cons_succ]
          refine wpAnyG_one (i := 3) (o := { dst := some 119, op := Op.call { callee := Callee.value (Operand.func 73), args := #[Operand.tmp 118], argTypes := #[46] }, type := 120, pos := "spec.go:156", after := #[{ on := 2, ground := Ground.data }, { on := 1, ground := Ground.chain }], guard := none }) (by kernel_rfl) rfl (fun K hK => ?_)
          go_simp
          (go_at_call 73; refine (tMonth 0 x L z _ HN2.out.tloc hn0 (by omega) (by omega)).mono ?_; rintro e w3 ⟨rfl, hb3⟩; have HN3 := Lib.hid (HN2.out.call hb3))
          refine hK.out _ _ (Or.inr ⟨HN3.out.t0, HN3.out.t1, HN3.out.t2⟩) ?_
          clear hK K
          try simp only [Act.put, List.setIfInBounds_toArray, List.set_cons_zero, List.set_cons_succ]
          refine wpAnyG_one (i := 5) (o := { dst := some 121, op := Op.call { callee := Callee.value (Operand.func 65), args := #[Operand.tmp 120], argTypes := #[46] }, type := 3, pos := "spec.go:156", after := #[{ on := 4, ground := Ground.data }, { on := 3, ground := Ground.chain }], guard := none }) (by kernel_rfl) rfl (fun K hK => ?_)
          go_simp
          (go_at_call 65; refine (tDay 0 x L z _ HN3.out.tloc hn0 (by omega) (by omega)).mono ?_; rintro e w5 ⟨rfl, hb5⟩; have HN5 := Lib.hid (HN3.out.call hb5))
          refine hK.out _ _ (Or.inr ⟨HN5.out.t0, HN5.out.t1, HN5.out.t2⟩) ?_
          clear hK K
          try simp only [Act.put, List.setIfInBounds_toArray, List.set_cons_zero, List.set_cons_succ]
          refine wpAnyG_one (i := 7) (o := { dst := some 123, op := Op.call { callee := Callee.value (Operand.func 77), args := #[Operand.tmp 122], argTypes := #[46] }, type := 3, pos := "spec.go:156", after := #[{ on := 6, ground := Ground.data }, { on := 5, ground := Ground.chain }], guard := none }) (by kernel_rfl) rfl (fun K hK => ?_)
          go_simp
          (go_at_call 77; refine (tHour 0 x L z _ HN5.out.tloc hn0 (by omega) (by omega)).mono ?_; rintro e w6 ⟨rfl, hb6⟩; have HN6 := Lib.hid (HN5.out.call hb6))
          refine hK.out _ _ (Or.inr ⟨HN6.out.t0, HN6.out.t1, HN6.out.t2⟩) ?_
          clear hK K
          try simp only [Act.put, List.setIfInBounds_toArray, List.set_cons_zero, List.set_cons_succ]
          refine wpAnyG_one (i := 9) (o := { dst := some 125, op := Op.call { callee := Callee.value (Operand.func 74), args := #[Operand.tmp 117, Operand.tmp 119, Operand.tmp 121, Operand.tmp 123, Operand.const (Value.int IntKind.i64 0), Operand.const (Value.int IntKind.i64 0), Operand.const (Value.int IntKind.i64 0), Operand.tmp 124], argTypes := #[3, 120, 3, 3, 3, 3, 3, 44] }, type := 46, pos := "spec.go:156", after := #[{ on := 1, ground := Ground.data }, { on := 3, ground := Ground.data }, { on := 5, ground := Ground.data }, { on := 7, ground := Ground.data }, { on := 8, ground := Ground.data }, { on := 7, ground := Ground.chain }], guard := none }) (by kernel_rfl) rfl (fun K hK => ?_)
          go_simp
          (go_at_call 74; refine (dmk_hour z (lo z x) bL _ (HN6.out.lL.p HN6.out.bel) (by omega) (by omega)).mono ?_; rintro e w4 ⟨rfl, hb4⟩; rw [HN6.out.cL, ← HX1.out]; have HN4 := Lib.hid (HN6.out.call hb4); have r0 := HN4.out.t0; have r1 := HN4.out.t1; have r2 := HN4.out.t2; have g0 := HN4.out.fr 0; have g1 := HN4.out.fr 1; have g2 := HN4.out.fr 2)
          refine hK.out _ _ (Or.inr ⟨r0, r1, r2⟩) ?_
          clear hK K
          try simp only [Act.put, List.setIfInBounds_toArray, List.set_cons_zero, List.set_cons_succ]
          refine wpAnyG_one (i := 10) (o := { dst := none, op := Op.store 46 (Operand.tmp 3) (Operand.tmp 125), type := 0, pos := "spec.go:156", after := #[{ on := 9, ground := Ground.data }, { on := 9, ground := Ground.chain }, { on := 0, ground := Ground.phase }, { on := 1, ground := Ground.phase }, { on := 2, ground := Ground.phase }, { on := 3, ground := Ground.phase }, { on := 4, ground := Ground.phase }, { on := 5, ground := Ground.phase }, { on := 6, ground := Ground.phase }, { on := 7, ground := Ground.phase }, { on := 8, ground := Ground.phase }, { on := 9, ground := Ground.phase }], guard := none }) (by kernel_rfl) rfl (fun K hK => ?_)
          go_simp
          refine hK.out _ _ (Or.inl rfl) ?_
          clear hK K
          refine wpAnyG_done (by kernel_rfl) ?_ _
          all_goals (go_wp2_with fail; go_meet; exact ⟨rfl, HN4.out.store x1⟩)
        case rest =>
          obtain ⟨rfl, hns1⟩ := hcut
          clear q0 q1 q2 f0 f1 f2
          have HN0 := HN1
          clear HN1
          have HN1 := Lib.hid hns1
          clear hns1
          have q0 := HN1.out.t0
          have q1 := HN1.out.t1
          have q2 := HN1.out.t2
          have f0 := HN1.out.fr 0
          have f1 := HN1.out.fr 1
          have f2 := HN1.out.fr 2
          obtain ⟨x2, hx2⟩ : ∃ x2, x1 + 3600 = x2 := ⟨_, rfl⟩
          have hp := Inv.hour HP.out HI.out HL.out.1 (HL.out.2.1 (by omega)) (HL.out.2.2.1 (by omega)) (fun h => by unfold hOK at h; rw [show (cxOf S x0 Y).ho _ = false from HH.out] at h; simp at h) (x1 := x1) (x2 := x2) (by rw [HX1.out]; rfl) hx2.symm
          have hr2 := inv_rng HN.out.tl hp.1 hr
          have HPM := Lib.hid hp
          have HX2 := Lib.hid hx2
          clear hx2 hp
          cases hm1 : (lo z x2 % 86400 / 3600 == 0) with
          | true =>
            go_wp2_with (first
              | (go_at_call 68; refine (tAdd0 x1 _ 3600 L _ (by omega) (by omega) (by omega) (by omega) (by decide) (by decide)).mono ?_; rintro e w1 ⟨rfl, hb1⟩; rw [HX2.out]; have HN2 := Lib.hid (HN1.out.call hb1); clear hb1 q0 q1 q2 f0 f1 f2; have q0 := HN2.out.t0; have q1 := HN2.out.t1; have q2 := HN2.out.t2; have f0 := HN2.out.fr 0; have f1 := HN2.out.fr 1; have f2 := HN2.out.fr 2)
              | (go_at_call 77; refine (tHour 0 x2 L z _ (HN2.out.store x2).tloc hn0 (by omega) (by omega)).mono ?_; rintro e w2 ⟨rfl, hb2⟩; have HN3 := Lib.hid ((HN2.out.store x2).call hb2); clear hb2 q0 q1 q2 f0 f1 f2))
            go_step3
            exact ⟨rfl, _, Nat.lt_of_lt_of_le HPM.out.2.1 (by rw [HM.out]; exact hn), x2, true, ⟨fr_ex, HN3.out, HPM.out.1⟩, rfl⟩
          | false =>
            go_wp2_with (first
              | (go_at_call 68; refine (tAdd0 x1 _ 3600 L _ (by omega) (by omega) (by omega) (by omega) (by decide) (by decide)).mono ?_; rintro e w1 ⟨rfl, hb1⟩; rw [HX2.out]; have HN2 := Lib.hid (HN1.out.call hb1); clear hb1 q0 q1 q2 f0 f1 f2; have q0 := HN2.out.t0; have q1 := HN2.out.t1; have q2 := HN2.out.t2; have f0 := HN2.out.fr 0; have f1 := HN2.out.fr 1; have f2 := HN2.out.fr 2)
              | (go_at_call 77; refine (tHour 0 x2 L z _ (HN2.out.store x2).tloc hn0 (by omega) (by omega)).mono ?_; rintro e w2 ⟨rfl, hb2⟩; have HN3 := Lib.hid ((HN2.out.store x2).call hb2); clear hb2 q0 q1 q2 f0 f1 f2))
            exact ⟨_, (by rw [← HM.out]; exact HPM.out.2.1), x2, true, ⟨fr_ex, HN3.out, HPM.out.1⟩, rfl, Nat.le_trans (Nat.le_of_lt HPM.out.2.1) (by rw [HM.out]; exact hn), (HPM.out.2.2.1 (by simpa using hm1)).1, fun _ => (HPM.out.2.2.1 (by simpa using hm1)).2.1, fun _ => (HPM.out.2.2.1 (by simpa using hm1)).2.2, by omega, by omega, by omega⟩
end
end Go.Proofs.Ytjmgebhjkbcpcaa.NM
set_option linter.unusedVariables false
set_option linter.unusedSimpArgs false
set_option maxRecDepth 100000
namespace Go.Proofs.Ytjmgebhjkbcpcaa.NM
open Go.RowKit Cal CronPl
section
variable (w : World) (bs bO bL : Nat) (ar : Value) (L : Option Addr) (z : Option Zone) (S : Sets) (x0 Y : Int) (P : Plain (lo z) (fun T => reso z T + 62135596800)) (hr : Rng x0 Y) (top : Nat)
set_option maxHeartbeats 4000000 in
include P hr in
theorem minute_round (n : Nat) (a' : Act) (wx : World) (hI : IL w bs bO bL ar L z S x0 Y top 3 n a' wx) :
    Code.wp Try.prog (body70 6) (Exit.then (fun a' w' => ∃ m, m < n ∧ IL w bs bO bL ar L z S x0 Y top 3 m a' w')
      (QM 6 (fun a' wx => ∃ n, IL w bs bO bL ar L z S x0 Y top 4 n a' wx) (fun a' wx => ∃ m, m < top ∧ JW w bs bO bL ar L z S x0 Y m a' wx))) a' wx := by
  obtain ⟨x, a, hh, hmu, hn, hlev⟩ := hI
  have hrg := hh.rng hr
  obtain ⟨⟨U, rfl⟩, hns, hiv⟩ := hh
  have t0 := hns.t0
  have t1 := hns.t1
  have t2 := hns.t2
  have HN := Lib.hid hns
  have HI := Lib.hid hiv
  have HL := Lib.hid hlev
  have HM := Lib.hid hmu
  have HP := Lib.hid P
  have hn0 : Nan 0 := ⟨by decide, by decide⟩
  have s4 := hns.spec.c1
  have e0 := not_hit S.mi (lo z x % 3600 / 60)
  have e1 : IntKind.u64.wrap (lo z x % 3600 / 60) = lo z x % 3600 / 60 := u64wrap_small _ (by omega) (by omega)
  have eb : 0 ≤ lo z x % 3600 / 60 ∧ lo z x % 3600 / 60 ≤ 60 := by omega
  clear hns hiv hlev hmu P
  conv => arg 2; whnf
  unfold fr70
  go_upto_region 34 with fail
  go_cut [140] from 131 to 149 (fun s53 wc => s53 = .bool (!hit S.mi (lo z x % 3600 / 60)) ∧ Below wx.heap.size wx wc)
  case first =>
    go_region_with (go_at_call 78; refine (tMinute 0 x L z _ (HN.out.tloc.below (Below.refl _ _).drew) hn0 (by omega) (by omega)).mono ?_; rintro e w1 ⟨rfl, hb1⟩; have hd5 := keep hb1 (show wx.drew.cell? ⟨bs, 1, none⟩ = some (.int .u64 S.mi) from s4))
    all_goals (go_wp2_with fail; go_meet; exact ⟨rfl, (Below.refl _ _).drew.trans hb1⟩)
  case rest =>
    obtain ⟨rfl, hb1⟩ := hcut
    have HN1 := Lib.hid (HN.out.call hb1)
    have q0 := HN1.out.t0
    have q1 := HN1.out.t1
    have q2 := HN1.out.t2
    have f0 := HN1.out.fr 0
    have f1 := HN1.out.fr 1
    have f2 := HN1.out.fr 2
    clear hb1 t0 t1 t2 s4 e0 e1 eb
    cases hh : hit S.mi (lo z x % 3600 / 60) with
    | true =>
      simp only [Bool.not_true]
      have HH := Lib.hid hh
      clear hh
      go_wp2
      exact ⟨rfl, n, x, a, ⟨fr_ex, HN1.out, HI.out⟩, HM.out, hn, HL.out.1, fun _ => HL.out.2.1 (by omega), fun _ => HL.out.2.2.1 (by omega), fun _ => HL.out.2.2.2.1 (by omega), fun _ => HH.out, by omega⟩
    | false =>
      simp only [Bool.not_false]
      have HH := Lib.hid hh
      clear hh
      cases a with
      | true =>
        obtain ⟨x2, hx2⟩ : ∃ x2, x + 60 = x2 := ⟨_, rfl⟩
        have hp := Inv.minute HP.out HI.out HL.out.1 (HL.out.2.1 (by omega)) (HL.out.2.2.1 (by omega)) (HL.out.2.2.2.1 (by omega)) (fun h => by unfold iOK at h; rw [show (cxOf S x0 Y).mi _ = false from HH.out] at h; simp at h) (x1 := x) (x2 := x2) rfl hx2.symm
        have hr2 := inv_rng HN.out.tl hp.1 hr
        have HPM := Lib.hid hp
        have HX2 := Lib.hid hx2
        clear hx2 hp
        cases hm1 : (lo z x2 % 3600 / 60 == 0) with
        | true =>
          go_wp2_with (first
            | (go_at_call 68; refine (tAdd0 x _ 60 L _ (by omega) (by omega) (by omega) (by omega) (by decide) (by decide)).mono ?_; rintro e w1 ⟨rfl, hb1⟩; rw [HX2.out]; have HN2 := Lib.hid (HN1.out.call hb1); clear hb1 q0 q1 q2 f0 f1 f2; have q0 := HN2.out.t0; have q1 := HN2.out.t1; have q2 := HN2.out.t2; have f0 := HN2.out.fr 0; have f1 := HN2.out.fr 1; have f2 := HN2.out.fr 2)
            | (go_at_call 78; refine (tMinute 0 x2 L z _ (HN2.out.store x2).tloc hn0 (by omega) (by omega)).mono ?_; rintro e w2 ⟨rfl, hb2⟩; have HN3 := Lib.hid ((HN2.out.store x2).call hb2); clear hb2 q0 q1 q2 f0 f1 f2))
          go_step3
          exact ⟨rfl, _, Nat.lt_of_lt_of_le HPM.out.2.1 (by rw [HM.out]; exact hn), x2, true, ⟨fr_ex, HN3.out, HPM.out.1⟩, rfl⟩
        | false =>
          go_wp2_with (first
            | (go_at_call 68; refine (tAdd0 x _ 60 L _ (by omega) (by omega) (by omega) (by omega) (by decide) (by decide)).mono ?_; rintro e w1 ⟨rfl, hb1⟩; rw [HX2.out]; have HN2 := Lib.hid (HN1.out.call hb1); clear hb1 q0 q1 q2 f0 f1 f2; have q0 := HN2.out.t0; have q1 := HN2.out.t1; have q2 := HN2.out.t2; have f0 := HN2.out.fr 0; have f1 := HN2.out.fr 1; have f2 := HN2.out.fr 2)
            | (go_at_call 78; refine (tMinute 0 x2 L z _ (HN2.out.store x2).tloc hn0 (by omega) (by omega)).mono ?_; rintro e w2 ⟨rfl, hb2⟩; have HN3 := Lib.hid ((HN2.out.store x2).call hb2); clear hb2 q0 q1 q2 f0 f1 f2))
          exact ⟨_, (by rw [← HM.out]; exact HPM.out.2.1), x2, true, ⟨fr_ex, HN3.out, HPM.out.1⟩, rfl, Nat.le_trans (Nat.le_of_lt HPM.out.2.1) (by rw [HM.out]; exact hn), (HPM.out.2.2.1 (by simpa using hm1)).1, fun _ => (HPM.out.2.2.1 (by simpa using hm1)).2.1, fun _ => (HPM.out.2.2.1 (by simpa using hm1)).2.2.1, fun _ => (HPM.out.2.2.1 (by simpa using hm1)).2.2.2, by omega, by omega⟩
      | false =>
        have hx0 : 0 ≤ x := by rw [HI.out.no rfl]; exact hr.l0
        obtain ⟨x1, hx1⟩ : ∃ x1, x - x % 60 = x1 := ⟨_, rfl⟩
        have hx1a : -6000000 ≤ x1 ∧ x1 ≤ 840000000000 := by omega
        have HX1 := Lib.hid hx1
        clear hx1
        obtain ⟨x2, hx2⟩ : ∃ x2, x1 + 60 = x2 := ⟨_, rfl⟩
        have hp := Inv.minute HP.out HI.out HL.out.1 (HL.out.2.1 (by omega)) (HL.out.2.2.1 (by omega)) (HL.out.2.2.2.1 (by omega)) (fun h => by unfold iOK at h; rw [show (cxOf S x0 Y).mi _ = false from HH.out] at h; simp at h) (x1 := x1) (x2 := x2) HX1.out.symm hx2.symm
        have hr2 := inv_rng HN.out.tl hp.1 hr
        have HPM := Lib.hid hp
        have HX2 := Lib.hid hx2
        clear hx2 hp
        cases hm1 : (lo z x2 % 3600 / 60 == 0) with
        | true =>
          go_wp2_with (first
            | (go_at_call 79; refine (tTrunc60 x L _ hx0 (by omega)).mono ?_; rintro e w0 ⟨rfl, hb0⟩; rw [HX1.out]; have HNa := Lib.hid (HN1.out.call hb0); clear hb0 q0 q1 q2 f0 f1 f2; have q0 := HNa.out.t0; have q1 := HNa.out.t1; have q2 := HNa.out.t2; have f0 := HNa.out.fr 0; have f1 := HNa.out.fr 1; have f2 := HNa.out.fr 2)
            | (go_at_call 68; refine (tAdd0 x1 _ 60 L _ (by omega) (by omega) (by omega) (by omega) (by decide) (by decide)).mono ?_; rintro e w1 ⟨rfl, hb1⟩; rw [HX2.out]; have HN2 := Lib.hid ((HNa.out.store x1).call hb1); clear hb1 q0 q1 q2 f0 f1 f2; have q0 := HN2.out.t0; have q1 := HN2.out.t1; have q2 := HN2.out.t2; have f0 := HN2.out.fr 0; have f1 := HN2.out.fr 1; have f2 := HN2.out.fr 2)
            | (go_at_call 78; refine (tMinute 0 x2 L z _ (HN2.out.store x2).tloc hn0 (by omega) (by omega)).mono ?_; rintro e w2 ⟨rfl, hb2⟩; have HN3 := Lib.hid ((HN2.out.store x2).call hb2); clear hb2 q0 q1 q2 f0 f1 f2))
          go_step3
          exact ⟨rfl, _, Nat.lt_of_lt_of_le HPM.out.2.1 (by rw [HM.out]; exact hn), x2, true, ⟨fr_ex, HN3.out, HPM.out.1⟩, rfl⟩
        | false =>
          go_wp2_with (first
            | (go_at_call 79; refine (tTrunc60 x L _ hx0 (by omega)).mono ?_; rintro e w0 ⟨rfl, hb0⟩; rw [HX1.out]; have HNa := Lib.hid (HN1.out.call hb0); clear hb0 q0 q1 q2 f0 f1 f2; have q0 := HNa.out.t0; have q1 := HNa.out.t1; have q2 := HNa.out.t2; have f0 := HNa.out.fr 0; have f1 := HNa.out.fr 1; have f2 := HNa.out.fr 2)
            | (go_at_call 68; refine (tAdd0 x1 _ 60 L _ (by omega) (by omega) (by omega) (by omega) (by decide) (by decide)).mono ?_; rintro e w1 ⟨rfl, hb1⟩; rw [HX2.out]; have HN2 := Lib.hid ((HNa.out.store x1).call hb1); clear hb1 q0 q1 q2 f0 f1 f2; have q0 := HN2.out.t0; have q1 := HN2.out.t1; have q2 := HN2.out.t2; have f0 := HN2.out.fr 0; have f1 := HN2.out.fr 1; have f2 := HN2.out.fr 2)
            | (go_at_call 78; refine (tMinute 0 x2 L z _ (HN2.out.store x2).tloc hn0 (by omega) (by omega)).mono ?_; rintro e w2 ⟨rfl, hb2⟩; have HN3 := Lib.hid ((HN2.out.store x2).call hb2); clear hb2 q0 q1 q2 f0 f1 f2))
          exact ⟨_, (by rw [← HM.out]; exact HPM.out.2.1), x2, true, ⟨fr_ex, HN3.out, HPM.out.1⟩, rfl, Nat.le_trans (Nat.le_of_lt HPM.out.2.1) (by rw [HM.out]; exact hn), (HPM.out.2.2.1 (by simpa using hm1)).1, fun _ => (HPM.out.2.2.1 (by simpa using hm1)).2.1, fun _ => (HPM.out.2.2.1 (by simpa using hm1)).2.2.1, fun _ => (HPM.out.2.2.1 (by simpa using hm1)).2.2.2, by omega, by omega⟩
end
end Go.Proofs.Ytjmgebhjkbcpcaa.NM
set_option linter.unusedVariables false
set_option linter.unusedSimpArgs false
set_option maxRecDepth 100000
namespace Go.Proofs.Ytjmgebhjkbcpcaa.NM
open Go.RowKit Cal CronPl
section
variable (w : World) (bs bO bL : Nat) (ar : Value) (L : Option Addr) (z : Option Zone) (S : Sets) (x0 Y : Int) (P : Plain (lo z) (fun T => reso z T + 62135596800)) (hr : Rng x0 Y) (top : Nat)
set_option maxHeartbeats 4000000 in
include P hr in
theorem second_round (n : Nat) (a' : Act) (wx : World) (hI : IL w bs bO bL ar L z S x0 Y top 4 n a' wx) :
    Code.wp Try.prog (body70 8) (Exit.then (fun a' w' => ∃ m, m < n ∧ IL w bs bO bL ar L z S x0 Y top 4 m a' w')
      (QM 8 (fun a' wx => ∃ n, IL w bs bO bL ar L z S x0 Y top 5 n a' wx) (fun a' wx => ∃ m, m < top ∧ JW w bs bO bL ar L z S x0 Y m a' wx))) a' wx := by
  obtain ⟨x, a, hh, hmu, hn, hlev⟩ := hI
  have hrg := hh.rng hr
  obtain ⟨⟨U, rfl⟩, hns, hiv⟩ := hh
  have t0 := hns.t0
  have t1 := hns.t1
  have t2 := hns.t2
  have HN := Lib.hid hns
  have HI := Lib.hid hiv
  have HL := Lib.hid hlev
  have HM := Lib.hid hmu
  have HP := Lib.hid P
  have hn0 : Nan 0 := ⟨by decide, by decide⟩
  have s4 := hns.spec.c0
  have e0 := not_hit S.se (lo z x % 60)
  have e1 : IntKind.u64.wrap (lo z x % 60) = lo z x % 60 := u64wrap_small _ (by omega) (by omega)
  have eb : 0 ≤ lo z x % 60 ∧ lo z x % 60 ≤ 60 := by omega
  clear hns hiv hlev hmu P
  conv => arg 2; whnf
  unfold fr70
  go_upto_region 40 with fail
  go_cut [159] from 150 to 168 (fun s53 wc => s53 = .bool (!hit S.se (lo z x % 60)) ∧ Below wx.heap.size wx wc)
  case first =>
    go_region_with (go_at_call 80; refine (tSecond 0 x L z _ (HN.out.tloc.below (Below.refl _ _).drew) hn0 (by omega) (by omega)).mono ?_; rintro e w1 ⟨rfl, hb1⟩; have hd5 := keep hb1 (show wx.drew.cell? ⟨bs, 0, none⟩ = some (.int .u64 S.se) from s4))
    all_goals (go_wp2_with fail; go_meet; exact ⟨rfl, (Below.refl _ _).drew.trans hb1⟩)
  case rest =>
    obtain ⟨rfl, hb1⟩ := hcut
    have HN1 := Lib.hid (HN.out.call hb1)
    have q0 := HN1.out.t0
    have q1 := HN1.out.t1
    have q2 := HN1.out.t2
    have f0 := HN1.out.fr 0
    have f1 := HN1.out.fr 1
    have f2 := HN1.out.fr 2
    clear hb1 t0 t1 t2 s4 e0 e1 eb
    cases hh : hit S.se (lo z x % 60) with
    | true =>
      simp only [Bool.not_true]
      have HH := Lib.hid hh
      clear hh
      go_wp2
      exact ⟨rfl, n, x, a, ⟨fr_ex, HN1.out, HI.out⟩, HM.out, hn, HL.out.1, fun _ => HL.out.2.1 (by omega), fun _ => HL.out.2.2.1 (by omega), fun _ => HL.out.2.2.2.1 (by omega), fun _ => HL.out.2.2.2.2.1 (by omega), fun _ => HH.out⟩
    | false =>
      simp only [Bool.not_false]
      have HH := Lib.hid hh
      clear hh
      cases a with
      | true =>
        obtain ⟨x2, hx2⟩ : ∃ x2, x + 1 = x2 := ⟨_, rfl⟩
        have hp := Inv.second HP.out HI.out HL.out.1 (HL.out.2.1 (by omega)) (HL.out.2.2.1 (by omega)) (HL.out.2.2.2.1 (by omega)) (HL.out.2.2.2.2.1 (by omega)) (fun h => by unfold sOK at h; rw [show (cxOf S x0 Y).se _ = false from HH.out] at h; simp at h) (x2 := x2) hx2.symm
        have hr2 := inv_rng HN.out.tl hp.1 hr
        have HPM := Lib.hid hp
        have HX2 := Lib.hid hx2
        clear hx2 hp
        cases hm1 : (lo z x2 % 60 == 0) with
        | true =>
          go_wp2_with (first
            | (go_at_call 68; refine (tAdd0 x _ 1 L _ (by omega) (by omega) (by omega) (by omega) (by decide) (by decide)).mono ?_; rintro e w1 ⟨rfl, hb1⟩; rw [HX2.out]; have HN2 := Lib.hid (HN1.out.call hb1); clear hb1 q0 q1 q2 f0 f1 f2; have q0 := HN2.out.t0; have q1 := HN2.out.t1; have q2 := HN2.out.t2; have f0 := HN2.out.fr 0; have f1 := HN2.out.fr 1; have f2 := HN2.out.fr 2)
            | (go_at_call 80; refine (tSecond 0 x2 L z _ (HN2.out.store x2).tloc hn0 (by omega) (by omega)).mono ?_; rintro e w2 ⟨rfl, hb2⟩; have HN3 := Lib.hid ((HN2.out.store x2).call hb2); clear hb2 q0 q1 q2 f0 f1 f2))
          go_step3
          exact ⟨rfl, _, Nat.lt_of_lt_of_le HPM.out.2.1 (by rw [HM.out]; exact hn), x2, true, ⟨fr_ex, HN3.out, HPM.out.1⟩, rfl⟩
        | false =>
          go_wp2_with (first
            | (go_at_call 68; refine (tAdd0 x _ 1 L _ (by omega) (by omega) (by omega) (by omega) (by decide) (by decide)).mono ?_; rintro e w1 ⟨rfl, hb1⟩; rw [HX2.out]; have HN2 := Lib.hid (HN1.out.call hb1); clear hb1 q0 q1 q2 f0 f1 f2; have q0 := HN2.out.t0; have q1 := HN2.out.t1; have q2 := HN2.out.t2; have f0 := HN2.out.fr 0; have f1 := HN2.out.fr 1; have f2 := HN2.out.fr 2)
            | (go_at_call 80; refine (tSecond 0 x2 L z _ (HN2.out.store x2).tloc hn0 (by omega) (by omega)).mono ?_; rintro e w2 ⟨rfl, hb2⟩; have HN3 := Lib.hid ((HN2.out.store x2).call hb2); clear hb2 q0 q1 q2 f0 f1 f2))
          exact ⟨_, (by rw [← HM.out]; exact HPM.out.2.1), x2, true, ⟨fr_ex, HN3.out, HPM.out.1⟩, rfl, Nat.le_trans (Nat.le_of_lt HPM.out.2.1) (by rw [HM.out]; exact hn), (HPM.out.2.2 (by simpa using hm1)).1, fun _ => (HPM.out.2.2 (by simpa using hm1)).2.1, fun _ => (HPM.out.2.2 (by simpa using hm1)).2.2.1, fun _ => (HPM.out.2.2 (by simpa using hm1)).2.2.2.1, fun _ => (HPM.out.2.2 (by simpa using hm1)).2.2.2.2, by omega⟩
      | false =>
        have hx0 : 0 ≤ x := by rw [HI.out.no rfl]; exact hr.l0
        obtain ⟨x2, hx2⟩ : ∃ x2, x + 1 = x2 := ⟨_, rfl⟩
        have hp := Inv.second HP.out HI.out HL.out.1 (HL.out.2.1 (by omega)) (HL.out.2.2.1 (by omega)) (HL.out.2.2.2.1 (by omega)) (HL.out.2.2.2.2.1 (by omega)) (fun h => by unfold sOK at h; rw [show (cxOf S x0 Y).se _ = false from HH.out] at h; simp at h) (x2 := x2) hx2.symm
        have hr2 := inv_rng HN.out.tl hp.1 hr
        have HPM := Lib.hid hp
        have HX2 := Lib.hid hx2
        clear hx2 hp
        cases hm1 : (lo z x2 % 60 == 0) with
        | true =>
          go_wp2_with (first
            | (go_at_call 79; refine (tTrunc1 x L _ hx0 (by omega)).mono ?_; rintro e w0 ⟨rfl, hb0⟩; have HNa := Lib.hid (HN1.out.call hb0); clear hb0 q0 q1 q2 f0 f1 f2; have q0 := HNa.out.t0; have q1 := HNa.out.t1; have q2 := HNa.out.t2; have f0 := HNa.out.fr 0; have f1 := HNa.out.fr 1; have f2 := HNa.out.fr 2)
            | (go_at_call 68; refine (tAdd0 x _ 1 L _ (by omega) (by omega) (by omega) (by omega) (by decide) (by decide)).mono ?_; rintro e w1 ⟨rfl, hb1⟩; rw [HX2.out]; have HN2 := Lib.hid ((HNa.out.store x).call hb1); clear hb1 q0 q1 q2 f0 f1 f2; have q0 := HN2.out.t0; have q1 := HN2.out.t1; have q2 := HN2.out.t2; have f0 := HN2.out.fr 0; have f1 := HN2.out.fr 1; have f2 := HN2.out.fr 2)
            | (go_at_call 80; refine (tSecond 0 x2 L z _ (HN2.out.store x2).tloc hn0 (by omega) (by omega)).mono ?_; rintro e w2 ⟨rfl, hb2⟩; have HN3 := Lib.hid ((HN2.out.store x2).call hb2); clear hb2 q0 q1 q2 f0 f1 f2))
          go_step3
          exact ⟨rfl, _, Nat.lt_of_lt_of_le HPM.out.2.1 (by rw [HM.out]; exact hn), x2, true, ⟨fr_ex, HN3.out, HPM.out.1⟩, rfl⟩
        | false =>
          go_wp2_with (first
            | (go_at_call 79; refine (tTrunc1 x L _ hx0 (by omega)).mono ?_; rintro e w0 ⟨rfl, hb0⟩; have HNa := Lib.hid (HN1.out.call hb0); clear hb0 q0 q1 q2 f0 f1 f2; have q0 := HNa.out.t0; have q1 := HNa.out.t1; have q2 := HNa.out.t2; have f0 := HNa.out.fr 0; have f1 := HNa.out.fr 1; have f2 := HNa.out.fr 2)
            | (go_at_call 68; refine (tAdd0 x _ 1 L _ (by omega) (by omega) (by omega) (by omega) (by decide) (by decide)).mono ?_; rintro e w1 ⟨rfl, hb1⟩; rw [HX2.out]; have HN2 := Lib.hid ((HNa.out.store x).call hb1); clear hb1 q0 q1 q2 f0 f1 f2; have q0 := HN2.out.t0; have q1 := HN2.out.t1; have q2 := HN2.out.t2; have f0 := HN2.out.fr 0; have f1 := HN2.out.fr 1; have f2 := HN2.out.fr 2)
            | (go_at_call 80; refine (tSecond 0 x2 L z _ (HN2.out.store x2).tloc hn0 (by omega) (by omega)).mono ?_; rintro e w2 ⟨rfl, hb2⟩; have HN3 := Lib.hid ((HN2.out.store x2).call hb2); clear hb2 q0 q1 q2 f0 f1 f2))
          exact ⟨_, (by rw [← HM.out]; exact HPM.out.2.1), x2, true, ⟨fr_ex, HN3.out, HPM.out.1⟩, rfl, Nat.le_trans (Nat.le_of_lt HPM.out.2.1) (by rw [HM.out]; exact hn), (HPM.out.2.2 (by simpa using hm1)).1, fun _ => (HPM.out.2.2 (by simpa using hm1)).2.1, fun _ => (HPM.out.2.2 (by simpa using hm1)).2.2.1, fun _ => (HPM.out.2.2 (by simpa using hm1)).2.2.2.1, fun _ => (HPM.out.2.2 (by simpa using hm1)).2.2.2.2, by omega⟩
end
end Go.Proofs.Ytjmgebhjkbcpcaa.NM
