/- a part of the proof: FnCronListNext: for every six words, kind of field, part and instant the law function returns true and leaves its arguments as they were. No condition is added: the statement is the given one, the tied card. -/
import Derived.Test.YtjmgebhjkbcpcaaGreatDoorNK
import Derived.Test.YtjmgebhjkbcpcaaGreatDoorNM
import Derived.Laws.Append
import Derived.Laws.Bits64
import Derived.Deep.RegionHeld3
section
set_option linter.unusedVariables false
set_option linter.unusedSimpArgs false
namespace Go.Proofs.YtjmgebhjkbcpcaaGreatDoor.Txt
open Go.Proofs.YtjmgebhjkbcpcaaGreatDoor.NM
open Go Go.RowKit Go.Proofs.YtjmgebhjkbcpcaaGreatDoorW.PrintWords Go.Proofs.YtjmgebhjkbcpcaaGreatDoorW.PrintLast Go.Proofs.YtjmgebhjkbcpcaaGreatDoorW.PrintMore Go.Proofs.YtjmgebhjkbcpcaaGreatDoor.PCronParse
set_option maxRecDepth 100000
theorem zhead_cut (A b : Bs) : zhead (A ++ 32 :: b) = zhead A := by
  unfold zhead
  rw [prefix_cut _ _ (by decide), prefix_cut _ _ (by decide)]
theorem zhead_le (A : Bs) : zhead A ≤ A.length := by
  unfold zhead
  split
  · rename_i h
    have := (List.isPrefixOf_iff_prefix.1 h).length_le
    simpa using this
  · split
    · rename_i h
      have := (List.isPrefixOf_iff_prefix.1 h).length_le
      simpa using this
    · exact Nat.zero_le _
theorem zname_drop (A : Bs) (h : 0 < zhead A) : zname A = A.drop (zhead A) := by
  unfold zhead at h ⊢
  unfold zname
  split
  · rfl
  · rename_i h1
    rw [if_neg h1] at h
    split
    · rfl
    · rename_i h2
      rw [if_neg h2] at h
      omega
theorem tZone (a : ByteArray) (hs : a.size < 1099511627776) (w : World) : Calls Tryz.prog 19 #[.string a] w fun e w' => ∃ u v, e = .returned (.tuple #[.bool u, .int .i64 v]) ∧ ((v = 1 ∧ zoneFine (tx a)) ∨ ((v = 0 ∨ v = 2) ∧ ¬ zoneFine (tx a))) ∧ Below w.heap.size w w' := by
  obtain ⟨u, v, h, hv⟩ := zone_f a hs (a.size + 4) (by omega)
  exact (spec_CronZoneName.calls _ _ u v w h).mono fun e w' he => ⟨u, v, he.1, hv, he.2.below⟩
theorem tTrim (a : ByteArray) (hs : a.size < 1099511627776) (w : World) : Calls Tryz.prog 20 #[.string a] w fun e w' => e = .returned (.string (mk (trim (tx a)))) ∧ Below w.heap.size w w' :=
  (spec_CronTrim.calls (2 * a.size + 3) a _ w (trim_f a hs _ (by omega))).mono fun e w' h => ⟨h.1, h.2.below⟩
theorem good_nil : ¬ Good [] := fun h => by have := h.2.2.1; simp [words_nil] at this
set_option maxHeartbeats 4000000 in
theorem tParse (a : ByteArray) (hs : a.size < 1099511627776) (w : World) :
    Calls Tryz.prog 9 #[.int .i64 125, .string a] w fun e w' =>
      ∃ (us : Array Value) (v : Int), e = .returned (.tuple #[.agg us, .int .i64 v]) ∧ us.size = 387 ∧ us.all (·.oneCell') = true ∧ (v = 1 ↔ Fine (tx a)) ∧ Below w.heap.size w w' := by
  have hh := fun w => tHead a w
  have hzi := zhead_isHead (tx a)
  have hnz : (zhead (tx a) : Int) = 0 ∨ 0 < (zhead (tx a) : Int) := by omega
  by_cases c0 : zhead (tx a) = 0
  · rw [c0] at hh hzi
    have hno : isHead (tx a) = false := by rw [hzi]; rfl
    have hfine : Fine (tx a) ↔ Good (tx a) := by unfold Fine; rw [hno]; simp
    have HFI := Lib.hid hfine
    have HH : Hid (∀ w, Calls Tryz.prog 16 #[.string a] w fun e w' => e = .returned (.int .i64 0) ∧ Below w.heap.size w w') := Lib.hid hh
    clear hh hzi hno hfine hnz c0
    by_cases ce : a.toList.isEmpty = true
    · have hng : ¬ Fine (tx a) := by
        rw [HFI.out]
        have : tx a = [] := by rw [tx_toList] at ce; exact List.isEmpty_iff.1 ce
        rw [this]
        exact good_nil
      have HNG := Lib.hid hng
      clear hng
      go_enter Tryz.func9, Tryz.ntmps9
      go_wp2_with (first
        | (go_at_call 16; refine (HH.out _).mono ?_; rintro e w1 ⟨rfl, hb1⟩; have X1 : Hid (Z39 w w1) := Lib.hid ((Z39.new w).keep hb1); have R1 := Lib.hid X1.out.1; have B1 := Lib.hid X1.out.2; clear hb1)
        | ((with_reducible refine wpList_store_row (o := ⟨none, .store 39 (.tmp 4) (.tmp 19), _, _, _, _⟩) ?b1 39 (.tmp 4) (.tmp 19) ?b2 w.heap.size Tryz.zeroCells39 ?b3 ?b4 39 R1.out.choose ?b5 ?b6 ?b7 ?b8 ?_); (case b1 => rfl); (case b2 => rfl); (case b3 => rfl); (case b4 => rfl); (case b5 => exact R1.out.choose_spec.2); (case b6 => rw [zero39_ok.1]; exact inf39); (case b7 => rw [zero39_ok.1]; exact R1.out.choose_spec.1); (case b8 => exact zero39_ok.2)))
      refine bodyPost_ret (v := .tuple #[.agg Tryz.zeroCells39, .int .i64 0]) (results_row_tmp (p := 4) (q := 5) rfl _ _ w.heap.size 39 _ (0, 0) _ rfl rfl (setRow_heap _ _ R1.out.choose _ 39 (0, 0) R1.out.choose_spec.2) und39 rfl (by rw [zero39_ok.1]; exact inf39)) rfl ⟨_, _, rfl, zero39_ok.1, by simpa using zero39_ok.2, by simpa using HNG.out, Below.setRow' B1.out (Nat.le_refl _) _⟩
    · have ce' : a.toList.isEmpty = false := Bool.eq_false_iff.2 ce
      clear ce
      go_enter Tryz.func9, Tryz.ntmps9
      go_wp2_with (first
        | (go_at_call 16; refine (HH.out _).mono ?_; rintro e w1 ⟨rfl, hb1⟩; have X1 : Hid (Z39 w w1) := Lib.hid ((Z39.new w).keep hb1); clear hb1)
        | (go_at_call 17; refine (tPlain a hs _).mono ?_; rintro e w2 ⟨us, v, rfl, hu1, hu2, hu3, hv1, hv2, hb2⟩; have X2 : Hid (Z39 w w2) := Lib.hid (X1.out.keep hb2); have R2 := Lib.hid X2.out.1; have B2 := Lib.hid X2.out.2; have US := Lib.hid (And.intro hu1 hu2); have VS := Lib.hid hv2; clear hb2 hu1 hu2 hu3 hv1 hv2)
        | ((with_reducible refine wpList_store_row (o := ⟨none, .store 39 (.tmp 4) (.tmp 23), _, _, _, _⟩) ?b1 39 (.tmp 4) (.tmp 23) ?b2 w.heap.size us ?b3 ?b4 39 R2.out.choose ?b5 ?b6 ?b7 ?b8 ?_); (case b1 => rfl); (case b2 => rfl); (case b3 => rfl); (case b4 => rfl); (case b5 => exact R2.out.choose_spec.2); (case b6 => rw [US.out.1]; exact inf39); (case b7 => rw [US.out.1]; exact R2.out.choose_spec.1); (case b8 => exact US.out.2)))
      refine bodyPost_ret (v := .tuple #[.agg us, .int .i64 v]) (results_row_tmp (p := 4) (q := 5) rfl _ _ w.heap.size 39 _ (0, 0) _ rfl rfl (setRow_heap _ _ R2.out.choose _ 39 (0, 0) R2.out.choose_spec.2) und39 rfl (by rw [US.out.1]; exact inf39)) rfl ⟨_, _, rfl, US.out.1, by simpa using US.out.2, by rw [VS.out, HFI.out], Below.setRow' B2.out (Nat.le_refl _) _⟩
  · have hyes : isHead (tx a) = true := by rw [hzi]; exact decide_eq_true (by omega)
    obtain ⟨h, hh'⟩ : ∃ h, zhead (tx a) = h := ⟨_, rfl⟩
    rw [hh'] at hh hnz c0
    have hne : ((h : Int) == 0) = false := by simpa using c0
    have hna := fun w => tNoAnswer a hs w
    rw [hyes, Bool.true_and] at hna
    have HH := Lib.hid hh
    have HHE := Lib.hid hh'
    have HC0 := Lib.hid c0
    clear hh hzi hnz hh' c0
    cases hts : toSpace (tx a) with
    | none =>
      rw [hts] at hna
      have hng : ¬ Fine (tx a) := by
        unfold Fine
        rw [hyes, if_pos rfl]
        rintro ⟨A, B, h1, _⟩
        rw [hts] at h1
        simp at h1
      have HNG := Lib.hid hng
      have HNA : Hid (∀ w, Calls Tryz.prog 18 #[.string a] w fun e w' => e = .returned (.bool true) ∧ Below w.heap.size w w') := Lib.hid hna
      clear hng hna hts hyes
      go_enter Tryz.func9, Tryz.ntmps9
      go_wp2_with (first
        | (go_at_call 16; refine (HH.out _).mono ?_; rintro e w1 ⟨rfl, hb1⟩; have X1 : Hid (Z39 w w1) := Lib.hid ((Z39.new w).keep hb1); clear hb1)
        | (go_at_call 18; refine (HNA.out _).mono ?_; rintro e w2 ⟨rfl, hb2⟩; have X2 : Hid (Z39 w w2) := Lib.hid (X1.out.keep hb2); have R2 := Lib.hid X2.out.1; have B2 := Lib.hid X2.out.2; clear hb2)
        | ((with_reducible refine wpList_store_row (o := ⟨none, .store 39 (.tmp 4) (.tmp 27), _, _, _, _⟩) ?b1 39 (.tmp 4) (.tmp 27) ?b2 w.heap.size Tryz.zeroCells39 ?b3 ?b4 39 R2.out.choose ?b5 ?b6 ?b7 ?b8 ?_); (case b1 => rfl); (case b2 => rfl); (case b3 => rfl); (case b4 => rfl); (case b5 => exact R2.out.choose_spec.2); (case b6 => rw [zero39_ok.1]; exact inf39); (case b7 => rw [zero39_ok.1]; exact R2.out.choose_spec.1); (case b8 => exact zero39_ok.2)))
      refine bodyPost_ret (v := .tuple #[.agg Tryz.zeroCells39, .int .i64 2]) (results_row_tmp (p := 4) (q := 5) rfl _ _ w.heap.size 39 _ (0, 0) _ rfl rfl (setRow_heap _ _ R2.out.choose _ 39 (0, 0) R2.out.choose_spec.2) und39 rfl (by rw [zero39_ok.1]; exact inf39)) rfl ⟨_, _, rfl, zero39_ok.1, by simpa using zero39_ok.2, by simpa using HNG.out, Below.setRow' B2.out (Nat.le_refl _) _⟩
    | some AB =>
      obtain ⟨A, B⟩ := AB
      rw [hts] at hna
      have HNA : Hid (∀ w, Calls Tryz.prog 18 #[.string a] w fun e w' => e = .returned (.bool false) ∧ Below w.heap.size w w') := Lib.hid hna
      obtain ⟨hl, hA, B', hB⟩ := toSpace_some hts
      have hfine : Fine (tx a) ↔ (zoneFine (zname A) ∧ Good (trim B)) := by
        unfold Fine
        rw [hyes, if_pos rfl]
        constructor
        · rintro ⟨A2, B2, h1, h2, h3⟩
          rw [hts] at h1
          injection h1 with h1
          injection h1 with e1 e2
          subst e1 e2
          exact ⟨h2, h3⟩
        · rintro ⟨h2, h3⟩
          exact ⟨A, B, hts, h2, h3⟩
      have hlen : a.size = A.length + (1 + B'.length) := by
        rw [← tx_len, hl, hB, List.length_append]
        simp; omega
      have hz : zhead A = h := by rw [← HHE.out, hl, hB, zhead_cut]
      have hzl := zhead_le A
      rw [hz] at hzl
      have hzn := zname_drop A (by rw [hz]; have := HC0.out; omega)
      rw [hz] at hzn
      have hAt : ∀ n (hn : n < a.size), n < A.length → a[n] ≠ 32 := fun n hn hnA => by
        have e1 := tx_drop hn
        have e2 : (tx a).drop n = A.drop n ++ B := by rw [hl, List.drop_append_of_le_length (by omega)]
        rw [List.drop_eq_getElem_cons hnA] at e2
        rw [e2] at e1
        have : A[n] = a[n] := by simpa using (List.cons.inj e1).1
        rw [← this]
        exact hA _ (List.getElem_mem _)
      have hAp : ∀ (hn : A.length < a.size), a[A.length] = 32 := fun hn => by
        have e1 := tx_drop hn
        rw [hl, List.drop_left, hB] at e1
        exact ((List.cons.inj e1).1).symm
      have hx1 : tx (a.extract h A.length) = zname A := by
        rw [tx_extract, hl, hzn, List.drop_append_of_le_length hzl, List.take_append_of_le_length (by simp)]
        rw [List.take_of_length_le (by simp)]
      have hx2 : tx (a.extract A.length a.size) = B := by
        rw [tx_all, hl, List.drop_left]
      obtain ⟨p, hp⟩ : ∃ p, A.length = p := ⟨_, rfl⟩
      rw [hp] at hlen hzl hAt hAp hx1 hx2
      have hpa : p < a.size := by omega
      have HFI := Lib.hid hfine
      have HAT := Lib.hid (And.intro hAt (hAp hpa))
      have HX := Lib.hid (And.intro hx1 hx2)
      have HP := Lib.hid (And.intro hzl hpa)
      have s1 : (a.extract h p).size < 1099511627776 := by simp; omega
      have s2 : (a.extract p a.size).size < 1099511627776 := by simp; omega
      have hzt := fun w => tZone _ s1 w
      have htt := fun w => tTrim _ s2 w
      rw [hx1] at hzt
      rw [hx2] at htt
      have s3 : (mk (trim B)).size < 1099511627776 := by
        rw [mk_size]
        have := trim_le B
        have e : B.length = 1 + B'.length := by rw [hB]; simp; omega
        omega
      have htf := fun w => tForeign _ s3 w
      have htp := fun w => tPlain _ s3 w
      rw [tx_mk] at htf htp
      obtain ⟨R, hR⟩ : ∃ R, mk (trim B) = R := ⟨_, rfl⟩
      rw [hR] at htt htf htp
      have HZT := Lib.hid hzt
      have HTT := Lib.hid htt
      have HTF := Lib.hid htf
      have HTP := Lib.hid htp
      clear hfine hAt hAp hx1 hx2 hlen hzn hz hp hl hA hB hts hna hyes hzt htt htf htp s1 s2 s3 hR
      have hp0 : (0 : Int) ≤ (h : Int) := by omega
      have hp1 : (h : Int) ≤ (p : Int) := by omega
      have hp2 : (p : Int) ≤ (a.size : Int) := by omega
      go_enter Tryz.func9, Tryz.ntmps9
      go_wp2_with (first
        | (go_at_call 16; refine (HH.out _).mono ?_; rintro e w1 ⟨rfl, hb1⟩; have X1 : Hid (Z39 w w1) := Lib.hid ((Z39.new w).keep hb1); clear hb1)
        | (go_at_call 18; refine (HNA.out _).mono ?_; rintro e w2 ⟨rfl, hb2⟩; have X2 : Hid (Z39 w w2) := Lib.hid (X1.out.keep hb2); clear hb2))
      go_loopw [7] (fun v wr => ∃ (n : Nat), v = .int .i64 n ∧ Aside0 (n ≤ p) ∧ Aside0 (Z39 w wr)) (fun v _ => 2000000000000 - (intOf v).toNat)
      case atStart => exact ⟨h, rfl, ⟨hzl⟩, ⟨X2.out⟩⟩
      case round =>
        obtain ⟨n, rfl, HN, HZ⟩ := hrel
        have p6 : 0 ≤ (n : Int) := by omega
        have q6 : (n : Int) < (a.size : Int) := by have := HN.out; omega
        have c' : n < a.size := by omega
        by_cases c : n < p
        · have e32 : (((a[n]'c').toNat : Int) != 32) = true := by
            rw [bne_iff_ne]
            intro h
            exact HAT.out.1 n c' c (UInt8.toNat_inj.1 (by simpa using (by omega : a[n].toNat = 32)))
          have hbg : (n : Int) < 1099511627776 := by omega
          replace p6 := eq_true p6
          replace q6 := eq_true q6
          go_wp2
          go_roundw
          case measure => simp [intOf]; omega
          case rel => exact ⟨n + 1, by go_num, ⟨by omega⟩, ⟨HZ.out⟩⟩
        · obtain rfl : n = p := by have := HN.out; omega
          have e32 : (((a[n]'c').toNat : Int) != 32) = false := by
            have := HAT.out.2
            rw [this]; rfl
          replace p6 := eq_true p6
          replace q6 := eq_true q6
          go_upto_region 13 with (first
            | (go_at_call 19; refine (HZT.out _).mono ?_; rintro e w3 ⟨u, v, rfl, hv, hb3⟩; have X3 : Hid (Z39 w w3) := Lib.hid (HZ.out.keep hb3); have VZ := Lib.hid hv; clear hb3 hv)
            | (go_at_call 20; refine (HTT.out _).mono ?_; rintro e w4 ⟨rfl, hb4⟩; have X4 : Hid (Z39 w w4) := Lib.hid (X3.out.keep hb4); clear hb4))
          have hvv : v = 1 ∨ v = 0 ∨ v = 2 := by
            rcases VZ.out with h | h
            · exact .inl h.1
            · exact .inr h.1
          have hvz : v = 1 ↔ zoneFine (zname A) := by
            rcases VZ.out with h | h
            · exact ⟨fun _ => h.2, fun _ => h.1⟩
            · refine ⟨fun e => ?_, fun e => absurd e h.2⟩
              rcases h.1 with h | h <;> omega
          have HVV := Lib.hid (And.intro hvv hvz)
          clear hvv hvz
          cases hfr : ((trim B).any fun x => decide (128 ≤ x)) with
          | true =>
            have hng : ¬ Fine (tx a) := by
              rw [HFI.out]
              rintro ⟨_, h⟩
              obtain ⟨x, hx, hx2⟩ := List.any_eq_true.1 hfr
              exact absurd (h.2.1 x hx) (UInt8.not_lt.2 (of_decide_eq_true hx2))
            have HNG := Lib.hid hng
            have HTF1 : Hid (∀ w, Calls Tryz.prog 21 #[.string R] w fun e w' => e = .returned (.bool true) ∧ Below w.heap.size w w') := Lib.hid (by have := HTF.out; rw [hfr] at this; exact this)
            clear hng hfr
            go_wp2_with (first
              | (go_at_call 21; refine (HTF1.out _).mono ?_; rintro e w5 ⟨rfl, hb5⟩; have X5 : Hid (Z39 w w5) := Lib.hid (X4.out.keep hb5); clear hb5)
              | (go_at_call 22; refine (tWorse v 2 HVV.out.1 (.inr (.inr rfl)) _).mono ?_; rintro e w6 ⟨c2, rfl, hc2, hc3, hb6⟩; have X6 : Hid (Z39 w w6) := Lib.hid (X5.out.keep hb6); have R6 := Lib.hid X6.out.1; have B6 := Lib.hid X6.out.2; have C2 := Lib.hid hc2; clear hb6 hc2 hc3)
              | ((with_reducible refine wpList_store_row (o := ⟨none, .store 39 (.tmp 4) (.tmp 49), _, _, _, _⟩) ?b1 39 (.tmp 4) (.tmp 49) ?b2 w.heap.size Tryz.zeroCells39 ?b3 ?b4 39 R6.out.choose ?b5 ?b6 ?b7 ?b8 ?_); (case b1 => rfl); (case b2 => rfl); (case b3 => rfl); (case b4 => rfl); (case b5 => exact R6.out.choose_spec.2); (case b6 => rw [zero39_ok.1]; exact inf39); (case b7 => rw [zero39_ok.1]; exact R6.out.choose_spec.1); (case b8 => exact zero39_ok.2)))
            refine bodyPost_ret (v := .tuple #[.agg Tryz.zeroCells39, .int .i64 c2]) (results_row_tmp (p := 4) (q := 5) rfl _ _ w.heap.size 39 _ (0, 0) _ rfl rfl (setRow_heap _ _ R6.out.choose _ 39 (0, 0) R6.out.choose_spec.2) und39 rfl (by rw [zero39_ok.1]; exact inf39)) rfl ⟨_, _, rfl, zero39_ok.1, by simpa using zero39_ok.2, ⟨fun e => absurd (C2.out.1 e).2 (by decide), fun f => absurd f HNG.out⟩, Below.setRow' B6.out (Nat.le_refl _) _⟩
          | false =>
            have HTF1 : Hid (∀ w, Calls Tryz.prog 21 #[.string R] w fun e w' => e = .returned (.bool false) ∧ Below w.heap.size w w') := Lib.hid (by have := HTF.out; rw [hfr] at this; exact this)
            clear hfr
            go_upto_region 17 with (first
              | (go_at_call 21; refine (HTF1.out _).mono ?_; rintro e w5 ⟨rfl, hb5⟩; have X5 : Hid (Z39 w w5) := Lib.hid (X4.out.keep hb5); clear hb5)
              | (go_at_call 17; refine (HTP.out _).mono ?_; rintro e w6 ⟨us, v2, rfl, hu1, hu2, hu3, hv1, hv2, hb6⟩; have X6 : Hid (Z39 w w6) := Lib.hid (X5.out.keep hb6); have US := Lib.hid (And.intro hu1 (And.intro hu2 hu3)); have VS := Lib.hid (And.intro hv1 hv2); clear hb6 hu1 hu2 hu3 hv1 hv2)
              | ((with_reducible refine wpList_store_row (o := ⟨none, .store 39 (.tmp 11) (.tmp 56), _, _, _, _⟩) ?b1 39 (.tmp 11) (.tmp 56) ?b2 w6.heap.size us ?b3 ?b4 39 Tryz.zeroCells39 ?b5 ?b6 ?b7 ?b8 ?_); (case b1 => rfl); (case b2 => rfl); (case b3 => rfl); (case b4 => rfl); (case b5 => exact heap_alloc_new _ _); (case b6 => rw [US.out.1]; exact inf39); (case b7 => rw [US.out.1]; exact zero39_ok.1); (case b8 => exact US.out.2.1); generalize hW7 : World.setRow _ _ _ = W7; have X7 : Hid (Z39 w W7) := Lib.hid (by rw [← hW7, World.setRow_alloc_new]; exact X6.out.keep (bA (Below.refl _ _) _)); have R7 : Hid (W7.heap[w6.heap.size]? = some (.cells us 39 (0, 0))) := Lib.hid (by rw [← hW7, World.setRow_alloc_new]; exact heap_alloc_new _ _); clear hW7)
              | (go_at_call 22; refine (tWorse v v2 HVV.out.1 VS.out.1 _).mono ?_; rintro e w8 ⟨c2, rfl, hc2, hc3, hb8⟩; have X8 : Hid (Z39 w w8) := Lib.hid (X7.out.keep hb8); have R8 : Hid (w8.heap[w6.heap.size]? = some (.cells us 39 (0, 0))) := Lib.hid ((hb8.block _ (Array.getElem?_eq_some_iff.1 R7.out).1).trans R7.out); have Q8 := Lib.hid X8.out.1; have B8 := Lib.hid X8.out.2; have C2 := Lib.hid hc2; clear hb8 hc2 hc3))
            have hfin : c2 = 1 ↔ Fine (tx a) := by rw [C2.out, HFI.out, HVV.out.2, VS.out.2]
            have HFN := Lib.hid hfin
            clear hfin
            by_cases cc : c2 = 1
            · subst cc
              obtain ⟨g, hg⟩ : ∃ g, w6.heap.size = g := ⟨_, rfl⟩
              have hgw : w.heap.size < g := by
                obtain ⟨⟨z, _, h2⟩, _⟩ := X6.out
                rw [← hg]; exact (Array.getElem?_eq_some_iff.1 h2).1
              rw [hg] at R8 ⊢
              have HG := Lib.hid hgw
              obtain ⟨x, hx⟩ : ∃ x, us[386]? = some x := ⟨us[386]'(by rw [US.out.1]; decide), Array.getElem?_eq_getElem _⟩
              have d0 : w8.cell? ⟨g, 0, none⟩ = some (.bool false) := by rw [cell_of_row _ _ _ _ _ _ R8.out]; exact US.out.2.2
              have d1 : w8.cell? ⟨g, 386, none⟩ = some x := by rw [cell_of_row _ _ _ _ _ _ R8.out]; exact hx
              have f1 : w8.frozen? ⟨g, 386, none⟩ = false := frozen_of_row _ _ _ _ _ R8.out
              clear hx hg hgw
              cases u
              · go_wp2_with (first
                  | ((with_reducible refine wpList_load_row (o := ⟨some 72, _, _, _, _, _⟩) ?a1 39 (.tmp 11) ?a2 g ?a3 39 (us.setIfInBounds 386 (.bool false)) (0, 0) _ ?a4 und39 ?a5 ?a6 ?_); (case a1 => rfl); (case a2 => rfl); (case a3 => rfl); (case a5 => rfl); (case a6 => rw [(show (us.setIfInBounds 386 (.bool false)).size = 387 by rw [Array.size_setIfInBounds]; exact US.out.1)]; exact inf39); (case a4 => exact heap_setCell_same _ _ _ _ _ _ R8.out))
                  | ((with_reducible refine wpList_store_row (o := ⟨none, .store 39 (.tmp 4) (.tmp 72), _, _, _, _⟩) ?b1 39 (.tmp 4) (.tmp 72) ?b2 w.heap.size (us.setIfInBounds 386 (.bool false)) ?b3 ?b4 39 Q8.out.choose ?b5 ?b6 ?b7 ?b8 ?_); (case b1 => rfl); (case b2 => rfl); (case b3 => rfl); (case b4 => rfl); (case b5 => rw [heap_setCell_other _ _ _ _ (by have := HG.out; simp; omega)]; exact Q8.out.choose_spec.2); (case b6 => rw [(show (us.setIfInBounds 386 (.bool false)).size = 387 by rw [Array.size_setIfInBounds]; exact US.out.1)]; exact inf39); (case b7 => rw [(show (us.setIfInBounds 386 (.bool false)).size = 387 by rw [Array.size_setIfInBounds]; exact US.out.1)]; exact Q8.out.choose_spec.1); (case b8 => exact (all_set US.out.2.1 386 (v := .bool false) rfl))))
                refine bodyPost_ret (v := .tuple #[.agg (us.setIfInBounds 386 (.bool false)), .int .i64 1]) (results_row_tmp (p := 4) (q := 5) rfl _ _ w.heap.size 39 _ (0, 0) _ rfl rfl (setRow_heap _ _ Q8.out.choose _ 39 (0, 0) (by rw [heap_setCell_other _ _ _ _ (by have := HG.out; simp; omega)]; exact Q8.out.choose_spec.2)) und39 rfl (by rw [(show (us.setIfInBounds 386 (.bool false)).size = 387 by rw [Array.size_setIfInBounds]; exact US.out.1)]; exact inf39)) rfl ⟨_, _, rfl, (show (us.setIfInBounds 386 (.bool false)).size = 387 by rw [Array.size_setIfInBounds]; exact US.out.1), fun i hi => Array.all_eq_true_iff_forall_mem.1 (all_set US.out.2.1 386 (v := .bool false) rfl) _ (Array.getElem_mem _), by simpa using HFN.out, Below.setRow' (B8.out.setCell (by have := HG.out; simp; omega) _) (Nat.le_refl _) _⟩
              · go_wp2_with (first
                  | ((with_reducible refine wpList_load_row (o := ⟨some 72, _, _, _, _, _⟩) ?a1 39 (.tmp 11) ?a2 g ?a3 39 (us.setIfInBounds 386 (.bool true)) (0, 0) _ ?a4 und39 ?a5 ?a6 ?_); (case a1 => rfl); (case a2 => rfl); (case a3 => rfl); (case a5 => rfl); (case a6 => rw [(show (us.setIfInBounds 386 (.bool true)).size = 387 by rw [Array.size_setIfInBounds]; exact US.out.1)]; exact inf39); (case a4 => exact heap_setCell_same _ _ _ _ _ _ R8.out))
                  | ((with_reducible refine wpList_store_row (o := ⟨none, .store 39 (.tmp 4) (.tmp 72), _, _, _, _⟩) ?b1 39 (.tmp 4) (.tmp 72) ?b2 w.heap.size (us.setIfInBounds 386 (.bool true)) ?b3 ?b4 39 Q8.out.choose ?b5 ?b6 ?b7 ?b8 ?_); (case b1 => rfl); (case b2 => rfl); (case b3 => rfl); (case b4 => rfl); (case b5 => rw [heap_setCell_other _ _ _ _ (by have := HG.out; simp; omega)]; exact Q8.out.choose_spec.2); (case b6 => rw [(show (us.setIfInBounds 386 (.bool true)).size = 387 by rw [Array.size_setIfInBounds]; exact US.out.1)]; exact inf39); (case b7 => rw [(show (us.setIfInBounds 386 (.bool true)).size = 387 by rw [Array.size_setIfInBounds]; exact US.out.1)]; exact Q8.out.choose_spec.1); (case b8 => exact (all_set US.out.2.1 386 (v := .bool true) rfl))))
                refine bodyPost_ret (v := .tuple #[.agg (us.setIfInBounds 386 (.bool true)), .int .i64 1]) (results_row_tmp (p := 4) (q := 5) rfl _ _ w.heap.size 39 _ (0, 0) _ rfl rfl (setRow_heap _ _ Q8.out.choose _ 39 (0, 0) (by rw [heap_setCell_other _ _ _ _ (by have := HG.out; simp; omega)]; exact Q8.out.choose_spec.2)) und39 rfl (by rw [(show (us.setIfInBounds 386 (.bool true)).size = 387 by rw [Array.size_setIfInBounds]; exact US.out.1)]; exact inf39)) rfl ⟨_, _, rfl, (show (us.setIfInBounds 386 (.bool true)).size = 387 by rw [Array.size_setIfInBounds]; exact US.out.1), fun i hi => Array.all_eq_true_iff_forall_mem.1 (all_set US.out.2.1 386 (v := .bool true) rfl) _ (Array.getElem_mem _), by simpa using HFN.out, Below.setRow' (B8.out.setCell (by have := HG.out; simp; omega) _) (Nat.le_refl _) _⟩
            · have ccn : (c2 != 1) = true := bne_iff_ne.mpr cc
              clear cc
              go_wp2_with (first
                | ((with_reducible refine wpList_store_row (o := ⟨none, .store 39 (.tmp 4) (.tmp 63), _, _, _, _⟩) ?b1 39 (.tmp 4) (.tmp 63) ?b2 w.heap.size Tryz.zeroCells39 ?b3 ?b4 39 Q8.out.choose ?b5 ?b6 ?b7 ?b8 ?_); (case b1 => rfl); (case b2 => rfl); (case b3 => rfl); (case b4 => rfl); (case b5 => exact Q8.out.choose_spec.2); (case b6 => rw [zero39_ok.1]; exact inf39); (case b7 => rw [zero39_ok.1]; exact Q8.out.choose_spec.1); (case b8 => exact zero39_ok.2)))
              refine bodyPost_ret (v := .tuple #[.agg Tryz.zeroCells39, .int .i64 c2]) (results_row_tmp (p := 4) (q := 5) rfl _ _ w.heap.size 39 _ (0, 0) _ rfl rfl (setRow_heap _ _ Q8.out.choose _ 39 (0, 0) Q8.out.choose_spec.2) und39 rfl (by rw [zero39_ok.1]; exact inf39)) rfl ⟨_, _, rfl, zero39_ok.1, by simpa using zero39_ok.2, HFN.out, Below.setRow' B8.out (Nat.le_refl _) _⟩
end Go.Proofs.YtjmgebhjkbcpcaaGreatDoor.Txt
end
section
set_option linter.unusedVariables false
set_option linter.unusedSimpArgs false
namespace Go.Proofs.YtjmgebhjkbcpcaaGreatDoor.Txt
open Go.Proofs.YtjmgebhjkbcpcaaGreatDoor.NM
open Go Go.RowKit Go.Proofs.YtjmgebhjkbcpcaaGreatDoorW.PrintWords Go.Proofs.YtjmgebhjkbcpcaaGreatDoorW.PrintLast Go.Proofs.YtjmgebhjkbcpcaaGreatDoorW.PrintMore Go.Proofs.YtjmgebhjkbcpcaaGreatDoor.PCronParse
set_option maxRecDepth 100000
theorem join_snoc (x : Bs) : ∀ l : List Bs, join (l ++ [x]) = if l = [] then x else join l ++ 32 :: x
  | [] => rfl
  | [a] => by simp [join]
  | a :: b :: r => by
    have := join_snoc x (b :: r)
    rw [if_neg (by simp)] at this ⊢
    show a ++ 32 :: join (b :: r ++ [x]) = (a ++ 32 :: join (b :: r)) ++ 32 :: x
    rw [this]
    simp
theorem tx_append (a b : ByteArray) : tx (a ++ b) = tx a ++ tx b := by
  simp [tx]
/-- cells that hold texts, of whatever block -/
structure StrsC (w : World) (g : Nat) (xs : List ByteArray) : Prop where
  lt : g < w.heap.size
  cell : ∀ i (h : i < xs.length), w.cell? ⟨g, i, none⟩ = some (.string xs[i])
theorem StrsC.move {w w' : World} {g : Nat} {xs : List ByteArray} (h : StrsC w g xs) (hm : w'.heap[g]? = w.heap[g]?) : StrsC w' g xs := by
  refine ⟨?_, fun i hi => ?_⟩
  · have := h.lt
    rw [Array.getElem?_eq_getElem this] at hm
    exact (Array.getElem?_eq_some_iff.1 hm).1
  · rw [← h.cell i hi]
    simp only [World.cell?, hm]
set_option maxHeartbeats 2000000 in
theorem tJoin (xs : List ByteArray) (h6 : xs.length = 6) (hs : ∀ x ∈ xs, x.size < 10000000) (g cp : Nat) (w : World) (hg : StrsC w g xs) :
    Calls Tryz.prog 8 #[.slice (some ⟨g, 0, none⟩) 6 cp, .string ⟨#[32]⟩] w fun e w' => ∃ s, e = .returned (.string s) ∧ tx s = join (xs.map tx) ∧ Below w.heap.size w w' := by
  have HS := Lib.hid hs
  have HG := Lib.hid hg
  have H6 := Lib.hid h6
  clear hs hg h6
  go_enter Tryz.func8, Tryz.ntmps8
  go_wp2
  go_loopw [10, 5] (fun i v wr => ∃ (n : Nat) (s : ByteArray), i = .int .i64 n ∧ v = .string s ∧ Aside0 (n ≤ 6) ∧ Aside0 (tx s = join ((xs.take n).map tx)) ∧ Aside0 (s.size ≤ n * 10000001) ∧ Aside0 (Below w.heap.size w wr)) (fun i _ _ => 100 - (intOf i).toNat)
  case atStart => exact ⟨0, ⟨#[]⟩, rfl, rfl, ⟨by decide⟩, ⟨rfl⟩, ⟨Nat.le_refl _⟩, ⟨Below.refl _ _⟩⟩
  case round =>
    obtain ⟨n, s, rfl, rfl, HN, HT, HZ, HB⟩ := hrel
    by_cases cn : n < 6
    · have ct : decide ((n : Int) < 6) = true := by simp; omega
      have hn1 : (n : Int) < 6 := by omega
      have hnl : n < xs.length := by rw [H6.out]; exact cn
      obtain ⟨x, hx⟩ : ∃ x, xs[n] = x := ⟨_, rfl⟩
      have c1 := (HG.out.move (HB.out.block g HG.out.lt)).cell n hnl
      rw [hx] at c1
      have hxs : x.size < 10000000 := by rw [← hx]; exact HS.out _ (List.getElem_mem _)
      have hss : s.size < 100000000 := by have := HZ.out; omega
      have htake : (xs.take (n + 1)).map tx = (xs.take n).map tx ++ [tx x] := by
        rw [List.take_add_one, List.getElem?_eq_getElem hnl, hx]; simp
      have hnil : (xs.take n).map tx = [] ↔ n = 0 := by
        rw [List.map_eq_nil_iff, List.take_eq_nil_iff]
        constructor
        · rintro (h | h)
          · exact h
          · rw [h] at hnl; simp at hnl
        · exact Or.inl
      have HTK := Lib.hid (And.intro htake hnil)
      clear hx htake hnil
      by_cases c0 : n = 0
      · subst c0
        go_wp2
        go_roundw
        case measure => simp [intOf]
        case rel =>
          refine ⟨1, _, rfl, rfl, ⟨by decide⟩, ⟨?_⟩, ⟨?_⟩, ⟨HB.out⟩⟩
          · have h1 := HTK.out.1
            rw [h1, tx_append, HT.out, join_snoc, if_pos (HTK.out.2.2 rfl)]
            simp [join]
          · rw [ByteArray.size_append]
            have := HZ.out
            omega
      · have c0t : decide ((0 : Int) < (n : Int)) = true := by simp; omega
        go_wp2
        go_roundw
        case measure => simp [intOf]; omega
        case rel =>
          refine ⟨n + 1, _, by go_num, rfl, ⟨by omega⟩, ⟨?_⟩, ⟨?_⟩, ⟨HB.out⟩⟩
          · rw [HTK.out.1, tx_append, tx_append, HT.out, join_snoc, if_neg (fun h => c0 (HTK.out.2.1 h))]
            simp
            rfl
          · rw [ByteArray.size_append, ByteArray.size_append]
            have := HZ.out
            have e : (ByteArray.mk #[32]).size = 1 := rfl
            omega
    · have ct : decide ((n : Int) < 6) = false := by simp; omega
      obtain rfl : n = 6 := by have := HN.out; omega
      go_wp2
      go_ret
      refine ⟨s, rfl, ?_, HB.out⟩
      rw [HT.out, List.take_of_length_le (by rw [H6.out]; exact Nat.le_refl _)]
theorem und22 : Tryz.prog.underlying 22 = some (.array 6 9) := by kernel_rfl
theorem inf22 : (Tryz.prog.info? 22).map (·.size) = some 6 := by kernel_rfl
/-- six texts, as an array's cells -/
def six (xs : List ByteArray) : Array Value := (xs.map Value.string).toArray
theorem six_get (xs : List ByteArray) (n : Nat) (h : n < xs.length) : (six xs)[n]? = some (.string xs[n]) := by simp [six, h]
theorem idx22 (xs : List ByteArray) (n : Nat) (h6 : xs.length = 6) (hn : n < xs.length) (w : World) : (Instr.index 22 (.agg (six xs)) (.int .i64 (n : Int))).run Tryz.prog w = .ok (.string xs[n]) w := by
  have h0 : (0 : Int) ≤ n ∧ (n : Int) < 6 := by omega
  have hg := six_get xs n hn
  simp [Instr.index, run_underlying und22, asIntOf, h0, part, go_sem]
  rw [if_pos (by omega), hg]
  rfl
theorem tFits6 (xs : List ByteArray) (h6 : xs.length = 6) (w : World) : Calls Tryz.prog 4 #[.agg (six xs)] w fun e w' => e = .returned (.bool (xs.all fun x => decide (x.size ≤ 2147483647))) ∧ Below w.heap.size w w' := by
  have H6 := Lib.hid h6
  clear h6
  have hrow := heap_alloc_new w (Obj.cells (six xs) 22)
  have HR := Lib.hid hrow
  have hsz : (six xs).size = 6 := by simp [six]; exact H6.out
  have HSZ := Lib.hid hsz
  clear hrow hsz
  go_enter Tryz.func4, Tryz.ntmps4
  go_wp2_with ((with_reducible refine wpList_load_row (o := ⟨some 5, _, _, _, _, _⟩) ?a1 22 (.tmp 1) ?a2 w.heap.size ?a3 22 (six xs) (0, 0) _ ?a4 und22 ?a5 ?a6 ?_); (case a1 => rfl); (case a2 => rfl); (case a3 => rfl); (case a5 => rfl); (case a6 => rw [HSZ.out]; exact inf22); (case a4 => exact HR.out))
  go_loopw [6] (fun i wr => ∃ (n : Nat), i = .int .i64 n ∧ Aside0 (n ≤ 6) ∧ Aside0 (∀ i (h : i < xs.length), i < n → xs[i].size ≤ 2147483647) ∧ Aside0 (Below w.heap.size w wr)) (fun i _ => 100 - (intOf i).toNat)
  case atStart => exact ⟨0, rfl, ⟨by decide⟩, ⟨fun i _ h => absurd h (Nat.not_lt_zero _)⟩, ⟨bA (Below.refl _ _) _⟩⟩
  case round =>
    obtain ⟨n, rfl, HN, HL, HB⟩ := hrel
    by_cases cn : n < 6
    · have ct : decide ((n : Int) < 6) = true := by simp; omega
      have hidx := idx22 xs n H6.out (by rw [H6.out]; exact cn)
      obtain ⟨x, hx⟩ : ∃ x, xs[n]'(by rw [H6.out]; exact cn) = x := ⟨_, rfl⟩
      rw [hx] at hidx
      have HX := Lib.hid hx
      clear hx
      by_cases cb : (2147483647 : Int) < (x.size : Int)
      · have HCB := Lib.hid cb
        go_wp2
        go_ret
        have hall : (xs.all fun x => decide (x.size ≤ 2147483647)) = false := by
          rw [List.all_eq_false]
          exact ⟨x, by rw [← HX.out]; exact List.getElem_mem _, by have := HCB.out; simp; omega⟩
        exact ⟨by rw [hall]; rfl, HB.out⟩
      · have cbt : decide ((2147483647 : Int) < (x.size : Int)) = false := decide_eq_false cb
        go_wp2
        go_roundw
        case measure => simp [intOf]; omega
        case rel => exact ⟨n + 1, by go_num, ⟨by omega⟩, ⟨fun i hi h => by
          by_cases e : i = n
          · subst e; rw [HX.out]; omega
          · exact HL.out i hi (by omega)⟩, ⟨HB.out⟩⟩
    · have ct : decide ((n : Int) < 6) = false := by simp; omega
      go_wp2
      go_ret
      have hall : (xs.all fun x => decide (x.size ≤ 2147483647)) = true := by
        rw [List.all_eq_true]
        intro x hx
        obtain ⟨i, hi, rfl⟩ := List.getElem_of_mem hx
        exact decide_eq_true (HL.out i hi (by have := H6.out; have := HN.out; omega))
      exact ⟨by rw [hall]; rfl, HB.out⟩
set_option maxHeartbeats 2000000 in
theorem tNoText (xs : List ByteArray) (h6 : xs.length = 6) (k : Nat) (hk : k < 6) (p : ByteArray) (hs : ∀ x ∈ xs, x.size < 1099511627776) (hp : p.size < 1099511627776)
    (hbad : ¬ ((∀ i (h : i < xs.length), FF i (tx xs[i])) ∧ FF k (tx p))) (w : World) :
    Calls Tryz.prog 11 #[.agg (six xs), .int .i64 k, .string p] w fun e w' => e = .returned (.bool true) ∧ Below w.heap.size w w' := by
  have H6 := Lib.hid h6
  have HS := Lib.hid hs
  have HP := Lib.hid hp
  have HBAD := Lib.hid hbad
  clear h6 hs hp hbad
  have hrow := heap_alloc_new w (Obj.cells (six xs) 22)
  have HR := Lib.hid hrow
  have hsz : (six xs).size = 6 := by simp [six]; exact H6.out
  have HSZ := Lib.hid hsz
  clear hrow hsz
  go_enter Tryz.func11, Tryz.ntmps11
  go_wp2_with ((with_reducible refine wpList_load_row (o := ⟨some 13, _, _, _, _, _⟩) ?a1 22 (.tmp 3) ?a2 w.heap.size ?a3 22 (six xs) (0, 0) _ ?a4 und22 ?a5 ?a6 ?_); (case a1 => rfl); (case a2 => rfl); (case a3 => rfl); (case a5 => rfl); (case a6 => rw [HSZ.out]; exact inf22); (case a4 => exact HR.out))
  go_loopw [14] (fun i wr => ∃ (n : Nat), i = .int .i64 n ∧ Aside0 (n ≤ 6) ∧ Aside0 (∀ i (h : i < xs.length), i < n → FF i (tx xs[i])) ∧ Aside0 (Below w.heap.size w wr)) (fun i _ => 100 - (intOf i).toNat)
  case atStart => exact ⟨0, rfl, ⟨by decide⟩, ⟨fun i _ hi => by omega⟩, ⟨bA (Below.refl _ _) _⟩⟩
  case round =>
    obtain ⟨n, rfl, HN, HF, HB⟩ := hrel
    by_cases cn : n < 6
    · have ct : decide ((n : Int) < 6) = true := by simp; omega
      have hnl : n < xs.length := by rw [H6.out]; exact cn
      have hidx := idx22 xs n H6.out hnl
      obtain ⟨x, hx⟩ : ∃ x, xs[n] = x := ⟨_, rfl⟩
      have hxs : x.size < 1099511627776 := by rw [← hx]; exact HS.out _ (List.getElem_mem _)
      rw [hx] at hidx
      have HX := Lib.hid hx
      have HXS := Lib.hid hxs
      clear hx hxs
      by_cases cf : FF n (tx x)
      · have hone : words (tx x) = [tx x] := words_one (FF_ok cf) (FF_ne cf)
        have htw := fun w => tWords x HXS.out w
        rw [hone] at htw
        have HTW := Lib.hid htw
        have HCF := Lib.hid cf
        clear hone htw cf
        have hw1 : ((1 : Int) != 1) = false := rfl
        go_wp2_with (first
          | (go_at_call 27; refine (spec_CronBoundsOf.calls _ _ _ _ _ (bounds_f n cn)).mono ?_; rintro e w1 ⟨rfl, hb1⟩; have B1 := Lib.hid (HB.out.trans (hb1.mono HB.out.size)); clear hb1)
          | (go_at_call 26; refine (tField n cn x HXS.out _).mono ?_; rintro e w2 ⟨us, v, rfl, hus, hv1, hv2, hb2⟩; obtain rfl : v = 1 := hv2.2 HCF.out; have B2 := Lib.hid (B1.out.trans (hb2.mono B1.out.size)); have US := Lib.hid hus; clear hb2 hus hv1 hv2)
          | ((with_reducible refine wpList_store_row (o := ⟨none, .store 35 (.tmp 9) (.tmp 23), _, _, _, _⟩) ?b1 35 (.tmp 9) (.tmp 23) ?b2 w2.heap.size us ?b3 ?b4 35 (Array.replicate 64 (.bool false)) ?b5 ?b6 ?b7 ?b8 ?_); (case b1 => rfl); (case b2 => rfl); (case b3 => rfl); (case b4 => rfl); (case b5 => exact heap_alloc_new _ _); (case b6 => rw [US.out.sz]; exact inf35); (case b7 => rw [US.out.sz]; exact Bools.zero.sz); (case b8 => exact US.out.all); generalize hW3 : World.setRow _ _ _ = W3; have B3 : Hid (Below w.heap.size w W3) := Lib.hid (by rw [← hW3, World.setRow_alloc_new]; exact bA B2.out _); clear hW3)
          | (go_at_call 28; refine (HTW.out _).mono ?_; rintro e w4 ⟨A, c, rfl, hst, hb4⟩; have B4 := Lib.hid (B3.out.trans (hb4.mono B3.out.size)); clear hst hb4))
        go_roundw
        case measure => simp [intOf]; omega
        case rel =>
          refine ⟨n + 1, by go_num, ⟨by omega⟩, ⟨fun i hi hin => ?_⟩, ⟨B4.out⟩⟩
          by_cases e : i = n
          · subst e; rw [HX.out]; exact HCF.out
          · exact HF.out i hi (by omega)
      · have HCF := Lib.hid cf
        clear cf
        go_wp2_with (first
          | (go_at_call 27; refine (spec_CronBoundsOf.calls _ _ _ _ _ (bounds_f n cn)).mono ?_; rintro e w1 ⟨rfl, hb1⟩; have B1 := Lib.hid (HB.out.trans (hb1.mono HB.out.size)); clear hb1)
          | (go_at_call 26; refine (tField n cn x HXS.out _).mono ?_; rintro e w2 ⟨us, v, rfl, hus, hv1, hv2, hb2⟩; have hvn : (v != 1) = true := bne_iff_ne.mpr (fun h => HCF.out (hv2.1 h)); have B2 := Lib.hid (B1.out.trans (hb2.mono B1.out.size)); have US := Lib.hid hus; clear hb2 hus hv1 hv2)
          | ((with_reducible refine wpList_store_row (o := ⟨none, .store 35 (.tmp 9) (.tmp 23), _, _, _, _⟩) ?b1 35 (.tmp 9) (.tmp 23) ?b2 w2.heap.size us ?b3 ?b4 35 (Array.replicate 64 (.bool false)) ?b5 ?b6 ?b7 ?b8 ?_); (case b1 => rfl); (case b2 => rfl); (case b3 => rfl); (case b4 => rfl); (case b5 => exact heap_alloc_new _ _); (case b6 => rw [US.out.sz]; exact inf35); (case b7 => rw [US.out.sz]; exact Bools.zero.sz); (case b8 => exact US.out.all); generalize hW3 : World.setRow _ _ _ = W3; have B3 : Hid (Below w.heap.size w W3) := Lib.hid (by rw [← hW3, World.setRow_alloc_new]; exact bA B2.out _); clear hW3))
        go_ret
        exact ⟨rfl, B3.out⟩
    · have ct : decide ((n : Int) < 6) = false := by simp; omega
      have hall : ∀ i (h : i < xs.length), FF i (tx xs[i]) := fun i hi => HF.out i hi (by have := H6.out; omega)
      have hnf : ¬ FF k (tx p) := fun h => HBAD.out ⟨hall, h⟩
      have HCF := Lib.hid hnf
      clear hall hnf
      go_wp2_with (first
        | (go_at_call 27; refine (spec_CronBoundsOf.calls _ _ _ _ _ (bounds_f k hk)).mono ?_; rintro e w1 ⟨rfl, hb1⟩; have B1 := Lib.hid (HB.out.trans (hb1.mono HB.out.size)); clear hb1)
        | (go_at_call 26; refine (tField k hk p HP.out _).mono ?_; rintro e w2 ⟨us, v, rfl, hus, hv1, hv2, hb2⟩; have hvn : (v != 1) = true := bne_iff_ne.mpr (fun h => HCF.out (hv2.1 h)); have B2 := Lib.hid (B1.out.trans (hb2.mono B1.out.size)); have US := Lib.hid hus; clear hb2 hus hv1 hv2)
        | ((with_reducible refine wpList_store_row (o := ⟨none, .store 35 (.tmp 11) (.tmp 39), _, _, _, _⟩) ?b1 35 (.tmp 11) (.tmp 39) ?b2 w2.heap.size us ?b3 ?b4 35 (Array.replicate 64 (.bool false)) ?b5 ?b6 ?b7 ?b8 ?_); (case b1 => rfl); (case b2 => rfl); (case b3 => rfl); (case b4 => rfl); (case b5 => exact heap_alloc_new _ _); (case b6 => rw [US.out.sz]; exact inf35); (case b7 => rw [US.out.sz]; exact Bools.zero.sz); (case b8 => exact US.out.all); generalize hW3 : World.setRow _ _ _ = W3; have B3 : Hid (Below w.heap.size w W3) := Lib.hid (by rw [← hW3, World.setRow_alloc_new]; exact bA B2.out _); clear hW3))
      go_ret
      exact ⟨rfl, B3.out⟩
end Go.Proofs.YtjmgebhjkbcpcaaGreatDoor.Txt
end
section
set_option linter.unusedVariables false
set_option linter.unusedSimpArgs false
namespace Go.Proofs.YtjmgebhjkbcpcaaGreatDoor.Txt
open Go.Proofs.YtjmgebhjkbcpcaaGreatDoor.NM
open Go Go.RowKit Go.Lib Go.Proofs.YtjmgebhjkbcpcaaGreatDoorW.PrintWords
set_option maxRecDepth 100000
theorem six_set (xs : List ByteArray) (k : Nat) (p : ByteArray) : (six xs).setIfInBounds k (.string p) = six (xs.set k p) := by
  unfold six
  rw [List.setIfInBounds_toArray, ← List.map_set]
theorem six_one (xs : List ByteArray) : (six xs).all (·.oneCell') = true := by
  rw [Array.all_eq_true_iff_forall_mem]
  intro v hv
  unfold six at hv
  simp at hv
  obtain ⟨a, _, rfl⟩ := hv
  rfl
def zero22 : Array Value := #[.string ⟨#[]⟩, .string ⟨#[]⟩, .string ⟨#[]⟩, .string ⟨#[]⟩, .string ⟨#[]⟩, .string ⟨#[]⟩]
def zero30 : Array Value := #[.bool false, .int .i64 0, .int .u64 0, .int .u64 0, .int .u64 0, .int .u64 0, .int .u64 0, .int .u64 0]
set_option maxHeartbeats 1000000 in
theorem tWith (xs : List ByteArray) (h6 : xs.length = 6) (hs : ∀ x ∈ xs, x.size < 10000) (k : Nat) (hk : k < 6) (p : ByteArray) (hp : p.size < 10000) (gw gk : Nat) (w : World)
    (hw : w.heap[gw]? = some (.cells (six xs) 22 (0, 0))) (hkk : w.heap[gk]? = some (.cells #[.int .i64 k] 3 (0, 0))) :
    Calls Tryz.prog 7 #[.string p, .pointer (some ⟨gw, 0, none⟩), .pointer (some ⟨gk, 0, none⟩)] w fun e w' => ∃ us b, e = .returned (.tuple #[.agg us, .bool b]) ∧ us.size = 8 ∧ us.all (·.oneCell') = true ∧
      ((b = true ∧ Fine (join ((xs.map tx).set k (tx p))) ∧ NM.schedV false 0 (setsOf (fields (join ((xs.map tx).set k (tx p))))) = .agg us) ∨ (b = false ∧ ¬ Fine (join ((xs.map tx).set k (tx p))))) ∧ Below w.heap.size w w' := by
  have ltw := (Array.getElem?_eq_some_iff.1 hw).1
  have ltk := (Array.getElem?_eq_some_iff.1 hkk).1
  have hsz : (six xs).size = 6 := by simp [six]; exact h6
  have HW := Lib.hid hw
  have HK := Lib.hid hkk
  have HSZ := Lib.hid hsz
  have HS := Lib.hid hs
  have keep : ∀ {W W' : World} {cs : Array Value} {t : TypeId} {g : Nat}, W.heap[g]? = some (.cells cs t (0, 0)) → Below W.heap.size W W' → W'.heap[g]? = some (.cells cs t (0, 0)) := fun h hb => by rw [hb.block _ (Array.getElem?_eq_some_iff.1 h).1]; exact h
  clear hw hkk hsz hs
  have F0 : Hid ((w.alloc (.cells zero30 30)).heap[gw]? = some (.cells (six xs) 22 (0, 0)) ∧ (w.alloc (.cells zero30 30)).heap[gk]? = some (.cells #[.int .i64 k] 3 (0, 0)) ∧ (w.alloc (.cells zero30 30)).heap[w.heap.size]? = some (.cells zero30 30 (0, 0)) ∧ Below w.heap.size w (w.alloc (.cells zero30 30)) ∧ (w.alloc (.cells zero30 30)).heap.size = w.heap.size + 1) :=
    Lib.hid ⟨(Below.heap_alloc _ _ _ ltw).trans HW.out, (Below.heap_alloc _ _ _ ltk).trans HK.out, heap_alloc_new _ _, bA (Below.refl _ _) _, by simp⟩
  unfold zero30 at F0
  go_enter Tryz.func7, Tryz.ntmps7
  go_upto_region 1 with fail
  generalize hw1 : w.alloc _ = w1 at F0 ⊢
  clear hw1 HW HK
  go_upto_region 2 with (first
    | ((with_reducible refine wpList_load_row (o := ⟨some 10, _, _, _, _, _⟩) ?a1 22 (.tmp 1) ?a2 gw ?a3 22 (six xs) (0, 0) _ ?a4 und22 ?a5 ?a6 ?_); (case a1 => rfl); (case a2 => rfl); (case a3 => rfl); (case a5 => rfl); (case a6 => rw [HSZ.out]; exact inf22); (case a4 => exact F0.out.1))
    | ((with_reducible refine wpList_store_row (o := ⟨none, .store 22 (.tmp 6) (.tmp 10), _, _, _, _⟩) ?b1 22 (.tmp 6) (.tmp 10) ?b2 w1.heap.size (six xs) ?b3 ?b4 22 zero22 ?b5 ?b6 ?b7 ?b8 ?_); (case b1 => rfl); (case b2 => rfl); (case b3 => rfl); (case b4 => rfl); (case b5 => exact heap_alloc_new _ _); (case b6 => rw [HSZ.out]; exact inf22); (case b7 => rw [HSZ.out]; rfl); (case b8 => exact six_one xs)))
  try simp only [Act.put]
  generalize hw2 : World.setRow _ _ _ = w2
  have e2 : w1.alloc (.cells (six xs) 22) = w2 := by rw [← hw2, World.setRow_alloc_new]
  have hBA : Below w1.heap.size w1 w2 := by rw [← e2]; exact bA (Below.refl _ _) _
  have k2 := keep F0.out.2.1 hBA
  have z2 := keep F0.out.2.2.1 hBA
  have g2 : w2.heap[w1.heap.size]? = some (.cells (six xs) 22 (0, 0)) := by rw [← e2]; exact heap_alloc_new _ _
  have b2 := F0.out.2.2.2.1.trans (hBA.mono F0.out.2.2.2.1.size)
  have s2 := F0.out.2.2.2.2
  clear hw2 e2 hBA F0
  generalize w1.heap.size = g at *
  have S2 := Lib.hid s2
  clear s2
  have hkn : k < xs.length := by omega
  have ck : w2.cell? ⟨gk, 0, none⟩ = some (.int .i64 k) := cell_of_row _ _ 0 _ _ _ k2
  have cg : w2.cell? ⟨g, k, none⟩ = some (.string (xs[k]'hkn)) := by rw [cell_of_row _ _ k _ _ _ g2]; exact six_get xs k hkn
  have fg : w2.frozen? ⟨g, k, none⟩ = false := frozen_of_row _ _ k _ _ g2
  generalize xs[k]'hkn = xk at cg
  have hk1 : (k : Int) < 6 := by omega
  have hk0 : (0 : Int) ≤ (k : Int) := by omega
  have g3 := heap_setCell_same w2 g k _ _ (.string p) g2
  rw [six_set] at g3
  have z3 : (w2.setCell ⟨g, k, none⟩ (.string p)).heap[w.heap.size]? = _ := (heap_setCell_other _ _ _ _ (by have := S2.out; show w.heap.size ≠ g; omega)).trans z2
  have b3 : Below w.heap.size w (w2.setCell ⟨g, k, none⟩ (.string p)) := below_set b2 (by have := S2.out; omega)
  have G3 := Lib.hid g3
  have Z3 := Lib.hid z3
  have B3 := Lib.hid b3
  clear k2 z2 g2 b2 g3 z3 b3
  go_upto_region 3 with fail
  generalize w2.setCell ⟨g, k, none⟩ (.string p) = w3 at *
  have h6' : (xs.set k p).length = 6 := by rw [List.length_set]; exact h6
  have hs' : ∀ x ∈ xs.set k p, x.size < 10000 := fun x hx => by
    rcases List.mem_or_eq_of_mem_set hx with h | h
    · exact HS.out x h
    · rw [h]; exact hp
  have hmap : (xs.set k p).map tx = (xs.map tx).set k (tx p) := by rw [List.map_set]
  have sc : StrsC w3 g (xs.set k p) := ⟨(Array.getElem?_eq_some_iff.1 G3.out).1, fun i hi => by rw [cell_of_row _ _ i _ _ _ G3.out]; exact six_get _ i hi⟩
  have SC := Lib.hid sc
  have HMAP := Lib.hid hmap
  generalize xs.set k p = ys at *
  clear sc ck cg fg hmap G3
  have hjl : ∀ ys : List ByteArray, (∀ x ∈ ys, x.size < 10000) → (join (ys.map tx)).length ≤ ys.length * 10001 := by
    intro ys
    induction ys with
    | nil => intro _; simp [join]
    | cons a r ih =>
      intro h
      have h1 := ih fun x hx => h x (by simp [hx])
      have h2 := h a (by simp)
      cases r with
      | nil => simp [join, tx_len]; omega
      | cons b r =>
        rw [List.map_cons, List.map_cons, join, List.length_append, List.length_cons, tx_len]
        rw [List.map_cons] at h1
        simp only [List.length_cons] at h1 ⊢
        omega
  have hlen := hjl ys hs'
  rw [HMAP.out, h6'] at hlen
  have HS' := Lib.hid hs'
  have HLEN := Lib.hid hlen
  clear hjl hlen hs' HS HSZ
  go_upto_region 4 with (go_at_call 8; (with_reducible refine (tJoin ys h6' (fun x hx => by have := HS'.out x hx; omega) g 6 _ SC.out).mono ?_); rintro e w4 ⟨a, rfl, ha, hb4⟩; have HA := Lib.hid ha; have Z4 := Lib.hid (keep Z3.out hb4); have B4 := Lib.hid (B3.out.trans (hb4.mono B3.out.size)); clear ha hb4)
  have hsa : a.size < 1000000000 := by have := HLEN.out; rw [← tx_len, HA.out, HMAP.out]; omega
  have HTA := Lib.hid (show tx a = join ((xs.map tx).set k (tx p)) by rw [HA.out, HMAP.out])
  have hp9 := fun w => tParse a (by omega) w
  have hp10 := fun h w => tParseCron a hsa h w
  clear HA HMAP HLEN HS' SC S2 B3 Z3
  by_cases hF : Fine (tx a)
  · have hpc := hp10 hF
    obtain ⟨us, hus⟩ : ∃ us, NM.schedV false 0 (setsOf (fields (tx a))) = .agg us := ⟨_, rfl⟩
    have hpc2 : ∀ w, Calls Tryz.prog 10 #[.int .i64 125, .string a] w fun e w' => e = .returned (.tuple #[.agg us, .bool true]) ∧ Below w.heap.size w w' := fun w => by rw [← hus]; exact hpc w
    have hu8 : us.size = 8 ∧ us.all (·.oneCell') = true := by
      injection hus with hus
      rw [← hus]
      exact ⟨rfl, by simp [Value.oneCell']⟩
    have H9 := Lib.hid hp9
    have H10 := Lib.hid hpc2
    have HU := Lib.hid hu8
    have HUS := Lib.hid hus
    have HF := Lib.hid hF
    clear hp9 hp10 hpc hpc2 hu8 hus hF
    go_wp2_with (first
      | (go_at_call 9; (with_reducible refine (H9.out _).mono ?_); rintro e w5 ⟨ps, v, rfl, hps, hal, hv, hb5⟩; obtain rfl : v = 1 := hv.2 HF.out; have HPS := Lib.hid (And.intro hps hal); have Z5 := Lib.hid (keep Z4.out hb5); have B5 := Lib.hid (B4.out.trans (hb5.mono B4.out.size)); clear hps hal hv hb5)
      | ((with_reducible refine wpList_store_row (o := ⟨none, .store 39 (.tmp 8) (.tmp 19), _, _, _, _⟩) ?b1 39 (.tmp 8) (.tmp 19) ?b2 w5.heap.size ps ?b3 ?b4 39 Tryz.zeroCells39 ?b5 ?b6 ?b7 ?b8 ?_); (case b1 => rfl); (case b2 => rfl); (case b3 => rfl); (case b4 => rfl); (case b5 => exact heap_alloc_new _ _); (case b6 => rw [HPS.out.1]; exact inf39); (case b7 => rw [HPS.out.1]; exact Tryz.zeroCells39_size); (case b8 => exact HPS.out.2); generalize hW6 : World.setRow _ _ _ = w6; have e6 : w5.alloc (.cells ps 39) = w6 := (by rw [← hW6, World.setRow_alloc_new]); have hB6 : Below w5.heap.size w5 w6 := (by rw [← e6]; exact bA (Below.refl _ _) _); have Z6 := Lib.hid (keep Z5.out hB6); have B6 := Lib.hid (B5.out.trans (hB6.mono B5.out.size)); clear hW6 e6 hB6)
      | (go_at_call 10; (with_reducible refine (H10.out _).mono ?_); rintro e w7 ⟨rfl, hb7⟩; have Z7 := Lib.hid (keep Z6.out hb7); have B7 := Lib.hid (B6.out.trans (hb7.mono B6.out.size)); clear hb7)
      | ((with_reducible refine wpList_store_row (o := ⟨none, .store 30 (.tmp 4) (.tmp 26), _, _, _, _⟩) ?b1 30 (.tmp 4) (.tmp 26) ?b2 w.heap.size us ?b3 ?b4 30 #[.bool false, .int .i64 0, .int .u64 0, .int .u64 0, .int .u64 0, .int .u64 0, .int .u64 0, .int .u64 0] ?b5 ?b6 ?b7 ?b8 ?_); (case b1 => rfl); (case b2 => rfl); (case b3 => rfl); (case b4 => rfl); (case b5 => exact Z7.out); (case b6 => rw [HU.out.1]; exact inf30); (case b7 => rw [HU.out.1]; rfl); (case b8 => exact HU.out.2)))
    refine bodyPost_ret (v := .tuple #[.agg us, .bool true]) (results_row_tmp (p := 4) (q := 5) rfl _ _ w.heap.size 30 us (0, 0) _ rfl rfl (setRow_heap _ _ _ _ 30 (0, 0) Z7.out) Tryz.underlying30 rfl (by rw [HU.out.1]; exact inf30)) rfl ?_
    exact ⟨us, true, rfl, HU.out.1, HU.out.2, .inl ⟨rfl, by rw [← HTA.out]; exact HF.out, by rw [← HTA.out]; exact HUS.out⟩, Below.setRow' B7.out (Nat.le_refl _) _⟩
  · have H9 := Lib.hid hp9
    have HF := Lib.hid hF
    clear hp9 hp10 hF
    have hz : ∀ (i : Nat) (W : World) (v : Value), W.heap[w.heap.size]? = some (.cells #[.bool false, .int .i64 0, .int .u64 0, .int .u64 0, .int .u64 0, .int .u64 0, .int .u64 0, .int .u64 0] 30 (0, 0)) → (#[.bool false, .int .i64 0, .int .u64 0, .int .u64 0, .int .u64 0, .int .u64 0, .int .u64 0, .int .u64 0] : Array Value).setIfInBounds i v = #[.bool false, .int .i64 0, .int .u64 0, .int .u64 0, .int .u64 0, .int .u64 0, .int .u64 0, .int .u64 0] → (W.setCell ⟨w.heap.size, i, none⟩ v).heap[w.heap.size]? = some (.cells #[.bool false, .int .i64 0, .int .u64 0, .int .u64 0, .int .u64 0, .int .u64 0, .int .u64 0, .int .u64 0] 30 (0, 0)) := fun i W v h e => by rw [heap_setCell_same _ _ _ _ _ _ h, e]
    go_upto_region 6 with (first
      | (go_at_call 9; (with_reducible refine (H9.out _).mono ?_); rintro e w5 ⟨ps, v, rfl, hps, hal, hv, hb5⟩; have hv1 : (v != 1) = true := (by rw [bne_iff_ne]; exact fun h => HF.out (hv.1 h)); have HPS := Lib.hid (And.intro hps hal); have Z5 := Lib.hid (keep Z4.out hb5); have B5 := Lib.hid (B4.out.trans (hb5.mono B4.out.size)); clear hps hal hv hb5)
      | ((with_reducible refine wpList_store_row (o := ⟨none, .store 39 (.tmp 8) (.tmp 19), _, _, _, _⟩) ?b1 39 (.tmp 8) (.tmp 19) ?b2 w5.heap.size ps ?b3 ?b4 39 Tryz.zeroCells39 ?b5 ?b6 ?b7 ?b8 ?_); (case b1 => rfl); (case b2 => rfl); (case b3 => rfl); (case b4 => rfl); (case b5 => exact heap_alloc_new _ _); (case b6 => rw [HPS.out.1]; exact inf39); (case b7 => rw [HPS.out.1]; exact Tryz.zeroCells39_size); (case b8 => exact HPS.out.2); generalize hW6 : World.setRow _ _ _ = w6; have e6 : w5.alloc (.cells ps 39) = w6 := (by rw [← hW6, World.setRow_alloc_new]); have hB6 : Below w5.heap.size w5 w6 := (by rw [← e6]; exact bA (Below.refl _ _) _); have Z6 := Lib.hid (keep Z5.out hB6); have B6 := Lib.hid (B5.out.trans (hB6.mono B5.out.size)); clear hW6 e6 hB6))
    have y0 : w6.cell? ⟨w.heap.size, 0, none⟩ = some (.bool false) := cell_of_row _ _ 0 _ _ _ Z6.out
    have f0 : w6.frozen? ⟨w.heap.size, 0, none⟩ = false := frozen_of_row _ _ 0 _ _ Z6.out
    have y1 : w6.cell? ⟨w.heap.size, 1, none⟩ = some (.int .i64 0) := cell_of_row _ _ 1 _ _ _ Z6.out
    have f1 : w6.frozen? ⟨w.heap.size, 1, none⟩ = false := frozen_of_row _ _ 1 _ _ Z6.out
    have y2 : w6.cell? ⟨w.heap.size, 2, none⟩ = some (.int .u64 0) := cell_of_row _ _ 2 _ _ _ Z6.out
    have f2 : w6.frozen? ⟨w.heap.size, 2, none⟩ = false := frozen_of_row _ _ 2 _ _ Z6.out
    have y3 : w6.cell? ⟨w.heap.size, 3, none⟩ = some (.int .u64 0) := cell_of_row _ _ 3 _ _ _ Z6.out
    have f3 : w6.frozen? ⟨w.heap.size, 3, none⟩ = false := frozen_of_row _ _ 3 _ _ Z6.out
    have y4 : w6.cell? ⟨w.heap.size, 4, none⟩ = some (.int .u64 0) := cell_of_row _ _ 4 _ _ _ Z6.out
    have f4 : w6.frozen? ⟨w.heap.size, 4, none⟩ = false := frozen_of_row _ _ 4 _ _ Z6.out
    have y5 : w6.cell? ⟨w.heap.size, 5, none⟩ = some (.int .u64 0) := cell_of_row _ _ 5 _ _ _ Z6.out
    have f5 : w6.frozen? ⟨w.heap.size, 5, none⟩ = false := frozen_of_row _ _ 5 _ _ Z6.out
    have y6 : w6.cell? ⟨w.heap.size, 6, none⟩ = some (.int .u64 0) := cell_of_row _ _ 6 _ _ _ Z6.out
    have f6 : w6.frozen? ⟨w.heap.size, 6, none⟩ = false := frozen_of_row _ _ 6 _ _ Z6.out
    have y7 : w6.cell? ⟨w.heap.size, 7, none⟩ = some (.int .u64 0) := cell_of_row _ _ 7 _ _ _ Z6.out
    have f7 : w6.frozen? ⟨w.heap.size, 7, none⟩ = false := frozen_of_row _ _ 7 _ _ Z6.out
    go_wp2
    refine bodyPost_ret (v := .tuple #[.agg zero30, .bool false]) (results_row_tmp (p := 4) (q := 5) rfl _ _ w.heap.size 30 zero30 (0, 0) _ rfl rfl (hz 7 _ _ ((hz 6 _ _ ((hz 5 _ _ ((hz 4 _ _ ((hz 3 _ _ ((hz 2 _ _ ((hz 1 _ _ ((hz 0 _ _ (Z6.out) rfl)) rfl)) rfl)) rfl)) rfl)) rfl)) rfl)) rfl) Tryz.underlying30 rfl (by kernel_rfl)) rfl ?_
    exact ⟨zero30, false, rfl, rfl, by simp [zero30, Value.oneCell'], .inr ⟨rfl, by rw [← HTA.out]; exact HF.out⟩, (below_set ((below_set ((below_set ((below_set ((below_set ((below_set ((below_set ((below_set (B6.out) (Nat.le_refl _))) (Nat.le_refl _))) (Nat.le_refl _))) (Nat.le_refl _))) (Nat.le_refl _))) (Nat.le_refl _))) (Nat.le_refl _))) (Nat.le_refl _))⟩
end Go.Proofs.YtjmgebhjkbcpcaaGreatDoor.Txt
end
section
set_option linter.unusedVariables false
set_option linter.unusedSimpArgs false
namespace Go.Proofs.YtjmgebhjkbcpcaaGreatDoor.Txt
open Go.Proofs.YtjmgebhjkbcpcaaGreatDoor.NM
open Go Go.RowKit Go.Lib Go.Proofs.YtjmgebhjkbcpcaaGreatDoorW.PrintWords
set_option maxRecDepth 100000
theorem eq24 (a b c d : Int) (w : World) : (Op.equalIn 10000 24 (.agg #[.int .i64 a, .int .i64 b]) (.agg #[.int .i64 c, .int .i64 d])).run Tryz.prog w = .ok (a == c && b == d) w := by
  have u3 := Tryz.underlying3
  have hS : Tryz.prog.underlying 24 = some (.struct (Tryz.prog.fieldsOf 24)) := by kernel_rfl
  rw [show (10000 : Nat) = 9999 + 1 from rfl, run_equalIn_agg w 9999 24 _ _ hS (by kernel_rfl)]
  simp only [Program.fieldsOf, Tryz.underlying24]
  go_simp
  by_cases h1 : a = c <;> by_cases h2 : b = d <;> simp [h1, h2]
theorem tGood5 (s n : Int) : ∃ r : Bool, (r = true → -62135596800 ≤ s ∧ s ≤ 253402300799 ∧ 0 ≤ n ∧ n < 1000000000) ∧ ∀ w, Calls Tryz.prog 5 #[.agg #[.int .i64 s, .int .i64 n]] w fun e w' => e = .returned (.bool r) ∧ Below w.heap.size w w' := by
  by_cases h1 : -62135596800 ≤ s
  · have t1 : decide (-62135596800 ≤ s) = true := decide_eq_true h1
    by_cases h2 : s ≤ 253402300799
    · have t2 : decide (s ≤ 253402300799) = true := decide_eq_true h2
      by_cases h3 : 0 ≤ n
      · have t3 : decide (0 ≤ n) = true := decide_eq_true h3
        refine ⟨decide (n < 1000000000), fun h => ⟨h1, h2, h3, of_decide_eq_true h⟩, fun w => ?_⟩
        clear h1 h2 h3
        go_enter Tryz.func5, Tryz.ntmps5
        go_wp2
        go_ret
        exact ⟨rfl, bA (Below.refl _ _) _⟩
      · have t3 : decide (0 ≤ n) = false := decide_eq_false h3
        refine ⟨false, fun h => absurd h (by decide), fun w => ?_⟩
        clear h1 h2 h3
        go_enter Tryz.func5, Tryz.ntmps5
        go_wp2
        go_ret
        exact ⟨rfl, bA (Below.refl _ _) _⟩
    · have t2 : decide (s ≤ 253402300799) = false := decide_eq_false h2
      refine ⟨false, fun h => absurd h (by decide), fun w => ?_⟩
      clear h1 h2
      go_enter Tryz.func5, Tryz.ntmps5
      go_wp2
      go_ret
      exact ⟨rfl, bA (Below.refl _ _) _⟩
  · have t1 : decide (-62135596800 ≤ s) = false := decide_eq_false h1
    refine ⟨false, fun h => absurd h (by decide), fun w => ?_⟩
    clear h1
    go_enter Tryz.func5, Tryz.ntmps5
    go_wp2
    go_ret
    exact ⟨rfl, bA (Below.refl _ _) _⟩
theorem tKind6 (k : Int) : ∃ r : Bool, (r = true → 0 ≤ k ∧ k < 6) ∧ ∀ w, Calls Tryz.prog 6 #[.int .i64 k] w fun e w' => e = .returned (.bool r) ∧ Below w.heap.size w w' := by
  by_cases h1 : 0 ≤ k
  · have t1 : decide (0 ≤ k) = true := decide_eq_true h1
    refine ⟨decide (k < 6), fun h => ⟨h1, of_decide_eq_true h⟩, fun w => ?_⟩
    clear h1
    go_enter Tryz.func6, Tryz.ntmps6
    go_wp2
    go_ret
    exact ⟨rfl, Below.refl _ _⟩
  · have t1 : decide (0 ≤ k) = false := decide_eq_false h1
    refine ⟨false, fun h => absurd h (by decide), fun w => ?_⟩
    clear h1
    go_enter Tryz.func6, Tryz.ntmps6
    go_wp2
    go_ret
    exact ⟨rfl, Below.refl _ _⟩
theorem tUTC13 (w : World) : Calls Tryz.prog 13 #[] w fun e w' => e = .returned zone0 ∧ Below w.heap.size w w' := by
  go_enter Tryz.func13, Tryz.ntmps13
  go_wp2
  exact bodyPost_ret (results_cell_row rfl _ _ w.heap.size 52 #[.slice none 0 0, .slice none 0 0, .slice none 0 0, .slice none 0 0] (0, 0) _ rfl (heap_alloc_new _ _) Tryz.underlying52 rfl (by kernel_rfl)) rfl ⟨rfl, bA (Below.refl _ _) _⟩
theorem tBefore33 (a b : Int) (w : World) : Calls Tryz.prog 33 #[.agg #[.int .i64 a, .int .i64 0], .agg #[.int .i64 b, .int .i64 0]] w fun e w' => e = .returned (.bool (decide (a < b))) ∧ Below w.heap.size w w' := by
  by_cases h : a < b
  · have t1 : decide (a < b) = true := decide_eq_true h
    rw [t1]
    go_enter Tryz.func33, Tryz.ntmps33
    go_wp2
    go_ret
    exact ⟨rfl, bA (bA (Below.refl _ _) _) _⟩
  · have t1 : decide (a < b) = false := decide_eq_false h
    rw [t1]
    by_cases e : a = b
    · have t2 : (a == b) = true := beq_iff_eq.2 e
      clear e
      go_enter Tryz.func33, Tryz.ntmps33
      go_wp2
      go_ret
      exact ⟨rfl, bA (bA (Below.refl _ _) _) _⟩
    · have t2 : (a == b) = false := beq_eq_false_iff_ne.2 e
      clear e
      go_enter Tryz.func33, Tryz.ntmps33
      go_wp2
      go_ret
      exact ⟨rfl, bA (bA (Below.refl _ _) _) _⟩
/-- an answer's instant, and whether there is one -/
def mV : Option Int → Value
  | some x => .agg #[.int .i64 (x - 62135596800), .int .i64 0]
  | none => .agg #[.int .i64 0, .int .i64 0]
theorem ansV_eq (o : Option Int) : ansV o = .tuple #[mV o, .bool o.isSome] := by cases o <;> rfl
def earV (a : Int) (p : Bool) : Value := .tuple #[.agg #[.int .i64 a, .int .i64 0], .bool p]
theorem alloc3 (w : World) (o1 o2 o3 : Obj) : (((w.alloc o1).alloc o2).alloc o3).heap[w.heap.size + 1 + 1]? = some o3 := by
  have := heap_alloc_new ((w.alloc o1).alloc o2) o3
  simpa using this
theorem tEarA (a b : Int) (w : World) : Calls Tryz.prog 14 #[.agg #[.int .i64 a, .int .i64 0], .bool true, .agg #[.int .i64 b, .int .i64 0], .bool false] w fun e w' => e = .returned (earV a true) ∧ Below w.heap.size w w' := by
  go_enter Tryz.func14, Tryz.ntmps14
  go_wp2
  refine bodyPost_ret (v := earV a true) (results_row_tmp (p := 8) (q := 9) rfl _ _ (w.heap.size + 1 + 1) 24 #[.int .i64 a, .int .i64 0] (0, 0) _ rfl rfl (alloc3 w _ _ _) Tryz.underlying24 rfl (by kernel_rfl)) rfl ?_
  exact ⟨rfl, bA (bA (bA (Below.refl _ _) _) _) _⟩
theorem tEarN (a b : Int) (w : World) : Calls Tryz.prog 14 #[.agg #[.int .i64 a, .int .i64 0], .bool false, .agg #[.int .i64 b, .int .i64 0], .bool false] w fun e w' => e = .returned (earV b false) ∧ Below w.heap.size w w' := by
  go_enter Tryz.func14, Tryz.ntmps14
  go_wp2
  refine bodyPost_ret (v := earV b false) (results_row_tmp (p := 8) (q := 9) rfl _ _ (w.heap.size + 1 + 1) 24 #[.int .i64 b, .int .i64 0] (0, 0) _ rfl rfl (alloc3 w _ _ _) Tryz.underlying24 rfl (by kernel_rfl)) rfl ?_
  exact ⟨rfl, bA (bA (bA (Below.refl _ _) _) _) _⟩
theorem tEarB (a b : Int) (w : World) : Calls Tryz.prog 14 #[.agg #[.int .i64 a, .int .i64 0], .bool false, .agg #[.int .i64 b, .int .i64 0], .bool true] w fun e w' => e = .returned (earV b true) ∧ Below w.heap.size w w' := by
  go_enter Tryz.func14, Tryz.ntmps14
  go_wp2
  refine bodyPost_ret (v := earV b true) (results_row_tmp (p := 8) (q := 9) rfl _ _ (w.heap.size + 1 + 1) 24 #[.int .i64 b, .int .i64 0] (0, 0) _ rfl rfl (alloc3 w _ _ _) Tryz.underlying24 rfl (by kernel_rfl)) rfl ?_
  exact ⟨rfl, bA (bA (bA (Below.refl _ _) _) _) _⟩
theorem tEarC (a b : Int) (w : World) : Calls Tryz.prog 14 #[.agg #[.int .i64 a, .int .i64 0], .bool true, .agg #[.int .i64 b, .int .i64 0], .bool true] w fun e w' => e = .returned (earV (if b < a then b else a) true) ∧ Below w.heap.size w w' := by
  have h0 : (((w.alloc (.cells #[.int .i64 a, .int .i64 0] 24)).alloc (.cells #[.int .i64 b, .int .i64 0] 24)).alloc (.cells #[.int .i64 0, .int .i64 0] 24)).heap[w.heap.size]? = some (.cells #[.int .i64 a, .int .i64 0] 24 (0, 0)) := by
    rw [Below.heap_alloc _ _ _ (by simp; omega), Below.heap_alloc _ _ _ (by simp)]; exact heap_alloc_new _ _
  have h1 : (((w.alloc (.cells #[.int .i64 a, .int .i64 0] 24)).alloc (.cells #[.int .i64 b, .int .i64 0] 24)).alloc (.cells #[.int .i64 0, .int .i64 0] 24)).heap[w.heap.size + 1]? = some (.cells #[.int .i64 b, .int .i64 0] 24 (0, 0)) := by
    rw [Below.heap_alloc _ _ _ (by simp)]
    have := heap_alloc_new (w.alloc (.cells #[.int .i64 a, .int .i64 0] 24)) (.cells #[.int .i64 b, .int .i64 0] 24)
    simpa using this
  have h2 := alloc3 w (.cells #[.int .i64 a, .int .i64 0] 24) (.cells #[.int .i64 b, .int .i64 0] 24) (.cells #[.int .i64 0, .int .i64 0] 24)
  have hB := bA (bA (bA (Below.refl w.heap.size w) (.cells #[.int .i64 a, .int .i64 0] 24)) (.cells #[.int .i64 b, .int .i64 0] 24)) (.cells #[.int .i64 0, .int .i64 0] 24)
  have keep : ∀ {W W' : World} {cs : Array Value} {t : TypeId} {g : Nat}, W.heap[g]? = some (.cells cs t (0, 0)) → Below W.heap.size W W' → W'.heap[g]? = some (.cells cs t (0, 0)) := fun h hb => by rw [hb.block _ (Array.getElem?_eq_some_iff.1 h).1]; exact h
  have H0 := Lib.hid h0
  have H1 := Lib.hid h1
  have H2 := Lib.hid h2
  have HB := Lib.hid hB
  clear h0 h1 h2 hB
  have hbf := fun w => tBefore33 b a w
  by_cases c : b < a
  · have e : decide (b < a) = true := decide_eq_true c
    rw [if_pos c]
    rw [e] at hbf
    have HBF := Lib.hid hbf
    clear hbf e c
    go_enter Tryz.func14, Tryz.ntmps14
    go_wp2_with (go_at_call 33; (with_reducible refine (HBF.out _).mono ?_); rintro e w1 ⟨rfl, hb1⟩; have K0 := Lib.hid (keep H0.out hb1); have K1 := Lib.hid (keep H1.out hb1); have K2 := Lib.hid (keep H2.out hb1); have KB := Lib.hid (HB.out.trans (hb1.mono HB.out.size)); have a0 : _ = some (Value.int .i64 a) := cell_of_row _ _ 0 _ _ _ K0.out; have a1 : _ = some (Value.int .i64 0) := cell_of_row _ _ 1 _ _ _ K0.out; have d0 : _ = some (Value.int .i64 b) := cell_of_row _ _ 0 _ _ _ K1.out; have d1 : _ = some (Value.int .i64 0) := cell_of_row _ _ 1 _ _ _ K1.out; have r0 : _ = some (Value.int .i64 0) := cell_of_row _ _ 0 _ _ _ K2.out; have r1 : _ = some (Value.int .i64 0) := cell_of_row _ _ 1 _ _ _ K2.out; have g0 := frozen_of_row _ _ 0 _ _ K2.out; have g1 := frozen_of_row _ _ 1 _ _ K2.out; clear hb1)
    refine bodyPost_ret (v := earV b true) (results_row_tmp (p := 8) (q := 9) rfl _ _ (w.heap.size + 1 + 1) 24 #[.int .i64 b, .int .i64 0] (0, 0) _ rfl rfl (by have t0 := heap_setCell_same _ _ 0 _ _ (.int .i64 b) K2.out; have t1 := heap_setCell_same _ _ 1 _ _ (.int .i64 0) t0; exact t1) Tryz.underlying24 rfl (by kernel_rfl)) rfl ?_
    exact ⟨rfl, below_set (below_set KB.out (by omega)) (by omega)⟩
  · have e : decide (b < a) = false := decide_eq_false c
    rw [if_neg c]
    rw [e] at hbf
    have HBF := Lib.hid hbf
    clear hbf e c
    go_enter Tryz.func14, Tryz.ntmps14
    go_wp2_with (go_at_call 33; (with_reducible refine (HBF.out _).mono ?_); rintro e w1 ⟨rfl, hb1⟩; have K0 := Lib.hid (keep H0.out hb1); have K1 := Lib.hid (keep H1.out hb1); have K2 := Lib.hid (keep H2.out hb1); have KB := Lib.hid (HB.out.trans (hb1.mono HB.out.size)); have a0 : _ = some (Value.int .i64 a) := cell_of_row _ _ 0 _ _ _ K0.out; have a1 : _ = some (Value.int .i64 0) := cell_of_row _ _ 1 _ _ _ K0.out; have d0 : _ = some (Value.int .i64 b) := cell_of_row _ _ 0 _ _ _ K1.out; have d1 : _ = some (Value.int .i64 0) := cell_of_row _ _ 1 _ _ _ K1.out; have r0 : _ = some (Value.int .i64 0) := cell_of_row _ _ 0 _ _ _ K2.out; have r1 : _ = some (Value.int .i64 0) := cell_of_row _ _ 1 _ _ _ K2.out; have g0 := frozen_of_row _ _ 0 _ _ K2.out; have g1 := frozen_of_row _ _ 1 _ _ K2.out; clear hb1)
    refine bodyPost_ret (v := earV a true) (results_row_tmp (p := 8) (q := 9) rfl _ _ (w.heap.size + 1 + 1) 24 #[.int .i64 a, .int .i64 0] (0, 0) _ rfl rfl (by have t0 := heap_setCell_same _ _ 0 _ _ (.int .i64 a) K2.out; have t1 := heap_setCell_same _ _ 1 _ _ (.int .i64 0) t0; exact t1) Tryz.underlying24 rfl (by kernel_rfl)) rfl ?_
    exact ⟨rfl, below_set (below_set KB.out (by omega)) (by omega)⟩
theorem tEarlier14 (o1 o2 : Option Int) (w : World) : Calls Tryz.prog 14 #[mV o1, .bool o1.isSome, mV o2, .bool o2.isSome] w fun e w' => e = .returned (ansV (early o1 o2)) ∧ Below w.heap.size w w' := by
  cases o1 with
  | none =>
    cases o2 with
    | none => exact tEarN 0 0 w
    | some b => exact tEarB 0 (b - 62135596800) w
  | some a =>
    cases o2 with
    | none => exact tEarA (a - 62135596800) 0 w
    | some b =>
      have h := tEarC (a - 62135596800) (b - 62135596800) w
      unfold early
      simp only
      by_cases c : b < a
      · rw [if_pos (by omega)] at h
        rw [if_pos c]; exact h
      · rw [if_neg (by omega)] at h
        rw [if_neg c]; exact h
end Go.Proofs.YtjmgebhjkbcpcaaGreatDoor.Txt
end
section
set_option linter.unusedVariables false
set_option linter.unusedSimpArgs false
namespace Go.Proofs.YtjmgebhjkbcpcaaGreatDoor.Txt
open Go.Proofs.YtjmgebhjkbcpcaaGreatDoor.NM
open Go Go.RowKit Go.Lib Go.Proofs.YtjmgebhjkbcpcaaGreatDoorW.PrintWords
set_option maxRecDepth 100000
/-- the law's boxes -/
structure LW (w : World) (xs : List ByteArray) (k s n : Int) (W : World) : Prop where
  gw : W.heap[w.heap.size]? = some (.cells (six xs) 22 (0, 0))
  gk : W.heap[w.heap.size + 1]? = some (.cells #[.int .i64 k] 3 (0, 0))
  gt : W.heap[w.heap.size + 1 + 1]? = some (.cells #[.int .i64 s, .int .i64 n] 24 (0, 0))
  be : Below w.heap.size w W
theorem keepC {W W' : World} {cs : Array Value} {t : TypeId} {g : Nat} (h : W.heap[g]? = some (.cells cs t (0, 0))) (hb : Below W.heap.size W W') : W'.heap[g]? = some (.cells cs t (0, 0)) := by
  rw [hb.block _ (Array.getElem?_eq_some_iff.1 h).1]; exact h
theorem LW.keep {w : World} {xs : List ByteArray} {k s n : Int} {W W' : World} (h : LW w xs k s n W) (hb : Below W.heap.size W W') : LW w xs k s n W' :=
  ⟨keepC h.gw hb, keepC h.gk hb, keepC h.gt hb, h.be.trans (hb.mono h.be.size)⟩
theorem LW.new (w : World) (xs : List ByteArray) (k s n : Int) : LW w xs k s n (((w.alloc (.cells (six xs) 22)).alloc (.cells #[.int .i64 k] 3)).alloc (.cells #[.int .i64 s, .int .i64 n] 24)) := by
  refine ⟨?_, ?_, alloc3 w _ _ _, bA (bA (bA (Below.refl _ _) _) _) _⟩
  · rw [Below.heap_alloc _ _ _ (by simp; omega), Below.heap_alloc _ _ _ (by simp)]; exact heap_alloc_new _ _
  · rw [Below.heap_alloc _ _ _ (by simp)]
    have := heap_alloc_new (w.alloc (.cells (six xs) 22)) (.cells #[.int .i64 k] 3)
    simpa using this
theorem LW.cells {w : World} {xs : List ByteArray} {k s n : Int} {W : World} (h : LW w xs k s n W) : W.cell? ⟨w.heap.size + 1, 0, none⟩ = some (.int .i64 k) ∧ W.cell? ⟨w.heap.size + 1 + 1, 0, none⟩ = some (.int .i64 s) ∧ W.cell? ⟨w.heap.size + 1 + 1, 1, none⟩ = some (.int .i64 n) :=
  ⟨cell_of_row _ _ 0 _ _ _ h.gk, cell_of_row _ _ 0 _ _ _ h.gt, cell_of_row _ _ 1 _ _ _ h.gt⟩
theorem append7 (W : World) (gw b : Nat) (xs : List ByteArray) (h6 : xs.length = 6) (p : ByteArray) (hg : W.heap[gw]? = some (.cells (six xs) 22 (0, 0))) (hb : W.heap[b]? = some (.cells #[.string p] 9 (0, 0))) :
    ∃ c W', (Builtin.append_ #[32, 32] 32 #[.slice (some ⟨gw, 0, none⟩) 6 6, .slice (some ⟨b, 0, none⟩) 1 1]).run Tryz.prog W = .ok (.slice (some ⟨W.heap.size, 0, none⟩) 7 c) W' ∧ Below W.heap.size W W' ∧
      ∀ i (h : i < (xs ++ [p]).length), W'.cell? ⟨W.heap.size, i, none⟩ = some (.string (xs ++ [p])[i]) := by
  obtain ⟨i0, hi, hz0, hz1, hz2⟩ := info_parts info9
  have hlen : (six xs).toList.length = 6 := by simp [six]; exact h6
  have hr := run_append_grow (P := Tryz.prog) W 32 32 9 i0 (.string ⟨#[]⟩) Tryz.underlying32 hi hz0 ⟨gw, 0, none⟩ 6 6 (six xs).toList (by rw [hz1, hlen])
    (fun j v hj => by
      have e : (⟨gw, 0, none⟩ : Addr).add j = ⟨gw, j, none⟩ := by simp [Addr.add]; omega
      rw [e, cell_of_row _ _ _ _ _ _ hg, ← Array.getElem?_toList]; exact hj)
    ⟨b, 0, none⟩ 1 1 [.string p] (by rw [hz1]; rfl)
    (fun j v hj => by
      have e : (⟨b, 0, none⟩ : Addr).add j = ⟨b, j, none⟩ := by simp [Addr.add]; omega
      rw [e, cell_of_row _ _ _ _ _ _ hb, ← Array.getElem?_toList]; exact hj)
    (by decide) (by decide) (by rw [hz2]; decide)
  refine ⟨_, _, hr, (Below.refl _ _).drew.alloc (Nat.le_refl _) _, fun i hi' => ?_⟩
  have hnew : (W.drew.alloc (.cells ((six xs).toList.toArray ++ [Value.string p].toArray ++ Builtin.zeroCells (Value.string ⟨#[]⟩).cells (grownCap W (6 + 1) 6 9 - (6 + 1))) 9)).heap[W.heap.size]? = _ := heap_alloc_new W.drew _
  rw [cell_of_row _ _ i _ _ _ hnew]
  rw [List.length_append, h6] at hi'
  simp only [List.length_cons, List.length_nil] at hi'
  have e7 : ((six xs).toList.toArray ++ [Value.string p].toArray).size = 7 := by simp [six, h6]
  rw [Array.getElem?_append_left (by rw [e7]; omega)]
  by_cases c : i < 6
  · rw [Array.getElem?_append_left (by simp [six, h6]; exact c), Array.toArray_toList, six_get xs i (by omega), List.getElem_append_left (by omega)]
  · have : i = 6 := by omega
    subst this
    rw [Array.getElem?_append_right (by simp [six, h6])]
    simp [six, h6]
end Go.Proofs.YtjmgebhjkbcpcaaGreatDoor.Txt
end
section
set_option linter.unusedVariables false
set_option linter.unusedSimpArgs false
namespace Go.Proofs.YtjmgebhjkbcpcaaGreatDoor.Txt
open Go.Proofs.YtjmgebhjkbcpcaaGreatDoor.NM
open Go Go.RowKit Go.Lib Go.Proofs.YtjmgebhjkbcpcaaGreatDoorW.PrintWords
set_option maxRecDepth 100000
def okLen (xs : List ByteArray) : Bool := xs.all fun x => decide (x.size ≤ 2147483647)
theorem tLawA (xs : List ByteArray) (h6 : xs.length = 6) (k : Int) (p : ByteArray) (s n : Int) (w : World) (hall : okLen xs = false) :
    Calls Tryz.prog 3 #[.agg (six xs), .int .i64 k, .string p, .agg #[.int .i64 s, .int .i64 n]] w fun e w' => e = .returned (.bool true) ∧ Below w.heap.size w w' := by
  have L0 := Lib.hid (LW.new w xs k s n)
  have hf := fun w => tFits6 xs h6 w
  have e : (xs.all fun x => decide (x.size ≤ 2147483647)) = false := hall
  rw [e] at hf
  have HF := Lib.hid hf
  have hsz : (six xs).size = 6 := by simp [six]; exact h6
  have HSZ := Lib.hid hsz
  clear hf hall hsz e
  go_enter Tryz.func3, Tryz.ntmps3
  go_wp2_with (first
    | ((with_reducible refine wpList_load_row (o := ⟨some 26, _, _, _, _, _⟩) ?a1 22 (.tmp 4) ?a2 w.heap.size ?a3 22 (six xs) (0, 0) _ ?a4 und22 ?a5 ?a6 ?_); (case a1 => rfl); (case a2 => rfl); (case a3 => rfl); (case a5 => rfl); (case a6 => rw [HSZ.out]; exact inf22); (case a4 => exact L0.out.gw))
    | (go_at_call 4; (with_reducible refine (HF.out _).mono ?_); rintro e w1 ⟨rfl, hb1⟩))
  go_ret
  exact ⟨rfl, L0.out.be.trans (hb1.mono L0.out.be.size)⟩
theorem tLawB (xs : List ByteArray) (h6 : xs.length = 6) (k : Int) (p : ByteArray) (s n : Int) (w : World) (hall : okLen xs = true) (hp : 2147483647 < p.size) :
    Calls Tryz.prog 3 #[.agg (six xs), .int .i64 k, .string p, .agg #[.int .i64 s, .int .i64 n]] w fun e w' => e = .returned (.bool true) ∧ Below w.heap.size w w' := by
  have L0 := Lib.hid (LW.new w xs k s n)
  have hf := fun w => tFits6 xs h6 w
  have e : (xs.all fun x => decide (x.size ≤ 2147483647)) = true := hall
  rw [e] at hf
  have HF := Lib.hid hf
  have hsz : (six xs).size = 6 := by simp [six]; exact h6
  have HSZ := Lib.hid hsz
  have hp' : decide ((2147483647 : Int) < (p.size : Int)) = true := decide_eq_true (by omega)
  clear hf hall hsz e hp
  go_enter Tryz.func3, Tryz.ntmps3
  go_wp2_with (first
    | ((with_reducible refine wpList_load_row (o := ⟨some 26, _, _, _, _, _⟩) ?a1 22 (.tmp 4) ?a2 w.heap.size ?a3 22 (six xs) (0, 0) _ ?a4 und22 ?a5 ?a6 ?_); (case a1 => rfl); (case a2 => rfl); (case a3 => rfl); (case a5 => rfl); (case a6 => rw [HSZ.out]; exact inf22); (case a4 => exact L0.out.gw))
    | (go_at_call 4; (with_reducible refine (HF.out _).mono ?_); rintro e w1 ⟨rfl, hb1⟩))
  go_ret
  exact ⟨rfl, L0.out.be.trans (hb1.mono L0.out.be.size)⟩
theorem tLawC (xs : List ByteArray) (h6 : xs.length = 6) (k : Int) (p : ByteArray) (s n : Int) (w : World) (hall : okLen xs = true) (hp : p.size ≤ 2147483647)
    (h5 : ∀ w, Calls Tryz.prog 5 #[.agg #[.int .i64 s, .int .i64 n]] w fun e w' => e = .returned (.bool false) ∧ Below w.heap.size w w') :
    Calls Tryz.prog 3 #[.agg (six xs), .int .i64 k, .string p, .agg #[.int .i64 s, .int .i64 n]] w fun e w' => e = .returned (.bool true) ∧ Below w.heap.size w w' := by
  have L0 := Lib.hid (LW.new w xs k s n)
  have hf := fun w => tFits6 xs h6 w
  have e : (xs.all fun x => decide (x.size ≤ 2147483647)) = true := hall
  rw [e] at hf
  have HF := Lib.hid hf
  have hsz : (six xs).size = 6 := by simp [six]; exact h6
  have HSZ := Lib.hid hsz
  have H5 := Lib.hid h5
  have hp' : decide ((2147483647 : Int) < (p.size : Int)) = false := decide_eq_false (by omega)
  clear hf hall hsz e hp h5
  go_enter Tryz.func3, Tryz.ntmps3
  go_wp2_with (first
    | ((with_reducible refine wpList_load_row (o := ⟨some 26, _, _, _, _, _⟩) ?a1 22 (.tmp 4) ?a2 w.heap.size ?a3 22 (six xs) (0, 0) _ ?a4 und22 ?a5 ?a6 ?_); (case a1 => rfl); (case a2 => rfl); (case a3 => rfl); (case a5 => rfl); (case a6 => rw [HSZ.out]; exact inf22); (case a4 => exact L0.out.gw))
    | (go_at_call 4; (with_reducible refine (HF.out _).mono ?_); rintro e w1 ⟨rfl, hb1⟩; have L1 := Lib.hid (L0.out.keep hb1); obtain ⟨ck, c0, c1⟩ := L1.out.cells; clear hb1)
    | (go_at_call 5; (with_reducible refine (H5.out _).mono ?_); rintro e w2 ⟨rfl, hb2⟩))
  go_ret
  exact ⟨rfl, L1.out.be.trans (hb2.mono L1.out.be.size)⟩
theorem tLawD (xs : List ByteArray) (h6 : xs.length = 6) (k : Int) (p : ByteArray) (s n : Int) (w : World) (hall : okLen xs = true) (hp : p.size ≤ 2147483647)
    (h5 : ∀ w, Calls Tryz.prog 5 #[.agg #[.int .i64 s, .int .i64 n]] w fun e w' => e = .returned (.bool true) ∧ Below w.heap.size w w')
    (hk : ∀ w, Calls Tryz.prog 6 #[.int .i64 k] w fun e w' => e = .returned (.bool false) ∧ Below w.heap.size w w') :
    Calls Tryz.prog 3 #[.agg (six xs), .int .i64 k, .string p, .agg #[.int .i64 s, .int .i64 n]] w fun e w' => e = .returned (.bool true) ∧ Below w.heap.size w w' := by
  have L0 := Lib.hid (LW.new w xs k s n)
  have hf := fun w => tFits6 xs h6 w
  have e : (xs.all fun x => decide (x.size ≤ 2147483647)) = true := hall
  rw [e] at hf
  have HF := Lib.hid hf
  have hsz : (six xs).size = 6 := by simp [six]; exact h6
  have HSZ := Lib.hid hsz
  have H5 := Lib.hid h5
  have H6 := Lib.hid hk
  have hp' : decide ((2147483647 : Int) < (p.size : Int)) = false := decide_eq_false (by omega)
  clear hf hall hsz e hp h5 hk
  go_enter Tryz.func3, Tryz.ntmps3
  go_wp2_with (first
    | ((with_reducible refine wpList_load_row (o := ⟨some 26, _, _, _, _, _⟩) ?a1 22 (.tmp 4) ?a2 w.heap.size ?a3 22 (six xs) (0, 0) _ ?a4 und22 ?a5 ?a6 ?_); (case a1 => rfl); (case a2 => rfl); (case a3 => rfl); (case a5 => rfl); (case a6 => rw [HSZ.out]; exact inf22); (case a4 => exact L0.out.gw))
    | (go_at_call 4; (with_reducible refine (HF.out _).mono ?_); rintro e w1 ⟨rfl, hb1⟩; have L1 := Lib.hid (L0.out.keep hb1); obtain ⟨ck, c0, c1⟩ := L1.out.cells; clear hb1)
    | (go_at_call 5; (with_reducible refine (H5.out _).mono ?_); rintro e w2 ⟨rfl, hb2⟩; have L2 := Lib.hid (L1.out.keep hb2); obtain ⟨dk, d0, d1⟩ := L2.out.cells; clear hb2)
    | (go_at_call 6; (with_reducible refine (H6.out _).mono ?_); rintro e w3 ⟨rfl, hb3⟩))
  go_ret
  exact ⟨rfl, L2.out.be.trans (hb3.mono L2.out.be.size)⟩
end Go.Proofs.YtjmgebhjkbcpcaaGreatDoor.Txt
end
section
set_option linter.unusedVariables false
set_option linter.unusedSimpArgs false
namespace Go.Proofs.YtjmgebhjkbcpcaaGreatDoor.Txt
open Go.Proofs.YtjmgebhjkbcpcaaGreatDoor.NM
open Go Go.RowKit
theorem guard_star {d1 d2 w1 w2 : Int} (h1 : U64 d1) (h2 : U64 d2) (h3 : U64 w1) (h4 : U64 w2)
    (h : (bits .and .u64 (bits .or .u64 (bits .xor .u64 d1 d2) (bits .xor .u64 w1 w2)) 9223372036854775808 != 0) = false) : NM.star d1 = NM.star d2 ∧ NM.star w1 = NM.star w2 := by
  obtain ⟨a, rfl, na⟩ := u64_nat h1
  obtain ⟨b, rfl, nb⟩ := u64_nat h2
  obtain ⟨c, rfl, nc⟩ := u64_nat h3
  obtain ⟨d, rfl, nd⟩ := u64_nat h4
  rw [bits_xor_u64_nat a b na nb, bits_xor_u64_nat c d nc nd] at h
  have x1 : a ^^^ b < 2 ^ 64 := Nat.xor_lt_two_pow na nb
  have x2 : c ^^^ d < 2 ^ 64 := Nat.xor_lt_two_pow nc nd
  rw [or_nat _ _ x1 x2] at h
  have hn := and_nat ((a ^^^ b) ||| (c ^^^ d)) 9223372036854775808 (or_lt x1 x2) (by decide)
  rw [show ((9223372036854775808 : Nat) : Int) = 9223372036854775808 from rfl] at hn
  rw [hn] at h
  have ht : ((a ^^^ b) ||| (c ^^^ d)).testBit 63 = false := by
    rw [← and_pow, Nat.and_comm, show (2 : Nat) ^ 63 = 9223372036854775808 from rfl, decide_eq_false_iff_not]
    have h0 : (((a ^^^ b ||| c ^^^ d) &&& 9223372036854775808 : Nat) : Int) = 0 := by simpa using h
    omega
  rw [Nat.testBit_or, Nat.testBit_xor, Nat.testBit_xor, Bool.or_eq_false_iff] at ht
  rw [star_nat a na, star_nat b nb, star_nat c nc, star_nat d nd]
  constructor
  · have := ht.1; revert this; cases a.testBit 63 <;> cases b.testBit 63 <;> simp
  · have := ht.2; revert this; cases c.testBit 63 <;> cases d.testBit 63 <;> simp
/-- an answer's second -/
def mI (o : Option Int) : Int := match o with
  | some x => x - 62135596800
  | none => 0
theorem mV_eq (o : Option Int) : mV o = .agg #[.int .i64 (mI o), .int .i64 0] := by cases o <;> rfl
/-- a schedule's row -/
def srow (S : Sets) : Array Value := #[.bool false, .int .i64 0, .int .u64 S.se, .int .u64 S.mi, .int .u64 S.ho, .int .u64 S.dom, .int .u64 S.mon, .int .u64 S.dow]
structure MS (w : World) (xs : List ByteArray) (k s n : Int) (h1 h2 h3 : Nat) (S1 S2 S3 : Sets) (W : World) : Prop where
  lw : LW w xs k s n W
  r1 : W.heap[h1]? = some (.cells (srow S1) 30 (0, 0))
  r2 : W.heap[h2]? = some (.cells (srow S2) 30 (0, 0))
  r3 : W.heap[h3]? = some (.cells (srow S3) 30 (0, 0))
theorem MS.keep {w : World} {xs : List ByteArray} {k s n : Int} {h1 h2 h3 : Nat} {S1 S2 S3 : Sets} {W W' : World} (h : MS w xs k s n h1 h2 h3 S1 S2 S3 W) (hb : Below W.heap.size W W') : MS w xs k s n h1 h2 h3 S1 S2 S3 W' :=
  ⟨h.lw.keep hb, keepC h.r1 hb, keepC h.r2 hb, keepC h.r3 hb⟩
/-- the cells that a question to Next reads -/
def SB (W : World) (h : Nat) (S : Sets) (tb : Nat) (s n : Int) : Prop :=
  W.cell? ⟨h, 0, none⟩ = some (.bool false) ∧ W.cell? ⟨h, 1, none⟩ = some (.int .i64 0) ∧ W.cell? ⟨h, 2, none⟩ = some (.int .u64 S.se) ∧ W.cell? ⟨h, 3, none⟩ = some (.int .u64 S.mi) ∧ W.cell? ⟨h, 4, none⟩ = some (.int .u64 S.ho) ∧ W.cell? ⟨h, 5, none⟩ = some (.int .u64 S.dom) ∧ W.cell? ⟨h, 6, none⟩ = some (.int .u64 S.mon) ∧ W.cell? ⟨h, 7, none⟩ = some (.int .u64 S.dow) ∧
  W.cell? ⟨tb, 0, none⟩ = some (.int .i64 s) ∧ W.cell? ⟨tb, 1, none⟩ = some (.int .i64 n)
theorem SB.of {W : World} {h : Nat} {S : Sets} {tb : Nat} {s n : Int} (hr : W.heap[h]? = some (.cells (srow S) 30 (0, 0))) (ht : W.heap[tb]? = some (.cells #[.int .i64 s, .int .i64 n] 24 (0, 0))) : SB W h S tb s n :=
  ⟨cell_of_row _ _ 0 _ _ _ hr, cell_of_row _ _ 1 _ _ _ hr, cell_of_row _ _ 2 _ _ _ hr, cell_of_row _ _ 3 _ _ _ hr, cell_of_row _ _ 4 _ _ _ hr, cell_of_row _ _ 5 _ _ _ hr, cell_of_row _ _ 6 _ _ _ hr, cell_of_row _ _ 7 _ _ _ hr, cell_of_row _ _ 0 _ _ _ ht, cell_of_row _ _ 1 _ _ _ ht⟩
theorem tNextM (S : Sets) (s n : Int) (hn : 0 ≤ n ∧ n < 1000000000) (h0 : -62135596800 ≤ s) (h1 : s ≤ 253402300799) (w : World) :
    Calls Tryz.prog 12 #[.agg (srow S), .agg #[.int .i64 s, .int .i64 n], zone0] w fun e w' => e = .returned (.tuple #[.agg #[.int .i64 (mI (nextOf S none (s + 62135596800))), .int .i64 0], .bool (nextOf S none (s + 62135596800)).isSome]) ∧ Below w.heap.size w w' :=
  (tNext12 0 S s n w ⟨hn.1, hn.2⟩ h0 (by omega)).mono fun e w' h => ⟨by rw [h.1, ansV_eq, mV_eq], h.2⟩
theorem tEarM (o1 o2 : Option Int) (w : World) : Calls Tryz.prog 14 #[.agg #[.int .i64 (mI o1), .int .i64 0], .bool o1.isSome, .agg #[.int .i64 (mI o2), .int .i64 0], .bool o2.isSome] w fun e w' => e = .returned (.tuple #[.agg #[.int .i64 (mI (early o1 o2)), .int .i64 0], .bool (early o1 o2).isSome]) ∧ Below w.heap.size w w' := by
  have h := tEarlier14 o1 o2 w
  rw [mV_eq, mV_eq] at h
  exact h.mono fun e w' h => ⟨by rw [h.1, ansV_eq, mV_eq], h.2⟩
end Go.Proofs.YtjmgebhjkbcpcaaGreatDoor.Txt
end
section
set_option linter.unusedVariables false
set_option linter.unusedSimpArgs false
namespace Go.Proofs.YtjmgebhjkbcpcaaGreatDoor.Txt
open Go.Proofs.YtjmgebhjkbcpcaaGreatDoor.NM
open Go Go.RowKit Go.Lib Go.Proofs.YtjmgebhjkbcpcaaGreatDoorW.PrintWords
set_option maxRecDepth 100000
theorem wpList_append_eq {P : Program} {w : World} {ops : Array Oper} {rest : List Oper} {o : Oper} {a : Act} {Q : Exit → Act → World → Prop} (hgd : o.guard = none) (s x : Operand)
    (ho : o.op = .call { callee := .builtin .append, args := #[s, x], argTypes := #[32, 32] }) (hty : o.type = 32) (vs vx v' : Value) (w' : World) (hs : a.eval s = vs) (hx : a.eval x = vx)
    (hrun : (Builtin.append_ #[32, 32] 32 #[vs, vx]).run P w = .ok v' w') (h : wpList P ops Q rest (a.put o.dst v') w') : wpList P ops Q (o :: rest) a w := by
  refine wpList_plain hgd fun K hK => ?_
  unfold Oper.wp
  simp [execOp, ho, hty, resolve, invoke, builtin, hs, hx, hrun, Result.andThen]
  exact hK _ _ h
theorem SB.keep {W W' : World} {h : Nat} {S : Sets} {tb : Nat} {s n : Int} (q : SB W h S tb s n) (hb : Below W.heap.size W W') : SB W' h S tb s n := by
  obtain ⟨a0, a1, a2, a3, a4, a5, a6, a7, b0, b1⟩ := q
  exact ⟨NM.keep hb a0, NM.keep hb a1, NM.keep hb a2, NM.keep hb a3, NM.keep hb a4, NM.keep hb a5, NM.keep hb a6, NM.keep hb a7, NM.keep hb b0, NM.keep hb b1⟩
theorem SB.set {W : World} {h : Nat} {S : Sets} {tb g o : Nat} {s n : Int} {u : Value} (q : SB W h S tb s n) (h1 : h ≠ g) (h2 : tb ≠ g) : SB (W.setCell ⟨g, o, none⟩ u) h S tb s n := by
  obtain ⟨a0, a1, a2, a3, a4, a5, a6, a7, b0, b1⟩ := q
  refine ⟨?_, ?_, ?_, ?_, ?_, ?_, ?_, ?_, ?_, ?_⟩ <;> (rw [setc_other _ (by assumption)]; assumption)
theorem FF_join {k : Nat} {a b : Bs} (ha : FF k a) (hb : FF k b) : FF k (a ++ 44 :: b) := by
  intro i hi
  rw [pieces_append, List.mem_append] at hi
  rcases hi with hi | hi
  · exact ha i hi
  · exact hb i hi
theorem six_set_fine {ws : List Bs} (hl : ws.length = 6) (h : ∀ i (h : i < ws.length), FF i ws[i]) (k : Nat) (hk : k < 6) (p : Bs) (hp : FF k p) : Fine (join (ws.set k p)) := by
  refine fine_join ⟨by rw [List.length_set]; exact hl, fun i hi => ?_⟩
  rw [List.getD_eq_getElem?_getD, List.getElem?_eq_getElem (by rw [List.length_set]; omega), Option.getD_some]
  rw [List.getElem_set]
  split
  · rename_i e; rw [← e]; exact hp
  · exact h i (by omega)
theorem three_fine {xs : List ByteArray} (h6 : xs.length = 6) {k : Nat} (hk : k < 6) {p : ByteArray} (h : (∀ i (h : i < xs.length), FF i (tx xs[i])) ∧ FF k (tx p)) :
    Fine (join ((xs.map tx).set k (tx (xs[k]'(by omega))))) ∧ Fine (join ((xs.map tx).set k (tx p))) ∧ Fine (join ((xs.map tx).set k (tx (xs[k]'(by omega)) ++ 44 :: tx p))) := by
  have hl : (xs.map tx).length = 6 := by rw [List.length_map]; exact h6
  have ha : ∀ i (h : i < (xs.map tx).length), FF i (xs.map tx)[i] := fun i hi => by rw [List.getElem_map]; exact h.1 i (by rw [List.length_map] at hi; exact hi)
  have hxk := h.1 k (by omega)
  exact ⟨six_set_fine hl ha k hk _ hxk, six_set_fine hl ha k hk _ h.2, six_set_fine hl ha k hk _ (FF_join hxk h.2)⟩
def AC (W : World) (a : Nat) (m : Int) : Prop := W.cell? ⟨a, 0, none⟩ = some (.int .i64 m) ∧ W.cell? ⟨a, 1, none⟩ = some (.int .i64 0)
theorem ac_new (W : World) (m : Int) : AC (W.alloc (.cells #[.int .i64 m, .int .i64 0] 24)) W.heap.size m :=
  ⟨cell_of_row _ _ 0 _ _ _ (heap_alloc_new _ _), cell_of_row _ _ 1 _ _ _ (heap_alloc_new _ _)⟩
theorem ac_set {W : World} {a : Nat} {m : Int} {u0 u1 : Value} (h0 : W.cell? ⟨a, 0, none⟩ = some u0) (h1 : W.cell? ⟨a, 1, none⟩ = some u1) : AC ((W.setCell ⟨a, 0, none⟩ (.int .i64 m)).setCell ⟨a, 1, none⟩ (.int .i64 0)) a m := by
  refine ⟨?_, ?_⟩ <;> simp [go_sem, h0, h1]
theorem AC.keep {W W' : World} {a : Nat} {m : Int} (h : AC W a m) (hb : Below W.heap.size W W') : AC W' a m := ⟨NM.keep hb h.1, NM.keep hb h.2⟩
set_option maxHeartbeats 8000000 in
theorem tLawM (xs : List ByteArray) (h6 : xs.length = 6) (k : Nat) (hk6 : k < 6) (p : ByteArray) (s n : Int) (w : World) (hall : okLen xs = true) (hp : p.size ≤ 2147483647)
    (hgood : -62135596800 ≤ s ∧ s ≤ 253402300799 ∧ 0 ≤ n ∧ n < 1000000000)
    (h5 : ∀ w, Calls Tryz.prog 5 #[.agg #[.int .i64 s, .int .i64 n]] w fun e w' => e = .returned (.bool true) ∧ Below w.heap.size w w')
    (hk : ∀ w, Calls Tryz.prog 6 #[.int .i64 k] w fun e w' => e = .returned (.bool true) ∧ Below w.heap.size w w') :
    Calls Tryz.prog 3 #[.agg (six xs), .int .i64 k, .string p, .agg #[.int .i64 s, .int .i64 n]] w fun e w' => e = .returned (.bool true) ∧ Below w.heap.size w w' := by
  have L0 := Lib.hid (LW.new w xs k s n)
  have hf := fun w => tFits6 xs h6 w
  have e : (xs.all fun x => decide (x.size ≤ 2147483647)) = true := hall
  rw [e] at hf
  have HF := Lib.hid hf
  have hsz : (six xs).size = 6 := by simp [six]; exact h6
  have HSZ := Lib.hid hsz
  have H5 := Lib.hid h5
  have H6 := Lib.hid hk
  have HG := Lib.hid hgood
  have HL6 := Lib.hid h6
  have hp' : decide ((2147483647 : Int) < (p.size : Int)) = false := decide_eq_false (by omega)
  have hmf : ∀ (fn : Fn) (first cap : Array Value) (w : World), (Instr.makeFunc fn first cap).run Tryz.prog w = .ok (.func fn first cap) w := fun _ _ _ _ => rfl
  clear hf hall hsz e hp h5 hk hgood h6
  go_enter Tryz.func3, Tryz.ntmps3
  go_upto_region 6 with (first
    | ((with_reducible refine wpList_load_row (o := ⟨some 26, _, _, _, _, _⟩) ?a1 22 (.tmp 4) ?a2 w.heap.size ?a3 22 (six xs) (0, 0) _ ?a4 und22 ?a5 ?a6 ?_); (case a1 => rfl); (case a2 => rfl); (case a3 => rfl); (case a5 => rfl); (case a6 => rw [HSZ.out]; exact inf22); (case a4 => exact L0.out.gw))
    | (go_at_call 4; (with_reducible refine (HF.out _).mono ?_); rintro e w1 ⟨rfl, hb1⟩; have L1 := Lib.hid (L0.out.keep hb1); obtain ⟨ck, c0, c1⟩ := L1.out.cells; clear hb1)
    | (go_at_call 5; (with_reducible refine (H5.out _).mono ?_); rintro e w2 ⟨rfl, hb2⟩; have L2 := Lib.hid (L1.out.keep hb2); obtain ⟨dk, d0, d1⟩ := L2.out.cells; clear hb2)
    | (go_at_call 6; (with_reducible refine (H6.out _).mono ?_); rintro e w3 ⟨rfl, hb3⟩; have L3 := Lib.hid (L2.out.keep hb3); clear hb3))
  have LA := Lib.hid (L3.out.keep (bA (Below.refl _ _) (.cells #[.string p] 9)))
  obtain ⟨c, w5, happ, hb5, hcell⟩ := append7 (w3.alloc (.cells #[.string p] 9)) w.heap.size w3.heap.size xs HL6.out p LA.out.gw (heap_alloc_new _ _)
  have L5 := Lib.hid (LA.out.keep hb5)
  have HCELL := Lib.hid hcell
  have HAPP := Lib.hid happ
  clear hcell happ hb5 ck c0 c1 dk d0 d1 L0 L1 L2 LA
  go_upto_region 7 with ((with_reducible refine wpList_append_eq (o := ⟨some 46, _, _, _, _, _⟩) ?a1 (.tmp 43) (.tmp 45) ?a2 ?a3 _ _ _ _ ?a4 ?a5 HAPP.out ?_); (case a1 => rfl); (case a2 => rfl); (case a3 => rfl); (case a4 => rfl); (case a5 => rfl))
  have hcb : ∀ i (h : i < (xs ++ [p]).length), w5.cell? ⟨w3.heap.size + 1, i, none⟩ = some (.string (xs ++ [p])[i]) := by simpa using HCELL.out
  have HCB := Lib.hid hcb
  have hl7 : (xs ++ [p]).length = 7 := by simp [HL6.out]
  have HL7 := Lib.hid hl7
  clear hcb hl7 HCELL HAPP
  generalize w3.heap.size + 1 = gb at *
  go_loopw [48] (fun iv wr => ∃ (m : Nat), iv = .int .i64 m ∧ Aside0 (m ≤ 7) ∧ Aside0 (∀ i (h : i < (xs ++ [p]).length), i < m → (xs ++ [p])[i].size ≤ 256) ∧ Aside0 (LW w xs k s n wr) ∧ Aside0 (∀ i (h : i < (xs ++ [p]).length), wr.cell? ⟨gb, i, none⟩ = some (.string (xs ++ [p])[i]))) (fun iv _ => 2000000000000 - (intOf iv).toNat)
  case atStart => exact ⟨0, rfl, ⟨by omega⟩, ⟨fun i _ h => absurd h (Nat.not_lt_zero _)⟩, ⟨L5.out⟩, ⟨HCB.out⟩⟩
  case round =>
    obtain ⟨m, rfl, HM, HSM, HLR, HCR⟩ := hrel
    by_cases cm : m < 7
    · have ct : decide ((m : Int) < 7) = true := decide_eq_true (by omega)
      have ct' : (m : Int) < 7 := by omega
      have hml : m < (xs ++ [p]).length := by rw [HL7.out]; exact cm
      have c1 := HCR.out m hml
      obtain ⟨x, hx⟩ : ∃ x, (xs ++ [p])[m]'hml = x := ⟨_, rfl⟩
      rw [hx] at c1
      have HX := Lib.hid hx
      clear hx
      by_cases cb : (256 : Int) < (x.size : Int)
      · have cbt : decide ((256 : Int) < (x.size : Int)) = true := decide_eq_true cb
        clear cb
        go_wp2
        go_ret
        exact ⟨rfl, HLR.out.be⟩
      · have cbt : decide ((256 : Int) < (x.size : Int)) = false := decide_eq_false cb
        have HCBT := Lib.hid cb
        clear cb
        go_wp2
        go_roundw
        case measure => simp [intOf]; omega
        case rel => exact ⟨m + 1, by go_num, ⟨by omega⟩, ⟨fun i hi h => by
          by_cases e : i = m
          · subst e; rw [HX.out]; have := HCBT.out; omega
          · exact HSM.out i hi (by omega)⟩, ⟨HLR.out⟩, ⟨HCR.out⟩⟩
    · have ct : decide ((m : Int) < 7) = false := decide_eq_false (by omega)
      have hm : m = 7 := by have := HM.out; omega
      subst hm
      have hsx : ∀ x ∈ xs, x.size ≤ 256 := fun x hx => by
        obtain ⟨i, hi, rfl⟩ := List.getElem_of_mem hx
        have := HSM.out i (by simp; omega) (by have := HL6.out; omega)
        rwa [List.getElem_append_left hi] at this
      have hsp : p.size ≤ 256 := by
        have := HSM.out 6 (by rw [HL7.out]; decide) (by decide)
        rwa [List.getElem_append_right (by rw [HL6.out]; exact Nat.le_refl _), List.getElem_singleton] at this
      have HSX := Lib.hid hsx
      clear hsx HSM HCR HCB HL7 HF H5 H6 L3 L5
      have hkn : k < xs.length := by have := HL6.out; omega
      obtain ⟨xk, hxk⟩ : ∃ xk, xs[k]'hkn = xk := ⟨_, rfl⟩
      have hsk : xk.size ≤ 256 := by rw [← hxk]; exact HSX.out _ (List.getElem_mem _)
      have HXK := Lib.hid hxk
      have hkn0 : (0 : Int) ≤ (k : Int) := by omega
      have hkn6 : (k : Int) < 6 := by omega
      have hcon : ∀ (a : ByteArray), a.size < 10000 → ∀ W, LW w xs k s n W → Calls Tryz.prog 7 #[.string a, .pointer (some ⟨w.heap.size, 0, none⟩), .pointer (some ⟨w.heap.size + 1, 0, none⟩)] W _ := fun a ha W hW => tWith xs HL6.out (fun x hx => by have := HSX.out x hx; omega) k hk6 a ha w.heap.size (w.heap.size + 1) W hW.gw hW.gk
      have HC1 := Lib.hid (hcon xk (by omega))
      have HC2 := Lib.hid (hcon p (by omega))
      have HC3 := Lib.hid (hcon (xk ++ ⟨#[44]⟩ ++ p) (by rw [ByteArray.size_append, ByteArray.size_append]; have : (ByteArray.mk #[44]).size = 1 := rfl; omega))
      clear hcon
      have cxk : wr.cell? ⟨w.heap.size, k, none⟩ = some (.string xk) := by rw [cell_of_row _ _ _ _ _ _ HLR.out.gw, ← hxk]; exact six_get xs k hkn
      obtain ⟨ck, c0, c1⟩ := HLR.out.cells
      clear hxk c0 c1
      go_upto_region 13 with (first
        | (go_at_call 7; (with_reducible refine (HC1.out _ HLR.out).mono ?_); rintro e v1 ⟨us1, q1, rfl, hu8, hua, hca, hb1⟩; have LV1 := Lib.hid (HLR.out.keep hb1); have HU1 := Lib.hid (And.intro hu8 hua); have CA1 := Lib.hid hca; have BB1 := Lib.hid hb1; clear hu8 hua hca hb1)
        | ((with_reducible refine wpList_store_row (o := ⟨none, .store 30 (.tmp 12) (.tmp 62), _, _, _, _⟩) ?b1 30 (.tmp 12) (.tmp 62) ?b2 v1.heap.size us1 ?b3 ?b4 30 #[.bool false, .int .i64 0, .int .u64 0, .int .u64 0, .int .u64 0, .int .u64 0, .int .u64 0, .int .u64 0] ?b5 ?b6 ?b7 ?b8 ?_); (case b1 => rfl); (case b2 => rfl); (case b3 => rfl); (case b4 => rfl); (case b5 => exact heap_alloc_new _ _); (case b6 => rw [HU1.out.1]; exact inf30); (case b7 => rw [HU1.out.1]; rfl); (case b8 => exact HU1.out.2)))
      generalize hx1 : World.setRow _ _ _ = x1
      have ex1 : v1.alloc (.cells us1 30) = x1 := by rw [← hx1, World.setRow_alloc_new]
      have hbx1 : Below v1.heap.size v1 x1 := by rw [← ex1]; exact bA (Below.refl _ _) _
      have LX1 := Lib.hid (LV1.out.keep hbx1)
      have R1 := Lib.hid (show x1.heap[v1.heap.size]? = some (.cells us1 30 (0, 0)) by rw [← ex1]; exact heap_alloc_new _ _)
      clear hx1 ex1 hbx1 LV1 BB1 HLR
      generalize v1.heap.size = h1 at *
      clear ck cxk
      go_upto_region 14 with (first
        | (go_at_call 7; (with_reducible refine (HC2.out _ LX1.out).mono ?_); rintro e v2 ⟨us2, q2, rfl, hu8, hua, hca, hb1⟩; have LV2 := Lib.hid (LX1.out.keep hb1); have HU2 := Lib.hid (And.intro hu8 hua); have CA2 := Lib.hid hca; have BB2 := Lib.hid hb1; clear hu8 hua hca hb1)
        | ((with_reducible refine wpList_store_row (o := ⟨none, .store 30 (.tmp 14) (.tmp 68), _, _, _, _⟩) ?b1 30 (.tmp 14) (.tmp 68) ?b2 v2.heap.size us2 ?b3 ?b4 30 #[.bool false, .int .i64 0, .int .u64 0, .int .u64 0, .int .u64 0, .int .u64 0, .int .u64 0, .int .u64 0] ?b5 ?b6 ?b7 ?b8 ?_); (case b1 => rfl); (case b2 => rfl); (case b3 => rfl); (case b4 => rfl); (case b5 => exact heap_alloc_new _ _); (case b6 => rw [HU2.out.1]; exact inf30); (case b7 => rw [HU2.out.1]; rfl); (case b8 => exact HU2.out.2)))
      generalize hx2 : World.setRow _ _ _ = x2
      have ex2 : v2.alloc (.cells us2 30) = x2 := by rw [← hx2, World.setRow_alloc_new]
      have hbx2 : Below v2.heap.size v2 x2 := by rw [← ex2]; exact bA (Below.refl _ _) _
      have LX2 := Lib.hid (LV2.out.keep hbx2)
      have R2 := Lib.hid (show x2.heap[v2.heap.size]? = some (.cells us2 30 (0, 0)) by rw [← ex2]; exact heap_alloc_new _ _)
      have R1 := Lib.hid (keepC (keepC R1.out BB2.out) hbx2)
      clear hx2 ex2 hbx2 LV2 BB2 LX1
      generalize v2.heap.size = h2 at *
      have cxk : x2.cell? ⟨w.heap.size, k, none⟩ = some (.string xk) := by rw [cell_of_row _ _ _ _ _ _ LX2.out.gw, ← HXK.out]; exact six_get xs k hkn
      obtain ⟨ck, c0, c1⟩ := LX2.out.cells
      clear c0 c1
      go_upto_region 15 with (first
        | (go_at_call 7; (with_reducible refine (HC3.out _ LX2.out).mono ?_); rintro e v3 ⟨us3, q3, rfl, hu8, hua, hca, hb1⟩; have LV3 := Lib.hid (LX2.out.keep hb1); have HU3 := Lib.hid (And.intro hu8 hua); have CA3 := Lib.hid hca; have BB3 := Lib.hid hb1; clear hu8 hua hca hb1)
        | ((with_reducible refine wpList_store_row (o := ⟨none, .store 30 (.tmp 16) (.tmp 79), _, _, _, _⟩) ?b1 30 (.tmp 16) (.tmp 79) ?b2 v3.heap.size us3 ?b3 ?b4 30 #[.bool false, .int .i64 0, .int .u64 0, .int .u64 0, .int .u64 0, .int .u64 0, .int .u64 0, .int .u64 0] ?b5 ?b6 ?b7 ?b8 ?_); (case b1 => rfl); (case b2 => rfl); (case b3 => rfl); (case b4 => rfl); (case b5 => exact heap_alloc_new _ _); (case b6 => rw [HU3.out.1]; exact inf30); (case b7 => rw [HU3.out.1]; rfl); (case b8 => exact HU3.out.2)))
      generalize hx3 : World.setRow _ _ _ = x3
      have ex3 : v3.alloc (.cells us3 30) = x3 := by rw [← hx3, World.setRow_alloc_new]
      have hbx3 : Below v3.heap.size v3 x3 := by rw [← ex3]; exact bA (Below.refl _ _) _
      have LX3 := Lib.hid (LV3.out.keep hbx3)
      have R3 := Lib.hid (show x3.heap[v3.heap.size]? = some (.cells us3 30 (0, 0)) by rw [← ex3]; exact heap_alloc_new _ _)
      have R1 := Lib.hid (keepC (keepC R1.out BB3.out) hbx3)
      have R2 := Lib.hid (keepC (keepC R2.out BB3.out) hbx3)
      clear hx3 ex3 hbx3 LV3 BB3 LX2
      generalize v3.heap.size = h3 at *
      clear ck cxk
      clear HC1 HC2 HC3 HU1 HU2 HU3
      have htx3 : tx (xk ++ ⟨#[44]⟩ ++ p) = tx xk ++ 44 :: tx p := by
        rw [tx_append, tx_append, List.append_assoc]; rfl
      have hnt : (¬ Fine (join ((xs.map tx).set k (tx xk))) ∨ ¬ Fine (join ((xs.map tx).set k (tx p))) ∨ ¬ Fine (join ((xs.map tx).set k (tx (xk ++ ⟨#[44]⟩ ++ p))))) → ∀ W, Calls Tryz.prog 11 #[.agg (six xs), .int .i64 k, .string p] W _ := fun h W =>
        tNoText xs HL6.out k hk6 p (fun x hx => by have := HSX.out x hx; omega) (by omega) (fun hh => by
          obtain ⟨a, b, c⟩ := three_fine HL6.out hk6 hh
          rw [HXK.out] at a c
          rw [htx3] at h
          rcases h with h | h | h
          · exact h a
          · exact h b
          · exact h c) W
      have HNT := Lib.hid hnt
      have HT3 := Lib.hid htx3
      obtain ⟨ck, c0, c1⟩ := LX3.out.cells
      clear hnt htx3
      have key : ∀ (hbad : ¬ Fine (join ((xs.map tx).set k (tx xk))) ∨ ¬ Fine (join ((xs.map tx).set k (tx p))) ∨ ¬ Fine (join ((xs.map tx).set k (tx (xk ++ ⟨#[44]⟩ ++ p))))), True := fun _ => trivial
      clear key
      cases q1 with
      | false =>
        have hbad : ¬ Fine (join ((xs.map tx).set k (tx xk))) := by
          rcases CA1.out with ⟨h, _⟩ | ⟨_, h⟩
          · cases h
          · exact h
        have HN := Lib.hid (HNT.out (.inl hbad))
        clear hbad
        go_wp2_with (first
          | ((with_reducible refine wpList_load_row (o := ⟨some 91, _, _, _, _, _⟩) ?a1 22 (.tmp 4) ?a2 w.heap.size ?a3 22 (six xs) (0, 0) _ ?a4 und22 ?a5 ?a6 ?_); (case a1 => rfl); (case a2 => rfl); (case a3 => rfl); (case a5 => rfl); (case a6 => rw [HSZ.out]; exact inf22); (case a4 => exact LX3.out.gw))
          | (go_at_call 11; (with_reducible refine (HN.out _).mono ?_); rintro e v9 ⟨rfl, hb9⟩))
        go_ret
        exact ⟨rfl, LX3.out.be.trans (hb9.mono LX3.out.be.size)⟩
      | true =>
        cases q2 with
        | false =>
          have hbad : ¬ Fine (join ((xs.map tx).set k (tx p))) := by
            rcases CA2.out with ⟨h, _⟩ | ⟨_, h⟩
            · cases h
            · exact h
          have HN := Lib.hid (HNT.out (.inr (.inl hbad)))
          clear hbad
          go_wp2_with (first
          | ((with_reducible refine wpList_load_row (o := ⟨some 91, _, _, _, _, _⟩) ?a1 22 (.tmp 4) ?a2 w.heap.size ?a3 22 (six xs) (0, 0) _ ?a4 und22 ?a5 ?a6 ?_); (case a1 => rfl); (case a2 => rfl); (case a3 => rfl); (case a5 => rfl); (case a6 => rw [HSZ.out]; exact inf22); (case a4 => exact LX3.out.gw))
          | (go_at_call 11; (with_reducible refine (HN.out _).mono ?_); rintro e v9 ⟨rfl, hb9⟩))
          go_ret
          exact ⟨rfl, LX3.out.be.trans (hb9.mono LX3.out.be.size)⟩
        | true =>
          cases q3 with
          | false =>
            have hbad : ¬ Fine (join ((xs.map tx).set k (tx (xk ++ ⟨#[44]⟩ ++ p)))) := by
              rcases CA3.out with ⟨h, _⟩ | ⟨_, h⟩
              · cases h
              · exact h
            have HN := Lib.hid (HNT.out (.inr (.inr hbad)))
            clear hbad
            go_wp2_with (first
          | ((with_reducible refine wpList_load_row (o := ⟨some 91, _, _, _, _, _⟩) ?a1 22 (.tmp 4) ?a2 w.heap.size ?a3 22 (six xs) (0, 0) _ ?a4 und22 ?a5 ?a6 ?_); (case a1 => rfl); (case a2 => rfl); (case a3 => rfl); (case a5 => rfl); (case a6 => rw [HSZ.out]; exact inf22); (case a4 => exact LX3.out.gw))
          | (go_at_call 11; (with_reducible refine (HN.out _).mono ?_); rintro e v9 ⟨rfl, hb9⟩))
            go_ret
            exact ⟨rfl, LX3.out.be.trans (hb9.mono LX3.out.be.size)⟩
          | true =>
            obtain ⟨S1, S2, S3, d1, d2, d3, hS⟩ : ∃ S1 S2 S3 : Sets, us1 = srow S1 ∧ us2 = srow S2 ∧ us3 = srow S3 ∧
                (SetsOk S3 ∧ U64 S1.dom ∧ U64 S2.dom ∧ U64 S1.dow ∧ U64 S2.dow ∧ (NM.star S1.dom = NM.star S2.dom ∧ NM.star S1.dow = NM.star S2.dow → ∀ x, nextOf S3 none x = early (nextOf S1 none x) (nextOf S2 none x))) := by
              rcases CA1.out with ⟨_, f1, e1⟩ | ⟨h, _⟩
              · rcases CA2.out with ⟨_, f2, e2⟩ | ⟨h, _⟩
                · rcases CA3.out with ⟨_, f3, e3⟩ | ⟨h, _⟩
                  · injection e1 with e1
                    injection e2 with e2
                    injection e3 with e3
                    refine ⟨_, _, _, e1.symm, e2.symm, e3.symm, setsOk _, fb_u64 _ _, fb_u64 _ _, fb_u64 _ _, fb_u64 _ _, fun hst x => ?_⟩
                    have f3' := f3
                    rw [HT3.out] at f3'
                    obtain ⟨B, a, b, C, g1, g2, g3⟩ := three_join (ws := xs.map tx) (by rw [List.length_map]; exact HL6.out) k hk6 (tx xk) (tx p) f1 f2 f3'
                    rw [HT3.out]
                    have hl1 := f1.taken.six
                    rw [g1] at hl1 hst
                    rw [g2] at hst
                    rw [g1, g2, g3]
                    have hR := Rel3.of (B := B) (C := C) (w := a) (p := b) hst.1 hst.2
                    exact next3 (fun x0 Y v => match3 (by simp at hl1; omega) hR x0 Y (NM.lo none) v) x
                  · cases h
                · cases h
              · cases h
            subst d1
            subst d2
            subst d3
            have M0 := Lib.hid (MS.mk LX3.out R1.out R2.out R3.out)
            have HSS := Lib.hid hS
            clear hS R1 R2 R3 LX3 CA1 CA2 CA3 HNT HT3 HXK HSX
            clear ck c0 c1
            go_upto_region 17 with fail
            have e15 : x3.cell? ⟨h1, 5, none⟩ = some (.int .u64 S1.dom) := cell_of_row _ _ 5 _ _ _ M0.out.r1
            have e17 : x3.cell? ⟨h1, 7, none⟩ = some (.int .u64 S1.dow) := cell_of_row _ _ 7 _ _ _ M0.out.r1
            have e25 : x3.cell? ⟨h2, 5, none⟩ = some (.int .u64 S2.dom) := cell_of_row _ _ 5 _ _ _ M0.out.r2
            have e27 : x3.cell? ⟨h2, 7, none⟩ = some (.int .u64 S2.dow) := cell_of_row _ _ 7 _ _ _ M0.out.r2
            cases hgd : (bits .and .u64 (bits .or .u64 (bits .xor .u64 S1.dom S2.dom) (bits .xor .u64 S1.dow S2.dow)) 9223372036854775808 != 0) with
            | true =>
              go_wp2
              go_ret
              exact ⟨rfl, M0.out.lw.be⟩
            | false =>
              go_upto_region 19 with fail
              obtain ⟨u0, u1, u2, u3, u4, u5⟩ := HSS.out
              have hnx := u5 (guard_star u1 u2 u3 u4 hgd) (s + 62135596800)
              have hg := HG.out
              have q1 := fun W => tNextM S1 s n ⟨hg.2.2.1, hg.2.2.2⟩ hg.1 hg.2.1 W
              have q2 := fun W => tNextM S2 s n ⟨hg.2.2.1, hg.2.2.2⟩ hg.1 hg.2.1 W
              have q3 := fun W => tNextM S3 s n ⟨hg.2.2.1, hg.2.2.2⟩ hg.1 hg.2.1 W
              have q4 := fun W => tEarM (nextOf S1 none (s + 62135596800)) (nextOf S2 none (s + 62135596800)) W
              have q5 : (nextOf S3 none (s + 62135596800)).isSome = false → ∀ W, Calls Tryz.prog 15 #[.agg (srow S3), .agg #[.int .i64 s, .int .i64 n], zone0] W _ := fun h W => tNone0 false 0 S3 u0 s n W hg.1 hg.2.1 (by simpa using h)
              rw [hnx] at q3 q5
              unfold srow at q1 q2 q3 q5
              generalize early (nextOf S1 none (s + 62135596800)) (nextOf S2 none (s + 62135596800)) = o3 at q3 q4 q5
              generalize nextOf S1 none (s + 62135596800) = o1 at q1 q4
              generalize nextOf S2 none (s + 62135596800) = o2 at q2 q4
              generalize mI o1 = m1 at q1 q4
              generalize mI o2 = m2 at q2 q4
              generalize mI o3 = m3 at q3 q4
              generalize o1.isSome = b1 at q1 q4
              generalize o2.isSome = b2 at q2 q4
              generalize o3.isSome = b3 at q3 q4 q5
              have H12a := Lib.hid q1
              have H12b := Lib.hid q2
              have H12c := Lib.hid q3
              have H14 := Lib.hid q4
              have H15 := Lib.hid q5
              clear q1 q2 q3 q4 q5 hnx hg hgd e15 e17 e25 e27 u0 u1 u2 u3 u4 u5 HSS HG
              go_upto_region 19 with fail
              go_cut [18, 19] from 108 to 114 (fun vp vb wc1 => ∃ (a : Nat), vp = .pointer (some ⟨a, 0, none⟩) ∧ vb = .bool b1 ∧ Aside0 (MS w xs k s n h1 h2 h3 S1 S2 S3 wc1) ∧ Aside0 (AC wc1 a m1))
              case first =>
                have LT1 := Lib.hid (Array.getElem?_eq_some_iff.1 M0.out.r1).1
                have LT2 := Lib.hid (Array.getElem?_eq_some_iff.1 M0.out.lw.gt).1
                have SB0 := Lib.hid (SB.of M0.out.r1 M0.out.lw.gt)
                go_region_held3 (fun W => W.cell? ⟨h1, 0, none⟩ = some (.bool false) ∧ W.cell? ⟨h1, 1, none⟩ = some (.int .i64 0) ∧ W.cell? ⟨h1, 2, none⟩ = some (.int .u64 S1.se) ∧ W.cell? ⟨h1, 3, none⟩ = some (.int .u64 S1.mi) ∧ W.cell? ⟨h1, 4, none⟩ = some (.int .u64 S1.ho) ∧ W.cell? ⟨h1, 5, none⟩ = some (.int .u64 S1.dom) ∧ W.cell? ⟨h1, 6, none⟩ = some (.int .u64 S1.mon) ∧ W.cell? ⟨h1, 7, none⟩ = some (.int .u64 S1.dow) ∧ W.cell? ⟨w.heap.size + 1 + 1, 0, none⟩ = some (.int .i64 s) ∧ W.cell? ⟨w.heap.size + 1 + 1, 1, none⟩ = some (.int .i64 n))
                  (first | exact SB2.out | exact SB1.out | exact SB.keep SB0.out (Below.refl _ _).drew | exact SB.keep (by assumption) (bA (Below.refl _ _) _) | exact SB.set (SB.set SB2.out (by have := KW1.out.size; have := KW2.out.size; have := LT1.out; omega) (by have := KW1.out.size; have := KW2.out.size; have := LT2.out; omega)) (by have := KW1.out.size; have := KW2.out.size; have := LT1.out; omega) (by have := KW1.out.size; have := KW2.out.size; have := LT2.out; omega))
                  (first
                    | (go_at_call 13; (with_reducible refine (tUTC13 _).mono ?_); rintro e w1 ⟨rfl, hb1⟩; have k1 : Below x3.heap.size x3 w1 := (by first | exact (Below.refl _ _).drew.trans hb1 | exact (bA (Below.refl _ _).drew _).trans (hb1.mono (by simp))); have SB1 := Lib.hid (SB0.out.keep k1); have KW1 := Lib.hid k1; (first | (have hbx : Hid (BoxAt w1 x3.heap.size 2 zInst) := Lib.hid ((boxNew2 x3.drew).call hb1)) | skip); clear hb1)
                    | (go_at_call 12; (with_reducible refine (H12a.out _).mono ?_); rintro e w2 ⟨rfl, hb2⟩; have k2 : Below w1.heap.size w1 w2 := (by first | exact hb2 | exact (bA (Below.refl _ _) _).trans (hb2.mono (by simp))); have SB2 := Lib.hid (SB1.out.keep k2); have KW2 := Lib.hid (KW1.out.trans (k2.mono KW1.out.size)); (first | (have hbx := Lib.hid (hbx.out.call hb2)) | (have hbx : Hid (BoxAt w2 w1.heap.size 2 zInst) := Lib.hid ((boxNew2 w1).call hb2)) | skip); (first | (have r0 := hbx.out.c 0 (by decide); have r1 := hbx.out.c 1 (by decide); have f0 := hbx.out.f 0; have f1 := hbx.out.f 1) | skip); clear hb2))
                all_goals (go_wp2_with fail; go_meet)
                all_goals first
                  | exact ⟨_, rfl, rfl, ⟨M0.out.keep (bA KW2.out _)⟩, ⟨ac_new _ _⟩⟩
                  | exact ⟨_, rfl, rfl, ⟨M0.out.keep ((KW2.out.setCell (by first | exact Nat.le_refl _ | exact KW1.out.size | exact KW2.out.size) _).setCell (by first | exact Nat.le_refl _ | exact KW1.out.size | exact KW2.out.size) _)⟩, ⟨ac_set r0 r1⟩⟩
              obtain ⟨a1, rfl, rfl, HM1, HA1⟩ := hcut
              have M1 := Lib.hid HM1.out
              clear M0 HM1
              go_upto_region 20 with fail
              go_cut [20, 21] from 115 to 121 (fun vp vb wc2 => ∃ (a : Nat), vp = .pointer (some ⟨a, 0, none⟩) ∧ vb = .bool b2 ∧ Aside0 (MS w xs k s n h1 h2 h3 S1 S2 S3 wc2) ∧ Aside0 (AC wc2 a m2) ∧ Aside0 (AC wc2 a1 m1))
              case first =>
                have LT1 := Lib.hid (Array.getElem?_eq_some_iff.1 M1.out.r2).1
                have LT2 := Lib.hid (Array.getElem?_eq_some_iff.1 M1.out.lw.gt).1
                have SB0 := Lib.hid (SB.of M1.out.r2 M1.out.lw.gt)
                go_region_held3 (fun W => W.cell? ⟨h2, 0, none⟩ = some (.bool false) ∧ W.cell? ⟨h2, 1, none⟩ = some (.int .i64 0) ∧ W.cell? ⟨h2, 2, none⟩ = some (.int .u64 S2.se) ∧ W.cell? ⟨h2, 3, none⟩ = some (.int .u64 S2.mi) ∧ W.cell? ⟨h2, 4, none⟩ = some (.int .u64 S2.ho) ∧ W.cell? ⟨h2, 5, none⟩ = some (.int .u64 S2.dom) ∧ W.cell? ⟨h2, 6, none⟩ = some (.int .u64 S2.mon) ∧ W.cell? ⟨h2, 7, none⟩ = some (.int .u64 S2.dow) ∧ W.cell? ⟨w.heap.size + 1 + 1, 0, none⟩ = some (.int .i64 s) ∧ W.cell? ⟨w.heap.size + 1 + 1, 1, none⟩ = some (.int .i64 n))
                  (first | exact SB2.out | exact SB1.out | exact SB.keep SB0.out (Below.refl _ _).drew | exact SB.keep (by assumption) (bA (Below.refl _ _) _) | exact SB.set (SB.set SB2.out (by have := KW1.out.size; have := KW2.out.size; have := LT1.out; omega) (by have := KW1.out.size; have := KW2.out.size; have := LT2.out; omega)) (by have := KW1.out.size; have := KW2.out.size; have := LT1.out; omega) (by have := KW1.out.size; have := KW2.out.size; have := LT2.out; omega))
                  (first
                    | (go_at_call 13; (with_reducible refine (tUTC13 _).mono ?_); rintro e w1 ⟨rfl, hb1⟩; have k1 : Below wc.heap.size wc w1 := (by first | exact (Below.refl _ _).drew.trans hb1 | exact (bA (Below.refl _ _).drew _).trans (hb1.mono (by simp))); have SB1 := Lib.hid (SB0.out.keep k1); have KW1 := Lib.hid k1; (first | (have hbx : Hid (BoxAt w1 wc.heap.size 2 zInst) := Lib.hid ((boxNew2 wc.drew).call hb1)) | skip); clear hb1)
                    | (go_at_call 12; (with_reducible refine (H12b.out _).mono ?_); rintro e w2 ⟨rfl, hb2⟩; have k2 : Below w1.heap.size w1 w2 := (by first | exact hb2 | exact (bA (Below.refl _ _) _).trans (hb2.mono (by simp))); have SB2 := Lib.hid (SB1.out.keep k2); have KW2 := Lib.hid (KW1.out.trans (k2.mono KW1.out.size)); (first | (have hbx := Lib.hid (hbx.out.call hb2)) | (have hbx : Hid (BoxAt w2 w1.heap.size 2 zInst) := Lib.hid ((boxNew2 w1).call hb2)) | skip); (first | (have r0 := hbx.out.c 0 (by decide); have r1 := hbx.out.c 1 (by decide); have f0 := hbx.out.f 0; have f1 := hbx.out.f 1) | skip); clear hb2))
                all_goals (go_wp2_with fail; go_meet)
                all_goals first
                  | exact ⟨_, rfl, rfl, ⟨M1.out.keep (bA KW2.out _)⟩, ⟨ac_new _ _⟩, ⟨HA1.out.keep (bA KW2.out _)⟩⟩
                  | exact ⟨_, rfl, rfl, ⟨M1.out.keep ((KW2.out.setCell (by first | exact Nat.le_refl _ | exact KW1.out.size | exact KW2.out.size) _).setCell (by first | exact Nat.le_refl _ | exact KW1.out.size | exact KW2.out.size) _)⟩, ⟨ac_set r0 r1⟩, ⟨HA1.out.keep ((KW2.out.setCell (by first | exact Nat.le_refl _ | exact KW1.out.size | exact KW2.out.size) _).setCell (by first | exact Nat.le_refl _ | exact KW1.out.size | exact KW2.out.size) _)⟩⟩
              obtain ⟨a2, rfl, rfl, HM2, HA2, HB1⟩ := hcut
              have M2 := Lib.hid HM2.out
              clear M1 HM2
              have HA1 := HB1
              go_upto_region 21 with fail
              go_cut [22, 23] from 122 to 128 (fun vp vb wc3 => ∃ (a : Nat), vp = .pointer (some ⟨a, 0, none⟩) ∧ vb = .bool b3 ∧ Aside0 (MS w xs k s n h1 h2 h3 S1 S2 S3 wc3) ∧ Aside0 (AC wc3 a m3) ∧ Aside0 (AC wc3 a1 m1) ∧ Aside0 (AC wc3 a2 m2))
              case first =>
                have LT1 := Lib.hid (Array.getElem?_eq_some_iff.1 M2.out.r3).1
                have LT2 := Lib.hid (Array.getElem?_eq_some_iff.1 M2.out.lw.gt).1
                have SB0 := Lib.hid (SB.of M2.out.r3 M2.out.lw.gt)
                go_region_held3 (fun W => W.cell? ⟨h3, 0, none⟩ = some (.bool false) ∧ W.cell? ⟨h3, 1, none⟩ = some (.int .i64 0) ∧ W.cell? ⟨h3, 2, none⟩ = some (.int .u64 S3.se) ∧ W.cell? ⟨h3, 3, none⟩ = some (.int .u64 S3.mi) ∧ W.cell? ⟨h3, 4, none⟩ = some (.int .u64 S3.ho) ∧ W.cell? ⟨h3, 5, none⟩ = some (.int .u64 S3.dom) ∧ W.cell? ⟨h3, 6, none⟩ = some (.int .u64 S3.mon) ∧ W.cell? ⟨h3, 7, none⟩ = some (.int .u64 S3.dow) ∧ W.cell? ⟨w.heap.size + 1 + 1, 0, none⟩ = some (.int .i64 s) ∧ W.cell? ⟨w.heap.size + 1 + 1, 1, none⟩ = some (.int .i64 n))
                  (first | exact SB2.out | exact SB1.out | exact SB.keep SB0.out (Below.refl _ _).drew | exact SB.keep (by assumption) (bA (Below.refl _ _) _) | exact SB.set (SB.set SB2.out (by have := KW1.out.size; have := KW2.out.size; have := LT1.out; omega) (by have := KW1.out.size; have := KW2.out.size; have := LT2.out; omega)) (by have := KW1.out.size; have := KW2.out.size; have := LT1.out; omega) (by have := KW1.out.size; have := KW2.out.size; have := LT2.out; omega))
                  (first
                    | (go_at_call 13; (with_reducible refine (tUTC13 _).mono ?_); rintro e w1 ⟨rfl, hb1⟩; have k1 : Below wc.heap.size wc w1 := (by first | exact (Below.refl _ _).drew.trans hb1 | exact (bA (Below.refl _ _).drew _).trans (hb1.mono (by simp))); have SB1 := Lib.hid (SB0.out.keep k1); have KW1 := Lib.hid k1; (first | (have hbx : Hid (BoxAt w1 wc.heap.size 2 zInst) := Lib.hid ((boxNew2 wc.drew).call hb1)) | skip); clear hb1)
                    | (go_at_call 12; (with_reducible refine (H12c.out _).mono ?_); rintro e w2 ⟨rfl, hb2⟩; have k2 : Below w1.heap.size w1 w2 := (by first | exact hb2 | exact (bA (Below.refl _ _) _).trans (hb2.mono (by simp))); have SB2 := Lib.hid (SB1.out.keep k2); have KW2 := Lib.hid (KW1.out.trans (k2.mono KW1.out.size)); (first | (have hbx := Lib.hid (hbx.out.call hb2)) | (have hbx : Hid (BoxAt w2 w1.heap.size 2 zInst) := Lib.hid ((boxNew2 w1).call hb2)) | skip); (first | (have r0 := hbx.out.c 0 (by decide); have r1 := hbx.out.c 1 (by decide); have f0 := hbx.out.f 0; have f1 := hbx.out.f 1) | skip); clear hb2))
                all_goals (go_wp2_with fail; go_meet)
                all_goals first
                  | exact ⟨_, rfl, rfl, ⟨M2.out.keep (bA KW2.out _)⟩, ⟨ac_new _ _⟩, ⟨HA1.out.keep (bA KW2.out _)⟩, ⟨HA2.out.keep (bA KW2.out _)⟩⟩
                  | exact ⟨_, rfl, rfl, ⟨M2.out.keep ((KW2.out.setCell (by first | exact Nat.le_refl _ | exact KW1.out.size | exact KW2.out.size) _).setCell (by first | exact Nat.le_refl _ | exact KW1.out.size | exact KW2.out.size) _)⟩, ⟨ac_set r0 r1⟩, ⟨HA1.out.keep ((KW2.out.setCell (by first | exact Nat.le_refl _ | exact KW1.out.size | exact KW2.out.size) _).setCell (by first | exact Nat.le_refl _ | exact KW1.out.size | exact KW2.out.size) _)⟩, ⟨HA2.out.keep ((KW2.out.setCell (by first | exact Nat.le_refl _ | exact KW1.out.size | exact KW2.out.size) _).setCell (by first | exact Nat.le_refl _ | exact KW1.out.size | exact KW2.out.size) _)⟩⟩
              obtain ⟨a3, rfl, rfl, HM3, HA3, HB1, HB2⟩ := hcut
              have M3 := Lib.hid HM3.out
              clear M2 HM3
              have HA1 := HB1
              have HA2 := HB2
              obtain ⟨p10, p11⟩ := HA1.out
              obtain ⟨p20, p21⟩ := HA2.out
              go_upto_region 23 with (go_at_call 14; (with_reducible refine (H14.out _).mono ?_); rintro e w5 ⟨rfl, hb5⟩; have M4 := Lib.hid (M3.out.keep hb5); have A3 := Lib.hid (HA3.out.keep hb5); clear hb5)
              have hbn := bA (Below.refl w5.heap.size w5) (.cells #[.int .i64 m3, .int .i64 0] 24)
              have M5 := Lib.hid (M4.out.keep hbn)
              have A5 := Lib.hid (A3.out.keep hbn)
              have A4 := Lib.hid (ac_new w5 m3)
              clear hbn p10 p11 p20 p21 M4 A3
              generalize w5.alloc (.cells #[.int .i64 m3, .int .i64 0] 24) = w6 at *
              generalize w5.heap.size = a4 at *
              have heq := eq24
              have hS4 : Hid (AC w6 a3 m3 ∧ AC w6 a4 m3) := Lib.hid ⟨A5.out, A4.out⟩
              have ac4 : Hid (w6.cell? ⟨a3, 0, none⟩ = some (.int .i64 m3) ∧ w6.cell? ⟨a3, 1, none⟩ = some (.int .i64 0) ∧ w6.cell? ⟨a4, 0, none⟩ = some (.int .i64 m3) ∧ w6.cell? ⟨a4, 1, none⟩ = some (.int .i64 0)) := Lib.hid ⟨A5.out.1, A5.out.2, A4.out.1, A4.out.2⟩
              cases b3 with
              | true =>
                obtain ⟨q30, q31, q40, q41⟩ := ac4.out
                go_region_with (fail)
                all_goals (go_wp2_with fail; go_ret; exact ⟨rfl, M5.out.lw.be.drew⟩)
              | false =>
                have H15' := Lib.hid (H15.out rfl)
                have SB0 := Lib.hid (SB.of M5.out.r3 M5.out.lw.gt)
                go_region_held3 (fun W => W.cell? ⟨a3, 0, none⟩ = some (.int .i64 m3) ∧ W.cell? ⟨a3, 1, none⟩ = some (.int .i64 0) ∧ W.cell? ⟨a4, 0, none⟩ = some (.int .i64 m3) ∧ W.cell? ⟨a4, 1, none⟩ = some (.int .i64 0) ∧ W.cell? ⟨h3, 0, none⟩ = some (.bool false) ∧ W.cell? ⟨h3, 1, none⟩ = some (.int .i64 0) ∧ W.cell? ⟨h3, 2, none⟩ = some (.int .u64 S3.se) ∧ W.cell? ⟨h3, 3, none⟩ = some (.int .u64 S3.mi) ∧ W.cell? ⟨h3, 4, none⟩ = some (.int .u64 S3.ho) ∧ W.cell? ⟨h3, 5, none⟩ = some (.int .u64 S3.dom) ∧ W.cell? ⟨h3, 6, none⟩ = some (.int .u64 S3.mon) ∧ W.cell? ⟨h3, 7, none⟩ = some (.int .u64 S3.dow) ∧ W.cell? ⟨w.heap.size + 1 + 1, 0, none⟩ = some (.int .i64 s) ∧ W.cell? ⟨w.heap.size + 1 + 1, 1, none⟩ = some (.int .i64 n))
                  (first | exact ⟨hS2.out.1.1, hS2.out.1.2, hS2.out.2.1, hS2.out.2.2, SB2.out⟩ | exact ⟨hS1.out.1.1, hS1.out.1.2, hS1.out.2.1, hS1.out.2.2, SB1.out⟩ | exact ⟨ac4.out.1, ac4.out.2.1, ac4.out.2.2.1, ac4.out.2.2.2, SB0.out⟩)
                  (first
                    | (go_at_call 13; (with_reducible refine (tUTC13 _).mono ?_); rintro e v1 ⟨rfl, hb1⟩; have k1 : Below w6.heap.size w6 v1 := (Below.refl _ _).drew.trans hb1; have SB1 := Lib.hid (SB0.out.keep k1); have KW1 := Lib.hid k1; have hS1 := Lib.hid (And.intro (hS4.out.1.keep k1) (hS4.out.2.keep k1)); clear hb1)
                    | (go_at_call 15; (with_reducible refine (H15'.out _).mono ?_); rintro e v2 ⟨rfl, hb2⟩; have SB2 := Lib.hid (SB1.out.keep hb2); have hS2 := Lib.hid (And.intro (hS1.out.1.keep hb2) (hS1.out.2.keep hb2)); have KW2 := Lib.hid (KW1.out.trans (hb2.mono KW1.out.size)); clear hb2))
                all_goals (go_wp2_with fail; go_ret; exact ⟨rfl, M5.out.lw.be.trans (KW2.out.mono M5.out.lw.be.size)⟩)
end Go.Proofs.YtjmgebhjkbcpcaaGreatDoor.Txt
end
section
set_option linter.unusedVariables false
set_option linter.unusedSimpArgs false
namespace Go.Proofs.YtjmgebhjkbcpcaaGreatDoor.Txt
open Go.Proofs.YtjmgebhjkbcpcaaGreatDoor.NM
open Go Go.RowKit
/-- the law, walked: whatever the six words, the field's number, the part and the instant -/
theorem tLaw (xs : List ByteArray) (h6 : xs.length = 6) (k : Int) (p : ByteArray) (s n : Int) (w : World) :
    Calls Tryz.prog 3 #[.agg (six xs), .int .i64 k, .string p, .agg #[.int .i64 s, .int .i64 n]] w fun e w' => e = .returned (.bool true) ∧ Below w.heap.size w w' := by
  cases hall : okLen xs with
  | false => exact tLawA xs h6 k p s n w hall
  | true =>
    by_cases hp : p.size ≤ 2147483647
    · obtain ⟨r5, g5, c5⟩ := tGood5 s n
      cases r5 with
      | false => exact tLawC xs h6 k p s n w hall hp c5
      | true =>
        obtain ⟨r6, g6, c6⟩ := tKind6 k
        cases r6 with
        | false => exact tLawD xs h6 k p s n w hall hp c5 c6
        | true =>
          obtain ⟨k0, k6⟩ := g6 rfl
          obtain ⟨k, rfl⟩ := Int.eq_ofNat_of_zero_le k0
          exact tLawM xs h6 k (by omega) p s n w hall hp (g5 rfl) c5 c6
    · exact tLawB xs h6 k p s n w hall (by omega)
end Go.Proofs.YtjmgebhjkbcpcaaGreatDoor.Txt
end
