/- a part of the proof: FnSemverDeMorgan: for every list of terms, every style and every version the law's function returns true and leaves its arguments as they were. No condition is added: the statement is the given one, the tied card. -/
import Derived.Test.YtnamjojceadgdaaGreatDoorNK
import Derived.Test.YtnamjojceadgdaaGreatDoorNC
import Derived.Deep.CutRange
import Derived.Test.YtnamjojceadgdaaGreatDoorNF
import Derived.Test.YtnamjojceadgdaaGreatDoorNG
import Derived.Laws.IdiomStrings
import Derived.Lib.ItoaMem
import Derived.Test.YtnamjojceadgdaaGreatDoorNI
section
set_option linter.unusedVariables false
set_option linter.unusedSimpArgs false
/- the reference's tests of a prerelease -/
namespace Go.Proofs.YtnamjojceadgdaaGreatDoor.Sv
open Go Go.RowKit Rx
set_option maxRecDepth 100000
theorem dB_int (c : UInt8) : dB c = (decide ((48 : Int) ≤ (c.toNat : Int)) && decide ((c.toNat : Int) ≤ 57)) := by
  have := byte_all (p := fun c => dB c == (decide ((48 : Int) ≤ (c.toNat : Int)) && decide ((c.toNat : Int) ≤ 57))) (by decide +kernel) c
  simpa using this
theorem iB_int (c : UInt8) : iB c = (dB c || ((decide ((65 : Int) ≤ (c.toNat : Int)) && decide ((c.toNat : Int) ≤ 90)) || ((decide ((97 : Int) ≤ (c.toNat : Int)) && decide ((c.toNat : Int) ≤ 122)) || ((c.toNat : Int) == 45)))) := by
  have := byte_all (p := fun c => iB c == (dB c || ((decide ((65 : Int) ≤ (c.toNat : Int)) && decide ((c.toNat : Int) ≤ 90)) || ((decide ((97 : Int) ≤ (c.toNat : Int)) && decide ((c.toNat : Int) ≤ 122)) || ((c.toNat : Int) == 45))))) (by decide +kernel) c
  simpa using this
theorem m49 (c : UInt8) (w : World) : Calls Tryz.prog 64 #[.int .u8 (c.toNat : Nat)] w fun e w' => e = .returned (.bool (dB c)) ∧ w' = w := by
  rw [dB_int]
  generalize (c.toNat : Int) = n
  generalize h1 : decide ((48 : Int) ≤ n) = r1
  generalize h2 : decide (n ≤ 57) = r2
  go_enter Tryz.func64, Tryz.ntmps64
  cases r1 <;> cases r2 <;> go_wp2 <;> go_ret <;> exact ⟨rfl, rfl⟩
theorem m48 (c : UInt8) (w : World) : Calls Tryz.prog 63 #[.int .u8 (c.toNat : Nat)] w fun e w' => e = .returned (.bool (iB c)) ∧ w' = w := by
  have H := Lib.hid (m49 c w)
  rw [iB_int]
  generalize dB c = r at *
  generalize (c.toNat : Int) = n at *
  generalize h1 : decide ((65 : Int) ≤ n) = r1
  generalize h2 : decide (n ≤ 90) = r2
  generalize h3 : decide ((97 : Int) ≤ n) = r3
  generalize h4 : decide (n ≤ 122) = r4
  generalize h5 : (n == 45) = r5
  go_enter Tryz.func63, Tryz.ntmps63
  cases r <;> cases r1 <;> cases r2 <;> cases r3 <;> cases r4 <;> (go_wp2_with (go_at_call 64; refine H.out.mono ?_; rintro e w1 ⟨rfl, hw⟩; subst hw)) <;> go_ret <;> exact ⟨rfl, rfl⟩
theorem get_bytes {s : Bs} {i : Nat} (h : i < (bytesOf s).size) (h' : i < s.length) : (bytesOf s)[i]'h = s[i]'h' := by simp [bytesOf]; rfl
set_option maxHeartbeats 1000000 in
theorem m29 (s : Bs) (hs : s.length ≤ 9000000000000000000) (w : World) : Calls Tryz.prog 36 #[.string (bytesOf s)] w fun e w' => e = .returned (.bool (s.all iB && !s.isEmpty)) ∧ w' = w := by
  have H := Lib.hid (fun c => m48 c w)
  have hsI : (s.length : Int) ≤ 9000000000000000000 := by omega
  have hsz := bytesOf_size s
  have e1 := bytesOf_toList s
  go_enter Tryz.func36, Tryz.ntmps36
  go_wp2
  go_loop [3] (fun iv => ∃ i : Nat, i ≤ s.length ∧ iv = .int .i64 i ∧ ∀ j (h : j < s.length), j < i → iB (s[j]'h) = true) (fun iv => s.length - (intOf iv).toNat)
  case atStart => exact ⟨0, Nat.zero_le _, rfl, fun j h h' => by omega⟩
  case round =>
    obtain ⟨i, hi, rfl, hall⟩ := hrel
    have HA := Lib.hid hall
    clear hall
    by_cases hlt : i < s.length
    · obtain ⟨c, hc⟩ : ∃ c, s[i]'hlt = c := ⟨_, rfl⟩
      have hg := get_bytes (s := s) (i := i) (by omega) hlt
      rw [hc] at hg
      have H1 := Lib.hid (H.out c)
      obtain ⟨r, hr⟩ : ∃ r, iB c = r := ⟨_, rfl⟩
      rw [hr] at H1
      have HR := Lib.hid (And.intro hc hr)
      clear hc hr
      cases r
      · go_wp2_with (go_at_call 63; refine H1.out.mono ?_; rintro e w1 ⟨rfl, hw⟩; subst hw)
        go_ret
        refine ⟨?_, rfl⟩
        have : s.all iB = false := by
          rw [List.all_eq_false]
          exact ⟨c, by rw [← HR.out.1]; exact List.getElem_mem hlt, by rw [HR.out.2]; simp⟩
        rw [this]; rfl
      · go_wp2_with (go_at_call 63; refine H1.out.mono ?_; rintro e w1 ⟨rfl, hw⟩; subst hw)
        go_round
        case rel =>
          refine ⟨i + 1, by omega, by go_num, fun j h h' => ?_⟩
          by_cases hj : j = i
          · subst hj; rw [HR.out.1]; exact HR.out.2
          · exact HA.out j h (by omega)
        case measure => simp [intOf]; omega
    · have he : s.all iB = true := List.all_eq_true.2 fun y hy => by
        obtain ⟨j, hj, rfl⟩ := List.getElem_of_mem hy
        exact HA.out j hj (by omega)
      have HE := Lib.hid he
      clear he
      go_wp2
      go_ret
      refine ⟨?_, rfl⟩
      rw [HE.out]
      cases s with
      | nil => rfl
      | cons y l => rfl
set_option maxHeartbeats 1000000 in
theorem m30 (s : Bs) (hs : s.length ≤ 9000000000000000000) (w : World) : Calls Tryz.prog 37 #[.string (bytesOf s)] w fun e w' => e = .returned (.bool (s.all dB && !s.isEmpty)) ∧ w' = w := by
  have H := Lib.hid (fun c => m49 c w)
  have hsI : (s.length : Int) ≤ 9000000000000000000 := by omega
  have hsz := bytesOf_size s
  have e1 := bytesOf_toList s
  go_enter Tryz.func37, Tryz.ntmps37
  go_wp2
  go_loop [3] (fun iv => ∃ i : Nat, i ≤ s.length ∧ iv = .int .i64 i ∧ ∀ j (h : j < s.length), j < i → dB (s[j]'h) = true) (fun iv => s.length - (intOf iv).toNat)
  case atStart => exact ⟨0, Nat.zero_le _, rfl, fun j h h' => by omega⟩
  case round =>
    obtain ⟨i, hi, rfl, hall⟩ := hrel
    have HA := Lib.hid hall
    clear hall
    by_cases hlt : i < s.length
    · obtain ⟨c, hc⟩ : ∃ c, s[i]'hlt = c := ⟨_, rfl⟩
      have hg := get_bytes (s := s) (i := i) (by omega) hlt
      rw [hc] at hg
      have H1 := Lib.hid (H.out c)
      obtain ⟨r, hr⟩ : ∃ r, dB c = r := ⟨_, rfl⟩
      rw [hr] at H1
      have HR := Lib.hid (And.intro hc hr)
      clear hc hr
      cases r
      · go_wp2_with (go_at_call 64; refine H1.out.mono ?_; rintro e w1 ⟨rfl, hw⟩; subst hw)
        go_ret
        refine ⟨?_, rfl⟩
        have : s.all dB = false := by
          rw [List.all_eq_false]
          exact ⟨c, by rw [← HR.out.1]; exact List.getElem_mem hlt, by rw [HR.out.2]; simp⟩
        rw [this]; rfl
      · go_wp2_with (go_at_call 64; refine H1.out.mono ?_; rintro e w1 ⟨rfl, hw⟩; subst hw)
        go_round
        case rel =>
          refine ⟨i + 1, by omega, by go_num, fun j h h' => ?_⟩
          by_cases hj : j = i
          · subst hj; rw [HR.out.1]; exact HR.out.2
          · exact HA.out j h (by omega)
        case measure => simp [intOf]; omega
    · have he : s.all dB = true := List.all_eq_true.2 fun y hy => by
        obtain ⟨j, hj, rfl⟩ := List.getElem_of_mem hy
        exact HA.out j hj (by omega)
      have HE := Lib.hid he
      clear he
      go_wp2
      go_ret
      refine ⟨?_, rfl⟩
      rw [HE.out]
      cases s with
      | nil => rfl
      | cons y l => rfl
end Go.Proofs.YtnamjojceadgdaaGreatDoor.Sv
end
section
set_option linter.unusedVariables false
set_option linter.unusedSimpArgs false
/- the reference's identifiers; what it takes as a prerelease is good -/
namespace Go.Proofs.YtnamjojceadgdaaGreatDoor.Sv
open Go Go.RowKit Rx
set_option maxRecDepth 100000
theorem seg_extract {u : Bs} {fr i : Nat} (h : fr ≤ i) (hi : i ≤ u.length) : (bytesOf u).extract fr i = bytesOf ((u.drop fr).take (i - fr)) := by
  refine extract_eq (A := u.take fr) (B := (u.drop fr).take (i - fr)) (C := u.drop i) ?_ (by simp; omega) (by simp; omega)
  show u.toArray.toList = _
  rw [List.toList_toArray]
  conv => lhs; rw [← List.take_append_drop fr u, ← List.take_append_drop (i - fr) (u.drop fr), List.drop_drop]
  congr 3
  omega
theorem seg_dot {u : Bs} {fr i : Nat} (h : fr ≤ i) (hi : i < u.length) (hd : u[i]'hi = 46) (hn : ∀ j (hj : j < u.length), fr ≤ j → j < i → u[j]'hj ≠ 46) : idents (u.drop fr) = (u.drop fr).take (i - fr) :: idents (u.drop (i + 1)) := by
  have e : u.drop fr = (u.drop fr).take (i - fr) ++ 46 :: u.drop (i + 1) := by
    conv => lhs; rw [← List.take_append_drop (i - fr) (u.drop fr), List.drop_drop]
    rw [show fr + (i - fr) = i by omega, List.drop_eq_getElem_cons hi, hd]
  conv => lhs; rw [e]
  refine idents_at fun y hy => ?_
  obtain ⟨j, hj, rfl⟩ := List.getElem_of_mem hy
  have hj2 : j < i - fr := by simp at hj; omega
  rw [List.getElem_take, List.getElem_drop]
  exact hn (fr + j) (by omega) (by omega) (by omega)
theorem seg_end {u : Bs} {fr : Nat} (h : fr ≤ u.length) (hn : ∀ j (hj : j < u.length), fr ≤ j → u[j]'hj ≠ 46) : idents (u.drop fr) = [u.drop fr] := by
  refine idents_none fun y hy => ?_
  obtain ⟨j, hj, rfl⟩ := List.getElem_of_mem hy
  rw [List.getElem_drop]
  exact hn (fr + j) (by simp at hj; omega) (by omega)
set_option maxHeartbeats 4000000 in
theorem m28 (u : Bs) (hu : u.length ≤ 2147483647) (w : World) : Calls Tryz.prog 35 #[.string (bytesOf u)] w fun e w' => ∃ v : Value, e = .returned v ∧ w'.ownsRow w.heap.size 9 1 v (idents u).length ((idents u).map fun d => Value.string (bytesOf d)) ∧ Below w.heap.size w w' := by
  obtain ⟨i0, hi, hz0, hz1, hz2⟩ := info_parts info9
  have HI := Lib.hid (And.intro hi (And.intro hz0 (And.intro hz1 hz2)))
  have HSZ := Lib.hid hu
  have hsz := bytesOf_size u
  have k9 : (u.length : Int) ≤ 2147483647 := by omega
  clear hi hz0 hz1 hz2
  go_enter Tryz.func35, Tryz.ntmps35
  go_wp2
  go_loopw [3, 4, 5] (fun lv fv iv wr => ∃ i fr : Nat, iv = .int .i64 i ∧ fv = .int .i64 fr ∧ i ≤ u.length ∧ fr ≤ i ∧ ∃ D : List Bs, Hid (D.length ≤ fr ∧ D ++ idents (u.drop fr) = idents u ∧ (∀ j (hj : j < u.length), fr ≤ j → j < i → u[j]'hj ≠ 46) ∧ wr.ownsRow w.heap.size 9 1 lv D.length (D.map fun d => Value.string (bytesOf d)) ∧ Below w.heap.size w wr)) (fun _ _ iv _ => 3000000000 - (intOf iv).toNat)
  case atStart => exact ⟨0, 0, rfl, rfl, Nat.zero_le _, Nat.zero_le _, [], Lib.hid ⟨by simp, by simp, fun j hj h1 h2 => by omega, World.ownsRow_nil w w.heap.size 9 1, Below.refl _ _⟩⟩
  case round =>
    obtain ⟨i, fr, rfl, rfl, hi, hf, D, HR⟩ := hrel
    have k1 : (fr : Int) ≤ (i : Int) := by omega
    have k2 : (i : Int) ≤ (u.length : Int) := by omega
    have k3 : (fr : Int) ≤ (u.length : Int) := by omega
    by_cases c : i < u.length
    · have c1 : (i : Int) < (u.length : Int) := by omega
      obtain ⟨y, hy⟩ : ∃ y, u[i]'c = y := ⟨_, rfl⟩
      have hg := get_bytes (s := u) (i := i) (by omega) c
      rw [hy] at hg
      have HY := Lib.hid hy
      clear hy
      by_cases hd : y = 46
      · have HD := Lib.hid hd
        have z0 : ((y.toNat : Int) == 46) = true := by subst hd; rfl
        clear hd
        go_wp2_with ((with_reducible refine wpList_append_own (o := ⟨some 22, _, _, _, _, _⟩) _ ?h1 (.tmp 16) (.tmp 21) 56 ?h2 w.heap.size 9 i0 (.string ⟨#[]⟩) 1 16 Tryz.underlying56 HI.out.1 HI.out.2.1 HI.out.2.2.1 HI.out.2.2.2 rfl (by decide) _ D.length _ ?h3 (HR.out.2.2.2.1.alloc _) ⟨wr.heap.size, 0, none⟩ 1 1 [.string ((bytesOf u).extract fr i)] ?h4 rfl ?h5 ?h6 ?h7 ?h8 ?h9 ?_); (case h1 => rfl); (case h2 => rfl); (case h3 => rfl); (case h4 => rfl); (case h5 => exact cell_one_new _ _ _); (case h6 => simp [Value.oneCell']); (case h7 => (have := HR.out.1; have := HSZ.out; unfold maxLen; omega)); (case h8 => (have := HR.out.1; have := HSZ.out; omega)); (case h9 => (have := HR.out.2.2.2.2.size; simp; omega)); intro v' w2 ho' hg' _; have HN := Lib.hid (And.intro ho' (own_fin HR.out.2.2.2.1 HR.out.2.2.2.2 hg')); clear ho' hg')
        obtain ⟨n1, n2⟩ := HN.out
        obtain ⟨r1, r2, r3, r4, r5⟩ := HR.out
        have e1 := seg_dot hf c (HY.out.trans HD.out) r3
        rw [seg_extract hf hi] at n1
        refine ⟨⟨i + 1, i + 1, rfl, rfl, by omega, Nat.le_refl _, D ++ [(u.drop fr).take (i - fr)], Lib.hid ⟨by simp; omega, by rw [← r2, e1]; simp, fun j hj h1 h2 => by omega, by simpa using n1, n2⟩⟩, by simp [intOf]; omega⟩
      · have HD := Lib.hid hd
        have z0 : ((y.toNat : Int) == 46) = false := by
          cases h : ((y.toNat : Int) == 46) with
          | false => rfl
          | true => exact absurd (UInt8.toNat_inj.1 (show y.toNat = (46 : UInt8).toNat by simp at h; rw [show (46 : UInt8).toNat = 46 from rfl]; omega)) hd
        clear hd
        go_wp2
        obtain ⟨r1, r2, r3, r4, r5⟩ := HR.out
        refine ⟨⟨i + 1, fr, rfl, rfl, by omega, by omega, D, Lib.hid ⟨r1, r2, fun j hj h1 h2 => ?_, r4, r5⟩⟩, by simp [intOf]; omega⟩
        by_cases hj2 : j = i
        · subst hj2; rw [HY.out]; exact HD.out
        · exact r3 j hj h1 (by omega)
    · have c1 : ¬ (i : Int) < (u.length : Int) := by omega
      go_wp2_with ((with_reducible refine wpList_append_own (o := ⟨some 30, _, _, _, _, _⟩) _ ?h1 (.tmp 25) (.tmp 29) 56 ?h2 w.heap.size 9 i0 (.string ⟨#[]⟩) 1 16 Tryz.underlying56 HI.out.1 HI.out.2.1 HI.out.2.2.1 HI.out.2.2.2 rfl (by decide) _ D.length _ ?h3 (HR.out.2.2.2.1.alloc _) ⟨wr.heap.size, 0, none⟩ 1 1 [.string ((bytesOf u).extract fr u.length)] ?h4 rfl ?h5 ?h6 ?h7 ?h8 ?h9 ?_); (case h1 => rfl); (case h2 => rfl); (case h3 => rfl); (case h4 => rfl); (case h5 => exact cell_one_new _ _ _); (case h6 => simp [Value.oneCell']); (case h7 => (have := HR.out.1; have := HSZ.out; unfold maxLen; omega)); (case h8 => (have := HR.out.1; have := HSZ.out; omega)); (case h9 => (have := HR.out.2.2.2.2.size; simp; omega)); intro v' w2 ho' hg' _; have HN := Lib.hid (And.intro ho' (own_fin HR.out.2.2.2.1 HR.out.2.2.2.2 hg')); clear ho' hg')
      go_ret
      obtain ⟨n1, n2⟩ := HN.out
      obtain ⟨r1, r2, r3, r4, r5⟩ := HR.out
      have e1 := seg_end (by omega) fun j hj h1 => r3 j hj h1 (by omega)
      rw [seg_extract (by omega) (Nat.le_refl _), List.take_of_length_le (by simp)] at n1
      refine ⟨_, rfl, ?_, n2⟩
      rw [← r2, e1]
      simpa using n1
end Go.Proofs.YtnamjojceadgdaaGreatDoor.Sv
end
section
set_option linter.unusedVariables false
set_option linter.unusedSimpArgs false
/- a good prerelease, good metadata are taken -/
namespace Go.Proofs.YtnamjojceadgdaaGreatDoor.Sv
open Go Go.RowKit Rx
set_option maxRecDepth 100000
def numC : Bs := [48, 49, 50, 51, 52, 53, 54, 55, 56, 57]
def allC : Bs := [97, 98, 99, 100, 101, 102, 103, 104, 105, 106, 107, 108, 109, 110, 111, 112, 113, 114, 115, 116, 117, 118, 119, 120, 121, 122, 65, 66, 67, 68, 69, 70, 71, 72, 73, 74, 75, 76, 77, 78, 79, 80, 81, 82, 83, 84, 85, 86, 87, 88, 89, 90, 45, 48, 49, 50, 51, 52, 53, 54, 55, 56, 57]
theorem num_dB (y : UInt8) : (numC.any fun z => z.toNat == y.toNat) = dB y := by
  have := byte_all (p := fun y => (numC.any fun z => z.toNat == y.toNat) == dB y) (by decide) y
  simpa using this
theorem all_iB (y : UInt8) (h : iB y = true) : (allC.any fun z => z.toNat == y.toNat) = true ∧ y.toNat < 128 := by
  have := byte_all (p := fun y => !iB y || ((allC.any fun z => z.toNat == y.toNat) && decide (y.toNat < 128))) (by decide) y
  simpa [h] using this
theorem numC_lt : ∀ y ∈ numC, y.toNat < 128 := by decide
theorem allC_lt : ∀ y ∈ allC, y.toNat < 128 := by decide
theorem k92num (i : Bs) (hi : ∀ y ∈ i, iB y = true) (w : World) : Calls Tryz.prog 79 #[.string (bytesOf i), .string (bytesOf numC)] w fun e w' => e = .returned (.bool (i.all dB)) ∧ Below w.heap.size w w' := by
  have h := k92 numC i numC_lt (fun y hy => (all_iB y (hi y hy)).2) w
  simp only [num_dB] at h
  exact h
theorem k92all (i : Bs) (hi : ∀ y ∈ i, iB y = true) (w : World) : Calls Tryz.prog 79 #[.string (bytesOf i), .string (bytesOf allC)] w fun e w' => e = .returned (.bool true) ∧ Below w.heap.size w w' := by
  have h := k92 allC i allC_lt (fun y hy => (all_iB y (hi y hy)).2) w
  have e : (i.all fun y => allC.any fun z => z.toNat == y.toNat) = true := List.all_eq_true.2 fun y hy => (all_iB y (hi y hy)).1
  rw [e] at h
  exact h
theorem idents_len : ∀ s : Bs, (idents s).length ≤ s.length + 1
  | [] => by simp [idents]
  | x :: l => by
    have h := idents_len l
    unfold idents
    split
    · simp; omega
    · split
      · simp
      · rename_i e; rw [e] at h; simp at h ⊢; omega
set_option maxHeartbeats 2000000 in
theorem k91 (s : Bs) (hs : s.length ≤ 1000) (hp : PreOk s) (w : World) : Calls Tryz.prog 78 #[.string (bytesOf s)] w fun e w' => e = .returned .nilIface ∧ Below w.heap.size w w' := by
  obtain ⟨L, hL⟩ : ∃ L, idents s = L := ⟨_, rfl⟩
  have H := Lib.hid (t38 (bytesOf s) ⟨#[46]⟩ _ (parted_dot s.length s (Nat.le_refl _)) (by rw [bytesOf_size]; omega) (by decide) (by decide) w)
  unfold PreOk at hp
  have hne := idents_ne s
  rw [hL] at H hp hne
  have hnz : 0 < (L.map bytesOf).length := by simp; exact List.length_pos_iff.2 hne
  have hlen := idents_len s
  rw [hL] at hlen
  have hln : (L.length : Int) ≤ 1001 := by omega
  have HP := Lib.hid hp
  clear hL hs hp hne hlen
  go_enter Tryz.func78, Tryz.ntmps78
  go_upto_region 3 with (go_at_call 25; refine H.out.mono ?_; rintro e w1 ⟨v, rfl, ho, hb⟩; obtain ⟨ob, oc, hv2, hob⟩ := World.ownsRow.form ho hnz; subst hv2; obtain ⟨ocur, hob2, hoc⟩ := own_cells ho hnz; have HO := Lib.hid (And.intro hob2 (And.intro hoc hb)); clear ho hb hob hob2 hoc)
  simp only [List.length_map] at *
  go_wp2
  go_loopw [10] (fun kv W => ∃ k : Nat, kv = .int .i64 k ∧ k ≤ L.length ∧ Hid (Below w1.heap.size w1 W)) (fun kv _ => 2000000 - (intOf kv).toNat)
  case atStart => exact ⟨0, rfl, Nat.zero_le _, Lib.hid (Below.refl _ _)⟩
  case round =>
    obtain ⟨k, rfl, hk, HW⟩ := hrel
    by_cases c : k < L.length
    · have c1 : (k : Int) < (L.length : Int) := by omega
      obtain ⟨d, hd⟩ : ∃ d, L[k]? = some d := ⟨_, List.getElem?_eq_getElem c⟩
      have q0 : wr.cell? ⟨ob, k, none⟩ = some (.string (bytesOf d)) := by
        have hlt := (Array.getElem?_eq_some_iff.1 HO.out.1).1
        rw [HW.out.cell (p := ⟨ob, k, none⟩) hlt, cell_of_row _ _ _ _ _ _ HO.out.1, HO.out.2.1 k (.string (bytesOf d)) (by simp [hd])]
      have hok := HP.out d (List.mem_of_getElem? hd)
      have e1 : (bytesOf d).toList = d := bytesOf_toList d
      have dne : (d == ([] : Bs)) = false := by
        cases d with
        | nil => exact absurd rfl hok.1.1
        | cons y l => rfl
      have Hn := Lib.hid (fun w => k92num d hok.1.2 w)
      have Ha := Lib.hid (fun w => k92all d hok.1.2 w)
      have HK := Lib.hid hok
      obtain ⟨r, hr⟩ : ∃ r, d.all dB = r := ⟨_, rfl⟩
      rw [hr] at Hn
      have HR := Lib.hid hr
      have hsz := bytesOf_size d
      have hdl : 0 < d.length := List.length_pos_iff.2 hok.1.1
      clear hd hok hr
      cases r
      · go_wp2_with (first
          | (go_at_call 79; refine (Hn.out _).mono ?_; rintro e w2 ⟨rfl, hb⟩; have HB := Lib.hid (HW.out.trans (hb.mono HW.out.size)); clear hb)
          | (go_at_call 79; refine (Ha.out _).mono ?_; rintro e w3 ⟨rfl, hb⟩; have HB2 := Lib.hid (HB.out.trans (hb.mono HB.out.size)); clear hb))
        exact ⟨⟨k + 1, rfl, by omega, HB2⟩, by simp [intOf]; omega⟩
      · by_cases h1 : 1 < d.length
        · have h1' : (1 : Int) < (d.length : Int) := by omega
          have hz : 0 < (bytesOf d).size := by omega
          have z0 : ((((bytesOf d)[0]'hz).toNat : Int) == 48) = false := by
            have h2 := HK.out.2
            have h3 : ∀ y ∈ d, dB y = true := fun y hy => List.all_eq_true.1 HR.out y hy
            have e2 : (bytesOf d)[0]'hz = d[0]'hdl := by simp [bytesOf]; rfl
            rw [e2]
            cases hq : ((((d[0]'hdl).toNat : Nat) : Int) == 48) with
            | false => rfl
            | true =>
              exfalso
              refine h2 ⟨h3, h1, ?_⟩
              rw [List.head?_eq_getElem?, List.getElem?_eq_getElem hdl]
              have : (d[0]'hdl).toNat = 48 := by simp at hq; omega
              exact congrArg some (UInt8.toNat_inj.1 (by rw [this]; rfl))
          go_wp2_with (go_at_call 79; refine (Hn.out _).mono ?_; rintro e w2 ⟨rfl, hb⟩; have HB := Lib.hid (HW.out.trans (hb.mono HW.out.size)); clear hb)
          exact ⟨⟨k + 1, rfl, by omega, HB⟩, by simp [intOf]; omega⟩
        · have h1' : ¬ (1 : Int) < (d.length : Int) := by omega
          go_wp2_with (go_at_call 79; refine (Hn.out _).mono ?_; rintro e w2 ⟨rfl, hb⟩; have HB := Lib.hid (HW.out.trans (hb.mono HW.out.size)); clear hb)
          exact ⟨⟨k + 1, rfl, by omega, HB⟩, by simp [intOf]; omega⟩
    · have c1 : ¬ (k : Int) < (L.length : Int) := by omega
      go_wp2
      go_ret
      exact ⟨rfl, HO.out.2.2.trans (HW.out.mono HO.out.2.2.size)⟩
set_option maxHeartbeats 2000000 in
theorem k90 (s : Bs) (hs : s.length ≤ 1000) (hp : ∀ i ∈ idents s, okPart iB i) (w : World) : Calls Tryz.prog 77 #[.string (bytesOf s)] w fun e w' => e = .returned .nilIface ∧ Below w.heap.size w w' := by
  obtain ⟨L, hL⟩ : ∃ L, idents s = L := ⟨_, rfl⟩
  have H := Lib.hid (t38 (bytesOf s) ⟨#[46]⟩ _ (parted_dot s.length s (Nat.le_refl _)) (by rw [bytesOf_size]; omega) (by decide) (by decide) w)
  have hne := idents_ne s
  rw [hL] at H hp hne
  have hnz : 0 < (L.map bytesOf).length := by simp; exact List.length_pos_iff.2 hne
  have hlen := idents_len s
  rw [hL] at hlen
  have hln : (L.length : Int) ≤ 1001 := by omega
  have HP := Lib.hid hp
  clear hL hs hp hne hlen
  go_enter Tryz.func77, Tryz.ntmps77
  go_upto_region 3 with (go_at_call 25; refine H.out.mono ?_; rintro e w1 ⟨v, rfl, ho, hb⟩; obtain ⟨ob, oc, hv2, hob⟩ := World.ownsRow.form ho hnz; subst hv2; obtain ⟨ocur, hob2, hoc⟩ := own_cells ho hnz; have HO := Lib.hid (And.intro hob2 (And.intro hoc hb)); clear ho hb hob hob2 hoc)
  simp only [List.length_map] at *
  go_wp2
  go_loopw [10] (fun kv W => ∃ k : Nat, kv = .int .i64 k ∧ k ≤ L.length ∧ Hid (Below w1.heap.size w1 W)) (fun kv _ => 2000000 - (intOf kv).toNat)
  case atStart => exact ⟨0, rfl, Nat.zero_le _, Lib.hid (Below.refl _ _)⟩
  case round =>
    obtain ⟨k, rfl, hk, HW⟩ := hrel
    by_cases c : k < L.length
    · have c1 : (k : Int) < (L.length : Int) := by omega
      obtain ⟨d, hd⟩ : ∃ d, L[k]? = some d := ⟨_, List.getElem?_eq_getElem c⟩
      have q0 : wr.cell? ⟨ob, k, none⟩ = some (.string (bytesOf d)) := by
        have hlt := (Array.getElem?_eq_some_iff.1 HO.out.1).1
        rw [HW.out.cell (p := ⟨ob, k, none⟩) hlt, cell_of_row _ _ _ _ _ _ HO.out.1, HO.out.2.1 k (.string (bytesOf d)) (by simp [hd])]
      have hok := HP.out d (List.mem_of_getElem? hd)
      have e1 : (bytesOf d).toList = d := bytesOf_toList d
      have dne : (d == ([] : Bs)) = false := by
        cases d with
        | nil => exact absurd rfl hok.1
        | cons y l => rfl
      have Ha := Lib.hid (fun w => k92all d hok.2 w)
      have hsz := bytesOf_size d
      clear hd hok
      go_wp2_with (go_at_call 79; refine (Ha.out _).mono ?_; rintro e w3 ⟨rfl, hb⟩; have HB := Lib.hid (HW.out.trans (hb.mono HW.out.size)); clear hb)
      exact ⟨⟨k + 1, rfl, by omega, HB⟩, by simp [intOf]; omega⟩
    · have c1 : ¬ (k : Int) < (L.length : Int) := by omega
      go_wp2
      go_ret
      exact ⟨rfl, HO.out.2.2.trans (HW.out.mono HO.out.2.2.size)⟩
end Go.Proofs.YtnamjojceadgdaaGreatDoor.Sv
end
section
set_option linter.unusedVariables false
set_option linter.unusedSimpArgs false
/- what the reference takes as a prerelease is good -/
namespace Go.Proofs.YtnamjojceadgdaaGreatDoor.Sv
open Go Go.RowKit Rx
set_option maxRecDepth 100000
theorem idents_le : ∀ (u : Bs), ∀ d ∈ idents u, d.length ≤ u.length
  | [], d, h => by simp [idents] at h; subst h; simp
  | x :: l, d, h => by
    have ih := idents_le l
    unfold idents at h
    split at h
    · rcases List.mem_cons.1 h with rfl | h
      · simp
      · have := ih d h; simp; omega
    · split at h
      · rcases List.mem_cons.1 h with rfl | h
        · simp
        · cases h
      · rename_i y r e
        rcases List.mem_cons.1 h with rfl | h
        · have := ih y (by rw [e]; simp)
          simp; omega
        · have := ih d (by rw [e]; exact List.mem_cons_of_mem _ h)
          simp; omega
/-- a round's start: the identifier at hand -/
theorem id_cell {wr w1 : World} {ob k : Nat} {ocur : Array Value} {L : List Bs} {d : Bs} (h1 : w1.heap[ob]? = some (.cells ocur 9 (0, 0))) (h2 : ∀ (j : Nat) (v : Value), (L.map fun d => Value.string (bytesOf d))[j]? = some v → ocur[j]? = some v) (hw : Below w1.heap.size w1 wr) (hd : L[k]? = some d) : wr.cell? ⟨ob, k, none⟩ = some (.string (bytesOf d)) := by
  rw [hw.cell (p := ⟨ob, k, none⟩) (Array.getElem?_eq_some_iff.1 h1).1, cell_of_row _ _ _ _ _ _ h1, h2 k (.string (bytesOf d)) (by simp [hd])]
/-- some bool; true only where P holds -/
def OkB (e : Ending) (P : Prop) : Prop := ∃ r : Bool, e = .returned (.bool r) ∧ (r = true → P)
set_option maxHeartbeats 4000000 in
theorem m14 (u : Bs) (hu : u.length ≤ 2147483647) (w : World) : Calls Tryz.prog 20 #[.string (bytesOf u)] w fun e w' => OkB e (PreOk u) ∧ Below w.heap.size w w' := by
  have H := Lib.hid (m28 u hu w)
  have hlen := idents_len u
  have hle := idents_le u
  have hne := idents_ne u
  obtain ⟨L, hL⟩ : ∃ L, idents u = L := ⟨_, rfl⟩
  have e0 : PreOk u ↔ ∀ i ∈ L, idOk i := by unfold PreOk; rw [hL]
  rw [hL] at H hlen hle hne
  have hnz : 0 < L.length := List.length_pos_iff.2 hne
  have hln : (L.length : Int) ≤ 2147483648 := by omega
  have HE := Lib.hid (And.intro e0 (And.intro hle hu))
  clear hL hlen hle hne e0
  go_enter Tryz.func20, Tryz.ntmps20
  go_upto_region 2 with (go_at_call 35; refine H.out.mono ?_; rintro e w1 ⟨v, rfl, ho, hb⟩; obtain ⟨ob, oc, hv2, hob⟩ := World.ownsRow.form ho hnz; subst hv2; obtain ⟨ocur, hob2, hoc⟩ := own_cells ho hnz; have HO := Lib.hid (And.intro hob2 (And.intro hoc hb)); clear ho hb hob hob2 hoc)
  go_wp2
  go_loopw [8] (fun kv W => ∃ k : Nat, kv = .int .i64 k ∧ k ≤ L.length ∧ Hid (Below w1.heap.size w1 W ∧ ∀ j (h : j < L.length), j < k → idOk (L[j]'h))) (fun kv _ => 3000000000 - (intOf kv).toNat)
  case atStart => exact ⟨0, rfl, Nat.zero_le _, Lib.hid ⟨Below.refl _ _, fun j h h' => by omega⟩⟩
  case round =>
    obtain ⟨k, rfl, hk, HW⟩ := hrel
    by_cases c : k < L.length
    · have c1 : (k : Int) < (L.length : Int) := by omega
      obtain ⟨d, hd⟩ : ∃ d, L[k]? = some d := ⟨_, List.getElem?_eq_getElem c⟩
      have q0 := id_cell HO.out.1 HO.out.2.1 HW.out.1 hd
      have hdl : d.length ≤ 2147483647 := by have := HE.out.2.1 d (List.mem_of_getElem? hd); have := HE.out.2.2; omega
      have Ha := Lib.hid (m29 d (by omega) wr)
      have Hb := Lib.hid (m30 d (by omega) wr)
      have HK : Hid (L[k]'c = d) := Lib.hid (by rw [List.getElem?_eq_getElem c] at hd; exact Option.some.inj hd)
      have hsz := bytesOf_size d
      have hnext : idOk d → ∀ j (h : j < L.length), j < k + 1 → idOk (L[j]'h) := fun hi j h h' => by
        by_cases hj : j = k
        · subst hj; rw [HK.out]; exact hi
        · exact HW.out.2 j h (by omega)
      have HN := Lib.hid hnext
      obtain ⟨b1, hb1⟩ : ∃ b, (d.all iB && !d.isEmpty) = b := ⟨_, rfl⟩
      obtain ⟨b2, hb2⟩ : ∃ b, (d.all dB && !d.isEmpty) = b := ⟨_, rfl⟩
      rw [hb1] at Ha
      rw [hb2] at Hb
      have HB := Lib.hid (And.intro hb1 hb2)
      clear hd hb1 hb2 hnext
      cases b1
      · go_wp2_with (go_at_call 36; refine Ha.out.mono ?_; rintro e w2 ⟨rfl, hw⟩; subst hw)
        go_ret
        exact ⟨⟨_, rfl, fun h => by cases h⟩, HO.out.2.2.trans (HW.out.1.mono HO.out.2.2.size)⟩
      · have hok : okPart iB d := by
          have h := HB.out.1
          simp only [Bool.and_eq_true] at h
          exact ⟨fun e => by subst e; simp at h, fun y hy => List.all_eq_true.1 h.1 y hy⟩
        have HOK := Lib.hid hok
        clear hok
        cases b2
        · go_wp2_with (first
            | (go_at_call 36; refine Ha.out.mono ?_; rintro e w2 ⟨rfl, hw⟩; subst hw)
            | (go_at_call 37; refine Hb.out.mono ?_; rintro e w2 ⟨rfl, hw⟩; subst hw))
          refine ⟨⟨k + 1, rfl, by omega, Lib.hid ⟨HW.out.1, HN.out ⟨HOK.out, fun h => ?_⟩⟩⟩, by simp [intOf]; omega⟩
          have h2 := HB.out.2
          have h3 : d.all dB = true := List.all_eq_true.2 h.1
          have h4 : d.isEmpty = false := by cases d with | nil => exact absurd rfl HOK.out.1 | cons y l => rfl
          rw [h3, h4] at h2; cases h2
        · by_cases h1 : 1 < d.length
          · have h1' : (1 : Int) < (d.length : Int) := by omega
            have hz : 0 < (bytesOf d).size := by omega
            obtain ⟨y, hy⟩ : ∃ y, d[0]'(by omega) = y := ⟨_, rfl⟩
            have hg : (bytesOf d)[0]'hz = y := (get_bytes hz (by omega)).trans hy
            have HY := Lib.hid hy
            clear hy
            obtain ⟨r, hr⟩ : ∃ r, ((y.toNat : Int) == 48) = r := ⟨_, rfl⟩
            cases r
            · go_wp2_with (first
                | (go_at_call 36; refine Ha.out.mono ?_; rintro e w2 ⟨rfl, hw⟩; subst hw)
                | (go_at_call 37; refine Hb.out.mono ?_; rintro e w2 ⟨rfl, hw⟩; subst hw))
              refine ⟨⟨k + 1, rfl, by omega, Lib.hid ⟨HW.out.1, HN.out ⟨HOK.out, fun h => ?_⟩⟩⟩, by simp [intOf]; omega⟩
              have h3 := h.2.2
              rw [List.head?_eq_getElem?, List.getElem?_eq_getElem (by omega)] at h3
              have h4 : y = 48 := by rw [← HY.out]; exact Option.some.inj h3
              subst h4
              simp at hr
            · go_wp2_with (first
                | (go_at_call 36; refine Ha.out.mono ?_; rintro e w2 ⟨rfl, hw⟩; subst hw)
                | (go_at_call 37; refine Hb.out.mono ?_; rintro e w2 ⟨rfl, hw⟩; subst hw))
              go_ret
              exact ⟨⟨_, rfl, fun h => by cases h⟩, HO.out.2.2.trans (HW.out.1.mono HO.out.2.2.size)⟩
          · have h1' : ¬ (1 : Int) < (d.length : Int) := by omega
            go_wp2_with (first
              | (go_at_call 36; refine Ha.out.mono ?_; rintro e w2 ⟨rfl, hw⟩; subst hw)
              | (go_at_call 37; refine Hb.out.mono ?_; rintro e w2 ⟨rfl, hw⟩; subst hw))
            exact ⟨⟨k + 1, rfl, by omega, Lib.hid ⟨HW.out.1, HN.out ⟨HOK.out, fun h => h1 h.2.1⟩⟩⟩, by simp [intOf]; omega⟩
    · have c1 : ¬ (k : Int) < (L.length : Int) := by omega
      go_wp2
      go_ret
      refine ⟨⟨_, rfl, fun _ => HE.out.1.2 fun i hi => ?_⟩, HO.out.2.2.trans (HW.out.1.mono HO.out.2.2.size)⟩
      obtain ⟨j, hj, rfl⟩ := List.getElem_of_mem hi
      exact HW.out.2 j hj (by omega)
set_option maxHeartbeats 4000000 in
theorem m15 (u : Bs) (hu : u.length ≤ 2147483647) (w : World) : Calls Tryz.prog 21 #[.string (bytesOf u)] w fun e w' => SomeB e ∧ Below w.heap.size w w' := by
  have H := Lib.hid (m28 u hu w)
  have hlen := idents_len u
  have hle := idents_le u
  have hne := idents_ne u
  obtain ⟨L, hL⟩ : ∃ L, idents u = L := ⟨_, rfl⟩
  rw [hL] at H hlen hle hne
  have hnz : 0 < L.length := List.length_pos_iff.2 hne
  have hln : (L.length : Int) ≤ 2147483648 := by omega
  have HE := Lib.hid (And.intro hle hu)
  clear hL hlen hle hne
  go_enter Tryz.func21, Tryz.ntmps21
  go_upto_region 2 with (go_at_call 35; refine H.out.mono ?_; rintro e w1 ⟨v, rfl, ho, hb⟩; obtain ⟨ob, oc, hv2, hob⟩ := World.ownsRow.form ho hnz; subst hv2; obtain ⟨ocur, hob2, hoc⟩ := own_cells ho hnz; have HO := Lib.hid (And.intro hob2 (And.intro hoc hb)); clear ho hb hob hob2 hoc)
  go_wp2
  go_loopw [8] (fun kv W => ∃ k : Nat, kv = .int .i64 k ∧ k ≤ L.length ∧ Hid (Below w1.heap.size w1 W)) (fun kv _ => 3000000000 - (intOf kv).toNat)
  case atStart => exact ⟨0, rfl, Nat.zero_le _, Lib.hid (Below.refl _ _)⟩
  case round =>
    obtain ⟨k, rfl, hk, HW⟩ := hrel
    by_cases c : k < L.length
    · have c1 : (k : Int) < (L.length : Int) := by omega
      obtain ⟨d, hd⟩ : ∃ d, L[k]? = some d := ⟨_, List.getElem?_eq_getElem c⟩
      have q0 := id_cell HO.out.1 HO.out.2.1 HW.out hd
      have hdl : d.length ≤ 2147483647 := by have := HE.out.1 d (List.mem_of_getElem? hd); have := HE.out.2; omega
      have Hb := Lib.hid (m30 d (by omega) wr)
      have hsz := bytesOf_size d
      generalize (d.all dB && !d.isEmpty) = r at *
      obtain ⟨r2, hr2⟩ : ∃ r, decide ((19 : Int) < (d.length : Int)) = r := ⟨_, rfl⟩
      clear hd
      cases r <;> cases r2
      all_goals go_wp2_with (go_at_call 37; refine Hb.out.mono ?_; rintro e w2 ⟨rfl, hw⟩; subst hw)
      all_goals first
        | exact ⟨⟨k + 1, rfl, by omega, HW⟩, by simp [intOf]; omega⟩
        | (go_ret; exact ⟨⟨_, rfl⟩, HO.out.2.2.trans (HW.out.mono HO.out.2.2.size)⟩)
    · have c1 : ¬ (k : Int) < (L.length : Int) := by omega
      go_wp2
      go_ret
      exact ⟨⟨_, rfl⟩, HO.out.2.2.trans (HW.out.mono HO.out.2.2.size)⟩
end Go.Proofs.YtnamjojceadgdaaGreatDoor.Sv
end
section
set_option linter.unusedVariables false
set_option linter.unusedSimpArgs false
/- a good term, good terms -/
namespace Go.Proofs.YtnamjojceadgdaaGreatDoor.Sv
open Go Go.RowKit Rx
set_option maxRecDepth 100000
/-- a term as it comes -/
structure TV where
  op : Int
  g : Int
  a : Nat
  b : Nat
  c : Nat
  pre : Bs
def TV.val (t : TV) : Value := .agg #[.int .i64 t.op, .int .i64 t.g, .int .u64 t.a, .int .u64 t.b, .int .u64 t.c, .string (bytesOf t.pre)]
structure TV.Good (t : TV) : Prop where
  op : 0 ≤ t.op ∧ t.op < 8
  g : 0 ≤ t.g ∧ t.g ≤ 3
  c : t.g < 3 → t.c = 0 ∧ t.pre = []
  b : t.g < 2 → t.b = 0
  a : t.g < 1 → t.a = 0
  pre : t.pre = [] ∨ PreOk t.pre
set_option maxHeartbeats 8000000 in
theorem m9 (t : TV) (hu : t.pre.length ≤ 2147483647) (w : World) : Calls Tryz.prog 34 #[t.val] w fun e w' => OkB e t.Good ∧ Below w.heap.size w w' := by
  obtain ⟨op, g, a, b, c, pre⟩ := t
  unfold TV.val
  simp only at *
  have H0 : Below w.heap.size w (w.alloc (.cells #[.int .i64 op, .int .i64 g, .int .u64 a, .int .u64 b, .int .u64 c, .string (bytesOf pre)] 31)) := (Below.refl _ w).alloc (Nat.le_refl _) _
  have H14 := Lib.hid (fun w => m14 pre hu w)
  have H15 := Lib.hid (fun w => m15 pre hu w)
  have hcs := heap_alloc_new w (.cells #[.int .i64 op, .int .i64 g, .int .u64 a, .int .u64 b, .int .u64 c, .string (bytesOf pre)] 31 (0, 0))
  have e1 := bytesOf_toList pre
  obtain ⟨ra, hra⟩ : ∃ r, ((a : Int) == 0) = r := ⟨_, rfl⟩
  obtain ⟨rb, hrb⟩ : ∃ r, ((b : Int) == 0) = r := ⟨_, rfl⟩
  obtain ⟨rc, hrc⟩ : ∃ r, ((c : Int) == 0) = r := ⟨_, rfl⟩
  have hna : ((a : Int) != 0) = !ra := by rw [← hra]; rfl
  have hnb : ((b : Int) != 0) = !rb := by rw [← hrb]; rfl
  have hnc : ((c : Int) != 0) = !rc := by rw [← hrc]; rfl
  obtain ⟨g0, hg0⟩ : ∃ r, (g == 0) = r := ⟨_, rfl⟩
  obtain ⟨g3, hg3⟩ : ∃ r, (g == 3) = r := ⟨_, rfl⟩
  obtain ⟨o0, ho0⟩ : ∃ r, (op != 0) = r := ⟨_, rfl⟩
  obtain ⟨o4, ho4⟩ : ∃ r, (op != 4) = r := ⟨_, rfl⟩
  obtain ⟨o6, ho6⟩ : ∃ r, (op != 6) = r := ⟨_, rfl⟩
  obtain ⟨o7, ho7⟩ : ∃ r, (op == 6) = r := ⟨_, rfl⟩
  obtain ⟨rp, hrp⟩ : ∃ r, (pre == ([] : Bs)) = r := ⟨_, rfl⟩
  have hnp : (pre != ([] : Bs)) = !rp := by rw [← hrp]; rfl
  have HZ := Lib.hid (And.intro hra (And.intro hrb (And.intro hrc hrp)))
  go_enter Tryz.func34, Tryz.ntmps34
  go_upto_region 1 with fail
  generalize w.alloc (.cells #[.int .i64 op, .int .i64 g, .int .u64 a, .int .u64 b, .int .u64 c, .string (bytesOf pre)] 31) = w0 at *
  generalize w.heap.size = T at hcs ⊢
  have q0 : w0.cell? ⟨T, 0, none⟩ = some (.int .i64 op) := cell_of_row _ _ 0 _ _ _ hcs
  have q1 : w0.cell? ⟨T, 1, none⟩ = some (.int .i64 g) := cell_of_row _ _ 1 _ _ _ hcs
  have q2 : w0.cell? ⟨T, 2, none⟩ = some (.int .u64 a) := cell_of_row _ _ 2 _ _ _ hcs
  have q3 : w0.cell? ⟨T, 3, none⟩ = some (.int .u64 b) := cell_of_row _ _ 3 _ _ _ hcs
  have q4 : w0.cell? ⟨T, 4, none⟩ = some (.int .u64 c) := cell_of_row _ _ 4 _ _ _ hcs
  have q5 : w0.cell? ⟨T, 5, none⟩ = some (.string (bytesOf pre)) := cell_of_row _ _ 5 _ _ _ hcs
  have hTl : T < w0.heap.size := (Array.getElem?_eq_some_iff.1 hcs).1
  clear hcs
  go_cut [3] from 4 to 17 (fun s3 wc => ∃ r : Bool, s3 = .bool r ∧ wc = w0)
  case first =>
    go_wp2
    all_goals go_meet
    all_goals exact ⟨_, rfl, rfl⟩
  case rest =>
    obtain ⟨z, rfl, hw⟩ := hcut
    obtain rfl := hw.symm
    go_upto_region 2 with fail
    go_cut [17] from 18 to 49 (fun s17 wc => ∃ r : Bool, s17 = .bool r ∧ wc = w0)
    case first =>
      go_wp2
      all_goals go_meet
      all_goals exact ⟨_, rfl, rfl⟩
    case rest =>
      obtain ⟨z2, rfl, hw⟩ := hcut
      obtain rfl := hw.symm
      cases z2
      · go_upto_region 4 with fail
        go_cut [49] from 50 to 68 (fun s49 wc => ∃ r : Bool, s49 = .bool r ∧ wc = w0 ∧ (r = false → (0 ≤ op ∧ op < 8) ∧ 0 ≤ g ∧ g ≤ 3))
        case first =>
          go_wp2
          all_goals go_meet
          all_goals first
            | (refine ⟨_, rfl, rfl, fun h => ?_⟩; cases h; done)
            | (refine ⟨_, rfl, rfl, fun h => ?_⟩; simp at h; omega)
        case rest =>
          obtain ⟨z3, rfl, hw, h3⟩ := hcut
          obtain rfl := hw.symm
          cases z3
          · have H3 := Lib.hid (h3 rfl)
            clear h3
            go_upto_region 6 with fail
            go_cut [68] from 69 to 102 (fun s68 wc => ∃ r : Bool, s68 = .bool r ∧ wc = w0 ∧ (r = false → (g < 3 → rc = true ∧ rp = true) ∧ (g < 2 → rb = true) ∧ (g < 1 → ra = true)))
            case first =>
              go_wp2
              all_goals go_meet
              all_goals first
                | (refine ⟨_, rfl, rfl, fun h => ?_⟩; cases h; done)
                | (refine ⟨_, rfl, rfl, fun h => ⟨fun _ => ⟨?_, ?_⟩, fun _ => ?_, fun _ => ?_⟩⟩ <;> first | rfl | omega | (simp_all; done) | (simp at *; omega))
            case rest =>
              obtain ⟨z4, rfl, hw, h4⟩ := hcut
              obtain rfl := hw.symm
              cases z4
              · have H4 := Lib.hid (h4 rfl)
                clear h4
                go_upto_region 8 with fail
                cases rp
                · go_wp2_with (first
                    | (go_at_call 20; refine (H14.out _).mono ?_; rintro e w5 ⟨⟨r5, rfl, hr5⟩, hb⟩; have H5 := H0.trans (hb.mono H0.size); have q5 : w5.cell? ⟨T, 5, none⟩ = some (.string (bytesOf pre)) := (hb.cell (p := ⟨T, 5, none⟩) hTl).trans q5; have HR := Lib.hid hr5; clear hb hr5)
                    | (go_at_call 21; refine (H15.out _).mono ?_; rintro e w6 ⟨⟨r6, rfl⟩, hb⟩; have H6 := H5.trans (hb.mono H5.size); clear hb))
                  · go_ret
                    refine ⟨⟨_, rfl, fun _ => ⟨H3.out.1, H3.out.2, fun h => ?_, fun h => ?_, fun h => ?_, .inr (HR.out (by assumption))⟩⟩, H6⟩
                    · have h1 := H4.out.1 h
                      exact absurd h1.2 (by simp)
                    · have h1 := H4.out.2.1 h
                      have h2 := HZ.out.2.1
                      rw [h1] at h2
                      simp at h2; exact h2
                    · have h1 := H4.out.2.2 h
                      have h2 := HZ.out.1
                      rw [h1] at h2
                      simp at h2; exact h2
                  · go_ret
                    exact ⟨⟨_, rfl, fun h => by cases h⟩, H5⟩
                · go_wp2
                  go_ret
                  have hpre : pre = [] := by
                    have h2 := HZ.out.2.2.2
                    simpa using h2
                  refine ⟨⟨_, rfl, fun _ => ⟨H3.out.1, H3.out.2, fun h => ⟨?_, hpre⟩, fun h => ?_, fun h => ?_, .inl hpre⟩⟩, H0⟩
                  · have h1 := (H4.out.1 h).1
                    have h2 := HZ.out.2.2.1
                    rw [h1] at h2
                    simp at h2; exact h2
                  · have h1 := H4.out.2.1 h
                    have h2 := HZ.out.2.1
                    rw [h1] at h2
                    simp at h2; exact h2
                  · have h1 := H4.out.2.2 h
                    have h2 := HZ.out.1
                    rw [h1] at h2
                    simp at h2; exact h2
              · go_wp2
                go_ret
                exact ⟨⟨_, rfl, fun h => by cases h⟩, H0⟩
          · go_wp2
            go_ret
            exact ⟨⟨_, rfl, fun h => by cases h⟩, H0⟩
      · go_wp2
        go_ret
        exact ⟨⟨_, rfl, fun h => by cases h⟩, H0⟩
end Go.Proofs.YtnamjojceadgdaaGreatDoor.Sv
end
section
set_option linter.unusedVariables false
set_option linter.unusedSimpArgs false
/- lists of terms in memory; the guards of size; good terms -/
namespace Go.Proofs.YtnamjojceadgdaaGreatDoor.Sv
open Go Go.RowKit Rx
set_option maxRecDepth 100000
/-- a term's cells -/
def TermAt (W : World) (B o : Nat) (t : TV) : Prop := W.cell? ⟨B, o, none⟩ = some (.int .i64 t.op) ∧ W.cell? ⟨B, o + 1, none⟩ = some (.int .i64 t.g) ∧ W.cell? ⟨B, o + 2, none⟩ = some (.int .u64 t.a) ∧ W.cell? ⟨B, o + 3, none⟩ = some (.int .u64 t.b) ∧ W.cell? ⟨B, o + 4, none⟩ = some (.int .u64 t.c) ∧ W.cell? ⟨B, o + 5, none⟩ = some (.string (bytesOf t.pre))
theorem TermAt.keep {W W' : World} {B o n : Nat} {t : TV} (h : TermAt W B o t) (hB : B < n) (hb : Below n W W') : TermAt W' B o t := by
  have k : ∀ o x, W.cell? ⟨B, o, none⟩ = some x → W'.cell? ⟨B, o, none⟩ = some x := fun o x hx => (hb.cell (p := ⟨B, o, none⟩) hB).trans hx
  exact ⟨k _ _ h.1, k _ _ h.2.1, k _ _ h.2.2.1, k _ _ h.2.2.2.1, k _ _ h.2.2.2.2.1, k _ _ h.2.2.2.2.2⟩
/-- a list of terms that comes as an argument, in blocks below n -/
def RowIn (n : Nat) (W : World) (v : Value) (ts : List TV) : Prop := ∃ a cap, v = .slice a ts.length cap ∧ ∀ i t, ts[i]? = some t → ∃ B off, a = some ⟨B, off, none⟩ ∧ B < n ∧ TermAt W B (off + i * 6) t
theorem RowIn.keep {n : Nat} {W W' : World} {v : Value} {ts : List TV} (h : RowIn n W v ts) (hb : Below n W W') : RowIn n W' v ts := by
  obtain ⟨a, cap, e, h⟩ := h
  refine ⟨a, cap, e, fun i t ht => ?_⟩
  obtain ⟨B, off, e2, h1, h2⟩ := h i t ht
  exact ⟨B, off, e2, h1, h2.keep h1 hb⟩
theorem m13 (t : TV) (w : World) : Calls Tryz.prog 11 #[t.val] w fun e w' => OkB e (t.pre.length ≤ 2147483647) ∧ Below w.heap.size w w' := by
  obtain ⟨op, g, a, b, c, pre⟩ := t
  unfold TV.val
  have hsz := bytesOf_size pre
  have H0 := Lib.hid ((Below.refl _ w).alloc (Nat.le_refl _) (.cells #[.int .i64 op, .int .i64 g, .int .u64 a, .int .u64 b, .int .u64 c, .string (bytesOf pre)] 31))
  by_cases hr : (2147483647 : Int) < (pre.length : Int)
  · go_enter Tryz.func11, Tryz.ntmps11
    go_wp2
    go_ret
    exact ⟨⟨_, rfl, fun h => by cases h⟩, H0.out⟩
  · go_enter Tryz.func11, Tryz.ntmps11
    go_wp2
    go_ret
    exact ⟨⟨_, rfl, fun h => by omega⟩, H0.out⟩
set_option maxHeartbeats 4000000 in
theorem m8 (v : Value) (ts : List TV) (n : Nat) (w : World) (hnw : n ≤ w.heap.size) (h : RowIn n w v ts) : Calls Tryz.prog 4 #[v] w fun e w' => OkB e (ts.length ≤ 2147483647 ∧ ∀ t ∈ ts, t.pre.length ≤ 2147483647) ∧ Below w.heap.size w w' := by
  have H13 := Lib.hid m13
  obtain ⟨a, cap, rfl, hc⟩ := h
  have HC := Lib.hid (And.intro hc hnw)
  clear hc hnw
  by_cases hbig : (2147483647 : Int) < (ts.length : Int)
  · go_enter Tryz.func4, Tryz.ntmps4
    go_wp2
    go_ret
    exact ⟨⟨_, rfl, fun h => by cases h⟩, Below.refl _ _⟩
  · go_enter Tryz.func4, Tryz.ntmps4
    go_wp2
    go_loopw [10] (fun kv W => ∃ k : Nat, kv = .int .i64 k ∧ k ≤ ts.length ∧ Hid (Below w.heap.size w W ∧ ∀ j (h : j < ts.length), j < k → (ts[j]'h).pre.length ≤ 2147483647)) (fun kv _ => 3000000000 - (intOf kv).toNat)
    case atStart => exact ⟨0, rfl, Nat.zero_le _, Lib.hid ⟨Below.refl _ _, fun j h h' => by omega⟩⟩
    case round =>
      obtain ⟨k, rfl, hk, HW⟩ := hrel
      by_cases c : k < ts.length
      · have c1 : (k : Int) < (ts.length : Int) := by omega
        obtain ⟨t, ht⟩ : ∃ t, ts[k]'c = t := ⟨_, rfl⟩
        obtain ⟨B, off, rfl, hB, hq⟩ := HC.out.1 k t (by rw [List.getElem?_eq_getElem c, ht])
        obtain ⟨q0, q1, q2, q3, q4, q5⟩ := hq.keep (Nat.lt_of_lt_of_le hB HC.out.2) HW.out.1
        have H := Lib.hid (fun w => H13.out t w)
        unfold TV.val at H
        have HT := Lib.hid ht
        clear ht hq
        obtain ⟨op, g, a, b, cc, pre⟩ := t
        simp only at *
        go_wp2_with (go_at_call 11; refine (H.out _).mono ?_; rintro e w2 ⟨⟨r, rfl, hr⟩, hb⟩; have HB := Lib.hid (And.intro hr (((HW.out.1.alloc HW.out.1.size _)).trans (hb.mono (by have := HW.out.1.size; simp; omega)))); clear hr hb)
        all_goals first
          | (go_ret; exact ⟨⟨_, rfl, fun h => by cases h⟩, HB.out.2⟩)
          | skip
        refine ⟨⟨k + 1, rfl, by omega, Lib.hid ⟨HB.out.2, fun j h h' => ?_⟩⟩, by simp [intOf]; omega⟩
        by_cases hj : j = k
        · subst hj; rw [HT.out]; exact HB.out.1 (by simp_all)
        · exact HW.out.2 j h (by omega)
      · have c1 : ¬ (k : Int) < (ts.length : Int) := by omega
        go_wp2
        go_ret
        refine ⟨⟨_, rfl, fun _ => ⟨by omega, fun t ht => ?_⟩⟩, HW.out.1⟩
        obtain ⟨j, hj, rfl⟩ := List.getElem_of_mem ht
        exact HW.out.2 j hj (by omega)
/-- lists of lists of terms that come as an argument -/
def ConIn (n : Nat) (W : World) (v : Value) (C : List (List TV)) : Prop := ∃ a cap, v = .slice a C.length cap ∧ ∀ i r, C[i]? = some r → ∃ B off u, a = some ⟨B, off, none⟩ ∧ B < n ∧ W.cell? ⟨B, off + i, none⟩ = some u ∧ RowIn n W u r
theorem ConIn.keep {n : Nat} {W W' : World} {v : Value} {C : List (List TV)} (h : ConIn n W v C) (hb : Below n W W') : ConIn n W' v C := by
  obtain ⟨a, cap, e, h⟩ := h
  refine ⟨a, cap, e, fun i t ht => ?_⟩
  obtain ⟨B, off, u, e2, h1, h2, h3⟩ := h i t ht
  exact ⟨B, off, u, e2, h1, (hb.cell (p := ⟨B, off + i, none⟩) h1).trans h2, h3.keep hb⟩
def ShortC (C : List (List TV)) : Prop := C.length ≤ 2147483647 ∧ ∀ r ∈ C, r.length ≤ 2147483647 ∧ ∀ t ∈ r, t.pre.length ≤ 2147483647
end Go.Proofs.YtnamjojceadgdaaGreatDoor.Sv
end
section
set_option linter.unusedVariables false
set_option linter.unusedSimpArgs false
/- good lists of terms -/
namespace Go.Proofs.YtnamjojceadgdaaGreatDoor.Sv
open Go Go.RowKit Rx
set_option maxRecDepth 100000
def sumL (C : List (List TV)) : Nat := (C.map List.length).sum
structure GoodC (most : Nat) (C : List (List TV)) : Prop where
  pos : C ≠ []
  sum : sumL C ≤ most
  row : ∀ r ∈ C, r ≠ [] ∧ ∀ t ∈ r, t.Good
theorem sumL_take {C : List (List TV)} {k : Nat} (h : k < C.length) : sumL (C.take (k + 1)) = sumL (C.take k) + (C[k]'h).length := by
  unfold sumL
  rw [List.take_succ_eq_append_getElem h]
  simp only [List.map_append, List.sum_append, List.map_cons, List.map_nil, List.sum_cons, List.sum_nil, Nat.add_zero]
set_option maxHeartbeats 8000000 in
theorem m5 (most : Nat) (hmo : most ≤ 1000) (v : Value) (C : List (List TV)) (n : Nat) (w : World) (hnw : n ≤ w.heap.size) (h : ConIn n w v C) (hS : ShortC C) : Calls Tryz.prog 19 #[v, .int .i64 most] w fun e w' => OkB e (GoodC most C) ∧ Below w.heap.size w w' := by
  have H9 := Lib.hid m9
  obtain ⟨a, cap, rfl, hc⟩ := h
  have HC := Lib.hid (And.intro hc hnw)
  have HS := Lib.hid hS
  have hcl : (C.length : Int) ≤ 2147483647 := by have := hS.1; omega
  have hmi : (most : Int) ≤ 1000 := by omega
  clear hc hnw hS
  go_enter Tryz.func19, Tryz.ntmps19
  go_wp2
  go_loopw [5, 12] (fun nv kv W => ∃ k m : Nat, kv = .int .i64 k ∧ nv = .int .i64 m ∧ k ≤ C.length ∧ m ≤ most ∧ Hid (Below w.heap.size w W ∧ m = sumL (C.take k) ∧ (0 < k → 0 < m) ∧ ∀ j (h : j < C.length), j < k → C[j]'h ≠ [] ∧ ∀ t ∈ C[j]'h, t.Good)) (fun _ kv _ => 3000000000 - (intOf kv).toNat)
  case atStart => exact ⟨0, 0, rfl, rfl, Nat.zero_le _, Nat.zero_le _, Lib.hid ⟨Below.refl _ _, by simp [sumL], fun h => by omega, fun j h h' => by omega⟩⟩
  case round =>
    obtain ⟨k, m, rfl, rfl, hk, hm, HW⟩ := hrel
    by_cases c : k < C.length
    · have c1 : (k : Int) < (C.length : Int) := by omega
      obtain ⟨r, hr⟩ : ∃ r, C[k]'c = r := ⟨_, rfl⟩
      obtain ⟨B, off, u, rfl, hB, hq, hrow⟩ := HC.out.1 k r (by rw [List.getElem?_eq_getElem c, hr])
      have hbn : Below n w wr := HW.out.1.mono HC.out.2
      have q0 : wr.cell? ⟨B, off + k, none⟩ = some u := (hbn.cell (p := ⟨B, off + k, none⟩) hB).trans hq
      obtain ⟨ua, uc, hu, hcells⟩ := hrow
      subst hu
      have hsh := HS.out.2 r (by rw [← hr]; exact List.getElem_mem c)
      have hrl : (r.length : Int) ≤ 2147483647 := by have := hsh.1; omega
      have HR := Lib.hid (And.intro hr (And.intro hcells hsh))
      clear hr hq hbn hcells hsh
      go_upto_region 5 with fail
      go_wp2
      go_loopw [18] (fun iv W => ∃ i : Nat, iv = .int .i64 i ∧ i ≤ r.length ∧ Hid (Below w.heap.size w W ∧ ∀ j (h : j < r.length), j < i → (r[j]'h).Good)) (fun iv _ => 3000000000 - (intOf iv).toNat)
      case atStart => exact ⟨0, rfl, Nat.zero_le _, Lib.hid ⟨HW.out.1, fun j h h' => by omega⟩⟩
      case round =>
        obtain ⟨i, rfl, hi, HI⟩ := hrel
        by_cases d : i < r.length
        · have d1 : (i : Int) < (r.length : Int) := by omega
          obtain ⟨t, ht⟩ : ∃ t, r[i]'d = t := ⟨_, rfl⟩
          obtain ⟨B2, o2, rfl, hB2, hq2⟩ := HR.out.2.1 i t (by rw [List.getElem?_eq_getElem d, ht])
          obtain ⟨q0, q1, q2, q3, q4, q5⟩ := hq2.keep (Nat.lt_of_lt_of_le hB2 HC.out.2) HI.out.1
          have H := Lib.hid (fun w => H9.out t (HR.out.2.2.2 t (by rw [← ht]; exact List.getElem_mem d)) w)
          unfold TV.val at H
          have HT := Lib.hid ht
          clear ht hq2
          obtain ⟨op, g, a, b, cc, pre⟩ := t
          simp only at *
          go_wp2_with (go_at_call 34; refine (H.out _).mono ?_; rintro e w2 ⟨⟨r9, rfl, hr9⟩, hb⟩; have HB := Lib.hid (And.intro hr9 (((HI.out.1.alloc HI.out.1.size _)).trans (hb.mono (by have := HI.out.1.size; simp; omega)))); clear hr9 hb)
          all_goals first
            | (go_ret; exact ⟨⟨_, rfl, fun h => by cases h⟩, HB.out.2⟩)
            | skip
          refine ⟨⟨i + 1, rfl, by omega, Lib.hid ⟨HB.out.2, fun j h h' => ?_⟩⟩, by simp [intOf]; omega⟩
          by_cases hj : j = i
          · subst hj; rw [HT.out]; exact HB.out.1 (by simp_all)
          · exact HI.out.2 j h (by omega)
        · have d1 : ¬ (i : Int) < (r.length : Int) := by omega
          have hgood : ∀ t ∈ r, t.Good := fun t ht => by
            obtain ⟨j, hj, rfl⟩ := List.getElem_of_mem ht
            exact HI.out.2 j hj (by omega)
          have HG := Lib.hid hgood
          clear hgood
          by_cases e0 : r.length = 0
          · have e0' : ((r.length : Int) == 0) = true := by rw [beq_iff_eq]; omega
            clear e0
            go_wp2
            all_goals first
              | (go_ret; exact ⟨⟨_, rfl, fun h => by cases h⟩, HI.out.1⟩)
          · have e0' : ((r.length : Int) == 0) = false := by rw [beq_eq_false_iff_ne]; omega
            have E0 := Lib.hid e0
            clear e0
            by_cases e1 : m + r.length ≤ most
            · have e1' : ¬ (most : Int) < (m : Int) + (r.length : Int) := by omega
              go_wp2
              refine ⟨⟨k + 1, m + r.length, rfl, by simp, by omega, e1, Lib.hid ⟨HI.out.1, ?_, fun _ => by have := E0.out; omega, fun j h h' => ?_⟩⟩, by simp [intOf]; omega⟩
              · rw [sumL_take c, HR.out.1, HW.out.2.1]
              · by_cases hj : j = k
                · subst hj
                  rw [HR.out.1]
                  exact ⟨fun e => E0.out (by rw [e]; rfl), HG.out⟩
                · exact HW.out.2.2.2 j h (by omega)
            · have e1' : (most : Int) < (m : Int) + (r.length : Int) := by omega
              go_wp2
              go_ret
              exact ⟨⟨_, rfl, fun h => by cases h⟩, HI.out.1⟩
    · have c1 : ¬ (k : Int) < (C.length : Int) := by omega
      have hk2 : k = C.length := by omega
      have HK := Lib.hid hk2
      clear hk2
      go_wp2
      go_ret
      refine ⟨⟨_, rfl, fun h => ?_⟩, HW.out.1⟩
      have h0 : 0 < m := by simp at h; omega
      obtain ⟨h1, h2, h3, h4⟩ := HW.out
      have h5 := HK.out
      refine ⟨fun e => ?_, ?_, fun x hx => ?_⟩
      · subst e
        simp [sumL] at h2
        omega
      · rw [h5, List.take_length] at h2
        omega
      · obtain ⟨j, hj, rfl⟩ := List.getElem_of_mem hx
        exact h4 j hj (by omega)
end Go.Proofs.YtnamjojceadgdaaGreatDoor.Sv
end
section
set_option linter.unusedVariables false
set_option linter.unusedSimpArgs false
/- the writer's choices; an operator's spellings -/
namespace Go.Proofs.YtnamjojceadgdaaGreatDoor.Sv
open Go Go.RowKit Rx
set_option maxRecDepth 100000
theorem m16 (x : Int) (w : World) : Calls Tryz.prog 38 #[.int .u64 x] w fun e w' => e = .returned (.pointer (some ⟨w.heap.size, 0, none⟩)) ∧ w' = w.alloc (.cells #[.int .u64 x] 116) := by
  go_enter Tryz.func38, Tryz.ntmps38
  go_wp2
  go_ret
  exact ⟨rfl, rfl⟩
theorem m17 (S : Nat) (x : Int) (n : Nat) (hn : 0 < n) (hn8 : n ≤ 8) (w : World) (hS : w.heap[S]? = some (.cells #[.int .u64 x] 116 (0, 0))) :
    Calls Tryz.prog 39 #[.pointer (some ⟨S, 0, none⟩), .int .i64 n] w fun e w' => ∃ (r : Nat) (y : Int), e = .returned (.int .i64 r) ∧ r < n ∧ w' = w.setCell ⟨S, 0, none⟩ (.int .u64 y) := by
  have q0 := cell_of_row _ _ 0 _ _ _ hS
  have fz := fun k => frozen_of_row _ _ k _ _ hS
  simp at q0
  go_enter Tryz.func39, Tryz.ntmps39
  go_wp2
  have hY : ∀ z : Int, 0 ≤ IntKind.u64.wrap z ∧ IntKind.u64.wrap z < 18446744073709551616 := fun z => by
    have e : IntKind.u64.bits = 64 := rfl
    unfold IntKind.wrap; simp [e, IntKind.signed]; omega
  have hy := hY (IntKind.u64.wrap (x * 6364136223846793005) + 1442695040888963407)
  generalize IntKind.u64.wrap (IntKind.u64.wrap (x * 6364136223846793005) + 1442695040888963407) = Y at *
  have hq : 0 ≤ Y / 2305843009213693952 ∧ Y / 2305843009213693952 < 8 := by omega
  generalize Y / 2305843009213693952 = q at *
  have hw : wrap64 q = q := by unfold wrap64; omega
  rw [hw]
  have ht : q.tmod (n : Int) = q % (n : Int) := Int.tmod_eq_emod_of_nonneg hq.1
  have h1 := Int.emod_nonneg q (show (n : Int) ≠ 0 by omega)
  have h2 := Int.emod_lt_of_pos q (show (0 : Int) < n by omega)
  obtain ⟨r, hr⟩ : ∃ r : Nat, q % (n : Int) = r := ⟨(q % (n : Int)).toNat, by omega⟩
  rw [ht, hr]
  go_ret
  exact ⟨r, Y, rfl, by omega, rfl⟩
/-- an operator's spellings -/
def spell (op : Int) : List Bs := if op = 0 then [[], [61]] else if op = 1 then [[33, 61]] else if op = 2 then [[62]] else if op = 3 then [[60]] else if op = 4 then [[62, 61], [61, 62]] else if op = 5 then [[60, 61], [61, 60]] else if op = 6 then [[126], [126, 62]] else [[94]]
theorem m50 (op : Int) (h0 : 0 ≤ op) (h8 : op < 8) (w : World) : Calls Tryz.prog 89 #[.int .i64 op] w fun e w' => e = .returned (.slice (some ⟨w.heap.size, 0, none⟩) (spell op).length (spell op).length) ∧ w' = w.alloc (.cells ((spell op).map fun s => Value.string (bytesOf s)).toArray 9) := by
  have h : op = 0 ∨ op = 1 ∨ op = 2 ∨ op = 3 ∨ op = 4 ∨ op = 5 ∨ op = 6 ∨ op = 7 := by omega
  rcases h with rfl | rfl | rfl | rfl | rfl | rfl | rfl | rfl
  all_goals go_enter Tryz.func89, Tryz.ntmps89
  all_goals go_wp2
  all_goals go_ret
  all_goals exact ⟨rfl, rfl⟩
theorem spell_ok {op : Int} {s : Bs} (h : s ∈ spell op) : s ∈ opTexts := by
  unfold spell at h
  split at h
  · simp at h; rcases h with rfl | rfl <;> simp [opTexts]
  split at h
  · simp at h; subst h; simp [opTexts]
  split at h
  · simp at h; subst h; simp [opTexts]
  split at h
  · simp at h; subst h; simp [opTexts]
  split at h
  · simp at h; rcases h with rfl | rfl <;> simp [opTexts]
  split at h
  · simp at h; rcases h with rfl | rfl <;> simp [opTexts]
  split at h
  · simp at h; rcases h with rfl | rfl <;> simp [opTexts]
  · simp at h; subst h; simp [opTexts]
end Go.Proofs.YtnamjojceadgdaaGreatDoor.Sv
end
section
set_option linter.unusedVariables false
set_option linter.unusedSimpArgs false
/- numbers in decimal -/
namespace Go.Proofs.YtnamjojceadgdaaGreatDoor.Sv
open Go Go.RowKit Rx
set_option maxRecDepth 100000
def bOf (b : List UInt8) : ByteArray := ⟨b.toArray⟩
theorem bOf_app (x y : List UInt8) : bOf x ++ bOf y = bOf (x ++ y) := by
  apply ByteArray.ext
  simp [bOf]
theorem bOf_size (x : List UInt8) : (bOf x).size = x.length := by simp [bOf, ByteArray.size]
theorem conv1 (c : Nat) (hc : c < 256) (W : World) (N : Nat) (h : W.cell? ⟨N, 0, none⟩ = some (.int .u8 (c : Int))) : (convert 99 9 (.slice (some ⟨N, 0, none⟩) 1 1)).run Tryz.prog W = .ok (.string (bOf [UInt8.ofNat c])) W := by
  have hu : (UInt8.ofNat c).toNat = c := by simp; omega
  refine run_convert_bytes_back (P := Tryz.prog) W 99 9 5 ⟨N, 0, none⟩ 1 [UInt8.ofNat c] Tryz.underlying99 Tryz.underlying5 Tryz.underlying9 (fun j hj => ?_)
  have : j = 0 := by simp at hj; exact hj
  subst this
  simp only [List.getElem_cons_zero, hu]
  exact h
theorem dec_len (u : Nat) (hu : u < 18446744073709551616) : (Lib.decDigits u).length ≤ 20 := by
  rw [Lib.decDigits_length]
  by_cases h : u = 0
  · subst h; rw [Lib.nDigits]; decide
  · have := Lib.numDigits_eq u (by omega) hu; split at this <;> omega
set_option maxHeartbeats 1000000 in
theorem jDec : ∀ (n u : Nat), u ≤ n → u < 18446744073709551616 → ∀ w : World, Calls Tryz.prog 106 #[.int .u64 u] w fun e w' => e = .returned (.string (bOf (Lib.decDigits u))) ∧ Below w.heap.size w w' := by
  have small : ∀ u : Nat, u < 10 → ∀ w : World, Calls Tryz.prog 106 #[.int .u64 u] w fun e w' => e = .returned (.string (bOf (Lib.decDigits u))) ∧ Below w.heap.size w w' := by
    intro u h w
    have k1 : (u : Int) < 10 := by omega
    obtain ⟨c, hc⟩ : ∃ c, c = 48 + u := ⟨_, rfl⟩
    have hcv := conv1 c (by omega) (w.alloc (.cells #[.int .u8 (c : Int)] 5)) w.heap.size (by rw [cell_of_row _ _ _ _ _ _ (heap_alloc_new w _)]; simp)
    have hs : (48 + (u : Int)) = (c : Int) := by omega
    have hd : Lib.decDigits u = [UInt8.ofNat c] := by rw [hc]; exact Lib.decDigits_one h
    rw [hd]
    clear hd h hc
    go_enter Tryz.func106, Tryz.ntmps106
    go_wp2
    go_ret
    exact ⟨rfl, (Below.refl _ w).alloc (Nat.le_refl _) _⟩
  intro n
  induction n with
  | zero => intro u hn hu w; exact small u (by omega) w
  | succ n ih =>
    intro u hn hu w
    by_cases h : u < 10
    · exact small u h w
    · have k1 : ¬ (u : Int) < 10 := by omega
      have H := Lib.hid (ih (u / 10) (by omega) (by omega))
      have hl := dec_len (u / 10) (by omega)
      have z1 : (bOf (Lib.decDigits (u / 10))).size < 100 := by rw [bOf_size]; omega
      have hd : Lib.decDigits u = Lib.decDigits (u / 10) ++ [UInt8.ofNat (48 + u % 10)] := by conv => lhs; rw [Lib.decDigits, dif_neg h]
      rw [hd, ← bOf_app]
      generalize Lib.decDigits (u / 10) = D at *
      obtain ⟨d, hd0⟩ : ∃ d, d = u % 10 := ⟨_, rfl⟩
      have hd1 : d < 10 := by omega
      have t1 : (u : Int).tdiv 10 = ((u / 10 : Nat) : Int) := by rw [Int.tdiv_eq_ediv_of_nonneg (by omega)]; omega
      have t2 : (u : Int).tmod 10 = (d : Int) := by rw [Int.tmod_eq_emod_of_nonneg (by omega)]; omega
      rw [← hd0]
      have t3 : IntKind.u8.wrap (d : Int) = (d : Int) := by
        have e : IntKind.u8.bits = 8 := rfl
        unfold IntKind.wrap; simp [e, IntKind.signed]; omega
      have t4 : IntKind.u8.wrap (48 + (d : Int)) = ((48 + d : Nat) : Int) := by
        have e : IntKind.u8.bits = 8 := rfl
        unfold IntKind.wrap; simp [e, IntKind.signed]; omega
      obtain ⟨c, hc⟩ : ∃ c, c = 48 + d := ⟨_, rfl⟩
      rw [← hc] at t4 ⊢
      have hcv := conv1 c (by omega)
      have z2 : (bOf [UInt8.ofNat c]).size < 100 := by rw [bOf_size]; simp
      have t5 : IntKind.u64.wrap ((u / 10 : Nat) : Int) = ((u / 10 : Nat) : Int) := by
        have e : IntKind.u64.bits = 64 := rfl
        unfold IntKind.wrap; simp [e, IntKind.signed]; omega
      obtain ⟨q, hq⟩ : ∃ q, q = u / 10 := ⟨_, rfl⟩
      rw [← hq] at t1 t5 H
      clear hd hl hd0 hd1 hc ih small hq hn hu h
      go_enter Tryz.func106, Tryz.ntmps106
      go_upto_region 3 with fail
      go_region_with (go_at_call 106; refine (H.out _).mono ?_; rintro e w1 ⟨rfl, hb⟩; obtain ⟨hcc, hff⟩ := bcell hb)
      all_goals go_wp2
      all_goals go_ret
      all_goals refine ⟨rfl, ?_⟩
      all_goals first
        | exact ((Below.refl w.heap.size w).drew.trans hb).alloc hb.size _
        | exact (((Below.refl _ w).drew).alloc (Nat.le_refl _) _).trans (hb.mono (by simp))
end Go.Proofs.YtnamjojceadgdaaGreatDoor.Sv
end
section
set_option linter.unusedVariables false
set_option linter.unusedSimpArgs false
/- NewVersion of any good version's text -/
namespace Go.Proofs.YtnamjojceadgdaaGreatDoor.Sv
open Go Go.RowKit Rx
set_option maxRecDepth 100000
set_option maxHeartbeats 4000000 in
theorem tCoerceG (x : Ver) (hx : x.Ok dB iB) (r2 r3 : Bs) (h2 : x.p2 = some r2) (h3 : x.p3 = some r3) (hpre : gpre x.pre = [] ∨ PreOk (gpre x.pre)) (hmeta : gpre x.meta_ = [] ∨ ∀ i ∈ idents (gpre x.meta_), okPart iB i) (a b c : Nat) (ha : Lib.parseUintB 64 x.p1 = .ok a) (hb : Lib.parseUintB 64 r2 = .ok b) (hc : Lib.parseUintB 64 r3 = .ok c)
    (hl : x.text.length ≤ 256) (w : World) (hT : Lib.Utf8Tabs 11 12 w) :
    Calls Tryz.prog 74 #[.string (bytesOf x.text)] w fun e w' => ∃ V, e = .returned (.tuple #[.pointer (some ⟨V, 0, none⟩), .nilIface]) ∧ w.heap.size ≤ V ∧ VerAt w' V a b c (gpre x.pre) (gpre x.meta_) x.text ∧ Below w.heap.size w w' := by
  have hlen : x.p1.length + (r2.length + 1 + (r3.length + 1)) ≤ x.text.length := by
    rw [Ver.text, h2, h3]; simp [ptext]; omega
  have hl5 : (gpre x.pre).length ≤ 1000 := by
    have : (gpre x.pre).length ≤ (gtext 45 x.pre).length := by
      cases x.pre with
      | none => simp [gpre]
      | some y => obtain ⟨y, l⟩ := y; simp [gpre, gtext]
    have : (gtext 45 x.pre).length ≤ x.text.length := by rw [Ver.text]; simp; omega
    omega
  have hl8 : (gpre x.meta_).length ≤ 1000 := by
    have : (gpre x.meta_).length ≤ (gtext 43 x.meta_).length := by
      cases x.meta_ with
      | none => simp [gpre]
      | some y => obtain ⟨y, l⟩ := y; simp [gpre, gtext]
    have : (gtext 43 x.meta_).length ≤ x.text.length := by rw [Ver.text]; simp; omega
    omega
  unfold VerAt
  have H61 := Lib.hid (fun (w : World) (R PB IB icap : Nat) (hp : PG w R PB IB icap looseT) (hr : RH w R PB 4 1 20 1 9) (hT : Lib.Utf8Tabs 11 12 w) => looseM (s := bytesOf x.text) hp hr hT (by rw [bytesOf_size]; omega) hx rfl)
  have HA := Lib.hid (fun w => tParse a x.p1 ha (by omega) w)
  have HB := Lib.hid (fun w => tParse b r2 hb (by omega) w)
  have HC := Lib.hid (fun w => tParse c r3 hc (by omega) w)
  have HT := Lib.hid hT
  have HTa := Lib.hid (fun w => tTrimDot (46 :: r2) (.inr ⟨_, rfl⟩) (by simp; omega) w)
  have HTb := Lib.hid (fun w => tTrimDot (46 :: r3) (.inr ⟨_, rfl⟩) (by simp; omega) w)
  have q := q52
  rw [h2, h3] at H61
  have HPR := Lib.hid (And.intro hpre (And.intro hl5 (And.intro hmeta hl8)))
  clear hx h2 h3 hpre hmeta ha hb hc hT hlen hl hl5 hl8
  generalize bytesOf x.text = s at *
  generalize x.p1 = r1 at *
  generalize gpre x.pre = P5 at *
  generalize gpre x.meta_ = P8 at *
  go_enter Tryz.func74, Tryz.ntmps74
  go_wp2_with (first
    | (go_at_call 98; refine (t107 w).mono ?_; rintro e w1 ⟨R, PB, IB, icap, rfl, hp, hr, hb⟩; have HP := Lib.hid (And.intro hp (And.intro hr (And.intro (Utf8Tabs_below HT.out hb) hb))); clear hp hr hb)
    | (go_at_call 50; refine (H61.out _ _ _ _ _ HP.out.1 HP.out.2.1 HP.out.2.2.1).mono ?_; rintro e w2 ⟨hb2, f, ⟨bp, rfl, h1, h2⟩, e1, e2, e3, e5, e8⟩; have c1 := piece_cell h2 1 (by decide); have c2 := piece_cell h2 2 (by decide); have c3 := piece_cell h2 3 (by decide); have c5 := piece_cell h2 5 (by decide); have c8 := piece_cell h2 8 (by decide); rw [e1] at c1; rw [e2] at c2; rw [e3] at c3; rw [e5] at c5; rw [e8] at c8; have HB2 := Lib.hid (And.intro h1 (And.intro h2 (HP.out.2.2.2.trans (hb2.mono HP.out.2.2.2.size)))); clear hb2 h1 h2 e1 e2 e3 e5 e8))
  go_region
  have hst : VAt w w2.heap.size bp #[.int .u64 0, .int .u64 0, .int .u64 0, .string (bytesOf P5), .string (bytesOf P8), .string s] (strs ((List.range 10).map f)) ((w2.alloc (.cells #[.int .u64 0, .int .u64 0, .int .u64 0, .string (bytesOf P5), .string (bytesOf P8), .string s] 71)).drew) := by
    obtain ⟨k1, k2, k3⟩ := HB2.out
    refine ⟨heap_alloc_new w2 _, (Below.heap_alloc w2 _ bp (Array.getElem?_eq_some_iff.1 k2).1).trans k2, (k3.alloc k3.size _).drew, k3.size⟩
  have e1 : (strs ((List.range 10).map f))[1]? = some (.string (bytesOf r1)) := by rw [← c1, cell_of_row _ _ _ _ _ _ HB2.out.2.1]
  have e2 : (strs ((List.range 10).map f))[2]? = some (.string (bytesOf (ptext (some r2)))) := by rw [← c2, cell_of_row _ _ _ _ _ _ HB2.out.2.1]
  have e3 : (strs ((List.range 10).map f))[3]? = some (.string (bytesOf (ptext (some r3)))) := by rw [← c3, cell_of_row _ _ _ _ _ _ HB2.out.2.1]
  have HE := Lib.hid (And.intro e1 (And.intro e2 e3))
  clear c1 c2 c3 c5 c8 e1 e2 e3
  generalize (w2.alloc (.cells #[.int .u64 0, .int .u64 0, .int .u64 0, .string (bytesOf P5), .string (bytesOf P8), .string s] 71)).drew = W3 at *
  generalize strs ((List.range 10).map f) = ps at *
  generalize w2.heap.size = V at *
  have HS := Lib.hid hst
  have c1 := hst.piece 1 _ HE.out.1
  clear hst
  go_upto_region 9 with (first
    | (go_at_call 80; refine (HA.out _).mono ?_; rintro e w4 ⟨rfl, hb4⟩; have hst4 := HS.out.keep hb4; have HS4 := Lib.hid hst4; have v0 := hst4.cell 0 _ rfl; have fz0 := hst4.fz 0; clear hb4 hst4)
    | go_in)
  have HS := Lib.hid (HS4.out.store 0 (.int .u64 a))
  clear HS4 v0 fz0 c1
  generalize w4.setCell ⟨V, 0, none⟩ (.int .u64 a) = W5 at *
  have c1 := HS.out.piece 2 _ HE.out.2.1
  simp only [ptext] at c1
  have n1 := bytesOf_toList (46 :: r2)
  go_upto_region 14 with (first
    | (go_at_call 52; refine (HTa.out _).mono ?_; rintro e w6 ⟨rfl, hw⟩; subst hw; rw [show (46 :: r2 : Bs).tail = r2 from rfl])
    | (go_at_call 80; refine (HB.out _).mono ?_; rintro e w4 ⟨rfl, hb4⟩; have hst4 := HS.out.keep hb4; have HS4 := Lib.hid hst4; have v0 := hst4.cell 1 _ rfl; have fz0 := hst4.fz 1; clear hb4 hst4)
    | go_in)
  have HS := Lib.hid (HS4.out.store 1 (.int .u64 b))
  clear HS4 v0 fz0 c1 n1
  generalize w4.setCell ⟨V, 1, none⟩ (.int .u64 b) = W6 at *
  have c1 := HS.out.piece 3 _ HE.out.2.2
  simp only [ptext] at c1
  have n1 := bytesOf_toList (46 :: r3)
  go_upto_region 19 with (first
    | (go_at_call 52; refine (HTb.out _).mono ?_; rintro e w6 ⟨rfl, hw⟩; subst hw; rw [show (46 :: r3 : Bs).tail = r3 from rfl])
    | (go_at_call 80; refine (HC.out _).mono ?_; rintro e w4 ⟨rfl, hb4⟩; have hst4 := HS.out.keep hb4; have HS4 := Lib.hid hst4; have v0 := hst4.cell 2 _ rfl; have fz0 := hst4.fz 2; clear hb4 hst4)
    | go_in)
  have HS := Lib.hid (HS4.out.store 2 (.int .u64 c))
  clear HS4 v0 fz0 c1 n1
  generalize w4.setCell ⟨V, 2, none⟩ (.int .u64 c) = W7 at *
  have v3 : W7.cell? ⟨V, 3, none⟩ = some (.string (bytesOf P5)) := HS.out.cell 3 _ rfl
  have v4 : W7.cell? ⟨V, 4, none⟩ = some (.string (bytesOf P8)) := HS.out.cell 4 _ rfl
  have n5 := bytesOf_toList P5
  have n8 := bytesOf_toList P8
  have nE : ∀ {P : Bs}, (∀ i ∈ idents P, okPart iB i) → (P == ([] : Bs)) = false := fun {P} h => by
    cases P with
    | nil => exact absurd rfl (h [] (by simp [idents])).1
    | cons y l => rfl
  obtain ⟨g5, ln5, g8, ln8⟩ := HPR.out
  rcases g5 with rfl | g5 <;> rcases g8 with rfl | g8
  · skip
    go_wp2_with (first
      | go_in)
    go_ret2
    exact ⟨V, rfl, HS.out.h, HS.out.v, HS.out.b⟩
  · have d8 := nE g8
    have HP8 := Lib.hid (fun w => k90 P8 ln8 g8 w)
    clear g8 ln8 ln5 nE HPR
    go_wp2_with (first
      | (go_at_call 77; refine (HP8.out _).mono ?_; rintro e w9 ⟨rfl, hb⟩; have hst := HS.out.keep hb; clear v3 v4 HS; have HS := Lib.hid hst; clear hb hst)
      | go_in)
    go_ret2
    exact ⟨V, rfl, HS.out.h, HS.out.v, HS.out.b⟩
  · have d5 := nE (fun i hi => (g5 i hi).1)
    have HP5 := Lib.hid (fun w => k91 P5 ln5 g5 w)
    clear g5 ln8 ln5 nE HPR
    go_wp2_with (first
      | (go_at_call 78; refine (HP5.out _).mono ?_; rintro e w8 ⟨rfl, hb⟩; have hst := HS.out.keep hb; clear v3 v4 HS; have HS := Lib.hid hst; have v3 : w8.cell? ⟨V, 3, none⟩ = some (.string (bytesOf P5)) := hst.cell 3 _ rfl; have v4 : w8.cell? ⟨V, 4, none⟩ = some (.string (bytesOf [])) := hst.cell 4 _ rfl; clear hb hst)
      | go_in)
    go_ret2
    exact ⟨V, rfl, HS.out.h, HS.out.v, HS.out.b⟩
  · have d5 := nE (fun i hi => (g5 i hi).1)
    have HP5 := Lib.hid (fun w => k91 P5 ln5 g5 w)
    have d8 := nE g8
    have HP8 := Lib.hid (fun w => k90 P8 ln8 g8 w)
    clear g5 g8 ln8 ln5 nE HPR
    go_wp2_with (first
      | (go_at_call 78; refine (HP5.out _).mono ?_; rintro e w8 ⟨rfl, hb⟩; have hst := HS.out.keep hb; clear v3 v4 HS; have HS := Lib.hid hst; have v3 : w8.cell? ⟨V, 3, none⟩ = some (.string (bytesOf P5)) := hst.cell 3 _ rfl; have v4 : w8.cell? ⟨V, 4, none⟩ = some (.string (bytesOf P8)) := hst.cell 4 _ rfl; clear hb hst)
      | (go_at_call 77; refine (HP8.out _).mono ?_; rintro e w9 ⟨rfl, hb⟩; have hst := HS.out.keep hb; clear v3 v4 HS; have HS := Lib.hid hst; clear hb hst)
      | go_in)
    go_ret2
    exact ⟨V, rfl, HS.out.h, HS.out.v, HS.out.b⟩
theorem tNewVerG (x : Ver) (hx : x.Ok dB iB) (r2 r3 : Bs) (h2 : x.p2 = some r2) (h3 : x.p3 = some r3) (hpre : gpre x.pre = [] ∨ PreOk (gpre x.pre)) (hmeta : gpre x.meta_ = [] ∨ ∀ i ∈ idents (gpre x.meta_), okPart iB i) (a b c : Nat) (ha : Lib.parseUintB 64 x.p1 = .ok a) (hb : Lib.parseUintB 64 r2 = .ok b) (hc : Lib.parseUintB 64 r3 = .ok c)
    (hl : x.text.length ≤ 256) : Reads x.text a b c (gpre x.pre) (gpre x.meta_) := fun w hT => by
  have H := Lib.hid (tCoerceG x hx r2 r3 h2 h3 hpre hmeta a b c ha hb hc hl w hT)
  have k1 : ¬ (256 : Int) < ((bytesOf x.text).size : Int) := by rw [bytesOf_size]; omega
  clear hx h2 h3 hpre hmeta ha hb hc hl hT
  unfold VerAt at *
  generalize bytesOf x.text = s at *
  go_enter Tryz.func53, Tryz.ntmps53
  go_wp2_with (go_at_call 74; refine H.out.mono ?_; rintro e w1 ⟨V, rfl, h1, h2, h3⟩; have HV := Lib.hid (And.intro h1 (And.intro h2 h3)); clear h1 h2 h3)
  go_ret2
  exact ⟨V, rfl, HV.out⟩
end Go.Proofs.YtnamjojceadgdaaGreatDoor.Sv
end
section
set_option linter.unusedVariables false
set_option linter.unusedSimpArgs false
/- terms in any of their ways -/
namespace Go.Proofs.YtnamjojceadgdaaGreatDoor.Sv
open Go Go.RowKit Rx
set_option maxRecDepth 100000
structure GT where
  op : Bs
  blank : Bs
  g : Nat
  v : Bool
  z1 : Bool
  z2 : Bool
  z3 : Bool
  w1 : Bs
  w2 : Option Bs
  w3 : Option Bs
  a : Nat
  b : Nat
  c : Nat
  pre : Bs
  mt : Bool
def num (z : Bool) (a : Nat) : Bs := (if z then [48] else []) ++ Lib.decDigits a
def pgrp (p : Bs) : Option (Bs × List Bs) := if p = [] then none else match idents p with
  | [] => none
  | x :: r => some (x, r)
def mgrp (m : Bool) : Option (Bs × List Bs) := if m then some ([98], [[48, 49]]) else none
def GT.ver (t : GT) : Ver := match t.g with
  | 0 => ⟨t.v, t.w1, t.w2, t.w3, none, none⟩
  | 1 => ⟨t.v, num t.z1 t.a, t.w2, t.w3, none, none⟩
  | 2 => ⟨t.v, num t.z1 t.a, some (num t.z2 t.b), t.w3, none, none⟩
  | _ => ⟨t.v, num t.z1 t.a, some (num t.z2 t.b), some (num t.z3 t.c), pgrp t.pre, mgrp t.mt⟩
def GT.tm (t : GT) : Tm := ⟨t.op, t.blank, t.ver⟩
def GT.td (t : GT) : TD := match t.g with
  | 0 => ⟨t.op, t.ver.text, false, true, false, 0, 0, 0, [], [], [48, 46, 48, 46, 48]⟩
  | 1 => ⟨t.op, t.ver.text, true, true, false, t.a, 0, 0, [], [], num t.z1 t.a ++ [46, 48, 46, 48]⟩
  | 2 => ⟨t.op, t.ver.text, false, true, true, t.a, t.b, 0, [], [], num t.z1 t.a ++ 46 :: num t.z2 t.b ++ [46, 48]⟩
  | _ => ⟨t.op, t.ver.text, false, false, false, t.a, t.b, t.c, t.pre, gpre (mgrp t.mt), t.ver.text⟩
def wildB (w : Bs) : Prop := w = [120] ∨ w = [88] ∨ w = [42]
structure GT.Ok (t : GT) : Prop where
  op : t.op ∈ opTexts
  blank : ∀ y ∈ t.blank, ws y = true
  ob : t.op = [] → t.blank = []
  bl : t.blank.length ≤ 2
  a : t.a < 18446744073709551616
  b : t.b < 18446744073709551616
  c : t.c < 18446744073709551616
  w1 : wildB t.w1
  w2 : ∀ y, t.w2 = some y → wildB y
  w3 : ∀ y, t.w3 = some y → wildB y
  w23 : t.g ≤ 1 → t.w2 = none → t.w3 = none
  pre : t.pre = [] ∨ PreOk t.pre
  pl : t.pre.length ≤ 64
theorem num_part (z : Bool) (a : Nat) : okPart dB (num z a) := by
  have h := dec_part a
  cases z
  · simpa [num] using h
  · refine ⟨by simp [num], fun y hy => ?_⟩
    have : y = 48 ∨ y ∈ Lib.decDigits a := by simpa [num] using hy
    rcases this with rfl | h2
    · decide
    · exact h.2 y h2
theorem dB_noX {w : Bs} (h : okPart dB w) : isXb w = false := by
  obtain ⟨h1, h2⟩ := h
  match w, h1 with
  | [y], _ =>
    have h3 := (dB_not y (h2 y (by simp)))
    simp [isXb, h3.1, h3.2.1, h3.2.2.1]
  | x :: y :: l, _ => simp [isXb]
theorem num_noX (z : Bool) (a : Nat) : isXb (num z a) = false := dB_noX (num_part z a)
theorem num_parse (z : Bool) (a : Nat) (ha : a < 18446744073709551616) : Lib.parseUintB 64 (num z a) = .ok a := by
  cases z
  · exact parse_dec64 a ha
  · exact parse_zero a ha
theorem num_len (z : Bool) (a : Nat) (ha : a < 18446744073709551616) : (num z a).length ≤ 21 := by
  have := nDigits_le a ha
  cases z <;> simp [num] <;> omega
theorem wild_X {w : Bs} (h : wildB w) : isXb w = true ∧ okPart pB w ∧ w.length = 1 := by
  rcases h with rfl | rfl | rfl
  · exact ⟨by decide, ⟨by simp, by decide⟩, rfl⟩
  · exact ⟨by decide, ⟨by simp, by decide⟩, rfl⟩
  · exact ⟨by decide, ⟨by simp, by decide⟩, rfl⟩
theorem gpre_pgrp (p : Bs) : gpre (pgrp p) = p := by
  unfold pgrp
  split
  · rename_i h; subst h; rfl
  · obtain ⟨x, r, e1, e2⟩ := idents_join p.length p (Nat.le_refl _)
    rw [e1]
    exact e2.symm
theorem okGrp_pgrp {p : Bs} (h : p = [] ∨ PreOk p) : okGrp iB (pgrp p) := by
  unfold pgrp
  split
  · trivial
  · rcases h with h | h
    · contradiction
    · obtain ⟨x, r, e1, e2, e3⟩ := h.grp
      rw [e1]; exact e3
theorem okGrp_mgrp (m : Bool) : okGrp iB (mgrp m) := by
  cases m
  · trivial
  · refine ⟨⟨by simp, by decide⟩, fun y hy => ?_⟩
    have : y = [48, 49] := by simpa using hy
    subst this
    exact ⟨by simp, by decide⟩
theorem part_pB {w : Bs} (h : okPart dB w) : okPart pB w := ⟨h.1, fun y hy => dB_pB y (h.2 y hy)⟩
theorem GT.Ok.ver {t : GT} (h : t.Ok) : t.ver.Ok pB iB := by
  unfold GT.ver
  split
  · rename_i hg
    exact ⟨(wild_X h.w1).2.1, fun y hy => (wild_X (h.w2 y hy)).2.1, fun y hy => ⟨(wild_X (h.w3 y hy)).2.1, fun e => by have := h.w23 (by omega) e; simp only at hy; rw [this] at hy; cases hy⟩, trivial, trivial⟩
  · rename_i hg
    exact ⟨part_pB (num_part _ _), fun y hy => (wild_X (h.w2 y hy)).2.1, fun y hy => ⟨(wild_X (h.w3 y hy)).2.1, fun e => by have := h.w23 (by omega) e; simp only at hy; rw [this] at hy; cases hy⟩, trivial, trivial⟩
  · refine ⟨part_pB (num_part _ _), fun y hy => ?_, fun y hy => ⟨(wild_X (h.w3 y hy)).2.1, by simp⟩, trivial, trivial⟩
    obtain rfl : num t.z2 t.b = y := by simpa using hy
    exact part_pB (num_part _ _)
  · refine ⟨part_pB (num_part _ _), fun y hy => ?_, fun y hy => ⟨?_, by simp⟩, okGrp_pgrp h.pre, okGrp_mgrp _⟩
    · obtain rfl : num t.z2 t.b = y := by simpa using hy
      exact part_pB (num_part _ _)
    · obtain rfl : num t.z3 t.c = y := by simpa using hy
      exact part_pB (num_part _ _)
theorem GT.Ok.tm {t : GT} (h : t.Ok) : t.tm.Ok := ⟨h.op, h.blank, h.ver⟩
theorem gtext_len (y : UInt8) (g : Option (Bs × List Bs)) : (gtext y g).length ≤ (gpre g).length + 1 := by
  cases g with
  | none => simp [gtext]
  | some x => obtain ⟨x, l⟩ := x; simp [gtext, gpre]
theorem GT.Ok.len {t : GT} (h : t.Ok) : t.ver.text.length ≤ 140 := by
  have h1 := num_len t.z1 t.a h.a
  have h2 := num_len t.z2 t.b h.b
  have h3 := num_len t.z3 t.c h.c
  have hv : (if t.v then [118] else [] : Bs).length ≤ 1 := by split <;> simp
  have hw1 := (wild_X h.w1).2.2
  have hw2 : (ptext t.w2).length ≤ 2 := by
    cases e : t.w2 with
    | none => simp [ptext]
    | some y => have := (wild_X (h.w2 y e)).2.2; simp [ptext]; omega
  have hw3 : (ptext t.w3).length ≤ 2 := by
    cases e : t.w3 with
    | none => simp [ptext]
    | some y => have := (wild_X (h.w3 y e)).2.2; simp [ptext]; omega
  have hp := gtext_len 45 (pgrp t.pre)
  rw [gpre_pgrp] at hp
  have hpl := h.pl
  have hm : (gtext 43 (mgrp t.mt)).length ≤ 6 := by cases t.mt <;> simp [mgrp, gtext, dots]
  unfold GT.ver
  split <;> simp only [Ver.text, List.length_append, ptext, gtext, List.length_cons, List.length_nil] at * <;> omega
end Go.Proofs.YtnamjojceadgdaaGreatDoor.Sv
end
section
set_option linter.unusedVariables false
set_option linter.unusedSimpArgs false
/- a term's version is written: a number, with a zero ahead or not -/
namespace Go.Proofs.YtnamjojceadgdaaGreatDoor.Sv
open Go Go.RowKit Rx
set_option maxRecDepth 100000
def zb (z : Bool) : Bs := if z then [48] else []
theorem bytes_add (x y : Bs) : bytesOf x ++ bytesOf y = bytesOf (x ++ y) := bOf_app x y
def zrow8 : Obj := .cells #[.string ⟨#[]⟩, .string ⟨#[]⟩, .string ⟨#[]⟩, .string ⟨#[]⟩, .string ⟨#[]⟩, .string ⟨#[]⟩, .string ⟨#[]⟩, .string ⟨#[48]⟩] 9 (0, 0)
/-- what PartialText's variables hold -/
structure PT (w : World) (S N5 T2 : Nat) (t : TV) (W : World) : Prop where
  n5 : W.heap[N5]? = some (.cells #[.int .u64 t.a, .int .u64 t.b, .int .u64 t.c] 23 (0, 0))
  t2 : W.heap[T2]? = some (.cells #[.int .i64 t.op, .int .i64 t.g, .int .u64 t.a, .int .u64 t.b, .int .u64 t.c, .string (bytesOf t.pre)] 31 (0, 0))
  s : ∃ x : Int, W.heap[S]? = some (.cells #[.int .u64 x] 116 (0, 0))
  b : Below S w W
  l : w.heap.size ≤ W.heap.size ∧ S < w.heap.size ∧ w.heap.size ≤ N5 ∧ w.heap.size ≤ T2
theorem PT.keep {w : World} {S N5 T2 : Nat} {t : TV} {W W' : World} (h : PT w S N5 T2 t W) (hb : Below W.heap.size W W') : PT w S N5 T2 t W' := by
  have k : ∀ {j : Nat} {o : Obj}, W.heap[j]? = some o → W'.heap[j]? = some o := fun {j o} h => (hb.block j (Array.getElem?_eq_some_iff.1 h).1).trans h
  obtain ⟨x, hx⟩ := h.s
  exact ⟨k h.n5, k h.t2, ⟨x, k hx⟩, h.b.trans (hb.mono (by have := h.l; omega)), by have := h.l; have := hb.size; omega⟩
theorem PT.put {w : World} {S N5 T2 : Nat} {t : TV} {W : World} (h : PT w S N5 T2 t W) (y : Int) : PT w S N5 T2 t (W.setCell ⟨S, 0, none⟩ (.int .u64 y)) := by
  obtain ⟨x, hx⟩ := h.s
  have hl := h.l
  exact ⟨(heap_setCell_other _ _ _ _ (by show N5 ≠ S; omega)).trans h.n5, (heap_setCell_other _ _ _ _ (by show T2 ≠ S; omega)).trans h.t2, ⟨y, heap_setCell_same _ _ 0 _ _ _ hx⟩, h.b.setCell (p := ⟨S, 0, none⟩) (Nat.le_refl _) _, by simp; exact hl⟩
def ops14 : Array Oper := #[{ dst := some 53, op := Op.move (Operand.tmp 6), type := 9, pos := "constraint.go:183", after := #[], guard := none }, { dst := some 54, op := Op.buildSlice 56 8 #[(0, Operand.const (Value.string { data := #[] })), (1, Operand.const (Value.string { data := #[] })), (2, Operand.const (Value.string { data := #[] })), (3, Operand.const (Value.string { data := #[] })), (4, Operand.const (Value.string { data := #[] })), (5, Operand.const (Value.string { data := #[] })), (6, Operand.const (Value.string { data := #[] })), (7, Operand.const (Value.string { data := #[48] }))], type := 56, pos := "constraint.go:183", after := #[], guard := none }, { dst := some 55, op := Op.move (Operand.tmp 1), type := 78, pos := "constraint.go:183", after := #[], guard := none }, { dst := some 56, op := Op.call { callee := Callee.value (Operand.func 39), args := #[Operand.tmp 55, Operand.const (Value.int IntKind.i64 8)], argTypes := #[78, 3] }, type := 3, pos := "constraint.go:183", after := #[{ on := 2, ground := Ground.data }], guard := none }, { dst := some 57, op := Op.indexAddr 56 (Operand.tmp 54) (Operand.tmp 56), type := 0, pos := "constraint.go:183", after := #[{ on := 1, ground := Ground.data }, { on := 3, ground := Ground.data }], guard := none }, { dst := some 58, op := Op.load 9 (Operand.tmp 57), type := 9, pos := "constraint.go:183", after := #[{ on := 4, ground := Ground.data }], guard := none }, { dst := some 59, op := Op.move (Operand.tmp 5), type := 158, pos := "constraint.go:183", after := #[], guard := none }, { dst := some 60, op := Op.move (Operand.tmp 8), type := 3, pos := "constraint.go:183", after := #[], guard := none }, { dst := some 61, op := Op.indexAddr 158 (Operand.tmp 59) (Operand.tmp 60), type := 0, pos := "constraint.go:183", after := #[{ on := 6, ground := Ground.data }, { on := 7, ground := Ground.data }], guard := none }, { dst := some 62, op := Op.load 23 (Operand.tmp 61), type := 23, pos := "constraint.go:183", after := #[{ on := 8, ground := Ground.data }], guard := none }, { dst := some 63, op := Op.call { callee := Callee.value (Operand.func 106), args := #[Operand.tmp 62], argTypes := #[23] }, type := 9, pos := "constraint.go:183", after := #[{ on := 9, ground := Ground.data }, { on := 3, ground := Ground.chain }], guard := none }, { dst := some 64, op := Op.binOp BinOp.add 9 (Operand.tmp 58) (Operand.tmp 63) 9, type := 9, pos := "constraint.go:183", after := #[{ on := 5, ground := Ground.data }, { on := 10, ground := Ground.data }], guard := none }, { dst := some 65, op := Op.binOp BinOp.add 9 (Operand.tmp 53) (Operand.tmp 64) 9, type := 9, pos := "constraint.go:183", after := #[{ on := 0, ground := Ground.data }, { on := 11, ground := Ground.data }], guard := none }, { dst := some 6, op := Op.assign (Operand.tmp 65), type := 9, pos := "constraint.go:183", after := #[{ on := 12, ground := Ground.data }, { on := 10, ground := Ground.chain }, { on := 0, ground := Ground.phase }, { on := 1, ground := Ground.phase }, { on := 2, ground := Ground.phase }, { on := 3, ground := Ground.phase }, { on := 4, ground := Ground.phase }, { on := 5, ground := Ground.phase }, { on := 6, ground := Ground.phase }, { on := 7, ground := Ground.phase }, { on := 8, ground := Ground.phase }, { on := 9, ground := Ground.phase }, { on := 10, ground := Ground.phase }, { on := 11, ground := Ground.phase }, { on := 12, ground := Ground.phase }], guard := none }]
def fr14 (S N5 i : Nat) (x0 x2 x3 x4 x7 x9 x10 x11 x12 x13 x14 x15 x16 x17 x18 x19 x20 x21 x22 x23 x24 x25 x26 x27 x28 x29 x30 x31 x32 x33 x34 x35 x36 x37 x38 x39 x40 x41 x42 x43 x44 x45 x46 x47 x48 x49 x50 x51 x52 x66 x67 x68 x69 x70 x71 x72 x73 x74 x75 x76 x77 x78 x79 x80 x81 x82 x83 x84 x85 x86 x87 x88 x89 x90 x91 x92 : Value) (s6 s53 s54 s55 s56 s57 s58 s59 s60 s61 s62 s63 s64 s65 : Value) : Act := ⟨(x0 :: .pointer (some ⟨S, 0, none⟩) :: x2 :: x3 :: x4 :: .slice (some ⟨N5, 0, none⟩) 3 3 :: s6 :: x7 :: .int .i64 (i : Nat) :: x9 :: x10 :: x11 :: x12 :: x13 :: x14 :: x15 :: x16 :: x17 :: x18 :: x19 :: x20 :: x21 :: x22 :: x23 :: x24 :: x25 :: x26 :: x27 :: x28 :: x29 :: x30 :: x31 :: x32 :: x33 :: x34 :: x35 :: x36 :: x37 :: x38 :: x39 :: x40 :: x41 :: x42 :: x43 :: x44 :: x45 :: x46 :: x47 :: x48 :: x49 :: x50 :: x51 :: x52 :: s53 :: s54 :: s55 :: s56 :: s57 :: s58 :: s59 :: s60 :: s61 :: s62 :: s63 :: s64 :: s65 :: x66 :: x67 :: x68 :: x69 :: x70 :: x71 :: x72 :: x73 :: x74 :: x75 :: x76 :: x77 :: x78 :: x79 :: x80 :: x81 :: x82 :: x83 :: x84 :: x85 :: x86 :: x87 :: x88 :: x89 :: x90 :: x91 :: x92 :: []).toArray, []⟩
structure I14 (w : World) (S N5 T2 : Nat) (t : TV) (tx : Bs) (i n : Nat) (L : Nat → Prop) (s6 s53 s54 s55 s56 s57 s58 s59 s60 s61 s62 s63 s64 s65 : Value) (W : World) : Prop where
  pt : PT w S N5 T2 t W
  v53 : L 0 → s53 = .string (bytesOf tx)
  v54 : L 1 → ∃ P, s54 = .slice (some ⟨P, 0, none⟩) 8 8 ∧ P ≠ S ∧ W.heap[P]? = some zrow8
  v55 : L 2 → s55 = .pointer (some ⟨S, 0, none⟩)
  v56 : L 3 → ∃ q : Nat, q < 8 ∧ s56 = .int .i64 q
  v57 : L 4 → ∃ (P q : Nat), q < 8 ∧ s57 = .pointer (some ⟨P, q, none⟩) ∧ P ≠ S ∧ W.heap[P]? = some zrow8
  v58 : L 5 → ∃ z : Bool, s58 = .string (bytesOf (zb z))
  v59 : L 6 → s59 = .slice (some ⟨N5, 0, none⟩) 3 3
  v60 : L 7 → s60 = .int .i64 (i : Nat)
  v61 : L 8 → s61 = .pointer (some ⟨N5, i, none⟩)
  v62 : L 9 → s62 = .int .u64 (n : Nat)
  v63 : L 10 → s63 = .string (bytesOf (Lib.decDigits n))
  v64 : L 11 → ∃ z : Bool, s64 = .string (bytesOf (num z n))
  v65 : L 12 → ∃ z : Bool, s65 = .string (bytesOf (tx ++ num z n))
  v6 : L 13 → ∃ z : Bool, s6 = .string (bytesOf (tx ++ num z n))
theorem I14.keep {w : World} {S N5 T2 : Nat} {t : TV} {tx : Bs} {i n : Nat} {L : Nat → Prop} {s6 s53 s54 s55 s56 s57 s58 s59 s60 s61 s62 s63 s64 s65 : Value} {W W' : World} (h : I14 w S N5 T2 t tx i n L s6 s53 s54 s55 s56 s57 s58 s59 s60 s61 s62 s63 s64 s65 W) (hb : Below W.heap.size W W') : I14 w S N5 T2 t tx i n L s6 s53 s54 s55 s56 s57 s58 s59 s60 s61 s62 s63 s64 s65 W' :=
  ⟨h.pt.keep hb, h.v53, (fun x => by obtain ⟨P, e, hn, hp⟩ := h.v54 x; exact ⟨P, e, hn, (hb.block P (Array.getElem?_eq_some_iff.1 hp).1).trans hp⟩), h.v55, h.v56, (fun x => by obtain ⟨P, q, hq, e, hn, hp⟩ := h.v57 x; exact ⟨P, q, hq, e, hn, (hb.block P (Array.getElem?_eq_some_iff.1 hp).1).trans hp⟩), h.v58, h.v59, h.v60, h.v61, h.v62, h.v63, h.v64, h.v65, h.v6⟩
theorem I14.put {w : World} {S N5 T2 : Nat} {t : TV} {tx : Bs} {i n : Nat} {L : Nat → Prop} {s6 s53 s54 s55 s56 s57 s58 s59 s60 s61 s62 s63 s64 s65 : Value} {W : World} (h : I14 w S N5 T2 t tx i n L s6 s53 s54 s55 s56 s57 s58 s59 s60 s61 s62 s63 s64 s65 W) (y : Int) : I14 w S N5 T2 t tx i n L s6 s53 s54 s55 s56 s57 s58 s59 s60 s61 s62 s63 s64 s65 (W.setCell ⟨S, 0, none⟩ (.int .u64 y)) :=
  ⟨h.pt.put y, h.v53, (fun x => by obtain ⟨P, e, hn, hp⟩ := h.v54 x; exact ⟨P, e, hn, (heap_setCell_other _ _ _ _ hn).trans hp⟩), h.v55, h.v56, (fun x => by obtain ⟨P, q, hq, e, hn, hp⟩ := h.v57 x; exact ⟨P, q, hq, e, hn, (heap_setCell_other _ _ _ _ hn).trans hp⟩), h.v58, h.v59, h.v60, h.v61, h.v62, h.v63, h.v64, h.v65, h.v6⟩
theorem z8cell {W : World} {P q : Nat} (h : W.heap[P]? = some zrow8) (hq : q < 8) : ∃ z : Bool, W.cell? ⟨P, q, none⟩ = some (.string (bytesOf (zb z))) := by
  have h' : q = 0 ∨ q = 1 ∨ q = 2 ∨ q = 3 ∨ q = 4 ∨ q = 5 ∨ q = 6 ∨ q = 7 := by omega
  unfold zrow8 at h
  rcases h' with rfl | rfl | rfl | rfl | rfl | rfl | rfl | rfl
  all_goals first
    | exact ⟨false, cell_of_row _ _ _ _ _ _ h⟩
    | exact ⟨true, cell_of_row _ _ _ _ _ _ h⟩
theorem ncell {w W : World} {S N5 T2 i n : Nat} {t : TV} (h : PT w S N5 T2 t W) (hn : (i = 0 ∧ n = t.a) ∨ (i = 1 ∧ n = t.b) ∨ (i = 2 ∧ n = t.c)) : W.cell? ⟨N5, i, none⟩ = some (.int .u64 (n : Nat)) := by
  rcases hn with ⟨rfl, rfl⟩ | ⟨rfl, rfl⟩ | ⟨rfl, rfl⟩
  · exact cell_of_row _ _ 0 _ _ _ h.n5
  · exact cell_of_row _ _ 1 _ _ _ h.n5
  · exact cell_of_row _ _ 2 _ _ _ h.n5
theorem num_eq (z : Bool) (n : Nat) : bytesOf (zb z) ++ bytesOf (Lib.decDigits n) = bytesOf (num z n) := bytes_add _ _
set_option maxHeartbeats 8000000 in
theorem region14 (y6 y53 y54 y55 y56 y57 y58 y59 y60 y61 y62 y63 y64 y65 : Value) (x0 x2 x3 x4 x7 x9 x10 x11 x12 x13 x14 x15 x16 x17 x18 x19 x20 x21 x22 x23 x24 x25 x26 x27 x28 x29 x30 x31 x32 x33 x34 x35 x36 x37 x38 x39 x40 x41 x42 x43 x44 x45 x46 x47 x48 x49 x50 x51 x52 x66 x67 x68 x69 x70 x71 x72 x73 x74 x75 x76 x77 x78 x79 x80 x81 x82 x83 x84 x85 x86 x87 x88 x89 x90 x91 x92 : Value) (w : World) (S N5 T2 : Nat) (t : TV) (tx : Bs) (i n : Nat) (w5 : World) (hpt : PT w S N5 T2 t w5) (hi : i < 3) (hn : (i = 0 ∧ n = t.a) ∨ (i = 1 ∧ n = t.b) ∨ (i = 2 ∧ n = t.c)) (hn64 : n < 18446744073709551616) (htx : tx.length < 1000) (h6 : y6 = .string (bytesOf tx))
    {Q : Exit → Act → World → Prop} (hQ : ∀ z s6 s53 s54 s55 s56 s57 s58 s59 s60 s61 s62 s63 s64 s65 W, PT w S N5 T2 t W → s6 = .string (bytesOf (tx ++ num z n)) → Q .normal (fr14 S N5 i x0 x2 x3 x4 x7 x9 x10 x11 x12 x13 x14 x15 x16 x17 x18 x19 x20 x21 x22 x23 x24 x25 x26 x27 x28 x29 x30 x31 x32 x33 x34 x35 x36 x37 x38 x39 x40 x41 x42 x43 x44 x45 x46 x47 x48 x49 x50 x51 x52 x66 x67 x68 x69 x70 x71 x72 x73 x74 x75 x76 x77 x78 x79 x80 x81 x82 x83 x84 x85 x86 x87 x88 x89 x90 x91 x92 s6 s53 s54 s55 s56 s57 s58 s59 s60 s61 s62 s63 s64 s65) W) :
    (Code.region 14 ops14 true).wp Tryz.prog Q (fr14 S N5 i x0 x2 x3 x4 x7 x9 x10 x11 x12 x13 x14 x15 x16 x17 x18 x19 x20 x21 x22 x23 x24 x25 x26 x27 x28 x29 x30 x31 x32 x33 x34 x35 x36 x37 x38 x39 x40 x41 x42 x43 x44 x45 x46 x47 x48 x49 x50 x51 x52 x66 x67 x68 x69 x70 x71 x72 x73 x74 x75 x76 x77 x78 x79 x80 x81 x82 x83 x84 x85 x86 x87 x88 x89 x90 x91 x92 y6 y53 y54 y55 y56 y57 y58 y59 y60 y61 y62 y63 y64 y65) w5 := by
  have HD := Lib.hid (fun W => jDec n n (Nat.le_refl _) hn64 W)
  have hdl := dec_len n hn64
  have z1 : ∀ z : Bool, (bytesOf (zb z)).size ≤ 1 := fun z => by rw [bytesOf_size]; cases z <;> simp [zb]
  have z2 : (bytesOf (Lib.decDigits n)).size ≤ 20 := by rw [bytesOf_size]; exact hdl
  have z3 : (bytesOf tx).size < 1000 := by rw [bytesOf_size]; exact htx
  have z4 : ∀ z : Bool, (bytesOf (num z n)).size ≤ 21 := fun z => by rw [bytesOf_size]; exact num_len z n hn64
  have hd0 := hpt.keep (Below.refl w5.heap.size w5).drew
  refine wp_region_inv (by kernel_rfl) (fun L a' W => ∃ s6 s53 s54 s55 s56 s57 s58 s59 s60 s61 s62 s63 s64 s65, a' = fr14 S N5 i x0 x2 x3 x4 x7 x9 x10 x11 x12 x13 x14 x15 x16 x17 x18 x19 x20 x21 x22 x23 x24 x25 x26 x27 x28 x29 x30 x31 x32 x33 x34 x35 x36 x37 x38 x39 x40 x41 x42 x43 x44 x45 x46 x47 x48 x49 x50 x51 x52 x66 x67 x68 x69 x70 x71 x72 x73 x74 x75 x76 x77 x78 x79 x80 x81 x82 x83 x84 x85 x86 x87 x88 x89 x90 x91 x92 s6 s53 s54 s55 s56 s57 s58 s59 s60 s61 s62 s63 s64 s65 ∧ ((L 12 → L 0) ∧ (L 13 → L 12)) ∧ (¬ L 13 → s6 = .string (bytesOf tx)) ∧ I14 w S N5 T2 t tx i n L s6 s53 s54 s55 s56 s57 s58 s59 s60 s61 s62 s63 s64 s65 W) (by kernel_rfl) ⟨_, _, _, _, _, _, _, _, _, _, _, _, _, _, rfl, ⟨fun h => h.elim, fun h => h.elim⟩, fun _ => h6, ⟨hd0, fun h => h.elim, fun h => h.elim, fun h => h.elim, fun h => h.elim, fun h => h.elim, fun h => h.elim, fun h => h.elim, fun h => h.elim, fun h => h.elim, fun h => h.elim, fun h => h.elim, fun h => h.elim, fun h => h.elim, fun h => h.elim⟩⟩ ?_ ?_
  · intro j o ho L a' W hni hdep hI K hK
    obtain ⟨s6, s53, s54, s55, s56, s57, s58, s59, s60, s61, s62, s63, s64, s65, rfl, hO, h60, hk⟩ := hI
    rcases j with _ | _ | _ | _ | _ | _ | _ | _ | _ | _ | _ | _ | _ | _ | j
    · obtain rfl := Option.some.inj (show some ({ dst := some 53, op := Op.move (Operand.tmp 6), type := 9, pos := "constraint.go:183", after := #[], guard := none } : Oper) = some o from ho)
      have h6b := h60 (fun hl => hni (hO.1 (hO.2 hl)))
      subst h6b
      unfold fr14
      go_simp
      refine hK.out _ _ ⟨(.string (bytesOf tx)), (.string (bytesOf tx)), s54, s55, s56, s57, s58, s59, s60, s61, s62, s63, s64, s65, rfl, ⟨(fun _ => .inl rfl), (fun hl => .inr (hO.2 (hl.resolve_left (by decide))))⟩, (fun _ => rfl), ⟨hk.pt, (fun _ => rfl), (fun hl => hk.v54 (hl.resolve_left (by decide))), (fun hl => hk.v55 (hl.resolve_left (by decide))), (fun hl => hk.v56 (hl.resolve_left (by decide))), (fun hl => hk.v57 (hl.resolve_left (by decide))), (fun hl => hk.v58 (hl.resolve_left (by decide))), (fun hl => hk.v59 (hl.resolve_left (by decide))), (fun hl => hk.v60 (hl.resolve_left (by decide))), (fun hl => hk.v61 (hl.resolve_left (by decide))), (fun hl => hk.v62 (hl.resolve_left (by decide))), (fun hl => hk.v63 (hl.resolve_left (by decide))), (fun hl => hk.v64 (hl.resolve_left (by decide))), (fun hl => hk.v65 (hl.resolve_left (by decide))), (fun hl => hk.v6 (hl.resolve_left (by decide)))⟩⟩
    · obtain rfl := Option.some.inj (show some ({ dst := some 54, op := Op.buildSlice 56 8 #[(0, Operand.const (Value.string { data := #[] })), (1, Operand.const (Value.string { data := #[] })), (2, Operand.const (Value.string { data := #[] })), (3, Operand.const (Value.string { data := #[] })), (4, Operand.const (Value.string { data := #[] })), (5, Operand.const (Value.string { data := #[] })), (6, Operand.const (Value.string { data := #[] })), (7, Operand.const (Value.string { data := #[48] }))], type := 56, pos := "constraint.go:183", after := #[], guard := none } : Oper) = some o from ho)
      unfold fr14
      have hb := (Below.refl _ W).alloc (Nat.le_refl _) zrow8
      have hl := hk.pt.l
      have hk := hk.keep hb
      go_simp
      refine hK.out _ _ ⟨s6, s53, (.slice (some ⟨W.heap.size, 0, none⟩) 8 8), s55, s56, s57, s58, s59, s60, s61, s62, s63, s64, s65, rfl, ⟨(fun hl => .inr (hO.1 (hl.resolve_left (by decide)))), (fun hl => .inr (hO.2 (hl.resolve_left (by decide))))⟩, (fun hn => h60 (fun hl => hn (.inr hl))), ⟨hk.pt, (fun hl => hk.v53 (hl.resolve_left (by decide))), (fun _ => ⟨W.heap.size, rfl, by omega, heap_alloc_new W _⟩), (fun hl => hk.v55 (hl.resolve_left (by decide))), (fun hl => hk.v56 (hl.resolve_left (by decide))), (fun hl => hk.v57 (hl.resolve_left (by decide))), (fun hl => hk.v58 (hl.resolve_left (by decide))), (fun hl => hk.v59 (hl.resolve_left (by decide))), (fun hl => hk.v60 (hl.resolve_left (by decide))), (fun hl => hk.v61 (hl.resolve_left (by decide))), (fun hl => hk.v62 (hl.resolve_left (by decide))), (fun hl => hk.v63 (hl.resolve_left (by decide))), (fun hl => hk.v64 (hl.resolve_left (by decide))), (fun hl => hk.v65 (hl.resolve_left (by decide))), (fun hl => hk.v6 (hl.resolve_left (by decide)))⟩⟩
    · obtain rfl := Option.some.inj (show some ({ dst := some 55, op := Op.move (Operand.tmp 1), type := 78, pos := "constraint.go:183", after := #[], guard := none } : Oper) = some o from ho)
      unfold fr14
      go_simp
      refine hK.out _ _ ⟨s6, s53, s54, (.pointer (some ⟨S, 0, none⟩)), s56, s57, s58, s59, s60, s61, s62, s63, s64, s65, rfl, ⟨(fun hl => .inr (hO.1 (hl.resolve_left (by decide)))), (fun hl => .inr (hO.2 (hl.resolve_left (by decide))))⟩, (fun hn => h60 (fun hl => hn (.inr hl))), ⟨hk.pt, (fun hl => hk.v53 (hl.resolve_left (by decide))), (fun hl => hk.v54 (hl.resolve_left (by decide))), (fun _ => rfl), (fun hl => hk.v56 (hl.resolve_left (by decide))), (fun hl => hk.v57 (hl.resolve_left (by decide))), (fun hl => hk.v58 (hl.resolve_left (by decide))), (fun hl => hk.v59 (hl.resolve_left (by decide))), (fun hl => hk.v60 (hl.resolve_left (by decide))), (fun hl => hk.v61 (hl.resolve_left (by decide))), (fun hl => hk.v62 (hl.resolve_left (by decide))), (fun hl => hk.v63 (hl.resolve_left (by decide))), (fun hl => hk.v64 (hl.resolve_left (by decide))), (fun hl => hk.v65 (hl.resolve_left (by decide))), (fun hl => hk.v6 (hl.resolve_left (by decide)))⟩⟩
    · obtain rfl := Option.some.inj (show some ({ dst := some 56, op := Op.call { callee := Callee.value (Operand.func 39), args := #[Operand.tmp 55, Operand.const (Value.int IntKind.i64 8)], argTypes := #[78, 3] }, type := 3, pos := "constraint.go:183", after := #[{ on := 2, ground := Ground.data }], guard := none } : Oper) = some o from ho)
      have g2 := hk.v55 (hdep ⟨2, .data⟩ (by simp) rfl)
      subst g2
      unfold fr14
      go_simp
      obtain ⟨x, hx⟩ := hk.pt.s
      (go_at_call 39; refine (m17 S x 8 (by omega) (by omega) W hx).mono ?_; rintro e W1 ⟨q, y, rfl, hq, hw⟩; subst hw; have hk := hk.put y)
      refine hK.out _ _ ⟨s6, s53, s54, (.pointer (some ⟨S, 0, none⟩)), (.int .i64 q), s57, s58, s59, s60, s61, s62, s63, s64, s65, rfl, ⟨(fun hl => .inr (hO.1 (hl.resolve_left (by decide)))), (fun hl => .inr (hO.2 (hl.resolve_left (by decide))))⟩, (fun hn => h60 (fun hl => hn (.inr hl))), ⟨hk.pt, (fun hl => hk.v53 (hl.resolve_left (by decide))), (fun hl => hk.v54 (hl.resolve_left (by decide))), (fun hl => hk.v55 (hl.resolve_left (by decide))), (fun _ => ⟨q, hq, rfl⟩), (fun hl => hk.v57 (hl.resolve_left (by decide))), (fun hl => hk.v58 (hl.resolve_left (by decide))), (fun hl => hk.v59 (hl.resolve_left (by decide))), (fun hl => hk.v60 (hl.resolve_left (by decide))), (fun hl => hk.v61 (hl.resolve_left (by decide))), (fun hl => hk.v62 (hl.resolve_left (by decide))), (fun hl => hk.v63 (hl.resolve_left (by decide))), (fun hl => hk.v64 (hl.resolve_left (by decide))), (fun hl => hk.v65 (hl.resolve_left (by decide))), (fun hl => hk.v6 (hl.resolve_left (by decide)))⟩⟩
    · obtain rfl := Option.some.inj (show some ({ dst := some 57, op := Op.indexAddr 56 (Operand.tmp 54) (Operand.tmp 56), type := 0, pos := "constraint.go:183", after := #[{ on := 1, ground := Ground.data }, { on := 3, ground := Ground.data }], guard := none } : Oper) = some o from ho)
      obtain ⟨P, g1, hPS, hP⟩ := hk.v54 (hdep ⟨1, .data⟩ (by simp) rfl)
      obtain ⟨q, hq, g3⟩ := hk.v56 (hdep ⟨3, .data⟩ (by simp) rfl)
      subst g1 g3
      have hqi : (q : Int) < 8 := by omega
      unfold fr14
      go_simp
      refine hK.out _ _ ⟨s6, s53, (.slice (some ⟨P, 0, none⟩) 8 8), s55, (.int .i64 q), (.pointer (some ⟨P, q, none⟩)), s58, s59, s60, s61, s62, s63, s64, s65, rfl, ⟨(fun hl => .inr (hO.1 (hl.resolve_left (by decide)))), (fun hl => .inr (hO.2 (hl.resolve_left (by decide))))⟩, (fun hn => h60 (fun hl => hn (.inr hl))), ⟨hk.pt, (fun hl => hk.v53 (hl.resolve_left (by decide))), (fun hl => hk.v54 (hl.resolve_left (by decide))), (fun hl => hk.v55 (hl.resolve_left (by decide))), (fun hl => hk.v56 (hl.resolve_left (by decide))), (fun _ => ⟨P, q, hq, rfl, hPS, hP⟩), (fun hl => hk.v58 (hl.resolve_left (by decide))), (fun hl => hk.v59 (hl.resolve_left (by decide))), (fun hl => hk.v60 (hl.resolve_left (by decide))), (fun hl => hk.v61 (hl.resolve_left (by decide))), (fun hl => hk.v62 (hl.resolve_left (by decide))), (fun hl => hk.v63 (hl.resolve_left (by decide))), (fun hl => hk.v64 (hl.resolve_left (by decide))), (fun hl => hk.v65 (hl.resolve_left (by decide))), (fun hl => hk.v6 (hl.resolve_left (by decide)))⟩⟩
    · obtain rfl := Option.some.inj (show some ({ dst := some 58, op := Op.load 9 (Operand.tmp 57), type := 9, pos := "constraint.go:183", after := #[{ on := 4, ground := Ground.data }], guard := none } : Oper) = some o from ho)
      obtain ⟨P, q, hq, g4, hPS, hP⟩ := hk.v57 (hdep ⟨4, .data⟩ (by simp) rfl)
      subst g4
      obtain ⟨z, hz⟩ := z8cell hP hq
      unfold fr14
      go_simp
      refine hK.out _ _ ⟨s6, s53, s54, s55, s56, (.pointer (some ⟨P, q, none⟩)), (.string (bytesOf (zb z))), s59, s60, s61, s62, s63, s64, s65, rfl, ⟨(fun hl => .inr (hO.1 (hl.resolve_left (by decide)))), (fun hl => .inr (hO.2 (hl.resolve_left (by decide))))⟩, (fun hn => h60 (fun hl => hn (.inr hl))), ⟨hk.pt, (fun hl => hk.v53 (hl.resolve_left (by decide))), (fun hl => hk.v54 (hl.resolve_left (by decide))), (fun hl => hk.v55 (hl.resolve_left (by decide))), (fun hl => hk.v56 (hl.resolve_left (by decide))), (fun hl => hk.v57 (hl.resolve_left (by decide))), (fun _ => ⟨z, rfl⟩), (fun hl => hk.v59 (hl.resolve_left (by decide))), (fun hl => hk.v60 (hl.resolve_left (by decide))), (fun hl => hk.v61 (hl.resolve_left (by decide))), (fun hl => hk.v62 (hl.resolve_left (by decide))), (fun hl => hk.v63 (hl.resolve_left (by decide))), (fun hl => hk.v64 (hl.resolve_left (by decide))), (fun hl => hk.v65 (hl.resolve_left (by decide))), (fun hl => hk.v6 (hl.resolve_left (by decide)))⟩⟩
    · obtain rfl := Option.some.inj (show some ({ dst := some 59, op := Op.move (Operand.tmp 5), type := 158, pos := "constraint.go:183", after := #[], guard := none } : Oper) = some o from ho)
      unfold fr14
      go_simp
      refine hK.out _ _ ⟨s6, s53, s54, s55, s56, s57, s58, (.slice (some ⟨N5, 0, none⟩) 3 3), s60, s61, s62, s63, s64, s65, rfl, ⟨(fun hl => .inr (hO.1 (hl.resolve_left (by decide)))), (fun hl => .inr (hO.2 (hl.resolve_left (by decide))))⟩, (fun hn => h60 (fun hl => hn (.inr hl))), ⟨hk.pt, (fun hl => hk.v53 (hl.resolve_left (by decide))), (fun hl => hk.v54 (hl.resolve_left (by decide))), (fun hl => hk.v55 (hl.resolve_left (by decide))), (fun hl => hk.v56 (hl.resolve_left (by decide))), (fun hl => hk.v57 (hl.resolve_left (by decide))), (fun hl => hk.v58 (hl.resolve_left (by decide))), (fun _ => rfl), (fun hl => hk.v60 (hl.resolve_left (by decide))), (fun hl => hk.v61 (hl.resolve_left (by decide))), (fun hl => hk.v62 (hl.resolve_left (by decide))), (fun hl => hk.v63 (hl.resolve_left (by decide))), (fun hl => hk.v64 (hl.resolve_left (by decide))), (fun hl => hk.v65 (hl.resolve_left (by decide))), (fun hl => hk.v6 (hl.resolve_left (by decide)))⟩⟩
    · obtain rfl := Option.some.inj (show some ({ dst := some 60, op := Op.move (Operand.tmp 8), type := 3, pos := "constraint.go:183", after := #[], guard := none } : Oper) = some o from ho)
      unfold fr14
      go_simp
      refine hK.out _ _ ⟨s6, s53, s54, s55, s56, s57, s58, s59, (.int .i64 (i : Nat)), s61, s62, s63, s64, s65, rfl, ⟨(fun hl => .inr (hO.1 (hl.resolve_left (by decide)))), (fun hl => .inr (hO.2 (hl.resolve_left (by decide))))⟩, (fun hn => h60 (fun hl => hn (.inr hl))), ⟨hk.pt, (fun hl => hk.v53 (hl.resolve_left (by decide))), (fun hl => hk.v54 (hl.resolve_left (by decide))), (fun hl => hk.v55 (hl.resolve_left (by decide))), (fun hl => hk.v56 (hl.resolve_left (by decide))), (fun hl => hk.v57 (hl.resolve_left (by decide))), (fun hl => hk.v58 (hl.resolve_left (by decide))), (fun hl => hk.v59 (hl.resolve_left (by decide))), (fun _ => rfl), (fun hl => hk.v61 (hl.resolve_left (by decide))), (fun hl => hk.v62 (hl.resolve_left (by decide))), (fun hl => hk.v63 (hl.resolve_left (by decide))), (fun hl => hk.v64 (hl.resolve_left (by decide))), (fun hl => hk.v65 (hl.resolve_left (by decide))), (fun hl => hk.v6 (hl.resolve_left (by decide)))⟩⟩
    · obtain rfl := Option.some.inj (show some ({ dst := some 61, op := Op.indexAddr 158 (Operand.tmp 59) (Operand.tmp 60), type := 0, pos := "constraint.go:183", after := #[{ on := 6, ground := Ground.data }, { on := 7, ground := Ground.data }], guard := none } : Oper) = some o from ho)
      have g6 := hk.v59 (hdep ⟨6, .data⟩ (by simp) rfl)
      have g7 := hk.v60 (hdep ⟨7, .data⟩ (by simp) rfl)
      subst g6 g7
      have hii : (i : Int) < 3 := by omega
      unfold fr14
      go_simp
      refine hK.out _ _ ⟨s6, s53, s54, s55, s56, s57, s58, (.slice (some ⟨N5, 0, none⟩) 3 3), (.int .i64 (i : Nat)), (.pointer (some ⟨N5, i, none⟩)), s62, s63, s64, s65, rfl, ⟨(fun hl => .inr (hO.1 (hl.resolve_left (by decide)))), (fun hl => .inr (hO.2 (hl.resolve_left (by decide))))⟩, (fun hn => h60 (fun hl => hn (.inr hl))), ⟨hk.pt, (fun hl => hk.v53 (hl.resolve_left (by decide))), (fun hl => hk.v54 (hl.resolve_left (by decide))), (fun hl => hk.v55 (hl.resolve_left (by decide))), (fun hl => hk.v56 (hl.resolve_left (by decide))), (fun hl => hk.v57 (hl.resolve_left (by decide))), (fun hl => hk.v58 (hl.resolve_left (by decide))), (fun hl => hk.v59 (hl.resolve_left (by decide))), (fun hl => hk.v60 (hl.resolve_left (by decide))), (fun _ => rfl), (fun hl => hk.v62 (hl.resolve_left (by decide))), (fun hl => hk.v63 (hl.resolve_left (by decide))), (fun hl => hk.v64 (hl.resolve_left (by decide))), (fun hl => hk.v65 (hl.resolve_left (by decide))), (fun hl => hk.v6 (hl.resolve_left (by decide)))⟩⟩
    · obtain rfl := Option.some.inj (show some ({ dst := some 62, op := Op.load 23 (Operand.tmp 61), type := 23, pos := "constraint.go:183", after := #[{ on := 8, ground := Ground.data }], guard := none } : Oper) = some o from ho)
      have g8 := hk.v61 (hdep ⟨8, .data⟩ (by simp) rfl)
      subst g8
      have hz := ncell hk.pt hn
      unfold fr14
      go_simp
      refine hK.out _ _ ⟨s6, s53, s54, s55, s56, s57, s58, s59, s60, (.pointer (some ⟨N5, i, none⟩)), (.int .u64 (n : Nat)), s63, s64, s65, rfl, ⟨(fun hl => .inr (hO.1 (hl.resolve_left (by decide)))), (fun hl => .inr (hO.2 (hl.resolve_left (by decide))))⟩, (fun hn => h60 (fun hl => hn (.inr hl))), ⟨hk.pt, (fun hl => hk.v53 (hl.resolve_left (by decide))), (fun hl => hk.v54 (hl.resolve_left (by decide))), (fun hl => hk.v55 (hl.resolve_left (by decide))), (fun hl => hk.v56 (hl.resolve_left (by decide))), (fun hl => hk.v57 (hl.resolve_left (by decide))), (fun hl => hk.v58 (hl.resolve_left (by decide))), (fun hl => hk.v59 (hl.resolve_left (by decide))), (fun hl => hk.v60 (hl.resolve_left (by decide))), (fun hl => hk.v61 (hl.resolve_left (by decide))), (fun _ => rfl), (fun hl => hk.v63 (hl.resolve_left (by decide))), (fun hl => hk.v64 (hl.resolve_left (by decide))), (fun hl => hk.v65 (hl.resolve_left (by decide))), (fun hl => hk.v6 (hl.resolve_left (by decide)))⟩⟩
    · obtain rfl := Option.some.inj (show some ({ dst := some 63, op := Op.call { callee := Callee.value (Operand.func 106), args := #[Operand.tmp 62], argTypes := #[23] }, type := 9, pos := "constraint.go:183", after := #[{ on := 9, ground := Ground.data }, { on := 3, ground := Ground.chain }], guard := none } : Oper) = some o from ho)
      have g9 := hk.v62 (hdep ⟨9, .data⟩ (by simp) rfl)
      subst g9
      unfold fr14
      go_simp
      (go_at_call 106; refine (HD.out _).mono ?_; rintro e W1 ⟨rfl, hb⟩; have hk := hk.keep hb)
      refine hK.out _ _ ⟨s6, s53, s54, s55, s56, s57, s58, s59, s60, s61, (.int .u64 (n : Nat)), (.string (bytesOf (Lib.decDigits n))), s64, s65, rfl, ⟨(fun hl => .inr (hO.1 (hl.resolve_left (by decide)))), (fun hl => .inr (hO.2 (hl.resolve_left (by decide))))⟩, (fun hn => h60 (fun hl => hn (.inr hl))), ⟨hk.pt, (fun hl => hk.v53 (hl.resolve_left (by decide))), (fun hl => hk.v54 (hl.resolve_left (by decide))), (fun hl => hk.v55 (hl.resolve_left (by decide))), (fun hl => hk.v56 (hl.resolve_left (by decide))), (fun hl => hk.v57 (hl.resolve_left (by decide))), (fun hl => hk.v58 (hl.resolve_left (by decide))), (fun hl => hk.v59 (hl.resolve_left (by decide))), (fun hl => hk.v60 (hl.resolve_left (by decide))), (fun hl => hk.v61 (hl.resolve_left (by decide))), (fun hl => hk.v62 (hl.resolve_left (by decide))), (fun _ => rfl), (fun hl => hk.v64 (hl.resolve_left (by decide))), (fun hl => hk.v65 (hl.resolve_left (by decide))), (fun hl => hk.v6 (hl.resolve_left (by decide)))⟩⟩
    · obtain rfl := Option.some.inj (show some ({ dst := some 64, op := Op.binOp BinOp.add 9 (Operand.tmp 58) (Operand.tmp 63) 9, type := 9, pos := "constraint.go:183", after := #[{ on := 5, ground := Ground.data }, { on := 10, ground := Ground.data }], guard := none } : Oper) = some o from ho)
      obtain ⟨z, g5⟩ := hk.v58 (hdep ⟨5, .data⟩ (by simp) rfl)
      have g10 := hk.v63 (hdep ⟨10, .data⟩ (by simp) rfl)
      subst g5 g10
      have y1 := z1 z
      unfold fr14
      go_simp
      rw [if_neg (by omega), num_eq]
      go_simp
      refine hK.out _ _ ⟨s6, s53, s54, s55, s56, s57, (.string (bytesOf (zb z))), s59, s60, s61, s62, (.string (bytesOf (Lib.decDigits n))), (.string (bytesOf (num z n))), s65, rfl, ⟨(fun hl => .inr (hO.1 (hl.resolve_left (by decide)))), (fun hl => .inr (hO.2 (hl.resolve_left (by decide))))⟩, (fun hn => h60 (fun hl => hn (.inr hl))), ⟨hk.pt, (fun hl => hk.v53 (hl.resolve_left (by decide))), (fun hl => hk.v54 (hl.resolve_left (by decide))), (fun hl => hk.v55 (hl.resolve_left (by decide))), (fun hl => hk.v56 (hl.resolve_left (by decide))), (fun hl => hk.v57 (hl.resolve_left (by decide))), (fun hl => hk.v58 (hl.resolve_left (by decide))), (fun hl => hk.v59 (hl.resolve_left (by decide))), (fun hl => hk.v60 (hl.resolve_left (by decide))), (fun hl => hk.v61 (hl.resolve_left (by decide))), (fun hl => hk.v62 (hl.resolve_left (by decide))), (fun hl => hk.v63 (hl.resolve_left (by decide))), (fun _ => ⟨z, rfl⟩), (fun hl => hk.v65 (hl.resolve_left (by decide))), (fun hl => hk.v6 (hl.resolve_left (by decide)))⟩⟩
    · obtain rfl := Option.some.inj (show some ({ dst := some 65, op := Op.binOp BinOp.add 9 (Operand.tmp 53) (Operand.tmp 64) 9, type := 9, pos := "constraint.go:183", after := #[{ on := 0, ground := Ground.data }, { on := 11, ground := Ground.data }], guard := none } : Oper) = some o from ho)
      have g0 := hk.v53 (hdep ⟨0, .data⟩ (by simp) rfl)
      obtain ⟨z, g11⟩ := hk.v64 (hdep ⟨11, .data⟩ (by simp) rfl)
      subst g0 g11
      have y1 := z4 z
      unfold fr14
      go_simp
      rw [if_neg (by omega), bytes_add]
      go_simp
      refine hK.out _ _ ⟨s6, (.string (bytesOf tx)), s54, s55, s56, s57, s58, s59, s60, s61, s62, s63, (.string (bytesOf (num z n))), (.string (bytesOf (tx ++ num z n))), rfl, ⟨(fun _ => .inr (hdep ⟨0, .data⟩ (by simp) rfl)), (fun _ => .inl rfl)⟩, (fun hn => h60 (fun hl => hn (.inr hl))), ⟨hk.pt, (fun hl => hk.v53 (hl.resolve_left (by decide))), (fun hl => hk.v54 (hl.resolve_left (by decide))), (fun hl => hk.v55 (hl.resolve_left (by decide))), (fun hl => hk.v56 (hl.resolve_left (by decide))), (fun hl => hk.v57 (hl.resolve_left (by decide))), (fun hl => hk.v58 (hl.resolve_left (by decide))), (fun hl => hk.v59 (hl.resolve_left (by decide))), (fun hl => hk.v60 (hl.resolve_left (by decide))), (fun hl => hk.v61 (hl.resolve_left (by decide))), (fun hl => hk.v62 (hl.resolve_left (by decide))), (fun hl => hk.v63 (hl.resolve_left (by decide))), (fun hl => hk.v64 (hl.resolve_left (by decide))), (fun _ => ⟨z, rfl⟩), (fun hl => hk.v6 (hl.resolve_left (by decide)))⟩⟩
    · obtain rfl := Option.some.inj (show some ({ dst := some 6, op := Op.assign (Operand.tmp 65), type := 9, pos := "constraint.go:183", after := #[{ on := 12, ground := Ground.data }, { on := 10, ground := Ground.chain }, { on := 0, ground := Ground.phase }, { on := 1, ground := Ground.phase }, { on := 2, ground := Ground.phase }, { on := 3, ground := Ground.phase }, { on := 4, ground := Ground.phase }, { on := 5, ground := Ground.phase }, { on := 6, ground := Ground.phase }, { on := 7, ground := Ground.phase }, { on := 8, ground := Ground.phase }, { on := 9, ground := Ground.phase }, { on := 10, ground := Ground.phase }, { on := 11, ground := Ground.phase }, { on := 12, ground := Ground.phase }], guard := none } : Oper) = some o from ho)
      obtain ⟨z, g12⟩ := hk.v65 (hdep ⟨12, .data⟩ (by simp) rfl)
      subst g12
      unfold fr14
      go_simp
      refine hK.out _ _ ⟨(.string (bytesOf (tx ++ num z n))), s53, s54, s55, s56, s57, s58, s59, s60, s61, s62, s63, s64, (.string (bytesOf (tx ++ num z n))), rfl, ⟨(fun hl => .inr (hO.1 (hl.resolve_left (by decide)))), (fun _ => .inr (hdep ⟨12, .data⟩ (by simp) rfl))⟩, (fun hn => absurd (.inl rfl) hn), ⟨hk.pt, (fun hl => hk.v53 (hl.resolve_left (by decide))), (fun hl => hk.v54 (hl.resolve_left (by decide))), (fun hl => hk.v55 (hl.resolve_left (by decide))), (fun hl => hk.v56 (hl.resolve_left (by decide))), (fun hl => hk.v57 (hl.resolve_left (by decide))), (fun hl => hk.v58 (hl.resolve_left (by decide))), (fun hl => hk.v59 (hl.resolve_left (by decide))), (fun hl => hk.v60 (hl.resolve_left (by decide))), (fun hl => hk.v61 (hl.resolve_left (by decide))), (fun hl => hk.v62 (hl.resolve_left (by decide))), (fun hl => hk.v63 (hl.resolve_left (by decide))), (fun hl => hk.v64 (hl.resolve_left (by decide))), (fun hl => hk.v65 (hl.resolve_left (by decide))), (fun _ => ⟨z, rfl⟩)⟩⟩
    · exact absurd (Array.getElem?_eq_some_iff.1 ho).1 (by simp [ops14])
  · intro L a' W hall hI
    obtain ⟨s6, s53, s54, s55, s56, s57, s58, s59, s60, s61, s62, s63, s64, s65, rfl, hO, h60, hk⟩ := hI
    obtain ⟨z, h6⟩ := hk.v6 (hall 13 (by decide))
    exact hQ z _ _ _ _ _ _ _ _ _ _ _ _ _ _ W hk.pt h6
end Go.Proofs.YtnamjojceadgdaaGreatDoor.Sv
end
