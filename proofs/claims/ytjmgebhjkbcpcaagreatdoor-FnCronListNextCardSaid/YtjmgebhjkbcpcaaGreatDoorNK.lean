/- a part of the proof: FnCronListNext: for every six words, kind of field, part and instant the law function returns true and leaves its arguments as they were. No condition is added: the statement is the given one, the tied card. -/
import Derived.Test.YtjmgebhjkbcpcaaGreatDoorNH
import Derived.Test.YtjmgebhjkbcpcaaGreatDoorNJ
import Derived.DeepKeys
import Derived.RegionTactic
import Derived.Deep.RegionWith
section
set_option linter.unusedVariables false
set_option linter.unusedSimpArgs false
namespace Go.Proofs.YtjmgebhjkbcpcaaGreatDoor.Txt
open Go.Proofs.YtjmgebhjkbcpcaaGreatDoor.NM
open Go Go.RowKit Go.Proofs.YtjmgebhjkbcpcaaGreatDoorW.PrintWords Go.Proofs.YtjmgebhjkbcpcaaGreatDoorW.PrintLast Go.Proofs.YtjmgebhjkbcpcaaGreatDoorW.PrintMore Go.Proofs.YtjmgebhjkbcpcaaGreatDoor.PCronParse
set_option maxRecDepth 100000
theorem tTakes (k : Nat) (hk : k < 6) (w : World) : Calls Tryz.prog 80 #[.int .i64 125, .int .i64 (k : Int)] w fun e w' => e = .returned (.bool true) ∧ Below w.heap.size w w' := by
  have : k = 0 ∨ k = 1 ∨ k = 2 ∨ k = 3 ∨ k = 4 ∨ k = 5 := by omega
  rcases this with rfl | rfl | rfl | rfl | rfl | rfl
  all_goals
    go_enter Tryz.func80, Tryz.ntmps80
    go_wp2
    go_ret
    exact ⟨by kernel_rfl, bA (Below.refl _ _) _⟩
/-- how long the words ahead of a zone's name are -/
def zhead (l : Bs) : Nat := if [84, 90, 61].isPrefixOf l then 3 else if [67, 82, 79, 78, 95, 84, 90, 61].isPrefixOf l then 8 else 0
theorem zhead_isHead (l : Bs) : isHead l = decide (0 < zhead l) := by
  unfold isHead zhead
  cases [84, 90, 61].isPrefixOf l <;> cases [67, 82, 79, 78, 95, 84, 90, 61].isPrefixOf l <;> rfl
theorem tBegins (a b : ByteArray) (w : World) : Calls Tryz.prog 36 #[.string a, .string b] w fun e w' => e = .returned (.bool ((tx b).isPrefixOf (tx a))) ∧ Below w.heap.size w w' :=
  (spec_cronBegins.calls a b _ w (begins_f a b)).mono fun e w' h => ⟨h.1, h.2.below⟩
theorem idx92 (w : World) : (Instr.index 92 (.agg #[.string ⟨#[84, 90, 61]⟩, .string ⟨#[67, 82, 79, 78, 95, 84, 90, 61]⟩]) (.int .i64 0)).run Tryz.prog w = .ok (.string ⟨#[84, 90, 61]⟩) w ∧
    (Instr.index 92 (.agg #[.string ⟨#[84, 90, 61]⟩, .string ⟨#[67, 82, 79, 78, 95, 84, 90, 61]⟩]) (.int .i64 1)).run Tryz.prog w = .ok (.string ⟨#[67, 82, 79, 78, 95, 84, 90, 61]⟩) w := ⟨by kernel_rfl, by kernel_rfl⟩
set_option maxHeartbeats 1000000 in
theorem tHead (a : ByteArray) (w : World) : Calls Tryz.prog 16 #[.string a] w fun e w' => e = .returned (.int .i64 (zhead (tx a))) ∧ Below w.heap.size w w' := by
  go_enter Tryz.func16, Tryz.ntmps16
  go_wp2
  go_loopw [6] (fun v wr => ∃ (n : Nat), v = .int .i64 n ∧ Aside0 (n = 0 ∨ (n = 1 ∧ [84, 90, 61].isPrefixOf (tx a) = false) ∨ (n = 2 ∧ zhead (tx a) = 0)) ∧ Aside0 (Below w.heap.size w wr)) (fun v _ => 100 - (intOf v).toNat)
  case atStart => exact ⟨0, rfl, ⟨.inl rfl⟩, ⟨Below.refl _ _⟩⟩
  case round =>
    obtain ⟨n, rfl, HN, HB⟩ := hrel
    have hi := idx92 wr
    have hi0 := hi.1
    have hi1 := hi.2
    clear hi
    have hN := HN.out
    clear HN
    rcases hN with rfl | ⟨rfl, h1⟩ | ⟨rfl, h2⟩
    · have hb := fun w => tBegins a ⟨#[84, 90, 61]⟩ w
      have e1 : (tx ⟨#[84, 90, 61]⟩) = [84, 90, 61] := rfl
      rw [e1] at hb
      clear e1
      by_cases c : [84, 90, 61].isPrefixOf (tx a) = true
      · rw [c] at hb
        have hz : zhead (tx a) = 3 := by unfold zhead; rw [if_pos c]
        have HZ := Lib.hid hz
        have HBB := Lib.hid hb
        clear c hz hb
        go_wp2_with (go_at_call 36; refine (HBB.out _).mono ?_; rintro e w1 ⟨rfl, hb1⟩)
        go_ret
        exact ⟨by rw [HZ.out]; rfl, HB.out.trans (hb1.mono HB.out.size)⟩
      · have c' : [84, 90, 61].isPrefixOf (tx a) = false := Bool.eq_false_iff.2 c
        rw [c'] at hb
        have HC := Lib.hid c'
        have HBB := Lib.hid hb
        clear c c' hb
        go_wp2_with (go_at_call 36; refine (HBB.out _).mono ?_; rintro e w1 ⟨rfl, hb1⟩)
        go_roundw
        case measure => decide
        case rel => exact ⟨1, rfl, ⟨.inr (.inl ⟨rfl, HC.out⟩)⟩, ⟨HB.out.trans (hb1.mono HB.out.size)⟩⟩
    · have H1 := Lib.hid h1
      clear h1
      have hb := fun w => tBegins a ⟨#[67, 82, 79, 78, 95, 84, 90, 61]⟩ w
      have e1 : (tx ⟨#[67, 82, 79, 78, 95, 84, 90, 61]⟩) = [67, 82, 79, 78, 95, 84, 90, 61] := rfl
      rw [e1] at hb
      clear e1
      by_cases c : [67, 82, 79, 78, 95, 84, 90, 61].isPrefixOf (tx a) = true
      · rw [c] at hb
        have hz : zhead (tx a) = 8 := by unfold zhead; rw [if_neg (by rw [H1.out]; simp), if_pos c]
        have HZ := Lib.hid hz
        have HBB := Lib.hid hb
        clear c hz hb
        go_wp2_with (go_at_call 36; refine (HBB.out _).mono ?_; rintro e w1 ⟨rfl, hb1⟩)
        go_ret
        exact ⟨by rw [HZ.out]; rfl, HB.out.trans (hb1.mono HB.out.size)⟩
      · have c' : [67, 82, 79, 78, 95, 84, 90, 61].isPrefixOf (tx a) = false := Bool.eq_false_iff.2 c
        rw [c'] at hb
        have hz : zhead (tx a) = 0 := by unfold zhead; rw [if_neg (by rw [H1.out]; simp), if_neg c]
        have HC := Lib.hid hz
        have HBB := Lib.hid hb
        clear c c' hb hz
        go_wp2_with (go_at_call 36; refine (HBB.out _).mono ?_; rintro e w1 ⟨rfl, hb1⟩)
        go_roundw
        case measure => decide
        case rel => exact ⟨2, rfl, ⟨.inr (.inr ⟨rfl, HC.out⟩)⟩, ⟨HB.out.trans (hb1.mono HB.out.size)⟩⟩
    · have HZ := Lib.hid h2
      clear h2
      go_wp2
      go_ret
      exact ⟨by rw [HZ.out]; rfl, HB.out⟩
set_option maxHeartbeats 1000000 in
/-- CronNoAnswer: no space, and a zone's head -/
theorem tNoAnswer (a : ByteArray) (hs : a.size < 1099511627776) (w : World) : Calls Tryz.prog 18 #[.string a] w fun e w' => e = .returned (.bool (isHead (tx a) && (toSpace (tx a)).isNone)) ∧ Below w.heap.size w w' := by
  go_enter Tryz.func18, Tryz.ntmps18
  go_wp2
  go_loopw [6] (fun v wr => ∃ (n : Nat), v = .int .i64 n ∧ Aside0 (n ≤ a.size) ∧ Aside0 ((toSpace (tx a)).isNone = (toSpace ((tx a).drop n)).isNone) ∧ Aside0 (Below w.heap.size w wr)) (fun v _ => 2000000000000 - (intOf v).toNat)
  case atStart => exact ⟨0, rfl, ⟨Nat.zero_le _⟩, ⟨rfl⟩, ⟨Below.refl _ _⟩⟩
  case round =>
    obtain ⟨n, rfl, HN, HS, HB⟩ := hrel
    by_cases c : (n : Int) < (a.size : Int)
    · have c' : n < a.size := by omega
      have hb := bt_nat c'
      have hd := tx_drop c'
      have ct : decide ((n : Int) < (a.size : Int)) = true := decide_eq_true c
      by_cases c2 : a[n] = 32
      · have hs2 : (toSpace ((tx a).drop n)).isNone = false := by rw [hd]; unfold toSpace; rw [if_pos c2]; rfl
        have hall : (toSpace (tx a)).isNone = false := by rw [HS.out, hs2]
        have HA := Lib.hid hall
        have e32 : (((a[n]'c').toNat : Int) == 32) = true := by rw [c2]; rfl
        have p6 : 0 ≤ (n : Int) := by omega
        have q6 : (n : Int) < (a.size : Int) := c
        replace p6 := eq_true p6
        replace q6 := eq_true q6
        clear hs2 hall hb hd c2
        go_wp2
        go_ret
        exact ⟨by rw [HA.out, Bool.and_false]; rfl, HB.out⟩
      · have hs2 : (toSpace ((tx a).drop n)).isNone = (toSpace ((tx a).drop (n + 1))).isNone := by
          rw [hd]
          conv => lhs; unfold toSpace
          rw [if_neg c2]
          cases toSpace ((tx a).drop (n + 1)) <;> rfl
        have hall : (toSpace (tx a)).isNone = (toSpace ((tx a).drop (n + 1))).isNone := by rw [HS.out, hs2]
        have HA := Lib.hid hall
        have e32 : (((a[n]'c').toNat : Int) == 32) = false := by
          rw [beq_eq_false_iff_ne]
          intro h
          exact c2 (UInt8.toNat_inj.1 (by simpa using (by omega : a[n].toNat = 32)))
        have p6 : 0 ≤ (n : Int) := by omega
        have q6 : (n : Int) < (a.size : Int) := c
        replace p6 := eq_true p6
        replace q6 := eq_true q6
        clear hs2 hall hb hd c2
        go_wp2
        go_roundw
        case measure => simp [intOf]; omega
        case rel => exact ⟨n + 1, by go_num, ⟨by omega⟩, ⟨HA.out⟩, ⟨HB.out⟩⟩
    · have ct : decide ((n : Int) < (a.size : Int)) = false := decide_eq_false c
      have hn : n = a.size := by have := HN.out; omega
      have hs2 : (toSpace (tx a)).isNone = true := by
        rw [HS.out, hn, List.drop_of_length_le (show (tx a).length ≤ a.size by rw [tx_len]; exact Nat.le_refl _)]
        rfl
      have HA := Lib.hid hs2
      have hh := zhead_isHead (tx a)
      clear hs2 hn
      have HH := Lib.hid hh
      clear hh
      go_wp2_with (go_at_call 16; refine (tHead a _).mono ?_; rintro e w1 ⟨rfl, hb1⟩)
      go_ret
      exact ⟨by rw [HA.out, HH.out, Bool.and_true]; simp, HB.out.trans (hb1.mono HB.out.size)⟩
end Go.Proofs.YtjmgebhjkbcpcaaGreatDoor.Txt
end
section
set_option linter.unusedVariables false
set_option linter.unusedSimpArgs false
namespace Go.Proofs.YtjmgebhjkbcpcaaGreatDoor.Txt
open Go.Proofs.YtjmgebhjkbcpcaaGreatDoor.NM
open Go Go.RowKit Go.Proofs.YtjmgebhjkbcpcaaGreatDoorW.PrintWords Go.Proofs.YtjmgebhjkbcpcaaGreatDoorW.PrintLast Go.Proofs.YtjmgebhjkbcpcaaGreatDoorW.PrintMore Go.Proofs.YtjmgebhjkbcpcaaGreatDoor.PCronParse
set_option maxRecDepth 100000
theorem tTwo (w : World) : Calls Tryz.prog 79 #[.int .i64 125] w fun e w' => e = .returned (.bool false) ∧ Below w.heap.size w w' :=
  (spec_CronTwoOptional.calls 125 false w (by kernel_rfl)).mono fun e w' h => ⟨h.1, h.2.below⟩
theorem tMiss (w : World) : Calls Tryz.prog 81 #[.int .i64 125] w fun e w' => e = .returned (.int .i64 (-1)) ∧ Below w.heap.size w w' :=
  (spec_CronMayMiss.calls 125 (-1) w (by kernel_rfl)).mono fun e w' h => ⟨h.1, h.2.below⟩
theorem tDefault (k : Nat) (w : World) : Calls Tryz.prog 82 #[.int .i64 k] w fun e w' => ∃ s, e = .returned (.string s) ∧ Below w.heap.size w w' := by
  have h : ∃ s, spec_CronDefault.f (k : Int) = some s := by
    unfold spec_CronDefault.f
    split <;> exact ⟨_, rfl⟩
  obtain ⟨s, h⟩ := h
  exact (spec_CronDefault.calls _ s w h).mono fun e w' he => ⟨s, he.1, he.2.below⟩
theorem mk32 (w : World) : (Instr.makeSlice 32 (.int .i64 6) (.int .i64 6)).run Tryz.prog w = .ok (.slice (some ⟨w.heap.size, 0, none⟩) 6 6) (w.alloc (.cells #[.string ⟨#[]⟩, .string ⟨#[]⟩, .string ⟨#[]⟩, .string ⟨#[]⟩, .string ⟨#[]⟩, .string ⟨#[]⟩] 9)) := by kernel_rfl
set_option maxHeartbeats 1000000 in
theorem tFillNo (A : Option Addr) (n c : Nat) (hn : n ≠ 6) (w : World) :
    Calls Tryz.prog 38 #[.slice A n c, .int .i64 125] w fun e w' => e = .returned (.tuple #[.slice none 0 0, .bool false]) ∧ Below w.heap.size w w' := by
  go_enter Tryz.func38, Tryz.ntmps38
  go_wp2_with (first | (go_at_call 79; refine (tTwo _).mono ?_; rintro e w1 ⟨rfl, hb1⟩; have HB1 := Lib.hid hb1; clear hb1))
  go_loopw [14, 6] (fun i t wr => ∃ (m : Nat), i = .int .i64 m ∧ t = .int .i64 m ∧ Aside0 (m ≤ 6) ∧ Aside0 (Below w.heap.size w wr)) (fun i _ _ => 100 - (intOf i).toNat)
  case atStart => exact ⟨0, rfl, rfl, ⟨by decide⟩, ⟨HB1.out⟩⟩
  case round =>
    obtain ⟨m, rfl, rfl, HM, HB⟩ := hrel
    by_cases cm : m < 6
    · have ct : decide ((m : Int) < 6) = true := by simp; omega
      go_wp2_with (first | (go_at_call 80; refine (tTakes m cm _).mono ?_; rintro e w2 ⟨rfl, hb2⟩; have HB2 := Lib.hid hb2; clear hb2))
      go_roundw
      case measure => simp [intOf]; omega
      case rel => exact ⟨m + 1, by go_num, by go_num, ⟨by omega⟩, ⟨HB.out.trans (HB2.out.mono HB.out.size)⟩⟩
    · have ct : decide ((m : Int) < 6) = false := by simp; omega
      obtain rfl : m = 6 := by have := HM.out; omega
      have q1 : ((n : Int) == 6) = false := by simp; omega
      go_wp2_with (first | (go_at_call 81; refine (tMiss _).mono ?_; rintro e w2 ⟨rfl, hb2⟩; have HB2 := Lib.hid hb2; clear hb2))
      go_ret2
      exact ⟨rfl, HB.out.trans (HB2.out.mono HB.out.size)⟩
set_option maxHeartbeats 1000000 in
theorem tFill (xs : List ByteArray) (h6 : xs.length = 6) (g c : Nat) (w : World) (hg : Strs w g xs) :
    Calls Tryz.prog 38 #[.slice (some ⟨g, 0, none⟩) 6 c, .int .i64 125] w fun e w' => ∃ h, e = .returned (.tuple #[.slice (some ⟨h, 0, none⟩) 6 6, .bool true]) ∧ w.heap.size ≤ h ∧ Strs w' h xs ∧ Below w.heap.size w w' := by
  have H6 := Lib.hid h6
  have HG := Lib.hid hg
  clear h6 hg
  go_enter Tryz.func38, Tryz.ntmps38
  go_wp2_with (first | (go_at_call 79; refine (tTwo _).mono ?_; rintro e w1 ⟨rfl, hb1⟩; have HB1 := Lib.hid hb1; clear hb1))
  go_loopw [14, 6] (fun i t wr => ∃ (m : Nat), i = .int .i64 m ∧ t = .int .i64 m ∧ Aside0 (m ≤ 6) ∧ Aside0 (Below w.heap.size w wr)) (fun i _ _ => 100 - (intOf i).toNat)
  case atStart => exact ⟨0, rfl, rfl, ⟨by decide⟩, ⟨HB1.out⟩⟩
  case round =>
    obtain ⟨m, rfl, rfl, HM, HB⟩ := hrel
    by_cases cm : m < 6
    · have ct : decide ((m : Int) < 6) = true := by simp; omega
      go_wp2_with (first | (go_at_call 80; refine (tTakes m cm _).mono ?_; rintro e w2 ⟨rfl, hb2⟩; have HB2 := Lib.hid hb2; clear hb2))
      go_roundw
      case measure => simp [intOf]; omega
      case rel => exact ⟨m + 1, by go_num, by go_num, ⟨by omega⟩, ⟨HB.out.trans (HB2.out.mono HB.out.size)⟩⟩
    · have ct : decide ((m : Int) < 6) = false := by simp; omega
      obtain rfl : m = 6 := by have := HM.out; omega
      have hmk := mk32
      go_upto_region 17 with (first | (go_at_call 81; refine (tMiss _).mono ?_; rintro e w2 ⟨rfl, hb2⟩; have HB2 := Lib.hid hb2; clear hb2))
      clear hmk
      generalize hW : World.alloc _ _ = W
      have hbl := (HB.out.trans (HB2.out.mono HB.out.size))
      have hrow : ∃ cs : Array Value, cs.size = 6 ∧ W.heap[w2.heap.size]? = some (.cells cs 9 (0, 0)) := by
        rw [← hW]
        exact ⟨_, rfl, heap_alloc_new _ _⟩
      have hbW : Below w.heap.size w W := by rw [← hW]; exact bA hbl _
      obtain ⟨h, hh⟩ : ∃ h, w2.heap.size = h := ⟨_, rfl⟩
      have hhw : w.heap.size ≤ h := by rw [← hh]; exact hbl.size
      rw [hh] at hrow ⊢
      have HR := Lib.hid hrow
      have HW := Lib.hid hbW
      have HH := Lib.hid hhw
      clear hW hbl hrow hbW hh hhw
      go_wp2
      go_loopw [41, 10] (fun i t wr => ∃ (m : Nat), i = .int .i64 m ∧ t = .int .i64 m ∧ Aside0 (m ≤ 6) ∧ Aside0 (∃ cs : Array Value, cs.size = 6 ∧ wr.heap[h]? = some (.cells cs 9 (0, 0)) ∧ ∀ j (hj : j < xs.length), j < m → cs[j]? = some (.string xs[j])) ∧ Aside0 (Below w.heap.size w wr)) (fun i _ _ => 100 - (intOf i).toNat)
      case atStart =>
        obtain ⟨cs, h1, h2⟩ := HR.out
        exact ⟨0, rfl, rfl, ⟨by decide⟩, ⟨cs, h1, h2, fun j _ hj => by omega⟩, ⟨HW.out⟩⟩
      case round =>
        obtain ⟨m, rfl, rfl, HM, HC, HBR⟩ := hrel
        by_cases cm : m < 6
        · have ct : decide ((m : Int) < 6) = true := by simp; omega
          have cne : ((m : Int) != -1) = true := by simp
          obtain ⟨x, hx⟩ : ∃ x, xs[m]'(by have := H6.out; omega) = x := ⟨_, rfl⟩
          have HX := Lib.hid hx
          clear hx
          have hn1 : (m : Int) < 6 := by omega
          obtain ⟨cs, hc1, hc2, hc3⟩ := HC.out
          have C1 := Lib.hid (And.intro hc1 (And.intro hc2 hc3))
          clear hc1 hc2 hc3
          go_wp2_with (first
            | (go_at_call 82; refine (tDefault m _).mono ?_; rintro e w3 ⟨s, rfl, hb3⟩; have HB3 := Lib.hid hb3; have R3 : Hid (w3.heap[h]? = some (.cells cs 9 (0, 0))) := Lib.hid ((hb3.block _ (Array.getElem?_eq_some_iff.1 C1.out.2.1).1).trans C1.out.2.1); have c1 : w3.cell? ⟨h, m, none⟩ = some (cs[m]'(by rw [C1.out.1]; exact cm)) := (by rw [cell_of_row _ _ _ _ _ _ R3.out]; exact Array.getElem?_eq_getElem _); have f1 : w3.frozen? ⟨h, m, none⟩ = false := frozen_of_row _ _ _ _ _ R3.out; clear hb3)
            | (go_at_call 80; refine (tTakes m cm _).mono ?_; rintro e w4 ⟨rfl, hb4⟩; have R4 : Hid (w4.heap[h]? = some (.cells (cs.setIfInBounds m (.string s)) 9 (0, 0))) := Lib.hid ((hb4.block _ (by simp; exact (Array.getElem?_eq_some_iff.1 R3.out).1)).trans (heap_setCell_same _ _ _ _ _ _ R3.out)); have B4 : Hid (Below w.heap.size w w4) := Lib.hid (((HBR.out.trans (HB3.out.mono HBR.out.size)).setCell HH.out _).trans (hb4.mono (by simp; exact Nat.le_trans HBR.out.size HB3.out.size))); have c2 : w4.cell? ⟨g, m, none⟩ = some (.string x) := (by rw [(HG.out.move (B4.out.block g HG.out.lt)).cell m (by rw [H6.out]; exact cm), HX.out]); have c3 : w4.cell? ⟨h, m, none⟩ = some (.string s) := (by rw [cell_of_row _ _ _ _ _ _ R4.out]; simp [C1.out.1, cm]); have f3 : w4.frozen? ⟨h, m, none⟩ = false := frozen_of_row _ _ _ _ _ R4.out; clear hb4))
          clear c1 f1 c2 c3 f3
          go_roundw
          case measure => simp [intOf]; omega
          case rel =>
            refine ⟨m + 1, by go_num, by go_num, ⟨by omega⟩, ⟨_, ?_, heap_setCell_same _ _ _ _ _ _ R4.out, ?_⟩, ⟨B4.out.setCell HH.out _⟩⟩
            · simp [C1.out.1]
            · intro j hj hjm
              rw [Array.getElem?_setIfInBounds, Array.getElem?_setIfInBounds]
              by_cases e : m = j
              · subst e
                rw [if_pos rfl, if_pos (by simp [C1.out.1]; omega), HX.out]
              · rw [if_neg e, if_neg e]
                exact C1.out.2.2 j hj (by omega)
        · have ct : decide ((m : Int) < 6) = false := by simp; omega
          obtain rfl : m = 6 := by have := HM.out; omega
          go_wp2
          go_ret2
          obtain ⟨cs, hc1, hc2, hc3⟩ := HC.out
          exact ⟨h, rfl, HH.out, ⟨cs, hc2, fun j hj => hc3 j hj (by have := H6.out; omega)⟩, HBR.out⟩
end Go.Proofs.YtjmgebhjkbcpcaaGreatDoor.Txt
end
section
set_option linter.unusedVariables false
set_option maxRecDepth 100000
namespace Go.Proofs.YtjmgebhjkbcpcaaGreatDoor.Txt
open Go Go.RowKit
theorem inf39 : (Tryz.prog.info? 39).map (·.size) = some 387 := by kernel_rfl
theorem und39 : Tryz.prog.underlying 39 = some (.struct (Tryz.prog.fieldsOf 39)) := by kernel_rfl
theorem plc39 (w : World) : (Array.mapM (m := Sem) (fun (f : Field) => do pure (f.offset, ← sizeOf f.type)) (Tryz.prog.fieldsOf 39)).run Tryz.prog w = .ok #[(0, 1), (1, 1), (2, 384), (386, 1)] w := by kernel_rfl
theorem zero39_ok : Tryz.zeroCells39.size = 387 ∧ Tryz.zeroCells39.all (·.oneCell') = true := ⟨Tryz.zeroCells39_size, by kernel_rfl⟩
theorem fold_ok (o : Nat) : ∀ (l : List (Value × Nat)) (cs : Array Value), cs.all (·.oneCell') = true → (∀ p ∈ l, p.1.oneCell' = true) →
    (l.foldl (fun cs (c, j) => cs.setIfInBounds (o + j) c) cs).size = cs.size ∧ (l.foldl (fun cs (c, j) => cs.setIfInBounds (o + j) c) cs).all (·.oneCell') = true
  | [], _, h, _ => ⟨rfl, h⟩
  | (c, j) :: r, cs, h, hl => by
    have := fold_ok o r (cs.setIfInBounds (o + j) c) (all_set h _ (hl _ List.mem_cons_self)) (fun p hp => hl p (List.mem_cons_of_mem _ hp))
    simpa using this
theorem fold_low (o i : Nat) (hi : i < o) : ∀ (l : List (Value × Nat)) (cs : Array Value), (l.foldl (fun cs (c, j) => cs.setIfInBounds (o + j) c) cs)[i]? = cs[i]?
  | [], _ => rfl
  | (c, j) :: r, cs => by
    have := fold_low o i hi r (cs.setIfInBounds (o + j) c)
    rw [List.foldl_cons, this, Array.getElem?_setIfInBounds, if_neg (by omega)]
theorem zero39_at : Tryz.zeroCells39[0]? = some (.bool false) := by kernel_rfl
theorem build39 (us : Array Value) (h1 : us.size = 384) (h2 : us.all (·.oneCell') = true) : ∃ vs : Array Value, vs.size = 387 ∧ vs.all (·.oneCell') = true ∧ vs[0]? = some (.bool false) ∧ ∀ w, (Instr.build 39 #[(2, .agg us)]).run Tryz.prog w = .ok (.agg vs) w := by
  have hz := Tryz.zeroValue39
  have hf := fold_ok 2 us.toList.zipIdx Tryz.zeroCells39 zero39_ok.2 (fun p hp => by
    have := List.fst_mem_of_mem_zipIdx hp
    exact Array.all_eq_true_iff_forall_mem.1 h2 _ (by simpa using this))
  refine ⟨us.toList.zipIdx.foldl (fun cs (c, j) => cs.setIfInBounds (2 + j) c) Tryz.zeroCells39, by rw [hf.1]; exact zero39_ok.1, hf.2, by rw [fold_low 2 0 (by decide)]; exact zero39_at, fun w => ?_⟩
  unfold Instr.build
  simp only [Sem.run_bind, hz, Result.andThen_ok, run_underlying und39, plc39]
  have hfill : Instr.fill (fun i => (#[(0, 1), (1, 1), (2, 384), (386, 1)] : Array (Nat × Nat))[i]?) (Value.agg Tryz.zeroCells39).cells [(2, Value.agg us)] = some (us.toList.zipIdx.foldl (fun cs (c, j) => cs.setIfInBounds (2 + j) c) Tryz.zeroCells39) := by
    have e0 : (Value.agg Tryz.zeroCells39).cells = Tryz.zeroCells39 := rfl
    have e1 : (Value.agg us).cells = us := rfl
    simp only [Instr.fill, e0, e1]
    have e2 : (#[(0, 1), (1, 1), (2, 384), (386, 1)] : Array (Nat × Nat))[2]? = some (2, 384) := rfl
    rw [e2]
    simp only [h1, zero39_ok.1]
    rw [if_neg (by decide)]
    rw [← Array.foldl_toList, Array.toList_zipIdx]
  simp only [hfill, Sem.run_pure]
theorem wp_build1 {P : Program} {o : Oper} {a : Act} {w : World} {K : Act → World → Prop} {Q : Exit → Act → World → Prop} (t : TypeId) (i : Nat) (x : Operand) (ho : o.op = .build t #[(i, x)]) (v u : Value) (hx : a.eval x = v)
    (hb : ∀ w, (Instr.build t #[(i, v)]).run P w = .ok u w) (h : K (a.put o.dst u) w) : o.wp P a w K Q := by
  unfold Oper.wp execOp
  simp only [ho, List.map_toArray, List.map_cons, List.map_nil, hx, Sem.run_bind, hb, Result.andThen_ok, Sem.run_pure]
  exact h
theorem wpList_build1 {P : Program} {ops : Array Oper} {rest : List Oper} {o : Oper} {a : Act} {w : World} {Q : Exit → Act → World → Prop} (hgd : o.guard = none) (t : TypeId) (i : Nat) (x : Operand) (ho : o.op = .build t #[(i, x)]) (v u : Value) (hx : a.eval x = v)
    (hb : ∀ w, (Instr.build t #[(i, v)]).run P w = .ok u w) (h : wpList P ops Q rest (a.put o.dst u) w) : wpList P ops Q (o :: rest) a w :=
  wpList_plain hgd fun _ hK => wp_build1 t i x ho v u hx hb (hK _ _ h)
end Go.Proofs.YtjmgebhjkbcpcaaGreatDoor.Txt
end
section
set_option linter.unusedVariables false
set_option linter.unusedSimpArgs false
namespace Go.Proofs.YtjmgebhjkbcpcaaGreatDoor.Txt
open Go.Proofs.YtjmgebhjkbcpcaaGreatDoor.NM
open Go Go.RowKit Go.Proofs.YtjmgebhjkbcpcaaGreatDoorW.PrintWords Go.Proofs.YtjmgebhjkbcpcaaGreatDoorW.PrintLast Go.Proofs.YtjmgebhjkbcpcaaGreatDoorW.PrintMore Go.Proofs.YtjmgebhjkbcpcaaGreatDoor.PCronParse
set_option maxRecDepth 100000
theorem tForeign (a : ByteArray) (hs : a.size < 1099511627776) (w : World) : Calls Tryz.prog 21 #[.string a] w fun e w' => e = .returned (.bool ((tx a).any fun x => decide (128 ≤ x))) ∧ Below w.heap.size w w' :=
  (spec_cronForeign.calls (a.size + 1) a _ w (foreign_f a hs _ (by omega))).mono fun e w' h => ⟨h.1, h.2.below⟩
theorem tWords (a : ByteArray) (hs : a.size < 1099511627776) (w : World) : Calls Tryz.prog 28 #[.string a] w fun e w' =>
    ∃ A c, e = .returned (.slice A (words (tx a)).length c) ∧ (0 < (words (tx a)).length → ∃ g, A = some ⟨g, 0, none⟩ ∧ w.heap.size ≤ g ∧ Strs w' g ((words (tx a)).map mk)) ∧ Below w.heap.size w w' :=
  (spec_CronWords.calls (2 * a.size + 1) a _ w (words_f a hs _ (by omega))).mono fun e w' ⟨v, he, ho, hb⟩ => by
    obtain ⟨A, c, hv⟩ := Kd.R_slice ho
    rw [List.length_map] at hv
    refine ⟨A, c, by rw [he, hv], fun hn => ?_, hb⟩
    obtain ⟨g, c', hv', hg, hst⟩ := Strs.of_R ho (by rw [List.length_map]; exact hn)
    rw [hv] at hv'
    injection hv' with h1 _ _
    exact ⟨g, h1, hg, hst⟩
theorem word_len (l : Bs) : ∀ x ∈ words l, x.length ≤ l.length := by
  have key : ∀ l : Bs, (wd l).1.length ≤ l.length ∧ ∀ x ∈ (wd l).2, x.length ≤ l.length := by
    intro l
    induction l with
    | nil => exact ⟨Nat.le_refl _, fun x hx => by simp [wd] at hx⟩
    | cons x xs ih =>
      show (st x (wd xs)).1.length ≤ _ ∧ ∀ y ∈ (st x (wd xs)).2, _
      obtain ⟨h1, h2⟩ := ih
      cases hb : blank x with
      | true =>
        rw [st_blank hb]
        refine ⟨Nat.zero_le _, fun y hy => ?_⟩
        unfold out opt at hy
        have : y = (wd xs).1 ∨ y ∈ (wd xs).2 := by
          split at hy
          · exact .inr (by simpa using hy)
          · simpa using hy
        rcases this with rfl | h
        · simp; omega
        · have := h2 y h
          simp; omega
      | false =>
        rw [st_word hb]
        refine ⟨by simp; omega, fun y hy => ?_⟩
        have := h2 y hy
        simp; omega
  intro x hx
  unfold words out opt at hx
  have := key l
  have : x = (wd l).1 ∨ x ∈ (wd l).2 := by
    split at hx
    · exact .inr (by simpa using hx)
    · simpa using hx
  rcases this with rfl | h
  · exact (key l).1
  · exact (key l).2 x h
/-- the result's block -/
def Z39 (w W : World) : Prop := (∃ z : Array Value, z.size = 387 ∧ W.heap[w.heap.size]? = some (.cells z 39 (0, 0))) ∧ Below w.heap.size w W
theorem Z39.keep {w W W' : World} (h : Z39 w W) (hb : Below W.heap.size W W') : Z39 w W' := by
  obtain ⟨⟨z, h1, h2⟩, h3⟩ := h
  exact ⟨⟨z, h1, by rw [hb.block _ (Array.getElem?_eq_some_iff.1 h2).1]; exact h2⟩, h3.trans (hb.mono h3.size)⟩
theorem Z39.new (w : World) : Z39 w (w.alloc (.cells Tryz.zeroCells39 39)) := ⟨⟨_, zero39_ok.1, heap_alloc_new _ _⟩, bA (Below.refl _ _) _⟩
set_option maxHeartbeats 2000000 in
theorem tPlain (a : ByteArray) (hs : a.size < 1099511627776) (w : World) :
    Calls Tryz.prog 17 #[.int .i64 125, .string a] w fun e w' =>
      ∃ (us : Array Value) (v : Int), e = .returned (.tuple #[.agg us, .int .i64 v]) ∧ us.size = 387 ∧ us.all (·.oneCell') = true ∧ us[0]? = some (.bool false) ∧ (v = 1 ∨ v = 0 ∨ v = 2) ∧ (v = 1 ↔ Good (tx a)) ∧ Below w.heap.size w w' := by
  have hb := fun w => tBegins a ⟨#[64]⟩ w
  rw [show tx ⟨#[64]⟩ = [64] from rfl] at hb
  have hf := fun w => tForeign a hs w
  have q256 : (bits BinOp.and IntKind.i64 125 256 == 0) = true := by decide
  by_cases c1 : (tx a).head? = some 64
  · have hp : [64].isPrefixOf (tx a) = true := by
      cases h : tx a with
      | nil => rw [h] at c1; simp at c1
      | cons x xs => rw [h] at c1; simp at c1; simp [c1]
    rw [hp] at hb
    have hng : ¬ Good (tx a) := fun h => h.1 c1
    have HB := Lib.hid hb
    have HNG := Lib.hid hng
    clear hb hng hp c1 hf
    go_enter Tryz.func17, Tryz.ntmps17
    go_wp2_with (first
      | (go_at_call 36; refine (HB.out _).mono ?_; rintro e w1 ⟨rfl, hb1⟩; have X1 : Hid (Z39 w w1) := Lib.hid ((Z39.new w).keep hb1); have R1 := Lib.hid X1.out.1; have B1 := Lib.hid X1.out.2; clear hb1)
      | ((with_reducible refine wpList_store_row (o := ⟨none, .store 39 (.tmp 4) (.tmp 16), _, _, _, _⟩) ?b1 39 (.tmp 4) (.tmp 16) ?b2 w.heap.size Tryz.zeroCells39 ?b3 ?b4 39 R1.out.choose ?b5 ?b6 ?b7 ?b8 ?_); (case b1 => rfl); (case b2 => rfl); (case b3 => rfl); (case b4 => rfl); (case b5 => exact R1.out.choose_spec.2); (case b6 => rw [zero39_ok.1]; exact inf39); (case b7 => rw [zero39_ok.1]; exact R1.out.choose_spec.1); (case b8 => exact zero39_ok.2)))
    refine bodyPost_ret (v := .tuple #[.agg Tryz.zeroCells39, .int .i64 0]) (results_row_tmp (p := 4) (q := 5) rfl _ _ w.heap.size 39 _ (0, 0) _ rfl rfl (setRow_heap _ _ R1.out.choose _ 39 (0, 0) R1.out.choose_spec.2) und39 rfl (by rw [zero39_ok.1]; exact inf39)) rfl ⟨_, _, rfl, zero39_ok.1, by simpa using zero39_ok.2, zero39_at, by decide, by simpa using HNG.out, Below.setRow' B1.out (Nat.le_refl _) _⟩
  · have hp : [64].isPrefixOf (tx a) = false := by
      cases h : tx a with
      | nil => rfl
      | cons x xs =>
        rw [h] at c1
        have : ¬ x = 64 := fun e => c1 (by rw [e]; rfl)
        simp [List.isPrefixOf]
        exact fun e => this e.symm
    rw [hp] at hb
    have HB := Lib.hid hb
    have HC1 := Lib.hid c1
    clear hb hp c1
    by_cases c2 : ((tx a).any fun x => decide (128 ≤ x)) = true
    · rw [c2] at hf
      have hng : ¬ Good (tx a) := fun h => by
        obtain ⟨x, hx, hx2⟩ := List.any_eq_true.1 c2
        have h1 := h.2.1 x hx
        have h2 := of_decide_eq_true hx2
        exact absurd h1 (UInt8.not_lt.2 h2)
      have HNG := Lib.hid hng
      have HF := Lib.hid hf
      clear hng hf c2
      go_enter Tryz.func17, Tryz.ntmps17
      go_wp2_with (first
        | (go_at_call 36; refine (HB.out _).mono ?_; rintro e w1 ⟨rfl, hb1⟩; have X1 : Hid (Z39 w w1) := Lib.hid ((Z39.new w).keep hb1); clear hb1)
        | (go_at_call 21; refine (HF.out _).mono ?_; rintro e w2 ⟨rfl, hb2⟩; have X2 : Hid (Z39 w w2) := Lib.hid (X1.out.keep hb2); have R2 := Lib.hid X2.out.1; have B2 := Lib.hid X2.out.2; clear hb2)
        | ((with_reducible refine wpList_store_row (o := ⟨none, .store 39 (.tmp 4) (.tmp 23), _, _, _, _⟩) ?b1 39 (.tmp 4) (.tmp 23) ?b2 w.heap.size Tryz.zeroCells39 ?b3 ?b4 39 R2.out.choose ?b5 ?b6 ?b7 ?b8 ?_); (case b1 => rfl); (case b2 => rfl); (case b3 => rfl); (case b4 => rfl); (case b5 => exact R2.out.choose_spec.2); (case b6 => rw [zero39_ok.1]; exact inf39); (case b7 => rw [zero39_ok.1]; exact R2.out.choose_spec.1); (case b8 => exact zero39_ok.2)))
      refine bodyPost_ret (v := .tuple #[.agg Tryz.zeroCells39, .int .i64 2]) (results_row_tmp (p := 4) (q := 5) rfl _ _ w.heap.size 39 _ (0, 0) _ rfl rfl (setRow_heap _ _ R2.out.choose _ 39 (0, 0) R2.out.choose_spec.2) und39 rfl (by rw [zero39_ok.1]; exact inf39)) rfl ⟨_, _, rfl, zero39_ok.1, by simpa using zero39_ok.2, zero39_at, by decide, by simpa using HNG.out, Below.setRow' B2.out (Nat.le_refl _) _⟩
    · have c2' : ((tx a).any fun x => decide (128 ≤ x)) = false := Bool.eq_false_iff.2 c2
      rw [c2'] at hf
      have hsm : ∀ x ∈ tx a, x < 128 := fun x hx => by
        have := List.any_eq_false.1 c2' x hx
        simpa using this
      have HSM := Lib.hid hsm
      have HF := Lib.hid hf
      clear hf c2 c2' hsm
      have hwl := word_len (tx a)
      obtain ⟨W, hW⟩ : ∃ W, words (tx a) = W := ⟨_, rfl⟩
      rw [hW] at hwl
      have hgd : Good (tx a) ↔ Six W := by
        unfold Good
        rw [hW]
        exact ⟨fun h => h.2.2, fun h => ⟨HC1.out, HSM.out, h⟩⟩
      have HGD := Lib.hid hgd
      have HWL := Lib.hid hwl
      have htw := fun w => tWords a hs w
      rw [hW] at htw
      have HTW := Lib.hid htw
      clear hgd hwl htw hW
      by_cases c3 : W.length = 6
      · have hl : (W.map mk).length = 6 := by rw [List.length_map]; exact c3
        have hsz : ∀ x ∈ W.map mk, x.size < 1099511627776 := fun x hx => by
          obtain ⟨y, hy, rfl⟩ := List.mem_map.1 hx
          have := HWL.out y hy
          rw [mk_size]
          rw [tx_len] at this
          omega
        have hsix : (∀ k (h : k < (W.map mk).length), FF k (tx (W.map mk)[k])) ↔ Six W := by
          unfold Six
          constructor
          · intro p
            refine ⟨c3, fun i hi => ?_⟩
            have := p i (by rw [hl]; exact hi)
            rw [List.getElem_map, tx_mk] at this
            rw [List.getD_eq_getElem?_getD, List.getElem?_eq_getElem (by omega)]
            exact this
          · rintro ⟨_, p⟩ k hk
            rw [List.getElem_map, tx_mk]
            have := p k (by omega)
            rw [List.getD_eq_getElem?_getD, List.getElem?_eq_getElem (by rw [List.length_map] at hk; omega)] at this
            exact this
        have HS := Lib.hid hsix
        have HZ := Lib.hid hsz
        have HL := Lib.hid hl
        have HC3 := Lib.hid c3
        rw [c3] at HTW
        clear hl hsz hsix c3
        go_enter Tryz.func17, Tryz.ntmps17
        go_wp2_with (first
          | (go_at_call 36; refine (HB.out _).mono ?_; rintro e w1 ⟨rfl, hb1⟩; have X1 : Hid (Z39 w w1) := Lib.hid ((Z39.new w).keep hb1); clear hb1)
          | (go_at_call 21; refine (HF.out _).mono ?_; rintro e w2 ⟨rfl, hb2⟩; have X2 : Hid (Z39 w w2) := Lib.hid (X1.out.keep hb2); clear hb2)
          | (go_at_call 28; refine (HTW.out _).mono ?_; rintro e w3 ⟨A, c, rfl, hst, hb3⟩; obtain ⟨g, rfl, hg, hst⟩ := hst (by decide); have X3 : Hid (Z39 w w3) := Lib.hid (X2.out.keep hb3); have G3 := Lib.hid hst; clear hb3 hg hst)
          | (go_at_call 38; refine (tFill (W.map mk) HL.out g c _ G3.out).mono ?_; rintro e w4 ⟨h, rfl, hh, hst, hb4⟩; have X4 : Hid (Z39 w w4) := Lib.hid (X3.out.keep hb4); have G4 := Lib.hid hst; clear hb4 hh hst)
          | (go_at_call 39; refine (tSix (W.map mk) HL.out HZ.out h 6 _ G4.out).mono ?_; rintro e w5 ⟨us, v, rfl, hus, hal, hv1, hv2, hb5⟩; have X5 : Hid (Z39 w w5) := Lib.hid (X4.out.keep hb5); have US := Lib.hid (And.intro hus hal); have VS := Lib.hid (And.intro hv1 hv2); clear hb5 hus hal hv1 hv2; obtain ⟨vs, hvs1, hvs2, hvs3, hbd⟩ := build39 us US.out.1 US.out.2; have VSS := Lib.hid (And.intro hvs1 (And.intro hvs2 hvs3)); clear hvs1 hvs2 hvs3)
          | ((with_reducible refine wpList_store_row (o := ⟨none, .store 37 (.tmp 9) (.tmp 42), _, _, _, _⟩) ?b1 37 (.tmp 9) (.tmp 42) ?b2 w5.heap.size us ?b3 ?b4 37 Tryz.zeroCells37 ?b5 ?b6 ?b7 ?b8 ?_); (case b1 => rfl); (case b2 => rfl); (case b3 => rfl); (case b4 => rfl); (case b5 => exact heap_alloc_new _ _); (case b6 => rw [US.out.1]; exact inf37); (case b7 => rw [US.out.1]; exact Tryz.zeroCells37_size); (case b8 => exact US.out.2); generalize hW6 : World.setRow _ _ _ = W6; have X6 : Hid (Z39 w W6) := Lib.hid (by rw [← hW6, World.setRow_alloc_new]; exact X5.out.keep (bA (Below.refl _ _) _)); have R6 : Hid (W6.heap[w5.heap.size]? = some (.cells us 37 (0, 0))) := Lib.hid (by rw [← hW6, World.setRow_alloc_new]; exact heap_alloc_new _ _); have Q6 := Lib.hid X6.out.1; have B6 := Lib.hid X6.out.2; clear hW6)
          | ((with_reducible refine wpList_load_row (o := ⟨some 44, _, _, _, _, _⟩) ?a1 37 (.tmp 9) ?a2 w5.heap.size ?a3 37 us (0, 0) _ ?a4 und37 ?a5 ?a6 ?_); (case a1 => rfl); (case a2 => rfl); (case a3 => rfl); (case a5 => rfl); (case a6 => rw [US.out.1]; exact inf37); (case a4 => exact R6.out))
          | ((with_reducible refine wpList_build1 (o := ⟨some 45, _, _, _, _, _⟩) ?d1 39 2 (.tmp 44) ?d2 (.agg us) (.agg vs) ?d3 hbd ?_); (case d1 => rfl); (case d2 => rfl); (case d3 => rfl))
          | ((with_reducible refine wpList_store_row (o := ⟨none, .store 39 (.tmp 4) (.tmp 45), _, _, _, _⟩) ?b1 39 (.tmp 4) (.tmp 45) ?b2 w.heap.size vs ?b3 ?b4 39 Q6.out.choose ?b5 ?b6 ?b7 ?b8 ?_); (case b1 => rfl); (case b2 => rfl); (case b3 => rfl); (case b4 => rfl); (case b5 => exact Q6.out.choose_spec.2); (case b6 => rw [VSS.out.1]; exact inf39); (case b7 => rw [VSS.out.1]; exact Q6.out.choose_spec.1); (case b8 => exact VSS.out.2.1)))
        refine bodyPost_ret (v := .tuple #[.agg vs, .int .i64 v]) (results_row_tmp (p := 4) (q := 5) rfl _ _ w.heap.size 39 _ (0, 0) _ rfl rfl (setRow_heap _ _ Q6.out.choose _ 39 (0, 0) Q6.out.choose_spec.2) und39 rfl (by rw [VSS.out.1]; exact inf39)) rfl ⟨_, _, rfl, VSS.out.1, by simpa using VSS.out.2.1, VSS.out.2.2, VS.out.1, by rw [VS.out.2, HS.out, HGD.out], Below.setRow' B6.out (Nat.le_refl _) _⟩
      · have hng : ¬ Good (tx a) := by rw [HGD.out]; exact fun h => c3 h.1
        have HNG := Lib.hid hng
        have HC3 := Lib.hid c3
        clear hng c3
        obtain ⟨n, hn⟩ : ∃ n, W.length = n := ⟨_, rfl⟩
        rw [hn] at HTW HC3
        clear hn
        go_enter Tryz.func17, Tryz.ntmps17
        go_wp2_with (first
          | (go_at_call 36; refine (HB.out _).mono ?_; rintro e w1 ⟨rfl, hb1⟩; have X1 : Hid (Z39 w w1) := Lib.hid ((Z39.new w).keep hb1); clear hb1)
          | (go_at_call 21; refine (HF.out _).mono ?_; rintro e w2 ⟨rfl, hb2⟩; have X2 : Hid (Z39 w w2) := Lib.hid (X1.out.keep hb2); clear hb2)
          | (go_at_call 28; refine (HTW.out _).mono ?_; rintro e w3 ⟨A, c, rfl, hst, hb3⟩; clear hst; have X3 : Hid (Z39 w w3) := Lib.hid (X2.out.keep hb3); clear hb3)
          | (go_at_call 38; refine (tFillNo A n c HC3.out _).mono ?_; rintro e w4 ⟨rfl, hb4⟩; have X4 : Hid (Z39 w w4) := Lib.hid (X3.out.keep hb4); have R4 := Lib.hid X4.out.1; have B4 := Lib.hid X4.out.2; clear hb4)
          | ((with_reducible refine wpList_store_row (o := ⟨none, .store 39 (.tmp 4) (.tmp 34), _, _, _, _⟩) ?b1 39 (.tmp 4) (.tmp 34) ?b2 w.heap.size Tryz.zeroCells39 ?b3 ?b4 39 R4.out.choose ?b5 ?b6 ?b7 ?b8 ?_); (case b1 => rfl); (case b2 => rfl); (case b3 => rfl); (case b4 => rfl); (case b5 => exact R4.out.choose_spec.2); (case b6 => rw [zero39_ok.1]; exact inf39); (case b7 => rw [zero39_ok.1]; exact R4.out.choose_spec.1); (case b8 => exact zero39_ok.2)))
        refine bodyPost_ret (v := .tuple #[.agg Tryz.zeroCells39, .int .i64 0]) (results_row_tmp (p := 4) (q := 5) rfl _ _ w.heap.size 39 _ (0, 0) _ rfl rfl (setRow_heap _ _ R4.out.choose _ 39 (0, 0) R4.out.choose_spec.2) und39 rfl (by rw [zero39_ok.1]; exact inf39)) rfl ⟨_, _, rfl, zero39_ok.1, by simpa using zero39_ok.2, zero39_at, by decide, by simpa using HNG.out, Below.setRow' B4.out (Nat.le_refl _) _⟩
end Go.Proofs.YtjmgebhjkbcpcaaGreatDoor.Txt
end
section
set_option linter.unusedVariables false
set_option linter.unusedSimpArgs false
namespace Go.Proofs.YtjmgebhjkbcpcaaGreatDoor.Txt
open Go.Proofs.YtjmgebhjkbcpcaaGreatDoor.NM
open Go Go.RowKit Go.Lib Go.Proofs.YtjmgebhjkbcpcaaGreatDoorW.PrintWords
set_option maxRecDepth 100000
theorem mem_drop {p : UInt8 → Bool} {l : Bs} {x : UInt8} (h : x ∈ l) : x ∈ l.dropWhile p ∨ p x = true := by
  induction l with
  | nil => cases h
  | cons y r ih =>
    rw [List.dropWhile_cons]
    by_cases c : p y = true
    · rw [if_pos c]
      rcases List.mem_cons.1 h with rfl | h
      · exact .inr c
      · exact ih h
    · rw [if_neg c]; exact .inl h
theorem mem_trim {l : Bs} {x : UInt8} (h : x ∈ l) : x ∈ trim l ∨ blank x = true := by
  rcases mem_drop (p := blank) h with h | h
  · rcases mem_drop (p := blank) (List.mem_reverse.2 h) with h | h
    · exact .inl (List.mem_reverse.2 h)
    · exact .inr h
  · exact .inr h
theorem blank_ascii {x : UInt8} (h : blank x = true) : x < 128 := by
  have key : ∀ n : Fin 256, blank (UInt8.ofNat n.val) = true → UInt8.ofNat n.val < 128 := by decide +kernel
  have := key ⟨x.toNat, x.toNat_lt⟩
  simp only [UInt8.ofNat_toNat] at this
  exact this h
theorem fine_zone {a : ByteArray} (hF : Fine (tx a)) (h : isHead (tx a) = true) : ∃ i e : Nat, ∃ A b : Bs, fiI 32 (tx a) 0 = i ∧ fiI 61 (tx a) 0 = e ∧ e + 1 ≤ i ∧ i ≤ a.size ∧ a.extract (e + 1) i = mk (zname A) ∧ a.extract i a.size = mk b ∧
    zoneFine (zname A) ∧ Good (trim b) ∧ (∀ x ∈ b, x < 128) ∧ b.length ≤ a.size ∧ words (trim b) = fields (tx a) := by
  unfold Fine at hF
  rw [if_pos h] at hF
  obtain ⟨A, b, hs, hz, hg⟩ := hF
  obtain ⟨i, e, h1, h2, h3, h4, h5, h6⟩ := zone_cut h hs
  refine ⟨i, e, A, b, h1, h2, h3, h4, h5, h6, hz, hg, fun x hx => ?_, ?_, by rw [fields_zone h hs, words_trim]⟩
  · rcases mem_trim hx with hx | hx
    · exact hg.2.1 x hx
    · exact blank_ascii hx
  · have := (toSpace_some hs).1
    rw [← tx_len, this]; simp
/-- behind the head: the text without a zone -/
structure BX (w : World) (a : ByteArray) (t : ByteArray) (wc : World) : Prop where
  bx : wc.heap[w.heap.size]? = some (.cells #[.int .i64 125] 65 (0, 0))
  be : Below w.heap.size w wc
  good : Good (tx t)
  size : t.size ≤ a.size
  ws : words (tx t) = fields (tx a)
set_option maxHeartbeats 4000000 in
theorem tParse25 (a : ByteArray) (hs : a.size < 1000000000) (hF : Fine (tx a)) (w : World) : Calls Tryz.prog 25 #[.agg #[.int .i64 125], .string a] w fun e w' => ∃ g p, e = .returned (.tuple #[.iface 101 (.pointer (some ⟨g, 0, none⟩)), .nilIface]) ∧ w.heap.size ≤ g ∧
    w'.heap[g]? = some (.cells #[.int .u64 (fb 0 ((fields (tx a)).getD 0 [])), .int .u64 (fb 1 ((fields (tx a)).getD 1 [])), .int .u64 (fb 2 ((fields (tx a)).getD 2 [])), .int .u64 (fb 3 ((fields (tx a)).getD 3 [])), .int .u64 (fb 4 ((fields (tx a)).getD 4 [])), .int .u64 (fb 5 ((fields (tx a)).getD 5 [])), .pointer p] 103 (0, 0)) ∧ Below w.heap.size w w' := by
  have hne : ((a.size : Int) == 0) = false := by
    have h0 : (tx a) ≠ [] := by
      intro e
      rw [e] at hF
      unfold Fine at hF
      rw [if_neg (by decide)] at hF
      have := hF.2.2.1; simp [words_nil] at this
    have : a.size ≠ 0 := fun e => h0 (List.eq_nil_of_length_eq_zero (by rw [tx_len]; exact e))
    rw [beq_eq_false_iff_ne]; intro e; exact this (by omega)
  have hp := fun b w => tPrefix a b w
  have hi := fun c w => tIndex a c (by omega) w
  have hhd : isHead (tx a) = ([84, 90, 61].isPrefixOf (tx a) || [67, 82, 79, 78, 95, 84, 90, 61].isPrefixOf (tx a)) := rfl
  have HP := Lib.hid hp
  have HI := Lib.hid hi
  have HF := Lib.hid hF
  have b0 : (w.alloc (.cells #[.int .i64 125] 65)).heap[w.heap.size]? = some (.cells #[.int .i64 125] 65 (0, 0)) := heap_alloc_new _ _
  have B0 := Lib.hid b0
  clear hF hp hi b0
  go_enter Tryz.func25, Tryz.ntmps25
  go_upto_region 4 with fail
  obtain ⟨hb, hhb⟩ : ∃ hb, isHead (tx a) = hb := ⟨_, rfl⟩
  go_cut [28] from 23 to 28 (fun v28 wc => v28 = .bool hb ∧ Aside0 (wc.heap[w.heap.size]? = some (.cells #[.int .i64 125] 65 (0, 0)) ∧ Below w.heap.size w wc))
  case first =>
    have BE0 := Lib.hid (bA (Below.refl w.heap.size w) (.cells #[.int .i64 125] 65))
    have hp1 := fun w => HP.out ⟨#[84, 90, 61]⟩ w
    have hp2 := fun w => HP.out ⟨#[67, 82, 79, 78, 95, 84, 90, 61]⟩ w
    have e1 : tx ⟨#[84, 90, 61]⟩ = [84, 90, 61] := rfl
    have e2 : tx ⟨#[67, 82, 79, 78, 95, 84, 90, 61]⟩ = [67, 82, 79, 78, 95, 84, 90, 61] := rfl
    rw [e1] at hp1
    rw [e2] at hp2
    clear e1 e2
    cases q1 : [84, 90, 61].isPrefixOf (tx a) with
    | true =>
      rw [q1] at hp1
      have HP1 := Lib.hid hp1
      have HP2 := Lib.hid hp2
      have HH := Lib.hid (show isHead (tx a) = true by rw [hhd, q1]; rfl)
      clear hp1 hp2 q1
      go_wp2_with (first
      | (go_at_call 44; (with_reducible refine (HP1.out _).mono ?_); rintro e w1 ⟨rfl, hb1⟩; have BE0 := Lib.hid (BE0.out.trans (hb1.mono BE0.out.size)); have B0 := Lib.hid ((hb1.block _ (Array.getElem?_eq_some_iff.1 B0.out).1).trans B0.out); clear hb1)
      | (go_at_call 44; (with_reducible refine (HP2.out _).mono ?_); rintro e w1 ⟨rfl, hb1⟩; have BE0 := Lib.hid (BE0.out.trans (hb1.mono BE0.out.size)); have B0 := Lib.hid ((hb1.block _ (Array.getElem?_eq_some_iff.1 B0.out).1).trans B0.out); clear hb1))
      go_meet
      exact ⟨by rw [← hhb, HH.out], ⟨B0.out, BE0.out⟩⟩
    | false =>
      rw [q1] at hp1
      have hh2 : hb = [67, 82, 79, 78, 95, 84, 90, 61].isPrefixOf (tx a) := by rw [← hhb, hhd, q1, Bool.false_or]
      rw [← hh2] at hp2
      have HP1 := Lib.hid hp1
      have HP2 := Lib.hid hp2
      clear hp1 hp2 q1 hh2
      go_wp2_with (first
      | (go_at_call 44; (with_reducible refine (HP1.out _).mono ?_); rintro e w1 ⟨rfl, hb1⟩; have BE0 := Lib.hid (BE0.out.trans (hb1.mono BE0.out.size)); have B0 := Lib.hid ((hb1.block _ (Array.getElem?_eq_some_iff.1 B0.out).1).trans B0.out); clear hb1)
      | (go_at_call 44; (with_reducible refine (HP2.out _).mono ?_); rintro e w1 ⟨rfl, hb1⟩; have BE0 := Lib.hid (BE0.out.trans (hb1.mono BE0.out.size)); have B0 := Lib.hid ((hb1.block _ (Array.getElem?_eq_some_iff.1 B0.out).1).trans B0.out); clear hb1))
      go_meet
      exact ⟨rfl, ⟨B0.out, BE0.out⟩⟩
  obtain ⟨rfl, HC⟩ := hcut
  have B0 := Lib.hid HC.out.1
  have BE0 := Lib.hid HC.out.2
  clear HC
  go_upto_if 28 with fail
  go_cut [1, 6] from 4 to 11 (fun v1 v6 wc => ∃ (t : ByteArray) (p : Option Addr), v1 = .string t ∧ v6 = .pointer p ∧ Aside0 (BX w a t wc))
  case first =>
    cases hb with
    | true =>
      have hh := hhb
      obtain ⟨i, e, A, b, h1, h2, h3, h4, h5, h6, hz, hg, hasc, hbl, hw⟩ := fine_zone HF.out hh
      have hi1 : ∀ w, Calls Tryz.prog 45 #[.string a, .string ⟨#[32]⟩] w _ := fun w => HI.out 32 w
      have hi2 : ∀ w, Calls Tryz.prog 45 #[.string a, .string ⟨#[61]⟩] w _ := fun w => HI.out 61 w
      rw [h1] at hi1
      rw [h2] at hi2
      have hl := fun w => tLoad (mk (zname A)) (by rw [tx_mk]; exact hz) w
      have ht := fun w => tTrimG (mk b) (by rw [tx_mk]; exact hasc) (by rw [mk_size]; omega) w
      rw [tx_mk] at ht
      have HL := Lib.hid hl
      have HT := Lib.hid ht
      have HI1 := Lib.hid hi1
      have HI2 := Lib.hid hi2
      have HG := Lib.hid (And.intro hg (And.intro hbl hw))
      have hei : (e : Int) + 1 ≤ (i : Int) := by omega
      have hia : (i : Int) ≤ (a.size : Int) := by omega
      clear hl ht hi1 hi2 hg hbl hw hz hasc h1 h2
      go_wp2_with (first
        | (go_at_call 45; (with_reducible refine (HI1.out _).mono ?_); rintro e w1 ⟨rfl, hb1⟩; have BE0 := Lib.hid (BE0.out.trans (hb1.mono BE0.out.size)); have B0 := Lib.hid ((hb1.block _ (Array.getElem?_eq_some_iff.1 B0.out).1).trans B0.out); clear hb1)
        | (go_at_call 45; (with_reducible refine (HI2.out _).mono ?_); rintro e w1 ⟨rfl, hb1⟩; have BE0 := Lib.hid (BE0.out.trans (hb1.mono BE0.out.size)); have B0 := Lib.hid ((hb1.block _ (Array.getElem?_eq_some_iff.1 B0.out).1).trans B0.out); clear hb1)
        | (go_at_call 46; (with_reducible refine (HL.out _).mono ?_); rintro e w1 ⟨p, rfl, hb1⟩; have BE0 := Lib.hid (BE0.out.trans (hb1.mono BE0.out.size)); have B0 := Lib.hid ((hb1.block _ (Array.getElem?_eq_some_iff.1 B0.out).1).trans B0.out); clear hb1)
        | (go_at_call 47; (with_reducible refine (HT.out _).mono ?_); rintro e w1 ⟨rfl, hb1⟩; have BE0 := Lib.hid (BE0.out.trans (hb1.mono BE0.out.size)); have B0 := Lib.hid ((hb1.block _ (Array.getElem?_eq_some_iff.1 B0.out).1).trans B0.out); clear hb1))
      go_meet
      exact ⟨_, p, rfl, rfl, ⟨⟨B0.out, BE0.out, by rw [tx_mk]; exact HG.out.1, by have := HG.out.2.1; have := trim_le b; rw [mk_size]; omega, HG.out.2.2⟩⟩⟩
    | false =>
      have hh := hhb
      have hgood : Good (tx a) := by have := HF.out; unfold Fine at this; rw [if_neg (by rw [hh]; decide)] at this; exact this
      have HG := Lib.hid (And.intro hgood (fields_plain hh))
      clear hgood hh
      go_wp2
      go_meet
      exact ⟨a, none, rfl, rfl, ⟨⟨B0.out, BE0.out, HG.out.1, Nat.le_refl _, HG.out.2.symm⟩⟩⟩
  obtain ⟨t, p, rfl, rfl, HX⟩ := hcut
  obtain ⟨x0, x1, x2, x3, x4, x5, hW⟩ : ∃ x0 x1 x2 x3 x4 x5, words (tx t) = [x0, x1, x2, x3, x4, x5] := by
    have := HX.out.good.2.2.1
    match h : words (tx t), this with
    | [a, b, c, d, e, f], _ => exact ⟨a, b, c, d, e, f, rfl⟩
  have hts : t.size < 1000000000 := by have := HX.out.size; omega
  have hfl := fun w => tFieldsG t HX.out.good.2.1 hts (by rw [hW]; simp) w
  have hff := HX.out.good.2.2.2
  have hwl := word_len (tx t)
  have hfd := HX.out.ws
  rw [hW] at hfl hff hwl hfd
  have hpre : ∀ w, Calls Tryz.prog 44 #[.string t, .string ⟨#[64]⟩] w fun e w' => e = .returned (.bool false) ∧ Below w.heap.size w w' := fun w => by
    have h := HP.out
    have := tPrefix t ⟨#[64]⟩ w
    have e : (tx ⟨#[64]⟩).isPrefixOf (tx t) = false := by
      have hg := HX.out.good.1
      cases hc : tx t with
      | nil => rfl
      | cons y r =>
        rw [hc] at hg
        have : y ≠ 64 := fun e => hg (by rw [e]; rfl)
        show ((64 : UInt8) == y && true) = false
        simp [Ne.symm this]
    rw [e] at this
    exact this
  have F0 := Lib.hid (hff 0 (by decide))
  have F1 := Lib.hid (hff 1 (by decide))
  have F2 := Lib.hid (hff 2 (by decide))
  have F3 := Lib.hid (hff 3 (by decide))
  have F4 := Lib.hid (hff 4 (by decide))
  have F5 := Lib.hid (hff 5 (by decide))
  have L0 := Lib.hid (fun x (hx : x ∈ [x0, x1, x2, x3, x4, x5]) => show (mk x).size < 1000000000 by have := hwl x hx; rw [tx_len] at this; rw [mk_size]; omega)
  have HFL := Lib.hid hfl
  have HPRE := Lib.hid hpre
  have HFD := Lib.hid hfd
  have B1 := Lib.hid HX.out.bx
  have BE1 := Lib.hid HX.out.be
  clear hfl hff hwl hfd hpre hW HX HP HI HF hhd hhb hne
  clear B0 BE0
  go_upto_region 18 with (first
    | (go_at_call 44; (with_reducible refine (HPRE.out _).mono ?_); rintro e w1 ⟨rfl, hb1⟩; have BE1 := Lib.hid (BE1.out.trans (hb1.mono BE1.out.size)); have B1 := Lib.hid ((hb1.block _ (Array.getElem?_eq_some_iff.1 B1.out).1).trans B1.out); clear hb1)
    | (go_at_call 49; (with_reducible refine (HFL.out _).mono ?_); rintro e w2 ⟨g, c, rfl, hg, hst, hb1⟩; have BE1 := Lib.hid (BE1.out.trans (hb1.mono BE1.out.size)); have B1 := Lib.hid ((hb1.block _ (Array.getElem?_eq_some_iff.1 B1.out).1).trans B1.out); have ST := Lib.hid hst; clear hb1 hst hg))
  have N1 := Lib.hid BE1.out.size
  have E1 := Lib.hid (show ErrNil (w2.alloc (.cells #[.nilIface] 72)) w2.heap.size from heap_alloc_new _ _)
  have hbA : Below w2.heap.size w2 (w2.alloc (.cells #[.nilIface] 72)) := bA (Below.refl _ _) _
  have ST := Lib.hid (ST.out.move (hbA.block _ ST.out.lt))
  have BE1 := Lib.hid (BE1.out.trans (hbA.mono BE1.out.size))
  have B1 := Lib.hid ((hbA.block _ (Array.getElem?_eq_some_iff.1 B1.out).1).trans B1.out)
  clear hbA
  generalize hx3 : w2.heap.size = eb at *
  generalize hw3 : w2.alloc (.cells #[.nilIface] 72) = w3 at *
  clear hx3 hw3
  have cb : w3.cell? ⟨w.heap.size, 0, none⟩ = some (.int .i64 125) := cell_of_row _ _ 0 _ _ _ B1.out
  have hmf : ∀ (fn : Fn) (first cap : Array Value) (w : World), (Instr.makeFunc fn first cap).run Tryz.prog w = .ok (.func fn first cap) w := fun _ _ _ _ => rfl
  go_upto_region 22 with (go_at_call 50; (with_reducible refine (tNormal g c ([x0, x1, x2, x3, x4, x5].map mk) rfl _ ST.out).mono ?_); rintro e w4 ⟨x, rfl, hx, hsx, hb1⟩; have E2 := Lib.hid (E1.out.keep hb1); obtain ⟨e1, e2⟩ := E2.out.cells; have X4 := Lib.hid hx; have S4 := Lib.hid hsx; have BE2 := Lib.hid (BE1.out.trans (hb1.mono BE1.out.size)); clear hb1 hx hsx)
  have P0 := Lib.hid (show PS w x eb ([x0, x1, x2, x3, x4, x5].map mk) (w4.setCell ⟨eb, 0, none⟩ .nilIface) from ⟨S4.out.move (heap_setCell_other _ _ _ _ (by have := (Array.getElem?_eq_some_iff.1 E1.out).1; have := X4.out; show x ≠ eb; omega)), heap_setCell_same _ _ 0 _ _ .nilIface E2.out, below_set BE2.out N1.out⟩)
  generalize hw5 : w4.setCell ⟨eb, 0, none⟩ .nilIface = w5 at *
  clear hw5 E1 ST BE1 B1 E2 S4 BE2 e1 e2 cb X4
  obtain ⟨b0, hb0⟩ : ∃ b, fb 0 (tx (mk x0)) = b := ⟨_, rfl⟩
  have hk : ∀ W, ErrNil W eb → ∀ nm, NMap 0 W nm → Calls Tryz.prog 51 #[.string (mk x0), .agg #[.int .u64 0, .int .u64 59, nm], .pointer (some ⟨eb, 0, none⟩)] W (fun e w' => e = .returned (.int .u64 b0) ∧ Below W.heap.size W w') := fun W he nm hn => by rw [← hb0]; exact tGet51 0 (mk x0) (L0.out x0 (by simp)) F0.out eb W he nm hn
  have HK := Lib.hid hk
  have HB0 := Lib.hid hb0
  have hc : _ = some (Value.string (mk x0)) := P0.out.st.cell 0 (by simp)
  clear hk hb0
  go_upto_region 22 with fail
  go_region_held3 (fun W => W.cell? ⟨x, 0, none⟩ = some (.string (mk x0))) (first | exact hc | exact hd | exact he) (first
    | (go_at_call 53; (with_reducible refine (tSeconds _).mono ?_); rintro e w6 ⟨nm, rfl, hnm, hb1⟩; have P1 := Lib.hid (P0.out.keep ((Below.refl _ _).drew.trans hb1)); have NMM := Lib.hid hnm; have hd : _ = some (Value.string (mk x0)) := P1.out.st.cell 0 (by simp); clear hb1 hnm)
    | (go_at_call 51; (with_reducible refine (HK.out _ P1.out.er _ NMM.out).mono ?_); rintro e w7 ⟨rfl, hb1⟩; have P2 := Lib.hid (P1.out.keep hb1); have he : _ = some (Value.string (mk x0)) := P2.out.st.cell 0 (by simp); clear hb1))
  have P0 := Lib.hid P2.out
  clear hc hd he HK NMM
  obtain ⟨b1, hb1⟩ : ∃ b, fb 1 (tx (mk x1)) = b := ⟨_, rfl⟩
  have hk : ∀ W, ErrNil W eb → ∀ nm, NMap 1 W nm → Calls Tryz.prog 51 #[.string (mk x1), .agg #[.int .u64 0, .int .u64 59, nm], .pointer (some ⟨eb, 0, none⟩)] W (fun e w' => e = .returned (.int .u64 b1) ∧ Below W.heap.size W w') := fun W he nm hn => by rw [← hb1]; exact tGet51 1 (mk x1) (L0.out x1 (by simp)) F1.out eb W he nm hn
  have HK := Lib.hid hk
  have HB1 := Lib.hid hb1
  have hc : _ = some (Value.string (mk x1)) := P0.out.st.cell 1 (by simp)
  clear hk hb1
  go_upto_region 23 with fail
  go_region_held3 (fun W => W.cell? ⟨x, 1, none⟩ = some (.string (mk x1))) (first | exact hc | exact hd | exact he) (first
    | (go_at_call 54; (with_reducible refine (tMinutes _).mono ?_); rintro e w6 ⟨nm, rfl, hnm, hb1⟩; have P1 := Lib.hid (P0.out.keep ((Below.refl _ _).drew.trans hb1)); have NMM := Lib.hid hnm; have hd : _ = some (Value.string (mk x1)) := P1.out.st.cell 1 (by simp); clear hb1 hnm)
    | (go_at_call 51; (with_reducible refine (HK.out _ P1.out.er _ NMM.out).mono ?_); rintro e w7 ⟨rfl, hb1⟩; have P2 := Lib.hid (P1.out.keep hb1); have he : _ = some (Value.string (mk x1)) := P2.out.st.cell 1 (by simp); clear hb1))
  have P0 := Lib.hid P2.out
  clear hc hd he HK NMM
  obtain ⟨b2, hb2⟩ : ∃ b, fb 2 (tx (mk x2)) = b := ⟨_, rfl⟩
  have hk : ∀ W, ErrNil W eb → ∀ nm, NMap 2 W nm → Calls Tryz.prog 51 #[.string (mk x2), .agg #[.int .u64 0, .int .u64 23, nm], .pointer (some ⟨eb, 0, none⟩)] W (fun e w' => e = .returned (.int .u64 b2) ∧ Below W.heap.size W w') := fun W he nm hn => by rw [← hb2]; exact tGet51 2 (mk x2) (L0.out x2 (by simp)) F2.out eb W he nm hn
  have HK := Lib.hid hk
  have HB2 := Lib.hid hb2
  have hc : _ = some (Value.string (mk x2)) := P0.out.st.cell 2 (by simp)
  clear hk hb2
  go_upto_region 24 with fail
  go_region_held3 (fun W => W.cell? ⟨x, 2, none⟩ = some (.string (mk x2))) (first | exact hc | exact hd | exact he) (first
    | (go_at_call 55; (with_reducible refine (tHours _).mono ?_); rintro e w6 ⟨nm, rfl, hnm, hb1⟩; have P1 := Lib.hid (P0.out.keep ((Below.refl _ _).drew.trans hb1)); have NMM := Lib.hid hnm; have hd : _ = some (Value.string (mk x2)) := P1.out.st.cell 2 (by simp); clear hb1 hnm)
    | (go_at_call 51; (with_reducible refine (HK.out _ P1.out.er _ NMM.out).mono ?_); rintro e w7 ⟨rfl, hb1⟩; have P2 := Lib.hid (P1.out.keep hb1); have he : _ = some (Value.string (mk x2)) := P2.out.st.cell 2 (by simp); clear hb1))
  have P0 := Lib.hid P2.out
  clear hc hd he HK NMM
  obtain ⟨b3, hb3⟩ : ∃ b, fb 3 (tx (mk x3)) = b := ⟨_, rfl⟩
  have hk : ∀ W, ErrNil W eb → ∀ nm, NMap 3 W nm → Calls Tryz.prog 51 #[.string (mk x3), .agg #[.int .u64 1, .int .u64 31, nm], .pointer (some ⟨eb, 0, none⟩)] W (fun e w' => e = .returned (.int .u64 b3) ∧ Below W.heap.size W w') := fun W he nm hn => by rw [← hb3]; exact tGet51 3 (mk x3) (L0.out x3 (by simp)) F3.out eb W he nm hn
  have HK := Lib.hid hk
  have HB3 := Lib.hid hb3
  have hc : _ = some (Value.string (mk x3)) := P0.out.st.cell 3 (by simp)
  clear hk hb3
  go_upto_region 25 with fail
  go_region_held3 (fun W => W.cell? ⟨x, 3, none⟩ = some (.string (mk x3))) (first | exact hc | exact hd | exact he) (first
    | (go_at_call 56; (with_reducible refine (tDom _).mono ?_); rintro e w6 ⟨nm, rfl, hnm, hb1⟩; have P1 := Lib.hid (P0.out.keep ((Below.refl _ _).drew.trans hb1)); have NMM := Lib.hid hnm; have hd : _ = some (Value.string (mk x3)) := P1.out.st.cell 3 (by simp); clear hb1 hnm)
    | (go_at_call 51; (with_reducible refine (HK.out _ P1.out.er _ NMM.out).mono ?_); rintro e w7 ⟨rfl, hb1⟩; have P2 := Lib.hid (P1.out.keep hb1); have he : _ = some (Value.string (mk x3)) := P2.out.st.cell 3 (by simp); clear hb1))
  have P0 := Lib.hid P2.out
  clear hc hd he HK NMM
  obtain ⟨b4, hb4⟩ : ∃ b, fb 4 (tx (mk x4)) = b := ⟨_, rfl⟩
  have hk : ∀ W, ErrNil W eb → ∀ nm, NMap 4 W nm → Calls Tryz.prog 51 #[.string (mk x4), .agg #[.int .u64 1, .int .u64 12, nm], .pointer (some ⟨eb, 0, none⟩)] W (fun e w' => e = .returned (.int .u64 b4) ∧ Below W.heap.size W w') := fun W he nm hn => by rw [← hb4]; exact tGet51 4 (mk x4) (L0.out x4 (by simp)) F4.out eb W he nm hn
  have HK := Lib.hid hk
  have HB4 := Lib.hid hb4
  have hc : _ = some (Value.string (mk x4)) := P0.out.st.cell 4 (by simp)
  clear hk hb4
  go_upto_region 26 with fail
  go_region_held3 (fun W => W.cell? ⟨x, 4, none⟩ = some (.string (mk x4))) (first | exact hc | exact hd | exact he) (first
    | (go_at_call 57; (with_reducible refine (tMonths _).mono ?_); rintro e w6 ⟨nm, rfl, hnm, hb1⟩; have P1 := Lib.hid (P0.out.keep ((Below.refl _ _).drew.trans hb1)); have NMM := Lib.hid hnm; have hd : _ = some (Value.string (mk x4)) := P1.out.st.cell 4 (by simp); clear hb1 hnm)
    | (go_at_call 51; (with_reducible refine (HK.out _ P1.out.er _ NMM.out).mono ?_); rintro e w7 ⟨rfl, hb1⟩; have P2 := Lib.hid (P1.out.keep hb1); have he : _ = some (Value.string (mk x4)) := P2.out.st.cell 4 (by simp); clear hb1))
  have P0 := Lib.hid P2.out
  clear hc hd he HK NMM
  obtain ⟨b5, hb5⟩ : ∃ b, fb 5 (tx (mk x5)) = b := ⟨_, rfl⟩
  have hk : ∀ W, ErrNil W eb → ∀ nm, NMap 5 W nm → Calls Tryz.prog 51 #[.string (mk x5), .agg #[.int .u64 0, .int .u64 6, nm], .pointer (some ⟨eb, 0, none⟩)] W (fun e w' => e = .returned (.int .u64 b5) ∧ Below W.heap.size W w') := fun W he nm hn => by rw [← hb5]; exact tGet51 5 (mk x5) (L0.out x5 (by simp)) F5.out eb W he nm hn
  have HK := Lib.hid hk
  have HB5 := Lib.hid hb5
  have hc : _ = some (Value.string (mk x5)) := P0.out.st.cell 5 (by simp)
  clear hk hb5
  go_upto_region 27 with fail
  go_region_held3 (fun W => W.cell? ⟨x, 5, none⟩ = some (.string (mk x5))) (first | exact hc | exact hd | exact he) (first
    | (go_at_call 58; (with_reducible refine (tDow _).mono ?_); rintro e w6 ⟨nm, rfl, hnm, hb1⟩; have P1 := Lib.hid (P0.out.keep ((Below.refl _ _).drew.trans hb1)); have NMM := Lib.hid hnm; have hd : _ = some (Value.string (mk x5)) := P1.out.st.cell 5 (by simp); clear hb1 hnm)
    | (go_at_call 51; (with_reducible refine (HK.out _ P1.out.er _ NMM.out).mono ?_); rintro e w7 ⟨rfl, hb1⟩; have P2 := Lib.hid (P1.out.keep hb1); have he : _ = some (Value.string (mk x5)) := P2.out.st.cell 5 (by simp); clear hb1))
  have P0 := Lib.hid P2.out
  clear hc hd he HK NMM
  obtain ⟨e1, e2⟩ := P0.out.er.cells
  go_wp2
  go_ret2
  refine ⟨_, p, rfl, P0.out.be.size, ?_, bA P0.out.be _⟩
  rw [← HFD.out]
  have k0 : fb 0 (([x0, x1, x2, x3, x4, x5] : List Bs).getD 0 []) = b0 := HB0.out
  have k1 : fb 1 (([x0, x1, x2, x3, x4, x5] : List Bs).getD 1 []) = b1 := HB1.out
  have k2 : fb 2 (([x0, x1, x2, x3, x4, x5] : List Bs).getD 2 []) = b2 := HB2.out
  have k3 : fb 3 (([x0, x1, x2, x3, x4, x5] : List Bs).getD 3 []) = b3 := HB3.out
  have k4 : fb 4 (([x0, x1, x2, x3, x4, x5] : List Bs).getD 4 []) = b4 := HB4.out
  have k5 : fb 5 (([x0, x1, x2, x3, x4, x5] : List Bs).getD 5 []) = b5 := HB5.out
  rw [k0, k1, k2, k3, k4, k5]
  exact heap_alloc_new _ _
end Go.Proofs.YtjmgebhjkbcpcaaGreatDoor.Txt
end
section
set_option linter.unusedVariables false
set_option linter.unusedSimpArgs false
namespace Go.Proofs.YtjmgebhjkbcpcaaGreatDoor.Txt
open Go.Proofs.YtjmgebhjkbcpcaaGreatDoor.NM
open Go Go.RowKit Go.Lib Go.Proofs.YtjmgebhjkbcpcaaGreatDoorW.PrintWords
set_option maxRecDepth 100000
/-- a schedule as the program's answers carry it -/
def schedV (b0 b1 b2 b3 b4 b5 : Int) : Value := .agg #[.bool false, .int .i64 0, .int .u64 b0, .int .u64 b1, .int .u64 b2, .int .u64 b3, .int .u64 b4, .int .u64 b5]
theorem assert101 (v : Value) (w : World) : (Instr.typeAssert (.iface 101 v) 70 101 true).run Tryz.prog w = .ok (.tuple #[v, .bool true]) w := by
  have h : Tryz.prog.underlying 101 = some (.pointer 103) := by kernel_rfl
  simp [Instr.typeAssert, run_underlying h]
set_option maxHeartbeats 1000000 in
theorem tPlain24 (g : Nat) (p : Option Addr) (b0 b1 b2 b3 b4 b5 : Int) (w : World) (h : w.heap[g]? = some (.cells #[.int .u64 b0, .int .u64 b1, .int .u64 b2, .int .u64 b3, .int .u64 b4, .int .u64 b5, .pointer p] 103 (0, 0))) :
    Calls Tryz.prog 24 #[.iface 101 (.pointer (some ⟨g, 0, none⟩)), .nilIface] w fun e w' => e = .returned (.tuple #[.agg #[.bool false, .int .i64 0, .int .u64 b0, .int .u64 b1, .int .u64 b2, .int .u64 b3, .int .u64 b4, .int .u64 b5], .bool true]) ∧ Below w.heap.size w w' := by
  have hlt := (Array.getElem?_eq_some_iff.1 h).1
  have hta := assert101
  have H := Lib.hid h
  go_enter Tryz.func24, Tryz.ntmps24
  go_upto_region 6 with fail
  have hD : ∀ o, (w.alloc o).cell? ⟨g, 0, none⟩ = some (.int .u64 b0) ∧ (w.alloc o).cell? ⟨g, 1, none⟩ = some (.int .u64 b1) ∧ (w.alloc o).cell? ⟨g, 2, none⟩ = some (.int .u64 b2) ∧ (w.alloc o).cell? ⟨g, 3, none⟩ = some (.int .u64 b3) ∧ (w.alloc o).cell? ⟨g, 4, none⟩ = some (.int .u64 b4) ∧ (w.alloc o).cell? ⟨g, 5, none⟩ = some (.int .u64 b5) := fun o => by
    have hA := (Below.heap_alloc w o g hlt).trans H.out
    exact ⟨cell_of_row _ _ 0 _ _ _ hA, cell_of_row _ _ 1 _ _ _ hA, cell_of_row _ _ 2 _ _ _ hA, cell_of_row _ _ 3 _ _ _ hA, cell_of_row _ _ 4 _ _ _ hA, cell_of_row _ _ 5 _ _ _ hA⟩
  have HD := Lib.hid hD
  clear hD
  go_region_held3 (fun W => W.cell? ⟨g, 0, none⟩ = some (.int .u64 b0) ∧ W.cell? ⟨g, 1, none⟩ = some (.int .u64 b1) ∧ W.cell? ⟨g, 2, none⟩ = some (.int .u64 b2) ∧ W.cell? ⟨g, 3, none⟩ = some (.int .u64 b3) ∧ W.cell? ⟨g, 4, none⟩ = some (.int .u64 b4) ∧ W.cell? ⟨g, 5, none⟩ = some (.int .u64 b5)) (first | exact HD.out _) (fail)
  all_goals
    go_wp2
    refine bodyPost_ret (v := .tuple #[.agg #[.bool false, .int .i64 0, .int .u64 b0, .int .u64 b1, .int .u64 b2, .int .u64 b3, .int .u64 b4, .int .u64 b5], .bool true]) (results_row_tmp (p := 4) (q := 5) rfl _ _ w.heap.size 30 #[.bool false, .int .i64 0, .int .u64 b0, .int .u64 b1, .int .u64 b2, .int .u64 b3, .int .u64 b4, .int .u64 b5] (0, 0) _ rfl rfl (heap_alloc_new _ _) Tryz.underlying30 rfl (by kernel_rfl)) rfl ?_
    exact ⟨rfl, (bA (Below.refl _ _) _).drew⟩
theorem inf30 : (Tryz.prog.info? 30).map (·.size) = some 8 := by kernel_rfl
theorem tParseCron (a : ByteArray) (hs : a.size < 1000000000) (hF : Fine (tx a)) (w : World) : Calls Tryz.prog 10 #[.int .i64 125, .string a] w fun e w' =>
    e = .returned (.tuple #[schedV (fb 0 ((fields (tx a)).getD 0 [])) (fb 1 ((fields (tx a)).getD 1 [])) (fb 2 ((fields (tx a)).getD 2 [])) (fb 3 ((fields (tx a)).getD 3 [])) (fb 4 ((fields (tx a)).getD 4 [])) (fb 5 ((fields (tx a)).getD 5 [])), .bool true]) ∧ Below w.heap.size w w' := by
  have hp := fun w => tParse25 a hs hF w
  generalize fb 0 ((fields (tx a)).getD 0 []) = b0 at hp ⊢
  generalize fb 1 ((fields (tx a)).getD 1 []) = b1 at hp ⊢
  generalize fb 2 ((fields (tx a)).getD 2 []) = b2 at hp ⊢
  generalize fb 3 ((fields (tx a)).getD 3 []) = b3 at hp ⊢
  generalize fb 4 ((fields (tx a)).getD 4 []) = b4 at hp ⊢
  generalize fb 5 ((fields (tx a)).getD 5 []) = b5 at hp ⊢
  have HP := Lib.hid hp
  clear hp hF
  have hZ : (w.alloc (.cells #[.bool false, .int .i64 0, .int .u64 0, .int .u64 0, .int .u64 0, .int .u64 0, .int .u64 0, .int .u64 0] 30)).heap[w.heap.size]? = some (.cells #[.bool false, .int .i64 0, .int .u64 0, .int .u64 0, .int .u64 0, .int .u64 0, .int .u64 0, .int .u64 0] 30 (0, 0)) := heap_alloc_new _ _
  have hB := bA (Below.refl w.heap.size w) (.cells #[.bool false, .int .i64 0, .int .u64 0, .int .u64 0, .int .u64 0, .int .u64 0, .int .u64 0, .int .u64 0] 30)
  have HZ := Lib.hid hZ
  have HB := Lib.hid hB
  clear hZ hB
  have keep : ∀ {W W' : World} {cs : Array Value} {t : TypeId} {g : Nat}, W.heap[g]? = some (.cells cs t (0, 0)) → Below W.heap.size W W' → W'.heap[g]? = some (.cells cs t (0, 0)) := fun h hb => by rw [hb.block _ (Array.getElem?_eq_some_iff.1 h).1]; exact h
  go_enter Tryz.func10, Tryz.ntmps10
  go_wp2_with (first
    | (go_at_call 23; (with_reducible refine (tParser _).mono ?_); rintro e w1 ⟨rfl, hb1⟩; have HZ := Lib.hid (keep HZ.out hb1); have HB := Lib.hid (HB.out.trans (hb1.mono HB.out.size)); have HZ := Lib.hid (keep HZ.out (bA (Below.refl _ _) (.cells #[.int .i64 125] 65))); have HB := Lib.hid (bA HB.out (.cells #[.int .i64 125] 65)); clear hb1)
    | (go_at_call 25; (with_reducible refine (HP.out _).mono ?_); rintro e w2 ⟨g, p, rfl, hg, hh, hb2⟩; have HZ := Lib.hid (keep HZ.out hb2); have HB := Lib.hid (HB.out.trans (hb2.mono HB.out.size)); have HG := Lib.hid hh; clear hb2 hh hg)
    | (go_at_call 24; (with_reducible refine (tPlain24 g p b0 b1 b2 b3 b4 b5 _ HG.out).mono ?_); rintro e w3 ⟨he, hb3⟩; obtain ⟨us, hus⟩ : ∃ us : Array Value, #[.bool false, .int .i64 0, .int .u64 b0, .int .u64 b1, .int .u64 b2, .int .u64 b3, .int .u64 b4, .int .u64 b5] = us := ⟨_, rfl⟩; rw [hus] at he; subst he; have US := Lib.hid hus; clear hus; have HZ := Lib.hid (keep HZ.out hb3); have HB := Lib.hid (HB.out.trans (hb3.mono HB.out.size)); clear hb3)
    | ((with_reducible refine wpList_store_row (o := ⟨none, .store 30 (.tmp 4) (.tmp 21), _, _, _, _⟩) ?b1 30 (.tmp 4) (.tmp 21) ?b2 w.heap.size us ?b3 ?b4 30 #[.bool false, .int .i64 0, .int .u64 0, .int .u64 0, .int .u64 0, .int .u64 0, .int .u64 0, .int .u64 0] ?b5 ?b6 ?b7 ?b8 ?_); (case b1 => rfl); (case b2 => rfl); (case b3 => rfl); (case b4 => rfl); (case b5 => exact HZ.out); (case b6 => rw [← US.out]; exact inf30); (case b7 => rw [← US.out]; rfl); (case b8 => rw [← US.out]; simp [Value.oneCell'])))
  refine bodyPost_ret (v := .tuple #[.agg us, .bool true]) (results_row_tmp (p := 4) (q := 5) rfl _ _ w.heap.size 30 us (0, 0) _ rfl rfl (setRow_heap _ _ _ _ 30 (0, 0) HZ.out) Tryz.underlying30 rfl (by rw [← US.out]; kernel_rfl)) rfl ?_
  exact ⟨by rw [← US.out]; rfl, Below.setRow' HB.out (Nat.le_refl _) _⟩
end Go.Proofs.YtjmgebhjkbcpcaaGreatDoor.Txt
end
section
set_option linter.unusedVariables false
set_option linter.unusedSimpArgs false
namespace Go.Proofs.YtjmgebhjkbcpcaaGreatDoor.NM
open Go.RowKit Cal Go.Proofs.YtjmgebhjkbcpcaaGreatDoor.PcronNone Go.Proofs.YtjmgebhjkbcpcaaGreatDoor.PCronParse Go.Proofs.YtjmgebhjkbcpcaaGreatDoorW.PrintWords
set_option maxRecDepth 100000
theorem und33 : Tryz.prog.underlying 33 = some (.array 63 4) := by kernel_rfl
theorem und4 : Tryz.prog.underlying 4 = some .bool := by kernel_rfl
theorem inf33 : (Tryz.prog.info? 33).map (·.size) = some 63 := by kernel_rfl
theorem key52 : Tryz.prog.keyTypeAt 2 33 = true := by kernel_rfl
theorem co52 : Tryz.prog.cellsOf 33 = 63 := by kernel_rfl
theorem co4 : Tryz.prog.cellsOf 4 = 1 := by kernel_rfl
theorem key4 (D : Nat) (b : Bool) : ∃ l, Tryz.prog.keyLits (D + 1) 4 [.bool b] = some l := by
  refine ⟨[.bool b], ?_⟩
  unfold Program.keyLits
  simp only [und4]
theorem mapM_some {α β : Type} (g : α → Option β) : ∀ l : List α, (∀ i ∈ l, ∃ y, g i = some y) → ∃ ys, l.mapM g = some ys
  | [], _ => ⟨[], rfl⟩
  | a :: l, h => by
    obtain ⟨y, hy⟩ := h a (by simp)
    obtain ⟨ys, hys⟩ := mapM_some g l fun i hi => h i (by simp [hi])
    exact ⟨y :: ys, by rw [List.mapM_cons, hy, hys]; rfl⟩
theorem lits52 (l : List Value) (hl : l.length = 63) (hb : ∀ j, j < 63 → ∃ b, l[j]? = some (.bool b)) : ∃ la, Tryz.prog.keyLits 2 33 l = some la := by
  unfold Program.keyLits
  simp only [und33, co52, co4, hl, if_true]
  obtain ⟨ys, hys⟩ := mapM_some (fun i => Tryz.prog.keyLits 1 4 ((l.drop (i * 1)).take 1)) (List.range 63) fun i hi => by
    obtain ⟨b, hb⟩ := hb i (by simpa using hi)
    have : (l.drop (i * 1)).take 1 = [.bool b] := by
      rw [Nat.mul_one]
      have hlt : i < l.length := (List.getElem?_eq_some_iff.1 hb).1
      rw [List.drop_eq_getElem_cons hlt, List.take_succ_cons, List.take_zero]
      rw [List.getElem?_eq_getElem hlt] at hb
      injection hb with hb
      rw [hb]
    simp only [this]
    exact key4 0 b
  rw [hys]
  exact ⟨_, rfl⟩
open Classical in
theorem eq52 (xs ys : Array Value) (hx : xs.size = 63) (hy : ys.size = 63) (bx : ∀ j, j < 63 → ∃ b, xs[j]? = some (.bool b)) (by' : ∀ j, j < 63 → ∃ b, ys[j]? = some (.bool b)) :
    ∃ r : Bool, ∀ w, (Op.equalIn 10000 33 (.agg xs) (.agg ys)).run Tryz.prog w = .ok r w := by
  obtain ⟨la, hla⟩ := lits52 xs.toList (by simpa using hx) (by simpa using bx)
  obtain ⟨lb, hlb⟩ := lits52 ys.toList (by simpa using hy) (by simpa using by')
  have fx : (Value.agg xs).formed Tryz.prog 33 = true := by simp [Value.formed, und33, hx, co52]
  have fy : (Value.agg ys).formed Tryz.prog 33 = true := by simp [Value.formed, und33, hy, co52]
  have key := fun w => run_equalIn_deep 9998 2 33 key52 w 2 2 (.agg xs) (.agg ys) la lb fx fy hla hlb
  refine ⟨decide (la = lb), fun w => ?_⟩
  obtain ⟨r, hr, hi⟩ := key w
  rw [show (10000 : Nat) = 9998 + 2 from rfl, hr]
  congr 1
  by_cases h : la = lb
  · rw [hi.2 h]; simp [h]
  · cases r with
    | false => simp [h]
    | true => exact absurd (hi.1 rfl) h
theorem SetV.tail {k b : Int} {ds : Array Value} (h : SetV k b ds) : (ds.extract 1 64).size = 63 ∧ ∀ j, j < 63 → ∃ b, (ds.extract 1 64)[j]? = some (.bool b) := by
  refine ⟨by simp [h.sz], fun j hj => ?_⟩
  obtain ⟨b, hb⟩ := h.bl (1 + j) (by omega)
  refine ⟨b, ?_⟩
  rw [Array.getElem?_extract, if_pos (by rw [h.sz]; omega)]
  exact hb
theorem fld35 (w : World) : (Instr.field 35 (.agg (Value.bool false :: Value.bool false :: Value.bool false :: Value.bool false :: Value.bool false :: Value.bool false :: Value.bool false :: Value.bool false :: Value.bool false :: Value.bool false :: Value.bool false :: Value.bool false :: Value.bool false :: Value.bool false :: Value.bool false :: Value.bool false :: Value.bool false :: Value.bool false :: Value.bool false :: Value.bool false :: Value.bool false :: Value.bool false :: Value.bool false :: Value.bool false :: Value.bool false :: Value.bool false :: Value.bool false :: Value.bool false :: Value.bool false :: Value.bool false :: Value.bool false :: Value.bool false :: Value.bool false :: Value.bool false :: Value.bool false :: Value.bool false :: Value.bool false :: Value.bool false :: Value.bool false :: Value.bool false :: Value.bool false :: Value.bool false :: Value.bool false :: Value.bool false :: Value.bool false :: Value.bool false :: Value.bool false :: Value.bool false :: Value.bool false :: Value.bool false :: Value.bool false :: Value.bool false :: Value.bool false :: Value.bool false :: Value.bool false :: Value.bool false :: Value.bool false :: Value.bool false :: Value.bool false :: Value.bool false :: Value.bool false :: Value.bool false :: Value.bool false :: Value.bool false :: []).toArray) 1).run Tryz.prog w = .ok (.agg (Array.replicate 63 (.bool false))) w := by kernel_rfl
theorem tEmpty (k b : Int) (ds : Array Value) (hd : SetV k b ds) (w : World) :
    Calls Tryz.prog 124 #[.agg ds] w fun e w' => ∃ bb, e = .returned (.bool bb) ∧ Below w.heap.size w w' := by
  obtain ⟨h1, h2⟩ := hd.tail
  obtain ⟨r, hr⟩ := eq52 (ds.extract 1 64) (Array.replicate 63 (.bool false)) h1 (by simp) h2 (fun j hj => ⟨false, by simp [hj]⟩)
  have hR := World.rangeAt_of_block (heap_alloc_new w (Obj.cells ds 35)) 1 63
  obtain ⟨L, hL⟩ : ∃ L, (ds.extract 1 64).toList = L := ⟨_, rfl⟩
  have hll : L.length = 63 := by rw [← hL, Array.length_toList]; exact h1
  have hA : ds.extract 1 64 = L.toArray := by rw [← hL]
  rw [show 1 + 63 = 64 from rfl, hL] at hR
  rw [hA] at hr
  have HL := Lib.hid hll
  have HR := Lib.hid hR
  clear hd h1 h2 hll hR hL hA
  have hF := fld35
  go_enter Tryz.func124, Tryz.ntmps124
  go_wp2_with ((with_reducible refine wpList_load_mid (op := ⟨some 4, _, _, _, _, _⟩) ?a1 33 (.tmp 3) ?a2 w.heap.size 1 ?a3 L _ ?a4 und33 ?a5 ?a6 ?_); (case a1 => rfl); (case a2 => rfl); (case a3 => rfl); (case a4 => exact HR.out); (case a5 => rfl); (case a6 => rw [HL.out]; exact inf33))
  go_ret
  exact ⟨_, rfl, bA (Below.refl _ _) _⟩
theorem FieldsV.sz {S : Sets} {cs : Array Value} (h : FieldsV S cs) : cs.size = 384 := by
  obtain ⟨f, hf, rfl⟩ := h
  rw [List.size_toArray, flatF_len 6 0 (fun i h0 h1 => (hf i (by omega)).sz)]
theorem FieldsV.get {S : Sets} {cs : Array Value} (h : FieldsV S cs) : ∃ f : Nat → Array Value, (∀ k : Nat, k < 6 → SetV k (bitsOf S k) (f k)) ∧ ∀ k j, k < 6 → j < 64 → cs[64 * k + j]? = (f k)[j]? := by
  obtain ⟨f, hf, rfl⟩ := h
  refine ⟨f, hf, fun k j hk hj => ?_⟩
  have := flatF_get 6 0 (fun i h0 h1 => (hf i (by omega)).sz) k j hk hj
  rw [Nat.zero_add] at this
  rw [← this]; simp
/-- is a value in a field's set? -/
def inF (cs : Array Value) (k v : Nat) : Bool := match cs[64 * k + 1 + v]? with
  | some (.bool b) => b
  | _ => false
theorem FieldsV.at {S : Sets} {cs : Array Value} (h : FieldsV S cs) (k v : Nat) (hk : k < 6) (hv : v < 63) : cs[64 * k + 1 + v]? = some (.bool (inF cs k v)) := by
  obtain ⟨f, hf, hg⟩ := h.get
  have e := hg k (1 + v) hk (by omega)
  rw [show 64 * k + (1 + v) = 64 * k + 1 + v by omega] at e
  obtain ⟨b, hb⟩ := (hf k hk).bl (1 + v) (by omega)
  unfold inF
  rw [e, hb]
theorem FieldsV.star {S : Sets} {cs : Array Value} (h : FieldsV S cs) (k : Nat) (hk : k < 6) : cs[64 * k]? = some (.bool (starS (bitsOf S k))) := by
  obtain ⟨f, hf, hg⟩ := h.get
  have e := hg k 0 hk (by omega)
  rw [show 64 * k + 0 = 64 * k by omega] at e
  rw [e]; exact (hf k hk).st
theorem FieldsV.hit {S : Sets} {cs : Array Value} (h : FieldsV S cs) (k v : Nat) (hk : k < 6) (hv : v < 63) (hi : inF cs k v = true) : lowI k ≤ v ∧ (v : Int) ≤ highI k ∧ hitS (bitsOf S k) v = true := by
  obtain ⟨f, hf, hg⟩ := h.get
  have e := hg k (1 + v) hk (by omega)
  rw [show 64 * k + (1 + v) = 64 * k + 1 + v by omega, h.at k v hk hv, hi] at e
  exact (hf k hk).inv v e.symm
theorem FieldsV.parts {S : Sets} {cs : Array Value} (h : FieldsV S cs) : ∃ L : Nat → List Value, ∀ k : Nat, k < 6 → SetV k (bitsOf S k) (L k).toArray ∧ (L k).length = 64 ∧ ∀ (w : World) (g : Nat) (t : TypeId), w.heap[g]? = some (.cells cs t (0, 0)) → w.rangeAt g (64 * k) (L k) := by
  obtain ⟨f, hf, hg⟩ := h.get
  refine ⟨fun k => (f k).toList, fun k hk => ⟨by simpa using hf k hk, by simpa using (hf k hk).sz, fun w g t hb j v hv => ?_⟩⟩
  have hj : j < 64 := by
    have := (List.getElem?_eq_some_iff.1 hv).1
    rw [Array.length_toList, (hf k hk).sz] at this
    exact this
  rw [cell_of_row w g _ _ _ _ hb, hg k j hk hj]
  simpa using hv
theorem wpList_load_midg {P : Program} {ops : Array Oper} {rest : List Oper} {op : Oper} {a : Act} {w : World} {Q : Exit → Act → World → Prop} (hgd : Region.wanted op (yielded ops a.tmps) = true) (ty : TypeId) (x : Operand) (ho : op.op = .load ty x)
    (b o : Nat) (hx : a.eval x = .pointer (some ⟨b, o, none⟩)) (cs : List Value) (d : TypeDesc) (hc : w.rangeAt b o cs)
    (hu : P.underlying ty = some d) (hd : d.isRow = true) (hi : (P.info? ty).map (·.size) = some cs.length)
    (h : wpList P ops Q rest (a.put op.dst (.agg cs.toArray)) w) : wpList P ops Q (op :: rest) a w := by
  show if _ then _ else _
  rw [if_pos hgd]
  exact .inl (wp_load_mid ty x ho b o hx cs d hc hu hd hi h)
theorem block_lt_row {w : World} {g : Nat} {o : Obj} (h : w.heap[g]? = some o) : g < w.heap.size := (Array.getElem?_eq_some_iff.1 h).1
theorem tNever (S : Sets) (cs : Array Value) (h : FieldsV S cs) (w : World) : Calls Tryz.prog 103 #[.agg cs] w fun e w' => ∃ bb, e = .returned (.bool bb) ∧ Below w.heap.size w w' := by
  obtain ⟨L, hL⟩ := h.parts
  have hb := heap_alloc_new w (Obj.cells cs 37)
  have H0 := Lib.hid (hL 0 (by decide))
  have H1 := Lib.hid (hL 1 (by decide))
  have H2 := Lib.hid (hL 2 (by decide))
  have HB := Lib.hid hb
  generalize L 0 = L0 at H0
  generalize L 1 = L1 at H1
  generalize L 2 = L2 at H2
  clear hL hb L
  go_enter Tryz.func103, Tryz.ntmps103
  go_wp2_with (first
    | ((with_reducible refine wpList_load_mid (op := ⟨some 4, _, _, _, _, _⟩) ?a1 35 (.tmp 3) ?a2 w.heap.size 128 ?a3 L2 _ ?a4 und35 ?a5 ?a6 ?_); (case a1 => rfl); (case a2 => rfl); (case a3 => rfl); (case a4 => exact H2.out.2.2 _ _ 37 HB.out); (case a5 => rfl); (case a6 => rw [H2.out.2.1]; exact inf35))
    | (go_at_call 124; (with_reducible refine (tEmpty 2 _ L2.toArray H2.out.1 _).mono ?_); rintro e w1 ⟨b1, rfl, hb1⟩; have HB1 : Hid (w1.heap[w.heap.size]? = some (.cells cs 37 (0, 0))) := Lib.hid (by rw [hb1.block _ (block_lt_row HB.out)]; exact HB.out); have HW1 : Hid (Below w.heap.size w w1) := Lib.hid ((bA (Below.refl _ _) _).trans (hb1.mono (by simp))); clear hb1; cases b1)
    | ((with_reducible refine wpList_load_midg (op := ⟨some 8, _, _, _, _, _⟩) ?a1 35 (.tmp 7) ?a2 w.heap.size 64 ?a3 L1 _ ?a4 und35 ?a5 ?a6 ?_); (case a1 => rfl); (case a2 => rfl); (case a3 => rfl); (case a4 => exact H1.out.2.2 _ _ 37 HB1.out); (case a5 => rfl); (case a6 => rw [H1.out.2.1]; exact inf35))
    | (go_at_call 124; (with_reducible refine (tEmpty 1 _ L1.toArray H1.out.1 _).mono ?_); rintro e w2 ⟨b2, rfl, hb2⟩; have HB2 : Hid (w2.heap[w.heap.size]? = some (.cells cs 37 (0, 0))) := Lib.hid (by rw [hb2.block _ (block_lt_row HB1.out)]; exact HB1.out); have HW2 := Lib.hid (HW1.out.trans (hb2.mono HW1.out.size)); clear hb2; cases b2)
    | ((with_reducible refine wpList_load_midg (op := ⟨some 13, _, _, _, _, _⟩) ?a1 35 (.tmp 12) ?a2 w.heap.size 0 ?a3 L0 _ ?a4 und35 ?a5 ?a6 ?_); (case a1 => rfl); (case a2 => rfl); (case a3 => rfl); (case a4 => exact H0.out.2.2 _ _ 37 HB2.out); (case a5 => rfl); (case a6 => rw [H0.out.2.1]; exact inf35))
    | (go_at_call 124; (with_reducible refine (tEmpty 0 _ L0.toArray H0.out.1 _).mono ?_); rintro e w3 ⟨b3, rfl, hb3⟩; have HB3 : Hid (w3.heap[w.heap.size]? = some (.cells cs 37 (0, 0))) := Lib.hid (by rw [hb3.block _ (block_lt_row HB2.out)]; exact HB2.out); have HW3 := Lib.hid (HW2.out.trans (hb3.mono HW2.out.size)); clear hb3; cases b3))
  all_goals
    go_ret
    refine ⟨_, rfl, ?_⟩
    first | exact HW3.out | exact HW2.out | exact HW1.out
end Go.Proofs.YtjmgebhjkbcpcaaGreatDoor.NM
end
section
set_option linter.unusedVariables false
set_option linter.unusedSimpArgs false
namespace Go.Proofs.YtjmgebhjkbcpcaaGreatDoor.NM
open Go.RowKit Cal Go.Proofs.YtjmgebhjkbcpcaaGreatDoor.PcronNone Go.Proofs.YtjmgebhjkbcpcaaGreatDoor.PCronParse Go.Proofs.YtjmgebhjkbcpcaaGreatDoorW.PrintWords
set_option maxRecDepth 100000
def dayF (S : Sets) (cs : Array Value) (d v : Nat) : Bool := if starS (bitsOf S 3) || starS (bitsOf S 5) then inF cs 3 d && inF cs 5 v else inF cs 3 d || inF cs 5 v
theorem tDayFits (S : Sets) (cs : Array Value) (h : FieldsV S cs) (y m : Int) (d v : Nat) (hd : d < 63) (hv : v < 63) (w : World) :
    Calls Tryz.prog 105 #[.agg cs, .agg #[.int .i64 y, .int .i64 m, .int .i64 d], .int .i64 v] w fun e w' => e = .returned (.bool (dayF S cs d v)) ∧ Below w.heap.size w w' := by
  have hb := heap_alloc_new w (Obj.cells cs 37)
  have a1 := h.at 3 d (by decide) hd
  have a2 := h.at 5 v (by decide) hv
  have a3 := h.star 3 (by decide)
  have a4 := h.star 5 (by decide)
  rw [show 64 * 3 + 1 + d = 193 + d by omega] at a1
  rw [show 64 * 5 + 1 + v = 321 + v by omega] at a2
  have k1 : (w.alloc (Obj.cells cs 37)).cell? ⟨w.heap.size, 193 + d, none⟩ = some (.bool (inF cs 3 d)) := by rw [cell_of_row _ _ _ _ _ _ hb]; exact a1
  have k2 : (w.alloc (Obj.cells cs 37)).cell? ⟨w.heap.size, 321 + v, none⟩ = some (.bool (inF cs 5 v)) := by rw [cell_of_row _ _ _ _ _ _ hb]; exact a2
  have k3 : (w.alloc (Obj.cells cs 37)).cell? ⟨w.heap.size, 192, none⟩ = some (.bool (starS (bitsOf S 3))) := by rw [cell_of_row _ _ _ _ _ _ hb]; exact a3
  have k4 : (w.alloc (Obj.cells cs 37)).cell? ⟨w.heap.size, 320, none⟩ = some (.bool (starS (bitsOf S 5))) := by rw [cell_of_row _ _ _ _ _ _ hb]; exact a4
  obtain ⟨r, hr⟩ : ∃ r, dayF S cs d v = r := ⟨_, rfl⟩
  have HR := Lib.hid hr
  rw [hr]
  unfold dayF at hr
  have HR' := Lib.hid hr
  clear hr a1 a2 a3 a4 hb
  generalize inF cs 3 d = b1 at *
  generalize inF cs 5 v = b2 at *
  generalize starS (bitsOf S 3) = b3 at *
  generalize starS (bitsOf S 5) = b4 at *
  go_enter Tryz.func105, Tryz.ntmps105
  go_upto_region 1 with fail
  generalize hW : World.alloc (w.alloc (Obj.cells cs 37)) _ = W
  have j1 : W.cell? ⟨w.heap.size, 193 + d, none⟩ = some (.bool b1) := by rw [← hW, World.cell?_alloc_lt _ _ _ (by simp)]; exact k1
  have j2 : W.cell? ⟨w.heap.size, 321 + v, none⟩ = some (.bool b2) := by rw [← hW, World.cell?_alloc_lt _ _ _ (by simp)]; exact k2
  have j3 : W.cell? ⟨w.heap.size, 192, none⟩ = some (.bool b3) := by rw [← hW, World.cell?_alloc_lt _ _ _ (by simp)]; exact k3
  have j4 : W.cell? ⟨w.heap.size, 320, none⟩ = some (.bool b4) := by rw [← hW, World.cell?_alloc_lt _ _ _ (by simp)]; exact k4
  have j5 : W.cell? ⟨w.heap.size + 1, 2, none⟩ = some (.int .i64 d) := by rw [← hW]; simp [go_sem]
  have HB : Hid (Below w.heap.size w W) := Lib.hid (by rw [← hW]; exact bA (bA (Below.refl _ _) _) _)
  clear hW k1 k2 k3 k4
  go_region
  cases b3 <;> cases b4 <;> cases b1 <;> cases b2 <;>
    (go_wp2; go_ret; exact ⟨by rw [← HR'.out]; rfl, (by first | exact HB.out.drew | exact HB.out)⟩)
end Go.Proofs.YtjmgebhjkbcpcaaGreatDoor.NM
end
section
set_option linter.unusedVariables false
set_option linter.unusedSimpArgs false
namespace Go.Proofs.YtjmgebhjkbcpcaaGreatDoor.NM
open Go.RowKit Cal Go.Proofs.YtjmgebhjkbcpcaaGreatDoor.PcronNone Go.Proofs.YtjmgebhjkbcpcaaGreatDoor.PCronParse Go.Proofs.YtjmgebhjkbcpcaaGreatDoorW.PrintWords
set_option maxRecDepth 100000
/-- a time of day that is in a schedule's sets, from a second on; -1: none was found -/
def TimeOk (cs : Array Value) (fr r : Int) : Prop := r = -1 ∨ (fr ≤ r ∧ 0 ≤ r ∧ r < 86400 ∧ inF cs 2 (r / 3600).toNat = true ∧ inF cs 1 (r % 3600 / 60).toNat = true ∧ inF cs 0 (r % 60).toNat = true)
theorem tTime (S : Sets) (cs : Array Value) (h : FieldsV S cs) (fr : Nat) (hfr : fr < 86400) (w : World) :
    Calls Tryz.prog 107 #[.agg cs, .int .i64 fr] w fun e w' => ∃ r, e = .returned (.int .i64 r) ∧ TimeOk cs fr r ∧ Below w.heap.size w w' := by
  have hb := heap_alloc_new w (Obj.cells cs 37)
  have HC2 : Hid (∀ v, v < 63 → (w.alloc (Obj.cells cs 37)).cell? ⟨w.heap.size, 129 + v, none⟩ = some (.bool (inF cs 2 v))) := Lib.hid fun v hv => by rw [cell_of_row _ _ _ _ _ _ hb]; exact h.at 2 v (by decide) hv
  have HC1 : Hid (∀ v, v < 63 → (w.alloc (Obj.cells cs 37)).cell? ⟨w.heap.size, 65 + v, none⟩ = some (.bool (inF cs 1 v))) := Lib.hid fun v hv => by rw [cell_of_row _ _ _ _ _ _ hb]; exact h.at 1 v (by decide) hv
  have HC0 : Hid (∀ v, v < 63 → (w.alloc (Obj.cells cs 37)).cell? ⟨w.heap.size, 1 + v, none⟩ = some (.bool (inF cs 0 v))) := Lib.hid fun v hv => by rw [cell_of_row _ _ _ _ _ _ hb]; have := h.at 0 v (by decide) hv; rw [show 64 * 0 + 1 + v = 1 + v by omega] at this; exact this
  have HBel : Hid (Below w.heap.size w (w.alloc (Obj.cells cs 37))) := Lib.hid (bA (Below.refl _ _) _)
  clear hb h
  go_enter Tryz.func107, Tryz.ntmps107
  go_wp2_with fail
  generalize hW : w.alloc (Obj.cells cs 37) = W at HC2 HC1 HC0 HBel
  go_loop [5] (fun v => ∃ n : Nat, v = .int .i64 n ∧ Aside0 (n ≤ 24)) (fun v => 24 - (intOf v).toNat)
  case atStart => exact ⟨fr / 3600, by go_num, ⟨by omega⟩⟩
  case round =>
    obtain ⟨n, rfl, HN⟩ := hrel
    by_cases c : n < 24
    · have ct : decide ((n : Int) < 24) = true := by simp; omega
      have t2 := HC2.out n (by omega)
      cases b2 : inF cs 2 n with
      | false =>
        rw [b2] at t2
        clear b2
        go_wp2_with fail
        go_round
        case rel => exact ⟨n + 1, by go_num, ⟨by omega⟩⟩
        case measure => simp [intOf]; omega
      | true =>
        rw [b2] at t2
        have B2 := Lib.hid b2
        clear b2
        go_wp2_with fail
        go_loop [21] (fun v => ∃ m : Nat, v = .int .i64 m ∧ Aside0 (m ≤ 60)) (fun v => 60 - (intOf v).toNat)
        case atStart => exact ⟨0, by go_num, ⟨by omega⟩⟩
        case round =>
          obtain ⟨m, rfl, HM⟩ := hrel
          by_cases cm : m < 60
          · have cmt : decide ((m : Int) < 60) = true := by simp; omega
            have t1 := HC1.out m (by omega)
            cases b1 : inF cs 1 m with
            | false =>
              rw [b1] at t1
              clear b1
              go_wp2_with fail
              go_round
              case rel => exact ⟨m + 1, by go_num, ⟨by omega⟩⟩
              case measure => simp [intOf]; omega
            | true =>
              rw [b1] at t1
              have B1 := Lib.hid b1
              clear b1
              by_cases cl : 3600 * (n : Int) + 60 * (m : Int) + 59 < (fr : Int)
              · go_wp2_with fail
                go_round
                case rel => exact ⟨m + 1, by go_num, ⟨by omega⟩⟩
                case measure => simp [intOf]; omega
              · have CL := Lib.hid cl
                go_wp2_with fail
                all_goals
                  go_loop [8] (fun v => ∃ k : Nat, v = .int .i64 k ∧ Aside0 (k ≤ 60 ∧ (fr : Int) ≤ 3600 * (n : Int) + 60 * (m : Int) + k)) (fun v => 60 - (intOf v).toNat)
                  case atStart =>
                    first
                      | exact ⟨0, by go_num, ⟨by omega, by omega⟩⟩
                      | exact ⟨((fr : Int) - (3600 * (n : Int) + 60 * (m : Int))).toNat, by go_num, ⟨by have := CL.out; omega, by omega⟩⟩
                      | exact ⟨((fr : Int) - (3600 * (n : Int) + 60 * (m : Int))).toNat, by rw [Int.toNat_of_nonneg (by omega)], ⟨by have := CL.out; omega, by omega⟩⟩
                  case round =>
                    obtain ⟨k, rfl, HK⟩ := hrel
                    by_cases ck : k < 60
                    · have ckt : decide ((k : Int) < 60) = true := by simp; omega
                      have t0 := HC0.out k (by omega)
                      cases b0 : inF cs 0 k with
                      | false =>
                        rw [b0] at t0
                        clear b0
                        go_wp2_with fail
                        go_round
                        case rel => exact ⟨k + 1, by go_num, ⟨by omega, by have := HK.out; omega⟩⟩
                        case measure => simp [intOf]; omega
                      | true =>
                        rw [b0] at t0
                        have B0 := Lib.hid b0
                        clear b0
                        go_wp2_with fail
                        go_ret
                        have hk := HK.out
                        have e1 : (3600 * (n : Int) + 60 * (m : Int) + (k : Int)) / 3600 = (n : Int) := by omega
                        have e2 : (3600 * (n : Int) + 60 * (m : Int) + (k : Int)) % 3600 / 60 = (m : Int) := by omega
                        have e3 : (3600 * (n : Int) + 60 * (m : Int) + (k : Int)) % 60 = (k : Int) := by omega
                        exact ⟨_, rfl, .inr ⟨hk.2, by omega, by omega, by rw [e1]; exact B2.out, by rw [e2]; exact B1.out, by rw [e3]; exact B0.out⟩, HBel.out⟩
                    · have ckt : decide ((k : Int) < 60) = false := by simp; omega
                      obtain rfl : k = 60 := by have := HK.out.1; omega
                      go_wp2_with fail
                      go_round
                      case rel => exact ⟨m + 1, by go_num, ⟨by omega⟩⟩
                      case measure => simp [intOf]; omega
          · have cmt : decide ((m : Int) < 60) = false := by simp; omega
            obtain rfl : m = 60 := by have := HM.out; omega
            go_wp2_with fail
            go_round
            case rel => exact ⟨n + 1, by go_num, ⟨by omega⟩⟩
            case measure => simp [intOf]; omega
    · have ct : decide ((n : Int) < 24) = false := by simp; omega
      go_wp2_with fail
      go_ret
      exact ⟨_, rfl, .inl rfl, HBel.out⟩
end Go.Proofs.YtjmgebhjkbcpcaaGreatDoor.NM
end
section
set_option linter.unusedVariables false
set_option linter.unusedSimpArgs false
namespace Go.Proofs.YtjmgebhjkbcpcaaGreatDoor.NM
open Go.RowKit Cal
theorem nsec0 (b : Nat) (w : World) (h0 : w.cell? ⟨b, 0, none⟩ = some (.int .u64 0)) : Calls Tryz.prog 121 #[.pointer (some ⟨b, 0, none⟩)] w fun e w' => e = .returned (.int .i32 0) ∧ w = w' := by
  have hB0 := bits_low 0 (by decide) (by decide)
  go_enter Tryz.func121, Tryz.ntmps121
  go_wp2
  go_ret
  exact ⟨rfl, rfl⟩
theorem norm_h0 (y m : Int) (h0 : 1 ≤ m) (h1 : m ≤ 12) : Hid (∀ w : World, Calls Tryz.prog 197 #[.int .i64 y, .int .i64 (m - 1), .int .i64 12] w fun e w' => e = .returned (.tuple #[.int .i64 y, .int .i64 (m - 1)]) ∧ w = w') :=
  fun w => norm_id _ _ _ w (by omega) (by omega) (by omega)
theorem norm_h1 (y : Int) (h0 : -1000 ≤ y) (h1 : y ≤ 100000) : Hid (∀ w : World, Calls Tryz.prog 197 #[.int .i64 y, .int .i64 (13 - 1), .int .i64 12] w fun e w' => e = .returned (.tuple #[.int .i64 (y + 1), .int .i64 (1 - 1)]) ∧ w = w') :=
  fun w => norm_12 y w (by omega) (by omega)
/-- Date at AddDate's arguments -/
theorem dmk_add (z : Option Zone) (l k dm dd : Int) (b : Nat) (w : World) (hL : LocP w b z) (hl0 : -62155000000 ≤ l) (hl1 : l ≤ 1500000000000)
    (hc : (dm = 0 ∧ dd = 1 ∧ k = 1) ∨ (dm = 1 ∧ dd = 0 ∧ k = mlen (gyear (l / 86400)) (gmonth (l / 86400)))) :
    Calls Tryz.prog 182 #[.int .i64 (gyear (l / 86400)), .int .i64 (gmonth (l / 86400) + dm), .int .i64 (gday (l / 86400) + dd), .int .i64 (l % 86400 / 3600), .int .i64 (l % 3600 / 60), .int .i64 (l % 60), .int .i64 0, .pointer (some ⟨b, 0, none⟩)] w
      fun e w' => e = .returned (.agg #[.int .u64 0, .int .i64 (reso z (l + 86400 * k) + 62135596800), .pointer (canon b z)]) ∧ Below w.heap.size w w' := by
  have hg := gdate (l / 86400)
  have hd := mlen_bd (gyear (l / 86400)) (gmonth (l / 86400))
  have hy0 : -900 ≤ gyear (l / 86400) := by
    have := hg.hi; unfold ystart at this; omega
  have hy1 : gyear (l / 86400) ≤ 50000 := by
    have := hg.lo; unfold ystart at this; omega
  obtain ⟨glo, gm1, gm12, gd1, gdm, geq⟩ := hg
  generalize gyear (l / 86400) = y at *
  generalize gmonth (l / 86400) = m at *
  generalize gday (l / 86400) = d at *
  have hT : ∀ N, N = l / 86400 + k → N * 86400 + (l % 86400 / 3600 * 3600 + l % 3600 / 60 * 60 + l % 60) = l + 86400 * k := fun N h => by omega
  rcases hc with ⟨rfl, rfl, rfl⟩ | ⟨rfl, rfl, rfl⟩
  · rw [show m + 0 = m by omega]
    exact dmk y m y m (d + 1) _ _ _ gm1 (by omega) (norm_h0 y m gm1 gm12) b w (by omega) (by omega) gm1 gm12 (by omega) (by omega) (by omega) (by omega) (by omega) (by omega) (by omega) (by omega)
      (ystart y + cum y m + (d + 1) - 1) _ rfl (hT _ (by omega)) z hL (by omega) (by omega)
  · rw [show d + 0 = d by omega]
    by_cases h12 : m = 12
    · subst h12
      have e1 := ystart_succ y
      have e2 := cum_succ y 12 (by omega) (by omega)
      have e3 := cum_13 y
      have e4 := cum_one (y + 1)
      rw [show (12 : Int) + 1 = 13 by rfl] at *
      exact dmk y 13 (y + 1) 1 d _ _ _ (by omega) (by omega) (norm_h1 y (by omega) (by omega)) b w (by omega) (by omega) (by omega) (by omega) (by omega) (by omega) (by omega) (by omega) (by omega) (by omega) (by omega) (by omega)
        (ystart (y + 1) + cum (y + 1) 1 + d - 1) _ rfl (hT _ (by omega)) z hL (by omega) (by omega)
    · have e2 := cum_succ y m gm1 gm12
      exact dmk y (m + 1) y (m + 1) d _ _ _ (by omega) (by omega) (norm_h0 y (m + 1) (by omega) (by omega)) b w (by omega) (by omega) (by omega) (by omega) (by omega) (by omega) (by omega) (by omega) (by omega) (by omega) (by omega) (by omega)
        (ystart y + cum y (m + 1) + d - 1) _ rfl (hT _ (by omega)) z hL (by omega) (by omega)
set_option maxHeartbeats 2000000 in
theorem tAddDate (x k dm dd : Int) (L : Option Addr) (z : Option Zone) (w : World) (hL : TLoc w L z) (h0 : -15000000 ≤ x) (h1 : x ≤ 1500000000000) (hl0 : -62155000000 ≤ lo z x) (hl1 : lo z x ≤ 1500000000000)
    (hc : Hid ((dm = 0 ∧ dd = 1 ∧ k = 1) ∨ (dm = 1 ∧ dd = 0 ∧ k = mlen (gyear (lo z x / 86400)) (gmonth (lo z x / 86400))))) (hdm0 : 0 ≤ dm) (hdm1 : dm ≤ 1) (hdd0 : 0 ≤ dd) (hdd1 : dd ≤ 1) :
    Calls Tryz.prog 183 #[.agg #[.int .u64 0, .int .i64 x, .pointer L], .int .i64 0, .int .i64 dm, .int .i64 dd] w fun e w' => e = .returned (.agg #[.int .u64 0, .int .i64 (reso z (lo z x + 86400 * k) + 62135596800), .pointer L]) ∧ Below w.heap.size w w' := by
  have hn : Nan 0 := ⟨by decide, by decide⟩
  have hg := gdate (lo z x / 86400)
  have hd := mlen_bd (gyear (lo z x / 86400)) (gmonth (lo z x / 86400))
  have hy0 : -900 ≤ gyear (lo z x / 86400) := by
    have := hg.hi; unfold ystart at this; omega
  have hy1 : gyear (lo z x / 86400) ≤ 50000 := by
    have := hg.lo; unfold ystart at this; omega
  obtain ⟨glo, gm1, gm12, gd1, gdm, geq⟩ := hg
  clear glo geq
  have HL := Lib.hid hL
  clear hL
  have hA0 := bits_low 0 (by decide) (by decide)
  go_enter Tryz.func183, Tryz.ntmps183
  go_wp2_with (first
    | (go_at_call 200; refine (tDate 0 x L z _ (HL.out.below (bA (bA (Below.refl _ _) _) _)) hn (by omega) (by omega)).mono ?_; rintro e w1 ⟨rfl, hb1⟩; obtain ⟨hc1, hf1⟩ := bcell hb1; have hz1 : w.heap.size + 1 < w1.heap.size := (by have := hb1.size; simp at this; omega))
    | (go_at_call 201; refine (tClock 0 x L z _ ((HL.out.below (bA (bA (Below.refl _ _) _) _)).below hb1) hn (by omega) (by omega)).mono ?_; rintro e w2 ⟨rfl, hb2⟩; have hbb := hb1.trans (hb2.mono hb1.size); clear hc1 hf1 hz1; obtain ⟨hc1, hf1⟩ := bcell hbb; have hz1 : w.heap.size + 1 < w2.heap.size := (by have := hbb.size; simp at this; omega); clear hb1 hb2))
  have hcn : w2.cell? ⟨w.heap.size, 0, none⟩ = some (.int .u64 0) := by rw [hc1 _ _ (by simp; omega)]; simp [go_sem]
  have hcw : w2.cell? ⟨w.heap.size, 1, none⟩ = some (.int .i64 x) := by rw [hc1 _ _ (by simp; omega)]; simp [go_sem]
  have hcL : w2.cell? ⟨w.heap.size, 2, none⟩ = some (.pointer L) := by rw [hc1 _ _ (by simp; omega)]; simp [go_sem]
  have hr0 : w2.drew.cell? ⟨w.heap.size + 1, 0, none⟩ = some (.int .u64 0) := by show w2.cell? _ = _; rw [hc1 _ _ (by simp)]; simp [go_sem]
  have hr1 : w2.drew.cell? ⟨w.heap.size + 1, 1, none⟩ = some (.int .i64 0) := by show w2.cell? _ = _; rw [hc1 _ _ (by simp)]; simp [go_sem]
  have hr2 : w2.drew.cell? ⟨w.heap.size + 1, 2, none⟩ = some (.pointer none) := by show w2.cell? _ = _; rw [hc1 _ _ (by simp)]; simp [go_sem]
  have hq : ∀ o, w2.drew.frozen? ⟨w.heap.size + 1, o, none⟩ = false := fun o => by show w2.frozen? _ = _; rw [hf1 _ _ (by simp)]; simp [go_sem]
  have HQ := Lib.hid hq
  clear hq
  have HL2 : Hid (TLoc w2 L z) := (HL.out.below (bA (bA (Below.refl _ _) _) _)).below hbb
  have HBB := Lib.hid hbb
  have HC1 := Lib.hid hc1
  have HF1 := Lib.hid hf1
  clear hbb hc1 hf1
  have ew1 : IntKind.i64.wrap (gyear (lo z x / 86400)) = gyear (lo z x / 86400) := IntWalk.i64_in _ (by omega)
  have ew2 : IntKind.i64.wrap (gmonth (lo z x / 86400) + dm) = gmonth (lo z x / 86400) + dm := IntWalk.i64_in _ (by omega)
  have ew3 : IntKind.i64.wrap (gday (lo z x / 86400) + dd) = gday (lo z x / 86400) + dd := IntWalk.i64_in _ (by omega)
  have ew4 : IntKind.i64.wrap 0 = 0 := by decide
  go_region_with (first
    | (go_at_call 121; refine (nsec0 _ _ (by first | exact hcn | assumption)).mono ?_; rintro e w3 ⟨rfl, rfl⟩)
    | (go_at_call 178; refine (tLoc 0 x L z _ (HL2.out.below (Below.refl _ _).drew)).mono ?_; rintro e w3 ⟨b3, rfl, hp3, rfl, hb3⟩; have hcn3 := keep hb3 (show w2.drew.cell? _ = _ from hcn))
    | (go_at_call 182; refine (dmk_add z (lo z x) k dm dd _ _ (by assumption) hl0 hl1 hc.out).mono ?_; rintro e w4 ⟨rfl, hb4⟩; have hb34 := hb3.trans (hb4.mono hb3.size); have hs0 := keep hb34 hr0; have hs1 := keep hb34 hr1; have hs2 := keep hb34 hr2; have hlt4 := World.block_lt_of_cell? _ _ hr0; have hq0 := (hb34.frozen (p := ⟨w.heap.size + 1, 0, none⟩) hlt4).trans (HQ.out 0); have hq1 := (hb34.frozen (p := ⟨w.heap.size + 1, 1, none⟩) hlt4).trans (HQ.out 1); have hq2 := (hb34.frozen (p := ⟨w.heap.size + 1, 2, none⟩) hlt4).trans (HQ.out 2)))
  all_goals
    go_wp2
    have hB : Below w.heap.size w w4 := ((bA (bA (Below.refl _ _) _) _).trans (HBB.out.mono (by simp; omega))).drew.trans (hb34.mono (by show w.heap.size ≤ w2.heap.size; omega))
    exact bodyPost_ret (v := .agg #[.int .u64 0, .int .i64 (reso z (lo z x + 86400 * k) + 62135596800), .pointer (canon b3 z)]) (by simp [results, Tryz.results183, go_sem, hs0, hs1, hs2]) rfl ⟨rfl, ((hB.setCell (by simp) _).setCell (by simp) _).setCell (by simp) _⟩
end Go.Proofs.YtjmgebhjkbcpcaaGreatDoor.NM
end
section
set_option linter.unusedVariables false
set_option linter.unusedSimpArgs false
namespace Go.Proofs.YtjmgebhjkbcpcaaGreatDoor.NM
open Go.RowKit Cal
theorem tTrunc60 (x : Int) (L : Option Addr) (w : World) (h0 : 0 ≤ x) (h1 : x ≤ 1500000000000) :
    Calls Tryz.prog 187 #[.agg #[.int .u64 0, .int .i64 x, .pointer L], .int .i64 60000000000] w fun e w' => e = .returned (.agg #[.int .u64 0, .int .i64 (x - x % 60), .pointer L]) ∧ Below w.heap.size w w' := by
  have hA0 := bits_big 0 (by decide) (by decide)
  go_enter Tryz.func187, Tryz.ntmps187
  go_wp2_with (first
    | (go_at_call 203; refine (div60 x L _ h0 (by omega)).mono ?_; rintro e w1 ⟨q, rfl, hb1⟩; obtain ⟨hc, hf⟩ := bcell hb1; have hz : w.heap.size + 1 < w1.heap.size := (by have := hb1.size; simp at this; omega))
    | (go_at_call 179; refine (tAddNeg x (x % 60) L _ h0 (by omega) (by omega) (by omega) (by omega)).mono ?_; rintro e w2 ⟨rfl, hb2⟩; have hbb := hb1.trans (hb2.mono hb1.size); clear hc hf; obtain ⟨hc, hf⟩ := bcell hbb; have hz2 : w.heap.size + 1 < w2.heap.size := (by have := hbb.size; simp at this; omega))
    | go_in)
  go_end0
  go_wp2_with (first
    | (go_at_call 203; refine (div60 x L _ h0 (by omega)).mono ?_; rintro e w1 ⟨q, rfl, hb1⟩; obtain ⟨hc, hf⟩ := bcell hb1; have hz : w.heap.size + 1 < w1.heap.size := (by have := hb1.size; simp at this; omega))
    | (go_at_call 179; refine (tAddNeg x (x % 60) L _ h0 (by omega) (by omega) (by omega) (by omega)).mono ?_; rintro e w2 ⟨rfl, hb2⟩; have hbb := hb1.trans (hb2.mono hb1.size); clear hc hf; obtain ⟨hc, hf⟩ := bcell hbb; have hz2 : w.heap.size + 1 < w2.heap.size := (by have := hbb.size; simp at this; omega))
    | go_in)
  exact bodyPost_ret (v := .agg #[.int .u64 0, .int .i64 (x - x % 60), .pointer L]) (by simp [results, Tryz.results187, go_sem, hc, hz2]) rfl ⟨rfl, (((((bA (bA (Below.refl _ _) _) _).trans (hbb.mono (by simp; omega)))).setCell (by simp) _).setCell (by simp) _).setCell (by simp) _⟩
theorem tTrunc1 (x : Int) (L : Option Addr) (w : World) (h0 : 0 ≤ x) (h1 : x ≤ 1500000000000) :
    Calls Tryz.prog 187 #[.agg #[.int .u64 0, .int .i64 x, .pointer L], .int .i64 1000000000] w fun e w' => e = .returned (.agg #[.int .u64 0, .int .i64 x, .pointer L]) ∧ Below w.heap.size w w' := by
  have hA0 := bits_big 0 (by decide) (by decide)
  go_enter Tryz.func187, Tryz.ntmps187
  go_wp2_with go_in
  go_end0
  go_wp2_with (first
    | (go_at_call 203; refine (div1 x L _ h0 (by omega)).mono ?_; rintro e w1 ⟨q, rfl, hb1⟩; obtain ⟨hc, hf⟩ := bcell hb1; have hz : w.heap.size + 1 < w1.heap.size := (by have := hb1.size; simp at this; omega))
    | (go_at_call 179; refine (tAdd0 x _ 0 L _ (by omega) (by omega) (by omega) (by omega) (by decide) (by decide)).mono ?_; rintro e w2 ⟨rfl, hb2⟩; have hbb := hb1.trans (hb2.mono hb1.size); clear hc hf; obtain ⟨hc, hf⟩ := bcell hbb; have hz2 : w.heap.size + 1 < w2.heap.size := (by have := hbb.size; simp at this; omega)))
  exact bodyPost_ret (v := .agg #[.int .u64 0, .int .i64 (x + 0), .pointer L]) (by simp [results, Tryz.results187, go_sem, hc, hz2]) rfl ⟨by rw [show x + 0 = x by omega], (((((bA (bA (Below.refl _ _) _) _).trans (hbb.mono (by simp; omega)))).setCell (by simp) _).setCell (by simp) _).setCell (by simp) _⟩
end Go.Proofs.YtjmgebhjkbcpcaaGreatDoor.NM
end
