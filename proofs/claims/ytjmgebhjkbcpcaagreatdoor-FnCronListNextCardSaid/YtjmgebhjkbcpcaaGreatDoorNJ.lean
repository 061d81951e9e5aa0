/- a part of the proof: FnCronListNext: for every six words, kind of field, part and instant the law function returns true and leaves its arguments as they were. No condition is added: the statement is the given one, the tied card. -/
import Derived.Test.YtjmgebhjkbcpcaaGreatDoorNI
import Derived.Test.YtjmgebhjkbcpcaaGreatDoorNH
import Derived.Laws.CopyOwn
import Derived.Laws.OwnMore
import Derived.Defers
import Derived.Recover
import Derived.Test.YtjmgebhjkbcpcaaGreatDoorNF
import Derived.Test.YtjmgebhjkbcpcaaGreatDoorNB
import Derived.Deep.MidRow
import Derived.Deep.DeepCutAuto
import Derived.Laws.Rows
import Derived.Deep.WholeRow
import Derived.Deep.RegionHeld3
section
set_option linter.unusedVariables false
set_option linter.unusedSimpArgs false
namespace Go.Proofs.YtjmgebhjkbcpcaaGreatDoor.Txt
open Go.Proofs.YtjmgebhjkbcpcaaGreatDoor.NM
open Go Go.RowKit Go.Lib Go.Proofs.YtjmgebhjkbcpcaaGreatDoorW.PrintWords
set_option maxRecDepth 100000
theorem own_form {W : World} {b n : Nat} {v : Value} {xs : List Value} (h : W.ownsRow b 9 1 v n xs) (hn : n ≠ 0) : ∃ g c, v = .slice (some ⟨g, 0, none⟩) n c := by
  rcases h.2 with ⟨h1, h2⟩ | ⟨g, c, cur, h1, h2⟩
  · exact absurd h2 hn
  · exact ⟨g, c, h1⟩
theorem tFieldsG (a : ByteArray) (ha : ∀ x ∈ tx a, x < 128) (hs : a.size < 1000000000) (hne : words (tx a) ≠ []) (w : World) :
    Calls Tryz.prog 49 #[.string a] w fun e w' => ∃ g c, e = .returned (.slice (some ⟨g, 0, none⟩) (words (tx a)).length c) ∧ w.heap.size ≤ g ∧ Strs w' g ((words (tx a)).map mk) ∧ Below w.heap.size w w' := by
  obtain ⟨i0, hi, hz0, hz1, hz2⟩ := info_parts info9
  have HI := Lib.hid (And.intro hi (And.intro hz0 (And.intro hz1 hz2)))
  have HA := Lib.hid ha
  have HNE := Lib.hid hne
  clear ha hi hz0 hz1 hz2 hne
  go_enter Tryz.func49, Tryz.ntmps49
  go_wp2
  go_loopg [3, 4] a.size (fun gf s3 fv wx => ∃ (pos : Nat) (acc : List Bs) (f : Int), fv = .int .i64 f ∧ Aside0 (pos + gf = a.size) ∧ Aside0 (WAt ((tx a).take pos) acc f) ∧ Aside0 (wx.ownsRow w.heap.size 9 1 s3 acc.length (sv acc)) ∧ Aside0 (wx.heap[w.heap.size]? = some (.stringIter a pos)) ∧ Aside0 (Below w.heap.size w wx))
  case atStart => exact ⟨0, [], -1, rfl, ⟨by omega⟩, ⟨WAt.start⟩, ⟨World.ownsRow_nil _ _ _ _⟩, ⟨World.iter_heap w a 0⟩, ⟨bA (Below.refl _ _) _⟩⟩
  case round =>
    obtain ⟨pos, acc, f, rfl, HP, HW, HO, HT, HB⟩ := hrel
    have hlen : ((tx a).take pos).length = pos := by rw [List.length_take, tx_len]; have := HP.out; omega
    have hle := HW.out.le
    have hcnt := HW.out.count
    rw [hlen] at hle hcnt
    obtain ⟨hm1, hfl⟩ := hle
    by_cases hlt : pos < a.size
    · obtain ⟨g', rfl⟩ : ∃ g', gk = g' + 1 := ⟨gk - 1, by have := HP.out; omega⟩
      have hnx : ∀ ty, (Instr.next (.pointer (some ⟨w.heap.size, 0, none⟩)) true ty).run Tryz.prog wr = _ := fun ty => Lib.run_next_ascii_at wr w.heap.size a pos ty HT.out hlt (by have := HA.out a[pos] (List.getElem_mem (l := tx a) (by rw [tx_len]; exact hlt)); exact this)
      obtain ⟨c, hc⟩ : ∃ c, a[pos] = c := ⟨_, rfl⟩
      rw [hc] at hnx
      have hc128 : c < 128 := by rw [← hc]; exact HA.out _ (List.getElem_mem (l := tx a) (by rw [tx_len]; exact hlt))
      have hit2 := Lib.iterAt_heap wr w.heap.size a pos (pos + 1) HT.out
      have hbw2 := Lib.below_iterAt HB.out (k := w.heap.size) (Nat.le_refl _) a (pos + 1)
      have hown2 := Go.Proofs.own_iterAt HO.out HT.out (pos + 1)
      have htk : (tx a).take (pos + 1) = (tx a).take pos ++ [c] := by
        have : (tx a)[pos]? = some c := by rw [List.getElem?_eq_getElem (by rw [tx_len]; exact hlt)]; exact congrArg some hc
        rw [List.take_add_one, this]; rfl
      obtain ⟨W, hWd⟩ : ∃ W, wr.iterAt w.heap.size a (pos + 1) = W := ⟨_, rfl⟩
      rw [hWd] at hnx hit2 hbw2 hown2
      have hsp := fun w => tSpace c hc128 w
      have H1 := Lib.hid hit2
      have H2 := Lib.hid hbw2
      have H3 := Lib.hid hown2
      have H4 := Lib.hid htk
      have HSP := Lib.hid hsp
      have HL := Lib.hid hlen
      clear hc hc128 hit2 hbw2 hown2 htk hWd hsp hlen
      cases hb : blank c with
      | true =>
        rw [hb] at HSP
        have HBL := Lib.hid hb
        clear hb
        by_cases cf : 0 ≤ f
        · have c2 : decide (0 ≤ f) = true := decide_eq_true cf
          have hfp : f ≤ (pos : Int) := by have := hfl cf; omega
          have hpa : (pos : Int) ≤ (a.size : Int) := by omega
          have hx : a.extract f.toNat pos = mk (((tx a).take pos).drop f.toNat) := tx_inj (by rw [tx_mk, tx_extract, List.drop_take])
          have HX := Lib.hid hx
          clear hx hfl hcnt
          go_wp2_with (first
            | (go_at_call 86; (with_reducible refine (HSP.out _).mono ?_); rintro e w1 ⟨rfl, hb1⟩; have H5 := Lib.hid hb1; clear hb1)
            | ((with_reducible refine wpList_append_own (o := ⟨some 23, _, _, _, _, _⟩) _ ?h1 (.tmp 17) (.tmp 22) 32 ?h2 w.heap.size 9 i0 (.string ⟨#[]⟩) 1 16 Tryz.underlying32 HI.out.1 HI.out.2.1 HI.out.2.2.1 HI.out.2.2.2 rfl (by decide) _ acc.length _ ?h3 ((pw_own_below H3.out H5.out).alloc _) ⟨w1.heap.size, 0, none⟩ 1 1 [.string (a.extract f.toNat pos)] ?h4 rfl ?h5 ?h6 ?h7 ?h8 ?h9 ?_); (case h1 => rfl); (case h2 => rfl); (case h3 => rfl); (case h4 => rfl); (case h5 => exact cell_one_new _ _ _); (case h6 => (intro u hu; simp at hu; rw [hu]; rfl)); (case h7 => (have := HW.out.count; rw [HL.out] at this; unfold maxLen; omega)); (case h8 => (have := HW.out.count; rw [HL.out] at this; omega)); (case h9 => (simp; have := H2.out.size; have := H5.out.size; omega)); intro v' w' ho' hg' _; have H6 := Lib.hid ho'; have H7 := Lib.hid hg'; clear ho' hg'))
          go_roundg g'
          case measure => omega
          case rel =>
            have hsz := (Array.getElem?_eq_some_iff.1 H1.out).1
            refine ⟨pos + 1, acc ++ [((tx a).take pos).drop f.toNat], -1, rfl, ⟨by have := HP.out; omega⟩, ⟨by rw [H4.out]; exact HW.out.close HBL.out cf⟩, ⟨?_⟩, ⟨?_⟩, ⟨?_⟩⟩
            · have := H6.out
              rw [HX.out] at this
              simpa [sv] using this
            · rw [H7.out.block _ (by simp; have := H5.out.size; omega) (Go.Proofs.own_ne_iter H3.out H1.out), Below.heap_alloc _ _ _ (by have := H5.out.size; omega), H5.out.block _ hsz]; exact H1.out
            · exact Below.grown ((H2.out.trans (H5.out.mono H2.out.size)).alloc (by have := H2.out.size; have := H5.out.size; omega) _) H7.out (by simp; have := H2.out.size; have := H5.out.size; omega) (fun k hk => (H3.out.lt k hk).1)
        · have c2 : decide (0 ≤ f) = false := decide_eq_false cf
          go_wp2_with (first
            | (go_at_call 86; (with_reducible refine (HSP.out _).mono ?_); rintro e w1 ⟨rfl, hb1⟩; have H5 := Lib.hid hb1; clear hb1))
          go_roundg g'
          case measure => omega
          case rel => exact ⟨pos + 1, acc, f, rfl, ⟨by have := HP.out; omega⟩, ⟨by rw [H4.out]; exact HW.out.skip HBL.out (by omega)⟩, ⟨pw_own_below H3.out H5.out⟩, ⟨by rw [H5.out.block _ (Array.getElem?_eq_some_iff.1 H1.out).1]; exact H1.out⟩, ⟨H2.out.trans (H5.out.mono H2.out.size)⟩⟩
      | false =>
        rw [hb] at HSP
        have HBL := Lib.hid hb
        clear hb
        by_cases cf : f < 0
        · have c2 : decide (f < 0) = true := decide_eq_true cf
          go_wp2_with (first
            | (go_at_call 86; (with_reducible refine (HSP.out _).mono ?_); rintro e w1 ⟨rfl, hb1⟩; have H5 := Lib.hid hb1; clear hb1))
          go_roundg g'
          case measure => omega
          case rel => exact ⟨pos + 1, acc, pos, rfl, ⟨by have := HP.out; omega⟩, ⟨by rw [H4.out]; have := HW.out.first HBL.out cf; rw [HL.out] at this; exact this⟩, ⟨pw_own_below H3.out H5.out⟩, ⟨by rw [H5.out.block _ (Array.getElem?_eq_some_iff.1 H1.out).1]; exact H1.out⟩, ⟨H2.out.trans (H5.out.mono H2.out.size)⟩⟩
        · have c2 : decide (f < 0) = false := decide_eq_false cf
          go_wp2_with (first
            | (go_at_call 86; (with_reducible refine (HSP.out _).mono ?_); rintro e w1 ⟨rfl, hb1⟩; have H5 := Lib.hid hb1; clear hb1))
          go_roundg g'
          case measure => omega
          case rel => exact ⟨pos + 1, acc, f, rfl, ⟨by have := HP.out; omega⟩, ⟨by rw [H4.out]; exact HW.out.next HBL.out (by omega)⟩, ⟨pw_own_below H3.out H5.out⟩, ⟨by rw [H5.out.block _ (Array.getElem?_eq_some_iff.1 H1.out).1]; exact H1.out⟩, ⟨H2.out.trans (H5.out.mono H2.out.size)⟩⟩
    · have hpe : pos = a.size := by have := HP.out; omega
      have hnx : ∀ ty, (Instr.next (.pointer (some ⟨w.heap.size, 0, none⟩)) true ty).run Tryz.prog wr = _ := fun ty => Lib.run_next_end_at wr w.heap.size a pos ty HT.out hlt
      have hall : (tx a).take pos = tx a := List.take_of_length_le (by rw [tx_len]; omega)
      have hw := HW.out
      rw [hall] at hw
      have HWW := Lib.hid hw
      clear hw hall
      by_cases cf : 0 ≤ f
      · have c2 : decide (0 ≤ f) = true := decide_eq_true cf
        have hfp : f ≤ (a.size : Int) := by have := hfl cf; omega
        have hx : a.extract f.toNat a.size = mk ((tx a).drop f.toNat) := tx_inj (by rw [tx_mk, tx_all])
        have HX := Lib.hid hx
        have HL := Lib.hid hlen
        clear hx hfl hcnt hlen
        go_wp2_with (first
            | ((with_reducible refine wpList_append_own (o := ⟨some 34, _, _, _, _, _⟩) _ ?h1 (.tmp 29) (.tmp 33) 32 ?h2 w.heap.size 9 i0 (.string ⟨#[]⟩) 1 16 Tryz.underlying32 HI.out.1 HI.out.2.1 HI.out.2.2.1 HI.out.2.2.2 rfl (by decide) _ acc.length _ ?h3 (HO.out.alloc _) ⟨wr.heap.size, 0, none⟩ 1 1 [.string (a.extract f.toNat a.size)] ?h4 rfl ?h5 ?h6 ?h7 ?h8 ?h9 ?_); (case h1 => rfl); (case h2 => rfl); (case h3 => rfl); (case h4 => rfl); (case h5 => exact cell_one_new _ _ _); (case h6 => (intro u hu; simp at hu; rw [hu]; rfl)); (case h7 => (have := HW.out.count; rw [HL.out] at this; unfold maxLen; omega)); (case h8 => (have := HW.out.count; rw [HL.out] at this; omega)); (case h9 => (simp; have := HB.out.size; omega)); intro v' w' ho' hg' _; have H6 := Lib.hid ho'; have H7 := Lib.hid hg'; clear ho' hg'))
        go_ret
        have hfin := HWW.out.fin1 cf
        have ho := H6.out
        rw [HX.out] at ho
        have hn : (words (tx a)).length = acc.length + 1 := by rw [hfin]; simp
        have ho2 : w'.ownsRow w.heap.size 9 1 v' (words (tx a)).length (sv (words (tx a))) := by rw [hn, hfin]; simpa [sv] using ho
        obtain ⟨g, c, hv⟩ : ∃ g c, v' = .slice (some ⟨g, 0, none⟩) (words (tx a)).length c := by
          rcases ho2.2 with ⟨h1, h2⟩ | ⟨g, c, cur, h1, h2⟩
          · rw [hn] at h2; omega
          · exact ⟨g, c, h1⟩
        subst hv
        refine ⟨g, c, rfl, ho2.lt g rfl |>.1, Strs.of_own ho2 rfl, ?_⟩
        exact Below.grown (HB.out.alloc HB.out.size _) H7.out (by simp; have := HB.out.size; omega) (fun k hk => (HO.out.lt k hk).1)
      · have c2 : decide (0 ≤ f) = false := decide_eq_false cf
        have hfin := HWW.out.fin0 (by omega)
        obtain ⟨g, cc, hv⟩ := own_form HO.out (by intro e; exact HNE.out (by rw [hfin]; exact List.eq_nil_of_length_eq_zero e))
        subst hv
        have H9 := Lib.hid hfin
        clear hfin
        go_wp2
        go_ret
        exact ⟨g, ⟨cc, by rw [H9.out]; rfl⟩, HO.out.lt g rfl |>.1, by rw [H9.out]; exact Strs.of_own HO.out rfl, HB.out⟩
end Go.Proofs.YtjmgebhjkbcpcaaGreatDoor.Txt
end
section
set_option linter.unusedVariables false
set_option linter.unusedSimpArgs false
namespace Go.Proofs.YtjmgebhjkbcpcaaGreatDoor.Txt
open Go.Proofs.YtjmgebhjkbcpcaaGreatDoor.NM
open Go Go.RowKit Go.Lib Go.Proofs.YtjmgebhjkbcpcaaGreatDoorW.PrintWords
set_option maxRecDepth 100000
theorem tPlaces (w : World) : Calls Tryz.prog 90 #[] w fun e w' => ∃ g, e = .returned (.slice (some ⟨g, 0, none⟩) 6 6) ∧ w.heap.size ≤ g ∧ w'.heap[g]? = some (.cells #[.int .i64 1, .int .i64 4, .int .i64 8, .int .i64 16, .int .i64 32, .int .i64 64] 63 (0, 0)) ∧ Below w.heap.size w w' := by
  go_enter Tryz.func90, Tryz.ntmps90
  go_wp2
  go_ret
  exact ⟨w.heap.size, rfl, Nat.le_refl _, heap_alloc_new _ _, bA (Below.refl _ _) _⟩
theorem tDefaults (w : World) : Calls Tryz.prog 91 #[] w fun e w' => ∃ g, e = .returned (.slice (some ⟨g, 0, none⟩) 6 6) ∧ w.heap.size ≤ g ∧ w'.heap[g]? = some (.cells #[.string ⟨#[48]⟩, .string ⟨#[48]⟩, .string ⟨#[48]⟩, .string ⟨#[42]⟩, .string ⟨#[42]⟩, .string ⟨#[42]⟩] 9 (0, 0)) ∧ Below w.heap.size w w' := by
  go_enter Tryz.func91, Tryz.ntmps91
  go_wp2
  go_ret
  exact ⟨w.heap.size, rfl, Nat.le_refl _, heap_alloc_new _ _, bA (Below.refl _ _) _⟩
def PL : List Int := [1, 4, 8, 16, 32, 64]
theorem PL_bits : ∀ p ∈ PL, decide (0 < bits .and .i64 125 p) = true := by decide
def PI (w : World) (g : Nat) : Prop := w.heap[g]? = some (.cells #[.int .i64 1, .int .i64 4, .int .i64 8, .int .i64 16, .int .i64 32, .int .i64 64] 63 (0, 0))
theorem PI.cell {w : World} {g : Nat} (h : PI w g) (n : Nat) (hn : n < 6) : ∃ p, w.cell? ⟨g, n, none⟩ = some (.int .i64 p) ∧ p ∈ PL := by
  have h' : ∀ i, w.cell? ⟨g, i, none⟩ = _ := fun i => cell_of_row _ _ i _ _ _ h
  have hc : n = 0 ∨ n = 1 ∨ n = 2 ∨ n = 3 ∨ n = 4 ∨ n = 5 := by omega
  rcases hc with rfl | rfl | rfl | rfl | rfl | rfl
  · exact ⟨1, h' 0, by decide⟩
  · exact ⟨4, h' 1, by decide⟩
  · exact ⟨8, h' 2, by decide⟩
  · exact ⟨16, h' 3, by decide⟩
  · exact ⟨32, h' 4, by decide⟩
  · exact ⟨64, h' 5, by decide⟩
theorem mk6 : ∃ Z : Array Value, Z.size = 6 ∧ ∀ w : World, (Instr.makeSlice 32 (.int .i64 6) (.int .i64 6)).run Tryz.prog w = .ok (.slice (some ⟨w.heap.size, 0, none⟩) 6 6) (w.alloc (.cells Z 9)) := by
  obtain ⟨i0, hi, hz0, hz1, hz2⟩ := info_parts info9
  refine ⟨madeCells (Value.string ⟨#[]⟩).cells (6 * i0.size), by rw [size_madeCells, hz1], fun w => ?_⟩
  exact run_makeSlice w 32 9 i0 (.string ⟨#[]⟩) Tryz.underlying32 hi hz0 .i64 .i64 6 6 (by decide) (by decide) (by rw [hz1]; decide) (by rw [hz2]; decide) (by decide)
/-- the new row: its first n texts stand -/
def Filled (w : World) (x : Nat) (xs : List ByteArray) (n : Nat) : Prop := ∃ cur : Array Value, w.heap[x]? = some (.cells cur 9 (0, 0)) ∧ cur.size = 6 ∧ ∀ i (h : i < xs.length), i < n → cur[i]? = some (.string xs[i])
theorem Filled.keep {w w' : World} {x n : Nat} {xs : List ByteArray} (h : Filled w x xs n) (hb : Below w.heap.size w w') : Filled w' x xs n := by
  obtain ⟨cur, h1, h2⟩ := h
  exact ⟨cur, by rw [hb.block _ (Array.getElem?_eq_some_iff.1 h1).1]; exact h1, h2⟩
theorem Filled.at {w : World} {x n : Nat} {xs : List ByteArray} (h : Filled w x xs n) (i : Nat) (hi : i < 6) : (∃ u, w.cell? ⟨x, i, none⟩ = some u) ∧ w.frozen? ⟨x, i, none⟩ = false := by
  obtain ⟨cur, h1, h2, _⟩ := h
  exact ⟨⟨cur[i], by rw [cell_of_row _ _ _ _ _ _ h1]; exact Array.getElem?_eq_getElem (by omega)⟩, frozen_of_row _ _ _ _ _ h1⟩
theorem Filled.put {w : World} {x n : Nat} {xs : List ByteArray} (h : Filled w x xs n) (hn : n < xs.length) (h6 : xs.length = 6) : Filled (w.setCell ⟨x, n, none⟩ (.string xs[n])) x xs (n + 1) := by
  obtain ⟨cur, h1, h2, h3⟩ := h
  refine ⟨_, heap_setCell_same w x n cur 9 _ h1, by simpa using h2, fun i hi hl => ?_⟩
  by_cases e : i = n
  · subst e
    simp [Array.getElem?_setIfInBounds]; omega
  · rw [Array.getElem?_setIfInBounds_ne (Ne.symm e)]
    exact h3 i hi (by omega)
theorem PI.put {w : World} {g x n : Nat} {v : Value} (h : PI w g) (hne : g ≠ x) : PI (w.setCell ⟨x, n, none⟩ v) g := by
  unfold PI at h ⊢
  rw [heap_setCell_other _ _ _ _ (by exact hne)]; exact h
def D6 : List Value := [.string ⟨#[48]⟩, .string ⟨#[48]⟩, .string ⟨#[48]⟩, .string ⟨#[42]⟩, .string ⟨#[42]⟩, .string ⟨#[42]⟩]
theorem size9 : (Tryz.prog.info? 9).map (·.size) = some 1 := by
  obtain ⟨i0, hi, hz0, hz1, hz2⟩ := info_parts info9
  rw [hi, Option.map_some, hz1]
theorem copy6 (w w0 : World) (x d B : Nat) (xs : List ByteArray) (hx : Filled w x xs 0) (hd : w.heap[d]? = some (.cells #[.string ⟨#[48]⟩, .string ⟨#[48]⟩, .string ⟨#[48]⟩, .string ⟨#[42]⟩, .string ⟨#[42]⟩, .string ⟨#[42]⟩] 9 (0, 0))) (hB : Below B w0 w) (hBx : B ≤ x) :
    ∃ w4, (Builtin.copy_ #[32, 32] 3 #[.slice (some ⟨x, 0, none⟩) 6 6, .slice (some ⟨d, 0, none⟩) 6 6]).run Tryz.prog w = .ok (.int .i64 6) w4 ∧ Filled w4 x xs 0 ∧ Below B w0 w4 := by
  obtain ⟨cur, h1, h2, h3⟩ := hx
  have hr := run_copy_row (P := Tryz.prog) w 32 32 3 9 x 0 6 6 ⟨d, 0, none⟩ 6 6 cur 9 D6 Tryz.underlying32 size9 h1 (by decide) (fun j v hj => by
    have e : (⟨d, 0, none⟩ : Addr).add j = ⟨d, j, none⟩ := by simp [Addr.add]; omega
    rw [e, cell_of_row _ _ _ _ _ _ hd, ← Array.getElem?_toList]
    exact hj) (by rw [h2]; decide) (by decide)
  refine ⟨_, hr, ⟨_, setRow_heap w x cur _ 9 _ h1, by simp [D6, h2], fun i _ hi => absurd hi (Nat.not_lt_zero _)⟩, below_setRow hB hBx _⟩
theorem tNormal (g c : Nat) (xs : List ByteArray) (hl : xs.length = 6) (w : World) (h : Strs w g xs) :
    Calls Tryz.prog 50 #[.slice (some ⟨g, 0, none⟩) 6 c, .int .i64 125] w fun e w' => ∃ x, e = .returned (.tuple #[.slice (some ⟨x, 0, none⟩) 6 6, .nilIface]) ∧ w.heap.size ≤ x ∧ Strs w' x xs ∧ Below w.heap.size w w' := by
  obtain ⟨Z, hZ, hmk⟩ := mk6
  have HS := Lib.hid h
  have HL := Lib.hid hl
  have HZ := Lib.hid hZ
  have hb125 : bits .and .i64 125 128 = 0 := by decide
  have hb2 : bits .and .i64 125 2 = 0 := by decide
  clear h hl hZ
  go_enter Tryz.func50, Tryz.ntmps50
  go_upto_region 12 with (go_at_call 90; (with_reducible refine (tPlaces _).mono ?_); rintro e w1 ⟨p, rfl, hp, hpi, hb1⟩; have G1 := Lib.hid (show PI w1 p from hpi); have B1 := Lib.hid hb1; clear hpi hb1 hp)
  go_loopw [35, 7] (fun iv cv wr => ∃ (n : Nat), iv = .int .i64 n ∧ cv = .int .i64 n ∧ Aside0 (n ≤ 6) ∧ Aside0 (PI wr p) ∧ Aside0 (Below w.heap.size w wr)) (fun iv _ _ => 2000000000000 - (intOf iv).toNat)
  case atStart => exact ⟨0, rfl, rfl, ⟨by omega⟩, ⟨G1.out⟩, ⟨B1.out⟩⟩
  case round =>
    obtain ⟨n, rfl, rfl, HN, HP, HB⟩ := hrel
    by_cases cn : n < 6
    · have ct : decide ((n : Int) < 6) = true := decide_eq_true (by omega)
      have ct' : (n : Int) < 6 := by omega
      obtain ⟨q, c1, hq⟩ := HP.out.cell n cn
      have hbit := PL_bits q hq
      have hnb : (n : Int) < 1099511627776 := by omega
      clear hq
      go_wp2
      go_roundw
      case measure => simp [intOf]; omega
      case rel => exact ⟨n + 1, by go_num, by go_num, ⟨by omega⟩, ⟨HP.out⟩, ⟨HB.out⟩⟩
    · have hn : n = 6 := by have := HN.out; omega
      subst hn
      go_upto_region 31 with (go_at_call 90; (with_reducible refine (tPlaces _).mono ?_); rintro e w2 ⟨p2, rfl, hp2, hpi2, hb2⟩; have B2 := Lib.hid hb2; clear hpi2 hb2 hp2)
      have G3 := Lib.hid (show Filled (w2.alloc (.cells Z 9)) w2.heap.size xs 0 from ⟨Z, heap_alloc_new _ _, HZ.out, fun i _ hi => absurd hi (Nat.not_lt_zero _)⟩)
      have B3 := Lib.hid (bA (HB.out.trans (B2.out.mono HB.out.size)) (.cells Z 9))
      have X3 := Lib.hid (show w.heap.size ≤ w2.heap.size by have := HB.out.size; have := B2.out.size; omega)
      generalize hx3 : w2.heap.size = x3 at *
      generalize hw3 : w2.alloc (.cells Z 9) = w3 at *
      clear hx3 hw3 B2
      go_upto_region 32 with (go_at_call 91; (with_reducible refine (tDefaults _).mono ?_); rintro e w4 ⟨d, rfl, hd, hdd, hb4⟩; obtain ⟨w5, hcp, hf5, hb5⟩ := copy6 w4 w x3 d w.heap.size xs (G3.out.keep hb4) hdd (B3.out.trans (hb4.mono B3.out.size)) X3.out; have G5 := Lib.hid hf5; have B5 := Lib.hid hb5; clear hdd hb4 hd hf5 hb5)
      go_upto_region 33 with (go_at_call 90; (with_reducible refine (tPlaces _).mono ?_); rintro e w6 ⟨p6, rfl, hp6, hpi6, hb6⟩; have G6 := Lib.hid (show PI w6 p6 from hpi6); have B6 := Lib.hid hb6; have P6 := Lib.hid hp6; clear hpi6 hb6 hp6)
      have F6 := Lib.hid (G5.out.keep B6.out)
      have BW := Lib.hid (B5.out.trans (B6.out.mono B5.out.size))
      have N6 := Lib.hid (show p6 ≠ x3 by obtain ⟨cur, h1, _⟩ := G5.out; have := (Array.getElem?_eq_some_iff.1 h1).1; have := P6.out; omega)
      clear B5 B6 P6 G5 G3
      go_loopw [102, 12] (fun iv cv wr => ∃ (n : Nat), iv = .int .i64 n ∧ cv = .int .i64 n ∧ Aside0 (n ≤ 6) ∧ Aside0 (PI wr p6) ∧ Aside0 (Filled wr x3 xs n) ∧ Aside0 (Below w.heap.size w wr)) (fun iv _ _ => 2000000000000 - (intOf iv).toNat)
      case atStart => exact ⟨0, rfl, rfl, ⟨by omega⟩, ⟨G6.out⟩, ⟨F6.out⟩, ⟨BW.out⟩⟩
      case round =>
        obtain ⟨n, rfl, rfl, HN2, HP2, HF2, HB2⟩ := hrel
        by_cases cn : n < 6
        · have ct : decide ((n : Int) < 6) = true := decide_eq_true (by omega)
          have ct' : (n : Int) < 6 := by omega
          obtain ⟨q, c1, hq⟩ := HP2.out.cell n cn
          have hbit := PL_bits q hq
          have hnb : (n : Int) < 1099511627776 := by omega
          obtain ⟨⟨u, c2⟩, c3⟩ := HF2.out.at n cn
          have hnx : n < xs.length := by rw [HL.out]; exact cn
          have c4 : wr.cell? ⟨g, n, none⟩ = some (.string (xs[n]'hnx)) := (HS.out.move (HB2.out.block _ HS.out.lt)).cell n hnx
          have HNX := Lib.hid hnx
          have hput := HF2.out.put hnx HL.out
          obtain ⟨s, hs⟩ : ∃ s, xs[n]'hnx = s := ⟨_, rfl⟩
          rw [hs] at c4 hput
          have HPUT := Lib.hid hput
          clear hq hput hs hnx
          go_wp2
          go_roundw
          case measure => simp [intOf]; omega
          case rel => exact ⟨n + 1, by go_num, by go_num, ⟨by omega⟩, ⟨HP2.out.put N6.out⟩, ⟨HPUT.out⟩, ⟨below_set HB2.out X3.out⟩⟩
        · have hn : n = 6 := by have := HN2.out; omega
          subst hn
          go_wp2
          go_ret2
          refine ⟨x3, rfl, X3.out, ?_, HB2.out⟩
          obtain ⟨cur, h1, h2, h3⟩ := HF2.out
          exact ⟨cur, h1, fun i hi => h3 i hi (by have := HL.out; omega)⟩
end Go.Proofs.YtjmgebhjkbcpcaaGreatDoor.Txt
end
section
set_option linter.unusedVariables false
set_option linter.unusedSimpArgs false
namespace Go.Proofs.YtjmgebhjkbcpcaaGreatDoor.Txt
open Go.Proofs.YtjmgebhjkbcpcaaGreatDoor.NM
open Go Go.RowKit Go.Lib Go.Proofs.YtjmgebhjkbcpcaaGreatDoorW.PrintWords
set_option maxRecDepth 100000
theorem tUTC (w : World) : Calls Tryz.prog 68 #[] w fun e w' => ∃ p, e = .returned (.pointer p) ∧ Below w.heap.size w w' := by
  go_enter Tryz.func68, Tryz.ntmps68
  go_wp2
  go_ret
  exact ⟨_, rfl, by repeat (first | exact Below.refl _ _ | apply below_alloc)⟩
theorem tLoad (a : ByteArray) (h : zoneFine (tx a)) (w : World) : Calls Tryz.prog 46 #[.string a] w fun e w' => ∃ p, e = .returned (.tuple #[.pointer p, .nilIface]) ∧ Below w.heap.size w w' := by
  have ha : a = ⟨#[]⟩ ∨ a = ⟨#[85, 84, 67]⟩ ∨ a = ⟨#[76, 111, 99, 97, 108]⟩ := by
    rcases h with h | h | h
    · exact .inl (tx_inj h)
    · exact .inr (.inl (tx_inj h))
    · exact .inr (.inr (tx_inj h))
  clear h
  rcases ha with rfl | rfl | rfl
  · go_enter Tryz.func46, Tryz.ntmps46
    go_wp2_with (go_at_call 68; (with_reducible refine (tUTC _).mono ?_); rintro e w1 ⟨p, rfl, hb1⟩)
    go_ret2
    exact ⟨p, rfl, hb1⟩
  · go_enter Tryz.func46, Tryz.ntmps46
    go_wp2_with (go_at_call 68; (with_reducible refine (tUTC _).mono ?_); rintro e w1 ⟨p, rfl, hb1⟩)
    go_ret2
    exact ⟨p, rfl, hb1⟩
  · go_enter Tryz.func46, Tryz.ntmps46
    go_wp2
    go_ret2
    exact ⟨none, rfl, Below.refl _ _⟩
theorem tNewParser (w : World) : Calls Tryz.prog 42 #[.int .i64 125] w fun e w' => e = .returned (.agg #[.int .i64 125]) ∧ Below w.heap.size w w' := by
  have hb125 : bits .and .i64 125 128 = 0 := by decide
  have hb2 : bits .and .i64 125 2 = 0 := by decide
  go_enter Tryz.func42, Tryz.ntmps42
  go_wp2
  refine bodyPost_ret (results_cell_row rfl _ _ w.heap.size 65 #[.int .i64 125] (0, 0) _ rfl (heap_alloc_new _ _) Tryz.underlying65 rfl (by kernel_rfl)) rfl ?_
  exact ⟨rfl, bA (Below.refl _ _) _⟩
theorem tCatch (p : Addr) (w : World) :
    CallsD Tryz.prog 41 #[.pointer (some p)] .returning w fun e u' w' => e = .returned (.tuple #[]) ∧ u' = .returning ∧ w' = w := by
  refine callsD_of_wpS Tryz.func41 rfl fun c₀ cs hu => ?_
  apply wpS_seq
  apply wpS_region
  simp [wpOpsS, go_sem, recoverD, hu, Tryz.ntmps41, Exit.thenS]
  refine wpS_cond (t := false) (by simp [Act.eval, Array.replicate]) ?_
  simp only [Bool.false_eq_true, if_false]
  refine wpS_of_wp (wp_skip ?_)
  cases c₀
  simp_all [bodyPostS, results, Tryz.results41]
theorem tParser (w : World) : Calls Tryz.prog 23 #[.int .i64 125] w fun e w' => e = .returned (.tuple #[.agg #[.int .i64 125], .bool false]) ∧ Below w.heap.size w w' := by
  have hmf : ∀ (fn : Fn) (first cap : Array Value) (w : World), (Instr.makeFunc fn first cap).run Tryz.prog w = .ok (.func fn first cap) w := fun _ _ _ _ => rfl
  go_enter_defers Tryz.func23, Tryz.ntmps23
  go_wp2_with (go_at_call 42; (with_reducible refine (tNewParser _).mono ?_); rintro e w1 ⟨rfl, hb1⟩; have h1 : w1.heap[w.heap.size]? = some (.cells #[.int .i64 0] 65 (0, 0)) := (by rw [hb1.block _ (by simp; omega), Below.heap_alloc _ _ _ (by simp)]; exact heap_alloc_new _ _); have h2 : w1.heap[w.heap.size + 1]? = some (.cells #[.bool false] 4 (0, 0)) := (by rw [hb1.block _ (by simp)]; have e : w.heap.size + 1 = (w.alloc (.cells #[.int .i64 0] 65)).heap.size := (by simp); rw [e]; exact heap_alloc_new _ _); have c1 := cell_of_row _ _ 0 _ _ _ h1; have c2 := frozen_of_row _ _ 0 _ _ h1; have c3 := cell_of_row _ _ 0 _ _ _ h2; have c4 := frozen_of_row _ _ 0 _ _ h2; have H1 := Lib.hid h1; have H2 := Lib.hid h2; have HB := Lib.hid hb1; clear h1 h2 hb1)
  refine leaves_cons (f := 41) (args := #[.pointer (some ⟨w.heap.size + 1, 0, none⟩)]) (by simp) (by simp [go_sem]) ?_
  refine (tCatch _ _).mono ?_
  rintro e u' w'' ⟨rfl, rfl, rfl⟩
  have k1 := heap_setCell_same _ _ 0 _ _ (.int .i64 125) H1.out
  have k2 := heap_setCell_same (w1.setCell ⟨w.heap.size, 0, none⟩ (.int .i64 125)) (w.heap.size + 1) 0 _ _ (.bool false) (by rw [heap_setCell_other _ _ _ _ (by simp)]; exact H2.out)
  have k3 : ((w1.setCell ⟨w.heap.size, 0, none⟩ (.int .i64 125)).setCell ⟨w.heap.size + 1, 0, none⟩ (.bool false)).heap[w.heap.size]? = _ := (heap_setCell_other _ _ _ _ (by simp)).trans k1
  have hb : Below w.heap.size w ((w1.setCell ⟨w.heap.size, 0, none⟩ (.int .i64 125)).setCell ⟨w.heap.size + 1, 0, none⟩ (.bool false)) := below_set (below_set ((bA (bA (Below.refl _ _) _) _).trans (HB.out.mono (by simp; omega))) (Nat.le_refl _)) (Nat.le_succ _)
  generalize (w1.setCell ⟨w.heap.size, 0, none⟩ (.int .i64 125)).setCell ⟨w.heap.size + 1, 0, none⟩ (.bool false) = W at *
  have d1 : W.cell? ⟨w.heap.size, 0, none⟩ = some (.int .i64 125) := cell_of_row _ _ 0 _ _ _ k3
  have d2 : W.cell? ⟨w.heap.size + 1, 0, none⟩ = some (.bool false) := cell_of_row _ _ 0 _ _ _ k2
  simp [Leaves, settle, results, Tryz.results23, go_sem, d1, d2, hb]
end Go.Proofs.YtjmgebhjkbcpcaaGreatDoor.Txt
end
section
set_option linter.unusedVariables false
set_option linter.unusedSimpArgs false
namespace Go.Proofs.YtjmgebhjkbcpcaaGreatDoor.Txt
open Go.Proofs.YtjmgebhjkbcpcaaGreatDoor.NM
open Go Go.RowKit Go.Lib Go.Proofs.YtjmgebhjkbcpcaaGreatDoorW.PrintWords
set_option maxRecDepth 100000
theorem below_same {B g : Nat} {w w1 : World} {v : Value} {t : TypeId} (hb : Below B w w1) (h : w1.heap[g]? = some (.cells #[v] t (0, 0))) : Below B w (w1.setCell ⟨g, 0, none⟩ v) := by
  have hs := heap_setCell_same w1 g 0 _ t v h
  refine hb.trans ⟨rfl, rfl, rfl, by simp, fun k hk => ?_⟩
  by_cases e : k = g
  · subst e
    rw [hs, h]; rfl
  · exact heap_setCell_other _ _ _ _ (by exact e)
def ErrNil (w : World) (g : Nat) : Prop := w.heap[g]? = some (.cells #[.nilIface] 72 (0, 0))
theorem ErrNil.keep {w w' : World} {g : Nat} (h : ErrNil w g) (hb : Below w.heap.size w w') : ErrNil w' g := by
  unfold ErrNil at h ⊢
  rw [hb.block _ (Array.getElem?_eq_some_iff.1 h).1]; exact h
theorem ErrNil.cells {w : World} {g : Nat} (h : ErrNil w g) : w.cell? ⟨g, 0, none⟩ = some .nilIface ∧ w.frozen? ⟨g, 0, none⟩ = false := ⟨cell_of_row _ _ 0 _ _ _ h, frozen_of_row _ _ 0 _ _ h⟩
theorem tGet51 (kind : Nat) (a : ByteArray) (hs : a.size < 1000000000) (hF : FF kind (tx a)) (g : Nat) (w : World) (he : ErrNil w g) (nm : Value) (hn : NMap kind w nm) :
    Calls Tryz.prog 51 #[.string a, .agg #[.int .u64 (low kind), .int .u64 (high kind), nm], .pointer (some ⟨g, 0, none⟩)] w fun e w' => e = .returned (.int .u64 (fb kind (tx a))) ∧ Below w.heap.size w w' := by
  have hq := fun w => tGet kind a hs hF w nm
  obtain ⟨b, hb⟩ : ∃ b, fb kind (tx a) = b := ⟨_, rfl⟩
  rw [hb] at hq ⊢
  obtain ⟨lo, hlo⟩ : ∃ lo : Nat, low kind = lo := ⟨_, rfl⟩
  obtain ⟨hi, hhi⟩ : ∃ hi : Nat, high kind = hi := ⟨_, rfl⟩
  rw [hlo, hhi] at hq ⊢
  have hR : RS w lo hi nm kind (w.alloc (.cells #[.int .u64 lo, .int .u64 hi, nm] 117)) := ⟨heap_alloc_new _ _, hn.below (bA (Below.refl _ _) _), bA (Below.refl _ _) _⟩
  have he0 : ErrNil (w.alloc (.cells #[.int .u64 lo, .int .u64 hi, nm] 117)) g := he.keep (bA (Below.refl _ _) _)
  obtain ⟨c1, c2⟩ := he0.cells
  obtain ⟨m0, m1, m2⟩ := hR.cells
  have HR := Lib.hid hR
  have HE := Lib.hid he0
  have HQ := Lib.hid hq
  clear hq he he0 hR hn hb hlo hhi hF
  go_enter Tryz.func51, Tryz.ntmps51
  go_wp2_with (go_at_call 52; (with_reducible refine (HQ.out _ HR.out.nm).mono ?_); rintro e w1 ⟨rfl, hb1⟩; have E1 := Lib.hid (HE.out.keep hb1); obtain ⟨e1, e2⟩ := E1.out.cells; have B1 := Lib.hid (HR.out.be.trans (hb1.mono HR.out.be.size)); clear hb1)
  go_ret
  exact ⟨rfl, below_same B1.out E1.out⟩
end Go.Proofs.YtjmgebhjkbcpcaaGreatDoor.Txt
end
section
set_option linter.unusedVariables false
set_option linter.unusedSimpArgs false
namespace Go.Proofs.YtjmgebhjkbcpcaaGreatDoor.Txt
open Go.Proofs.YtjmgebhjkbcpcaaGreatDoor.NM
open Go Go.RowKit Go.Lib Go.Proofs.YtjmgebhjkbcpcaaGreatDoorW.PrintWords Go.Proofs.YtjmgebhjkbcpcaaGreatDoor.PParseCron
set_option maxRecDepth 100000
theorem prefix_f (a b : ByteArray) : strings_HasPrefix.f a b = some ((tx b).isPrefixOf (tx a)) := by
  unfold strings_HasPrefix.f stringslite_HasPrefix.f
  by_cases h : (b.size : Int) ≤ (a.size : Int)
  · rw [if_pos h, if_pos (by omega), if_pos h, Option.bind_some]
    congr 1
    rw [tx_toList, tx_toList, tx_extract, Int.toNat_natCast, List.drop_zero, Nat.sub_zero, ← tx_len b, Bool.eq_iff_iff, beq_iff_eq, List.isPrefixOf_iff_prefix, List.prefix_iff_eq_take]
    exact eq_comm
  · rw [if_neg (by omega), Option.bind_some]
    congr 1
    symm
    rw [Bool.eq_false_iff]
    intro hp
    have := (List.isPrefixOf_iff_prefix.1 hp).length_le
    rw [tx_len, tx_len] at this
    omega
theorem tPrefix (a b : ByteArray) (w : World) : Calls Tryz.prog 44 #[.string a, .string b] w fun e w' => e = .returned (.bool ((tx b).isPrefixOf (tx a))) ∧ Below w.heap.size w w' :=
  (strings_HasPrefix.calls _ _ _ w (prefix_f a b)).mono fun e w' h => ⟨h.1, drawn_below h.2⟩
theorem tIndex (a : ByteArray) (c : UInt8) (hs : a.size < 1099511627776) (w : World) : Calls Tryz.prog 45 #[.string a, .string (mk [c])] w fun e w' => e = .returned (.int .i64 (fiI c (tx a) 0)) ∧ Below w.heap.size w w' :=
  (PzzSplit.cron_zzIndex.calls (a.size + 1) _ _ _ w (index_f a c hs _ (by omega))).mono fun e w' h => ⟨h.1, drawn_below h.2⟩
theorem fi_app {c : UInt8} {A : Bs} (h : ∀ x ∈ A, x ≠ c) (r : Bs) : fi c (A ++ c :: r) = some A.length := by
  induction A with
  | nil => simp [fi]
  | cons x xs ih =>
    rw [List.cons_append]
    unfold fi
    rw [if_neg (h x (by simp)), ih (fun y hy => h y (by simp [hy]))]
    rfl
theorem zone_cut {a : ByteArray} {A b : Bs} (h : isHead (tx a) = true) (hs : toSpace (tx a) = some (A, b)) :
    ∃ i e : Nat, fiI 32 (tx a) 0 = i ∧ fiI 61 (tx a) 0 = e ∧ e + 1 ≤ i ∧ i ≤ a.size ∧ a.extract (e + 1) i = mk (zname A) ∧ a.extract i a.size = mk b := by
  obtain ⟨e1, hA, b', rfl⟩ := toSpace_some hs
  have hh : isHead A = true := by rw [isHead_toSpace hs]; exact h
  have f1 : fi 32 (tx a) = some A.length := by rw [e1]; exact fi_app hA b'
  have hl : A.length ≤ a.size := by rw [← tx_len, e1]; simp
  have key : ∀ e : Nat, fi 61 (tx a) = some e → e + 1 ≤ A.length → zname A = A.drop (e + 1) → _ := fun e f2 he hz =>
    (⟨A.length, e, by simp [fiI, f1], by simp [fiI, f2], he, hl, tx_inj (by rw [tx_mk, tx_extract, e1, hz, List.drop_append_of_le_length (by omega), List.take_append_of_le_length (by simp)]; exact List.take_of_length_le (by simp)), tx_inj (by rw [tx_mk, tx_all, e1, List.drop_left])⟩ : ∃ i e : Nat, fiI 32 (tx a) 0 = i ∧ fiI 61 (tx a) 0 = e ∧ e + 1 ≤ i ∧ i ≤ a.size ∧ a.extract (e + 1) i = mk (zname A) ∧ a.extract i a.size = mk (32 :: b'))
  unfold isHead at hh
  by_cases c : [84, 90, 61].isPrefixOf A = true
  · obtain ⟨r, hr⟩ := List.isPrefixOf_iff_prefix.1 c
    refine key 2 ?_ ?_ ?_
    · rw [e1, ← hr]
      exact fi_app (A := [84, 90]) (by decide) _
    · rw [← hr]; simp
    · unfold zname; rw [if_pos c]
  · simp only [c, Bool.false_or] at hh
    obtain ⟨r, hr⟩ := List.isPrefixOf_iff_prefix.1 hh
    refine key 7 ?_ ?_ ?_
    · rw [e1, ← hr]
      exact fi_app (A := [67, 82, 79, 78, 95, 84, 90]) (by decide) _
    · rw [← hr]; simp
    · unfold zname; rw [if_neg c]
/-- what Parse keeps: the fields' row, no error so far -/
structure PS (w : World) (x g : Nat) (xs : List ByteArray) (W : World) : Prop where
  st : Strs W x xs
  er : ErrNil W g
  be : Below w.heap.size w W
theorem PS.keep {w : World} {x g : Nat} {xs : List ByteArray} {W W' : World} (h : PS w x g xs W) (hb : Below W.heap.size W W') : PS w x g xs W' :=
  ⟨h.st.move (hb.block _ h.st.lt), h.er.keep hb, h.be.trans (hb.mono h.be.size)⟩
end Go.Proofs.YtjmgebhjkbcpcaaGreatDoor.Txt
end
section
set_option linter.unusedVariables false
set_option linter.unusedSimpArgs false
namespace Go.Proofs.YtjmgebhjkbcpcaaGreatDoor.Txt
open Go.Proofs.YtjmgebhjkbcpcaaGreatDoor.NM
open Go Go.RowKit Go.Proofs.YtjmgebhjkbcpcaaGreatDoorW.PrintWords Go.Proofs.YtjmgebhjkbcpcaaGreatDoorW.PrintLast Go.Proofs.YtjmgebhjkbcpcaaGreatDoorW.PrintMore Go.Proofs.YtjmgebhjkbcpcaaGreatDoor.PCronParse
set_option maxRecDepth 100000
/-- what stands at the head of CronField's loop -/
structure FS (w : World) (g : Nat) (lo hi : Int) (kind : Nat) (TT : List ByteArray) (wr : World) : Prop where
  b0 : wr.heap[w.heap.size]? = some (.cells #[.int .i64 lo, .int .i64 hi, .int .i64 kind] 78 (0, 0))
  b1 : ∃ z : Array Value, z.size = 64 ∧ wr.heap[w.heap.size + 1]? = some (.cells z 35 (0, 0))
  b2 : ∃ us : Array Value, Bools us ∧ wr.heap[w.heap.size + 2]? = some (.cells us 35 (0, 0))
  st : Strs wr g TT
  hg : w.heap.size + 3 ≤ g
  be : Below w.heap.size w wr
theorem FS.keep {w : World} {g : Nat} {lo hi : Int} {kind : Nat} {TT : List ByteArray} {wr w' : World} (h : FS w g lo hi kind TT wr) (hb : Below wr.heap.size wr w') : FS w g lo hi kind TT w' := by
  obtain ⟨b0, ⟨z, hz, b1⟩, ⟨us, hu, b2⟩, st, hg, be⟩ := h
  have l2 : w.heap.size + 2 < wr.heap.size := (Array.getElem?_eq_some_iff.1 b2).1
  exact ⟨by rw [hb.block _ (by omega)]; exact b0, ⟨z, hz, by rw [hb.block _ (by omega)]; exact b1⟩, ⟨us, hu, by rw [hb.block _ l2]; exact b2⟩, st.move (hb.block _ st.lt), hg, be.trans (hb.mono (by omega))⟩
theorem FS.set {w : World} {g : Nat} {lo hi : Int} {kind : Nat} {TT : List ByteArray} {wr : World} (h : FS w g lo hi kind TT wr) {cs : Array Value} (hc : Bools cs) : FS w g lo hi kind TT (wr.setRow (w.heap.size + 2) cs) := by
  obtain ⟨b0, ⟨z, hz, b1⟩, ⟨us, hu, b2⟩, st, hg, be⟩ := h
  exact ⟨by rw [setRow_other _ _ _ _ (by omega)]; exact b0, ⟨z, hz, by rw [setRow_other _ _ _ _ (by omega)]; exact b1⟩, ⟨cs, hc, setRow_heap _ _ _ _ _ _ b2⟩, st.move (setRow_other _ _ _ _ (by omega)), hg, Below.setRow' be (by omega) _⟩
theorem FS.new {w : World} {g : Nat} {lo hi : Int} {kind : Nat} {TT : List ByteArray} {wr : World} (h : FS w g lo hi kind TT wr) (o : Obj) : FS w g lo hi kind TT (wr.alloc o) := h.keep (bA (Below.refl _ _) _)
theorem FS.newRow {w : World} {g : Nat} {lo hi : Int} {kind : Nat} {TT : List ByteArray} {wr : World} (h : FS w g lo hi kind TT wr) (z cs : Array Value) : FS w g lo hi kind TT ((wr.alloc (.cells z 35)).setRow wr.heap.size cs) := by
  rw [World.setRow_alloc_new]; exact h.new _
theorem newRow_row (w2 : World) (z us : Array Value) : ((w2.alloc (.cells z 35)).setRow w2.heap.size us).heap[w2.heap.size]? = some (.cells us 35 (0, 0)) := by
  rw [World.setRow_alloc_new]; exact heap_alloc_new _ _
set_option maxHeartbeats 1000000 in
theorem tField (kind : Nat) (hk6 : kind < 6) (a : ByteArray) (hs : a.size < 1099511627776) (w : World) :
    Calls Tryz.prog 26 #[.agg #[.int .i64 (low kind), .int .i64 (high kind), .int .i64 kind], .string a] w fun e w' =>
      ∃ (us : Array Value) (v : Int), e = .returned (.tuple #[.agg us, .int .i64 v]) ∧ Bools us ∧ (v = 1 ∨ v = 0 ∨ v = 2) ∧ (v = 1 ↔ FF kind (tx a)) ∧ Below w.heap.size w w' := by
  have HI := Lib.hid (inf35)
  have hI := fun p hp w => tItem kind hk6 (mk p) (by have := pieces_len (c := 44) (l := tx a) (p := p) hp; rw [tx_len] at this; rw [mk_size]; omega) w
  obtain ⟨lo, hlo⟩ : ∃ lo : Int, (low kind : Int) = lo := ⟨_, rfl⟩
  obtain ⟨hi, hhi⟩ : ∃ hi : Int, (high kind : Int) = hi := ⟨_, rfl⟩
  rw [hlo, hhi] at hI ⊢
  have HIT := Lib.hid hI
  have HL := Lib.hid (And.intro hlo hhi)
  clear hlo hhi hI
  have hbig := pieces_many 44 (tx a)
  rw [tx_len] at hbig
  have hpn := pieces_ne 44 (tx a)
  obtain ⟨T, hT⟩ : ∃ T, pieces 44 (tx a) = T := ⟨_, rfl⟩
  rw [hT] at hbig hpn HIT
  go_enter Tryz.func26, Tryz.ntmps26
  go_upto_region 4 with (first | (go_at_call 59; refine (tPieces' a 44 hs _).mono ?_; rintro e w1 ⟨g, cp, rfl, hgb, hst, hb1⟩))
  rw [hT] at hst
  have hlen : (T.map mk).length = T.length := List.length_map ..
  have hFS : FS w g lo hi kind (T.map mk) w1 := by
    refine ⟨?_, ⟨Array.replicate 64 (.bool false), by simp, ?_⟩, ⟨Array.replicate 64 (.bool false), Bools.zero, ?_⟩, hst, ?_, (bA (bA (bA (Below.refl _ _) _) _) _).trans (hb1.mono (by simp <;> omega))⟩
    · rw [hb1.block _ (by simp <;> omega), Below.heap_alloc _ _ _ (by simp <;> omega), Below.heap_alloc _ _ _ (by simp)]
      exact heap_alloc_new _ _
    · rw [hb1.block _ (by simp <;> omega), Below.heap_alloc _ _ _ (by simp)]
      exact heap_alloc2_new _ _ _
    · rw [hb1.block _ (by simp)]
      have e : w.heap.size + 2 = ((w.alloc (Obj.cells #[.int .i64 lo, .int .i64 hi, .int .i64 kind] 78)).alloc (Obj.cells (Array.replicate 64 (.bool false)) 35)).heap.size := by simp
      rw [e]
      exact heap_alloc_new _ _
    · have := hgb
      simp at this
      omega
  have HFS := Lib.hid hFS
  have HT := Lib.hid (And.intro hT hlen)
  have HB := Lib.hid hbig
  clear hT hlen hFS hst hgb hb1 hbig hpn
  try go_wp2
  go_loopw [15, 7] (fun i v wr => ∃ (n : Nat) (c : Int), i = .int .i64 n ∧ v = .int .i64 c ∧ Aside0 (n ≤ T.length) ∧ Aside0 (c = 1 ∨ c = 0 ∨ c = 2) ∧ Aside0 (c = 1 ↔ ∀ p ∈ T.take n, (item kind p).isSome = true) ∧ Aside0 (FS w g lo hi kind (T.map mk) wr)) (fun i _ _ => 2000000000000 - (intOf i).toNat)
  case atStart => exact ⟨0, 1, rfl, rfl, ⟨Nat.zero_le _⟩, ⟨.inl rfl⟩, ⟨by simp⟩, ⟨HFS.out⟩⟩
  case round =>
    obtain ⟨n, c, rfl, rfl, HN, HC, HP, HF⟩ := hrel
    by_cases cn : n < T.length
    · have hqt : decide ((n : Int) < (T.length : Int)) = true := by simpa using cn
      have c1 := HF.out.st.cell n (by rw [HT.out.2]; exact cn)
      rw [List.getElem_map] at c1
      have hb : (n : Int) < (T.length : Int) := by omega
      obtain ⟨p, hp⟩ : ∃ p, T[n] = p := ⟨_, rfl⟩
      rw [hp] at c1
      have hmem : p ∈ T := by rw [← hp]; exact List.getElem_mem cn
      have htake : (∀ q ∈ T.take (n + 1), (item kind q).isSome = true) ↔ ((∀ q ∈ T.take n, (item kind q).isSome = true) ∧ (item kind p).isSome = true) := by
        rw [List.take_add_one, List.getElem?_eq_getElem cn, hp]
        constructor
        · intro h
          exact ⟨fun q hq => h q (List.mem_append_left _ hq), h p (by simp)⟩
        · rintro ⟨h1, h2⟩ q hq
          rcases List.mem_append.1 hq with hq | hq
          · exact h1 q hq
          · have : q = p := by simpa using hq
            rw [this]; exact h2
      have HTK := Lib.hid htake
      have HME := Lib.hid hmem
      have hcn : (n : Int) < 1099511627776 := by have := HB.out; omega
      clear hp htake hmem
      by_cases hp0 : p = []
      · have hem : (mk p).toList.isEmpty = true := by rw [hp0, tx_toList, tx_mk]; rfl
        have hno : ¬ (item kind p).isSome = true := by rw [hp0, item_nil]; simp
        have HNO := Lib.hid hno
        clear hno hp0
        go_wp2_with (go_at_call 22; refine (tWorse c 2 HC.out (.inr (.inr rfl)) _).mono ?_; rintro e w2 ⟨c2, rfl, hc2, hc3, hb2⟩)
        go_roundw
        case measure => simp [intOf]; omega
        case rel =>
          exact ⟨n + 1, c2, by go_num, rfl, ⟨by omega⟩, ⟨hc3⟩, ⟨by rw [HTK.out, hc2]; have := HNO.out; simp [this]⟩, ⟨HF.out.keep hb2⟩⟩
      · have hem : (mk p).toList.isEmpty = false := by
          rw [tx_toList, tx_mk]
          cases p with
          | nil => exact absurd rfl hp0
          | cons x xs => rfl
        clear hp0
        go_wp2_with (first
          | ((with_reducible refine wpList_load_row (o := ⟨some 24, _, _, _, _, _⟩) ?a1 78 (.tmp 2) ?a2 w.heap.size ?a3 78 #[.int .i64 lo, .int .i64 hi, .int .i64 kind] (0, 0) _ ?a4 und78 ?a5 ?a6 ?_); (case a1 => rfl); (case a2 => rfl); (case a3 => rfl); (case a5 => rfl); (case a6 => exact inf78); (case a4 => exact HF.out.b0))
          | (go_at_call 60; refine (HIT.out p HME.out _).mono ?_; rintro e w2 ⟨us1, v1, rfl, hu1, hv1, hv2, hb2⟩; have F2 := Lib.hid (HF.out.keep hb2); have U1 := Lib.hid hu1; have V1 := Lib.hid (And.intro hv1 hv2); clear hu1 hv1 hv2 hb2)
          | ((with_reducible refine wpList_store_row (o := ⟨none, .store 35 (.tmp 10) (.tmp 27), _, _, _, _⟩) ?b1 35 (.tmp 10) (.tmp 27) ?b2 w2.heap.size us1 ?b3 ?b4 35 (Array.replicate 64 (.bool false)) ?b5 ?b6 ?b7 ?b8 ?_); (case b1 => rfl); (case b2 => rfl); (case b3 => rfl); (case b4 => rfl); (case b5 => exact heap_alloc_new _ _); (case b6 => rw [U1.out.sz]; exact HI.out); (case b7 => rw [U1.out.sz]; exact Bools.zero.sz); (case b8 => exact U1.out.all); generalize hW3 : World.setRow _ _ _ = W3; have F3 : FS w g lo hi kind (T.map mk) W3 := (by rw [← hW3]; exact F2.out.newRow _ us1); have R3 : W3.heap[w2.heap.size]? = some (.cells us1 35 (0, 0)) := (by rw [← hW3]; exact newRow_row w2 _ us1); replace F3 := Lib.hid F3; replace R3 := Lib.hid R3; clear hW3)
          | ((with_reducible refine wpList_load_row (o := ⟨some 29, _, _, _, _, _⟩) ?a1 35 (.tmp 6) ?a2 (w.heap.size + 2) ?a3 35 F3.out.b2.choose (0, 0) _ ?a4 und35 ?a5 ?a6 ?_); (case a1 => rfl); (case a2 => rfl); (case a3 => rfl); (case a5 => rfl); (case a6 => rw [F3.out.b2.choose_spec.1.sz]; exact HI.out); (case a4 => exact F3.out.b2.choose_spec.2))
          | ((with_reducible refine wpList_load_row (o := ⟨some 30, _, _, _, _, _⟩) ?a1 35 (.tmp 10) ?a2 w2.heap.size ?a3 35 us1 (0, 0) _ ?a4 und35 ?a5 ?a6 ?_); (case a1 => rfl); (case a2 => rfl); (case a3 => rfl); (case a5 => rfl); (case a6 => rw [U1.out.sz]; exact HI.out); (case a4 => exact R3.out))
          | (go_at_call 61; refine (tUnion _ us1 F3.out.b2.choose_spec.1 U1.out _).mono ?_; rintro e w4 ⟨us4, rfl, hu4, hb4⟩; have F4 := Lib.hid (F3.out.keep hb4); have U4 := Lib.hid hu4; clear hu4 hb4)
          | (go_at_call 22; refine (tWorse c v1 HC.out V1.out.1 _).mono ?_; rintro e w5 ⟨c2, rfl, hc2, hc3, hb5⟩; have F5 := Lib.hid (F4.out.keep hb5); have C2 := Lib.hid (And.intro hc2 hc3); clear hc2 hc3 hb5)
          | ((with_reducible refine wpList_store_row (o := ⟨none, .store 35 (.tmp 6) (.tmp 31), _, _, _, _⟩) ?b1 35 (.tmp 6) (.tmp 31) ?b2 (w.heap.size + 2) us4 ?b3 ?b4 35 F5.out.b2.choose ?b5 ?b6 ?b7 ?b8 ?_); (case b1 => rfl); (case b2 => rfl); (case b3 => rfl); (case b4 => rfl); (case b5 => exact F5.out.b2.choose_spec.2); (case b6 => rw [U4.out.sz]; exact HI.out); (case b7 => rw [U4.out.sz]; exact F5.out.b2.choose_spec.1.sz); (case b8 => exact U4.out.all)))
        go_roundw
        case measure => simp [intOf]; omega
        case rel =>
          refine ⟨n + 1, c2, by go_num, rfl, ⟨by omega⟩, ⟨C2.out.2⟩, ⟨?_⟩, ⟨F5.out.set U4.out⟩⟩
          have h1 := HTK.out
          have h2 := C2.out.1
          have h3 := V1.out.2
          rw [tx_mk] at h3
          rw [h1, h2, h3, HP.out]
    · have hqt : decide ((n : Int) < (T.length : Int)) = false := by simpa using cn
      have hn : n = T.length := by have := HN.out; omega
      have hall : c = 1 ↔ FF kind (tx a) := by
        rw [HP.out, hn, List.take_length]
        unfold FF
        rw [HT.out.1]
      have HA := Lib.hid hall
      clear hall hn
      by_cases c1 : c = 1
      · subst c1
        go_wp2_with (first
          | ((with_reducible refine wpList_load_row (o := ⟨some 40, _, _, _, _, _⟩) ?a1 35 (.tmp 6) ?a2 (w.heap.size + 2) ?a3 35 HF.out.b2.choose (0, 0) _ ?a4 und35 ?a5 ?a6 ?_); (case a1 => rfl); (case a2 => rfl); (case a3 => rfl); (case a5 => rfl); (case a6 => rw [HF.out.b2.choose_spec.1.sz]; exact HI.out); (case a4 => exact HF.out.b2.choose_spec.2))
          | ((with_reducible refine wpList_store_row (o := ⟨none, .store 35 (.tmp 4) (.tmp 40), _, _, _, _⟩) ?b1 35 (.tmp 4) (.tmp 40) ?b2 (w.heap.size + 1) HF.out.b2.choose ?b3 ?b4 35 HF.out.b1.choose ?b5 ?b6 ?b7 ?b8 ?_); (case b1 => rfl); (case b2 => rfl); (case b3 => rfl); (case b4 => rfl); (case b5 => exact HF.out.b1.choose_spec.2); (case b6 => rw [HF.out.b2.choose_spec.1.sz]; exact HI.out); (case b7 => rw [HF.out.b2.choose_spec.1.sz]; exact HF.out.b1.choose_spec.1); (case b8 => exact HF.out.b2.choose_spec.1.all)))
        refine bodyPost_ret (v := .tuple #[.agg HF.out.b2.choose, .int .i64 1]) (results_row_tmp (p := 4) (q := 5) rfl _ _ (w.heap.size + 1) 35 _ (0, 0) _ rfl rfl (setRow_heap _ _ HF.out.b1.choose _ 35 (0, 0) HF.out.b1.choose_spec.2) und35 rfl (by rw [HF.out.b2.choose_spec.1.sz]; exact HI.out)) rfl ⟨_, _, rfl, HF.out.b2.choose_spec.1, .inl rfl, ⟨fun _ => by have := HA.out; simpa using this, fun _ => rfl⟩, Below.setRow' HF.out.be (by omega) _⟩
      · have c1t : (c != 1) = true := bne_iff_ne.mpr c1
        have HC1 := Lib.hid c1
        clear c1
        go_wp2_with ((with_reducible refine wpList_store_row (o := ⟨none, .store 35 (.tmp 4) (.tmp 38), _, _, _, _⟩) ?b1 35 (.tmp 4) (.tmp 38) ?b2 (w.heap.size + 1) (Array.replicate 64 (.bool false)) ?b3 ?b4 35 HF.out.b1.choose ?b5 ?b6 ?b7 ?b8 ?_); (case b1 => rfl); (case b2 => rfl); (case b3 => rfl); (case b4 => rfl); (case b5 => exact HF.out.b1.choose_spec.2); (case b6 => rw [Bools.zero.sz]; exact HI.out); (case b7 => rw [Bools.zero.sz]; exact HF.out.b1.choose_spec.1); (case b8 => exact Bools.zero.all))
        refine bodyPost_ret (v := .tuple #[.agg (Array.replicate 64 (.bool false)), .int .i64 c]) (results_row_tmp (p := 4) (q := 5) rfl _ _ (w.heap.size + 1) 35 _ (0, 0) _ rfl rfl (setRow_heap _ _ HF.out.b1.choose _ 35 (0, 0) HF.out.b1.choose_spec.2) und35 rfl (by rw [Bools.zero.sz]; exact HI.out)) rfl ⟨_, _, rfl, Bools.zero, HC.out, HA.out, Below.setRow' HF.out.be (by omega) _⟩
end Go.Proofs.YtjmgebhjkbcpcaaGreatDoor.Txt
end
section
set_option linter.unusedVariables false
set_option linter.unusedSimpArgs false
namespace Go.Proofs.YtjmgebhjkbcpcaaGreatDoor.NM
open Go Go.RowKit Cal Go.Proofs.YtjmgebhjkbcpcaaGreatDoor.PcronNone Go.Proofs.YtjmgebhjkbcpcaaGreatDoor.PCronParse Go.Proofs.YtjmgebhjkbcpcaaGreatDoorW.PrintWords
set_option maxRecDepth 100000
theorem wpList_store_row {P : Program} {ops : Array Oper} {rest : List Oper} {o : Oper} {a : Act} {w : World} {Q : Exit → Act → World → Prop} (hgd : o.guard = none) (ty : TypeId) (x y : Operand) (ho : o.op = .store ty x y)
    (g : Nat) (cells : Array Value) (hx : a.eval x = .pointer (some ⟨g, 0, none⟩)) (hy : a.eval y = .agg cells)
    (t : TypeId) (old : Array Value) (hg : w.heap[g]? = some (.cells old t (0, 0))) (hi : (P.info? ty).map (·.size) = some cells.size)
    (hold : old.size = cells.size) (h1 : cells.all (·.oneCell') = true)
    (h : wpList P ops Q rest (a.put o.dst undef) (w.setRow g cells)) : wpList P ops Q (o :: rest) a w :=
  wpList_plain hgd fun _ hK => wp_store_row ty x y ho g cells hx hy t old hg hi hold h1 (hK _ _ h)
theorem Below.setRow' {B : Nat} {a w : World} (h : Below B a w) {g : Nat} (hg : B ≤ g) (cs : Array Value) : Below B a (w.setRow g cs) :=
  ⟨h.os, h.tape, h.output, by simp; exact h.size, fun k hk => by rw [setRow_other w g k cs (by omega)]; exact h.block k hk⟩
def lowI (k : Int) : Int := if k = 3 then 1 else if k = 4 then 1 else 0
def highI (k : Int) : Int := if k = 2 then 23 else if k = 3 then 31 else if k = 4 then 12 else if k = 5 then 6 else 59
theorem low_f (k : Int) : spec_CronLow.f k = some (lowI k) := by unfold spec_CronLow.f lowI; split <;> (try split) <;> rfl
theorem high_f (k : Int) : spec_CronHigh.f k = some (highI k) := by unfold spec_CronHigh.f highI; (repeat' split) <;> rfl
theorem und35 : Tryz.prog.underlying 35 = some (.struct (Tryz.prog.fieldsOf 35)) := by kernel_rfl
theorem inf35 : (Tryz.prog.info? 35).map (·.size) = some 64 := by kernel_rfl
def hitS (b : Int) (n : Nat) : Bool := bits BinOp.and IntKind.u64 (b / 2 ^ n) 1 == 1
def starS (b : Int) : Bool := bits BinOp.and IntKind.u64 b 9223372036854775808 != 0
structure InvS (k b : Int) (n : Int) (cs : Array Value) : Prop where
  sz : cs.size = 64
  bl : ∀ j, j < 64 → ∃ bb, cs[j]? = some (.bool bb)
  inv : ∀ v : Nat, cs[1 + v]? = some (.bool true) → lowI k ≤ v ∧ (v : Int) < n ∧ hitS b v = true
theorem InvS.step {k b : Int} {n : Nat} {cs : Array Value} (h : InvS k b n cs) (hl : lowI k ≤ n) (hn : n < 63) : InvS k b (n + 1) (cs.setIfInBounds (1 + n) (.bool (hitS b n))) where
  sz := by simp [h.sz]
  bl := fun j hj => by
    rw [Array.getElem?_setIfInBounds]
    split
    · exact ⟨hitS b n, by rw [if_pos (by rw [h.sz]; omega)]⟩
    · exact h.bl j hj
  inv := fun v hv => by
    rw [Array.getElem?_setIfInBounds] at hv
    split at hv
    · rename_i e
      obtain rfl : v = n := by omega
      split at hv
      · simp at hv
        exact ⟨hl, by omega, hv⟩
      · simp at hv
    · have := h.inv v hv
      exact ⟨this.1, by omega, this.2.2⟩
theorem InvS.all {k b : Int} {n : Int} {cs : Array Value} (h : InvS k b n cs) : cs.all (·.oneCell') = true := by
  refine Array.all_eq_true_iff_forall_mem.2 fun v hv => ?_
  obtain ⟨i, hi, rfl⟩ := Array.mem_iff_getElem.1 hv
  obtain ⟨bb, hb⟩ := h.bl i (by have := h.sz; omega)
  rw [Array.getElem?_eq_getElem hi] at hb
  injection hb with hb
  rw [hb]; rfl
/-- a field's set, as cells -/
structure SetV (k b : Int) (cs : Array Value) : Prop where
  sz : cs.size = 64
  bl : ∀ j, j < 64 → ∃ bb, cs[j]? = some (.bool bb)
  inv : ∀ v : Nat, cs[1 + v]? = some (.bool true) → lowI k ≤ v ∧ (v : Int) ≤ highI k ∧ hitS b v = true
  st : cs[0]? = some (.bool (starS b))
theorem InvS.fin {k b : Int} {n : Int} {cs : Array Value} (h : InvS k b n cs) (hn : n ≤ highI k + 1) : SetV k b (cs.setIfInBounds 0 (.bool (starS b))) where
  sz := by simp [h.sz]
  bl := fun j hj => by
    rw [Array.getElem?_setIfInBounds]
    split
    · simp [h.sz]
    · exact h.bl j hj
  inv := fun v hv => by
    rw [Array.getElem?_setIfInBounds, if_neg (by omega)] at hv
    have := h.inv v hv
    exact ⟨this.1, by omega, this.2.2⟩
  st := by rw [Array.getElem?_setIfInBounds]; simp [h.sz]
theorem SetV.all {k b : Int} {cs : Array Value} (h : SetV k b cs) : cs.all (·.oneCell') = true := by
  refine Array.all_eq_true_iff_forall_mem.2 fun v hv => ?_
  obtain ⟨i, hi, rfl⟩ := Array.mem_iff_getElem.1 hv
  obtain ⟨bb, hb⟩ := h.bl i (by have := h.sz; omega)
  rw [Array.getElem?_eq_getElem hi] at hb
  injection hb with hb
  rw [hb]; rfl
set_option maxHeartbeats 1000000 in
theorem tSetOf (k b : Int) (w : World) (h0 : 0 ≤ k) (h1 : k ≤ 5) (hb0 : 0 ≤ b) (hb1 : b < 18446744073709551616) :
    Calls Tryz.prog 75 #[.int .i64 k, .int .u64 b] w fun e w' => ∃ cs : Array Value, e = .returned (.agg cs) ∧ SetV k b cs ∧ Below w.heap.size w w' := by
  have hl : 0 ≤ lowI k ∧ lowI k ≤ 1 := by unfold lowI; split <;> (try split) <;> omega
  have hh : 6 ≤ highI k ∧ highI k ≤ 59 := by unfold highI; (repeat' split) <;> omega
  have HI := Lib.hid (inf35)
  obtain ⟨l, hl'⟩ : ∃ l : Nat, lowI k = l := ⟨(lowI k).toNat, by omega⟩
  have HL := Lib.hid hl'
  go_enter Tryz.func75, Tryz.ntmps75
  go_wp2_with (first | (go_at_call 62; refine (spec_CronLow.calls k _ _ (low_f k)).mono ?_; rintro e w1 ⟨rfl, hb1⟩))
  have HB := Lib.hid hb1.below
  clear hb1 hl'
  go_loopw [6] (fun v wr => ∃ (n : Nat) (cs : Array Value), v = .int .i64 n ∧ Aside0 ((l : Int) ≤ n ∧ (n : Int) ≤ highI k + 1) ∧ Aside0 (InvS k b n cs) ∧ Aside0 (wr.heap[w.heap.size + 1]? = some (.cells cs 35 (0, 0))) ∧ Aside0 (∃ z : Array Value, z.size = 64 ∧ wr.heap[w.heap.size]? = some (.cells z 35 (0, 0))) ∧ Aside0 (Below w.heap.size w wr)) (fun v _ => 100 - (intOf v).toNat)
  case atStart =>
    have hbl := HB.out.block
    refine ⟨l, Array.replicate 64 (Value.bool false), rfl, ⟨⟨Int.le_refl _, by have := HL.out; omega⟩⟩, ⟨⟨by simp, fun j hj => ⟨false, by simp [hj]⟩, fun v hv => by
      rw [Array.getElem?_replicate] at hv; split at hv <;> simp at hv⟩⟩, ⟨?_⟩, ⟨Array.replicate 64 (Value.bool false), by simp, ?_⟩, ⟨(bA (bA (Below.refl _ _) _) _).trans (HB.out.mono (by simp; omega))⟩⟩
    · rw [hbl _ (by simp), heap_alloc2_new]; rfl
    · rw [hbl _ (by simp; omega), heap_alloc2_old]; rfl
  case round =>
    obtain ⟨n, cs, rfl, HN, HV, HC, HZ, HW⟩ := hrel
    by_cases c : (n : Int) ≤ highI k
    · have hn : n < 63 := by omega
      obtain ⟨bb, hbb⟩ := HV.out.bl (1 + n) (by omega)
      have HBB := Lib.hid hbb
      clear hbb
      have hlt : w.heap.size + 1 < wr.heap.size := by
        have := HC.out
        exact (Array.getElem?_eq_some_iff.1 this).1
      go_wp2_with (first | (go_at_call 63; refine (spec_CronHigh.calls k _ _ (high_f k)).mono ?_; rintro e w2 ⟨rfl, hb2⟩; have HC2 : Hid (w2.heap[w.heap.size + 1]? = some (.cells cs 35 (0, 0))) := Lib.hid (by rw [hb2.below.block _ hlt]; exact HC.out); have c1 : w2.cell? ⟨w.heap.size + 1, 1 + n, none⟩ = some (.bool bb) := (by rw [cell_of_row _ _ _ _ _ _ HC2.out]; exact HBB.out); have f1 : w2.frozen? ⟨w.heap.size + 1, 1 + n, none⟩ = false := frozen_of_row _ _ _ _ _ HC2.out))
      have HB2 := Lib.hid hb2.below
      clear hb2 c1 f1
      go_roundw
      case measure => simp [intOf]; omega
      case rel =>
        refine ⟨n + 1, cs.setIfInBounds (1 + n) (.bool (hitS b n)), by go_num, ⟨⟨by have := HN.out; omega, by have := HN.out; omega⟩⟩, ⟨?_⟩, ⟨?_⟩, ⟨?_⟩, ⟨(HW.out.trans (HB2.out.mono HW.out.size)).setCell (by simp) _⟩⟩
        · have := HV.out.step (by have := HN.out; have := HL.out; omega) hn
          simpa using this
        · rw [heap_setCell_same _ _ _ _ _ _ HC2.out]; rfl
        · obtain ⟨z, hz, hz'⟩ := HZ.out
          exact ⟨z, hz, by rw [heap_setCell_other _ _ _ _ (by simp), HB2.out.block _ (by omega)]; exact hz'⟩
    · obtain ⟨bb, hbb⟩ := HV.out.bl 0 (by omega)
      have HBB := Lib.hid hbb
      clear hbb
      have hlt : w.heap.size + 1 < wr.heap.size := by
        have := HC.out
        exact (Array.getElem?_eq_some_iff.1 this).1
      go_wp2_with (first
        | (go_at_call 63; refine (spec_CronHigh.calls k _ _ (high_f k)).mono ?_; rintro e w2 ⟨rfl, hb2⟩; have HC2 : Hid (w2.heap[w.heap.size + 1]? = some (.cells cs 35 (0, 0))) := Lib.hid (by rw [hb2.below.block _ hlt]; exact HC.out); have c1 : w2.cell? ⟨w.heap.size + 1, 0, none⟩ = some (.bool bb) := (by rw [cell_of_row _ _ _ _ _ _ HC2.out]; exact HBB.out); have f1 : w2.frozen? ⟨w.heap.size + 1, 0, none⟩ = false := frozen_of_row _ _ _ _ _ HC2.out)
        | ((with_reducible refine wpList_load_row (o := ⟨some 27, _, _, _, _, _⟩) ?a1 35 (.tmp 5) ?a2 (w.heap.size + 1) ?a3 35 (cs.setIfInBounds 0 (.bool (starS b))) (0, 0) _ ?a4 und35 ?a5 ?a6 ?_); (case a1 => rfl); (case a2 => rfl); (case a3 => rfl); (case a5 => rfl); (case a6 => rw [(HV.out.fin HN.out.2).sz]; exact HI.out); (case a4 => exact heap_setCell_same _ _ _ _ _ _ HC2.out))
        | ((with_reducible refine wpList_store_row (o := ⟨none, .store 35 (.tmp 4) (.tmp 27), _, _, _, _⟩) ?b1 35 (.tmp 4) (.tmp 27) ?b2 w.heap.size (cs.setIfInBounds 0 (.bool (starS b))) ?b3 ?b4 35 HZ.out.choose ?b5 ?b6 ?b7 ?b8 ?_); (case b1 => rfl); (case b2 => rfl); (case b3 => rfl); (case b4 => rfl); (case b5 => rw [heap_setCell_other _ _ _ _ (by simp), hb2.below.block _ (by omega)]; exact HZ.out.choose_spec.2); (case b6 => rw [(HV.out.fin HN.out.2).sz]; exact HI.out); (case b7 => rw [(HV.out.fin HN.out.2).sz]; exact HZ.out.choose_spec.1); (case b8 => exact (HV.out.fin HN.out.2).all)))
      refine bodyPost_ret (v := .agg (cs.setIfInBounds 0 (.bool (starS b)))) (results_cell_row rfl _ _ w.heap.size 35 _ (0, 0) _ rfl (setRow_heap _ _ HZ.out.choose _ 35 (0, 0) ?_) und35 rfl ?_) rfl ⟨_, rfl, HV.out.fin HN.out.2, ?_⟩
      · rw [heap_setCell_other _ _ _ _ (by simp), hb2.below.block _ (by omega)]; exact HZ.out.choose_spec.2
      · rw [(HV.out.fin HN.out.2).sz]; exact HI.out
      · exact Below.setRow' ((HW.out.trans (hb2.below.mono HW.out.size)).setCell (by simp) _) (Nat.le_refl _) _
end Go.Proofs.YtjmgebhjkbcpcaaGreatDoor.NM
end
section
set_option linter.unusedVariables false
set_option linter.unusedSimpArgs false
namespace Go.Proofs.YtjmgebhjkbcpcaaGreatDoor.NM
open Go.RowKit Cal Go.Proofs.YtjmgebhjkbcpcaaGreatDoor.PcronNone Go.Proofs.YtjmgebhjkbcpcaaGreatDoor.PCronParse Go.Proofs.YtjmgebhjkbcpcaaGreatDoorW.PrintWords
set_option maxRecDepth 100000
theorem und37 : Tryz.prog.underlying 37 = some (.array 6 35) := by kernel_rfl
theorem inf37 : (Tryz.prog.info? 37).map (·.size) = some 384 := by kernel_rfl
theorem info37 : (Tryz.prog.info? 37).map (fun i => (i.zero, i.size)) = some (some (.agg (Array.replicate 384 (.bool false))), 384) := by kernel_rfl
def bitsOf (S : Sets) (k : Nat) : Int := [S.se, S.mi, S.ho, S.dom, S.mon, S.dow].getD k 0
def SetsOk (S : Sets) : Prop := ∀ k, k < 6 → 0 ≤ bitsOf S k ∧ bitsOf S k < 18446744073709551616
theorem idx139 (S : Sets) (n : Nat) (h : n < 6) (w : World) : (Instr.index 139 (.agg #[.int .u64 S.se, .int .u64 S.mi, .int .u64 S.ho, .int .u64 S.dom, .int .u64 S.mon, .int .u64 S.dow]) (.int .i64 (n : Int))).run Tryz.prog w = .ok (.int .u64 (bitsOf S n)) w := by
  rcases n with _ | _ | _ | _ | _ | _ | n
  · kernel_rfl
  · kernel_rfl
  · kernel_rfl
  · kernel_rfl
  · kernel_rfl
  · kernel_rfl
  · omega
theorem SetV.allL {k b : Int} {cs : Array Value} (h : SetV k b cs) : ∀ v ∈ cs.toList, v.oneCell' = true := fun v hv => Array.all_eq_true_iff_forall_mem.1 h.all v (by simpa using hv)
theorem rangeAt_append {w : World} {b o : Nat} {l1 l2 : List Value} (h1 : w.rangeAt b o l1) (h2 : w.rangeAt b (o + l1.length) l2) : w.rangeAt b o (l1 ++ l2) := fun j v hv => by
  rcases Nat.lt_or_ge j l1.length with q | q
  · rw [List.getElem?_append_left q] at hv; exact h1 j v hv
  · rw [List.getElem?_append_right q] at hv
    have := h2 _ _ hv
    rwa [show o + l1.length + (j - l1.length) = o + j by omega] at this
theorem rangeAt_below {w w' : World} {b o : Nat} {l : List Value} (h : w.rangeAt b o l) (hb : Below w.heap.size w w') (hlt : b < w.heap.size) : w'.rangeAt b o l := fun j v hv => by
  rw [hb.cell (p := ⟨b, o + j, none⟩) hlt]; exact h j v hv
theorem there_below {w w' : World} {b o n : Nat} (h : w.there b o n) (hb : Below w.heap.size w w') (hlt : b < w.heap.size) : w'.there b o n := fun j hj => by
  rw [hb.cell (p := ⟨b, o + j, none⟩) hlt, hb.frozen (p := ⟨b, o + j, none⟩) hlt]; exact h j hj
theorem there_sub {w : World} {b n : Nat} (h : w.there b 0 n) (o m : Nat) (hm : o + m ≤ n) : w.there b o m := fun j hj => by
  have := h (o + j) (by omega)
  rwa [Nat.zero_add] at this
theorem there_block {w : World} {b : Nat} {C : Array Value} {t : TypeId} (hb : w.heap[b]? = some (.cells C t (0, 0))) : w.there b 0 C.size := fun j hj => by
  rw [Nat.zero_add, cell_of_row _ _ _ _ _ _ hb]
  exact ⟨by simp [hj], frozen_of_row _ _ _ _ _ hb⟩
theorem Below.setCells {B : Nat} {a : World} {g : Nat} (hg : B ≤ g) : ∀ (vs : List Value) (o : Nat) (w : World), Below B a w → Below B a (w.setCells g o vs)
  | [], _, _, h => h
  | v :: r, o, w, h => by
    rw [World.setCells]
    exact Below.setCells hg r (o + 1) _ (h.setCell hg v)
theorem setCells_size (g : Nat) : ∀ (vs : List Value) (o : Nat) (w : World), (w.setCells g o vs).heap.size = w.heap.size
  | [], _, _ => rfl
  | v :: r, o, w => by
    rw [World.setCells, setCells_size g r (o + 1) _]; simp
/-- what the block of the fields holds behind i rounds -/
def FI (S : Sets) (w : World) (g i : Nat) (f : Nat → Array Value) : Prop :=
  w.there g 0 384 ∧ g < w.heap.size ∧ ∀ k, k < i → SetV k (bitsOf S k) (f k) ∧ w.rangeAt g (64 * k) (f k).toList
theorem FI.below {S : Sets} {w w' : World} {g i : Nat} {f : Nat → Array Value} (h : FI S w g i f) (hb : Below w.heap.size w w') : FI S w' g i f :=
  ⟨there_below h.1 hb h.2.1, Nat.lt_of_lt_of_le h.2.1 hb.size, fun k hk => ⟨(h.2.2 k hk).1, rangeAt_below (h.2.2 k hk).2 hb h.2.1⟩⟩
theorem FI.step {S : Sets} {w : World} {g i : Nat} {f : Nat → Array Value} (h : FI S w g i f) (cs : Array Value) (hc : SetV i (bitsOf S i) cs) (hi : i < 6) :
    FI S (w.setCells g (64 * i) cs.toList) g (i + 1) (fun k => if k = i then cs else f k) := by
  have hl : cs.toList.length = 64 := by simpa using hc.sz
  refine ⟨World.there_setCells h.1 _ _ _, by rw [setCells_size]; exact h.2.1, fun k hk => ?_⟩
  by_cases e : k = i
  · subst e
    simp only [if_true]
    exact ⟨hc, World.rangeAt_setCells_same _ _ _ _ (there_sub h.1 _ _ (by omega))⟩
  · simp only [if_neg e]
    obtain ⟨a, b⟩ := h.2.2 k (by omega)
    refine ⟨a, World.rangeAt_setCells_apart b _ _ _ ?_⟩
    have : (f k).toList.length = 64 := by simpa using a.sz
    omega
def flatF (f : Nat → Array Value) : Nat → Nat → List Value
  | _, 0 => []
  | k, n + 1 => (f k).toList ++ flatF f (k + 1) n
theorem flatF_len {f : Nat → Array Value} : ∀ (n k : Nat), (∀ i, k ≤ i → i < k + n → (f i).size = 64) → (flatF f k n).length = 64 * n
  | 0, _, _ => rfl
  | n + 1, k, h => by
    rw [flatF, List.length_append, flatF_len n (k + 1) (fun i h0 h1 => h i (by omega) (by omega))]
    have := h k (by omega) (by omega)
    simp only [Array.length_toList]; omega
theorem flatF_get {f : Nat → Array Value} : ∀ (n k : Nat), (∀ i, k ≤ i → i < k + n → (f i).size = 64) → ∀ (i j : Nat), i < n → j < 64 → (flatF f k n)[64 * i + j]? = (f (k + i))[j]?
  | 0, _, _, _, _, hi, _ => by omega
  | n + 1, k, h, i, j, hi, hj => by
    have hk := h k (by omega) (by omega)
    rw [flatF]
    rcases i with _ | i
    · rw [List.getElem?_append_left (by simp only [Array.length_toList]; omega)]
      simp
    · rw [List.getElem?_append_right (by simp only [Array.length_toList]; omega)]
      simp only [Array.length_toList, hk]
      rw [show 64 * (i + 1) + j - 64 = 64 * i + j by omega, flatF_get n (k + 1) (fun i h0 h1 => h i (by omega) (by omega)) i j (by omega) hj]
      rw [show k + 1 + i = k + (i + 1) by omega]
theorem flatF_mem {f : Nat → Array Value} : ∀ (n k : Nat), (∀ i, k ≤ i → i < k + n → ∀ v ∈ (f i).toList, v.oneCell' = true) → ∀ v ∈ flatF f k n, v.oneCell' = true
  | 0, _, _, v, hv => by simp [flatF] at hv
  | n + 1, k, h, v, hv => by
    rw [flatF, List.mem_append] at hv
    rcases hv with hv | hv
    · exact h k (by omega) (by omega) v hv
    · exact flatF_mem n (k + 1) (fun i h0 h1 => h i (by omega) (by omega)) v hv
theorem flatF_range {f : Nat → Array Value} {w : World} {g : Nat} : ∀ (n k : Nat), (∀ i, k ≤ i → i < k + n → (f i).size = 64 ∧ w.rangeAt g (64 * i) (f i).toList) → w.rangeAt g (64 * k) (flatF f k n)
  | 0, _, _ => fun j v hv => by simp [flatF] at hv
  | n + 1, k, h => by
    rw [flatF]
    obtain ⟨a, b⟩ := h k (by omega) (by omega)
    refine rangeAt_append b ?_
    have := flatF_range n (k + 1) (fun i h0 h1 => h i (by omega) (by omega))
    rwa [show 64 * k + (f k).toList.length = 64 * (k + 1) by simp only [Array.length_toList, a]; omega]
/-- the fields of a schedule, as cells -/
def FieldsV (S : Sets) (cs : Array Value) : Prop := ∃ f : Nat → Array Value, (∀ k : Nat, k < 6 → SetV k (bitsOf S k) (f k)) ∧ cs = (flatF f 0 6).toArray
theorem FI.fin {S : Sets} {w : World} {g : Nat} {f : Nat → Array Value} (h : FI S w g 6 f) : w.rangeAt g 0 (flatF f 0 6) ∧ (flatF f 0 6).length = 384 ∧ (flatF f 0 6).toArray.all (·.oneCell') = true ∧ FieldsV S (flatF f 0 6).toArray := by
  refine ⟨?_, ?_, ?_, f, fun k hk => (h.2.2 k hk).1, rfl⟩
  · have := flatF_range (w := w) (g := g) 6 0 (fun i h0 h1 => ⟨(h.2.2 i (by omega)).1.sz, (h.2.2 i (by omega)).2⟩)
    simpa using this
  · exact flatF_len 6 0 (fun i h0 h1 => (h.2.2 i (by omega)).1.sz)
  · exact all_oneCell_toArray (flatF_mem 6 0 (fun i h0 h1 => (h.2.2 i (by omega)).1.allL))
theorem results_cell_mid {P : Program} {fn : Func} {p : Tmp} {ty : TypeId} (h : fn.results = #[.cell p ty]) (tmps : Array Value) (w : World) (b : Nat) (cs : List Value) (d : TypeDesc)
    (hp : tmps.getD p undef = .pointer (some ⟨b, 0, none⟩)) (hc : w.rangeAt b 0 cs) (hu : P.underlying ty = some d) (hd : d.isRow = true) (hi : (P.info? ty).map (·.size) = some cs.length) :
    (results fn tmps).run P w = .ok (.agg cs.toArray) w := by
  have hp' : tmps[p]?.getD undef = .pointer (some ⟨b, 0, none⟩) := by simpa using hp
  simp [results, h, hp', asAddr, run_loadVar_mid w b 0 ty cs d hc hu hd hi]
theorem tFieldsOf (ev : Bool) (d : Int) (S : Sets) (hS : SetsOk S) (w : World) :
    Calls Tryz.prog 35 #[.agg #[.bool ev, .int .i64 d, .int .u64 S.se, .int .u64 S.mi, .int .u64 S.ho, .int .u64 S.dom, .int .u64 S.mon, .int .u64 S.dow]] w fun e w' => ∃ cs : Array Value, e = .returned (.agg cs) ∧ FieldsV S cs ∧ Below w.heap.size w w' := by
  have HZ := (zero_of_info info37).1
  have HS := Lib.hid hS
  clear hS
  go_enter Tryz.func35, Tryz.ntmps35
  go_upto_region 3 with fail
  clear HZ
  generalize hW : World.alloc _ _ = W
  have hbW : Below w.heap.size w W := by rw [← hW]; exact bA (bA (bA (Below.refl _ _) _) _) _
  have hF : FI S W (w.heap.size + 1 + 1) 0 (fun _ => #[]) := by
    refine ⟨?_, by rw [← hW]; simp, fun k hk => by omega⟩
    have : W.heap[w.heap.size + 1 + 1]? = some (.cells (Array.replicate 384 (.bool false)) 37 (0, 0)) := by
      rw [← hW]
      have := heap_alloc_new ((w.alloc (Obj.cells #[.bool ev, .int .i64 d, .int .u64 S.se, .int .u64 S.mi, .int .u64 S.ho, .int .u64 S.dom, .int .u64 S.mon, .int .u64 S.dow] 30)).alloc (Obj.cells (Array.replicate 384 (.bool false)) 37)) (Obj.cells (Array.replicate 384 (.bool false)) 37)
      simpa using this
    simpa using there_block this
  have hG : W.there (w.heap.size + 1) 0 384 := by
    have : W.heap[w.heap.size + 1]? = some (.cells (Array.replicate 384 (.bool false)) 37 (0, 0)) := by
      rw [← hW, Below.heap_alloc _ _ _ (by simp)]
      exact heap_alloc2_new _ _ _
    simpa using there_block this
  have hsW : w.heap.size + 3 ≤ W.heap.size := by rw [← hW]; simp
  clear hW
  have HF := Lib.hid hF
  have HG := Lib.hid hG
  have HW := Lib.hid hbW
  clear hF hG hbW
  go_loopw [19] (fun v wr => ∃ (n : Nat) (f : Nat → Array Value), v = .int .i64 n ∧ Aside0 (n ≤ 6) ∧ Aside0 (FI S wr (w.heap.size + 1 + 1) n f) ∧ Aside0 (wr.there (w.heap.size + 1) 0 384) ∧ Aside0 (w.heap.size + 3 ≤ wr.heap.size) ∧ Aside0 (Below w.heap.size w wr)) (fun v _ => 100 - (intOf v).toNat)
  case atStart => exact ⟨0, _, rfl, ⟨by decide⟩, ⟨HF.out⟩, ⟨HG.out⟩, ⟨hsW⟩, ⟨HW.out⟩⟩
  case round =>
    obtain ⟨n, f, rfl, HN, HFI, HT, HZ, HB⟩ := hrel
    by_cases c : n < 6
    · have ct : decide ((n : Int) < 6) = true := by simp; omega
      have hidx := idx139 S n c
      have hbd := HS.out n c
      generalize hb : bitsOf S n = b at hidx hbd
      have HBB := Lib.hid hb
      clear hb
      go_wp2_with (first
        | (go_at_call 75; refine (tSetOf (n : Int) b _ (by omega) (by omega) hbd.1 hbd.2).mono ?_; rintro e w2 ⟨cs, rfl, hcs, hb2⟩; have HB2 := Lib.hid hb2; have HCS := Lib.hid hcs; clear hb2 hcs)
        | ((with_reducible refine wpList_store_mid (op := ⟨none, .store 35 (.tmp 27) (.tmp 26), _, _, _, _⟩) ?b1 35 (.tmp 27) (.tmp 26) ?b2 (w.heap.size + 1 + 1) (n * 64) cs ?b3 ?b4 ?b5 ?b6 ?b7 ?_); (case b1 => rfl); (case b2 => rfl); (case b4 => rfl); (case b3 => rfl); (case b5 => rw [HCS.out.sz]; exact there_sub (HFI.out.below HB2.out).1 _ _ (by omega)); (case b6 => rw [HCS.out.sz]; exact inf35); (case b7 => exact HCS.out.all)))
      go_roundw
      case measure => simp [intOf]; omega
      case rel =>
        have hF2 := HFI.out.below HB2.out
        have hT2 := there_below HT.out HB2.out (by have := HFI.out.2.1; omega)
        have hcs : SetV n (bitsOf S n) cs := by rw [HBB.out]; exact HCS.out
        rw [show n * 64 = 64 * n by omega]
        exact ⟨n + 1, _, by go_num, ⟨by omega⟩, ⟨hF2.step cs hcs c⟩, ⟨World.there_setCells hT2 _ _ _⟩, ⟨by rw [setCells_size]; have := HB2.out.size; have := HZ.out; omega⟩, ⟨Below.setCells (by omega) _ _ _ (HB.out.trans (HB2.out.mono HB.out.size))⟩⟩
    · have ct : decide ((n : Int) < 6) = false := by simp; omega
      obtain rfl : n = 6 := by have := HN.out; omega
      obtain ⟨L, hL⟩ : ∃ L, flatF f 0 6 = L := ⟨_, rfl⟩
      have hfin := HFI.out.fin
      rw [hL] at hfin
      have HX := Lib.hid hfin
      clear hfin hL
      go_wp2_with (first
        | ((with_reducible refine wpList_load_mid (op := ⟨some 29, _, _, _, _, _⟩) ?a1 37 (.tmp 3) ?a2 (w.heap.size + 1 + 1) 0 ?a3 L _ ?a4 und37 ?a5 ?a6 ?_); (case a1 => rfl); (case a2 => rfl); (case a3 => rfl); (case a4 => exact HX.out.1); (case a5 => rfl); (case a6 => rw [HX.out.2.1]; exact inf37))
        | ((with_reducible refine wpList_store_mid (op := ⟨none, .store 37 (.tmp 2) (.tmp 29), _, _, _, _⟩) ?b1 37 (.tmp 2) (.tmp 29) ?b2 (w.heap.size + 1) 0 L.toArray ?b3 ?b4 ?b5 ?b6 ?b7 ?_); (case b1 => rfl); (case b2 => rfl); (case b4 => rfl); (case b3 => rfl); (case b5 => rw [show L.toArray.size = 384 from HX.out.2.1]; exact HT.out); (case b6 => rw [show L.toArray.size = 384 from HX.out.2.1]; exact inf37); (case b7 => exact HX.out.2.2.1)))
      refine bodyPost_ret (v := .agg L.toArray) (results_cell_mid rfl _ _ (w.heap.size + 1) L _ rfl ?_ und37 rfl ?_) rfl ⟨_, rfl, HX.out.2.2.2, ?_⟩
      · have := World.rangeAt_setCells_same wr (w.heap.size + 1) 0 L (by rw [HX.out.2.1]; exact HT.out)
        simpa using this
      · rw [HX.out.2.1]; exact inf37
      · exact Below.setCells (by omega) _ _ _ HB.out
end Go.Proofs.YtjmgebhjkbcpcaaGreatDoor.NM
end
section
set_option linter.unusedVariables false
set_option linter.unusedSimpArgs false
namespace Go.Proofs.YtjmgebhjkbcpcaaGreatDoor.Txt
open Go.Proofs.YtjmgebhjkbcpcaaGreatDoor.NM
open Go Go.RowKit Go.Proofs.YtjmgebhjkbcpcaaGreatDoorW.PrintWords Go.Proofs.YtjmgebhjkbcpcaaGreatDoorW.PrintLast Go.Proofs.YtjmgebhjkbcpcaaGreatDoorW.PrintMore Go.Proofs.YtjmgebhjkbcpcaaGreatDoor.PCronParse
set_option maxRecDepth 100000
/-- a block of n one-celled values -/
def Row (w : World) (g t n : Nat) : Prop := ∃ cs : Array Value, cs.size = n ∧ cs.all (·.oneCell') = true ∧ w.heap[g]? = some (.cells cs t (0, 0))
theorem Row.lt {w : World} {g t n : Nat} (h : Row w g t n) : g < w.heap.size := by
  obtain ⟨cs, _, _, h⟩ := h
  exact (Array.getElem?_eq_some_iff.1 h).1
theorem Row.move {w w' : World} {g t n : Nat} (h : Row w g t n) (hm : w'.heap[g]? = w.heap[g]?) : Row w' g t n := by
  obtain ⟨cs, h1, h2, h3⟩ := h
  exact ⟨cs, h1, h2, by rw [hm]; exact h3⟩
theorem all_set {cs : Array Value} (h : cs.all (·.oneCell') = true) (i : Nat) {v : Value} (hv : v.oneCell' = true) : (cs.setIfInBounds i v).all (·.oneCell') = true := by
  refine Array.all_eq_true_iff_forall_mem.2 fun u hu => ?_
  rw [Array.mem_iff_getElem] at hu
  obtain ⟨j, hj, rfl⟩ := hu
  have hj' : j < cs.size := by simpa using hj
  rw [Array.getElem_setIfInBounds hj']
  split
  · exact hv
  · exact Array.all_eq_true_iff_forall_mem.1 h _ (Array.getElem_mem _)
theorem Row.setCells {g t n : Nat} : ∀ (vs : List Value) (o : Nat) (w : World), Row w g t n → (∀ v ∈ vs, v.oneCell' = true) → Row (w.setCells g o vs) g t n
  | [], _, _, h, _ => h
  | v :: r, o, w, h, hv => by
    rw [World.setCells]
    refine Row.setCells r (o + 1) _ ?_ (fun u hu => hv u (List.mem_cons_of_mem _ hu))
    obtain ⟨cs, h1, h2, h3⟩ := h
    exact ⟨cs.setIfInBounds o v, by simp [h1], all_set h2 o (hv v List.mem_cons_self), heap_setCell_same _ _ _ _ _ _ h3⟩
theorem setCells_other {g k : Nat} (hk : k ≠ g) : ∀ (vs : List Value) (o : Nat) (w : World), (w.setCells g o vs).heap[k]? = w.heap[k]?
  | [], _, _ => rfl
  | v :: r, o, w => by
    rw [World.setCells, setCells_other hk r (o + 1) _, heap_setCell_other _ _ _ _ hk]
theorem Row.there {w : World} {g t n : Nat} (h : Row w g t n) (o m : Nat) (hm : o + m ≤ n) : w.there g o m := by
  obtain ⟨cs, h1, _, h3⟩ := h
  have := there_block h3
  rw [h1] at this
  exact there_sub this o m hm
theorem Row.replicate {w : World} {g t n : Nat} {v : Value} (hv : v.oneCell' = true) (h : w.heap[g]? = some (.cells (Array.replicate n v) t (0, 0))) : Row w g t n :=
  ⟨_, by simp, Array.all_eq_true_iff_forall_mem.2 fun u hu => by rw [(Array.mem_replicate.1 hu).2]; exact hv, h⟩
theorem Bools.allL {cs : Array Value} (h : Bools cs) : ∀ v ∈ cs.toList, v.oneCell' = true := fun v hv => Array.all_eq_true_iff_forall_mem.1 h.all v (by simpa using hv)
theorem yieldsIf_load_row {P : Program} {ops : Array Oper} {S : World → Prop} {op : Oper} {a : Act} {g : Nat} {cs : Array Value} {t : TypeId} {fr : Nat × Nat} {d : TypeDesc} (hw : Region.wanted op (yielded ops a.tmps) = true) (ty : TypeId) (x : Operand) (ho : op.op = .load ty x)
    (hx : a.eval x = .pointer (some ⟨g, 0, none⟩)) (hS : ∀ w, S w → w.heap[g]? = some (.cells cs t fr))
    (hu : P.underlying ty = some d) (hd : (match d with | .struct _ | .array _ _ => true | _ => false) = true) (hi : (P.info? ty).map (·.size) = some cs.size) : YieldsIf P ops S op (.agg cs) a :=
  .inl ⟨hw, fun w hw' => by
    unfold execOp
    simp only [ho, hx, Instr.loadAt, Instr.sureAddr, Sem.run_bind, Sem.run_pure, Result.andThen_ok, run_loadVar_row w g t ty cs fr d (hS w hw') hu hd hi]⟩
/-- what stands at the head of CronSix's loop -/
structure SX (w : World) (g : Nat) (xs : List ByteArray) (wr : World) : Prop where
  b0 : Row wr w.heap.size 37 384
  b1 : Row wr (w.heap.size + 1) 37 384
  st : Strs wr g xs
  gl : g < w.heap.size
  be : Below w.heap.size w wr
theorem SX.keep {w : World} {g : Nat} {xs : List ByteArray} {wr w' : World} (h : SX w g xs wr) (hb : Below wr.heap.size wr w') : SX w g xs w' :=
  ⟨h.b0.move (hb.block _ h.b0.lt), h.b1.move (hb.block _ h.b1.lt), h.st.move (hb.block _ h.st.lt), h.gl, h.be.trans (hb.mono h.be.size)⟩
theorem SX.drew {w : World} {g : Nat} {xs : List ByteArray} {wr : World} (h : SX w g xs wr) : SX w g xs wr.drew := h.keep (Below.refl _ _).drew
theorem SX.new {w : World} {g : Nat} {xs : List ByteArray} {wr : World} (h : SX w g xs wr) (o : Obj) : SX w g xs (wr.alloc o) := h.keep (bA (Below.refl _ _) _)
theorem SX.set {w : World} {g : Nat} {xs : List ByteArray} {wr : World} (h : SX w g xs wr) (o : Nat) {vs : List Value} (hv : ∀ v ∈ vs, v.oneCell' = true) : SX w g xs (wr.setCells (w.heap.size + 1) o vs) :=
  ⟨h.b0.move (setCells_other (by omega) _ _ _), h.b1.setCells _ _ _ hv, h.st.move (setCells_other (by have := h.gl; omega) _ _ _), h.gl, Below.setCells (by omega) _ _ _ h.be⟩
/-- a store over the whole of another row -/
theorem SX.row {w : World} {g : Nat} {xs : List ByteArray} {wr : World} (h : SX w g xs wr) {k : Nat} (hk : w.heap.size + 2 ≤ k) (cs : Array Value) : SX w g xs (wr.setRow k cs) :=
  ⟨h.b0.move (setRow_other _ _ _ _ (by omega)), h.b1.move (setRow_other _ _ _ _ (by omega)), h.st.move (setRow_other _ _ _ _ (by have := h.gl; omega)), h.gl, Below.setRow' h.be (by omega) _⟩
theorem info37 : (Tryz.prog.info? 37).map (fun i => (i.zero, i.size)) = some (some (.agg (Array.replicate 384 (.bool false))), 384) := by kernel_rfl
theorem inf37 : (Tryz.prog.info? 37).map (·.size) = some 384 := by kernel_rfl
theorem und37 : Tryz.prog.underlying 37 = some (.array 6 35) := by kernel_rfl
theorem bounds_f (k : Nat) (hk : k < 6) : spec_CronBoundsOf.f k = some ((low k : Int), (high k : Int), (k : Int)) := by
  rcases k with _ | _ | _ | _ | _ | _ | k
  · rfl
  · rfl
  · rfl
  · rfl
  · rfl
  · rfl
  · omega
set_option maxHeartbeats 1000000 in
theorem tSix (xs : List ByteArray) (h6 : xs.length = 6) (hs : ∀ x ∈ xs, x.size < 1099511627776) (g cp : Nat) (w : World) (hg : Strs w g xs) :
    Calls Tryz.prog 39 #[.slice (some ⟨g, 0, none⟩) 6 cp] w fun e w' =>
      ∃ (us : Array Value) (v : Int), e = .returned (.tuple #[.agg us, .int .i64 v]) ∧ us.size = 384 ∧ us.all (·.oneCell') = true ∧ (v = 1 ∨ v = 0 ∨ v = 2) ∧ (v = 1 ↔ ∀ k (h : k < xs.length), FF k (tx xs[k])) ∧ Below w.heap.size w w' := by
  have HZ := (zero_of_info info37).1
  have HS := Lib.hid hs
  have HI := Lib.hid inf35
  have H6 := Lib.hid h6
  clear hs
  go_enter Tryz.func39, Tryz.ntmps39
  go_upto_region 4 with fail
  have HZH := Lib.hid HZ
  clear HZ
  generalize hW : World.alloc _ _ = W
  have hF : SX w g xs W := by
    refine ⟨?_, ?_, ?_, hg.lt, ?_⟩
    · refine Row.replicate (v := .bool false) rfl ?_
      rw [← hW, Below.heap_alloc _ _ _ (by simp)]
      exact heap_alloc_new _ _
    · refine Row.replicate (v := .bool false) rfl ?_
      rw [← hW]
      exact heap_alloc2_new _ _ _
    · refine hg.move ?_
      have := hg.lt
      rw [← hW, Below.heap_alloc _ _ _ (by simp; omega), Below.heap_alloc _ _ _ this]
    · rw [← hW]; exact bA (bA (Below.refl _ _) _) _
  have HF := Lib.hid hF
  clear hF hW hg
  go_loopw [9, 5] (fun i v wr => ∃ (n : Nat) (c : Int), i = .int .i64 n ∧ v = .int .i64 c ∧ Aside0 (n ≤ 6) ∧ Aside0 (c = 1 ∨ c = 0 ∨ c = 2) ∧ Aside0 (c = 1 ↔ ∀ k (h : k < xs.length), k < n → FF k (tx xs[k])) ∧ Aside0 (SX w g xs wr)) (fun i _ _ => 100 - (intOf i).toNat)
  case atStart => exact ⟨0, 1, rfl, rfl, ⟨by decide⟩, ⟨.inl rfl⟩, ⟨by simp⟩, ⟨HF.out⟩⟩
  case round =>
    obtain ⟨n, c, rfl, rfl, HN, HC, HP, HFR⟩ := hrel
    by_cases cn : n < 6
    · have ct : decide ((n : Int) < 6) = true := by simp; omega
      obtain ⟨x, hx⟩ : ∃ x, xs[n]'(by rw [h6]; exact cn) = x := ⟨_, rfl⟩
      have HXS := Lib.hid (show x.size < 1099511627776 by rw [← hx]; exact HS.out _ (List.getElem_mem _))
      have HX := Lib.hid hx
      clear hx
      go_upto_region 6 with fail
      go_cut [7, 8] from 12 to 27 (fun s7 s8 wc => ∃ (h : Nat) (us : Array Value) (v : Int), s7 = .pointer (some ⟨h, 0, none⟩) ∧ s8 = .int .i64 v ∧ SX w g xs wc ∧ w.heap.size + 2 ≤ h ∧ wc.heap[h]? = some (.cells us 35 (0, 0)) ∧ Bools us ∧ (v = 1 ∨ v = 0 ∨ v = 2) ∧ (v = 1 ↔ FF n (tx x)))
      case first =>
        have hn0 : (0 : Int) ≤ (n : Int) := by omega
        have hn1 : (n : Int) < 6 := by omega
        have X0 := Lib.hid HFR.out.drew
        refine wp_region_held_drew (S := fun W => SX w g xs W) (by kernel_rfl) X0.out (fun hHeld => ?_)
        refine wpAnyH_take (i := 0) (oi := { dst := some 13, op := Op.move (Operand.tmp 6), type := 3, pos := "cron_text.go:120", after := #[], guard := none }) (v := ?_) rfl (by kernel_rfl) (by kernel_rfl) (by kernel_rfl) (fun _ _ _ h => h) (Or.inl ⟨by rfl, ?_⟩) (by assumption) ?_
        rotate_left
        · intro W hSw
          clear hSw
          go_simp
          try with_reducible rfl
        try simp only [Act.put, List.setIfInBounds_toArray, List.set_cons_zero, List.set_cons_succ]
        refine wpAnyH_take (i := 2) (oi := { dst := some 15, op := Op.move (Operand.tmp 0), type := 32, pos := "cron_text.go:120", after := #[], guard := none }) (v := ?_) rfl (by kernel_rfl) (by kernel_rfl) (by kernel_rfl) (fun _ _ _ h => h) (Or.inl ⟨by rfl, ?_⟩) (by assumption) ?_
        rotate_left
        · intro W hSw
          clear hSw
          go_simp
          try with_reducible rfl
        try simp only [Act.put, List.setIfInBounds_toArray, List.set_cons_zero, List.set_cons_succ]
        refine wpAnyH_take (i := 3) (oi := { dst := some 16, op := Op.move (Operand.tmp 6), type := 3, pos := "cron_text.go:120", after := #[], guard := none }) (v := ?_) rfl (by kernel_rfl) (by kernel_rfl) (by kernel_rfl) (fun _ _ _ h => h) (Or.inl ⟨by rfl, ?_⟩) (by assumption) ?_
        rotate_left
        · intro W hSw
          clear hSw
          go_simp
          try with_reducible rfl
        try simp only [Act.put, List.setIfInBounds_toArray, List.set_cons_zero, List.set_cons_succ]
        refine wpAnyH_take (i := 4) (oi := { dst := some 17, op := Op.indexAddr 32 (Operand.tmp 15) (Operand.tmp 16), type := 0, pos := "cron_text.go:120", after := #[{ on := 2, ground := Ground.data }, { on := 3, ground := Ground.data }], guard := none }) (v := ?_) rfl (by kernel_rfl) (by kernel_rfl) (by kernel_rfl) (fun _ _ _ h => h) (Or.inl ⟨by rfl, ?_⟩) (by assumption) ?_
        rotate_left
        · intro W hSw
          clear hSw
          go_simp
          try with_reducible rfl
        try simp only [Act.put, List.setIfInBounds_toArray, List.set_cons_zero, List.set_cons_succ]
        refine wpAnyH_take (i := 5) (oi := { dst := some 18, op := Op.load 9 (Operand.tmp 17), type := 9, pos := "cron_text.go:120", after := #[{ on := 4, ground := Ground.data }], guard := none }) (v := ?_) rfl (by kernel_rfl) (by kernel_rfl) (by kernel_rfl) (fun _ _ _ h => h) (Or.inl ⟨by rfl, ?_⟩) (by assumption) ?_
        rotate_left
        · intro W hSw
          have s1 := hSw.st.cell n (by rw [H6.out]; exact cn); rw [HX.out] at s1; clear hSw
          go_simp
          try with_reducible rfl
        try simp only [Act.put, List.setIfInBounds_toArray, List.set_cons_zero, List.set_cons_succ]
        refine wpAnyH_ready (rs := [1, 10]) (by kernel_rfl) (by simp) ?_
        refine (AllReadyH.cons (o := { dst := some 14, op := Op.call { callee := Callee.value (Operand.func 27), args := #[Operand.tmp 13], argTypes := #[3] }, type := 78, pos := "cron_text.go:120", after := #[{ on := 0, ground := Ground.data }], guard := none }) rfl (fun K hK => ?_) (AllReadyH.cons (o := { dst := some 7, op := Op.alloc 35, type := 0, pos := "cron_text.go:120", after := #[], guard := none }) rfl (fun K hK => ?_) AllReadyH.nil))
        ·
          go_simp
          (go_at_call 27; refine (spec_CronBoundsOf.calls _ _ _ _ _ (bounds_f n cn)).mono ?_; rintro e w1 ⟨rfl, hw1⟩; have X1 := Lib.hid (X0.out.keep hw1))
          refine hK.out _ _ X1.out (fun hHeld_X1 => ?_)
          clear hK K
          try simp only [Act.put, List.setIfInBounds_toArray, List.set_cons_zero, List.set_cons_succ]
          refine wpAnyH_ready (rs := [6, 10]) (by kernel_rfl) (by simp) ?_
          refine (AllReadyH.cons (o := { dst := some 19, op := Op.call { callee := Callee.value (Operand.func 26), args := #[Operand.tmp 14, Operand.tmp 18], argTypes := #[78, 9] }, type := 75, pos := "cron_text.go:120", after := #[{ on := 1, ground := Ground.data }, { on := 5, ground := Ground.data }, { on := 1, ground := Ground.chain }], guard := none }) rfl (fun K hK => ?_) (AllReadyH.cons (o := { dst := some 7, op := Op.alloc 35, type := 0, pos := "cron_text.go:120", after := #[], guard := none }) rfl (fun K hK => ?_) AllReadyH.nil))
          ·
            go_simp
            (go_at_call 26; refine (tField n cn x HXS.out _).mono ?_; rintro e w2 ⟨us, v, rfl, hus, hv1, hv2, hw2⟩; have X2 := Lib.hid (X1.out.keep hw2); have US := Lib.hid hus; have VS := Lib.hid (And.intro hv1 hv2); clear hus hv1 hv2)
            refine hK.out _ _ X2.out (fun hHeld_X2 => ?_)
            clear hK K
            try simp only [Act.put, List.setIfInBounds_toArray, List.set_cons_zero, List.set_cons_succ]
            refine wpAnyH_take (i := 7) (oi := { dst := some 12, op := Op.move (Operand.tmp 19), type := 75, pos := "cron_text.go:120", after := #[{ on := 6, ground := Ground.data }], guard := none }) (v := ?_) rfl (by kernel_rfl) (by kernel_rfl) (by kernel_rfl) (fun _ _ _ h => h) (Or.inl ⟨by rfl, ?_⟩) (by assumption) ?_
            rotate_left
            · intro W hSw
              clear hSw
              go_simp
              try with_reducible rfl
            try simp only [Act.put, List.setIfInBounds_toArray, List.set_cons_zero, List.set_cons_succ]
            refine wpAnyH_take (i := 8) (oi := { dst := some 20, op := Op.extract (Operand.tmp 12) 0, type := 35, pos := "cron_text.go:120", after := #[{ on := 7, ground := Ground.data }], guard := none }) (v := ?_) rfl (by kernel_rfl) (by kernel_rfl) (by kernel_rfl) (fun _ _ _ h => h) (Or.inl ⟨by rfl, ?_⟩) (by assumption) ?_
            rotate_left
            · intro W hSw
              clear hSw
              go_simp
              try with_reducible rfl
            try simp only [Act.put, List.setIfInBounds_toArray, List.set_cons_zero, List.set_cons_succ]
            refine wpAnyH_take (i := 9) (oi := { dst := some 21, op := Op.extract (Operand.tmp 12) 1, type := 3, pos := "cron_text.go:120", after := #[{ on := 7, ground := Ground.data }, { on := 11, ground := Ground.gcOnly Departure.lateStores }], guard := none }) (v := ?_) rfl (by kernel_rfl) (by kernel_rfl) (by kernel_rfl) (fun _ _ _ h => h) (Or.inl ⟨by rfl, ?_⟩) (by assumption) ?_
            rotate_left
            · intro W hSw
              clear hSw
              go_simp
              try with_reducible rfl
            try simp only [Act.put, List.setIfInBounds_toArray, List.set_cons_zero, List.set_cons_succ]
            refine wpAnyH_ready (rs := [10]) (by kernel_rfl) (by simp) ?_
            refine (AllReadyH.cons (o := { dst := some 7, op := Op.alloc 35, type := 0, pos := "cron_text.go:120", after := #[], guard := none }) rfl (fun K hK => ?_) AllReadyH.nil)
            go_simp
            have X3 := Lib.hid (X2.out.new (.cells (Array.replicate 64 (.bool false)) 35))
            refine hK.out _ _ X3.out (fun hHeld_X3 => ?_)
            clear hK K
            try simp only [Act.put, List.setIfInBounds_toArray, List.set_cons_zero, List.set_cons_succ]
            refine wpAnyH_ready (rs := [11]) (by kernel_rfl) (by simp) ?_
            refine (AllReadyH.cons (o := { dst := none, op := Op.store 35 (Operand.tmp 7) (Operand.tmp 20), type := 0, pos := "cron_text.go:120", after := #[{ on := 10, ground := Ground.data }, { on := 8, ground := Ground.data }, { on := 6, ground := Ground.chain }, { on := 0, ground := Ground.phase }, { on := 1, ground := Ground.phase }, { on := 2, ground := Ground.phase }, { on := 3, ground := Ground.phase }, { on := 4, ground := Ground.phase }, { on := 5, ground := Ground.phase }, { on := 6, ground := Ground.phase }, { on := 7, ground := Ground.phase }, { on := 8, ground := Ground.phase }, { on := 9, ground := Ground.textOnly Departure.lateStores }, { on := 10, ground := Ground.phase }], guard := none }) rfl (fun K hK => ?_) AllReadyH.nil)
            rw [if_pos (by rfl)]
            refine wp_store_row 35 (.tmp 7) (.tmp 20) rfl _ us rfl rfl 35 (Array.replicate 64 (.bool false)) ?_ (by rw [US.out.sz]; exact HI.out) (by rw [US.out.sz]; simp) US.out.all ?_
            · exact heap_alloc_new _ _
            refine hK.out _ _ (X3.out.row (by have := X2.out.b1.lt; omega) us) (fun hHeldL => ?_)
            clear hK K
            try simp only [Act.put, List.setIfInBounds_toArray, List.set_cons_zero, List.set_cons_succ]
            refine wpAnyH_take (i := 12) (oi := { dst := some 8, op := Op.assign (Operand.tmp 21), type := 3, pos := "cron_text.go:120", after := #[{ on := 9, ground := Ground.data }, { on := 11, ground := Ground.chain }, { on := 0, ground := Ground.phase }, { on := 1, ground := Ground.phase }, { on := 2, ground := Ground.phase }, { on := 3, ground := Ground.phase }, { on := 4, ground := Ground.phase }, { on := 5, ground := Ground.phase }, { on := 6, ground := Ground.phase }, { on := 7, ground := Ground.phase }, { on := 8, ground := Ground.phase }, { on := 9, ground := Ground.phase }, { on := 10, ground := Ground.phase }, { on := 11, ground := Ground.phase }], guard := none }) (v := ?_) rfl (by kernel_rfl) (by kernel_rfl) (by kernel_rfl) (fun _ _ _ h => h) (Or.inl ⟨by rfl, ?_⟩) (by assumption) ?_
            rotate_left
            · intro W hSw
              clear hSw
              go_simp
              try with_reducible rfl
            try simp only [Act.put, List.setIfInBounds_toArray, List.set_cons_zero, List.set_cons_succ]
            refine wpAnyH_done (by kernel_rfl) ?_ _
            go_wp2_with fail
            go_meet
            exact ⟨_, us, v, rfl, rfl, X3.out.row (by have := X2.out.b1.lt; omega) us, (by have := X2.out.b1.lt; omega), setRow_heap _ _ _ _ _ _ (heap_alloc_new _ _), US.out, VS.out.1, VS.out.2⟩
          ·
            go_simp
            have X2 := Lib.hid (X1.out.new (.cells (Array.replicate 64 (.bool false)) 35))
            refine hK.out _ _ X2.out (fun hHeld_X2 => ?_)
            clear hK K
            try simp only [Act.put, List.setIfInBounds_toArray, List.set_cons_zero, List.set_cons_succ]
            refine wpAnyH_ready (rs := [6]) (by kernel_rfl) (by simp) ?_
            refine (AllReadyH.cons (o := { dst := some 19, op := Op.call { callee := Callee.value (Operand.func 26), args := #[Operand.tmp 14, Operand.tmp 18], argTypes := #[78, 9] }, type := 75, pos := "cron_text.go:120", after := #[{ on := 1, ground := Ground.data }, { on := 5, ground := Ground.data }, { on := 1, ground := Ground.chain }], guard := none }) rfl (fun K hK => ?_) AllReadyH.nil)
            go_simp
            (go_at_call 26; refine (tField n cn x HXS.out _).mono ?_; rintro e w3 ⟨us, v, rfl, hus, hv1, hv2, hw3⟩; have X3 := Lib.hid (X2.out.keep hw3); have US := Lib.hid hus; have VS := Lib.hid (And.intro hv1 hv2); clear hus hv1 hv2)
            refine hK.out _ _ X3.out (fun hHeld_X3 => ?_)
            clear hK K
            try simp only [Act.put, List.setIfInBounds_toArray, List.set_cons_zero, List.set_cons_succ]
            refine wpAnyH_take (i := 7) (oi := { dst := some 12, op := Op.move (Operand.tmp 19), type := 75, pos := "cron_text.go:120", after := #[{ on := 6, ground := Ground.data }], guard := none }) (v := ?_) rfl (by kernel_rfl) (by kernel_rfl) (by kernel_rfl) (fun _ _ _ h => h) (Or.inl ⟨by rfl, ?_⟩) (by assumption) ?_
            rotate_left
            · intro W hSw
              clear hSw
              go_simp
              try with_reducible rfl
            try simp only [Act.put, List.setIfInBounds_toArray, List.set_cons_zero, List.set_cons_succ]
            refine wpAnyH_take (i := 8) (oi := { dst := some 20, op := Op.extract (Operand.tmp 12) 0, type := 35, pos := "cron_text.go:120", after := #[{ on := 7, ground := Ground.data }], guard := none }) (v := ?_) rfl (by kernel_rfl) (by kernel_rfl) (by kernel_rfl) (fun _ _ _ h => h) (Or.inl ⟨by rfl, ?_⟩) (by assumption) ?_
            rotate_left
            · intro W hSw
              clear hSw
              go_simp
              try with_reducible rfl
            try simp only [Act.put, List.setIfInBounds_toArray, List.set_cons_zero, List.set_cons_succ]
            refine wpAnyH_take (i := 9) (oi := { dst := some 21, op := Op.extract (Operand.tmp 12) 1, type := 3, pos := "cron_text.go:120", after := #[{ on := 7, ground := Ground.data }, { on := 11, ground := Ground.gcOnly Departure.lateStores }], guard := none }) (v := ?_) rfl (by kernel_rfl) (by kernel_rfl) (by kernel_rfl) (fun _ _ _ h => h) (Or.inl ⟨by rfl, ?_⟩) (by assumption) ?_
            rotate_left
            · intro W hSw
              clear hSw
              go_simp
              try with_reducible rfl
            try simp only [Act.put, List.setIfInBounds_toArray, List.set_cons_zero, List.set_cons_succ]
            refine wpAnyH_ready (rs := [11]) (by kernel_rfl) (by simp) ?_
            refine (AllReadyH.cons (o := { dst := none, op := Op.store 35 (Operand.tmp 7) (Operand.tmp 20), type := 0, pos := "cron_text.go:120", after := #[{ on := 10, ground := Ground.data }, { on := 8, ground := Ground.data }, { on := 6, ground := Ground.chain }, { on := 0, ground := Ground.phase }, { on := 1, ground := Ground.phase }, { on := 2, ground := Ground.phase }, { on := 3, ground := Ground.phase }, { on := 4, ground := Ground.phase }, { on := 5, ground := Ground.phase }, { on := 6, ground := Ground.phase }, { on := 7, ground := Ground.phase }, { on := 8, ground := Ground.phase }, { on := 9, ground := Ground.textOnly Departure.lateStores }, { on := 10, ground := Ground.phase }], guard := none }) rfl (fun K hK => ?_) AllReadyH.nil)
            rw [if_pos (by rfl)]
            refine wp_store_row 35 (.tmp 7) (.tmp 20) rfl _ us rfl rfl 35 (Array.replicate 64 (.bool false)) ?_ (by rw [US.out.sz]; exact HI.out) (by rw [US.out.sz]; simp) US.out.all ?_
            · exact (hw3.block _ (by simp)).trans (heap_alloc_new _ _)
            refine hK.out _ _ (X3.out.row (by have := X1.out.b1.lt; omega) us) (fun hHeldL => ?_)
            clear hK K
            try simp only [Act.put, List.setIfInBounds_toArray, List.set_cons_zero, List.set_cons_succ]
            refine wpAnyH_take (i := 12) (oi := { dst := some 8, op := Op.assign (Operand.tmp 21), type := 3, pos := "cron_text.go:120", after := #[{ on := 9, ground := Ground.data }, { on := 11, ground := Ground.chain }, { on := 0, ground := Ground.phase }, { on := 1, ground := Ground.phase }, { on := 2, ground := Ground.phase }, { on := 3, ground := Ground.phase }, { on := 4, ground := Ground.phase }, { on := 5, ground := Ground.phase }, { on := 6, ground := Ground.phase }, { on := 7, ground := Ground.phase }, { on := 8, ground := Ground.phase }, { on := 9, ground := Ground.phase }, { on := 10, ground := Ground.phase }, { on := 11, ground := Ground.phase }], guard := none }) (v := ?_) rfl (by kernel_rfl) (by kernel_rfl) (by kernel_rfl) (fun _ _ _ h => h) (Or.inl ⟨by rfl, ?_⟩) (by assumption) ?_
            rotate_left
            · intro W hSw
              clear hSw
              go_simp
              try with_reducible rfl
            try simp only [Act.put, List.setIfInBounds_toArray, List.set_cons_zero, List.set_cons_succ]
            refine wpAnyH_done (by kernel_rfl) ?_ _
            go_wp2_with fail
            go_meet
            exact ⟨_, us, v, rfl, rfl, X3.out.row (by have := X1.out.b1.lt; omega) us, (by have := X1.out.b1.lt; omega), setRow_heap _ _ _ _ _ _ ((hw3.block _ (by simp)).trans (heap_alloc_new _ _)), US.out, VS.out.1, VS.out.2⟩
        ·
          go_simp
          have X1 := Lib.hid (X0.out.new (.cells (Array.replicate 64 (.bool false)) 35))
          refine hK.out _ _ X1.out (fun hHeld_X1 => ?_)
          clear hK K
          try simp only [Act.put, List.setIfInBounds_toArray, List.set_cons_zero, List.set_cons_succ]
          refine wpAnyH_ready (rs := [1]) (by kernel_rfl) (by simp) ?_
          refine (AllReadyH.cons (o := { dst := some 14, op := Op.call { callee := Callee.value (Operand.func 27), args := #[Operand.tmp 13], argTypes := #[3] }, type := 78, pos := "cron_text.go:120", after := #[{ on := 0, ground := Ground.data }], guard := none }) rfl (fun K hK => ?_) AllReadyH.nil)
          go_simp
          (go_at_call 27; refine (spec_CronBoundsOf.calls _ _ _ _ _ (bounds_f n cn)).mono ?_; rintro e w2 ⟨rfl, hw2⟩; have X2 := Lib.hid (X1.out.keep hw2))
          refine hK.out _ _ X2.out (fun hHeld_X2 => ?_)
          clear hK K
          try simp only [Act.put, List.setIfInBounds_toArray, List.set_cons_zero, List.set_cons_succ]
          refine wpAnyH_ready (rs := [6]) (by kernel_rfl) (by simp) ?_
          refine (AllReadyH.cons (o := { dst := some 19, op := Op.call { callee := Callee.value (Operand.func 26), args := #[Operand.tmp 14, Operand.tmp 18], argTypes := #[78, 9] }, type := 75, pos := "cron_text.go:120", after := #[{ on := 1, ground := Ground.data }, { on := 5, ground := Ground.data }, { on := 1, ground := Ground.chain }], guard := none }) rfl (fun K hK => ?_) AllReadyH.nil)
          go_simp
          (go_at_call 26; refine (tField n cn x HXS.out _).mono ?_; rintro e w3 ⟨us, v, rfl, hus, hv1, hv2, hw3⟩; have X3 := Lib.hid (X2.out.keep hw3); have US := Lib.hid hus; have VS := Lib.hid (And.intro hv1 hv2); clear hus hv1 hv2)
          refine hK.out _ _ X3.out (fun hHeld_X3 => ?_)
          clear hK K
          try simp only [Act.put, List.setIfInBounds_toArray, List.set_cons_zero, List.set_cons_succ]
          refine wpAnyH_take (i := 7) (oi := { dst := some 12, op := Op.move (Operand.tmp 19), type := 75, pos := "cron_text.go:120", after := #[{ on := 6, ground := Ground.data }], guard := none }) (v := ?_) rfl (by kernel_rfl) (by kernel_rfl) (by kernel_rfl) (fun _ _ _ h => h) (Or.inl ⟨by rfl, ?_⟩) (by assumption) ?_
          rotate_left
          · intro W hSw
            clear hSw
            go_simp
            try with_reducible rfl
          try simp only [Act.put, List.setIfInBounds_toArray, List.set_cons_zero, List.set_cons_succ]
          refine wpAnyH_take (i := 8) (oi := { dst := some 20, op := Op.extract (Operand.tmp 12) 0, type := 35, pos := "cron_text.go:120", after := #[{ on := 7, ground := Ground.data }], guard := none }) (v := ?_) rfl (by kernel_rfl) (by kernel_rfl) (by kernel_rfl) (fun _ _ _ h => h) (Or.inl ⟨by rfl, ?_⟩) (by assumption) ?_
          rotate_left
          · intro W hSw
            clear hSw
            go_simp
            try with_reducible rfl
          try simp only [Act.put, List.setIfInBounds_toArray, List.set_cons_zero, List.set_cons_succ]
          refine wpAnyH_take (i := 9) (oi := { dst := some 21, op := Op.extract (Operand.tmp 12) 1, type := 3, pos := "cron_text.go:120", after := #[{ on := 7, ground := Ground.data }, { on := 11, ground := Ground.gcOnly Departure.lateStores }], guard := none }) (v := ?_) rfl (by kernel_rfl) (by kernel_rfl) (by kernel_rfl) (fun _ _ _ h => h) (Or.inl ⟨by rfl, ?_⟩) (by assumption) ?_
          rotate_left
          · intro W hSw
            clear hSw
            go_simp
            try with_reducible rfl
          try simp only [Act.put, List.setIfInBounds_toArray, List.set_cons_zero, List.set_cons_succ]
          refine wpAnyH_ready (rs := [11]) (by kernel_rfl) (by simp) ?_
          refine (AllReadyH.cons (o := { dst := none, op := Op.store 35 (Operand.tmp 7) (Operand.tmp 20), type := 0, pos := "cron_text.go:120", after := #[{ on := 10, ground := Ground.data }, { on := 8, ground := Ground.data }, { on := 6, ground := Ground.chain }, { on := 0, ground := Ground.phase }, { on := 1, ground := Ground.phase }, { on := 2, ground := Ground.phase }, { on := 3, ground := Ground.phase }, { on := 4, ground := Ground.phase }, { on := 5, ground := Ground.phase }, { on := 6, ground := Ground.phase }, { on := 7, ground := Ground.phase }, { on := 8, ground := Ground.phase }, { on := 9, ground := Ground.textOnly Departure.lateStores }, { on := 10, ground := Ground.phase }], guard := none }) rfl (fun K hK => ?_) AllReadyH.nil)
          rw [if_pos (by rfl)]
          refine wp_store_row 35 (.tmp 7) (.tmp 20) rfl _ us rfl rfl 35 (Array.replicate 64 (.bool false)) ?_ (by rw [US.out.sz]; exact HI.out) (by rw [US.out.sz]; simp) US.out.all ?_
          · exact (hw3.block _ (Nat.lt_of_lt_of_le (by simp) hw2.size)).trans ((hw2.block _ (by simp)).trans (heap_alloc_new _ _))
          refine hK.out _ _ (X3.out.row (by have := HFR.out.b1.lt; omega) us) (fun hHeldL => ?_)
          clear hK K
          try simp only [Act.put, List.setIfInBounds_toArray, List.set_cons_zero, List.set_cons_succ]
          refine wpAnyH_take (i := 12) (oi := { dst := some 8, op := Op.assign (Operand.tmp 21), type := 3, pos := "cron_text.go:120", after := #[{ on := 9, ground := Ground.data }, { on := 11, ground := Ground.chain }, { on := 0, ground := Ground.phase }, { on := 1, ground := Ground.phase }, { on := 2, ground := Ground.phase }, { on := 3, ground := Ground.phase }, { on := 4, ground := Ground.phase }, { on := 5, ground := Ground.phase }, { on := 6, ground := Ground.phase }, { on := 7, ground := Ground.phase }, { on := 8, ground := Ground.phase }, { on := 9, ground := Ground.phase }, { on := 10, ground := Ground.phase }, { on := 11, ground := Ground.phase }], guard := none }) (v := ?_) rfl (by kernel_rfl) (by kernel_rfl) (by kernel_rfl) (fun _ _ _ h => h) (Or.inl ⟨by rfl, ?_⟩) (by assumption) ?_
          rotate_left
          · intro W hSw
            clear hSw
            go_simp
            try with_reducible rfl
          try simp only [Act.put, List.setIfInBounds_toArray, List.set_cons_zero, List.set_cons_succ]
          refine wpAnyH_done (by kernel_rfl) ?_ _
          go_wp2_with fail
          go_meet
          exact ⟨_, us, v, rfl, rfl, X3.out.row (by have := HFR.out.b1.lt; omega) us, (by have := HFR.out.b1.lt; omega), setRow_heap _ _ _ _ _ _ ((hw3.block _ (Nat.lt_of_lt_of_le (by simp) hw2.size)).trans ((hw2.block _ (by simp)).trans (heap_alloc_new _ _))), US.out, VS.out.1, VS.out.2⟩
      case rest =>
        obtain ⟨h, us, v, rfl, rfl, hXc, hh, hrow, hus, hv1, hv2⟩ := hcut
        have XC := Lib.hid (And.intro hXc hrow)
        have US := Lib.hid hus
        have VS := Lib.hid (And.intro hv1 hv2)
        have HH := Lib.hid hh
        have hn0 : (0 : Int) ≤ (n : Int) := by omega
        have hn1 : (n : Int) < 6 := by omega
        clear hXc hrow hus hv1 hv2 hh
        go_upto_region 7 with fail
        refine wp_region_held_drew (S := fun W => SX w g xs W ∧ W.heap[h]? = some (.cells us 35 (0, 0))) (by kernel_rfl) ⟨XC.out.1.drew, XC.out.2⟩ (fun hHeld => ?_)
        refine wpAnyH_take (i := 0) (oi := { dst := some 22, op := Op.move (Operand.tmp 6), type := 3, pos := "cron_text.go:121", after := #[], guard := none }) (v := ?_) rfl (by kernel_rfl) (by kernel_rfl) (by kernel_rfl) (fun _ _ _ h => h) (Or.inl ⟨by rfl, ?_⟩) (by assumption) ?_
        rotate_left
        · intro W hSw
          clear hSw
          go_simp
          try with_reducible rfl
        try simp only [Act.put, List.setIfInBounds_toArray, List.set_cons_zero, List.set_cons_succ]
        refine wpAnyH_take (i := 1) (oi := { dst := some 23, op := Op.load 35 (Operand.tmp 7), type := 35, pos := "cron_text.go:121", after := #[], guard := none }) (v := .agg us) rfl (by kernel_rfl) (by kernel_rfl) (by kernel_rfl) (fun _ _ _ h => h) ?hy1 (by assumption) ?rest1
        case hy1 =>
          refine yieldsIf_load_row (g := h) (t := 35) (fr := (0, 0)) ?q1 35 (.tmp 7) ?q2 ?q3 (fun W hW => hW.2) und35 ?q4 ?q5
          case q1 => rfl
          case q2 => rfl
          case q3 => rfl
          case q4 => rfl
          case q5 => rw [US.out.sz]; exact HI.out
        try simp only [Act.put, List.setIfInBounds_toArray, List.set_cons_zero, List.set_cons_succ]
        refine wpAnyH_take (i := 2) (oi := { dst := some 24, op := Op.move (Operand.tmp 5), type := 3, pos := "cron_text.go:121", after := #[], guard := none }) (v := ?_) rfl (by kernel_rfl) (by kernel_rfl) (by kernel_rfl) (fun _ _ _ h => h) (Or.inl ⟨by rfl, ?_⟩) (by assumption) ?_
        rotate_left
        · intro W hSw
          clear hSw
          go_simp
          try with_reducible rfl
        try simp only [Act.put, List.setIfInBounds_toArray, List.set_cons_zero, List.set_cons_succ]
        refine wpAnyH_take (i := 3) (oi := { dst := some 25, op := Op.move (Operand.tmp 8), type := 3, pos := "cron_text.go:121", after := #[], guard := none }) (v := ?_) rfl (by kernel_rfl) (by kernel_rfl) (by kernel_rfl) (fun _ _ _ h => h) (Or.inl ⟨by rfl, ?_⟩) (by assumption) ?_
        rotate_left
        · intro W hSw
          clear hSw
          go_simp
          try with_reducible rfl
        try simp only [Act.put, List.setIfInBounds_toArray, List.set_cons_zero, List.set_cons_succ]
        refine wpAnyH_take (i := 5) (oi := { dst := some 27, op := Op.indexAddr 37 (Operand.tmp 4) (Operand.tmp 22), type := 0, pos := "cron_text.go:121", after := #[{ on := 0, ground := Ground.data }, { on := 0, ground := Ground.phase }, { on := 1, ground := Ground.phase }, { on := 2, ground := Ground.textOnly Departure.lateStores }, { on := 3, ground := Ground.textOnly Departure.lateStores }, { on := 4, ground := Ground.textOnly Departure.lateStoresUnsure }], guard := none }) (v := ?_) rfl (by kernel_rfl) (by kernel_rfl) (by kernel_rfl) (fun _ _ _ h => h) (Or.inl ⟨by rfl, ?_⟩) (by assumption) ?_
        rotate_left
        · intro W hSw
          clear hSw
          go_simp
          try with_reducible rfl
        try simp only [Act.put, List.setIfInBounds_toArray, List.set_cons_zero, List.set_cons_succ]
        refine wpAnyH_ready (rs := [4]) (by kernel_rfl) (by simp) ?_
        refine (AllReadyH.cons (o := { dst := some 26, op := Op.call { callee := Callee.value (Operand.func 22), args := #[Operand.tmp 24, Operand.tmp 25], argTypes := #[3, 3] }, type := 3, pos := "cron_text.go:121", after := #[{ on := 2, ground := Ground.data }, { on := 3, ground := Ground.data }], guard := none }) rfl (fun K hK => ?_) AllReadyH.nil)
        go_simp
        (go_at_call 22; refine (tWorse c v HC.out VS.out.1 _).mono ?_; rintro e w5 ⟨c2, rfl, hc2, hc3, hb5⟩; have X5 := Lib.hid (And.intro (XC.out.1.drew.keep hb5) ((hb5.block h (Array.getElem?_eq_some_iff.1 XC.out.2).1).trans XC.out.2)); have C2 := Lib.hid (And.intro hc2 hc3); clear hc2 hc3 hb5)
        refine hK.out _ _ X5.out (fun hHeld5 => ?_)
        clear hK K
        try simp only [Act.put, List.setIfInBounds_toArray, List.set_cons_zero, List.set_cons_succ]
        refine wpAnyH_ready (rs := [6]) (by kernel_rfl) (by simp) ?_
        refine (AllReadyH.cons (o := { dst := none, op := Op.store 35 (Operand.tmp 27) (Operand.tmp 23), type := 0, pos := "cron_text.go:121", after := #[{ on := 5, ground := Ground.data }, { on := 1, ground := Ground.data }, { on := 4, ground := Ground.chain }, { on := 0, ground := Ground.phase }, { on := 1, ground := Ground.phase }, { on := 2, ground := Ground.textOnly Departure.lateStores }, { on := 3, ground := Ground.textOnly Departure.lateStores }, { on := 4, ground := Ground.textOnly Departure.lateStoresUnsure }], guard := none }) rfl (fun K hK => ?_) AllReadyH.nil)
        rw [if_pos (by rfl)]
        refine wp_store_mid 35 (.tmp 27) (.tmp 23) rfl (w.heap.size + 1) (n * 64) us rfl rfl ?_ (by rw [US.out.sz]; exact HI.out) US.out.all ?_
        · rw [US.out.sz]; exact X5.out.1.b1.there _ _ (by omega)
        refine hK.out _ _ ⟨X5.out.1.set _ US.out.allL, ?_⟩ (fun hHeldL => ?_)
        · rw [setCells_other (by have := HH.out; omega)]; exact X5.out.2
        clear hK K
        try simp only [Act.put, List.setIfInBounds_toArray, List.set_cons_zero, List.set_cons_succ]
        refine wpAnyH_take (i := 7) (oi := { dst := some 5, op := Op.assign (Operand.tmp 26), type := 3, pos := "cron_text.go:121", after := #[{ on := 4, ground := Ground.data }, { on := 6, ground := Ground.chain }, { on := 0, ground := Ground.phase }, { on := 1, ground := Ground.phase }, { on := 2, ground := Ground.phase }, { on := 3, ground := Ground.phase }, { on := 4, ground := Ground.phase }, { on := 5, ground := Ground.phase }, { on := 6, ground := Ground.phase }], guard := none }) (v := ?_) rfl (by kernel_rfl) (by kernel_rfl) (by kernel_rfl) (fun _ _ _ h => h) (Or.inl ⟨by rfl, ?_⟩) (by assumption) ?_
        rotate_left
        · intro W hSw
          clear hSw
          go_simp
          try with_reducible rfl
        try simp only [Act.put, List.setIfInBounds_toArray, List.set_cons_zero, List.set_cons_succ]
        refine wpAnyH_done (by kernel_rfl) ?_ _
        go_wp2_with fail
        go_roundw
        case measure => simp [intOf]; omega
        case rel =>
          refine ⟨n + 1, c2, by go_num, rfl, ⟨by omega⟩, ⟨C2.out.2⟩, ⟨?_⟩, ⟨X5.out.1.set _ US.out.allL⟩⟩
          rw [C2.out.1, VS.out.2, HP.out]
          constructor
          · rintro ⟨p1, p2⟩ k hk hkn
            by_cases e : k = n
            · subst e; rw [HX.out]; exact p2
            · exact p1 k hk (by omega)
          · intro p
            refine ⟨fun k hk hkn => p k hk (by omega), ?_⟩
            have := p n (by rw [H6.out]; exact cn) (by omega)
            rw [HX.out] at this; exact this
    · have ct : decide ((n : Int) < 6) = false := by simp; omega
      have hall : c = 1 ↔ ∀ k (h : k < xs.length), FF k (tx xs[k]) := by
        rw [HP.out]
        exact ⟨fun p k hk => p k hk (by have := H6.out; omega), fun p k hk _ => p k hk⟩
      have HA := Lib.hid hall
      clear hall h6
      obtain ⟨cs, hcs1, hcs2, hcs3⟩ := HFR.out.b1
      obtain ⟨zs, hzs1, hzs2, hzs3⟩ := HFR.out.b0
      have CS := Lib.hid (And.intro hcs1 (And.intro hcs2 hcs3))
      have ZS := Lib.hid (And.intro hzs1 (And.intro hzs2 hzs3))
      clear hcs1 hcs2 hcs3 hzs1 hzs2 hzs3
      by_cases c1 : c = 1
      · subst c1
        go_wp2_with (first
          | ((with_reducible refine wpList_load_row (o := ⟨some 33, _, _, _, _, _⟩) ?a1 37 (.tmp 4) ?a2 (w.heap.size + 1) ?a3 37 cs (0, 0) _ ?a4 und37 ?a5 ?a6 ?_); (case a1 => rfl); (case a2 => rfl); (case a3 => rfl); (case a5 => rfl); (case a6 => rw [CS.out.1]; exact inf37); (case a4 => exact CS.out.2.2))
          | ((with_reducible refine wpList_store_row (o := ⟨none, .store 37 (.tmp 2) (.tmp 33), _, _, _, _⟩) ?b1 37 (.tmp 2) (.tmp 33) ?b2 w.heap.size cs ?b3 ?b4 37 zs ?b5 ?b6 ?b7 ?b8 ?_); (case b1 => rfl); (case b2 => rfl); (case b3 => rfl); (case b4 => rfl); (case b5 => exact ZS.out.2.2); (case b6 => rw [CS.out.1]; exact inf37); (case b7 => rw [CS.out.1]; exact ZS.out.1); (case b8 => exact CS.out.2.1)))
        refine bodyPost_ret (v := .tuple #[.agg cs, .int .i64 1]) (results_row_tmp (p := 2) (q := 3) rfl _ _ w.heap.size 37 _ (0, 0) _ rfl rfl (setRow_heap _ _ zs _ 37 (0, 0) ZS.out.2.2) und37 rfl (by rw [CS.out.1]; exact inf37)) rfl ⟨_, _, rfl, CS.out.1, by simpa using CS.out.2.1, .inl rfl, ⟨fun _ => by have := HA.out; simpa using this, fun _ => rfl⟩, Below.setRow' HFR.out.be (Nat.le_refl _) _⟩
      · have c1t : (c != 1) = true := bne_iff_ne.mpr c1
        have HC1 := Lib.hid c1
        clear c1
        have hz := HZH.out
        have hall0 : (Array.replicate 384 (Value.bool false)).all (·.oneCell') = true := Array.all_eq_true_iff_forall_mem.2 fun u hu => by rw [(Array.mem_replicate.1 hu).2]; rfl
        have HALL := Lib.hid hall0
        clear hall0
        go_wp2_with ((with_reducible refine wpList_store_row (o := ⟨none, .store 37 (.tmp 2) (.tmp 31), _, _, _, _⟩) ?b1 37 (.tmp 2) (.tmp 31) ?b2 w.heap.size (Array.replicate 384 (.bool false)) ?b3 ?b4 37 zs ?b5 ?b6 ?b7 ?b8 ?_); (case b1 => rfl); (case b2 => rfl); (case b3 => rfl); (case b4 => rfl); (case b5 => exact ZS.out.2.2); (case b6 => rw [Array.size_replicate]; exact inf37); (case b7 => rw [Array.size_replicate]; exact ZS.out.1); (case b8 => exact HALL.out))
        refine bodyPost_ret (v := .tuple #[.agg (Array.replicate 384 (.bool false)), .int .i64 c]) (results_row_tmp (p := 2) (q := 3) rfl _ _ w.heap.size 37 _ (0, 0) _ rfl rfl (setRow_heap _ _ zs _ 37 (0, 0) ZS.out.2.2) und37 rfl (by rw [Array.size_replicate]; exact inf37)) rfl ⟨_, _, rfl, by simp, by simpa using HALL.out, HC.out, HA.out, Below.setRow' HFR.out.be (Nat.le_refl _) _⟩
end Go.Proofs.YtjmgebhjkbcpcaaGreatDoor.Txt
end
